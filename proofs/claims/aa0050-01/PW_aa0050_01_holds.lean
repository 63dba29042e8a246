import PyProof.Rows.All
import Wide.All
import OpenK.AllK
import Wide.FinOn
import Open.Tops
import Lean
import PySem.Challenge.RW_aa0050_01
set_option Elab.async false
set_option linter.unusedVariables false
set_option linter.unusedSimpArgs false
set_option bootstrap.genMatcherCode false
set_option genSizeOf false
set_option genSizeOfSpec false
set_option genInjectivity false
set_option compiler.extract_closed false
section
set_option tactic.hygienic false
open PySem PySem.W PyProof.Rows
set_option maxRecDepth 100000
set_option maxHeartbeats 8000000
namespace Mine.Internal
open_shared hs for PySem.Challenge.pw_aa0050_01 leaving 0
noncomputable def hkS8 : Params → Frag := fun P => (nat_lit 109, hs.o_106 P) :: (nat_lit 110, hs.o_107 P) :: []
noncomputable def hkS7 : Params → Frag := fun P => (nat_lit 97, hs.o_94 P) :: (nat_lit 98, hs.o_95 P) :: (nat_lit 99, hs.o_96 P) :: (nat_lit 101, hs.o_98 P) :: (nat_lit 102, hs.o_99 P) :: (nat_lit 104, hs.o_101 P) :: (nat_lit 105, hs.o_102 P) :: (nat_lit 106, hs.o_103 P) :: hkS8 P
noncomputable def hkS6 : Params → Frag := fun P => (nat_lit 85, hs.o_82 P) :: (nat_lit 87, hs.o_84 P) :: (nat_lit 88, hs.o_85 P) :: (nat_lit 90, hs.o_87 P) :: (nat_lit 91, hs.o_88 P) :: (nat_lit 92, hs.o_89 P) :: (nat_lit 94, hs.o_91 P) :: (nat_lit 95, hs.o_92 P) :: hkS7 P
noncomputable def hkS5 : Params → Frag := fun P => (nat_lit 74, hs.o_71 P) :: (nat_lit 76, hs.o_73 P) :: (nat_lit 77, hs.o_74 P) :: (nat_lit 78, hs.o_75 P) :: (nat_lit 80, hs.o_77 P) :: (nat_lit 81, hs.o_78 P) :: (nat_lit 83, hs.o_80 P) :: (nat_lit 84, hs.o_81 P) :: hkS6 P
noncomputable def hkS4 : Params → Frag := fun P => (nat_lit 63, hs.o_57 P) :: (nat_lit 64, hs.o_58 P) :: (nat_lit 65, hs.o_59 P) :: (nat_lit 66, hs.o_60 P) :: (nat_lit 67, hs.o_61 P) :: (nat_lit 68, hs.o_62 P) :: (nat_lit 71, hs.o_68 P) :: (nat_lit 73, hs.o_70 P) :: hkS5 P
noncomputable def hkS3 : Params → Frag := fun P => (nat_lit 52, hs.o_46 P) :: (nat_lit 53, hs.o_47 P) :: (nat_lit 55, hs.o_49 P) :: (nat_lit 56, hs.o_50 P) :: (nat_lit 57, hs.o_51 P) :: (nat_lit 59, hs.o_53 P) :: (nat_lit 60, hs.o_54 P) :: (nat_lit 62, hs.o_56 P) :: hkS4 P
noncomputable def hkS2 : Params → Frag := fun P => (nat_lit 41, hs.o_35 P) :: (nat_lit 42, hs.o_36 P) :: (nat_lit 43, hs.o_37 P) :: (nat_lit 45, hs.o_39 P) :: (nat_lit 46, hs.o_40 P) :: (nat_lit 48, hs.o_42 P) :: (nat_lit 49, hs.o_43 P) :: (nat_lit 50, hs.o_44 P) :: hkS3 P
noncomputable def hkS1 : Params → Frag := fun P => (nat_lit 29, hs.o_23 P) :: (nat_lit 31, hs.o_25 P) :: (nat_lit 32, hs.o_26 P) :: (nat_lit 34, hs.o_28 P) :: (nat_lit 35, hs.o_29 P) :: (nat_lit 36, hs.o_30 P) :: (nat_lit 38, hs.o_32 P) :: (nat_lit 39, hs.o_33 P) :: hkS2 P
noncomputable def hkS : Params → Frag := fun P => (nat_lit 2, boot_o_2 P) :: (nat_lit 3, hs.o_66 P) :: (nat_lit 6, boot_o_6 P) :: (nat_lit 22, hs.o_16 P) :: (nat_lit 24, hs.o_18 P) :: (nat_lit 25, hs.o_19 P) :: (nat_lit 27, hs.o_21 P) :: (nat_lit 28, hs.o_22 P) :: hkS1 P
noncomputable def hkF : Params → Frag := fun P => (nat_lit 2, boot_o_2 P) :: (nat_lit 3, hs.o_66 P) :: (nat_lit 6, boot_o_6 P) :: (nat_lit 22, hs.o_16 P) :: (nat_lit 24, hs.o_18 P) :: (nat_lit 25, hs.o_19 P) :: (nat_lit 27, hs.o_21 P) :: (nat_lit 28, hs.o_22 P) :: (nat_lit 29, hs.o_23 P) :: (nat_lit 31, hs.o_25 P) :: (nat_lit 32, hs.o_26 P) :: (nat_lit 34, hs.o_28 P) :: (nat_lit 35, hs.o_29 P) :: (nat_lit 36, hs.o_30 P) :: (nat_lit 38, hs.o_32 P) :: (nat_lit 39, hs.o_33 P) :: (nat_lit 41, hs.o_35 P) :: (nat_lit 42, hs.o_36 P) :: (nat_lit 43, hs.o_37 P) :: (nat_lit 45, hs.o_39 P) :: (nat_lit 46, hs.o_40 P) :: (nat_lit 48, hs.o_42 P) :: (nat_lit 49, hs.o_43 P) :: (nat_lit 50, hs.o_44 P) :: (nat_lit 52, hs.o_46 P) :: (nat_lit 53, hs.o_47 P) :: (nat_lit 55, hs.o_49 P) :: (nat_lit 56, hs.o_50 P) :: (nat_lit 57, hs.o_51 P) :: (nat_lit 59, hs.o_53 P) :: (nat_lit 60, hs.o_54 P) :: (nat_lit 62, hs.o_56 P) :: (nat_lit 63, hs.o_57 P) :: (nat_lit 64, hs.o_58 P) :: (nat_lit 65, hs.o_59 P) :: (nat_lit 66, hs.o_60 P) :: (nat_lit 67, hs.o_61 P) :: (nat_lit 68, hs.o_62 P) :: (nat_lit 71, hs.o_68 P) :: (nat_lit 73, hs.o_70 P) :: (nat_lit 74, hs.o_71 P) :: (nat_lit 76, hs.o_73 P) :: (nat_lit 77, hs.o_74 P) :: (nat_lit 78, hs.o_75 P) :: (nat_lit 80, hs.o_77 P) :: (nat_lit 81, hs.o_78 P) :: (nat_lit 83, hs.o_80 P) :: (nat_lit 84, hs.o_81 P) :: (nat_lit 85, hs.o_82 P) :: (nat_lit 87, hs.o_84 P) :: (nat_lit 88, hs.o_85 P) :: (nat_lit 90, hs.o_87 P) :: (nat_lit 91, hs.o_88 P) :: (nat_lit 92, hs.o_89 P) :: (nat_lit 94, hs.o_91 P) :: (nat_lit 95, hs.o_92 P) :: (nat_lit 97, hs.o_94 P) :: (nat_lit 98, hs.o_95 P) :: (nat_lit 99, hs.o_96 P) :: (nat_lit 101, hs.o_98 P) :: (nat_lit 102, hs.o_99 P) :: (nat_lit 104, hs.o_101 P) :: (nat_lit 105, hs.o_102 P) :: (nat_lit 106, hs.o_103 P) :: (nat_lit 109, hs.o_106 P) :: (nat_lit 110, hs.o_107 P) :: []
noncomputable def hkA : List Addr := nat_lit 2 :: nat_lit 3 :: nat_lit 6 :: nat_lit 22 :: nat_lit 24 :: nat_lit 25 :: nat_lit 27 :: nat_lit 28 :: nat_lit 29 :: nat_lit 31 :: nat_lit 32 :: nat_lit 34 :: nat_lit 35 :: nat_lit 36 :: nat_lit 38 :: nat_lit 39 :: nat_lit 41 :: nat_lit 42 :: nat_lit 43 :: nat_lit 45 :: nat_lit 46 :: nat_lit 48 :: nat_lit 49 :: nat_lit 50 :: nat_lit 52 :: nat_lit 53 :: nat_lit 55 :: nat_lit 56 :: nat_lit 57 :: nat_lit 59 :: nat_lit 60 :: nat_lit 62 :: nat_lit 63 :: nat_lit 64 :: nat_lit 65 :: nat_lit 66 :: nat_lit 67 :: nat_lit 68 :: nat_lit 71 :: nat_lit 73 :: nat_lit 74 :: nat_lit 76 :: nat_lit 77 :: nat_lit 78 :: nat_lit 80 :: nat_lit 81 :: nat_lit 83 :: nat_lit 84 :: nat_lit 85 :: nat_lit 87 :: nat_lit 88 :: nat_lit 90 :: nat_lit 91 :: nat_lit 92 :: nat_lit 94 :: nat_lit 95 :: nat_lit 97 :: nat_lit 98 :: nat_lit 99 :: nat_lit 101 :: nat_lit 102 :: nat_lit 104 :: nat_lit 105 :: nat_lit 106 :: nat_lit 109 :: nat_lit 110 :: []
local macro_rules | `(tactic| k_head) => `(tactic| o_head (kmHook hkS hkA (fun x => by kernel_rfl) [79]))
open_top hd1 for PySem.Challenge.rw_aa0050_01
end Mine.Internal
end
section
set_option tactic.hygienic false
namespace Mine.Internal
theorem qfl {a b : Nat} (h : b < a → False) : a ≤ b := Nat.le_of_not_lt h
theorem qft {a b : Nat} (h : b ≤ a → False) : a < b := Nat.lt_of_not_le h
theorem qfa1 {a b : Nat} (h1 : a ≤ b) (n : (a ≤ b) = False) : False := n.mp h1
theorem qfa2 {a b c d : Nat} (h1 : a ≤ b) (h2 : c ≤ d) (n : (a + c ≤ b + d) = False) : False := n.mp (Nat.add_le_add h1 h2)
theorem qfa3 {a b c d e f : Nat} (h1 : a ≤ b) (h2 : c ≤ d) (h3 : e ≤ f) (n : (a + c + e ≤ b + d + f) = False) : False := n.mp (Nat.add_le_add (Nat.add_le_add h1 h2) h3)
theorem qfa4 {a b c d e f g i : Nat} (h1 : a ≤ b) (h2 : c ≤ d) (h3 : e ≤ f) (h4 : g ≤ i) (n : (a + c + e + g ≤ b + d + f + i) = False) : False := n.mp (Nat.add_le_add (Nat.add_le_add (Nat.add_le_add h1 h2) h3) h4)
theorem qfa5 {a b c d e f g i j k : Nat} (h1 : a ≤ b) (h2 : c ≤ d) (h3 : e ≤ f) (h4 : g ≤ i) (h5 : j ≤ k) (n : (a + c + e + g + j ≤ b + d + f + i + k) = False) : False := n.mp (Nat.add_le_add (Nat.add_le_add (Nat.add_le_add (Nat.add_le_add h1 h2) h3) h4) h5)
theorem qfg {a b : Nat} (h : a = b) : b ≤ a := Nat.le_of_eq h.symm
theorem qfs1 (a b : Nat) : a ≤ a - b + b := by omega
theorem qfs2 (a b : Nat) (h : b ≤ a) : a - b + b ≤ a := Nat.le_of_eq (Nat.sub_add_cancel h)
theorem qfd1 (a : Nat) : a / 2 + a / 2 ≤ a := by omega
end Mine.Internal
end
section
set_option tactic.hygienic false
namespace Mine.Internal
theorem oMid1 {l r : Nat} (h : l ≤ r) : l ≤ (l + r) / 2 := (Nat.le_div_iff_mul_le Nat.two_pos).mpr (Nat.mul_two l ▸ Nat.add_le_add_left h l)
theorem oMid2 {l r : Nat} (h : l < r) : (l + r) / 2 < r := (Nat.div_lt_iff_lt_mul Nat.two_pos).mpr (Nat.mul_two r ▸ Nat.add_lt_add_right h r)
theorem oMid3 {l r : Nat} (h : l < r) : l + (r - l) / 2 < r :=
  Nat.lt_of_lt_of_eq (Nat.add_lt_add_left (Nat.div_lt_self (Nat.sub_pos_of_lt h) Nat.one_lt_two) l) (Nat.add_sub_cancel' (Nat.le_of_lt h))
/- the room shrinks: hi - lo ≤ fuel + 1 -/
theorem oFuel {a b f : Nat} (h : a ≤ f + 1) (g : b < a) : b ≤ f := Nat.le_of_lt_succ (Nat.lt_of_lt_of_le g h)
theorem oLo {l m r : Nat} (h : l ≤ m) (g : l < r) : r - (m + 1) < r - l := Nat.sub_lt_sub_left g (Nat.lt_succ_of_le h)
theorem oHi {l m r : Nat} (h : l ≤ m) (g : m < r) : m - l < r - l := Nat.sub_lt_sub_right h g
theorem oStep {a b k x : Nat} (h : b ≤ k - x) (g : a < b) : a ≤ k - (x + 1) := by rw [Nat.sub_add_eq]; exact Nat.le_sub_one_of_lt (Nat.lt_of_lt_of_le g h)
theorem oEq0 {l r k : Nat} (hl : l ≤ r) (h : r - l ≤ k - max 0 k) : l = r := by
  rw [Nat.max_eq_right (Nat.zero_le k), Nat.sub_self] at h
  exact Nat.le_antisymm hl (Nat.le_of_sub_eq_zero (Nat.le_zero.mp h))
theorem oBack {n k : Nat} (h : k ≤ n) : 0 + k + (n - k) - 1 = n - 1 := by rw [Nat.zero_add, Nat.add_sub_cancel' h]
theorem oExt {a n k : Nat} (h : k + n ≤ a) : min (k + n) a - k = n := by rw [Nat.min_eq_left h, Nat.add_sub_cancel_left]
theorem oExt2 {a m k : Nat} (h : m ≤ a) : min m a - k = m - k := by rw [Nat.min_eq_left h]
theorem oGap {i j : Nat} (h : i < j) : i + (j - i - 1) + 1 = j := by rw [Nat.add_assoc, Nat.sub_add_cancel (Nat.sub_pos_of_lt h), Nat.add_sub_cancel' (Nat.le_of_lt h)]
theorem oGapL {hi i j : Nat} (h : i < j) (g : j < hi) : i + (j - i - 1) + 1 < hi := by rw [oGap h]; exact g
theorem oRev {s i : Nat} (h : i + 1 < s) : s - 1 - (i + 1) + 1 = s - 1 - i := by
  rw [Nat.sub_add_eq (s - 1) i 1]
  exact Nat.sub_add_cancel (Nat.sub_pos_of_lt (Nat.lt_sub_of_add_lt h))
theorem oMinL {k n a : Nat} (h : k < min n a) : k < n := Nat.lt_of_lt_of_le h (Nat.min_le_left _ _)
theorem oAdd {z m i : Nat} (h : z < m - i) : i + z < m := Nat.add_comm i z ▸ Nat.add_lt_of_lt_sub h
theorem oAddL {z j a i : Nat} (h : z < min j a - i) : i + z < a := Nat.lt_of_lt_of_le (oAdd h) (Nat.min_le_right _ _)
theorem oAddJ {z j a i : Nat} (h : z < min j a - i) : i + z < j := Nat.lt_of_lt_of_le (oAdd h) (Nat.min_le_left _ _)
theorem oIffLt {a b c : Nat} : (a < b ↔ c + a < c + b) := (Nat.add_lt_add_iff_left).symm
theorem oDec {a b : Nat} (h : a ≠ b) : (¬ b < a ↔ a < b) := ⟨fun g => Nat.lt_of_le_of_ne (Nat.le_of_not_lt g) h, fun g => Nat.lt_asymm g⟩
theorem oLastE {n k : Nat} (h : k ≤ n) (g : ¬ n - k > 0) : k = n := Nat.le_antisymm h (Nat.le_of_sub_eq_zero (Nat.eq_zero_of_not_pos g))
theorem oIns {x e : Nat} (h : x ≤ e) : min x e + (e - x + 1) = e + 1 := by rw [Nat.min_eq_left h, ← Nat.add_assoc, Nat.add_sub_cancel' h]
theorem oDigLt {a b c d p : Nat} (h : a + 1 ≤ b) (g : c < p) : a * p + c < b * p + d :=
  Nat.lt_of_lt_of_le (Nat.add_lt_add_left g _) (Nat.le_trans (Nat.le_of_eq (Nat.succ_mul a p).symm) (Nat.le_trans (Nat.mul_le_mul_right p h) (Nat.le_add_right _ _)))
theorem oRevL {lo n i : Nat} (a : lo ≤ i) (b : i + 1 < lo + n) : lo + (lo + n) - 1 - (i + 1) + 1 < lo + n := by
  rw [oRev (Nat.lt_of_lt_of_le b (Nat.le_add_left _ _))]
  refine Nat.lt_of_le_of_lt (Nat.sub_le_sub_left a _) ?_
  rw [Nat.sub_right_comm, Nat.add_sub_cancel_left]
  exact Nat.sub_lt (Nat.lt_of_le_of_lt (Nat.zero_le _) b) Nat.one_pos
theorem oMinLt {o n h i : Nat} (hh : h < n) (b1 : h + min o (n - h) ≤ i) (b2 : i < n) : o < n - h := Nat.lt_of_not_le fun g => by
  rw [Nat.min_eq_right g, Nat.add_sub_cancel' (Nat.le_of_lt hh)] at b1
  exact Nat.not_lt.mpr b1 b2
theorem oMinB {l o h : Nat} (a1 : l < o) (a2 : l < h + 1) : h + 1 - min o (h + 1) ≤ h - l :=
  Nat.le_trans (Nat.sub_le_sub_left (Nat.le_min.mpr ⟨a1, a2⟩ : l + 1 ≤ min o (h + 1)) (h + 1)) (Nat.le_of_eq (Nat.add_sub_add_right h 1 l))
theorem oMinC {o h i : Nat} (hi : i < h + 1 - min o (h + 1)) : o < h + 1 := Nat.lt_of_not_le fun g => by
  rw [Nat.min_eq_right g, Nat.sub_self] at hi
  exact Nat.not_lt_zero _ hi
theorem oMinA {l o h n : Nat} (a1 : l < o) (a2 : l < n - h) : h + l + 1 ≤ h + min o (n - h) := Nat.add_le_add_left (Nat.le_min.mpr ⟨a1, a2⟩ : l + 1 ≤ min o (n - h)) h
theorem oMinD {o h n : Nat} (hh : h < n) : h + min o (n - h) ≤ n := Nat.le_trans (Nat.add_le_add_left (Nat.min_le_right _ _) h) (Nat.le_of_eq (Nat.add_sub_cancel' (Nat.le_of_lt hh)))
/- two runs put together -/
theorem oZm {n1 l k s : Nat} (hk : k < n1) (h : n1 + l ≤ s) : min n1 s - k + (min (n1 + l) s - n1) = n1 - k + l := by
  rw [Nat.min_eq_left (Nat.le_trans (Nat.le_add_right _ _) h), Nat.min_eq_left h, Nat.add_sub_cancel_left]
theorem oAddMin {lo d r : Nat} (h : lo ≤ d) : lo + min (d - lo) r ≤ d := Nat.le_trans (Nat.add_le_add_left (Nat.min_le_left _ _) lo) (Nat.le_of_eq (Nat.add_sub_cancel' h))
theorem oAddAll {lo d r : Nat} (h : lo ≤ d) (g : r ≤ lo) (k : d ≤ 2 * r) : lo + min (d - lo) r = d := by
  rw [Nat.min_eq_left (Nat.sub_le_iff_le_add.mpr (Nat.le_trans k (Nat.le_trans (Nat.le_of_eq (Nat.two_mul r)) (Nat.add_le_add_left g r)))), Nat.add_sub_cancel' h]
theorem oDig2 {a b c d p : Nat} (h : a ≠ b) (g1 : c < p) (g2 : d < p) : (a < b ↔ a * p + c < b * p + d) ∧ a * p + c ≠ b * p + d := by
  rcases Nat.lt_or_gt_of_ne h with c1 | c1
  · exact ⟨⟨fun x => oDigLt c1 g1, fun x => c1⟩, Nat.ne_of_lt (oDigLt c1 g1)⟩
  · exact ⟨⟨fun a => absurd a (Nat.lt_asymm c1), fun a => absurd a (Nat.lt_asymm (oDigLt c1 g2))⟩, Nat.ne_of_gt (oDigLt c1 g2)⟩
theorem oTwo {f : Int} (h : f = 0 ∨ f = 1) : f.toNat < 2 := by rcases h with rfl | rfl <;> decide
theorem oTwoLt {f g : Int} (h : f = 0 ∨ f = 1) (k : g = 0 ∨ g = 1) : (f < g ↔ f.toNat < g.toNat) ∧ (f.toNat = g.toNat → f = g) := by rcases h with rfl | rfl <;> rcases k with rfl | rfl <;> decide
theorem oTri : ∀ n, n < 3 → n = 0 ∨ n = 1 ∨ n = 2 := by decide
theorem oBit {z : Int} (h : 0 ≤ z) (k : z < 2) : z = 0 ∨ z = 1 := by
  rcases Int.lt_or_eq_of_le (Int.le_of_lt_add_one (show z < 1 + 1 from k)) with c | c
  · exact .inl (Int.le_antisymm (Int.le_of_lt_add_one (show z < 0 + 1 from c)) h)
  · exact .inr c
theorem oInit (n : Nat) : (max (-1 + (n : Int)) 0 - 0).toNat = n - 1 := by
  cases n with
  | zero => rfl
  | succ k =>
    have e : (-1 : Int) + ((k + 1 : Nat) : Int) = (k : Int) := by rw [Int.natCast_succ, Int.add_comm]; exact Int.add_neg_cancel_right _ _
    rw [e, Int.max_eq_left (Int.natCast_nonneg k), Int.sub_zero]
    rfl
theorem oPred (n : Nat) : (-1 : Int) + (n : Int) < (n : Int) := by
  have := Int.sub_lt_self (n : Int) (show (0 : Int) < 1 by decide)
  rw [Int.sub_eq_add_neg, Int.add_comm] at this
  exact this
end Mine.Internal
end
section
set_option tactic.hygienic false
open PySem PySem.W PySem.Calls PyProof.Rows
set_option maxRecDepth 100000
namespace Mine.Internal
 def tOne (t : Lean.Syntax) : Lean.Syntax := .node .none `Lean.Parser.Tactic.tacticSeq #[.node .none `Lean.Parser.Tactic.tacticSeq1Indented #[.node .none `null #[t]]]
 def tRfl : Lean.Syntax := tOne (.node .none `Lean.Parser.Tactic.tacticRfl #[.atom .none "rfl"])
 def tDec : Lean.Syntax := tOne (.node .none `Lean.Parser.Tactic.decide #[.atom .none "decide", .node .none `Lean.Parser.Tactic.optConfig #[.node .none `null #[]]])
 def tWur : Lean.Syntax := tOne (.node .none `Lean.Parser.Tactic.withUnfoldingAll #[.atom .none "with_unfolding_all", tRfl])
 def tSz : Lean.Syntax := tOne (.node .none `tacticSize_fits #[.atom .none "size_fits"])

noncomputable abbrev Lg := List (Addr × Obj)

@[irreducible] noncomputable def W {α : Type} (M : Model) (A : Around) (t : Sem α) (Q : α → Shared → Prop) (E : Value → Shared → Prop) (s : Shared) : Prop := wpAny M A t Q E s
theorem hold {p : Prop} (h : p) : p := h
theorem ite_t {b : Bool} {P Q : Prop} (h : b = true) (p : P) : if b = true then P else Q := by rw [if_pos h]; exact p
theorem ite_f {b : Bool} {P Q : Prop} (h : b = false) (q : Q) : if b = true then P else Q := by rw [h, if_neg Bool.false_ne_true]; exact q
theorem W.eq : @W = @wpAny := by
  funext α M A t Q E s
  unfold W; rfl
theorem W.mk {α : Type} {M : Model} {A : Around} {t : Sem α} {Q : α → Shared → Prop} {E : Value → Shared → Prop} {s : Shared} (h : wpAny M A t Q E s) : W M A t Q E s := by rw [W.eq]; exact h
theorem W.out {α : Type} {M : Model} {A : Around} {t : Sem α} {Q : α → Shared → Prop} {E : Value → Shared → Prop} {s : Shared} (h : W M A t Q E s) : wpAny M A t Q E s := by rw [W.eq] at h; exact h
theorem W.gen {α : Type} {M : Model} {A : Around} {t : Sem α} {Q : α → Shared → Prop} {E : Value → Shared → Prop} {s : Shared} (h : ∀ QB : α → Shared → Prop, (∀ a s, Q a s → QB a s) → W M A t QB E s) : W M A t Q E s := h Q fun x x q => q
theorem W.mono {α : Type} {M : Model} {A : Around} {t : Sem α} {Q Q' : α → Shared → Prop} {E : Value → Shared → Prop} {s : Shared} (h : W M A t Q E s) (hQ : ∀ a s, Q a s → Q' a s) : W M A t Q' E s := .mk (wpAny_mono h.out hQ fun x x e => e)

noncomputable def locOf : List Str → List (Option Value) → Str → Option Value
  | [], _, _ => none
  | _ :: _, [], _ => none
  | n :: ns, v :: vs, y => if y = n then v else locOf ns vs y

theorem locOf_cons (n : Str) (ns : List Str) (v : Option Value) (vs : List (Option Value)) (y : Str) : locOf (n :: ns) (v :: vs) y = if y = n then v else locOf ns vs y := rfl
theorem locOf_not : ∀ {ns : List Str} {vs : List (Option Value)} {x : Str}, x ∉ ns → locOf ns vs x = none := by
  intro ns
  induction ns with
  | nil => exact fun y => rfl
  | cons n ns ih =>
    intro vs x h
    cases vs with
    | nil => rfl
    | cons v vs => exact (if_neg fun (e : x = n) => h (e ▸ .head _)).trans (ih fun q => h (.tail _ q))

theorem locOf_get : ∀ {ns : List Str} {vs : List (Option Value)} {i : Nat} {x : Str} {v : Option Value}, ns.Nodup → ns[i]? = some x → vs[i]? = some v → locOf ns vs x = v := by
  intro ns
  induction ns with
  | nil => intro vs i x v _ h _; cases h
  | cons n ns ih =>
    intro vs i x v hd h h'
    cases vs with
    | nil => cases h'
    | cons u vs =>
      cases i with
      | zero => cases h; cases h'; exact if_pos rfl
      | succ i =>
        have hx : x ∈ ns := List.mem_of_getElem? h
        exact (if_neg fun (e : x = n) => (List.nodup_cons.mp hd).1 (e ▸ hx)).trans (ih (List.nodup_cons.mp hd).2 h h')

theorem locOf_set : ∀ {ns : List Str} {vs : List (Option Value)} {i : Nat} {x : Str} {v : Option Value}, ns.Nodup → ns[i]? = some x → i < vs.length →
    (fun y => if y = x then v else locOf ns vs y) = locOf ns (vs.set i v) := by
  intro ns
  induction ns with
  | nil => intro vs i x v _ h _; cases h
  | cons n ns ih =>
    intro vs i x v hd h hl
    cases vs with
    | nil => cases hl
    | cons u vs =>
      funext y
      cases i with
      | zero =>
        cases h
        show (if y = n then v else if y = n then u else locOf ns vs y) = if y = n then v else locOf ns vs y
        by_cases e : y = n
        · rw [if_pos e, if_pos e]
        · rw [if_neg e, if_neg e, if_neg e]
      | succ i =>
        have hx : x ∈ ns := List.mem_of_getElem? h
        have ih := congrFun (ih (v := v) (List.nodup_cons.mp hd).2 h (Nat.lt_of_succ_lt_succ hl)) y
        show (if y = x then v else if y = n then u else locOf ns vs y) = if y = n then u else locOf ns (vs.set i v) y
        rw [← ih]
        by_cases e : y = x
        · subst e
          rw [if_pos rfl, if_pos rfl, if_neg fun (e : y = n) => (List.nodup_cons.mp hd).1 (e ▸ hx)]
        · rw [if_neg e, if_neg e]

theorem locOf_binds : ∀ {binds : List (Str × Value)} {rest : List Str}, (binds.map (·.1) ++ rest).Nodup →
    (fun y => binds.reverse.lookup y) = locOf (binds.map (·.1) ++ rest) (binds.map (fun b => some b.2) ++ rest.map fun x => none) := by
  intro binds rest hd
  funext y
  induction binds with
  | nil =>
    simp only [List.reverse_nil, List.map_nil, List.nil_append]
    show none = _
    clear hd
    induction rest with
    | nil => rfl
    | cons r rest ih =>
      show none = if y = r then none else _
      by_cases e : y = r
      · rw [if_pos e]
      · rw [if_neg e]; exact ih
  | cons b binds ih =>
    obtain ⟨n, v⟩ := b
    simp only [List.map_cons, List.cons_append, List.nodup_cons] at hd
    have ih := ih hd.2
    simp only [List.reverse_cons, List.map_cons, List.cons_append, locOf_cons]
    by_cases e : y = n
    · subst e
      rw [if_pos rfl]
      have hnone : binds.reverse.lookup y = none := by
        rw [ih]
        exact locOf_not hd.1
      rw [List.lookup_append, hnone]
      simp [List.lookup]
    · rw [if_neg e, ← ih, List.lookup_append]
      cases binds.reverse.lookup y with
      | some _ => rfl
      | none =>
        have e' : (y == n) = false := beq_eq_false_iff_ne.mpr e
        simp [List.lookup, e']

structure Fn (env : Env) (ns : List Str) : Prop where
  kind : env.scope.kind = .function
  nodup : ns.Nodup
  loc : ∀ x ∈ ns, env.kindOf x = some .local
  frame : env.frame = some env.locals
  dbg : ∀ x ∈ ns, (x == ("__debug__" : Str)) = false
  glob : env.globals = mainGlobals
  bis : env.builtins = builtinsNs

structure S (env : Env) (ns : List Str) (h₀ : Heap) (vs : List (Option Value)) (l : Lg) (s₀ s : Shared) : Prop where
  same : s = { s₀ with heap := s.heap, toks := s.toks, drawn := s.drawn }
  fr : Fr h₀ env.locals s.heap (locOf ns vs)
  nw : News h₀ env.locals s.heap l
  nd : (l.map (·.1)).Nodup

section
variable {prog : Program} {w : World} {A : Around} {E : Value → Shared → Prop} {env : Env} {ns : List Str} {h₀ : Heap} {vs : List (Option Value)} {l : Lg} {s₀ s : Shared}

theorem S.tok (st : S env ns h₀ vs l s₀ s) (t : Nat) : S env ns h₀ vs l s₀ { s with toks := t } :=
  ⟨by have e := st.same; obtain ⟨_, _, _, _, _⟩ := s; simp only [Shared.mk.injEq] at e ⊢; exact ⟨trivial, e.2.1, trivial, trivial, e.2.2.2.2⟩, st.fr, st.nw, st.nd⟩
theorem S.draw (st : S env ns h₀ vs l s₀ s) (d : Drawn) : S env ns h₀ vs l s₀ { s with drawn := d } :=
  ⟨by have e := st.same; obtain ⟨_, _, _, _, _⟩ := s; simp only [Shared.mk.injEq] at e ⊢; exact ⟨trivial, e.2.1, trivial, trivial, e.2.2.2.2⟩, st.fr, st.nw, st.nd⟩
theorem S.to {vs' : List (Option Value)} {l' : Lg} {h : Heap} {t : Nat} (st : S env ns h₀ vs l s₀ s) (F : Fr h₀ env.locals h (locOf ns vs')) (N : News h₀ env.locals h l') (D : (l'.map (·.1)).Nodup) : S env ns h₀ vs' l' s₀ { s with heap := h, toks := t } :=
  ⟨by have e := st.same; obtain ⟨_, _, _, _, _⟩ := s; simp only [Shared.mk.injEq] at e ⊢; exact ⟨trivial, e.2.1, trivial, trivial, e.2.2.2.2⟩, F, N, D⟩
theorem S.toH {vs' : List (Option Value)} {l' : Lg} {h : Heap} (st : S env ns h₀ vs l s₀ s) (F : Fr h₀ env.locals h (locOf ns vs')) (N : News h₀ env.locals h l') (D : (l'.map (·.1)).Nodup) : S env ns h₀ vs' l' s₀ { s with heap := h } :=
  ⟨by have e := st.same; obtain ⟨_, _, _, _, _⟩ := s; simp only [Shared.mk.injEq] at e ⊢; exact ⟨trivial, e.2.1, trivial, trivial, e.2.2.2.2⟩, F, N, D⟩
theorem S.perm {l' : Lg} (st : S env ns h₀ vs l s₀ s) (p : List.Perm l l') : S env ns h₀ vs l' s₀ s :=
  ⟨st.same, st.fr, fun q hq => st.nw q (p.mem_iff.mpr hq), (p.map _).nodup_iff.mp st.nd⟩
theorem S.sub {l' : Lg} (st : S env ns h₀ vs l s₀ s) (p : List.Sublist l' l) : S env ns h₀ vs l' s₀ s :=
  ⟨st.same, st.fr, fun q hq => st.nw q (p.mem hq), st.nd.sublist (p.map _)⟩
theorem S.drop {a : Addr × Obj} (st : S env ns h₀ vs (a :: l) s₀ s) : S env ns h₀ vs l s₀ s := st.sub (List.sublist_cons_self _ _)
theorem S.dropL {a : Lg} (st : S env ns h₀ vs (a ++ l) s₀ s) : S env ns h₀ vs l s₀ s := st.sub (List.sublist_append_right _ _)
theorem S.mid {a : Addr × Obj} {x : Lg} (st : S env ns h₀ vs (a :: (x ++ l)) s₀ s) : S env ns h₀ vs (x ++ a :: l) s₀ s := st.perm List.perm_middle.symm
theorem S.at {a : Addr} {o : Obj} (st : S env ns h₀ vs l s₀ s) (h : (a, o) ∈ l) : s.heap.get? a = some o := (st.nw _ h).1
theorem S.fun {a : Addr} {o o' : Obj} (st : S env ns h₀ vs l s₀ s) (h : (a, o) ∈ l) (h' : (a, o') ∈ l) : o = o' := Option.some.inj ((st.at h).symm.trans (st.at h'))
theorem S.push (st : S env ns h₀ vs l s₀ s) (o : Obj) (hf : o.isFreed = false) : S env ns h₀ vs ((s.heap.objs.size, o) :: l) s₀ { s with heap := s.heap.push o } :=
  st.toH (st.fr.push o) (st.nw.push st.fr o hf) (List.nodup_cons.mpr ⟨fun q => by
    obtain ⟨p, hp, e⟩ := List.mem_map.mp q
    exact absurd (Heap.lt_size (st.nw p hp).1) (by rw [e]; exact Nat.lt_irrefl _), st.nd⟩)

inductive UpdL (d : Addr) (o o' : Obj) : Lg → Lg → Prop
  | head {l : Lg} : UpdL d o o' ((d, o) :: l) ((d, o') :: l)
  | tail {p : Addr × Obj} {l l' : Lg} : UpdL d o o' l l' → UpdL d o o' (p :: l) (p :: l')
  | app {a l l' : Lg} : UpdL d o o' l l' → UpdL d o o' (a ++ l) (a ++ l')
  | left {a a' l : Lg} : UpdL d o o' a a' → UpdL d o o' (a ++ l) (a' ++ l)
theorem UpdL.split {d : Addr} {o o' : Obj} {l l' : Lg} (h : UpdL d o o' l l') : ∃ x y, l = x ++ (d, o) :: y ∧ l' = x ++ (d, o') :: y := by
  induction h with
  | head => exact ⟨[], _, rfl, rfl⟩
  | @tail p l l' _ ih => obtain ⟨x, y, rfl, rfl⟩ := ih; exact ⟨p :: x, y, rfl, rfl⟩
  | @app a l l' _ ih => obtain ⟨x, y, rfl, rfl⟩ := ih; exact ⟨a ++ x, y, by simp, by simp⟩
  | @left a a' l _ ih => obtain ⟨x, y, rfl, rfl⟩ := ih; exact ⟨x, y ++ l, by simp, by simp⟩
theorem UpdL.mem {d : Addr} {o o' : Obj} {l l' : Lg} (h : UpdL d o o' l l') : (d, o) ∈ l := by
  obtain ⟨x, y, rfl, _⟩ := h.split; simp
theorem S.upd {d : Addr} {o o' : Obj} {l' : Lg} {h : Heap} {t : Nat} (st : S env ns h₀ vs l s₀ s) (u : UpdL d o o' l l') (hs : Heap.SameBut d s.heap h) (ho : h.get? d = some o') : S env ns h₀ vs l' s₀ { s with heap := h, toks := t } := by
  obtain ⟨x, y, rfl, rfl⟩ := u.split
  have D := st.nw (d, o) (by simp)
  have hnd := st.nd
  have hne : ∀ p, p ∈ x ++ y → p.1 ≠ d := fun p hp e => by
    have e1 : ((x ++ (d, o) :: y).map (·.1)).Perm ((((d, o) :: (x ++ y))).map (·.1)) := (List.perm_middle).map _
    have := (e1.nodup_iff.mp hnd)
    rw [List.map_cons, List.nodup_cons] at this
    exact this.1 (List.mem_map.mpr ⟨p, hp, e⟩)
  refine st.to (st.fr.change hs D.2.1 D.2.2) (fun p hp => ?_) (by simpa using hnd)
  rcases List.mem_append.mp hp with q | q
  · have P := st.nw p (List.mem_append_left _ q)
    exact ⟨(hs.2 _ (hne p (List.mem_append_left _ q))).trans P.1, P.2⟩
  · rcases List.mem_cons.mp q with rfl | q
    · exact ⟨ho, D.2⟩
    · have P := st.nw p (List.mem_append_right _ (.tail _ q))
      exact ⟨(hs.2 _ (hne p (List.mem_append_right _ q))).trans P.1, P.2⟩

theorem g_name {x : Str} {pos : Pos} {v : Value} {Q : Value → Shared → Prop} (i : Nat) (fn : Fn env ns) (st : S env ns h₀ vs l s₀ s) (hn : ns[i]? = some x) (hv : vs[i]? = some (some v)) (h : Q v s) :
    wpAny (model prog w) A (eval (.Name x pos) env) Q E s :=
  wpAny_Name (wpAny_loadName_local fn.kind (fn.loc x (List.mem_of_getElem? hn)) st.fr.ns (locOf_get fn.nodup hn hv) h) (fn.dbg x (List.mem_of_getElem? hn))

theorem g_store {x : Str} {v : Value} {Q : Unit → Shared → Prop} (i : Nat) (fn : Fn env ns) (st : S env ns h₀ vs l s₀ s) (hn : ns[i]? = some x) (hi : i < vs.length)
    (h : ∀ s', S env ns h₀ (vs.set i (some v)) l s₀ s' → Q () s') : wpAny (model prog w) A (storeName env x v) Q E s :=
  wpAny_storeName_local (fn.loc x (List.mem_of_getElem? hn)) st.fr.ns (fun h' hn' hs => h _ (st.to (locOf_set fn.nodup hn hi ▸ st.fr.set hn' hs) (st.nw.set hs) st.nd))
    (by rw [fn.kind]; rfl)

theorem g_assign {x : Str} {pos' pos : Pos} {value : Expr} {Q : Flow → Shared → Prop} (i : Nat) (fn : Fn env ns) (hn : ns[i]? = some x)
    (h : wpAny (model prog w) A (eval value env) (fun v s₁ => ∃ vs l, S env ns h₀ vs l s₀ s₁ ∧ i < vs.length ∧ ∀ s', S env ns h₀ (vs.set i (some v)) l s₀ s' → Q .next s') E s)
    (hs : autoParam (swapsWith value (some (.Name x pos')) pos.line env = pure false) tRfl) : wpAny (model prog w) A (exec (.Assign [.Name x pos'] value pos) env) Q E s :=
  wpAny_Assign_Name (wpAny_mono h (fun v s₁ z => by obtain ⟨vs, l, st, hi, k⟩ := z; exact g_store i fn st hn hi k) fun x x e => e) hs

theorem g_int {i : Int} {k pos} {Q : Value → Shared → Prop} (st : S env ns h₀ vs l s₀ s) (h : ∀ t s', S env ns h₀ vs l s₀ s' → Q (.int i t) s') : wpAny (model prog w) A (eval (.Constant (.int i) k pos) env) Q E s :=
  wpAny_Constant_int (h _ _ (st.tok _))
theorem g_str {x : Str} {k pos} {Q : Value → Shared → Prop} (st : S env ns h₀ vs l s₀ s) (h : ∀ t s', S env ns h₀ vs l s₀ s' → Q (.str x t) s') : wpAny (model prog w) A (eval (.Constant (.str x) k pos) env) Q E s :=
  wpAny_Constant_str (h _ _ (st.tok _))
theorem g_bool {b : Bool} {k pos} {Q : Value → Shared → Prop} (h : Q (.bool b) s) : wpAny (model prog w) A (eval (.Constant (.bool b) k pos) env) Q E s := wpAny_Constant_bool h
theorem g_none {k pos} {Q : Value → Shared → Prop} (h : Q .none s) : wpAny (model prog w) A (eval (.Constant .none k pos) env) Q E s := wpAny_Constant_none h

theorem g_add {a b : Int} {t u : Tok} {Q : Value → Shared → Prop} (st : S env ns h₀ vs l s₀ s) (h : ∀ t s', S env ns h₀ vs l s₀ s' → Q (.int (a + b) t) s') : wpAny (model prog w) A (binaryOp .Add (.int a t) (.int b u)) Q E s := PyProof.Rows.add_int (h _ _ (st.tok _))
theorem g_mod {a b : Int} {t u : Tok} {Q : Value → Shared → Prop} (hb : b ≠ 0) (st : S env ns h₀ vs l s₀ s) (h : ∀ t s', S env ns h₀ vs l s₀ s' → Q (.int (a.fmod b) t) s') : wpAny (model prog w) A (binaryOp .Mod (.int a t) (.int b u)) Q E s := mod_int' hb (h _ _ (st.tok _))
theorem g_div {a b : Int} {t u : Tok} {Q : Value → Shared → Prop} (hb : b ≠ 0) (hp : Builtin.divisionGoesByPylong a b = false) (st : S env ns h₀ vs l s₀ s) (h : ∀ t s', S env ns h₀ vs l s₀ s' → Q (.int (a.fdiv b) t) s') : wpAny (model prog w) A (binaryOp .FloorDiv (.int a t) (.int b u)) Q E s := floordiv_int hb (h _ _ (st.tok _)) (Or.inl hp)

theorem g_tuple {es : List Value} {Q : Value → Shared → Prop} (st : S env ns h₀ vs l s₀ s) (h : ∀ a s', S env ns h₀ vs ((a, { cls := .type "tuple", data := .seq es.toArray }) :: l) s₀ s' → Q (.ref a) s') (hsz : autoParam (es.length ≤ sizeLine) tSz) :
    wpAny (model prog w) A (newTuple es) Q E s := wpAny_newObj_type (h _ _ (st.push _ rfl)) (by show es.toArray.size ≤ sizeLine; rw [List.size_toArray]; exact hsz)
theorem g_list {es : List Value} {Q : Value → Shared → Prop} (st : S env ns h₀ vs l s₀ s) (h : ∀ a s', S env ns h₀ vs ((a, { cls := .type "list", data := .seq es.toArray }) :: l) s₀ s' → Q (.ref a) s') (hsz : autoParam (es.length ≤ sizeLine) tSz) :
    wpAny (model prog w) A (newList es) Q E s := wpAny_newObj_type (h _ _ (st.push _ rfl)) (by show es.toArray.size ≤ sizeLine; rw [List.size_toArray]; exact hsz)
end
end Mine.Internal
end
section
set_option tactic.hygienic false
open PySem PySem.W PySem.Calls PyProof.Rows
set_option maxRecDepth 100000
namespace Mine.Internal

structure Cx (K : Frag) (p : Program) (loose : List Str) (mean : ExcName → Option Value) (mg mb : Str → Option Value) (d u : Nat) (A : Around) (env : Env) (g : Heap) : Prop where
  below : ∃ A₀ base outer, Below A₀ base outer g ∧ A.frames = some (env :: outer)
  x : K.In g
  top : Top p loose mean mg mb g
  room : A.depth + d < recursionLimit
  units : A.units + u < cLine
  hand : A.handled = none

section
variable {prog : Program} {w : World} {A : Around} {E : Value → Shared → Prop} {env : Env} {ns : List Str} {h₀ : Heap} {vs : List (Option Value)} {l : Lg} {s₀ s : Shared}
  {K : Frag} {p : Program} {loose : List Str} {mean : ExcName → Option Value} {mg mb : Str → Option Value} {d u : Nat}

theorem Cx.le {d' u' : Nat} (cx : Cx K p loose mean mg mb d u A env h₀) (hd : d' ≤ d) (hu : u' ≤ u) : Cx K p loose mean mg mb d' u' A env h₀ :=
  ⟨cx.below, cx.x, cx.top, by have := cx.room; exact Nat.lt_of_le_of_lt (Nat.add_le_add_left hd _) this, by have := cx.units; exact Nat.lt_of_le_of_lt (Nat.add_le_add_left hu _) this, cx.hand⟩

structure SRet (env' : Env) (ns' : List Str) (g : Heap) (env : Env) (ns : List Str) (h₀ : Heap) (vs : List (Option Value)) (s₀ : Shared) (R : Result → Shared → Prop) (fl : Flow) (s' : Shared) : Prop where
  at_ : ∃ vs' l', S env' ns' g vs' l' s₀ s' ∧ (S env ns h₀ vs l' s₀ s' → R (.ok (.ret (match fl with | .ret v => v | _ => .none))) s')
theorem SRet.intro {env' : Env} {ns' : List Str} {g : Heap} {R : Result → Shared → Prop} {fl : Flow} {s' : Shared} {vs'} {l'} (st : S env' ns' g vs' l' s₀ s') (h : S env ns h₀ vs l' s₀ s' → R (.ok (.ret (match fl with | .ret v => v | _ => .none))) s') :
    SRet env' ns' g env ns h₀ vs s₀ R fl s' := ⟨⟨vs', l', st, h⟩⟩

theorem S_callE {R : Result → Shared → Prop} {name qual : Str} {params : Arguments} {body : List Stmt} {scope : Scope} {dV kV doc pm cdv ct oc : Value} {an od : Option Addr} {osl : Array (Option Value)} {f : Addr} {args : Args} {binds : List (Str × Value)} {ns' rest : List Str}
    (fn : Fn env ns) (cx : Cx K p loose mean mg mb (d + 1) (u + 3) A env h₀) (st : S env ns h₀ vs l s₀ s)
    (ho : K.lookup f = some ⟨oc, od, .func (fnOf name qual params body scope dV kV doc pm an cdv ct), osl⟩) (hcd : codeIn K cdv qual = true)
    (hbind : BindsTo s (fnOf name qual params body scope dV kV doc pm an cdv ct) args binds) (hns : ns' = binds.map (·.1) ++ rest) (hfn : ∀ L', Fn (envOf qual scope L' f cdv) ns')
    (h : ∀ L' g s₁, Cx K p loose mean mg mb d u (A.deeper (envOf qual scope L' f cdv)) (envOf qual scope L' f cdv) g →
      S (envOf qual scope L' f cdv) ns' g (binds.map (fun b => some b.2) ++ rest.map fun x => none) l s₀ s₁ →
      wpAny (model prog w) (A.deeper (envOf qual scope L' f cdv)) (execs body (envOf qual scope L' f cdv)) (SRet (envOf qual scope L' f cdv) ns' g env ns h₀ vs s₀ R)
        (fun e s' => wpAny (model prog w) (A.deeper (envOf qual scope L' f cdv)) («leaving» (envOf qual scope L' f cdv) e) (fun x s'' => R (.error e) s'') (fun e' s'' => R (.error e') s'') s') s₁)
    (hcell : ∀ x ∈ scope.names, x.2 ≠ .cell) (hco : autoParam (scope.isCoroutine = false) tRfl) (hgen : autoParam (scope.isGenerator = false) tRfl) (hk : autoParam (scope.kind = .function) tRfl) :
    codeAny (model prog w) A (.call (.ref f) args) R s := by
  obtain ⟨A₀, base, outer, B, hA⟩ := cx.below
  subst hns
  have hloc : ∀ y ∈ binds, scope.names.lookup y.1 = some .local := fun y hy => (hfn 0).loc y.1 (List.mem_append_left _ (List.mem_map.mpr ⟨y, hy, rfl⟩))
  have hroom := cx.room
  refine code_def B st.fr cx.x st.nw cx.top hA fn.frame fn.kind ho hcd (by exact Nat.lt_of_le_of_lt (Nat.le_add_right _ _) hroom) hbind hloc (fun g L' h₁ FG F' N' B' X' T' => ?_) hco hgen hk hcell
  have hd := (hfn L').nodup
  rw [locOf_binds hd] at F'
  have cx' : Cx K p loose mean mg mb d u (A.deeper (envOf qual scope L' f cdv)) (envOf qual scope L' f cdv) g :=
    ⟨⟨A, base, _, B', by show A.frames.map _ = _; rw [hA]; rfl⟩, X', T', by show A.depth + 1 + d < _; exact qft fun x => qfa2 x hroom (by simp +arith only), by have := cx.units; show A.units + 3 + u < _; exact qft fun x => qfa2 x this (by simp +arith only), cx.hand⟩
  refine wpAny_mono (h L' g { s with heap := h₁, toks := s.toks + binds.length } cx' ⟨by have e := st.same; obtain ⟨_, _, _, _, _⟩ := s; simp only [Shared.mk.injEq] at e ⊢; exact ⟨trivial, e.2.1, trivial, trivial, e.2.2.2.2⟩, F', N', st.nd⟩) (fun fl s' hr => ?_) fun x x e => e
  obtain ⟨vs', l', st', k⟩ := hr.at_
  exact leaveK_ st'.fr st'.nw fun F N => k ⟨by have e := st'.same; exact e, F, N, st'.nd⟩

theorem S_call {R : Result → Shared → Prop} {name qual : Str} {params : Arguments} {body : List Stmt} {scope : Scope} {dV kV doc pm cdv ct oc : Value} {an od : Option Addr} {osl : Array (Option Value)} {f : Addr} {args : Args} (binds : List (Str × Value)) (rest : List Str) {ns' : List Str} {vs' : List (Option Value)}
    (fn : Fn env ns) (cx : Cx K p loose mean mg mb (d + 1) (u + 3) A env h₀) (st : S env ns h₀ vs l s₀ s)
    (ho : K.lookup f = some ⟨oc, od, .func (fnOf name qual params body scope dV kV doc pm an cdv ct), osl⟩) (hcd : codeIn K cdv qual = true)
    (hbind : BindsTo s (fnOf name qual params body scope dV kV doc pm an cdv ct) args binds) (hns : ns' = binds.map (·.1) ++ rest) (hvs : vs' = binds.map (fun b => some b.2) ++ rest.map fun x => none)
    (hfn : ∀ L', Fn (envOf qual scope L' f cdv) ns') (hcell : ∀ x ∈ scope.names, x.2 ≠ .cell)
    (h : ∀ (env' : Env) (g : Heap) (A' : Around) (s₁ : Shared) (E' : Value → Shared → Prop), (∃ L', env' = envOf qual scope L' f cdv) → Fn env' ns' → Cx K p loose mean mg mb d u A' env' g → S env' ns' g vs' l s₀ s₁ →
      W (model prog w) A' (execs body env') (SRet env' ns' g env ns h₀ vs s₀ R) E' s₁)
    (hco : autoParam (scope.isCoroutine = false) tRfl) (hgen : autoParam (scope.isGenerator = false) tRfl) (hk : autoParam (scope.kind = .function) tRfl) :
    codeAny (model prog w) A (.call (.ref f) args) R s :=
  S_callE (rest := rest) fn cx st ho hcd hbind hns hfn (fun L' g s₁ cx' st' => (h _ g _ s₁ _ ⟨L', rfl⟩ (hfn L') cx' (hvs ▸ st')).out) hcell hco hgen hk

theorem fn_of {ns : List Str} {qual : Str} {scope : Scope} {f : Addr} {cdv : Value} (h : (ns.all fun x => scope.names.lookup x == some .local && !(x == ("__debug__" : Str))) = true) (hn : ns.Nodup) (hk : scope.kind = .function) (L' : Addr) : Fn (envOf qual scope L' f cdv) ns :=
  ⟨hk, hn, fun x hx => by have := List.all_eq_true.mp h x hx; simp only [Bool.and_eq_true, beq_iff_eq] at this; exact this.1, rfl, fun x hx => by have := List.all_eq_true.mp h x hx; simp only [Bool.and_eq_true, Bool.not_eq_true'] at this; exact this.2, rfl, rfl⟩
end
end Mine.Internal
end
section
set_option tactic.hygienic false
open PySem PySem.W PySem.Calls PyProof.Rows
set_option maxRecDepth 100000
namespace Mine.Internal

noncomputable abbrev tupO (vs : List Value) : Obj := { cls := .type "tuple", data := .seq vs.toArray }
noncomputable abbrev listO (vs : List Value) (n : Nat) : Obj := { cls := .type "list", data := .seq vs.toArray n }

noncomputable def sl {α : Type} (lo hi : Option Int) (xs : List α) : List α :=
  (xs.drop (Builtin.Slice.sliceAdjust lo hi 1 (xs.length : Int)).1.toNat).take (Builtin.Slice.slicePlaces (Builtin.Slice.sliceAdjust lo hi 1 (xs.length : Int)).1 (Builtin.Slice.sliceAdjust lo hi 1 (xs.length : Int)).2 1)

theorem adj_lo (lo hi : Option Int) (n : Nat) : 0 ≤ (Builtin.Slice.sliceAdjust lo hi 1 (n : Int)).1 := by
  unfold Builtin.Slice.sliceAdjust
  have h1 : ¬ ((1 : Int) < 0) := by lia
  cases lo with
  | none => simp only [h1, if_false]; exact Int.le_refl _
  | some v =>
    simp only [h1, if_false]
    split <;> lia

theorem places_one (p q : Int) : Builtin.Slice.slicePlaces p q 1 = (q - p).toNat := by
  unfold Builtin.Slice.slicePlaces
  have h1 : (1 : Int) > 0 := by lia
  simp only [h1, if_true, Int.ediv_one]
  split <;> lia

theorem sl_init {α : Type} (xs : List α) : sl none (some (-1)) xs = xs.dropLast := by
  unfold sl
  rw [places_one]
  unfold Builtin.Slice.sliceAdjust
  have h1 : ¬ ((1 : Int) < 0) := by lia
  have h2 : ((-1 : Int) < 0) := by lia
  simp only [h1, h2, if_false, if_true]
  rw [List.dropLast_eq_take]
  simp only [Int.toNat_zero, List.drop_zero]
  congr 1
  exact oInit _
theorem sl_to {α : Type} (k : Nat) (xs : List α) : sl none (some (k : Int)) xs = xs.take k := by
  unfold sl
  rw [places_one]
  unfold Builtin.Slice.sliceAdjust
  have h1 : ¬ ((1 : Int) < 0) := by lia
  have h2 : ¬ ((k : Int) < 0) := by lia
  simp only [h1, h2, if_false]
  simp only [Int.toNat_zero, List.drop_zero]
  by_cases h : k ≤ xs.length
  · congr 1; rw [Int.min_eq_left (Int.ofNat_le.mpr h), Int.sub_zero]; rfl
  · rw [List.take_of_length_le (by lia), List.take_of_length_le (by exact Nat.le_of_lt (Nat.lt_of_not_le h))]
theorem sl_from {α : Type} (k : Nat) (xs : List α) : sl (some (k : Int)) none xs = xs.drop k := by
  unfold sl
  rw [places_one]
  unfold Builtin.Slice.sliceAdjust
  have h1 : ¬ ((1 : Int) < 0) := by lia
  have h2 : ¬ ((k : Int) < 0) := by lia
  simp only [h1, h2, if_false]
  by_cases h : k ≤ xs.length
  · have e : (min (k : Int) (xs.length : Int)).toNat = k := by rw [Int.min_eq_left (Int.ofNat_le.mpr h)]; rfl
    rw [e, List.take_of_length_le (by rw [List.length_drop, Int.min_eq_left (Int.ofNat_le.mpr h), Int.toNat_sub]; exact Nat.le_refl _)]
  · rw [List.drop_of_length_le (by lia), List.drop_of_length_le (by exact Nat.le_of_lt (Nat.lt_of_not_le h))]; simp

theorem pick_sl (xs : List Value) (lo hi : Option Int) :
    ((List.range (Builtin.Slice.slicePlaces (Builtin.Slice.sliceAdjust lo hi 1 (xs.length : Int)).1 (Builtin.Slice.sliceAdjust lo hi 1 (xs.length : Int)).2 1)).filterMap
      fun (k : Nat) => xs.toArray[((Builtin.Slice.sliceAdjust lo hi 1 (xs.length : Int)).1 + (k : Int) * 1).toNat]?).toArray = (sl lo hi xs).toArray := by
  unfold sl
  have h0 := adj_lo lo hi xs.length
  generalize (Builtin.Slice.sliceAdjust lo hi 1 (xs.length : Int)).1 = p at h0 ⊢
  generalize Builtin.Slice.slicePlaces p _ 1 = c
  obtain ⟨a, rfl⟩ : ∃ a : Nat, p = a := ⟨p.toNat, by lia⟩
  have e : (fun (k : Nat) => xs.toArray[((a : Int) + (k : Int) * 1).toNat]?) = fun k => xs.toArray[a + k]? := by
    funext k
    have : ((a : Int) + (k : Int) * 1).toNat = a + k := by rw [Int.mul_one]; rfl
    rw [this]
  rw [e]
  have := pick_run xs.toArray a c
  rw [List.filterMap_map] at this
  have e2 : ((fun x => xs.toArray[x]?) ∘ fun x => a + x) = fun k => xs.toArray[a + k]? := rfl
  rw [e2] at this
  rw [this]
  simp

section
variable {prog : Program} {w : World} {A : Around} {E : Value → Shared → Prop} {env : Env} {ns : List Str} {h₀ : Heap} {vs : List (Option Value)} {l : Lg} {s₀ s : Shared}
  {K : Frag} {p : Program} {loose : List Str} {mean : ExcName → Option Value} {mg mb : Str → Option Value} {d u : Nat}

theorem part_of {v : Value} {k : Option Int} (hv : IsPart v k) {Q : Option Int → Shared → Prop} (h : Q k s) : wpAny (model prog w) A (Builtin.Slice.slicePartIndex v) Q E s := by
  cases hv with
  | none => exact slicePart_none h
  | int i t => exact slicePart_int h

theorem sliceApplied_gen {a : Addr} {x y : Value} {lo hi : Option Int} {n : Nat} {Q : Int × Int × Nat → Shared → Prop} (hs : s.heap.IsSliceOf a x y .none) (hx : IsPart x lo) (hy : IsPart y hi)
    (h : Q ((Builtin.Slice.sliceAdjust lo hi 1 (n : Int)).1, 1, Builtin.Slice.slicePlaces (Builtin.Slice.sliceAdjust lo hi 1 (n : Int)).1 (Builtin.Slice.sliceAdjust lo hi 1 (n : Int)).2 1) s) :
    wpAny (model prog w) A (Builtin.Slice.sliceApplied (.ref a) (pure (n : Int))) Q E s := by
  obtain ⟨os, hos, hcs, hds⟩ := id hs
  unfold Builtin.Slice.sliceApplied Builtin.Slice.sliceFields
  refine wpAny_bind (wpAny_bind (wpAny_field hos hds (x := x) rfl (wpAny_bind (wpAny_field hos hds (x := y) rfl (wpAny_bind (wpAny_field hos hds (x := .none) rfl (wpAny_pure ?_)))))))
  refine wpAny_bind (slicePart_none ?_)
  show wpAny _ _ (if ((1 : Int) == 0) = true then _ else _) _ _ s
  rw [if_neg (by decide)]
  exact wpAny_bind (part_of hx (wpAny_bind (part_of hy (wpAny_bind (wpAny_pure (wpAny_pure h))))))

theorem getItem_tuple_sl {t a : Addr} {items : List Value} {x y : Value} {lo hi : Option Int} {Q : Value → Shared → Prop} (ht : IsTup s.heap t items.toArray) (hs : s.heap.IsSliceOf a x y .none) (hx : IsPart x lo) (hy : IsPart y hi)
    (h1 : sl lo hi items = items → Q (.ref t) s)
    (h2 : Q (.ref s.heap.objs.size) { s with heap := s.heap.push (tupO (sl lo hi items)) })
    (hsz : items.length ≤ sizeLine) : wpAny (model prog w) A (getItem (.ref t) (.ref a)) Q E s := by
  have hpk := pick_sl items lo hi
  have hall : (Builtin.Slice.sliceAdjust lo hi 1 (items.length : Int)).1 = 0 → Builtin.Slice.slicePlaces (Builtin.Slice.sliceAdjust lo hi 1 (items.length : Int)).1 (Builtin.Slice.sliceAdjust lo hi 1 (items.length : Int)).2 1 = items.length → sl lo hi items = items := by
    intro e1 e2
    unfold sl
    rw [e2, e1]
    simp
  have hok : sizeOk (.seq (sl lo hi items).toArray) := by
    show (sl lo hi items).toArray.size ≤ sizeLine
    rw [List.size_toArray]
    unfold sl
    rw [List.length_take, List.length_drop]
    exact Nat.le_trans (Nat.min_le_right _ _) (Nat.le_trans (Nat.sub_le _ _) hsz)
  obtain ⟨os, hos, hcs, hds⟩ := id hs
  have hTs : s.TypeIs (.ref a) "slice" := ⟨os, hos, hcs⟩
  unfold getItem
  try with_reducible refine wpAny_holding ?_
  first | refine wpAny_bind (wpAny_pure ?_) | skip
  refine wpAny_bind (wpAny_sequenceKey ht.typeIs (by decide) ?_)
  refine wpAny_bind (wpAny_callSpecial?_slot (name := Str.ofString "__getitem__") ht.typeIs slot_tuple_getitem
    (wpAny_call_entry slot_tuple_getitem ht.typeIs entry_tuple_getitem ?_ (args_tuple_getitem _ _)))
  show wpAny _ _ (Builtin.Tuple.tupleItemsOf (.ref t) >>= _) _ _ s
  refine wpAny_bind (tupleItemsOf_ ht ?_)
  refine wpAny_bind (wpAny_typeOf hTs ?_)
  rw [if_pos (by decide)]
  have hsize : items.toArray.size = items.length := List.size_toArray
  rw [show (pure (items.toArray.size : Int) : Sem Int) = pure (items.length : Int) by rw [hsize]]
  refine wpAny_bind (sliceApplied_gen hs hx hy ?_)
  generalize hlo : (Builtin.Slice.sliceAdjust lo hi 1 (items.length : Int)).1 = pl at hpk hall ⊢
  generalize hc : Builtin.Slice.slicePlaces pl (Builtin.Slice.sliceAdjust lo hi 1 (items.length : Int)).2 1 = c at hpk hall ⊢
  have new : wpAny (model prog w) A.in1 (Builtin.Tuple.tupleExact ((List.range c).filterMap fun (k : Nat) => items.toArray[(pl + (k : Int) * 1).toNat]?).toArray) (fun v s' => Q v s') E s := by
    rw [hpk]
    exact wpAny_newObj_type h2 hok
  show wpAny _ _ (if (pl == 0 && (1 : Int) == 1 && c == items.toArray.size) = true then _ else _) _ _ s
  by_cases hw : (pl == 0 && (1 : Int) == 1 && c == items.toArray.size) = true
  · rw [if_pos hw]
    have hq : Q (.ref t) s := by
      simp only [Bool.and_eq_true, beq_iff_eq] at hw
      exact h1 (hall hw.1.1 (by rw [hw.2, hsize]))
    refine wpAny_bind (wpAny_bind (m := typeOf (.ref t)) (wpAny_typeOf ht.typeIs (wpAny_pure ?_)))
    rw [if_pos (by decide)]
    exact wpAny_bind (wpAny_rule (wpAny_pure ⟨_, rfl, wpAny_pure hq⟩))
  · rw [if_neg hw]
    refine wpAny_bind (wpAny_mono new (fun v s' hv => ?_) fun x x e => e)
    exact wpAny_pure ⟨_, rfl, wpAny_pure hv⟩
end
end Mine.Internal
end
section
set_option tactic.hygienic false
open PySem PySem.W PySem.Calls PyProof.Rows
set_option maxRecDepth 100000
namespace Mine.Internal

noncomputable abbrev emptyD : Obj := { cls := .type "dict", data := .dict #[] }
noncomputable abbrev freshSet (led : Bool) : Obj := { cls := .type "set", dict := none, data := .set #[] 0 (.fresh 0 0 led) }

section
variable {prog : Program} {w : World} {A : Around} {E : Value → Shared → Prop} {env : Env} {ns : List Str} {h₀ : Heap} {vs : List (Option Value)} {l : Lg} {s₀ s : Shared}
  {K : Frag} {p : Program} {loose : List Str} {mean : ExcName → Option Value} {mg mb : Str → Option Value} {d u : Nat}

theorem S.dict {a : Addr} {o : Obj} {kvs : List (Str × Value)} (st : S env ns h₀ vs l s₀ s) (hm : (a, o) ∈ l) (hd : o.IsDictOf (strKind prog w) kvs) : s.heap.DictOf (strKind prog w) a kvs := Heap.dictOf_iff.mpr ⟨o, st.at hm, hd⟩

theorem S.big (st : S env ns h₀ vs l s₀ s) (cx : Cx K p loose mean mg mb d u A env h₀) : (s.heap.objs.size == sysModules) = false := st.fr.notModules (modules_low cx.top.nolimit)

theorem g_tail_dict {value slice : Expr} {a : Addr} {o : Obj} {kvs : List (Str × Value)} {k : Str} {t : Tok} {v : Value} {Q : Value → Shared → Prop} (st : S env ns h₀ vs l s₀ s) (hm : (a, o) ∈ l) (hd : o.IsDictOf (strKind prog w) kvs) (hl : valueAt kvs k = some v)
    (h : ∀ s', S env ns h₀ vs l s₀ s' → Q v s') (hs : autoParam (subscripted slice false (.ref a) (.str k t) = operate [.ref a, .str k t] (getItem (.ref a) (.str k t))) tWur) :
    wpAny (model prog w) A (subscriptTail value slice (.ref a) (.str k t)) Q E s :=
  kdt_tail st.nw hm hd (kdt_getItem st.nw hm hd (strKind_is prog w k t) hl (h _ (st.tok _))) hs

theorem g_in_dict {a : Addr} {o : Obj} {kvs : List (Str × Value)} {k : Str} {t : Tok} {Q : Value → Shared → Prop} (st : S env ns h₀ vs l s₀ s) (hm : (a, o) ∈ l) (hd : o.IsDictOf (strKind prog w) kvs) (ha : (a == sysModules) = false)
    (h : ∀ s', S env ns h₀ vs l s₀ s' → Q (.bool (valueAt kvs k).isSome) s') : wpAny (model prog w) A (compareOp .In (.str k t) (.ref a)) Q E s :=
  kda_in st.nw hm hd ha (strKind_is prog w k t) _ rfl (h _ (st.tok _))
theorem g_notin_dict {a : Addr} {o : Obj} {kvs : List (Str × Value)} {k : Str} {t : Tok} {Q : Value → Shared → Prop} (st : S env ns h₀ vs l s₀ s) (hm : (a, o) ∈ l) (hd : o.IsDictOf (strKind prog w) kvs) (ha : (a == sysModules) = false)
    (h : ∀ s', S env ns h₀ vs l s₀ s' → Q (.bool !(valueAt kvs k).isSome) s') : wpAny (model prog w) A (compareOp .NotIn (.str k t) (.ref a)) Q E s :=
  kdg_notin st.nw hm hd ha (strKind_is prog w k t) _ rfl (h _ (st.tok _))

theorem g_setitem {a : Addr} {o : Obj} {l' : Obj → Lg} {kvs : List (Str × Value)} {k : Str} {t : Tok} {v : Value} {Q : Unit → Shared → Prop} (st : S env ns h₀ vs l s₀ s) (U : ∀ o', UpdL a o o' l (l' o')) (hd : o.IsDictOf (strKind prog w) kvs) (hsz : kvs.length ≤ sizeLine)
    (h : ∀ o' s', o'.IsDictOf (strKind prog w) (stored kvs k v) → S env ns h₀ vs (l' o') s₀ s' → Q () s') : wpAny (model prog w) A (setItem (.ref a) (.str k t) v) Q E s := by
  refine wpAny_setItem_pairs (hsz := hsz) (strKind_is prog w k t) (st.dict (U o).mem hd) fun h' hmm hs => ?_
  obtain ⟨o', ho', hd'⟩ := Heap.dictOf_iff.mp hmm
  exact h o' _ hd' (st.upd (U o') hs ho')

theorem isDict_nil : emptyD.IsDictOf (strKind prog w) [] := by
  obtain ⟨o, ho, hd⟩ := Heap.dictOf_iff.mp (Heap.DictOf.new (knd := strKind prog w) (default : Heap))
  rw [Heap.get?_push_size _ rfl] at ho
  cases ho
  exact hd

theorem g_newdict {pos : Pos} {Q : Value → Shared → Prop} (st : S env ns h₀ vs l s₀ s) (cx : Cx K p loose mean mg mb d u A env h₀)
    (h : ∀ a s', (a == sysModules) = false → S env ns h₀ vs ((a, emptyD) :: l) s₀ s' → Q (.ref a) s') : wpAny (model prog w) A (eval (.Dict [] [] pos) env) Q E s :=
  wpAny_Dict_empty (h _ _ (st.big cx) (st.push _ rfl))

theorem g_back {e : Expr} {pos : Pos} {Q : Value → Shared → Prop} (h : wpAny (model prog w) A (eval e env) Q E s) : wpAny (model prog w) A (do let x ← eval e env; standAt pos; pure x) Q E s :=
  wpAny_bind (wpAny_mono h (fun x x h1 => wpAny_bind (wpAny_standAt (wpAny_pure h1))) fun x x e => e)

theorem g_dict3 {k1 k2 k3 : Str} {e1 e2 e3 : Expr} {p1 p2 p3 pos : Pos} {c1 c2 c3 : Nat} {Q : Value → Shared → Prop} (st : S env ns h₀ vs l s₀ s) (cx : Cx K p loose mean mg mb d u A env h₀) (hk : [k1, k2, k3].Nodup)
    (h : ∀ a s1, (a == sysModules) = false → S env ns h₀ vs ((a, emptyD) :: l) s₀ s1 → wpAny (model prog w) A (eval e1 env) (fun v1 s2 => ∃ l2, S env ns h₀ vs l2 s₀ s2 ∧ ∀ s2', S env ns h₀ vs l2 s₀ s2' →
      wpAny (model prog w) A (eval e2 env) (fun v2 s3 => ∃ l3, S env ns h₀ vs l3 s₀ s3 ∧ ∀ s3', S env ns h₀ vs l3 s₀ s3' → wpAny (model prog w) A (eval e3 env) (fun v3 s4 =>
        ∃ (l4 : Lg) (l5 : Obj → Lg), S env ns h₀ vs l4 s₀ s4 ∧ (∀ o', UpdL a emptyD o' l4 (l5 o')) ∧ ∀ o' s5, o'.IsDictOf (strKind prog w) [(k1, v1), (k2, v2), (k3, v3)] → S env ns h₀ vs (l5 o') s₀ s5 → Q (.ref a) s5) E s3') E s2') E s1) :
    wpAny (model prog w) A (eval (.Dict [some (.Constant (.str k1) c1 p1), some (.Constant (.str k2) c2 p2), some (.Constant (.str k3) c3 p3)] [e1, e2, e3] pos) env) Q E s := by
  refine wpAny_Dict_walk (knd := strKind prog w) rfl rfl (by simp) (by show 3 ≤ 15; decide) ?_
  refine evalPairs_cons (g_str (st.push emptyD rfl) fun t1 s1 st1 => ?_)
  refine g_back (wpAny_mono (h _ s1 (st.big cx) st1) (fun v1 s2 h2 => ?_) fun x x e => e)
  obtain ⟨l2, st2, h2⟩ := h2
  refine evalPairs_cons (g_str st2 fun t2 s2' st2' => ?_)
  refine g_back (wpAny_mono (h2 _ st2') (fun v2 s3 h3 => ?_) fun x x e => e)
  obtain ⟨l3, st3, h3⟩ := h3
  refine evalPairs_cons (g_str st3 fun t3 s3' st3' => ?_)
  refine g_back (wpAny_mono (h3 _ st3') (fun v3 s4 h4 => ?_) fun x x e => e)
  obtain ⟨l4, l5, st4, U, k⟩ := h4
  refine evalPairs_nil ⟨[(k1, v1), (k2, v2), (k3, v3)], ⟨strKind_is prog w k1 t1, rfl, strKind_is prog w k2 t2, rfl, strKind_is prog w k3 t3, rfl, trivial⟩, st4.dict (U emptyD).mem isDict_nil, fun h' hm' hs' => ?_⟩
  obtain ⟨o', ho', hd'⟩ := Heap.dictOf_iff.mp hm'
  have e : merged [] [(k1, v1), (k2, v2), (k3, v3)] = [(k1, v1), (k2, v2), (k3, v3)] := by
    simp only [List.nodup_cons, List.mem_cons, List.not_mem_nil, or_false, not_or] at hk
    have a12 : k1 ≠ k2 := hk.1.1
    have a13 : k1 ≠ k3 := hk.1.2
    have a23 : k2 ≠ k3 := hk.2.1
    simp [merged, stored, a12, a13, a23]
  rw [e] at hd'
  exact k o' _ hd' (st4.upd (U o') hs' ho')

theorem g_pop_meth {a : Addr} {o : Obj} {kvs : List (Str × Value)} {pl : Sem Bool} {Q : Value × List Value → Shared → Prop} (st : S env ns h₀ vs l s₀ s) (hm : (a, o) ∈ l) (hd : o.IsDictOf (strKind prog w) kvs) (h : Q (.builtin "dict.pop", [.ref a]) s) : wpAny (model prog w) A (getMethod (.ref a) "pop" pl) Q E s :=
  have hD := st.dict hm hd
  getMethod_builtin hD.typeIs PySem.F.plainAttrs_dict PySem.F.slot_dict_pop PySem.F.type_dict_pop hD.mapOf.noDict h

theorem g_pop {a : Addr} {o : Obj} {l' : Obj → Lg} {kvs : List (Str × Value)} {k : Str} {t : Tok} {v dflt : Value} {Q : Value → Shared → Prop} (st : S env ns h₀ vs l s₀ s) (U : ∀ o', UpdL a o o' l (l' o')) (hd : o.IsDictOf (strKind prog w) kvs) (hsz : kvs.length ≤ sizeLine) (hl : valueAt kvs k = some v)
    (h : ∀ o' s', o'.IsDictOf (strKind prog w) (without kvs k) → S env ns h₀ vs (l' o') s₀ s' → Q v s') : wpAny (model prog w) A (call (.builtin "dict.pop") [.ref a, .str k t, dflt]) Q E s := by
  have hD := st.dict (U o).mem hd
  refine call_meetsIn PySem.F.slot_dict_pop hD.typeIs PySem.F.entry_dict_pop (PySem.F.args_dict_pop_3 _ _ _) (meets_dict_pop_there (strKind prog w) a (strKind_is prog w k t) [dflt] (.inr ⟨_, rfl⟩) rfl) ⟨kvs, v, hD, hsz, hl, fun h' hmm hs => ?_⟩
  obtain ⟨o', ho', hd'⟩ := Heap.dictOf_iff.mp hmm
  exact h o' _ hd' (st.upd (U o') hs ho')
theorem g_pop_none {a : Addr} {o : Obj} {kvs : List (Str × Value)} {k : Str} {t : Tok} {dflt : Value} {Q : Value → Shared → Prop} (st : S env ns h₀ vs l s₀ s) (hm : (a, o) ∈ l) (hd : o.IsDictOf (strKind prog w) kvs) (ha : (a == sysModules) = false) (hl : valueAt kvs k = none)
    (h : ∀ s', S env ns h₀ vs l s₀ s' → Q dflt s') : wpAny (model prog w) A (call (.builtin "dict.pop") [.ref a, .str k t, dflt]) Q E s := by
  have hD := st.dict hm hd
  exact call_meetsIn PySem.F.slot_dict_pop hD.typeIs PySem.F.entry_dict_pop (PySem.F.args_dict_pop_3 _ _ _) (meets_dict_pop_default (strKind prog w) a (strKind_is prog w k t) ha rfl dflt) ⟨kvs, hD, hl, h _ (st.tok _)⟩

theorem g_newset {Q : Value → Shared → Prop} (st : S env ns h₀ vs l s₀ s) (h : ∀ a led s', S env ns h₀ vs ((a, freshSet led) :: l) s₀ s' → Q (.ref a) s') : wpAny (model prog w) A (call (.type "set") []) Q E s :=
  newSet_N st.fr st.nw fun h' led F' N' => h _ led { s with heap := h' } (st.toH F' N' (List.nodup_cons.mpr ⟨fun q => by
    obtain ⟨p, hp, e⟩ := List.mem_map.mp q
    exact absurd (Heap.lt_size (st.nw p hp).1) (by rw [e]; exact Nat.lt_irrefl _), st.nd⟩))
theorem freshSet_is (led : Bool) : (freshSet led).SetObjOf (intKind prog w) (fun x => false) 0 := setObjOf_fresh led

theorem g_in_set {a : Addr} {o : Obj} {X : Int → Bool} {n : Nat} {k : Int} {t : Tok} {Q : Value → Shared → Prop} (st : S env ns h₀ vs l s₀ s) (hm : (a, o) ∈ l) (hd : o.SetObjOf (intKind prog w) X n) (hn : n < scanBound)
    (h : ∀ s', S env ns h₀ vs l s₀ s' → Q (.bool (X k)) s') : wpAny (model prog w) A (compareOp .In (.int k t) (.ref a)) Q E s :=
  wpAny_inSet_of (intKind_is prog w k t) rfl (hd.setOf (st.at hm) hn) (h _ (st.tok _))
theorem g_add_meth {K : Type} [DecidableEq K] [BEq K] [LawfulBEq K] {knd : KeyKind prog w K} {X : K → Bool} {a : Addr} {o : Obj} {n : Nat} {pl : Sem Bool} {Q : Value × List Value → Shared → Prop} (st : S env ns h₀ vs l s₀ s) (hm : (a, o) ∈ l) (hd : o.SetObjOf knd X n) (hn : n < scanBound)
    (h : Q (.builtin "set.add", [.ref a]) s) : wpAny (model prog w) A (getMethod (.ref a) "add" pl) Q E s := getMethod_set_add (hd.setOf (st.at hm) hn) h
theorem g_add_int {a : Addr} {o : Obj} {l' : Obj → Lg} {X : Int → Bool} {n : Nat} {k : Int} {t : Tok} {Q : Value → Shared → Prop} (st : S env ns h₀ vs l s₀ s) (U : ∀ o', UpdL a o o' l (l' o')) (hd : o.SetObjOf (intKind prog w) X n) (hn : n + 1 < scanBound)
    (h : ∀ o' s', o'.SetObjOf (intKind prog w) (fun k' => X k' || decide (k' = k)) (if X k then n else n + 1) → S env ns h₀ vs (l' o') s₀ s' → Q .none s') : wpAny (model prog w) A (call (.builtin "set.add") [.ref a, .int k t]) Q E s := by
  refine call_set_add (intKind_is prog w k t) rfl (hd.setOf (st.at (U o).mem) (by exact Nat.le_of_lt hn)) hn fun h' hsb hS' => ?_
  obtain ⟨so', ho', hso'⟩ := hS'.objOf
  exact h so' _ hso' (st.upd (U so') hsb ho')

theorem S.keep {h : Heap} {t : Nat} (st : S env ns h₀ vs l s₀ s) (hk : ∀ b o, b < s.heap.objs.size → s.heap.get? b = some o → h.get? b = some o) : S env ns h₀ vs l s₀ { s with heap := h, toks := t } :=
  st.to ⟨st.fr.ns.at' fun o e => hk _ o (Heap.lt_size e) e, fun b o e => hk _ _ (Heap.lt_size (st.fr.keep b o e)) (st.fr.keep b o e), st.fr.above⟩ (fun p hp => ⟨hk _ _ (Heap.lt_size (st.nw p hp).1) (st.nw p hp).1, (st.nw p hp).2⟩) st.nd
end
end Mine.Internal
end
section
set_option tactic.hygienic false
open PySem PySem.W PySem.Calls PyProof.Rows
set_option maxRecDepth 100000
namespace Mine.Internal

structure Iter (prog : Program) (w : World) (A : Around) (I : Addr) (n : Nat) (P : Nat → Value → Prop) (Ok : Nat → Obj → Prop) (Need : Heap → Prop) : Prop where
  next : ∀ (i : Nat) (s : Shared) (o : Obj) (Q : Option Value → Shared → Prop) (E : Value → Shared → Prop), i < n → s.heap.get? I = some o → Ok i o → Need s.heap →
    (∀ v h' tk o', P i v → h'.get? I = some o' → Ok (i + 1) o' → Heap.SameBut I s.heap h' → Q (some v) { s with heap := h', toks := tk }) → wpAny (model prog w) A (pyNext (.ref I)) Q E s
  stop : ∀ (s : Shared) (o : Obj) (Q : Option Value → Shared → Prop) (E : Value → Shared → Prop), s.heap.get? I = some o → Ok n o → Need s.heap →
    (∀ h' tk, Heap.ExtBut I s.heap h' → Q none { s with heap := h', toks := tk }) → wpAny (model prog w) A (pyNext (.ref I)) Q E s
  go : ∀ (i : Nat) (s : Shared) (o : Obj) (target : Expr) (v : Value) (Q : Unit → Shared → Prop) (E : Value → Shared → Prop), s.heap.get? I = some o → Ok i o → Q () s → wpAny (model prog w) A (letOwnedTupleGo target (.ref I) v) Q E s

section
variable {prog : Program} {w : World} {A : Around} {E : Value → Shared → Prop} {env : Env} {ns : List Str} {h₀ : Heap} {vs : List (Option Value)} {l : Lg} {s₀ s : Shared}
  {K : Frag} {p : Program} {loose : List Str} {mean : ExcName → Option Value} {mg mb : Str → Option Value} {d u : Nat}

theorem iter_list (hh : A.handled = none) {I t : Addr} (hne : t ≠ I) (us : List Value) : Iter prog w A I us.length (fun i v => us[i]? = some v) (fun i o => o.cls = .type "list_iterator" ∧ o.data = .fields #[.ref t, .int i 0]) (fun h => h.IsList t us.toArray) where
  next := fun i s o Q E hi ho hok hn hQ => by
    refine wpAny_pyNext_list_item (i := i) ⟨o, ho, hok⟩ hn (x := us[i]) (by simp [hi]) fun h' hit' hs' => ?_
    obtain ⟨o', ho', hok'⟩ := hit'
    exact hQ _ h' s.toks o' (by simp [hi]) ho' hok' hs'
  stop := fun s o Q E ho hok hn hQ => wpAny_pyNext_list_end hh (i := us.length) ⟨o, ho, hok⟩ hn (by simp) fun h' he' => hQ h' s.toks he'
  go := fun i s o target v Q E ho hok hQ => letGo_listiter ⟨o, ho, hok⟩ hQ

theorem iter_tuple (hh : A.handled = none) {I t : Addr} (hne : t ≠ I) (us : List Value) : Iter prog w A I us.length (fun i v => us[i]? = some v) (fun i o => o.cls = .type "tuple_iterator" ∧ o.data = .fields #[.ref t, .int i 0]) (fun h => h.IsTuple t us.toArray) where
  next := fun i s o Q E hi ho hok hn hQ => by
    refine wpAny_pyNext_tuple_item (i := i) ⟨o, ho, hok⟩ hn (x := us[i]) (by simp [hi]) fun h' hit' hs' => ?_
    obtain ⟨o', ho', hok'⟩ := hit'
    exact hQ _ h' s.toks o' (by simp [hi]) ho' hok' hs'
  stop := fun s o Q E ho hok hn hQ => wpAny_pyNext_tuple_end hh (i := us.length) ⟨o, ho, hok⟩ hn (by simp) fun h' he' => hQ h' s.toks he'
  go := fun i s o target v Q E ho hok hQ => by
    obtain ⟨hc, hd⟩ := hok
    unfold letOwnedTupleGo
    cases target <;> first
      | exact wpAny_pure hQ
      | (cases v <;> first
          | exact wpAny_pure hQ
          | (refine wpAny_bind (wpAny_load ho ?_)
             rw [hc, hd]
             exact wpAny_pure hQ))

theorem S.extBut {I : Addr} {oI : Obj} {h : Heap} {t : Nat} (st : S env ns h₀ vs ((I, oI) :: l) s₀ s) (he : Heap.ExtBut I s.heap h) : S env ns h₀ vs l s₀ { s with heap := h, toks := t } := by
  have D := st.nw (I, oI) (.head _)
  have hnd := List.nodup_cons.mp st.nd
  refine st.to ⟨st.fr.ns.at' fun o e => he _ o (Ne.symm D.2.1) e, fun b o e => he b o (fun q => by have := D.2.2; rw [← q, e] at this; cases this) (st.fr.keep b o e), st.fr.above⟩ (fun p hp => ?_) hnd.2
  have P := st.nw p (.tail _ hp)
  exact ⟨he _ _ (fun q => hnd.1 (List.mem_map.mpr ⟨p, hp, q⟩)) P.1, P.2⟩

noncomputable def LPost (env : Env) (ns : List Str) (h₀ : Heap) (s₀ : Shared) (I : Addr) (oI : Obj) (Jn : List (Option Value) → Lg → Prop) (Q : Flow → Shared → Prop) (f : Flow) (s' : Shared) : Prop :=
  match f with
  | .next | .cont => ∃ vs' l', S env ns h₀ vs' ((I, oI) :: l') s₀ s' ∧ Jn vs' l'
  | .brk => False
  | .ret v => Q (.ret v) s'

theorem g_forLoop {target : Expr} {body : List Stmt} {I : Addr} {n : Nat} {P : Nat → Value → Prop} {Ok : Nat → Obj → Prop} {Need : Heap → Prop} {oI : Obj} {R : Result → Shared → Prop} {Q : Flow → Shared → Prop}
    (Wi : Iter prog w A I n P Ok Need) (J : Nat → List (Option Value) → Lg → Prop) (st : S env ns h₀ vs ((I, oI) :: l) s₀ s) (hok : Ok 0 oI) (h0 : J 0 vs l)
    (need : ∀ i vs' l' s' o, J i vs' l' → S env ns h₀ vs' ((I, o) :: l') s₀ s' → Need s'.heap)
    (turn : ∀ i v vs' l' o s' E', i < n → P i v → J i vs' l' → S env ns h₀ vs' ((I, o) :: l') s₀ s' →
      wpAny (model prog w) A (assign target env v) (fun x s2 => wpAny (model prog w) A (execs body env) (LPost env ns h₀ s₀ I o (J (i + 1)) Q) E' s2) E' s')
    (done : ∀ vs' l' s', J n vs' l' → S env ns h₀ vs' l' s₀ s' → R (.ok .next) s')
    (hR : ∀ v s', Q (.ret v) s' → R (.ok (.ret v)) s') :
    codeAny (model prog w) A (.forLoop target (.ref I) body [] env) R s := by
  refine codeAny_forLoop_any (fun k s' => ∃ i vs' l' o, S env ns h₀ vs' ((I, o) :: l') s₀ s' ∧ Ok i o ∧ J i vs' l' ∧ i ≤ n ∧ k = n + 1 - i) ?_ (n + 1) ⟨0, vs, l, oI, st, hok, h0, Nat.zero_le _, rfl⟩
  rintro k s' ⟨i, vs', l', o, st', hok', hJ, hi, rfl⟩
  have ho := st'.at (.head _)
  by_cases hlt : i < n
  · refine Wi.next i s' o _ _ hlt ho hok' (need i vs' l' s' o hJ st') fun v h' tk o' hP ho' hok'' hs' => ?_
    have st2 : S env ns h₀ vs' ((I, o') :: l') s₀ { s' with heap := h', toks := tk } := st'.upd .head hs' ho'
    refine Wi.go (i + 1) _ o' target v _ _ ho' hok'' ?_
    refine wpAny_mono (turn i v vs' l' o' _ _ hlt hP hJ st2) (fun y s2 h2 => wpAny_mono h2 (fun f s3 h3 => ?_) fun x x e => e) fun y y e => e
    cases f with
    | next => obtain ⟨vs3, l3, st3, hJ3⟩ := h3; exact ⟨n + 1 - (i + 1), by exact (by exact Nat.lt_of_add_lt_add_right (Nat.lt_of_lt_of_le (qfs2 (n + 1) (i + 1) (qfl fun x => qfa2 x hi (by simp +arith only))) (qfs1 (n + 1) (i)))), i + 1, vs3, l3, o', st3, hok'', hJ3, hlt, rfl⟩
    | cont => obtain ⟨vs3, l3, st3, hJ3⟩ := h3; exact ⟨n + 1 - (i + 1), by exact (by exact Nat.lt_of_add_lt_add_right (Nat.lt_of_lt_of_le (qfs2 (n + 1) (i + 1) (qfl fun x => qfa2 x hi (by simp +arith only))) (qfs1 (n + 1) (i)))), i + 1, vs3, l3, o', st3, hok'', hJ3, hlt, rfl⟩
    | brk => exact h3.elim
    | ret v => exact hR v s3 h3
  · have hin : i = n := by exact Nat.le_antisymm hi (Nat.le_of_not_lt hlt)
    subst hin
    refine Wi.stop s' o _ _ ho hok' (need i vs' l' s' o hJ st') fun h' tk he => wpAny_execs_nil ?_
    exact done vs' l' _ hJ (st'.extBut he)

noncomputable abbrev ForRest (prog : Program) (w : World) (A : Around) (env : Env) (E : Value → Shared → Prop) (target : Expr) (body : List Stmt) (Q : Flow → Shared → Prop) (it : Value) (s₂ : Shared) : Prop :=
  codeAny (model prog w) A (.forLoop target it body [] env) (fun r s' => match r with | .ok f => Q f s' | .error e => cameBackBy (model prog w) A env E e s') s₂

theorem g_for_list {target : Expr} {body : List Stmt} {t : Addr} {us : List Value} {n : Nat} {Q : Flow → Shared → Prop} (hh : A.handled = none) (st : S env ns h₀ vs l s₀ s) (hm : (t, listO us n) ∈ l)
    (J : Nat → List (Option Value) → Lg → Prop) (h0 : J 0 vs l) (keep : ∀ i vs' l', J i vs' l' → (t, listO us n) ∈ l')
    (turn : ∀ i v vs' l' I o s' E', us[i]? = some v → J i vs' l' → S env ns h₀ vs' ((I, o) :: l') s₀ s' →
      wpAny (model prog w) A (assign target env v) (fun x s2 => wpAny (model prog w) A (execs body env) (LPost env ns h₀ s₀ I o (J (i + 1)) Q) E' s2) E' s')
    (done : ∀ vs' l' s', J us.length vs' l' → S env ns h₀ vs' l' s₀ s' → Q .next s') :
    wpAny (model prog w) A (pyIter (.ref t)) (ForRest prog w A env E target body Q) E s := by
  have hl : s.heap.IsList t us.toArray := ⟨_, st.at hm, rfl, _, rfl⟩
  refine wpAny_pyIter_list hl ?_
  have hne : t ≠ s.heap.objs.size := Nat.ne_of_lt (Heap.lt_size (st.at hm))
  refine g_forLoop (iter_list hh hne us) J (st.push _ rfl) ⟨rfl, rfl⟩ h0 (fun i vs' l' s' o hJ st' => ⟨_, st'.at (.tail _ (keep i vs' l' hJ)), rfl, _, rfl⟩) (fun i v vs' l' o s' E' x hP hJ st' => turn i v vs' l' _ o s' E' hP hJ st') done fun v s' h => h

theorem g_for_tuple {target : Expr} {body : List Stmt} {t : Addr} {us : List Value} {Q : Flow → Shared → Prop} (hh : A.handled = none) (st : S env ns h₀ vs l s₀ s) (hm : (t, tupO us) ∈ l)
    (J : Nat → List (Option Value) → Lg → Prop) (h0 : J 0 vs l) (keep : ∀ i vs' l', J i vs' l' → (t, tupO us) ∈ l')
    (turn : ∀ i v vs' l' I o s' E', us[i]? = some v → J i vs' l' → S env ns h₀ vs' ((I, o) :: l') s₀ s' →
      wpAny (model prog w) A (assign target env v) (fun x s2 => wpAny (model prog w) A (execs body env) (LPost env ns h₀ s₀ I o (J (i + 1)) Q) E' s2) E' s')
    (done : ∀ vs' l' s', J us.length vs' l' → S env ns h₀ vs' l' s₀ s' → Q .next s') :
    wpAny (model prog w) A (pyIter (.ref t)) (ForRest prog w A env E target body Q) E s := by
  have hl : s.heap.IsTuple t us.toArray := ⟨_, st.at hm, rfl, _, rfl⟩
  refine wpAny_pyIter_tuple hl ?_
  have hne : t ≠ s.heap.objs.size := Nat.ne_of_lt (Heap.lt_size (st.at hm))
  refine g_forLoop (iter_tuple hh hne us) J (st.push _ rfl) ⟨rfl, rfl⟩ h0 (fun i vs' l' s' o hJ st' => ⟨_, st'.at (.tail _ (keep i vs' l' hJ)), rfl, _, rfl⟩) (fun i v vs' l' o s' E' x hP hJ st' => turn i v vs' l' _ o s' E' hP hJ st') done fun v s' h => h
end
end Mine.Internal
end
section
set_option tactic.hygienic false
open PySem PySem.W PySem.Calls PyProof.Rows
set_option maxRecDepth 100000
namespace Mine.Internal
section
variable {prog : Program} {w : World} {A : Around} {E : Value → Shared → Prop} {env : Env} {ns : List Str} {h₀ : Heap} {vs : List (Option Value)} {l : Lg} {s₀ s : Shared}
  {K : Frag} {p : Program} {loose : List Str} {mean : ExcName → Option Value} {mg mb : Str → Option Value} {d u : Nat}

theorem S.tup {t : Addr} {us : List Value} (st : S env ns h₀ vs l s₀ s) (hm : (t, tupO us) ∈ l) : IsTup s.heap t us.toArray := ⟨_, st.at hm, rfl, _, rfl⟩
theorem S.list {t : Addr} {us : List Value} {n : Nat} (st : S env ns h₀ vs l s₀ s) (hm : (t, listO us n) ∈ l) : s.heap.IsList t us.toArray := ⟨_, st.at hm, rfl, _, rfl⟩

theorem g_truthy_tuple {t : Addr} {us : List Value} {Q : Bool → Shared → Prop} (st : S env ns h₀ vs l s₀ s) (hm : (t, tupO us) ∈ l) (hz : us.length ≤ sizeLine) (h : ∀ s', S env ns h₀ vs l s₀ s' → Q (!us.isEmpty) s') : wpAny (model prog w) A (truthy (.ref t)) Q E s := by
  refine truthy_tuple (st.tup hm) ?_ ?_
  · rw [List.size_toArray]; rw [sizeLine_eq] at hz; lia
  · have e : (!us.toArray.isEmpty) = !us.isEmpty := by cases us <;> rfl
    rw [e]; exact h _ (st.tok _)

theorem g_subslice {value : Expr} {lower upper : Option Expr} {p pos : Pos} {Q : Value → Shared → Prop}
    (h : wpAny (model prog w) A (eval value env) (fun o s₁ => wpAny (model prog w) A (evalPart lower env) (fun x s₂ => wpAny (model prog w) A (evalPart upper env) (fun y s₃ =>
      wpAny (model prog w) A (subscriptTail value (.Slice lower upper none p) o (.ref s₃.heap.objs.size)) Q E { s₃ with heap := s₃.heap.push { cls := .type "slice", data := .fields #[x, y, .none] } }) E s₂) E s₁) E s) :
    wpAny (model prog w) A (eval (.Subscript value (.Slice lower upper none p) pos) env) Q E s :=
  Subscript_ (wpAny_mono h (fun o s₁ h₁ => wpAny_Slice (wpAny_mono h₁ (fun x s₂ h₂ => wpAny_mono h₂ (fun y s₃ h₃ => by
    rw [evalPart_none]; exact wpAny_pure h₃) fun x x e => e) fun x x e => e)) fun x x e => e)
theorem part_e {e : Expr} {Q : Value → Shared → Prop} (h : wpAny (model prog w) A (eval e env) Q E s) : wpAny (model prog w) A (evalPart (some e) env) Q E s := by rw [evalPart_some]; exact h
theorem part_0 {Q : Value → Shared → Prop} (h : Q .none s) : wpAny (model prog w) A (evalPart none env) Q E s := by rw [evalPart_none]; exact wpAny_pure h

theorem g_slice_tup {value : Expr} {lower upper : Option Expr} {p : Pos} {t : Addr} {us : List Value} {x y : Value} {lo hi : Option Int} {Q : Value → Shared → Prop} (st : S env ns h₀ vs l s₀ s) (hm : (t, tupO us) ∈ l) (hx : IsPart x lo) (hy : IsPart y hi) (hz : us.length ≤ sizeLine)
    (h : ∀ z a s', S env ns h₀ vs (z ++ l) s₀ s' → (∀ l' : Lg, (t, tupO us) ∈ l' → (a, tupO (sl lo hi us)) ∈ z ++ l') → Q (.ref a) s') :
    wpAny (model prog w) A (subscriptTail value (.Slice lower upper none p) (.ref t) (.ref s.heap.objs.size)) Q E { s with heap := s.heap.push { cls := .type "slice", data := .fields #[x, y, .none] } } := by
  have st1 : S env ns h₀ vs l s₀ { s with heap := s.heap.push { cls := .type "slice", data := .fields #[x, y, .none] } } := (st.push { cls := .type "slice", data := .fields #[x, y, .none] } rfl).drop
  have hsl : (s.heap.push { cls := .type "slice", data := .fields #[x, y, .none] }).IsSliceOf s.heap.objs.size x y .none := Heap.IsSliceOf.new ..
  refine tail_any (st1.tup hm).typeIs slot_tuple_getitem.lookup (getItem_tuple_sl (st1.tup hm) hsl hx hy (fun e => h [] t _ st1 (fun l' hl => by rw [e]; exact hl)) (h [_] _ _ (st1.push _ rfl) fun l' x => .head _) hz) rfl

theorem g_item_tup {value slice : Expr} {t : Addr} {us : List Value} {k : Int} {u : Tok} {j : Nat} {x : Value} {Q : Value → Shared → Prop} (st : S env ns h₀ vs l s₀ s) (hm : (t, tupO us) ∈ l) (hlo : -(2 ^ 63) ≤ k) (hhi : k < 2 ^ 63) (hj : seqIndex? k us.length = some j) (hx : us[j]? = some x) (h : Q x s)
    (hs : autoParam (subscripted slice false (.ref t) (.int k u) = operate [.ref t, .int k u] (getItem (.ref t) (.int k u))) tWur) :
    wpAny (model prog w) A (subscriptTail value slice (.ref t) (.int k u)) Q E s :=
  tail_any (st.tup hm).typeIs slot_tuple_getitem.lookup (PyProof.Rows.getItem_tuple (st.tup hm) hlo hhi (by simpa using hj) (by simpa using hx) h) hs

theorem g_neg1 {i : Int} {k pos pos'} {Q : Value → Shared → Prop} (st : S env ns h₀ vs l s₀ s) (h : ∀ t s', S env ns h₀ vs l s₀ s' → Q (.int (-i) t) s') : wpAny (model prog w) A (eval (.UnaryOp .USub (.Constant (.int i) k pos) pos') env) Q E s :=
  wpAny_UnaryOp (g_int st fun t s' st' => neg_int (h _ _ (st'.tok _)))

theorem seqIndex_last {n : Nat} (h : 0 < n) : seqIndex? (-1) n = some (n - 1) := by
  unfold seqIndex?
  have e : ((-1 : Int) < 0) := by lia
  simp only [e, if_true]
  have h1 : (0 : Int) ≤ -1 + (n : Int) := by lia
  have h2 : -1 + (n : Int) < (n : Int) := oPred n
  simp only [h1, h2, decide_true, Bool.and_self, if_true]
  congr 1
  lia
end
end Mine.Internal
end
section
set_option tactic.hygienic false
open PySem PySem.W PySem.Calls PyProof.Rows
set_option maxRecDepth 100000
namespace Mine.Internal
section
variable {prog : Program} {w : World} {A : Around} {E : Value → Shared → Prop} {env : Env} {ns : List Str} {h₀ : Heap} {vs : List (Option Value)} {l : Lg} {s₀ s : Shared}
  {K : Frag} {p : Program} {loose : List Str} {mean : ExcName → Option Value} {mg mb : Str → Option Value} {d u : Nat}

theorem g_builtin {x : Str} {pos : Pos} {v : Value} {Q : Value → Shared → Prop} (fn : Fn env ns) (cx : Cx K p loose mean mg mb d u A env h₀) (st : S env ns h₀ vs l s₀ s) (e : nsIn K mainGlobals x = some none) (hv : bootBuiltins x = some v) (hn : x ≠ "__name__")
    (hx : env.kindOf x = some .globalImplicit) (hd : (x == ("__debug__" : Str)) = false) (h : Q v s) : wpAny (model prog w) A (eval (.Name x pos) env) Q E s :=
  Name_function_global fn.kind hx (loadGlobal_builtin (by rw [fn.glob]; exact cx.top.g.keeps st.fr.keep) (mg_none_of cx.x cx.top.g e) (by rw [fn.bis]; exact cx.top.b.keeps st.fr.keep) ((cx.top.builtins x hn).trans hv) h) hd
theorem g_global {x : Str} {pos : Pos} {v : Value} {Q : Value → Shared → Prop} (fn : Fn env ns) (cx : Cx K p loose mean mg mb d u A env h₀) (st : S env ns h₀ vs l s₀ s) (e : nsIn K mainGlobals x = some (some v))
    (hx : env.kindOf x = some .globalImplicit) (hd : (x == ("__debug__" : Str)) = false) (h : Q v s) : wpAny (model prog w) A (eval (.Name x pos) env) Q E s :=
  Name_function_global fn.kind hx (loadGlobal_global (by rw [fn.glob]; exact cx.top.g.keeps st.fr.keep) (mg_of cx.x cx.top.g e) h) hd

theorem S.keepExt {h : Heap} {t : Nat} {z : Addr} (st : S env ns h₀ vs l s₀ s) (he : Heap.ExtBut z s.heap h) (hz : s.heap.objs.size ≤ z) : S env ns h₀ vs l s₀ { s with heap := h, toks := t } :=
  st.keep fun b o hb e => he b o (Nat.ne_of_lt (Nat.lt_of_lt_of_le hb hz)) e

theorem g_unpack {elts : List Expr} {x1} {pos : Pos} {t : Addr} {us : List Value} {Q : Unit → Shared → Prop} (hh : A.handled = none) (st : S env ns h₀ vs l s₀ s) (hm : (t, tupO us) ∈ l)
    (hn : (assignEach elts env).length = us.length) (hstar : (assignEach elts env).findIdx? (·.1) = none)
    (h : ∀ s', S env ns h₀ vs l s₀ s' → wpAny (model prog w) A (assignInOrder ((assignEach elts env).map (·.2)) us) Q E s') : wpAny (model prog w) A (assign (.Tuple elts x1 pos) env (.ref t)) Q E s :=
  assign_Tuple_tuple hh (st.tup hm) (by rw [List.size_toArray]; exact hn) hstar fun h' he => h _ (st.keepExt (t := s.toks) he (Nat.le_refl _))

theorem g_unpackItems {t : Addr} {us : List Value} {n : Nat} {Q : List Value → Shared → Prop} (hh : A.handled = none) (st : S env ns h₀ vs l s₀ s) (hm : (t, tupO us) ∈ l) (hn : n = us.length)
    (h : ∀ s', S env ns h₀ vs l s₀ s' → Q us s') : wpAny (model prog w) A (unpackItems (.ref t) n none) Q E s := by
  have hsz : us.toArray.size = us.length := List.size_toArray
  subst hn
  rw [← hsz]
  exact unpackItems_tuple hh (st.tup hm) fun h' he => h _ (st.keepExt (t := s.toks) he (Nat.le_refl _))

theorem g_set_call {pos fpos : Pos} {Q : Value → Shared → Prop} (fn : Fn env ns) (cx : Cx K p loose mean mg mb d u A env h₀) (st : S env ns h₀ vs l s₀ s) (e : nsIn K mainGlobals "set" = some none) (hx : env.kindOf "set" = some .globalImplicit)
    (h : ∀ a led s', S env ns h₀ vs ((a, freshSet led) :: l) s₀ s' → Q (.ref a) s') : wpAny (model prog w) A (eval (.Call (.Name "set" fpos) [] [] pos) env) Q E s :=
  Call_ (g_builtin fn cx st e boot_set (by decide) hx (by decide) (callWith_type0 (g_newset st h)))

end
end Mine.Internal
end
section
set_option tactic.hygienic false
open PySem PySem.W PySem.Calls PyProof.Rows
set_option maxRecDepth 100000
namespace Mine.Internal
section
variable {M : Model} {prog : Program} {w : World} {A : Around} {E : Value → Shared → Prop} {env : Env} {ns : List Str} {h₀ : Heap} {vs : List (Option Value)} {l : Lg} {s₀ s : Shared}
  {K : Frag} {p : Program} {loose : List Str} {mean : ExcName → Option Value} {mg mb : Str → Option Value} {d u : Nat}

theorem w_nil {Q : Flow → Shared → Prop} (h : Q .next s) : W M A (execs [] env) Q E s := .mk (wpAny_execs_nil h)
theorem w_cons {st : Stmt} {rest : List Stmt} {Q : Flow → Shared → Prop} (h : W M A (exec st env) (fun f s' => match f with | .next => W M A (execs rest env) Q E s' | f => Q f s') E s) : W M A (execs (st :: rest) env) Q E s := by
  with_unfolding_all exact wpAny_execs_cons h
theorem w_if {test : Expr} {body orelse : List Stmt} {pos : Pos} {Q : Flow → Shared → Prop} (h : W M A (isTrue test env (eval test env)) (fun b s₂ => if b then W M A (execs body env) Q E s₂ else W M A (execs orelse env) Q E s₂) E s) :
    W M A (exec (.If test body orelse pos) env) Q E s := by with_unfolding_all exact wpAny_If h
theorem w_not {x : Expr} {pos : Pos} {whole : Sem Value} {Q : Bool → Shared → Prop} (h : W M A (isTrue x env (eval x env)) (fun b s₁ => Q (!b) s₁) E s) : W M A (isTrue (.UnaryOp .Not x pos) env whole) Q E s := by with_unfolding_all exact wpAny_isTrue_Not h
theorem w_plain {e : Expr} {whole : Sem Value} {Q : Bool → Shared → Prop} (h : W M A whole (fun v s₁ => W M A (truthy v) Q E s₁) E s)
    (he : autoParam (isTrue e env whole = (do let v ← whole; standAt e.pos; holding [v] (truthy v))) tRfl) : W M A (isTrue e env whole) Q E s := by with_unfolding_all exact isTrue_plain h he
theorem w_tbool {b : Bool} {Q : Bool → Shared → Prop} (h : Q b s) : W M A (truthy (.bool b)) Q E s := .mk (wpAny_truthy_bool h)
theorem w_testcmp {l r : Expr} {op : CmpOp} {pos : Pos} {whole : Sem Value} {Q : Bool → Shared → Prop} (h : W M A (eval l env) (fun a s₁ => W M A (eval r env) (fun b s₂ => W M A (compareOp op a b) (fun c s₃ => W M A (truthy c) Q E s₃) E s₂) E s₁) E s)
    (hm : autoParam (behindInMarks op r = false) tWur) : W M A (isTrue (.Compare l [op] [r] pos) env whole) Q E s := by with_unfolding_all exact wpAny_isTrue_Compare1 h hm
theorem w_cmp {l r : Expr} {op : CmpOp} {pos : Pos} {Q : Value → Shared → Prop} (h : W M A (eval l env) (fun a s₁ => W M A (eval r env) (fun b s₂ => W M A (compareOp op a b) Q E s₂) E s₁) E s)
    (hm : autoParam (behindInMarks op r = false) tWur) : W M A (eval (.Compare l [op] [r] pos) env) Q E s := by with_unfolding_all exact wpAny_Compare1 h hm
theorem w_binop {l r : Expr} {op : Operator} {pos : Pos} {Q : Value → Shared → Prop} (h : W M A (eval l env) (fun a s₁ => W M A (eval r env) (fun b s₂ => W M A (binaryOp op a b) Q E s₂) E s₁) E s) :
    W M A (eval (.BinOp l op r pos) env) Q E s := by with_unfolding_all exact wpAny_BinOp h
theorem w_ret {e : Expr} {pos : Pos} {Q : Flow → Shared → Prop} (h : W M A (eval e env) (fun v => Q (.ret v)) E s) : W M A (exec (.Return (some e) pos) env) Q E s := by with_unfolding_all exact wpAny_Return_some h
theorem w_ret0 {pos : Pos} {Q : Flow → Shared → Prop} (h : Q (.ret .none) s) : W M A (exec (.Return none pos) env) Q E s := .mk (wpAny_Return_none h)
theorem w_or {x y : Expr} {pos : Pos} {Q : Value → Shared → Prop} (h : W M A (eval x env) (fun v s₁ => W M A (truthy v) (fun t s₂ => if t then Q v s₂ else W M A (eval y env) Q E s₂) E s₁) E s) : W M A (eval (.BoolOp .Or [x, y] pos) env) Q E s := by
  with_unfolding_all exact wpAny_Or2 h
theorem w_and {x y : Expr} {pos : Pos} {Q : Value → Shared → Prop} (h : W M A (eval x env) (fun v s₁ => W M A (truthy v) (fun t s₂ => if t then W M A (eval y env) Q E s₂ else Q v s₂) E s₁) E s) : W M A (eval (.BoolOp .And [x, y] pos) env) Q E s := by
  with_unfolding_all exact wpAny_And2 h
theorem w_ifexp {test body orelse : Expr} {pos : Pos} {Q : Value → Shared → Prop} (h : W M A (isTrue test env (eval test env)) (fun b s₁ => if b then W M A (eval body env) Q E s₁ else W M A (eval orelse env) Q E s₁) E s) :
    W M A (eval (.IfExp test body orelse pos) env) Q E s := by with_unfolding_all exact wpAny_IfExp h
theorem w_subE {value slice : Expr} {pos : Pos} {Q : Value → Shared → Prop} (h : W M A (eval value env) (fun o s₁ => W M A (eval slice env) (fun i s₂ => W M A (subscriptTail value slice o i) Q E s₂) E s₁) E s) :
    W M A (eval (.Subscript value slice pos) env) Q E s := by with_unfolding_all exact Subscript_ h
theorem w_attr {n attr : Str} {np pos : Pos} {Q : Value → Shared → Prop} (h : W (model prog w) A (eval (.Name n np) env) (fun o s₁ => W (model prog w) A (getAttr o attr true) Q E s₁) E s) : W (model prog w) A (eval (.Attribute (.Name n np) attr pos) env) Q E s := by
  with_unfolding_all exact Attribute_name h
theorem w_aname {x : Str} {pos : Pos} {v : Value} {Q : Unit → Shared → Prop} (h : W M A (storeName env x v) Q E s) : W M A (assign (.Name x pos) env v) Q E s := by with_unfolding_all exact wpAny_assign_Name h
theorem w_bind {x : Str} {v : Value} {Q : Unit → Shared → Prop} (h : W M A (storeName env x v) Q E s) : W M A (bindName env x v) Q E s := by with_unfolding_all exact bindName_ h
theorem w_inorder0 {xs : List Value} {Q : Unit → Shared → Prop} (h : Q () s) : W M A (assignInOrder [] xs) Q E s := .mk (assignInOrder_nil h)
theorem w_inorder {t : Value → Sem Unit} {ts : List (Value → Sem Unit)} {x : Value} {xs : List Value} {Q : Unit → Shared → Prop} (h : W M A (t x) (fun x s₁ => W M A (assignInOrder ts xs) Q E s₁) E s) : W M A (assignInOrder (t :: ts) (x :: xs)) Q E s := by
  with_unfolding_all exact assignInOrder_cons h
theorem w_swapped {elts : List Expr} {k : Nat} {tpos : Pos} {value : Expr} {pos : Pos} (names : List Str) {Q : Flow → Shared → Prop}
    (h : W M A (eval value env) (fun v s₁ => W M A (unpackItems v names.length none) (fun items s₂ => W M A (assignInOrder (names.reverse.map fun n => bindName env n) items.reverse) (fun x => Q .next) E s₂) E s₁) E s)
    (hs : swapsWithSole [.Tuple elts k tpos] value pos.line env = pure false) (hw : swappedStores [.Tuple elts k tpos] value env = pure (some names)) : W M A (exec (.Assign [.Tuple elts k tpos] value pos) env) Q E s := by
  with_unfolding_all exact Assign_Tuple_swapped h hs hw
theorem w_assignTup {elts : List Expr} {k : Nat} {tpos : Pos} {value : Expr} {pos : Pos} {Q : Flow → Shared → Prop} (h : W M A (eval value env) (fun v s₁ => W M A (assign (.Tuple elts k tpos) env v) (fun x => Q .next) E s₁) E s)
    (hs : autoParam (swapsWithSole [.Tuple elts k tpos] value pos.line env = pure false) tRfl) (hw : autoParam (swappedStores [.Tuple elts k tpos] value env = pure none) tRfl) : W M A (exec (.Assign [.Tuple elts k tpos] value pos) env) Q E s := by
  with_unfolding_all exact Assign_Tuple h hs hw
theorem w_tupleE {elts : List Expr} {k : Nat} {pos : Pos} {Q : Value → Shared → Prop} (h : W M A (spliced (backTo pos (starEach elts env))) (fun vs s₁ => W M A (newTuple vs) Q E s₁) E s) : W M A (eval (.Tuple elts k pos) env) Q E s := by
  with_unfolding_all exact Tuple_ h
theorem w_listE {elts : List Expr} {pos : Pos} {Q : Value → Shared → Prop} (h : W M A (spliced (backTo pos (starEach elts env))) (fun vs s₁ => W M A (newList vs) Q E s₁) E s) : W M A (eval (.List elts pos) env) Q E s := by
  with_unfolding_all exact List_ h
theorem w_args0 {pos : Pos} {Q : List Value → Shared → Prop} (h : Q [] s) : W M A (spliced (backTo pos (starEach [] env))) Q E s := .mk (args_nil h)
theorem w_args {e : Expr} {rest : List Expr} {pos : Pos} {Q : List Value → Shared → Prop} (h : W M A (eval e env) (fun v s₁ => W M A (spliced (backTo pos (starEach rest env))) (fun vs s₂ => Q (v :: vs) s₂) E s₁) E s)
    (he : autoParam (starEach (e :: rest) env = (false, eval e env) :: starEach rest env) tRfl) : W M A (spliced (backTo pos (starEach (e :: rest) env))) Q E s := by
  with_unfolding_all exact args_cons h he
theorem w_exprS {e : Expr} {pos : Pos} {Q : Flow → Shared → Prop} (hi : interactive env = false) (h : W M A (eval e env) (fun v s' => match v with | .ref _ => False | _ => Q .next s') E s) (hs : autoParam (swapsWith e none pos.line env = pure false) tRfl) :
    W M A (exec (.Expr e pos) env) Q E s := by with_unfolding_all exact wpAny_Expr h hi hs
theorem w_meth {o : Expr} {name : Str} {apos pos : Pos} {args : List Expr} {pl : Sem Bool} {Q : Value → Shared → Prop}
    (h : W M A (eval o env) (fun ov s₁ => W M A (getMethod ov name pl) (fun fx s₂ => W M A (callWith pos fx.1 fx.2 (backTo pos (starEach args env)) []) Q E s₂) E s₁) E s)
    (he : autoParam (eval (.Call (.Attribute o name apos) args [] pos) env = (do
      let ov ← eval o env
      standAt apos.atName
      let (f, first) ← holding [ov] (getMethod ov name pl)
      callWith pos f first (backTo pos (starEach args env)) [])) tRfl) : W M A (eval (.Call (.Attribute o name apos) args [] pos) env) Q E s := by with_unfolding_all exact MethodCall_ h he
theorem w_methKW {o : Expr} {name : Str} {apos pos : Pos} {args : List Expr} {kws : List Keyword} {pl : Sem Bool} {Q : Value → Shared → Prop}
    (h : W M A (eval o env) (fun ov s₁ => W M A (getMethod ov name pl) (fun fx s₂ => W M A (callWith pos fx.1 fx.2 (backTo pos (starEach args env)) (backToKw pos (keywordEach kws env))) Q E s₂) E s₁) E s)
    (he : autoParam (eval (.Call (.Attribute o name apos) args kws pos) env = (do
      let ov ← eval o env
      standAt apos.atName
      let (f, first) ← holding [ov] (getMethod ov name pl)
      callWith pos f first (backTo pos (starEach args env)) (backToKw pos (keywordEach kws env)))) tRfl) : W M A (eval (.Call (.Attribute o name apos) args kws pos) env) Q E s := by with_unfolding_all exact methodCall_KW h he
theorem w_callE {func : Expr} {args : List Expr} {pos : Pos} {Q : Value → Shared → Prop} (h : W M A (eval func env) (fun f s₁ => W M A (callWith pos f [] (backTo pos (starEach args env)) []) Q E s₁) E s)
    (he : autoParam (eval (.Call func args [] pos) env = (do callWith pos (← eval func env) [] (backTo pos (starEach args env)) (backToKw pos (keywordEach [] env)))) tRfl) : W M A (eval (.Call func args [] pos) env) Q E s := by with_unfolding_all exact Call_ h he
theorem w_cwBuiltin0 {pos : Pos} {id : String} {first : List Value} {Q : Value → Shared → Prop} (h : W M A (call (.builtin id) first) Q E s) : W M A (callWith pos (.builtin id) first (backTo pos (starEach [] env)) []) Q E s := by with_unfolding_all exact callWith_method0 h
theorem w_cwBuiltin {pos : Pos} {id : String} {first : List Value} {e : Expr} {rest : List Expr} {Q : Value → Shared → Prop} (h : W M A (spliced (backTo pos (starEach (e :: rest) env))) (fun vs s₁ => W M A (call (.builtin id) (first ++ vs)) Q E s₁) E s)
    (he : autoParam (starEach (e :: rest) env = (false, eval e env) :: starEach rest env) tRfl) (hplain : autoParam ((backTo pos (starEach rest env)).any (·.1) = false) tRfl) : W M A (callWith pos (.builtin id) first (backTo pos (starEach (e :: rest) env)) []) Q E s := by
  with_unfolding_all exact callWith_method1 h he hplain
theorem w_cwType {pos : Pos} {T : String} {e : Expr} {rest : List Expr} {Q : Value → Shared → Prop} (h : W M A (spliced (backTo pos (starEach (e :: rest) env))) (fun vs s₁ => W M A (call (.type T) vs) Q E s₁) E s)
    (he : autoParam (starEach (e :: rest) env = (false, eval e env) :: starEach rest env) tRfl) (hplain : autoParam ((backTo pos (starEach rest env)).any (·.1) = false) tRfl) : W M A (callWith pos (.type T) [] (backTo pos (starEach (e :: rest) env)) []) Q E s := by
  with_unfolding_all exact PyProof.Rows.callWith_type1 h he hplain
theorem w_for {target iter : Expr} {body : List Stmt} {pos : Pos} {Q : Flow → Shared → Prop} (h : W (model prog w) A (eval iter env) (fun x s₁ => W (model prog w) A (pyIter x) (ForRest prog w A env E target body Q) E s₁) E s)
    (hs : ∀ x, foldedSetIterable iter env x = pure x := by intro _; rfl) : W (model prog w) A (exec (.For target iter body [] pos) env) Q E s := by
  with_unfolding_all exact wpAny_For h hs

theorem w_assignSub {o i value : Expr} {pos' pos : Pos} {Q : Flow → Shared → Prop}
    (h : W M A (eval value env) (fun v s₁ => W M A (eval o env) (fun ov s₂ => W M A (eval i env) (fun iv s₃ => W M A (setItem ov iv v) (fun x => Q .next) E s₃) E s₂) E s₁) E s)
    (hs : autoParam (swapsWith value (some (.Subscript o i pos')) pos.line env = pure false) tRfl) : W M A (exec (.Assign [.Subscript o i pos'] value pos) env) Q E s := by with_unfolding_all exact wpAny_Assign_Subscript h hs
theorem w_assignAttr {o : Expr} {attr : Str} {value : Expr} {pos' pos : Pos} {Q : Flow → Shared → Prop}
    (h : W M A (eval value env) (fun v s₁ => W M A (eval o env) (fun ov s₂ => W M A (setAttr ov attr v) (fun x => Q .next) E s₂) E s₁) E s)
    (hs : autoParam (swapsWith value (some (.Attribute o attr pos')) pos.line env = pure false) tRfl) : W M A (exec (.Assign [.Attribute o attr pos'] value pos) env) Q E s := by with_unfolding_all exact plainObj_wpAny_Assign_Attribute h hs
theorem w_name {x : Str} {pos : Pos} {v : Value} {Q : Value → Shared → Prop} (i : Nat) (fn : Fn env ns) (st : S env ns h₀ vs l s₀ s) (hn : ns[i]? = some x) (hv : vs[i]? = some (some v)) (h : Q v s) :
    W (model prog w) A (eval (.Name x pos) env) Q E s := by
  with_unfolding_all exact g_name i fn st hn hv h
theorem w_store {x : Str} {v : Value} {Q : Unit → Shared → Prop} (i : Nat) (fn : Fn env ns) (st : S env ns h₀ vs l s₀ s) (hn : ns[i]? = some x) (hi : i < vs.length)
    (h : ∀ s', S env ns h₀ (vs.set i (some v)) l s₀ s' → Q () s') : W (model prog w) A (storeName env x v) Q E s := by
  with_unfolding_all exact g_store i fn st hn hi h
theorem w_assign {x : Str} {pos' pos : Pos} {value : Expr} {Q : Flow → Shared → Prop} (i : Nat) (fn : Fn env ns) (hn : ns[i]? = some x)
    (h : W (model prog w) A (eval value env) (fun v s₁ => ∃ vs l, S env ns h₀ vs l s₀ s₁ ∧ i < vs.length ∧ ∀ s', S env ns h₀ (vs.set i (some v)) l s₀ s' → Q .next s') E s)
    (hs : autoParam (swapsWith value (some (.Name x pos')) pos.line env = pure false) tRfl) : W (model prog w) A (exec (.Assign [.Name x pos'] value pos) env) Q E s := by
  with_unfolding_all exact g_assign i fn hn h hs
theorem w_int {i : Int} {k pos} {Q : Value → Shared → Prop} (st : S env ns h₀ vs l s₀ s) (h : ∀ t s', S env ns h₀ vs l s₀ s' → Q (.int i t) s') : W (model prog w) A (eval (.Constant (.int i) k pos) env) Q E s := by
  with_unfolding_all exact g_int st h
theorem w_str {x : Str} {k pos} {Q : Value → Shared → Prop} (st : S env ns h₀ vs l s₀ s) (h : ∀ t s', S env ns h₀ vs l s₀ s' → Q (.str x t) s') : W (model prog w) A (eval (.Constant (.str x) k pos) env) Q E s := by
  with_unfolding_all exact g_str st h
theorem w_bool {b : Bool} {k pos} {Q : Value → Shared → Prop} (h : Q (.bool b) s) : W (model prog w) A (eval (.Constant (.bool b) k pos) env) Q E s := by
  with_unfolding_all exact g_bool h
theorem w_none {k pos} {Q : Value → Shared → Prop} (h : Q .none s) : W (model prog w) A (eval (.Constant .none k pos) env) Q E s := by
  with_unfolding_all exact g_none h
theorem w_add {a b : Int} {t u : Tok} {Q : Value → Shared → Prop} (st : S env ns h₀ vs l s₀ s) (h : ∀ t s', S env ns h₀ vs l s₀ s' → Q (.int (a + b) t) s') : W (model prog w) A (binaryOp .Add (.int a t) (.int b u)) Q E s := by
  with_unfolding_all exact g_add st h
theorem w_mod {a b : Int} {t u : Tok} {Q : Value → Shared → Prop} (hb : b ≠ 0) (st : S env ns h₀ vs l s₀ s) (h : ∀ t s', S env ns h₀ vs l s₀ s' → Q (.int (a.fmod b) t) s') : W (model prog w) A (binaryOp .Mod (.int a t) (.int b u)) Q E s := by
  with_unfolding_all exact g_mod hb st h
theorem w_div {a b : Int} {t u : Tok} {Q : Value → Shared → Prop} (hb : b ≠ 0) (hp : Builtin.divisionGoesByPylong a b = false) (st : S env ns h₀ vs l s₀ s) (h : ∀ t s', S env ns h₀ vs l s₀ s' → Q (.int (a.fdiv b) t) s') : W (model prog w) A (binaryOp .FloorDiv (.int a t) (.int b u)) Q E s := by
  with_unfolding_all exact g_div hb hp st h
theorem w_tuple {es : List Value} {Q : Value → Shared → Prop} (st : S env ns h₀ vs l s₀ s) (h : ∀ a s', S env ns h₀ vs ((a, { cls := .type "tuple", data := .seq es.toArray }) :: l) s₀ s' → Q (.ref a) s') (hsz : autoParam (es.length ≤ sizeLine) tSz) :
    W (model prog w) A (newTuple es) Q E s := by
  with_unfolding_all exact g_tuple st h hsz
theorem w_list {es : List Value} {Q : Value → Shared → Prop} (st : S env ns h₀ vs l s₀ s) (h : ∀ a s', S env ns h₀ vs ((a, { cls := .type "list", data := .seq es.toArray }) :: l) s₀ s' → Q (.ref a) s') (hsz : autoParam (es.length ≤ sizeLine) tSz) :
    W (model prog w) A (newList es) Q E s := by
  with_unfolding_all exact g_list st h hsz
theorem w_tail_dict {value slice : Expr} {a : Addr} {o : Obj} {kvs : List (Str × Value)} {k : Str} {t : Tok} {v : Value} {Q : Value → Shared → Prop} (st : S env ns h₀ vs l s₀ s) (hm : (a, o) ∈ l) (hd : o.IsDictOf (strKind prog w) kvs) (hl : valueAt kvs k = some v)
    (h : ∀ s', S env ns h₀ vs l s₀ s' → Q v s') (hs : autoParam (subscripted slice false (.ref a) (.str k t) = operate [.ref a, .str k t] (getItem (.ref a) (.str k t))) tWur) :
    W (model prog w) A (subscriptTail value slice (.ref a) (.str k t)) Q E s := by
  with_unfolding_all exact g_tail_dict st hm hd hl h hs
theorem w_in_dict {a : Addr} {o : Obj} {kvs : List (Str × Value)} {k : Str} {t : Tok} {Q : Value → Shared → Prop} (st : S env ns h₀ vs l s₀ s) (hm : (a, o) ∈ l) (hd : o.IsDictOf (strKind prog w) kvs) (ha : (a == sysModules) = false)
    (h : ∀ s', S env ns h₀ vs l s₀ s' → Q (.bool (valueAt kvs k).isSome) s') : W (model prog w) A (compareOp .In (.str k t) (.ref a)) Q E s := by
  with_unfolding_all exact g_in_dict st hm hd ha h
theorem w_notin_dict {a : Addr} {o : Obj} {kvs : List (Str × Value)} {k : Str} {t : Tok} {Q : Value → Shared → Prop} (st : S env ns h₀ vs l s₀ s) (hm : (a, o) ∈ l) (hd : o.IsDictOf (strKind prog w) kvs) (ha : (a == sysModules) = false)
    (h : ∀ s', S env ns h₀ vs l s₀ s' → Q (.bool !(valueAt kvs k).isSome) s') : W (model prog w) A (compareOp .NotIn (.str k t) (.ref a)) Q E s := by
  with_unfolding_all exact g_notin_dict st hm hd ha h
theorem w_setitem {a : Addr} {o : Obj} {l' : Obj → Lg} {kvs : List (Str × Value)} {k : Str} {t : Tok} {v : Value} {Q : Unit → Shared → Prop} (st : S env ns h₀ vs l s₀ s) (U : ∀ o', UpdL a o o' l (l' o')) (hd : o.IsDictOf (strKind prog w) kvs) (hsz : kvs.length ≤ sizeLine)
    (h : ∀ o' s', o'.IsDictOf (strKind prog w) (stored kvs k v) → S env ns h₀ vs (l' o') s₀ s' → Q () s') : W (model prog w) A (setItem (.ref a) (.str k t) v) Q E s := by
  with_unfolding_all exact g_setitem st U hd hsz h
theorem w_newdict {pos : Pos} {Q : Value → Shared → Prop} (st : S env ns h₀ vs l s₀ s) (cx : Cx K p loose mean mg mb d u A env h₀)
    (h : ∀ a s', (a == sysModules) = false → S env ns h₀ vs ((a, emptyD) :: l) s₀ s' → Q (.ref a) s') : W (model prog w) A (eval (.Dict [] [] pos) env) Q E s := by
  with_unfolding_all exact g_newdict st cx h
theorem w_dict3 {k1 k2 k3 : Str} {e1 e2 e3 : Expr} {p1 p2 p3 pos : Pos} {c1 c2 c3 : Nat} {Q : Value → Shared → Prop} (st : S env ns h₀ vs l s₀ s) (cx : Cx K p loose mean mg mb d u A env h₀) (hk : [k1, k2, k3].Nodup)
    (h : ∀ a s1, (a == sysModules) = false → S env ns h₀ vs ((a, emptyD) :: l) s₀ s1 → W (model prog w) A (eval e1 env) (fun v1 s2 => ∃ l2, S env ns h₀ vs l2 s₀ s2 ∧ ∀ s2', S env ns h₀ vs l2 s₀ s2' →
      W (model prog w) A (eval e2 env) (fun v2 s3 => ∃ l3, S env ns h₀ vs l3 s₀ s3 ∧ ∀ s3', S env ns h₀ vs l3 s₀ s3' → W (model prog w) A (eval e3 env) (fun v3 s4 =>
        ∃ (l4 : Lg) (l5 : Obj → Lg), S env ns h₀ vs l4 s₀ s4 ∧ (∀ o', UpdL a emptyD o' l4 (l5 o')) ∧ ∀ o' s5, o'.IsDictOf (strKind prog w) [(k1, v1), (k2, v2), (k3, v3)] → S env ns h₀ vs (l5 o') s₀ s5 → Q (.ref a) s5) E s3') E s2') E s1) :
    W (model prog w) A (eval (.Dict [some (.Constant (.str k1) c1 p1), some (.Constant (.str k2) c2 p2), some (.Constant (.str k3) c3 p3)] [e1, e2, e3] pos) env) Q E s := by
  with_unfolding_all exact g_dict3 st cx hk h
theorem w_pop_meth {a : Addr} {o : Obj} {kvs : List (Str × Value)} {pl : Sem Bool} {Q : Value × List Value → Shared → Prop} (st : S env ns h₀ vs l s₀ s) (hm : (a, o) ∈ l) (hd : o.IsDictOf (strKind prog w) kvs) (h : Q (.builtin "dict.pop", [.ref a]) s) : W (model prog w) A (getMethod (.ref a) "pop" pl) Q E s := by
  with_unfolding_all exact g_pop_meth st hm hd h
theorem w_pop {a : Addr} {o : Obj} {l' : Obj → Lg} {kvs : List (Str × Value)} {k : Str} {t : Tok} {v dflt : Value} {Q : Value → Shared → Prop} (st : S env ns h₀ vs l s₀ s) (U : ∀ o', UpdL a o o' l (l' o')) (hd : o.IsDictOf (strKind prog w) kvs) (hsz : kvs.length ≤ sizeLine) (hl : valueAt kvs k = some v)
    (h : ∀ o' s', o'.IsDictOf (strKind prog w) (without kvs k) → S env ns h₀ vs (l' o') s₀ s' → Q v s') : W (model prog w) A (call (.builtin "dict.pop") [.ref a, .str k t, dflt]) Q E s := by
  with_unfolding_all exact g_pop st U hd hsz hl h
theorem w_pop_none {a : Addr} {o : Obj} {kvs : List (Str × Value)} {k : Str} {t : Tok} {dflt : Value} {Q : Value → Shared → Prop} (st : S env ns h₀ vs l s₀ s) (hm : (a, o) ∈ l) (hd : o.IsDictOf (strKind prog w) kvs) (ha : (a == sysModules) = false) (hl : valueAt kvs k = none)
    (h : ∀ s', S env ns h₀ vs l s₀ s' → Q dflt s') : W (model prog w) A (call (.builtin "dict.pop") [.ref a, .str k t, dflt]) Q E s := by
  with_unfolding_all exact g_pop_none st hm hd ha hl h
theorem w_in_set {a : Addr} {o : Obj} {X : Int → Bool} {n : Nat} {k : Int} {t : Tok} {Q : Value → Shared → Prop} (st : S env ns h₀ vs l s₀ s) (hm : (a, o) ∈ l) (hd : o.SetObjOf (intKind prog w) X n) (hn : n < scanBound)
    (h : ∀ s', S env ns h₀ vs l s₀ s' → Q (.bool (X k)) s') : W (model prog w) A (compareOp .In (.int k t) (.ref a)) Q E s := by
  with_unfolding_all exact g_in_set st hm hd hn h
theorem w_add_meth {K : Type} [DecidableEq K] [BEq K] [LawfulBEq K] {knd : KeyKind prog w K} {X : K → Bool} {a : Addr} {o : Obj} {n : Nat} {pl : Sem Bool} {Q : Value × List Value → Shared → Prop} (st : S env ns h₀ vs l s₀ s) (hm : (a, o) ∈ l) (hd : o.SetObjOf knd X n) (hn : n < scanBound)
    (h : Q (.builtin "set.add", [.ref a]) s) : W (model prog w) A (getMethod (.ref a) "add" pl) Q E s := by
  with_unfolding_all exact g_add_meth st hm hd hn h
theorem w_add_int {a : Addr} {o : Obj} {l' : Obj → Lg} {X : Int → Bool} {n : Nat} {k : Int} {t : Tok} {Q : Value → Shared → Prop} (st : S env ns h₀ vs l s₀ s) (U : ∀ o', UpdL a o o' l (l' o')) (hd : o.SetObjOf (intKind prog w) X n) (hn : n + 1 < scanBound)
    (h : ∀ o' s', o'.SetObjOf (intKind prog w) (fun k' => X k' || decide (k' = k)) (if X k then n else n + 1) → S env ns h₀ vs (l' o') s₀ s' → Q .none s') : W (model prog w) A (call (.builtin "set.add") [.ref a, .int k t]) Q E s := by
  with_unfolding_all exact g_add_int st U hd hn h
theorem w_for_list {target : Expr} {body : List Stmt} {t : Addr} {us : List Value} {n : Nat} {Q : Flow → Shared → Prop} (hh : A.handled = none) (st : S env ns h₀ vs l s₀ s) (hm : (t, listO us n) ∈ l)
    (J : Nat → List (Option Value) → Lg → Prop) (h0 : J 0 vs l) (keep : ∀ i vs' l', J i vs' l' → (t, listO us n) ∈ l')
    (turn : ∀ i v vs' l' I o s' E', us[i]? = some v → J i vs' l' → S env ns h₀ vs' ((I, o) :: l') s₀ s' →
      W (model prog w) A (assign target env v) (fun x s2 => W (model prog w) A (execs body env) (LPost env ns h₀ s₀ I o (J (i + 1)) Q) E' s2) E' s')
    (done : ∀ vs' l' s', J us.length vs' l' → S env ns h₀ vs' l' s₀ s' → Q .next s') :
    W (model prog w) A (pyIter (.ref t)) (ForRest prog w A env E target body Q) E s := by
  with_unfolding_all exact g_for_list hh st hm J h0 keep turn done
theorem w_for_tuple {target : Expr} {body : List Stmt} {t : Addr} {us : List Value} {Q : Flow → Shared → Prop} (hh : A.handled = none) (st : S env ns h₀ vs l s₀ s) (hm : (t, tupO us) ∈ l)
    (J : Nat → List (Option Value) → Lg → Prop) (h0 : J 0 vs l) (keep : ∀ i vs' l', J i vs' l' → (t, tupO us) ∈ l')
    (turn : ∀ i v vs' l' I o s' E', us[i]? = some v → J i vs' l' → S env ns h₀ vs' ((I, o) :: l') s₀ s' →
      W (model prog w) A (assign target env v) (fun x s2 => W (model prog w) A (execs body env) (LPost env ns h₀ s₀ I o (J (i + 1)) Q) E' s2) E' s')
    (done : ∀ vs' l' s', J us.length vs' l' → S env ns h₀ vs' l' s₀ s' → Q .next s') :
    W (model prog w) A (pyIter (.ref t)) (ForRest prog w A env E target body Q) E s := by
  with_unfolding_all exact g_for_tuple hh st hm J h0 keep turn done
theorem w_truthy_tuple {t : Addr} {us : List Value} {Q : Bool → Shared → Prop} (st : S env ns h₀ vs l s₀ s) (hm : (t, tupO us) ∈ l) (hz : us.length ≤ sizeLine) (h : ∀ s', S env ns h₀ vs l s₀ s' → Q (!us.isEmpty) s') : W (model prog w) A (truthy (.ref t)) Q E s := by
  with_unfolding_all exact g_truthy_tuple st hm hz h
theorem w_subslice {value : Expr} {lower upper : Option Expr} {p pos : Pos} {Q : Value → Shared → Prop}
    (h : W (model prog w) A (eval value env) (fun o s₁ => W (model prog w) A (evalPart lower env) (fun x s₂ => W (model prog w) A (evalPart upper env) (fun y s₃ =>
      W (model prog w) A (subscriptTail value (.Slice lower upper none p) o (.ref s₃.heap.objs.size)) Q E { s₃ with heap := s₃.heap.push { cls := .type "slice", data := .fields #[x, y, .none] } }) E s₂) E s₁) E s) :
    W (model prog w) A (eval (.Subscript value (.Slice lower upper none p) pos) env) Q E s := by
  with_unfolding_all exact g_subslice h
theorem wpart_e {e : Expr} {Q : Value → Shared → Prop} (h : W (model prog w) A (eval e env) Q E s) : W (model prog w) A (evalPart (some e) env) Q E s := by
  with_unfolding_all exact part_e h
theorem wpart_0 {Q : Value → Shared → Prop} (h : Q .none s) : W (model prog w) A (evalPart none env) Q E s := by
  with_unfolding_all exact part_0 h
theorem w_slice_tup {value : Expr} {lower upper : Option Expr} {p : Pos} {t : Addr} {us : List Value} {x y : Value} {lo hi : Option Int} {Q : Value → Shared → Prop} (st : S env ns h₀ vs l s₀ s) (hm : (t, tupO us) ∈ l) (hx : IsPart x lo) (hy : IsPart y hi) (hz : us.length ≤ sizeLine)
    (h : ∀ z a s', S env ns h₀ vs (z ++ l) s₀ s' → (∀ l' : Lg, (t, tupO us) ∈ l' → (a, tupO (sl lo hi us)) ∈ z ++ l') → Q (.ref a) s') :
    W (model prog w) A (subscriptTail value (.Slice lower upper none p) (.ref t) (.ref s.heap.objs.size)) Q E { s with heap := s.heap.push { cls := .type "slice", data := .fields #[x, y, .none] } } := by
  with_unfolding_all exact g_slice_tup st hm hx hy hz h
theorem w_item_tup {value slice : Expr} {t : Addr} {us : List Value} {k : Int} {u : Tok} {j : Nat} {x : Value} {Q : Value → Shared → Prop} (st : S env ns h₀ vs l s₀ s) (hm : (t, tupO us) ∈ l) (hlo : -(2 ^ 63) ≤ k) (hhi : k < 2 ^ 63) (hj : seqIndex? k us.length = some j) (hx : us[j]? = some x) (h : Q x s)
    (hs : autoParam (subscripted slice false (.ref t) (.int k u) = operate [.ref t, .int k u] (getItem (.ref t) (.int k u))) tWur) :
    W (model prog w) A (subscriptTail value slice (.ref t) (.int k u)) Q E s := by
  with_unfolding_all exact g_item_tup st hm hlo hhi hj hx h hs
theorem w_neg1 {i : Int} {k pos pos'} {Q : Value → Shared → Prop} (st : S env ns h₀ vs l s₀ s) (h : ∀ t s', S env ns h₀ vs l s₀ s' → Q (.int (-i) t) s') : W (model prog w) A (eval (.UnaryOp .USub (.Constant (.int i) k pos) pos') env) Q E s := by
  with_unfolding_all exact g_neg1 st h
theorem w_builtin {x : Str} {pos : Pos} {v : Value} {Q : Value → Shared → Prop} (fn : Fn env ns) (cx : Cx K p loose mean mg mb d u A env h₀) (st : S env ns h₀ vs l s₀ s) (e : nsIn K mainGlobals x = some none) (hv : bootBuiltins x = some v) (hn : x ≠ "__name__")
    (hx : env.kindOf x = some .globalImplicit) (hd : (x == ("__debug__" : Str)) = false) (h : Q v s) : W (model prog w) A (eval (.Name x pos) env) Q E s := by
  with_unfolding_all exact g_builtin fn cx st e hv hn hx hd h
theorem w_global {x : Str} {pos : Pos} {v : Value} {Q : Value → Shared → Prop} (fn : Fn env ns) (cx : Cx K p loose mean mg mb d u A env h₀) (st : S env ns h₀ vs l s₀ s) (e : nsIn K mainGlobals x = some (some v))
    (hx : env.kindOf x = some .globalImplicit) (hd : (x == ("__debug__" : Str)) = false) (h : Q v s) : W (model prog w) A (eval (.Name x pos) env) Q E s := by
  with_unfolding_all exact g_global fn cx st e hx hd h
theorem w_unpack {elts : List Expr} {x1} {pos : Pos} {t : Addr} {us : List Value} {Q : Unit → Shared → Prop} (hh : A.handled = none) (st : S env ns h₀ vs l s₀ s) (hm : (t, tupO us) ∈ l)
    (hn : (assignEach elts env).length = us.length) (hstar : (assignEach elts env).findIdx? (·.1) = none)
    (h : ∀ s', S env ns h₀ vs l s₀ s' → W (model prog w) A (assignInOrder ((assignEach elts env).map (·.2)) us) Q E s') : W (model prog w) A (assign (.Tuple elts x1 pos) env (.ref t)) Q E s := by
  with_unfolding_all exact g_unpack hh st hm hn hstar h
theorem w_unpackItems {t : Addr} {us : List Value} {n : Nat} {Q : List Value → Shared → Prop} (hh : A.handled = none) (st : S env ns h₀ vs l s₀ s) (hm : (t, tupO us) ∈ l) (hn : n = us.length)
    (h : ∀ s', S env ns h₀ vs l s₀ s' → Q us s') : W (model prog w) A (unpackItems (.ref t) n none) Q E s := by
  with_unfolding_all exact g_unpackItems hh st hm hn h
theorem w_set_call {pos fpos : Pos} {Q : Value → Shared → Prop} (fn : Fn env ns) (cx : Cx K p loose mean mg mb d u A env h₀) (st : S env ns h₀ vs l s₀ s) (e : nsIn K mainGlobals "set" = some none) (hx : env.kindOf "set" = some .globalImplicit)
    (h : ∀ a led s', S env ns h₀ vs ((a, freshSet led) :: l) s₀ s' → Q (.ref a) s') : W (model prog w) A (eval (.Call (.Name "set" fpos) [] [] pos) env) Q E s := by
  with_unfolding_all exact g_set_call fn cx st e hx h
end
end Mine.Internal
end
section
set_option tactic.hygienic false
open PySem PySem.W PySem.Calls PyProof.Rows
set_option maxRecDepth 100000
namespace Mine.Internal

noncomputable abbrev Way := List Str

noncomputable def strOf : Value → Option Str
  | .str s _ => some s
  | _ => none

noncomputable def WayV (us : List Value) (way : Way) : Prop := us.map strOf = way.map some

theorem strOf_some {v : Value} {k : Str} (h : strOf v = some k) : ∃ t, v = .str k t := by
  cases v with
  | str k' t => cases h; exact ⟨_, rfl⟩
  | _ => exact absurd h (Option.some_ne_none k).symm
theorem WayV.ind {P : List Value → Way → Prop} (h0 : P [] []) (h1 : ∀ k t us way, P us way → P (.str k t :: us) (k :: way)) : ∀ {us : List Value} {way : Way}, WayV us way → P us way := by
  intro us
  induction us with
  | nil =>
    intro way e
    cases way with
    | nil => exact h0
    | cons => cases e
  | cons v us ih =>
    intro way e
    cases way with
    | nil => cases e
    | cons k way =>
      obtain ⟨t, rfl⟩ := strOf_some (List.cons.inj e).1
      exact h1 k t us way (ih (List.cons.inj e).2)
theorem WayV.length {us : List Value} {way : Way} (h : WayV us way) : us.length = way.length := by
  have := congrArg List.length h
  simpa using this
theorem WayV.nil : WayV [] [] := rfl
theorem WayV.get {us : List Value} {way : Way} (h : WayV us way) {i : Nat} {v : Value} (hv : us[i]? = some v) : ∃ k t, v = .str k t ∧ way[i]? = some k := by
  have e := congrArg (·[i]?) h
  simp only [List.getElem?_map, hv, Option.map_some] at e
  cases hw : way[i]? with
  | none => rw [hw] at e; simp at e
  | some k =>
    rw [hw] at e
    obtain ⟨t, rfl⟩ := strOf_some (Option.some.inj e)
    exact ⟨_, _, rfl, rfl⟩
theorem WayV.take {us : List Value} {way : Way} (h : WayV us way) (n : Nat) : WayV (us.take n) (way.take n) := by
  unfold WayV at h ⊢
  rw [List.map_take, List.map_take, h]
theorem WayV.drop {us : List Value} {way : Way} (h : WayV us way) (n : Nat) : WayV (us.drop n) (way.drop n) := by
  unfold WayV at h ⊢
  rw [List.map_drop, List.map_drop, h]
theorem WayV.dropLast {us : List Value} {way : Way} (h : WayV us way) : WayV us.dropLast way.dropLast := by
  rw [List.dropLast_eq_take, List.dropLast_eq_take, h.length]
  exact h.take _
theorem WayV.append {us vs : List Value} {x y : Way} (h : WayV us x) (h' : WayV vs y) : WayV (us ++ vs) (x ++ y) := by
  unfold WayV at h h' ⊢
  rw [List.map_append, List.map_append, h, h']
theorem WayV.one (k : Str) (t : Tok) : WayV [.str k t] [k] := rfl

noncomputable abbrev NS := (Int → Bool) × (Int → Bool)
noncomputable abbrev AbsT := Way → Option NS

noncomputable def isGo (τ : AbsT) : Way → List Str → Int → Bool
  | _, [], _ => false
  | pre, [k], f => match τ (pre ++ [k]) with | none => false | some (X, Y) => X f || Y f
  | pre, k :: k' :: r, f => match τ (pre ++ [k]) with | none => false | some (X, Y) => if Y f then true else isGo τ (pre ++ [k]) (k' :: r) f
noncomputable def isW (τ : AbsT) (way : Way) (f : Int) : Bool := isGo τ [] way f

structure Nd where
  n : Addr
  fl : Addr
  rc : Addr
  nd : Addr
  on : Obj
  ofl : Obj
  orc : Obj
  ond : Obj
noncomputable def Nd.cells (x : Nd) : Lg := [(x.n, x.on), (x.fl, x.ofl), (x.rc, x.orc), (x.nd, x.ond)]

structure FO where
  f : Addr
  fd : Addr
  root : Addr
  pd : Addr
  ofd : Obj
  oroot : Obj
  opd : Obj
  nodes : List (Way × Nd)
noncomputable def FO.cells (F : FO) : Lg := (F.f, instObj 66 F.fd) :: (F.fd, F.ofd) :: (F.root, F.oroot) :: (F.pd, F.opd) :: F.nodes.flatMap fun p => p.2.cells
noncomputable def FO.look (F : FO) (w : Way) : Option Nd := (F.nodes.find? fun p => decide (p.1 = w)).map (·.2)
noncomputable def FO.dictAt (F : FO) (w : Way) : Option (Addr × Obj) := if w = [] then some (F.root, F.oroot) else (F.look w).map fun x => (x.nd, x.ond)

noncomputable def cnt (X : Int → Bool) : Nat := (if X 0 then 1 else 0) + (if X 1 then 1 else 0)
theorem cnt_le (X : Int → Bool) : cnt X ≤ 2 := by unfold cnt; split <;> split <;> lia
noncomputable def IS (prog : Program) (w : World) (o : Obj) (X : Int → Bool) : Prop := o.SetObjOf (intKind prog w) X (cnt X) ∧ ∀ k, X k = true → k = 0 ∨ k = 1

noncomputable def nm : List Str := ["flags", "recursive_flags", "nested"]

structure FO.Is (prog : Program) (w : World) (M : List Str) (F : FO) (τ : AbsT) : Prop where
  fd : ∃ a0 t0 a1 t1 n, F.ofd = dictOf [⟨a0, .str "_flags" t0, .ref F.root⟩, ⟨a1, .str "_pending_flags" t1, .ref F.pd⟩] n
  low : ∀ v a o, F.dictAt v = some (a, o) → (a == sysModules) = false
  keys : (F.nodes.map (·.1)).Nodup
  nonil : ∀ p ∈ F.nodes, p.1 ≠ []
  menu : ∀ p ∈ F.nodes, ∀ k ∈ p.1, k ∈ M
  node : ∀ p ∈ F.nodes, p.2.on.IsDictOf (strKind prog w) [("flags", .ref p.2.fl), ("recursive_flags", .ref p.2.rc), ("nested", .ref p.2.nd)]
  nlow : ∀ p ∈ F.nodes, (p.2.n == sysModules) = false
  flags : ∀ p ∈ F.nodes, ∃ X Y, τ p.1 = some (X, Y) ∧ IS prog w p.2.ofl X ∧ IS prog w p.2.orc Y
  gone : ∀ v, F.look v = Option.none → τ v = Option.none
  kids : ∀ v a o, F.dictAt v = some (a, o) → ∃ kvs, o.IsDictOf (strKind prog w) kvs ∧ ∀ k x, valueAt kvs k = some x ↔ ∃ y, F.look (v ++ [k]) = some y ∧ x = .ref y.n
  closed : ∀ v k, F.look (v ++ [k]) ≠ Option.none → v = [] ∨ F.look v ≠ Option.none

theorem FO.look_mem {F : FO} {v : Way} {x : Nd} (h : F.look v = some x) : (v, x) ∈ F.nodes := by
  unfold FO.look at h
  obtain ⟨q, hq, rfl⟩ := Option.map_eq_some_iff.mp h
  have h1 := List.mem_of_find?_eq_some hq
  have h2 := List.find?_some hq
  simp at h2
  subst h2
  exact h1
theorem FO.look_of_mem {F : FO} (hk : (F.nodes.map (·.1)).Nodup) {v : Way} {x : Nd} (h : (v, x) ∈ F.nodes) : F.look v = some x := by
  unfold FO.look
  have : ∀ (l : List (Way × Nd)), (l.map (·.1)).Nodup → (v, x) ∈ l → l.find? (fun p => decide (p.1 = v)) = some (v, x) := by
    intro l
    induction l with
    | nil => intro _ h; cases h
    | cons q l ih =>
      intro hn hm
      rw [List.map_cons, List.nodup_cons] at hn
      rcases List.mem_cons.mp hm with e | hm
      · subst e; simp
      · have hne : q.1 ≠ v := fun e => hn.1 (List.mem_map.mpr ⟨(v, x), hm, e.symm⟩)
        rw [List.find?_cons]
        simp only [decide_eq_false hne]
        exact ih hn.2 hm
  rw [this _ hk h]; rfl

theorem mem_cells {F : FO} {v : Way} {x : Nd} (h : F.look v = some x) {c : Addr × Obj} (hc : c ∈ x.cells) : c ∈ F.cells := by
  unfold FO.cells
  refine .tail _ (.tail _ (.tail _ (.tail _ ?_)))
  exact List.mem_flatMap.mpr ⟨(v, x), FO.look_mem h, hc⟩
theorem dict_mem {F : FO} {v : Way} {a : Addr} {o : Obj} (h : F.dictAt v = some (a, o)) : (a, o) ∈ F.cells := by
  unfold FO.dictAt at h
  split at h
  · cases h
    exact .tail _ (.tail _ (.head _))
  · obtain ⟨x, hx, e⟩ := Option.map_eq_some_iff.mp h
    cases e
    exact mem_cells hx (.tail _ (.tail _ (.tail _ (.head _))))
theorem FO.Is.node_at {prog w M} {F : FO} {τ : AbsT} (H : F.Is prog w M τ) {v : Way} {x : Nd} (h : F.look v = some x) : x.on.IsDictOf (strKind prog w) [("flags", .ref x.fl), ("recursive_flags", .ref x.rc), ("nested", .ref x.nd)] := H.node _ (FO.look_mem h)
theorem FO.Is.flags_at {prog w M} {F : FO} {τ : AbsT} (H : F.Is prog w M τ) {v : Way} {x : Nd} (h : F.look v = some x) : ∃ X Y, τ v = some (X, Y) ∧ IS prog w x.ofl X ∧ IS prog w x.orc Y := H.flags _ (FO.look_mem h)
theorem FO.Is.dict_of {prog w M} {F : FO} {τ : AbsT} (H : F.Is prog w M τ) {v : Way} {x : Nd} (h : F.look v = some x) : F.dictAt v = some (x.nd, x.ond) := by
  unfold FO.dictAt
  rw [if_neg (H.nonil _ (FO.look_mem h)), h]; rfl
end Mine.Internal
end
section
set_option tactic.hygienic false
open PySem PySem.W PySem.Calls PyProof.Rows
set_option maxRecDepth 100000
namespace Mine.Internal
section
variable {M : Model} {prog : Program} {w : World} {A : Around} {E : Value → Shared → Prop} {env : Env} {ns : List Str} {h₀ : Heap} {vs : List (Option Value)} {l : Lg} {s₀ s : Shared}
  {K : Frag} {p : Program} {loose : List Str} {mean : ExcName → Option Value} {mg mb : Str → Option Value} {d u : Nat}

theorem S.inK (st : S env ns h₀ vs l s₀ s) (cx : Cx K p loose mean mg mb d u A env h₀) : K.In s.heap := cx.x.keeps st.fr.keep

theorem w_exprA {e : Expr} {pos : Pos} {Q : Flow → Shared → Prop} (hi : interactive env = false) (h : W (model prog w) A (eval e env) (fun x => Q .next) E s) (hs : autoParam (swapsWith e none pos.line env = pure false) tRfl) :
    W (model prog w) A (exec (.Expr e pos) env) Q E s := by with_unfolding_all exact wpAny_Expr_any h hi hs
theorem w_cwK {pos : Pos} {f : Value} {first : List Value} {e : Expr} {rest : List Expr} {Q : Value → Shared → Prop} (cx : Cx K p loose mean mg mb d u A env h₀) (hk : keepIn K f = true)
    (h : W M A (spliced (backTo pos (starEach (e :: rest) env))) (fun vs s₁ => K.In s₁.heap ∧ W M A (call f (first ++ vs)) Q E s₁) E s)
    (he : autoParam (starEach (e :: rest) env = (false, eval e env) :: starEach rest env) tRfl) (hplain : autoParam ((backTo pos (starEach rest env)).any (·.1) = false) tRfl) :
    W M A (callWith pos f first (backTo pos (starEach (e :: rest) env)) []) Q E s := by with_unfolding_all exact callWith_K cx.x hk h he hplain
theorem w_cwK0 {pos : Pos} {f : Value} {first : List Value} {Q : Value → Shared → Prop} (cx : Cx K p loose mean mg mb d u A env h₀) (st : S env ns h₀ vs l s₀ s) (hk : keepIn K f = true)
    (h : W M A (call f (first ++ [])) Q E s) : W M A (callWith pos f first (backTo pos (starEach [] env)) []) Q E s := by with_unfolding_all exact callWith_K0 (st.inK cx) hk h
theorem w_cwKW {pos : Pos} {f : Value} {first : List Value} {Q : Value → Shared → Prop} {e : Expr} {rest : List Expr} {kws : List Keyword} (cx : Cx K p loose mean mg mb d u A env h₀) (hk : keepIn K f = true)
    (h : W M A (spliced (backTo pos (starEach (e :: rest) env))) (fun vs s₁ => W M A (evalAll ((backToKw pos (keywordEach kws env)).map (·.2)))
      (fun ks s₂ => K.In s₂.heap ∧ W M A (call f (first ++ vs) (((backToKw pos (keywordEach kws env)).filterMap (·.1)).zip ks)) Q E s₂) E s₁) E s)
    (hall : autoParam ((backToKw pos (keywordEach kws env)).all (·.1.isSome) = true) tRfl)
    (hplain : autoParam (((backTo pos (starEach (e :: rest) env)).any (·.1) || (backToKw pos (keywordEach kws env)).any (·.1.isNone)) = false) tRfl) (he : autoParam (starEach (e :: rest) env = (false, eval e env) :: starEach rest env) tRfl) :
    W M A (callWith pos f first (backTo pos (starEach (e :: rest) env)) (backToKw pos (keywordEach kws env))) Q E s := by with_unfolding_all exact callWith_KW cx.x hk hall h hplain he
theorem w_kw {pos p : Pos} {name : Str} {value : Expr} {rest : List Keyword} {Q : List Value → Shared → Prop}
    (h : W M A (eval value env) (fun v s₁ => W M A (evalAll ((backToKw pos (keywordEach rest env)).map (·.2))) (fun vs s₂ => Q (v :: vs) s₂) E s₁) E s) :
    W M A (evalAll ((backToKw pos (keywordEach (⟨some name, value, p⟩ :: rest) env)).map (·.2))) Q E s := by with_unfolding_all exact kwAll_cons h
theorem w_kw0 {pos : Pos} {Q : List Value → Shared → Prop} (h : Q [] s) : W M A (evalAll ((backToKw pos (keywordEach [] env)).map (·.2))) Q E s := .mk (kwAll_nil h)
theorem w_callF {f : Value} {pos : List Value} {kw : List (Str × Value)} {Q : Value → Shared → Prop} (h : codeAny M A (.call f ⟨pos, kw⟩) (fun r s' => match r with | .ok (.ret v) => Q v s' | .ok _ => False | .error e => E e s') s) : W M A (call f pos kw) Q E s := .mk (wpAny_call h)
theorem UpdL.fst {a : Addr} {o o' : Obj} {l l' : Lg} (U : UpdL a o o' l l') : l.map (·.1) = l'.map (·.1) := by
  obtain ⟨x, y, rfl, rfl⟩ := U.split
  simp
theorem Upd.of_app {a : Addr} {o o' : Obj} : ∀ {x y : Lg}, ((x ++ (a, o) :: y).map (·.1)).Nodup → Upd a o o' (x ++ (a, o) :: y) (x ++ (a, o') :: y)
  | [], y, hn => by
    rw [List.nil_append, List.map_cons, List.nodup_cons] at hn
    exact .head fun p hp e => hn.1 (List.mem_map.mpr ⟨p, hp, e⟩)
  | q :: x, y, hn => by
    rw [List.cons_append, List.map_cons, List.nodup_cons] at hn
    exact .tail (fun e => hn.1 (List.mem_map.mpr ⟨(a, o), by simp, e.symm⟩)) (Upd.of_app hn.2)
theorem UpdL.toUpd {a : Addr} {o o' : Obj} {l l' : Lg} (U : UpdL a o o' l l') (hn : (l.map (·.1)).Nodup) : Upd a o o' l l' := by
  obtain ⟨x, y, rfl, rfl⟩ := U.split
  exact Upd.of_app hn
theorem w_setattr {x C dx : Addr} {es : List DictEntry} {n n' : Nat} {name : Str} {v : Value} {l' : Nat → Lg} {Q : Unit → Shared → Prop} (cx : Cx K p loose mean mg mb d u A env h₀) (st : S env ns h₀ vs l s₀ s)
    (hx : (x, instObj C dx) ∈ l) (es' : Nat → List DictEntry)
    (hs : findIn K (.ref C) "__setattr__" = some (some (.builtin "object.__setattr__"))) (hp : plainOver K C = true) (ht : takerIn K C name = some none) (hh : hasDictIn K C = true) (hl : (getL name es).isSome = true)
    (e : ∀ t, (putL name (PyData.keyHash w.params name) (.str name t) v es, putN name es n) = (es' t, n')) (U : ∀ t, UpdL dx (dictOf es n) (dictOf (es' t) n') l (l' t)) (hz : ∀ t, (es' t).length ≤ 1000)
    (h : ∀ t s', S env ns h₀ vs (l' t) s₀ s' → Q () s') : W (model prog w) A (setAttr (.ref x) name v) Q E s := by
  have hI : InstAt s.heap x (instObj C dx) C (some (dictOf es n)) := ⟨st.at hx, rfl, rfl, st.at (U 0).mem⟩
  exact .mk (set_dict st.fr cx.x st.nw hI rfl hs hp ht hh hl (e (s.toks + 1)) ((U _).toUpd st.nd) (hz _) fun h' F' N' => h _ _ (st.to F' N' ((U _).fst ▸ st.nd)))
theorem Cx.under {C : Addr} {vals : List Value} {kw : List (Str × Value)} (cx : Cx K p loose mean mg mb (d + 1) (u + 3) A env h₀) : Cx K p loose mean mg mb d u (A.under (.builtin "type.__call__" ⟨.ref C :: vals, kw⟩)) env h₀ := by
  obtain ⟨A₀, base, outer, B, hA⟩ := cx.below
  refine ⟨⟨A₀, base, outer, B, ?_⟩, cx.x, cx.top, ?_, ?_, cx.hand⟩
  · exact hA
  · rw [depth_under_kw]
    have := cx.room; exact qft fun x => qfa2 x this (by simp +arith only)
  · have := cx.units
    show A.units + 1 + u < _
    exact qft fun x => qfa2 x this (by simp +arith only)
end
end Mine.Internal
end
section
set_option tactic.hygienic false
open PySem PySem.W PySem.Calls PyProof.Rows
set_option maxRecDepth 100000
namespace Mine.Internal

noncomputable abbrev rgO (i n : Nat) : Obj := { cls := .type "range_iterator", data := .fields #[rawInt (i : Nat), rawInt ((n : Int) - (i : Nat)), rawInt 1] }

theorem rangeSize_n (n : Nat) : Builtin.Range.rangeSize 0 n 1 = n := by
  unfold Builtin.Range.rangeSize
  rw [if_pos (by decide)]
  by_cases h : (0 : Int) < n
  · rw [if_pos h, Int.ediv_one]; lia
  · rw [if_neg h]; lia
theorem range_small {n : Nat} (hn : n ≤ 2 ^ 30) : Builtin.Range.small 0 n 1 = true := by
  have e : (0 : Int) ≤ n ∧ (n : Int) ≤ 2 ^ 30 := by lia
  have f : ∀ i : Int, 0 ≤ i → i ≤ 2 ^ 31 → Builtin.Range.rangeFitsLong i = true := by
    intro i h1 h2
    unfold Builtin.Range.rangeFitsLong
    simp only [Bool.and_eq_true, decide_eq_true_eq]
    lia
  unfold Builtin.Range.small
  rw [rangeSize_n, f 0 (by decide) (by decide), f n e.1 (by lia), f 1 (by decide) (by decide), if_pos (by decide), f (n + (1 - 1)) (by lia) (by lia)]
  simp

section
variable {prog : Program} {w : World} {A : Around} {E : Value → Shared → Prop} {env : Env} {ns : List Str} {h₀ : Heap} {vs : List (Option Value)} {l : Lg} {s₀ s : Shared}
  {K : Frag} {p : Program} {loose : List Str} {mean : ExcName → Option Value} {mg mb : Str → Option Value} {d u : Nat}

theorem iter_range (hh : A.handled = none) {I : Addr} (n : Nat) : Iter prog w A I n (fun i v => ∃ t, v = .int i t) (fun i o => o = rgO i n) (fun x => True) where
  next := fun i s o Q E hi ho hok y hQ => by
    subst hok
    refine wpAny_pyNext_range_item (x := (i : Nat)) (left := (n : Int) - (i : Nat)) (step := 1) ho (by lia) fun h' hI hs => ?_
    refine hQ _ h' _ _ ⟨_, rfl⟩ hI ?_ hs
    have e1 : ((i : Int) + 1) = ((i + 1 : Nat) : Int) := by lia
    have e2 : ((n : Int) - (i : Nat) - 1) = (n : Int) - ((i + 1 : Nat) : Int) := by lia
    rw [e1, e2]
  stop := fun s o Q E ho hok y hQ => by
    subst hok
    exact wpAny_pyNext_range_end hh (x := (n : Nat)) (left := (n : Int) - (n : Nat)) (step := 1) ho (by lia) fun h' he => hQ h' s.toks he
  go := fun i s o target v Q E ho hok hQ => by
    subst hok
    unfold letOwnedTupleGo
    cases target <;> first
      | exact wpAny_pure hQ
      | (cases v <;> first
          | exact wpAny_pure hQ
          | (refine wpAny_bind (wpAny_load ho ?_)
             exact wpAny_pure hQ))

theorem g_range {n : Nat} {t : Tok} {Q : Value → Shared → Prop} (st : S env ns h₀ vs l s₀ s) (h : ∀ a t1 t2 s', S env ns h₀ vs ((a, { cls := .type "range", data := .fields #[.int 0 t1, .int n t, .int 1 t2] }) :: l) s₀ s' → Q (.ref a) s') : wpAny (model prog w) A (call (.type "range") [.int n t]) Q E s :=
  call_range_1 (h _ _ _ _ ((st.push _ rfl).tok _))

theorem g_for_range {target : Expr} {body : List Stmt} {a : Addr} {n : Nat} {t t1 t2 : Tok} {Q : Flow → Shared → Prop} (hh : A.handled = none) (st : S env ns h₀ vs l s₀ s) (hm : (a, { cls := .type "range", data := .fields #[.int 0 t1, .int n t, .int 1 t2] }) ∈ l) (hn : n ≤ 2 ^ 30)
    (J : Nat → List (Option Value) → Lg → Prop) (h0 : J 0 vs l)
    (turn : ∀ (i : Nat) tk vs' l' I o s' E', i < n → J i vs' l' → S env ns h₀ vs' ((I, o) :: l') s₀ s' →
      wpAny (model prog w) A (assign target env (.int i tk)) (fun x s2 => wpAny (model prog w) A (execs body env) (LPost env ns h₀ s₀ I o (J (i + 1)) Q) E' s2) E' s')
    (done : ∀ vs' l' s', J n vs' l' → S env ns h₀ vs' l' s₀ s' → Q .next s') :
    wpAny (model prog w) A (pyIter (.ref a)) (ForRest prog w A env E target body Q) E s := by
  refine wpAny_pyIter_range (st.at hm) (range_small hn) ?_
  rw [rangeSize_n]
  refine g_forLoop (iter_range hh n) J (st.push (rgO 0 n) rfl) rfl h0 (fun x x x x x x x => trivial) (fun i v vs' l' o s' E' hi hP hJ st' => ?_) done fun v s' h => h
  obtain ⟨tk, rfl⟩ := hP
  exact turn i tk vs' l' _ o s' E' hi hJ st'

theorem g_item_list {value slice : Expr} {t : Addr} {us : List Value} {n : Nat} {k : Int} {u : Tok} {x : Value} {Q : Value → Shared → Prop} (st : S env ns h₀ vs l s₀ s) (hm : (t, listO us n) ∈ l) (h0 : 0 ≤ k) (hhi : k < 2 ^ 63) (hx : us[k.toNat]? = some x) (h : Q x s)
    (hs : subscripted slice false (.ref t) (.int k u) = operate [.ref t, .int k u] (getItem (.ref t) (.int k u)) := by with_unfolding_all rfl) :
    wpAny (model prog w) A (subscriptTail value slice (.ref t) (.int k u)) Q E s :=
  tail_any (st.list hm).typeIs slot_list_getitem.lookup (wpAny_getItem_list (st.list hm) h0 hhi (by simpa using hx) h) hs

theorem g_addtup {a b : Addr} {us ws : List Value} {Q : Value → Shared → Prop} (st : S env ns h₀ vs l s₀ s) (ha : (a, tupO us) ∈ l) (hb : (b, tupO ws) ∈ l) (hz : us.length + ws.length ≤ sizeLine)
    (h : ∀ z c s', S env ns h₀ vs (z ++ l) s₀ s' → (∀ l' : Lg, (a, tupO us) ∈ l' → (b, tupO ws) ∈ l' → (c, tupO (us ++ ws)) ∈ z ++ l') → Q (.ref c) s') : wpAny (model prog w) A (binaryOp .Add (.ref a) (.ref b)) Q E s := by
  refine add_tuples st.fr st.nw (st.tup ha) (st.tup hb) (fun e => h [] b _ st (fun l' x hb => by rw [e]; exact hb)) (fun x e => h [] a _ st (fun l' ha x => by rw [e, List.append_nil]; exact ha)) (fun y y h' F N => h [_] _ _ (st.toH F N ?_) (fun l' x x => .head _)) hz
  refine List.nodup_cons.mpr ⟨fun q => ?_, st.nd⟩
  obtain ⟨p, hp, e⟩ := List.mem_map.mp q
  exact absurd (Heap.lt_size (st.nw p hp).1) (by rw [e]; exact Nat.lt_irrefl _)
end
end Mine.Internal
end
section
set_option tactic.hygienic false
open PySem PySem.W PySem.Calls PyProof.Rows PySem.Spec
set_option maxRecDepth 100000
namespace Mine.Internal
section
variable {prog : Program} {w : World} {A : Around} {E : Value → Shared → Prop} {env env2 : Env} {ns : List Str} {h₀ : Heap} {vs : List (Option Value)} {l : Lg} {s₀ s : Shared}
  {K : Frag} {p : Program} {loose : List Str} {mean : ExcName → Option Value} {mg mb : Str → Option Value} {d u : Nat} {scope : Scope} {cl : List (Str × Addr)} {At : Value → Way × Int → Prop}
theorem w_range {n : Nat} {t : Tok} {Q : Value → Shared → Prop} (st : S env ns h₀ vs l s₀ s) (h : ∀ a t1 t2 s', S env ns h₀ vs ((a, { cls := .type "range", data := .fields #[.int 0 t1, .int n t, .int 1 t2] }) :: l) s₀ s' → Q (.ref a) s') : W (model prog w) A (call (.type "range") [.int n t]) Q E s := by
  with_unfolding_all exact g_range st h
theorem w_for_range {target : Expr} {body : List Stmt} {a : Addr} {n : Nat} {t t1 t2 : Tok} {Q : Flow → Shared → Prop} (hh : A.handled = none) (st : S env ns h₀ vs l s₀ s) (hm : (a, { cls := .type "range", data := .fields #[.int 0 t1, .int n t, .int 1 t2] }) ∈ l) (hn : n ≤ 2 ^ 30)
    (J : Nat → List (Option Value) → Lg → Prop) (h0 : J 0 vs l)
    (turn : ∀ (i : Nat) tk vs' l' I o s' E', i < n → J i vs' l' → S env ns h₀ vs' ((I, o) :: l') s₀ s' →
      W (model prog w) A (assign target env (.int i tk)) (fun x s2 => W (model prog w) A (execs body env) (LPost env ns h₀ s₀ I o (J (i + 1)) Q) E' s2) E' s')
    (done : ∀ vs' l' s', J n vs' l' → S env ns h₀ vs' l' s₀ s' → Q .next s') :
    W (model prog w) A (pyIter (.ref a)) (ForRest prog w A env E target body Q) E s := by
  with_unfolding_all exact g_for_range hh st hm hn J h0 turn done
theorem w_item_list {value slice : Expr} {t : Addr} {us : List Value} {n : Nat} {k : Int} {u : Tok} {x : Value} {Q : Value → Shared → Prop} (st : S env ns h₀ vs l s₀ s) (hm : (t, listO us n) ∈ l) (h0 : 0 ≤ k) (hhi : k < 2 ^ 63) (hx : us[k.toNat]? = some x) (h : Q x s)
    (hs : autoParam (subscripted slice false (.ref t) (.int k u) = operate [.ref t, .int k u] (getItem (.ref t) (.int k u))) tWur) :
    W (model prog w) A (subscriptTail value slice (.ref t) (.int k u)) Q E s := by
  with_unfolding_all exact g_item_list st hm h0 hhi hx h hs
theorem w_addtup {a b : Addr} {us ws : List Value} {Q : Value → Shared → Prop} (st : S env ns h₀ vs l s₀ s) (ha : (a, tupO us) ∈ l) (hb : (b, tupO ws) ∈ l) (hz : us.length + ws.length ≤ sizeLine)
    (h : ∀ z c s', S env ns h₀ vs (z ++ l) s₀ s' → (∀ l' : Lg, (a, tupO us) ∈ l' → (b, tupO ws) ∈ l' → (c, tupO (us ++ ws)) ∈ z ++ l') → Q (.ref c) s') : W (model prog w) A (binaryOp .Add (.ref a) (.ref b)) Q E s := by
  with_unfolding_all exact g_addtup st ha hb hz h
end
end Mine.Internal
end
section
set_option tactic.hygienic false
open PySem PySem.W PySem.Calls PyProof.Rows
set_option maxRecDepth 100000
namespace Mine.Internal

noncomputable def Rd (prog : Program) (w : World) (env2 : Env) (z : Lg) (x : Str) (v : Value) : Prop :=
  ∀ (A : Around) (E : Value → Shared → Prop) (s : Shared) (pos : Pos) (Q : Value → Shared → Prop), (∀ c ∈ z, s.heap.get? c.1 = some c.2) → Q v s → wpAny (model prog w) A (eval (.Name x pos) env2) Q E s
noncomputable def CellV (o : Obj) (v : Option Value) : Prop := o.data = .cell v

section
variable {prog : Program} {w : World} {A : Around} {E : Value → Shared → Prop} {env env2 : Env} {ns : List Str} {h₀ : Heap} {vs : List (Option Value)} {l : Lg} {s₀ s : Shared}
  {K : Frag} {p : Program} {loose : List Str} {mean : ExcName → Option Value} {mg mb : Str → Option Value} {d u : Nat}

theorem Rd.mono {z z' : Lg} {x : Str} {v : Value} (r : Rd prog w env2 z x v) (hz : ∀ c ∈ z, c ∈ z') : Rd prog w env2 z' x v := fun A E s pos Q h hQ => r A E s pos Q (fun c hc => h c (hz c hc)) hQ
theorem Rd.cell {z : Lg} {x : Str} {v : Value} {c : Addr} {oc : Obj} (hk : env2.scope.kind = .function) (hl : env2.kindOf x = some .cell) (hc : env2.cells.lookup x = some c) (hm : (c, oc) ∈ z) (hd : CellV oc (some v)) (hb : autoParam ((x == ("__debug__" : Str)) = false) tDec) : Rd prog w env2 z x v :=
  fun x x x x x h hQ => wpAny_Name (wpAny_loadName_cell hk hl hc ⟨oc, h _ hm, hd⟩ hQ) hb
theorem Rd.free {z : Lg} {x : Str} {v : Value} {c : Addr} {oc : Obj} (hk : env2.scope.kind = .function) (hl : env2.kindOf x = some .free) (hc : env2.cells.lookup x = some c) (hm : (c, oc) ∈ z) (hd : CellV oc (some v)) (hb : autoParam ((x == ("__debug__" : Str)) = false) tDec) (hn : autoParam ((x == ("__classdict__" : Str)) = false) tDec) : Rd prog w env2 z x v :=
  fun x x x x x h hQ => wpAny_Name (wpAny_loadName_free hk hl hc ⟨oc, h _ hm, hd⟩ hQ hn) hb
theorem Rd.loc {z : Lg} {x : Str} {v : Value} {oC : Obj} {m : Str → Option Value} (hk : env2.scope.kind = .function) (hl : env2.kindOf x = some .local) (hm : (env2.locals, oC) ∈ z) (hN : LCg.NsObj oC m) (hv : m x = some v) (hb : autoParam ((x == ("__debug__" : Str)) = false) tDec) : Rd prog w env2 z x v :=
  fun x x x x x h hQ => wpAny_Name (wpAny_loadName_local hk hl (hN.ns (h _ hm)) hv hQ) hb

theorem g_rd {z : Lg} {x : Str} {pos : Pos} {v : Value} {Q : Value → Shared → Prop} (r : Rd prog w env2 z x v) (st : S env ns h₀ vs l s₀ s) (hz : ∀ c ∈ z, c ∈ l) (h : Q v s) : wpAny (model prog w) A (eval (.Name x pos) env2) Q E s :=
  r _ _ _ _ _ (fun c hc => st.at (hz c hc)) h

structure Gl (env2 : Env) : Prop where
  kind : env2.scope.kind = .function
  glob : env2.globals = mainGlobals
  bis : env2.builtins = builtinsNs
theorem Fn.gl (fn : Fn env ns) : Gl env := ⟨fn.kind, fn.glob, fn.bis⟩

theorem g_cint {i : Int} {k pos} {Q : Value → Shared → Prop} (st : S env ns h₀ vs l s₀ s) (h : ∀ t s', S env ns h₀ vs l s₀ s' → Q (.int i t) s') : wpAny (model prog w) A (eval (.Constant (.int i) k pos) env2) Q E s :=
  wpAny_Constant_int (h _ _ (st.tok _))
theorem g_cglobal {x : Str} {pos : Pos} {v : Value} {Q : Value → Shared → Prop} (gl : Gl env2) (cx : Cx K p loose mean mg mb d u A env h₀) (st : S env ns h₀ vs l s₀ s) (e : nsIn K mainGlobals x = some (some v))
    (hx : env2.kindOf x = some .globalImplicit) (hd : (x == ("__debug__" : Str)) = false) (h : Q v s) : wpAny (model prog w) A (eval (.Name x pos) env2) Q E s :=
  Name_function_global gl.kind hx (loadGlobal_global (by rw [gl.glob]; exact cx.top.g.keeps st.fr.keep) (mg_of cx.x cx.top.g e) h) hd
theorem g_cunpack {elts : List Expr} {x1} {pos : Pos} {t : Addr} {us : List Value} {Q : Unit → Shared → Prop} (hh : A.handled = none) (st : S env ns h₀ vs l s₀ s) (hm : (t, tupO us) ∈ l)
    (hn : (assignEach elts env2).length = us.length) (hstar : (assignEach elts env2).findIdx? (·.1) = none)
    (h : ∀ s', S env ns h₀ vs l s₀ s' → wpAny (model prog w) A (assignInOrder ((assignEach elts env2).map (·.2)) us) Q E s') : wpAny (model prog w) A (assign (.Tuple elts x1 pos) env2 (.ref t)) Q E s :=
  assign_Tuple_tuple hh (st.tup hm) (by rw [List.size_toArray]; exact hn) hstar fun h' he => h _ (st.keepExt (t := s.toks) he (Nat.le_refl _))

theorem g_setcell {x : Str} {v : Value} {v₀ : Option Value} {c : Addr} {oc : Obj} {l' : Obj → Lg} {Q : Unit → Shared → Prop} (gl : Gl env2) (st : S env ns h₀ vs l s₀ s) (hl : env2.kindOf x = some .cell) (hc : env2.cells.lookup x = some c) (U : ∀ o', UpdL c oc o' l (l' o')) (hd : CellV oc v₀)
    (h : ∀ o' s', CellV o' (some v) → S env ns h₀ vs (l' o') s₀ s' → Q () s') : wpAny (model prog w) A (storeName env2 x v) Q E s := by
  refine wpAny_storeName_cell gl.kind hl hc ⟨oc, st.at (U oc).mem, hd⟩ fun h' hcell hs => ?_
  obtain ⟨o', ho', hd'⟩ := hcell
  exact h o' _ hd' (st.upd (U o') hs ho')
theorem g_setloc {x : Str} {v : Value} {oC : Obj} {m : Str → Option Value} {l' : Obj → Lg} {Q : Unit → Shared → Prop} (gl : Gl env2) (st : S env ns h₀ vs l s₀ s) (hl : env2.kindOf x = some .local) (U : ∀ o', UpdL env2.locals oC o' l (l' o')) (hN : LCg.NsObj oC m)
    (h : ∀ o' s', LCg.NsObj o' (fun y => if y = x then some v else m y) → S env ns h₀ vs (l' o') s₀ s' → Q () s') : wpAny (model prog w) A (storeName env2 x v) Q E s := by
  refine wpAny_storeName_local hl (hN.ns (st.at (U oC).mem)) (fun h' hn hs => ?_) (by rw [gl.kind]; rfl)
  obtain ⟨o', ho', hN'⟩ := LCg.ns_obj hn
  exact h o' _ hN' (st.upd (U o') hs ho')

theorem g_append {D : Addr} {ys : List Value} {n : Nat} {y : Value} {l' : Obj → Lg} {Q : Value → Shared → Prop} (st : S env ns h₀ vs l s₀ s) (U : ∀ o', UpdL D (listO ys n) o' l (l' o')) (hsz : ys.length ≤ sizeLine)
    (h : ∀ n' s', S env ns h₀ vs (l' (listO (ys ++ [y]) n')) s₀ s' → Q .none s') : wpAny (model prog w) A (call (.builtin "list.append") [.ref D, y]) Q E s := by
  have ho := st.at (U (listO ys n)).mem
  refine wpAny_call_entry slot_list_append ⟨_, ho, rfl⟩ entry_list_append ?_ (args_list_append _ _)
  show wpAny _ _ (updateSeq D (·.push y) >>= fun x => ret .none) _ _ s
  refine wpAny_bind ?_
  refine wpAny_updateSeq ho rfl (wpAny_pure ⟨.none, rfl, ?_⟩) (by simpa using hsz)
  have hs := Heap.SameBut.update s.heap D (Obj.mapSeq (·.push y))
  have hg := Heap.get?_update_self (Obj.mapSeq (·.push y)) ho rfl
  refine h (n + 1) _ (st.upd (U _) hs (hg.trans ?_))
  show some _ = some _
  congr 1
  simp [Obj.mapSeq]
end
end Mine.Internal
end
section
set_option tactic.hygienic false
open PySem PySem.W PySem.Calls PyProof.Rows
set_option maxRecDepth 100000
namespace Mine.Internal

noncomputable def turnOf (target : Expr) (ifs : List Expr) (p : Pos) (e : Expr) (depth : Nat) (it acc : Value) (env : Env) (body : Sem Unit) : Sem Fin := do
  standAt p
  match ← pyNext it with
  | none => pure (.done .next)
  | some v =>
    letOwnedTupleGo target it v
    assign target env v
    let mut ok := true
    for c in ifs do
      if ok then ok ← isTrue c env (eval c env)
    if ok then body
    again (.compLoop e depth it acc env)

theorem turn_one (elt target iter : Expr) (ifs : List Expr) (scope : Scope) (pos : Pos) (it acc : Value) (env : Env) :
    compTurn (.ListComp elt [⟨target, iter, ifs, 0⟩] scope pos) 0 it acc env = turnOf target ifs iter.pos (.ListComp elt [⟨target, iter, ifs, 0⟩] scope pos) 0 it acc env (do let _ ← call (.builtin "list.append") [acc, ← eval elt env]) := by rfl
noncomputable def turnTwo (target : Expr) (ifs : List Expr) (p : Pos) (i1 : Expr) (e : Expr) (it acc : Value) (env : Env) : Sem Fin := do
  standAt p
  match ← pyNext it with
  | none => pure (.done .next)
  | some v =>
    letOwnedTupleGo target it v
    assign target env v
    let mut ok := true
    for c in ifs do
      if ok then ok ← isTrue c env (eval c env)
    if ok then
      let x ← eval i1 env
      standAt i1.pos
      let x ← foldedSetIterable i1 env x
      let _ ← runOwn (.compStart e 1 (← holding [x] (pyIter x)) acc env) env
    again (.compLoop e 0 it acc env)
noncomputable def testsOf (ifs : List Expr) (env : Env) : Sem Bool := forIn ifs true fun c r => if r = true then do let ok ← isTrue c env (eval c env); pure (ForInStep.yield ok) else pure (ForInStep.yield r)

section
variable {prog : Program} {w : World} {A : Around} {E : Value → Shared → Prop} {env env2 : Env} {ns : List Str} {h₀ : Heap} {vs : List (Option Value)} {l : Lg} {s₀ s : Shared}
  {K : Frag} {p : Program} {loose : List Str} {mean : ExcName → Option Value} {mg mb : Str → Option Value} {d u : Nat}

theorem g_tests0 {Q : Bool → Shared → Prop} (h : Q true s) : wpAny (model prog w) A (testsOf [] env2) Q E s := wpAny_tests_nil h
theorem g_tests1 {c : Expr} {Q : Bool → Shared → Prop} (h : wpAny (model prog w) A (isTrue c env2 (eval c env2)) Q E s) : wpAny (model prog w) A (testsOf [c] env2) Q E s := wpAny_tests_one h

noncomputable def CP (env : Env) (ns : List Str) (h₀ : Heap) (vs : List (Option Value)) (s₀ : Shared) (z : Lg) (Jn : Lg → Prop) (s' : Shared) : Prop := ∃ l', S env ns h₀ vs (z ++ l') s₀ s' ∧ Jn l'

theorem g_compLoop {target : Expr} {ifs : List Expr} {pp : Pos} {elt : Expr} {gens : List Comprehension} {scope : Scope} {pos : Pos} {depth : Nat} {acc : Value} {body : Sem Unit} {I : Addr} {n : Nat} {P : Nat → Value → Prop} {Ok : Nat → Obj → Prop} {Need : Heap → Prop} {oI : Obj} {R : Result → Shared → Prop}
    (heq : compTurn (.ListComp elt gens scope pos) depth (.ref I) acc env2 = turnOf target ifs pp (.ListComp elt gens scope pos) depth (.ref I) acc env2 body)
    (Wi : Iter prog w A I n P Ok Need) (J : Nat → Lg → Prop) (st : S env ns h₀ vs ((I, oI) :: l) s₀ s) (hok : Ok 0 oI) (h0 : J 0 l)
    (need : ∀ i l' s' o, J i l' → S env ns h₀ vs ((I, o) :: l') s₀ s' → Need s'.heap)
    (turn : ∀ i v l' z s' E', i < n → P i v → J i l' → S env ns h₀ vs (z ++ l') s₀ s' →
      wpAny (model prog w) A (assign target env2 v) (fun x s2 => wpAny (model prog w) A (testsOf ifs env2) (fun ok s3 => if ok = true then wpAny (model prog w) A body (fun x s4 => CP env ns h₀ vs s₀ z (J (i + 1)) s4) E' s3 else CP env ns h₀ vs s₀ z (J (i + 1)) s3) E' s2) E' s')
    (done : ∀ l' s', J n l' → S env ns h₀ vs l' s₀ s' → R (.ok .next) s') :
    codeAny (model prog w) A (.compLoop (.ListComp elt gens scope pos) depth (.ref I) acc env2) R s := by
  refine codeAny_loop rfl (fun k s' => ∃ i l' o, S env ns h₀ vs ((I, o) :: l') s₀ s' ∧ Ok i o ∧ J i l' ∧ i ≤ n ∧ k = n + 1 - i) ?_ (n + 1) ⟨0, l, oI, st, hok, h0, Nat.zero_le _, rfl⟩
  rintro k s' ⟨i, l', o, st', hok', hJ, hi, rfl⟩
  show wpAny _ A ((compTurn (.ListComp elt gens scope pos) depth (.ref I) acc env2).onRaise (fun x => do noteFrame x env2; theTreesLotGoes x)) _ _ s'
  refine wpAny_noted ?_
  rw [heq]
  unfold turnOf
  refine wpAny_bind (wpAny_standAt (wpAny_bind ?_))
  have ho := st'.at (.head _)
  by_cases hlt : i < n
  · refine Wi.next i s' o _ _ hlt ho hok' (need i l' s' o hJ st') fun v h' tk o' hP ho' hok'' hs' => ?_
    have st2 : S env ns h₀ vs ((I, o') :: l') s₀ { s' with heap := h', toks := tk } := st'.upd .head hs' ho'
    refine wpAny_bind (Wi.go (i + 1) _ o' target v _ _ ho' hok'' ?_)
    have back : ∀ s4, CP env ns h₀ vs s₀ [(I, o')] (J (i + 1)) s4 → ∃ m, m < n + 1 - i ∧ ∃ i l' o, S env ns h₀ vs ((I, o) :: l') s₀ s4 ∧ Ok i o ∧ J i l' ∧ i ≤ n ∧ m = n + 1 - i := by
      rintro s4 ⟨l4, st4, hJ4⟩
      exact ⟨n + 1 - (i + 1), by exact (by exact Nat.lt_of_add_lt_add_right (Nat.lt_of_lt_of_le (qfs2 (n + 1) (i + 1) (qfl fun x => qfa2 x hi (by simp +arith only))) (qfs1 (n + 1) (i)))), i + 1, l4, o', st4, hok'', hJ4, hlt, rfl⟩
    refine wpAny_bind (wpAny_mono (turn i v l' [(I, o')] _ _ hlt hP hJ st2) (fun x0 s2 h2 => ?_) fun x x e => e)
    refine wpAny_bind (wpAny_mono h2 (fun ok s3 h3 => ?_) fun x x e => e)
    cases ok with
    | true =>
      rw [if_pos rfl] at h3
      simp -iota only [if_true]
      exact wpAny_bind (wpAny_mono h3 (fun x s4 h4 => wpAny_pure ⟨rfl, back s4 h4⟩) fun x x e => e)
    | false =>
      rw [if_neg Bool.false_ne_true] at h3
      simp -iota only [Bool.false_eq_true, if_false]
      exact wpAny_pure ⟨rfl, back s3 h3⟩
  · have hin : i = n := by exact Nat.le_antisymm hi (Nat.le_of_not_lt hlt)
    subst hin
    refine Wi.stop s' o _ _ ho hok' (need i l' s' o hJ st') fun h' tk he => wpAny_pure ?_
    exact done l' _ hJ (st'.extBut he)

theorem g_compStart {elt target iter : Expr} {ifs : List Expr} {rest : List Comprehension} {scope : Scope} {pos : Pos} {it acc : Value} {R : Result → Shared → Prop}
    (h0 : codeAny (model prog w) A (.compLoop (.ListComp elt (⟨target, iter, ifs, 0⟩ :: rest) scope pos) 0 it acc env2) R s)
    (hself : ∀ (Q : Value → Shared → Prop) (E : Value → Shared → Prop), Q it s → wpAny (model prog w) A (pyIter it) Q E s) :
    codeAny (model prog w) A (.compStart (.ListComp elt (⟨target, iter, ifs, 0⟩ :: rest) scope pos) 0 it acc env2) R s :=
  codeAny_compStart_list h0 (hself _ _ h0)
end

noncomputable def closL (cells : List (Str × Addr)) : List (Str × NameKind) → List (Str × Addr) → List (Str × Addr)
  | [], acc => acc
  | (n, k) :: r, acc => if k == .free then (match cells.lookup n with | some c => closL cells r ((n, c) :: acc) | none => closL cells r acc) else closL cells r acc
theorem closureFor_go {env : Env} (f : Str × NameKind → List (Str × Addr) → Sem (ForInStep (List (Str × Addr)))) (hf : ∀ name kind cells, f (name, kind) cells = if kind == .free then (do let c ← cellOf env name; pure (.yield ((name, c) :: cells))) else pure (.yield cells)) :
    ∀ (names : List (Str × NameKind)) (acc : List (Str × Addr)), (∀ x ∈ names, x.2 = .free → (env.cells.lookup x.1).isSome = true) → forIn names acc f = pure (closL env.cells names acc)
  | [], acc, _ => rfl
  | (n, k) :: r, acc, hx => by
    have ih := fun acc => closureFor_go f hf r acc fun y hy => hx y (.tail _ hy)
    rw [List.forIn_cons, hf]
    unfold closL
    by_cases hk : (k == NameKind.free) = true
    · obtain ⟨c, hc⟩ := Option.isSome_iff_exists.mp (hx (n, k) (.head _) (by simpa using hk))
      have hc : env.cells.lookup n = some c := hc
      simp -iota only [hk, if_true, hc]
      unfold cellOf
      rw [hc]
      exact ih _
    · rw [if_neg hk, if_neg hk]
      exact ih _
theorem closureFor_eq {scope : Scope} {env : Env} (h : ∀ x ∈ scope.names, x.2 = .free → (env.cells.lookup x.1).isSome = true) : closureFor scope env = pure (closL env.cells scope.names []) := by
  unfold closureFor
  show (forIn scope.names [] _ >>= _) = _
  rw [closureFor_go (env := env) _ (fun name kind cells => by cases hkc : kind == NameKind.free <;> simp [hkc]) scope.names [] h]
  rfl
end Mine.Internal
end
section
set_option tactic.hygienic false
open PySem PySem.W PySem.Calls PyProof.Rows
set_option maxRecDepth 100000
namespace Mine.Internal

noncomputable abbrev cellO : Obj := { cls := .type "cell", data := .cell none }
noncomputable def cellL (n : Nat) : List (Str × NameKind) → Lg
  | [] => []
  | (_, k) :: r => if k == .cell then cellL (n + 1) r ++ [(n, cellO)] else cellL n r
noncomputable abbrev cE (scope : Scope) (cl : List (Str × Addr)) (env2 : Env) (C : Addr) : Env := compEnvC scope (cellsFrom (C + 1) scope.names cl) C env2

theorem relabel_lookup {env : Env} (x : Str) : ∀ (names : List (Str × NameKind)), (names.map fun (n, k) => if (k == NameKind.free && env.scope.kind == .function && env.kindOf n == some .cell) then (n, NameKind.cell) else (n, k)).lookup x =
    match names.lookup x with | none => none | some k => some (if (k == NameKind.free && env.scope.kind == .function && env.kindOf x == some .cell) then NameKind.cell else k)
  | [] => rfl
  | (n, k) :: r => by
    have ih := relabel_lookup (env := env) x r
    rw [List.map_cons]
    by_cases hx : x = n
    · subst hx
      by_cases hc : (k == NameKind.free && env.scope.kind == .function && env.kindOf x == some .cell) = true
      · simp [hc, List.lookup_cons]
      · simp [hc, List.lookup_cons]
    · have hb : (x == n) = false := beq_eq_false_iff_ne.mpr hx
      by_cases hc : (k == NameKind.free && env.scope.kind == .function && env.kindOf n == some .cell) = true
      · simp only [hc, if_true, List.lookup_cons, hb]; exact ih
      · rw [Bool.not_eq_true] at hc
        simp only [hc, Bool.false_eq_true, if_false, List.lookup_cons, hb]; exact ih
theorem kind_other {scope : Scope} {cl : List (Str × Addr)} {env2 : Env} {C : Addr} {x : Str} {k : NameKind} (h : scope.names.lookup x = some k) (hk : (k == NameKind.free) = false) : (cE scope cl env2 C).kindOf x = some k := by
  show (relabel scope env2).names.lookup x = _
  unfold relabel
  rw [relabel_lookup, h]
  simp [hk]
theorem kind_free {scope : Scope} {cl : List (Str × Addr)} {env2 : Env} {C : Addr} {x : Str} (h : scope.names.lookup x = some .free) : (cE scope cl env2 C).kindOf x = some .free ∨ (cE scope cl env2 C).kindOf x = some .cell := by
  show (relabel scope env2).names.lookup x = _ ∨ (relabel scope env2).names.lookup x = _
  unfold relabel
  rw [relabel_lookup, h]
  dsimp only
  split
  · exact .inr rfl
  · exact .inl rfl

section
variable {prog : Program} {w : World} {A : Around} {E : Value → Shared → Prop} {env env2 : Env} {ns : List Str} {h₀ : Heap} {vs : List (Option Value)} {l : Lg} {s₀ s : Shared}
  {K : Frag} {p : Program} {loose : List Str} {mean : ExcName → Option Value} {mg mb : Str → Option Value} {d u : Nat}

theorem Gl.comp {scope : Scope} {cl : List (Str × Addr)} {C : Addr} (gl : Gl env2) (hk : scope.kind = .function) : Gl (cE scope cl env2 C) := ⟨hk, gl.glob, gl.bis⟩
theorem Rd.up {scope : Scope} {cl : List (Str × Addr)} {C c : Addr} {oc : Obj} {z : Lg} {x : Str} {v : Value} (hk : scope.kind = .function) (h : scope.names.lookup x = some .free) (hc : (cE scope cl env2 C).cells.lookup x = some c) (hm : (c, oc) ∈ z) (hd : CellV oc (some v))
    (hb : autoParam ((x == ("__debug__" : Str)) = false) tDec) (hn : autoParam ((x == ("__classdict__" : Str)) = false) tDec) : Rd prog w (cE scope cl env2 C) z x v := by
  rcases kind_free (cl := cl) (env2 := env2) (C := C) h with e | e
  · exact Rd.free hk e hc hm hd hb hn
  · exact Rd.cell hk e hc hm hd hb

theorem S.pushCells (names : List (Str × NameKind)) : ∀ {l : Lg} {s : Shared}, S env ns h₀ vs l s₀ s → S env ns h₀ vs (cellL s.heap.objs.size names ++ l) s₀ { s with heap := PySem.pushCells s.heap names } := by
  induction names with
  | nil => intro l s st; exact st
  | cons x r ih =>
    intro l s st
    obtain ⟨n, k⟩ := x
    unfold PySem.pushCells cellL
    by_cases hk : (k == NameKind.cell) = true
    · rw [if_pos hk, if_pos hk]
      have := ih (st.push cellO rfl)
      have e : (s.heap.push cellO).objs.size = s.heap.objs.size + 1 := Heap.size_push ..
      have e2 : ({ s with heap := s.heap.push cellO } : Shared).heap.objs.size = s.heap.objs.size + 1 := e
      rw [e2] at this
      rw [List.append_assoc]
      exact this
    · rw [if_neg hk, if_neg hk]
      exact ih st

theorem g_newEnvC {scope : Scope} {cl : List (Str × Addr)} {Q : Env → Shared → Prop} (st : S env ns h₀ vs l s₀ s)
    (h : ∀ C s', S env ns h₀ vs (cellL (C + 1) scope.names ++ ((C, emptyD) :: l)) s₀ s' → Q { cE scope cl env2 C with scope := scope } s') :
    wpAny (model prog w) A (newFunctionEnv scope env2.globals cl [] env2.qual none .none (some env2)) Q E s := by
  simp only [newFunctionEnv, Option.isSome_some, if_true]
  refine wpAny_bind (wpAny_alloc ?_)
  refine wpAny_bind (wpAny_layCells _ (fun name kind cells => by cases hkc : kind == NameKind.cell <;> simp [hkc]) _ _ _ _ ?_)
  have st1 := (st.push emptyD rfl).pushCells scope.names
  have e2 : ({ s with heap := s.heap.push emptyD } : Shared).heap.objs.size = s.heap.objs.size + 1 := Heap.size_push ..
  rw [e2] at st1 ⊢
  simp only [List.forIn_nil]
  exact wpAny_bind (wpAny_pure (wpAny_pure (h _ _ st1)))

noncomputable def RRn (prog : Program) (w : World) (A : Around) (E : Value → Shared → Prop) (Q : Value → Shared → Prop) (acc : Value) (C : Addr) : Result → Shared → Prop := compPost (model prog w) A E none Q acc C
noncomputable def RRu (prog : Program) (w : World) (A : Around) (E : Value → Shared → Prop) (y : Str) (py : Pos) (env : Env) (Q : Flow → Shared → Prop) (acc : Value) (C : Addr) : Result → Shared → Prop := compPost (model prog w) A E (some (assign (.Name y py) env)) (fun x s' => Q .next s') acc C
noncomputable abbrev CompRest (prog : Program) (w : World) (A : Around) (env2 : Env) (E : Value → Shared → Prop) (elt : Expr) (gens : List Comprehension) (scope : Scope) (pos : Pos) (RR : Value → Addr → Result → Shared → Prop) (it : Value) (s₂ : Shared) : Prop :=
  wpAny (model prog w) A (newList []) (fun acc s₃ => wpAny (model prog w) A (newFunctionEnv scope env2.globals (closL env2.cells scope.names []) [] env2.qual none .none (some env2)) (fun cenv s₄ =>
    codeAny (model prog w) A (.compStart (.ListComp elt gens scope pos) 0 it acc { cenv with scope := relabel scope env2 }) (RR acc cenv.locals) s₄) E s₃) E s₂

theorem g_comp {elt target iter : Expr} {ifs : List Expr} {rest : List Comprehension} {scope : Scope} {pos : Pos} {Q : Value → Shared → Prop}
    (h : wpAny (model prog w) A (eval iter env2) (fun x s₁ => wpAny (model prog w) A (pyIter x) (CompRest prog w A env2 E elt (⟨target, iter, ifs, 0⟩ :: rest) scope pos (RRn prog w A E Q)) E s₁) E s)
    (hfree : ∀ x ∈ scope.names, x.2 = .free → (env2.cells.lookup x.1).isSome = true) (hs : ∀ x, foldedSetIterable iter env2 x = pure x) (hkind : scope.kind = .function) (hnames : ∀ x ∈ scope.names, x.2 = .local → scope.names.lookup x.1 = some .local) :
    wpAny (model prog w) A (eval (.ListComp elt (⟨target, iter, ifs, 0⟩ :: rest) scope pos) env2) Q E s := by
  rw [eval_ListComp]
  exact wpAny_comprehension_free rfl hs (closureFor_eq hfree) hkind hnames h

theorem g_compAssign {elt target iter : Expr} {ifs : List Expr} {rest : List Comprehension} {scope : Scope} {pos spos py : Pos} {y : Str} {Q : Flow → Shared → Prop}
    (h : wpAny (model prog w) A (eval iter env2) (fun x s₁ => wpAny (model prog w) A (pyIter x) (CompRest prog w A env2 E elt (⟨target, iter, ifs, 0⟩ :: rest) scope pos (RRu prog w A E y py env2 Q)) E s₁) E s)
    (hsw : swapsWith (.ListComp elt (⟨target, iter, ifs, 0⟩ :: rest) scope pos) (some (.Name y py)) spos.line env2 = pure true)
    (hfree : ∀ x ∈ scope.names, x.2 = .free → (env2.cells.lookup x.1).isSome = true) (hs : ∀ x, foldedSetIterable iter env2 x = pure x) (hkind : scope.kind = .function) (hnames : ∀ x ∈ scope.names, x.2 = .local → scope.names.lookup x.1 = some .local) :
    wpAny (model prog w) A (exec (.Assign [.Name y py] (.ListComp elt (⟨target, iter, ifs, 0⟩ :: rest) scope pos) spos) env2) Q E s := by
  rw [exec_Assign_Name_used _ _ _ _ hsw]
  refine wpAny_bind (wpAny_standAt (wpAny_bind ?_))
  show wpAny _ A (do let _ ← comprehension (.ListComp elt (⟨target, iter, ifs, 0⟩ :: rest) scope pos) scope env2 _ (newList []) false (eval iter env2) (some (assign (.Name y py) env2))) _ _ s
  exact wpAny_bind (wpAny_mono (wpAny_comprehension_free (use := some (assign (.Name y py) env2)) (Q := fun x s' => Q .next s') rfl hs (closureFor_eq hfree) hkind hnames h) (fun x s' hq => wpAny_pure (wpAny_pure hq)) fun x x e => e)

theorem RRn_done {Q : Value → Shared → Prop} {C D : Addr} {o oC : Obj} {m : Str → Option Value} {l' : Lg} (st : S env ns h₀ vs ((C, oC) :: (D, o) :: l') s₀ s) (hN : LCg.NsObj oC m) (h : ∀ s', S env ns h₀ vs ((D, o) :: l') s₀ s' → Q (.ref D) s') : RRn prog w A E Q (.ref D) C (.ok .next) s :=
  ⟨m, hN.ns (st.at (.head _)), fun h' hs => h _ (st.extBut (t := s.toks) hs.extBut)⟩
theorem RRu_done {Q : Flow → Shared → Prop} {y : Str} {py : Pos} {C D : Addr} {o oC : Obj} {m : Str → Option Value} {l' : Lg} (i : Nat) (fn : Fn env ns) (st : S env ns h₀ vs ((C, oC) :: (D, o) :: l') s₀ s) (hN : LCg.NsObj oC m) (hn : ns[i]? = some y) (hi : i < vs.length)
    (h : ∀ s', S env ns h₀ (vs.set i (some (.ref D))) ((D, o) :: l') s₀ s' → Q .next s') : RRu prog w A E y py env Q (.ref D) C (.ok .next) s := by
  show wpAny _ A (assign (.Name y py) env (.ref D)) _ _ _
  refine wpAny_assign_Name (g_store i fn st hn hi fun s' st' => ?_)
  exact ⟨m, hN.ns (st'.at (.head _)), fun h' hs => h _ (st'.extBut (t := s'.toks) hs.extBut)⟩

theorem g_compOne {elt target iter : Expr} {ifs : List Expr} {scope : Scope} {pos : Pos} {RR : Value → Addr → Result → Shared → Prop} {I : Addr} {n : Nat} {P : Nat → Value → Prop} {Ok : Nat → Obj → Prop} {Need : Heap → Prop} {oI : Obj}
    (FI : Addr → Lg → Prop) (Fx : Addr → Value → Lg → Prop) (J : Nat → List Value → Lg → Prop)
    (Wi : Iter prog w A I n P Ok Need) (st : S env ns h₀ vs ((I, oI) :: l) s₀ s) (hok : Ok 0 oI) (h0 : J 0 [] l) (hn : n ≤ 2 ^ 20)
    (hself : ∀ (s : Shared) (Q : Value → Shared → Prop) (E : Value → Shared → Prop), s.heap.get? I = some oI → Need s.heap → Q (.ref I) s → wpAny (model prog w) A (pyIter (.ref I)) Q E s)
    (need : ∀ i ys l' s' z, J i ys l' → S env ns h₀ vs (z ++ l') s₀ s' → Need s'.heap)
    (hFI0 : ∀ C, FI C (cellL (C + 1) scope.names ++ [(C, emptyD)])) (hFI : ∀ C fr, FI C fr → ∃ cc oC m, fr = cc ++ [(C, oC)] ∧ LCg.NsObj oC m)
    (asg : ∀ C i v ys fr l' z s' E', i < n → P i v → J i ys l' → FI C fr → S env ns h₀ vs (z ++ (fr ++ l')) s₀ s' → wpAny (model prog w) A (assign target (cE scope (closL env2.cells scope.names []) env2 C) v) (fun x s2 => ∃ fr', FI C fr' ∧ Fx C v fr' ∧ S env ns h₀ vs (z ++ (fr' ++ l')) s₀ s2) E' s')
    (turn : ∀ C i v ys fr l' z s' E', i < n → P i v → J i ys l' → Fx C v fr → S env ns h₀ vs (z ++ (fr ++ l')) s₀ s' →
      wpAny (model prog w) A (testsOf ifs (cE scope (closL env2.cells scope.names []) env2 C)) (fun ok s3 => if ok = true then wpAny (model prog w) A (eval elt (cE scope (closL env2.cells scope.names []) env2 C)) (fun y s4 => ∃ l'', S env ns h₀ vs (z ++ (fr ++ l'')) s₀ s4 ∧ J (i + 1) (ys ++ [y]) l'') E' s3
        else ∃ l'', S env ns h₀ vs (z ++ (fr ++ l'')) s₀ s3 ∧ J (i + 1) ys l'') E' s')
    (done : ∀ ys k D C oC m l' s', J n ys l' → ys.length ≤ n → LCg.NsObj oC m → S env ns h₀ vs ((C, oC) :: (D, listO ys k) :: l') s₀ s' → RR (.ref D) C (.ok .next) s') :
    CompRest prog w A env2 E elt [⟨target, iter, ifs, 0⟩] scope pos RR (.ref I) s := by
  refine g_list st (fun D s1 st1 => ?_) (by simp)
  refine g_newEnvC (env2 := env2) (scope := scope) (cl := closL env2.cells scope.names []) st1 fun C s2 st2 => ?_
  have st3 : S env ns h₀ vs ((I, oI) :: ((cellL (C + 1) scope.names ++ [(C, emptyD)]) ++ ((D, listO [] 0) :: l))) s₀ s2 := by
    refine st2.perm ?_
    have : (cellL (C + 1) scope.names ++ ((C, emptyD) :: (D, listO [] 0) :: (I, oI) :: l)).Perm ((I, oI) :: (cellL (C + 1) scope.names ++ ((C, emptyD) :: (D, listO [] 0) :: l))) := by
      have := List.perm_middle (a := (I, oI)) (l₁ := cellL (C + 1) scope.names ++ [(C, emptyD), (D, listO [] 0)]) (l₂ := l)
      simpa using this
    simpa using this
  refine g_compStart ?_ fun Q E hQ => hself s2 Q E (st3.at (.head _)) (need 0 [] l s2 ((I, oI) :: ((cellL (C + 1) scope.names ++ [(C, emptyD)]) ++ [(D, listO [] 0)])) h0 (by simpa using st3)) hQ
  refine g_compLoop (turn_one ..) Wi (fun i l1 => ∃ ys k fr l', l1 = fr ++ ((D, listO ys k) :: l') ∧ FI C fr ∧ J i ys l' ∧ ys.length ≤ i) st3 hok ⟨[], 0, _, l, rfl, hFI0 C, h0, Nat.le_refl _⟩ ?_ ?_ ?_
  · rintro i l1 s' o ⟨ys, k, fr, l', rfl, hfr, hJ, hle⟩ st'
    exact need i ys l' s' ((I, o) :: (fr ++ [(D, listO ys k)])) hJ (by simpa using st')
  · rintro i v l1 z s' E' hi hP ⟨ys, k, fr, l', rfl, hfr, hJ, hle⟩ st'
    have stA : S env ns h₀ vs ((z ++ [(D, listO ys k)]) ++ (fr ++ l')) s₀ s' := st'.perm (by
      have := List.perm_middle (a := (D, listO ys k)) (l₁ := z ++ fr) (l₂ := l')
      have h2 := List.perm_middle (a := (D, listO ys k)) (l₁ := z) (l₂ := fr ++ l')
      simpa using this.trans (by simpa using h2.symm))
    refine wpAny_mono (asg C i v ys fr l' _ s' E' hi hP hJ hfr stA) (fun x0 s2 h2 => ?_) fun x0 x0 e => e
    obtain ⟨fr', hfr', hfx, stB⟩ := h2
    have fin : ∀ ys' k' l'' s4, J (i + 1) ys' l'' → ys'.length ≤ i + 1 → S env ns h₀ vs ((z ++ [(D, listO ys' k')]) ++ (fr' ++ l'')) s₀ s4 → CP env ns h₀ vs s₀ z (fun l1 => ∃ ys k fr l', l1 = fr ++ ((D, listO ys k) :: l') ∧ FI C fr ∧ J (i + 1) ys l' ∧ ys.length ≤ i + 1) s4 := by
      intro ys' k' l'' s4 hJ' hle' st4
      refine ⟨fr' ++ ((D, listO ys' k') :: l''), st4.perm ?_, ys', k', fr', l'', rfl, hfr', hJ', hle'⟩
      have := List.perm_middle (a := (D, listO ys' k')) (l₁ := z ++ fr') (l₂ := l'')
      have h2 := List.perm_middle (a := (D, listO ys' k')) (l₁ := z) (l₂ := fr' ++ l'')
      simpa using (by simpa using h2 : (z ++ (D, listO ys' k') :: (fr' ++ l'')).Perm ((D, listO ys' k') :: (z ++ (fr' ++ l'')))).trans (by simpa using this.symm)
    refine wpAny_mono (turn C i v ys fr' l' _ s2 E' hi hP hJ hfx stB) (fun ok s3 h3 => ?_) fun x0 x0 e => e
    cases ok with
    | true =>
      rw [if_pos rfl] at h3 ⊢
      refine wpAny_bind (wpAny_mono h3 (fun y s4 h4 => ?_) fun x x e => e)
      obtain ⟨l'', st4, hJ'⟩ := h4
      refine wpAny_bind (g_append (l' := fun o' => (z ++ [(D, o')]) ++ (fr' ++ l'')) st4 (fun o' => .left (.app .head)) (by have h1 : sizeLine = 2 ^ 24 := rfl; lia) fun k' s5 st5 => wpAny_pure ?_)
      exact fin _ _ _ _ hJ' (by simp; exact hle) st5
    | false =>
      rw [if_neg Bool.false_ne_true] at h3 ⊢
      obtain ⟨l'', st4, hJ'⟩ := h3
      exact fin _ _ _ _ hJ' (by exact Nat.le_succ_of_le hle) st4
  · rintro l1 s' ⟨ys, k, fr, l', rfl, hfr, hJ, hle⟩ st'
    obtain ⟨cc, oC, m, rfl, hN⟩ := hFI C fr hfr
    have st4 : S env ns h₀ vs ((C, oC) :: ((D, listO ys k) :: l')) s₀ s' := S.dropL (a := cc) (by simpa using st')
    exact done ys k D C oC m l' _ hJ hle hN st4
end
end Mine.Internal
end
section
set_option tactic.hygienic false
open PySem PySem.W PySem.Calls PyProof.Rows
set_option maxRecDepth 100000
namespace Mine.Internal

noncomputable def FL (C : Addr) (fr : Lg) : Prop := ∃ oC m, fr = [(C, oC)] ∧ LCg.NsObj oC m
noncomputable def FC (C : Addr) (fr : Lg) : Prop := ∃ oc vo oC m, fr = [(C + 1, oc), (C, oC)] ∧ CellV oc vo ∧ LCg.NsObj oC m

theorem nsObj_empty : LCg.NsObj emptyD (fun x => none) := ⟨#[], 0, rfl, fun e he => by simp at he, fun x => rfl⟩
theorem FL.start {C : Addr} : FL C [(C, emptyD)] := ⟨_, _, rfl, nsObj_empty⟩
theorem FL.end_ {C : Addr} {fr : Lg} (h : FL C fr) : ∃ cc oC m, fr = cc ++ [(C, oC)] ∧ LCg.NsObj oC m := by
  obtain ⟨oC, m, rfl, hN⟩ := h
  exact ⟨[], oC, m, rfl, hN⟩
section
variable {prog : Program} {w : World} {A : Around} {E : Value → Shared → Prop} {env env2 : Env} {ns : List Str} {h₀ : Heap} {vs : List (Option Value)} {l : Lg} {s₀ s : Shared}
  {K : Frag} {p : Program} {loose : List Str} {mean : ExcName → Option Value} {mg mb : Str → Option Value} {d u : Nat} {scope : Scope} {cl : List (Str × Addr)}

theorem g_asgloc {x : Str} {px : Pos} {C : Addr} {v : Value} {fr l' z : Lg} (gl : Gl env2) (hk : scope.kind = .function) (hx : scope.names.lookup x = some .local) (hfr : FL C fr) (st : S env ns h₀ vs (z ++ (fr ++ l')) s₀ s) (hb : autoParam ((x == ("__debug__" : Str)) = false) tDec) :
    wpAny (model prog w) A (assign (.Name x px) (cE scope cl env2 C) v) (fun h s2 => ∃ fr', FL C fr' ∧ Rd prog w (cE scope cl env2 C) fr' x v ∧ S env ns h₀ vs (z ++ (fr' ++ l')) s₀ s2) E s := by
  obtain ⟨oC, m, rfl, hN⟩ := hfr
  refine wpAny_assign_Name (g_setloc (l' := fun o' => z ++ ([(C, o')] ++ l')) (gl.comp hk) st (kind_other hx rfl) (fun o' => .app .head) hN fun o' s' hN' st' => ?_)
  exact ⟨[(C, o')], ⟨o', _, rfl, hN'⟩, Rd.loc hk (kind_other hx rfl) (.head _) hN' (by simp) hb, st'⟩

theorem g_asgtwo {x y : Str} {px py tp : Pos} {x1} {C a : Addr} {v1 v2 : Value} {fr l' z : Lg} (hh : A.handled = none) (gl : Gl env2) (hk : scope.kind = .function) (hx : scope.names.lookup x = some .local) (hy : scope.names.lookup y = some .local) (hxy : x ≠ y) (hfr : FL C fr) (st : S env ns h₀ vs (z ++ (fr ++ l')) s₀ s) (hm : (a, tupO [v1, v2]) ∈ l') (hb : autoParam ((x == ("__debug__" : Str)) = false) tDec) (hb2 : autoParam ((y == ("__debug__" : Str)) = false) tDec) :
    wpAny (model prog w) A (assign (.Tuple [.Name x px, .Name y py] x1 tp) (cE scope cl env2 C) (.ref a)) (fun h s2 => ∃ fr', FL C fr' ∧ (Rd prog w (cE scope cl env2 C) fr' x v1 ∧ Rd prog w (cE scope cl env2 C) fr' y v2) ∧ S env ns h₀ vs (z ++ (fr' ++ l')) s₀ s2) E s := by
  obtain ⟨oC, m, rfl, hN⟩ := hfr
  refine g_cunpack hh st (List.mem_append_right _ (List.mem_append_right _ hm)) rfl rfl fun s1 st1 => ?_
  refine assignInOrder_cons (wpAny_assign_Name (g_setloc (l' := fun o' => z ++ ([(C, o')] ++ l')) (gl.comp hk) st1 (kind_other hx rfl) (fun o' => .app .head) hN fun o' s2 hN' st2 => ?_))
  refine assignInOrder_cons (wpAny_assign_Name (g_setloc (l' := fun o' => z ++ ([(C, o')] ++ l')) (gl.comp hk) st2 (kind_other hy rfl) (fun o' => .app .head) hN' fun o2 s3 hN2 st3 => ?_))
  refine assignInOrder_nil ?_
  exact ⟨[(C, o2)], ⟨o2, _, rfl, hN2⟩, ⟨Rd.loc hk (kind_other hx rfl) (.head _) hN2 (by simp [hxy]) hb, Rd.loc hk (kind_other hy rfl) (.head _) hN2 (by simp) hb2⟩, st3⟩

theorem g_compList {elt target iter : Expr} {ifs : List Expr} {pos : Pos} {RR : Value → Addr → Result → Shared → Prop} {t : Addr} {us : List Value} {n : Nat} (hh : A.handled = none)
    (FI : Addr → Lg → Prop) (Fx : Addr → Value → Lg → Prop) (J : Nat → List Value → Lg → Prop) (st : S env ns h₀ vs l s₀ s) (hm : (t, listO us n) ∈ l) (h0 : J 0 [] l) (hn : us.length ≤ 2 ^ 20)
    (keep : ∀ i ys l', J i ys l' → (t, listO us n) ∈ l')
    (hFI0 : ∀ C, FI C (cellL (C + 1) scope.names ++ [(C, emptyD)])) (hFI : ∀ C fr, FI C fr → ∃ cc oC m, fr = cc ++ [(C, oC)] ∧ LCg.NsObj oC m)
    (asg : ∀ C i v ys fr l' z s' E', us[i]? = some v → J i ys l' → FI C fr → S env ns h₀ vs (z ++ (fr ++ l')) s₀ s' → wpAny (model prog w) A (assign target (cE scope (closL env2.cells scope.names []) env2 C) v) (fun x s2 => ∃ fr', FI C fr' ∧ Fx C v fr' ∧ S env ns h₀ vs (z ++ (fr' ++ l')) s₀ s2) E' s')
    (turn : ∀ C i v ys fr l' z s' E', us[i]? = some v → J i ys l' → Fx C v fr → S env ns h₀ vs (z ++ (fr ++ l')) s₀ s' →
      wpAny (model prog w) A (testsOf ifs (cE scope (closL env2.cells scope.names []) env2 C)) (fun ok s3 => if ok = true then wpAny (model prog w) A (eval elt (cE scope (closL env2.cells scope.names []) env2 C)) (fun y s4 => ∃ l'', S env ns h₀ vs (z ++ (fr ++ l'')) s₀ s4 ∧ J (i + 1) (ys ++ [y]) l'') E' s3
        else ∃ l'', S env ns h₀ vs (z ++ (fr ++ l'')) s₀ s3 ∧ J (i + 1) ys l'') E' s')
    (done : ∀ ys k D C oC m l' s', J us.length ys l' → ys.length ≤ us.length → LCg.NsObj oC m → S env ns h₀ vs ((C, oC) :: (D, listO ys k) :: l') s₀ s' → RR (.ref D) C (.ok .next) s') :
    wpAny (model prog w) A (pyIter (.ref t)) (CompRest prog w A env2 E elt [⟨target, iter, ifs, 0⟩] scope pos RR) E s := by
  refine wpAny_pyIter_list (st.list hm) ?_
  have hne : t ≠ s.heap.objs.size := Nat.ne_of_lt (Heap.lt_size (st.at hm))
  refine g_compOne FI Fx J (iter_list hh hne us) (st.push _ rfl) ⟨rfl, rfl⟩ h0 hn (fun s Q E ho x hQ => wpAny_pyIter_listiter ⟨_, ho, rfl, rfl⟩ hQ) (fun i ys l' s' z hJ st' => st'.list (List.mem_append_right _ (keep i ys l' hJ))) hFI0 hFI (fun C i v ys fr l' z s' E' x hP hJ => asg C i v ys fr l' z s' E' hP hJ) (fun C i v ys fr l' z s' E' x hP hJ => turn C i v ys fr l' z s' E' hP hJ) done
end
end Mine.Internal
end
section
set_option tactic.hygienic false
open PySem PySem.W PySem.Calls PyProof.Rows
set_option maxRecDepth 100000
namespace Mine.Internal

theorem cellsFrom_addrs : ∀ (names : List (Str × NameKind)) (n : Nat) (acc : List (Str × Addr)), (acc.map (·.2)).Nodup → (∀ a ∈ acc, a.2 < n) → ((cellsFrom n names acc).map (·.2)).Nodup ∧ ∀ a ∈ cellsFrom n names acc, a ∈ acc ∨ n ≤ a.2
  | [], n, acc, h1, h2 => ⟨h1, fun a ha => .inl ha⟩
  | (x, k) :: r, n, acc, h1, h2 => by
    unfold cellsFrom
    split
    · have := cellsFrom_addrs r (n + 1) ((x, n) :: acc) (by
        rw [List.map_cons, List.nodup_cons]
        refine ⟨fun q => ?_, h1⟩
        obtain ⟨y, hy, e⟩ := List.mem_map.mp q
        have h3 := h2 y hy
        have e : y.2 = n := e
        rw [e] at h3
        exact absurd h3 (Nat.lt_irrefl _)) (fun a ha => by
        rcases List.mem_cons.mp ha with rfl | ha
        · exact Nat.lt_succ_self _
        · exact Nat.lt_succ_of_lt (h2 a ha))
      refine ⟨this.1, fun a ha => ?_⟩
      rcases this.2 a ha with q | q
      · rcases List.mem_cons.mp q with rfl | q
        · exact .inr (Nat.le_refl _)
        · exact .inl q
      · exact .inr (by exact Nat.le_of_lt q)
    · exact cellsFrom_addrs r n acc h1 h2
theorem cellsAre_fst {cm : Str → Option Value} {cs : List (Str × Addr)} {cells : Lg} (h : CellsAre cm cs cells) : cells.map (·.1) = cs.map (·.2) := by
  induction h with
  | nil => rfl
  | cons _ _ ih => simp [ih]

section
variable {prog : Program} {w : World} {A : Around} {E : Value → Shared → Prop} {env : Env} {ns : List Str} {h₀ : Heap} {vs : List (Option Value)} {l : Lg} {s₀ s : Shared}
  {K : Frag} {p : Program} {loose : List Str} {mean : ExcName → Option Value} {mg mb : Str → Option Value} {d u : Nat}

theorem fn_ofC {ns : List Str} {qual : Str} {scope : Scope} {f : Addr} {cdv : Value} (h : (ns.all fun x => scope.names.lookup x == some .local && !(x == ("__debug__" : Str))) = true) (hn : ns.Nodup) (hk : scope.kind = .function) (L' : Addr) : Fn (envOfC qual scope L' f cdv) ns :=
  ⟨hk, hn, fun x hx => by have := List.all_eq_true.mp h x hx; simp only [Bool.and_eq_true, beq_iff_eq] at this; exact this.1, rfl, fun x hx => by have := List.all_eq_true.mp h x hx; simp only [Bool.and_eq_true, Bool.not_eq_true'] at this; exact this.2, rfl, rfl⟩
end
end Mine.Internal
end
section
set_option tactic.hygienic false
open PySem PySem.W PySem.Calls PyProof.Rows PySem.Spec
set_option maxRecDepth 100000
namespace Mine.Internal
section
variable {prog : Program} {w : World} {A : Around} {E : Value → Shared → Prop} {env env2 : Env} {ns : List Str} {h₀ : Heap} {vs : List (Option Value)} {l : Lg} {s₀ s : Shared}
  {K : Frag} {p : Program} {loose : List Str} {mean : ExcName → Option Value} {mg mb : Str → Option Value} {d u : Nat} {scope : Scope} {cl : List (Str × Addr)} {At : Value → Way × Int → Prop}
theorem w_rd {z : Lg} {x : Str} {pos : Pos} {v : Value} {Q : Value → Shared → Prop} (r : Rd prog w env2 z x v) (st : S env ns h₀ vs l s₀ s) (hz : ∀ c ∈ z, c ∈ l) (h : Q v s) : W (model prog w) A (eval (.Name x pos) env2) Q E s := by
  with_unfolding_all exact g_rd r st hz h
theorem w_cint {i : Int} {k pos} {Q : Value → Shared → Prop} (st : S env ns h₀ vs l s₀ s) (h : ∀ t s', S env ns h₀ vs l s₀ s' → Q (.int i t) s') : W (model prog w) A (eval (.Constant (.int i) k pos) env2) Q E s := by
  with_unfolding_all exact g_cint st h
theorem w_cglobal {x : Str} {pos : Pos} {v : Value} {Q : Value → Shared → Prop} (gl : Gl env2) (cx : Cx K p loose mean mg mb d u A env h₀) (st : S env ns h₀ vs l s₀ s) (e : nsIn K mainGlobals x = some (some v))
    (hx : env2.kindOf x = some .globalImplicit) (hd : (x == ("__debug__" : Str)) = false) (h : Q v s) : W (model prog w) A (eval (.Name x pos) env2) Q E s := by
  with_unfolding_all exact g_cglobal gl cx st e hx hd h
theorem w_setcell {x : Str} {v : Value} {v₀ : Option Value} {c : Addr} {oc : Obj} {l' : Obj → Lg} {Q : Unit → Shared → Prop} (gl : Gl env2) (st : S env ns h₀ vs l s₀ s) (hl : env2.kindOf x = some .cell) (hc : env2.cells.lookup x = some c) (U : ∀ o', UpdL c oc o' l (l' o')) (hd : CellV oc v₀)
    (h : ∀ o' s', CellV o' (some v) → S env ns h₀ vs (l' o') s₀ s' → Q () s') : W (model prog w) A (storeName env2 x v) Q E s := by
  with_unfolding_all exact g_setcell gl st hl hc U hd h
theorem w_append {D : Addr} {ys : List Value} {n : Nat} {y : Value} {l' : Obj → Lg} {Q : Value → Shared → Prop} (st : S env ns h₀ vs l s₀ s) (U : ∀ o', UpdL D (listO ys n) o' l (l' o')) (hsz : ys.length ≤ sizeLine)
    (h : ∀ n' s', S env ns h₀ vs (l' (listO (ys ++ [y]) n')) s₀ s' → Q .none s') : W (model prog w) A (call (.builtin "list.append") [.ref D, y]) Q E s := by
  with_unfolding_all exact g_append st U hsz h
theorem w_tests0 {Q : Bool → Shared → Prop} (h : Q true s) : W (model prog w) A (testsOf [] env2) Q E s := by
  with_unfolding_all exact g_tests0 h
theorem w_tests1 {c : Expr} {Q : Bool → Shared → Prop} (h : W (model prog w) A (isTrue c env2 (eval c env2)) Q E s) : W (model prog w) A (testsOf [c] env2) Q E s := by
  with_unfolding_all exact g_tests1 h
theorem w_comp {elt target iter : Expr} {ifs : List Expr} {rest : List Comprehension} {scope : Scope} {pos : Pos} {Q : Value → Shared → Prop}
    (h : W (model prog w) A (eval iter env2) (fun x s₁ => W (model prog w) A (pyIter x) (CompRest prog w A env2 E elt (⟨target, iter, ifs, 0⟩ :: rest) scope pos (RRn prog w A E Q)) E s₁) E s)
    (hfree : ∀ x ∈ scope.names, x.2 = .free → (env2.cells.lookup x.1).isSome = true) (hs : ∀ x, foldedSetIterable iter env2 x = pure x) (hkind : scope.kind = .function) (hnames : ∀ x ∈ scope.names, x.2 = .local → scope.names.lookup x.1 = some .local) :
    W (model prog w) A (eval (.ListComp elt (⟨target, iter, ifs, 0⟩ :: rest) scope pos) env2) Q E s := by
  with_unfolding_all exact g_comp h hfree hs hkind hnames
theorem w_compAssign {elt target iter : Expr} {ifs : List Expr} {rest : List Comprehension} {scope : Scope} {pos spos py : Pos} {y : Str} {Q : Flow → Shared → Prop}
    (h : W (model prog w) A (eval iter env2) (fun x s₁ => W (model prog w) A (pyIter x) (CompRest prog w A env2 E elt (⟨target, iter, ifs, 0⟩ :: rest) scope pos (RRu prog w A E y py env2 Q)) E s₁) E s)
    (hsw : swapsWith (.ListComp elt (⟨target, iter, ifs, 0⟩ :: rest) scope pos) (some (.Name y py)) spos.line env2 = pure true)
    (hfree : ∀ x ∈ scope.names, x.2 = .free → (env2.cells.lookup x.1).isSome = true) (hs : ∀ x, foldedSetIterable iter env2 x = pure x) (hkind : scope.kind = .function) (hnames : ∀ x ∈ scope.names, x.2 = .local → scope.names.lookup x.1 = some .local) :
    W (model prog w) A (exec (.Assign [.Name y py] (.ListComp elt (⟨target, iter, ifs, 0⟩ :: rest) scope pos) spos) env2) Q E s := by
  with_unfolding_all exact g_compAssign h hsw hfree hs hkind hnames
theorem w_asgloc {x : Str} {px : Pos} {C : Addr} {v : Value} {fr l' z : Lg} (gl : Gl env2) (hk : scope.kind = .function) (hx : scope.names.lookup x = some .local) (hfr : FL C fr) (st : S env ns h₀ vs (z ++ (fr ++ l')) s₀ s) (hb : autoParam ((x == ("__debug__" : Str)) = false) tDec) :
    W (model prog w) A (assign (.Name x px) (cE scope cl env2 C) v) (fun h s2 => ∃ fr', FL C fr' ∧ Rd prog w (cE scope cl env2 C) fr' x v ∧ S env ns h₀ vs (z ++ (fr' ++ l')) s₀ s2) E s := by
  with_unfolding_all exact g_asgloc gl hk hx hfr st hb
theorem w_asgtwo {x y : Str} {px py tp : Pos} {x1} {C a : Addr} {v1 v2 : Value} {fr l' z : Lg} (hh : A.handled = none) (gl : Gl env2) (hk : scope.kind = .function) (hx : scope.names.lookup x = some .local) (hy : scope.names.lookup y = some .local) (hxy : x ≠ y) (hfr : FL C fr) (st : S env ns h₀ vs (z ++ (fr ++ l')) s₀ s) (hm : (a, tupO [v1, v2]) ∈ l') (hb : autoParam ((x == ("__debug__" : Str)) = false) tDec) (hb2 : autoParam ((y == ("__debug__" : Str)) = false) tDec) :
    W (model prog w) A (assign (.Tuple [.Name x px, .Name y py] x1 tp) (cE scope cl env2 C) (.ref a)) (fun h s2 => ∃ fr', FL C fr' ∧ (Rd prog w (cE scope cl env2 C) fr' x v1 ∧ Rd prog w (cE scope cl env2 C) fr' y v2) ∧ S env ns h₀ vs (z ++ (fr' ++ l')) s₀ s2) E s := by
  with_unfolding_all exact g_asgtwo hh gl hk hx hy hxy hfr st hm hb hb2
theorem w_compList {elt target iter : Expr} {ifs : List Expr} {pos : Pos} {RR : Value → Addr → Result → Shared → Prop} {t : Addr} {us : List Value} {n : Nat} (hh : A.handled = none)
    (FI : Addr → Lg → Prop) (Fx : Addr → Value → Lg → Prop) (J : Nat → List Value → Lg → Prop) (st : S env ns h₀ vs l s₀ s) (hm : (t, listO us n) ∈ l) (h0 : J 0 [] l) (hn : us.length ≤ 2 ^ 20)
    (keep : ∀ i ys l', J i ys l' → (t, listO us n) ∈ l')
    (hFI0 : ∀ C, FI C (cellL (C + 1) scope.names ++ [(C, emptyD)])) (hFI : ∀ C fr, FI C fr → ∃ cc oC m, fr = cc ++ [(C, oC)] ∧ LCg.NsObj oC m)
    (asg : ∀ C i v ys fr l' z s' E', us[i]? = some v → J i ys l' → FI C fr → S env ns h₀ vs (z ++ (fr ++ l')) s₀ s' → W (model prog w) A (assign target (cE scope (closL env2.cells scope.names []) env2 C) v) (fun x s2 => ∃ fr', FI C fr' ∧ Fx C v fr' ∧ S env ns h₀ vs (z ++ (fr' ++ l')) s₀ s2) E' s')
    (turn : ∀ C i v ys fr l' z s' E', us[i]? = some v → J i ys l' → Fx C v fr → S env ns h₀ vs (z ++ (fr ++ l')) s₀ s' →
      W (model prog w) A (testsOf ifs (cE scope (closL env2.cells scope.names []) env2 C)) (fun ok s3 => if ok = true then W (model prog w) A (eval elt (cE scope (closL env2.cells scope.names []) env2 C)) (fun y s4 => ∃ l'', S env ns h₀ vs (z ++ (fr ++ l'')) s₀ s4 ∧ J (i + 1) (ys ++ [y]) l'') E' s3
        else ∃ l'', S env ns h₀ vs (z ++ (fr ++ l'')) s₀ s3 ∧ J (i + 1) ys l'') E' s')
    (done : ∀ ys k D C oC m l' s', J us.length ys l' → ys.length ≤ us.length → LCg.NsObj oC m → S env ns h₀ vs ((C, oC) :: (D, listO ys k) :: l') s₀ s' → RR (.ref D) C (.ok .next) s') :
    W (model prog w) A (pyIter (.ref t)) (CompRest prog w A env2 E elt [⟨target, iter, ifs, 0⟩] scope pos RR) E s := by
  with_unfolding_all exact g_compList hh FI Fx J st hm h0 hn keep hFI0 hFI asg turn done
theorem w_ccwK {M : Model} {pos : Pos} {f : Value} {first : List Value} {e : Expr} {rest : List Expr} {Q : Value → Shared → Prop} (cx : Cx K p loose mean mg mb d u A env h₀) (hk : keepIn K f = true)
    (h : W M A (spliced (backTo pos (starEach (e :: rest) env2))) (fun vs s₁ => K.In s₁.heap ∧ W M A (call f (first ++ vs)) Q E s₁) E s)
    (he : autoParam (starEach (e :: rest) env2 = (false, eval e env2) :: starEach rest env2) tRfl) (hplain : autoParam ((backTo pos (starEach rest env2)).any (·.1) = false) tRfl) :
    W M A (callWith pos f first (backTo pos (starEach (e :: rest) env2)) []) Q E s := by with_unfolding_all exact callWith_K cx.x hk h he hplain
end
end Mine.Internal
end
section
set_option tactic.hygienic false
open PySem PySem.W PySem.Calls PyProof.Rows
set_option maxRecDepth 100000
namespace Mine.Internal
section
variable {prog : Program} {w : World} {A : Around} {E : Value → Shared → Prop} {env env2 : Env} {ns : List Str} {h₀ : Heap} {vs : List (Option Value)} {l : Lg} {s₀ s : Shared} {scope : Scope}

theorem w_compName {elt iter : Expr} {ifs : List Expr} {pos px : Pos} {x : Str} {RR : Value → Addr → Result → Shared → Prop} {t : Addr} {us : List Value} {n : Nat} (hh : A.handled = none) (gl : Gl env2) (hk : scope.kind = .function) (hx : scope.names.lookup x = some .local) (hcell : ∀ C, cellL (C + 1) scope.names = [])
    (J : Nat → List Value → Lg → Prop) (st : S env ns h₀ vs l s₀ s) (hm : (t, listO us n) ∈ l) (h0 : J 0 [] l) (hn : us.length ≤ 2 ^ 20)
    (keep : ∀ i ys l', J i ys l' → (t, listO us n) ∈ l')
    (turn : ∀ cenv i v ys z l' s' E', (∃ C, cenv = cE scope (closL env2.cells scope.names []) env2 C) → us[i]? = some v → J i ys l' → Rd prog w cenv z x v → S env ns h₀ vs (z ++ l') s₀ s' →
      W (model prog w) A (testsOf ifs cenv) (fun ok s3 => if ok = true then W (model prog w) A (eval elt cenv) (fun y s4 => ∃ l'', S env ns h₀ vs (z ++ l'') s₀ s4 ∧ J (i + 1) (ys ++ [y]) l'') E' s3
        else ∃ l'', S env ns h₀ vs (z ++ l'') s₀ s3 ∧ J (i + 1) ys l'') E' s')
    (done : ∀ ys k D C oC m l' s', J us.length ys l' → ys.length ≤ us.length → LCg.NsObj oC m → S env ns h₀ vs ((C, oC) :: (D, listO ys k) :: l') s₀ s' → RR (.ref D) C (.ok .next) s')
    (hb : autoParam ((x == ("__debug__" : Str)) = false) tDec) :
    W (model prog w) A (pyIter (.ref t)) (CompRest prog w A env2 E elt [⟨.Name x px, iter, ifs, 0⟩] scope pos RR) E s := by
  refine w_compList hh FL (fun C v fr => Rd prog w (cE scope (closL env2.cells scope.names []) env2 C) fr x v) J st hm h0 hn keep (fun C => by rw [hcell]; exact FL.start) (fun C fr h => h.end_)
    (fun C i v ys fr l' z s' E' hv hJ hfr st' => w_asgloc gl hk hx hfr st' hb) (fun C i v ys fr l' z s' E' hv hJ hfx st' => ?_) done
  have st2 : S env ns h₀ vs ((z ++ fr) ++ l') s₀ s' := by rw [List.append_assoc]; exact st'
  refine W.mono (turn _ i v ys (z ++ fr) l' s' E' ⟨C, rfl⟩ hv hJ (hfx.mono fun c hc => List.mem_append_right _ hc) st2) fun ok s3 h3 => ?_
  cases ok with
  | true =>
    rw [if_pos rfl] at h3 ⊢
    refine W.mono h3 fun y s4 h4 => ?_
    obtain ⟨l'', st4, hJ4⟩ := h4
    exact ⟨l'', by rw [← List.append_assoc]; exact st4, hJ4⟩
  | false =>
    rw [if_neg Bool.false_ne_true] at h3 ⊢
    obtain ⟨l'', st4, hJ4⟩ := h3
    exact ⟨l'', by rw [← List.append_assoc]; exact st4, hJ4⟩

theorem w_compPair {elt iter : Expr} {ifs : List Expr} {pos px py tp : Pos} {x1} {x y : Str} {RR : Value → Addr → Result → Shared → Prop} {t : Addr} {us : List Value} {n : Nat} (PR : Value → Value → Value → Prop) (hh : A.handled = none) (gl : Gl env2) (hk : scope.kind = .function) (hx : scope.names.lookup x = some .local) (hy : scope.names.lookup y = some .local) (hxy : x ≠ y) (hcell : ∀ C, cellL (C + 1) scope.names = [])
    (J : Nat → List Value → Lg → Prop) (st : S env ns h₀ vs l s₀ s) (hm : (t, listO us n) ∈ l) (h0 : J 0 [] l) (hn : us.length ≤ 2 ^ 20)
    (keep : ∀ i ys l', J i ys l' → (t, listO us n) ∈ l')
    (pair : ∀ i v ys l', us[i]? = some v → J i ys l' → ∃ a v1 v2, v = .ref a ∧ PR v v1 v2 ∧ (a, tupO [v1, v2]) ∈ l')
    (turn : ∀ cenv i v v1 v2 ys z l' s' E', (∃ C, cenv = cE scope (closL env2.cells scope.names []) env2 C) → us[i]? = some v → PR v v1 v2 → J i ys l' → Rd prog w cenv z x v1 → Rd prog w cenv z y v2 → S env ns h₀ vs (z ++ l') s₀ s' →
      W (model prog w) A (testsOf ifs cenv) (fun ok s3 => if ok = true then W (model prog w) A (eval elt cenv) (fun y s4 => ∃ l'', S env ns h₀ vs (z ++ l'') s₀ s4 ∧ J (i + 1) (ys ++ [y]) l'') E' s3
        else ∃ l'', S env ns h₀ vs (z ++ l'') s₀ s3 ∧ J (i + 1) ys l'') E' s')
    (done : ∀ ys k D C oC m l' s', J us.length ys l' → ys.length ≤ us.length → LCg.NsObj oC m → S env ns h₀ vs ((C, oC) :: (D, listO ys k) :: l') s₀ s' → RR (.ref D) C (.ok .next) s')
    (hb : autoParam ((x == ("__debug__" : Str)) = false) tDec) (hb2 : autoParam ((y == ("__debug__" : Str)) = false) tDec) :
    W (model prog w) A (pyIter (.ref t)) (CompRest prog w A env2 E elt [⟨.Tuple [.Name x px, .Name y py] x1 tp, iter, ifs, 0⟩] scope pos RR) E s := by
  refine w_compList hh FL (fun C v fr => ∃ v1 v2, PR v v1 v2 ∧ Rd prog w (cE scope (closL env2.cells scope.names []) env2 C) fr x v1 ∧ Rd prog w (cE scope (closL env2.cells scope.names []) env2 C) fr y v2) J st hm h0 hn keep (fun C => by rw [hcell]; exact FL.start) (fun C fr h => h.end_)
    (fun C i v ys fr l' z s' E' hv hJ hfr st' => ?_) (fun C i v ys fr l' z s' E' hv hJ hfx st' => ?_) done
  · obtain ⟨a, v1, v2, rfl, hpr, ha⟩ := pair i v ys l' hv hJ
    refine W.mono (w_asgtwo hh gl hk hx hy hxy hfr st' ha hb hb2) fun u s2 h2 => ?_
    obtain ⟨fr', hfr', ⟨r1, r2⟩, st2⟩ := h2
    exact ⟨fr', hfr', ⟨v1, v2, hpr, r1, r2⟩, st2⟩
  · obtain ⟨v1, v2, hpr, r1, r2⟩ := hfx
    have st2 : S env ns h₀ vs ((z ++ fr) ++ l') s₀ s' := by rw [List.append_assoc]; exact st'
    refine W.mono (turn _ i v v1 v2 ys (z ++ fr) l' s' E' ⟨C, rfl⟩ hv hpr hJ (r1.mono fun c hc => List.mem_append_right _ hc) (r2.mono fun c hc => List.mem_append_right _ hc) st2) fun ok s3 h3 => ?_
    cases ok with
    | true =>
      rw [if_pos rfl] at h3 ⊢
      refine W.mono h3 fun y s4 h4 => ?_
      obtain ⟨l'', st4, hJ4⟩ := h4
      exact ⟨l'', by rw [← List.append_assoc]; exact st4, hJ4⟩
    | false =>
      rw [if_neg Bool.false_ne_true] at h3 ⊢
      obtain ⟨l'', st4, hJ4⟩ := h3
      exact ⟨l'', by rw [← List.append_assoc]; exact st4, hJ4⟩
end
end Mine.Internal
end
section
set_option tactic.hygienic false
open PySem PySem.W PySem.Calls PyProof.Rows
set_option maxRecDepth 100000
namespace Mine.Internal
open SetTable (Probe)

noncomputable def seqP (t : SetTable) (h : Int) : Nat → Probe
  | 0 => t.probeStart h
  | n + 1 => t.advance (seqP t h n)

theorem adv_mask {t t' : SetTable} (e : t.mask = t'.mask) (p : Probe) : t.advance p = t'.advance p := by
  unfold SetTable.advance; rw [e]
theorem seqP_mask {t t' : SetTable} (e : t.mask = t'.mask) (h : Int) : ∀ n, seqP t h n = seqP t' h n
  | 0 => by unfold seqP SetTable.probeStart; rw [e]
  | n + 1 => by unfold seqP; rw [seqP_mask e h n, adv_mask e]

noncomputable def orb (m : Nat) (i : Nat) : Nat → Nat
  | 0 => i
  | k + 1 => (orb m i k * 5 + 1) % (m + 1)
theorem orb_add (m i : Nat) (a : Nat) : ∀ b, orb m i (a + b) = orb m (orb m i a) b
  | 0 => rfl
  | b + 1 => by
    show (orb m i (a + b) * 5 + 1) % (m + 1) = (orb m (orb m i a) b * 5 + 1) % (m + 1)
    rw [orb_add m i a b]
noncomputable def orbList (m : Nat) : Nat → Nat → List Nat
  | 0, _ => []
  | n + 1, i => i :: orbList m n ((i * 5 + 1) % (m + 1))
theorem orbList_mem (m : Nat) : ∀ (n i x : Nat), x ∈ orbList m n i → ∃ k, k < n ∧ orb m i k = x
  | 0, _, _, h => by cases h
  | n + 1, i, x, h => by
    rcases List.mem_cons.mp h with rfl | h
    · exact ⟨0, by exact Nat.le_of_ble_eq_true rfl, rfl⟩
    · obtain ⟨k, hk, e⟩ := orbList_mem m n _ x h
      refine ⟨k + 1, by exact Nat.lt_succ_of_le hk, ?_⟩
      rw [Nat.add_comm, orb_add]
      exact e
noncomputable def okMask (m : Nat) : Prop := m = 7 ∨ m = 31 ∨ m = 127
theorem orb_all7 : ((List.range 8).all fun x => (orbList 7 8 0).contains x) = true := by decide +kernel
theorem orb_all31 : ((List.range 32).all fun x => (orbList 31 32 0).contains x) = true := by decide +kernel
theorem orb_all127 : ((List.range 128).all fun x => (orbList 127 128 0).contains x) = true := by decide +kernel
theorem orb_back7 : orb 7 0 8 = 0 := by decide +kernel
theorem orb_back31 : orb 31 0 32 = 0 := by decide +kernel
theorem orb_back127 : orb 127 0 128 = 0 := by decide +kernel
theorem orb_zero {m : Nat} (hm : okMask m) {x : Nat} (hx : x ≤ m) : ∃ k, k < m + 1 ∧ orb m 0 k = x := by
  have go : ∀ m, ((List.range (m + 1)).all fun x => (orbList m (m + 1) 0).contains x) = true → ∀ x, x ≤ m → ∃ k, k < m + 1 ∧ orb m 0 k = x := by
    intro m h x hx
    have := List.all_eq_true.mp h x (List.mem_range.mpr (by exact Nat.lt_succ_of_le hx))
    exact orbList_mem m _ _ _ (List.contains_iff_mem.mp this)
  rcases hm with rfl | rfl | rfl
  · exact go 7 orb_all7 x hx
  · exact go 31 orb_all31 x hx
  · exact go 127 orb_all127 x hx
theorem orb_back {m : Nat} (hm : okMask m) : orb m 0 (m + 1) = 0 := by
  rcases hm with rfl | rfl | rfl
  · exact orb_back7
  · exact orb_back31
  · exact orb_back127
theorem orb_reach {m : Nat} (hm : okMask m) {i x : Nat} (hi : i ≤ m) (hx : x ≤ m) : ∃ k, k ≤ m ∧ orb m i k = x := by
  obtain ⟨a, ha, ea⟩ := orb_zero hm hi
  obtain ⟨b, hb, eb⟩ := orb_zero hm hx
  by_cases h : a ≤ b
  · refine ⟨b - a, by exact qfl fun x => qfa3 x (qfs2 (b) (a) (by exact h)) hb (by simp +arith only), ?_⟩
    rw [← ea, ← orb_add, show a + (b - a) = b by exact Nat.add_sub_cancel' h, eb]
  · refine ⟨m + 1 - a + b, by exact qfl fun x => qfa3 x (qfs2 (m + 1) (a) (by exact Nat.le_of_lt ha)) (Nat.lt_of_not_le h) (by simp +arith only), ?_⟩
    rw [← ea, ← orb_add, show a + (m + 1 - a + b) = (m + 1) + b by exact Nat.le_antisymm (qfl fun x => qfa2 x (qfs2 (m + 1) (a) (by exact Nat.le_of_lt ha)) (by simp +arith only)) (qfl fun x => qfa2 x (qfs1 (m + 1) (a)) (by simp +arith only)), orb_add, orb_back hm, eb]

noncomputable def runI (m : Nat) (h : Int) : Nat → Nat × Nat
  | 0 => (SetTable.bits h % (m + 1), SetTable.bits h)
  | k + 1 => SetTable.leap m (runI m h k).1 (runI m h k).2
theorem runI_le (m : Nat) (h : Int) : ∀ k, (runI m h k).1 ≤ m
  | 0 => by show SetTable.bits h % (m + 1) ≤ m; have := Nat.mod_lt (SetTable.bits h) (show m + 1 > 0 by exact Nat.le_of_ble_eq_true rfl); exact Nat.le_of_lt_succ this
  | k + 1 => by
    show ((runI m h k).1 * 5 + 1 + (runI m h k).2 / 32) % (m + 1) ≤ m
    have := Nat.mod_lt ((runI m h k).1 * 5 + 1 + (runI m h k).2 / 32) (show m + 1 > 0 by exact Nat.le_of_ble_eq_true rfl); exact Nat.le_of_lt_succ this
theorem runI_pert (m : Nat) (h : Int) : ∀ k, (runI m h k).2 = SetTable.bits h / 32 ^ k
  | 0 => by simp [runI]
  | k + 1 => by
    show (runI m h k).2 / 32 = _
    rw [runI_pert m h k, Nat.div_div_eq_div_mul, Nat.pow_succ]
theorem bits_lt (h : Int) : SetTable.bits h < 2 ^ 64 := by
  unfold SetTable.bits
  have h1 := Int.emod_nonneg h (show (2 ^ 64 : Int) ≠ 0 by decide)
  have h2 := Int.emod_lt_of_pos h (show (0 : Int) < 2 ^ 64 by decide)
  exact (Int.toNat_lt h1).mpr h2
theorem pert_zero (m : Nat) (h : Int) (k : Nat) (hk : 13 ≤ k) : (runI m h k).2 = 0 := by
  rw [runI_pert]
  refine Nat.div_eq_of_lt (Nat.lt_of_lt_of_le (bits_lt h) ?_)
  calc 2 ^ 64 ≤ 32 ^ 13 := by decide
    _ ≤ 32 ^ k := Nat.pow_le_pow_right (by decide) hk
theorem runI_orb (m : Nat) (h : Int) : ∀ k, (runI m h (13 + k)).1 = orb m (runI m h 13).1 k
  | 0 => rfl
  | k + 1 => by
    show ((runI m h (13 + k)).1 * 5 + 1 + (runI m h (13 + k)).2 / 32) % (m + 1) = (orb m (runI m h 13).1 k * 5 + 1) % (m + 1)
    rw [runI_orb m h k, pert_zero m h (13 + k) (by exact Nat.le_add_right _ _)]
theorem runI_reach {m : Nat} (hm : okMask m) (h : Int) {x : Nat} (hx : x ≤ m) : ∃ k, k ≤ 13 + m ∧ (runI m h k).1 = x := by
  obtain ⟨k, hk, e⟩ := orb_reach hm (runI_le m h 13) hx
  exact ⟨13 + k, Nat.add_le_add_left hk 13, by rw [runI_orb, e]⟩

theorem runEnd_le (m i : Nat) (hi : i ≤ m) : SetTable.runEnd m i - i ≤ 9 ∧ i ≤ SetTable.runEnd m i ∧ SetTable.runEnd m i ≤ m := by
  unfold SetTable.runEnd; split
  · exact ⟨Nat.le_of_eq (Nat.add_sub_cancel_left i 9), Nat.le_add_right _ _, by assumption⟩
  · exact ⟨Nat.le_trans (Nat.le_of_eq (Nat.sub_self i)) (Nat.zero_le 9), Nat.le_refl _, hi⟩

noncomputable def startOf (t : SetTable) (q : Nat × Nat) : Probe := { j := q.1, more := SetTable.runEnd t.mask q.1 - q.1, i := q.1, perturb := q.2, dummy := none }

theorem adv_run (t : SetTable) (q : Nat × Nat) (h : Int) (n : Nat) (e : seqP t h n = startOf t q) : ∀ r, r ≤ SetTable.runEnd t.mask q.1 - q.1 → seqP t h (n + r) = { j := q.1 + r, more := SetTable.runEnd t.mask q.1 - q.1 - r, i := q.1, perturb := q.2, dummy := none }
  | 0, _ => by rw [Nat.add_zero, e]; rfl
  | r + 1, hr => by
    show t.advance (seqP t h (n + r)) = _
    rw [adv_run t q h n e r (by exact Nat.le_of_lt hr)]
    unfold SetTable.advance
    rw [if_pos (by show SetTable.runEnd t.mask q.1 - q.1 - r > 0; exact (by exact Nat.sub_pos_of_lt hr))]
    simp only [Probe.mk.injEq, and_true]
    lia
theorem adv_leap (t : SetTable) (q : Nat × Nat) (h : Int) (n : Nat) (e : seqP t h n = startOf t q) : seqP t h (n + (SetTable.runEnd t.mask q.1 - q.1) + 1) = startOf t (SetTable.leap t.mask q.1 q.2) := by
  show t.advance (seqP t h (n + (SetTable.runEnd t.mask q.1 - q.1))) = _
  rw [adv_run t q h n e _ (Nat.le_refl _)]
  unfold SetTable.advance
  rw [if_neg (by show ¬ SetTable.runEnd t.mask q.1 - q.1 - (SetTable.runEnd t.mask q.1 - q.1) > 0; rw [Nat.sub_self]; exact Nat.lt_irrefl 0)]
  rfl
theorem run_at (t : SetTable) (h : Int) : ∀ k, ∃ n, n ≤ 10 * k ∧ seqP t h n = startOf t (runI t.mask h k)
  | 0 => ⟨0, Nat.le_refl _, rfl⟩
  | k + 1 => by
    obtain ⟨n, hn, e⟩ := run_at t h k
    have hr := runEnd_le t.mask (runI t.mask h k).1 (runI_le _ _ _)
    refine ⟨n + (SetTable.runEnd t.mask (runI t.mask h k).1 - (runI t.mask h k).1) + 1, by exact qfl fun x => qfa3 x hn hr.1 (by simp +arith only), adv_leap t _ h n e⟩
theorem seq_reach {t : SetTable} (hm : okMask t.mask) (h : Int) {x : Nat} (hx : x ≤ t.mask) : ∃ n, n ≤ 10 * (13 + t.mask) ∧ (seqP t h n).j = x := by
  obtain ⟨k, hk, e⟩ := runI_reach hm h hx
  obtain ⟨n, hn, e2⟩ := run_at t h k
  exact ⟨n, Nat.le_trans hn (Nat.mul_le_mul_left 10 hk), by rw [e2]; exact e⟩
theorem seq_dummy (t : SetTable) (h : Int) : ∀ n, (seqP t h n).dummy = none
  | 0 => rfl
  | n + 1 => by
    have := seq_dummy t h n
    unfold seqP SetTable.advance
    split
    · exact this
    · exact this

theorem first_free {t : SetTable} (hm : okMask t.mask) (h : Int) (P : Nat → Bool) (hx : ∃ x, x ≤ t.mask ∧ P x = false) :
    ∃ N, N ≤ 10 * (13 + t.mask) ∧ P (seqP t h N).j = false ∧ ∀ m, m < N → P (seqP t h m).j = true := by
  obtain ⟨x, hxm, hpx⟩ := hx
  obtain ⟨n, hn, e⟩ := seq_reach hm h hxm
  have : ∃ n, P (seqP t h n).j = false := ⟨n, by rw [e]; exact hpx⟩
  obtain ⟨N, hN, hmin⟩ : ∃ N, P (seqP t h N).j = false ∧ ∀ m, m < N → P (seqP t h m).j = true := by
    clear hn e hpx hxm
    obtain ⟨n, hn⟩ := this
    induction n using Nat.strongRecOn with
    | ind n ih =>
      by_cases q : ∃ m, m < n ∧ P (seqP t h m).j = false
      · obtain ⟨m, hm1, hm2⟩ := q
        exact ih m hm1 hm2
      · refine ⟨n, hn, fun m hm => ?_⟩
        cases hb : P (seqP t h m).j with
        | true => rfl
        | false => exact absurd ⟨m, hm, hb⟩ q
  refine ⟨N, ?_, hN, hmin⟩
  rcases Nat.lt_or_ge n N with hlt | hge
  · have := hmin n hlt
    rw [e, hpx] at this; cases this
  · exact Nat.le_trans hge hn

theorem below_go {xs : Array Nat} (hs : xs.toList.Pairwise (· < ·)) (j : Nat) : ∀ (fuel lo hi : Nat), hi - lo ≤ fuel → lo ≤ hi → hi ≤ xs.size →
    (∀ k, k < lo → ∀ x, xs[k]? = some x → x < j) → (∀ k, hi ≤ k → ∀ x, xs[k]? = some x → j ≤ x) →
    SetTable.below.go xs j fuel lo hi ≤ xs.size ∧ (∀ k, k < SetTable.below.go xs j fuel lo hi → ∀ x, xs[k]? = some x → x < j) ∧ (∀ k, SetTable.below.go xs j fuel lo hi ≤ k → ∀ x, xs[k]? = some x → j ≤ x)
  | 0, lo, hi, hf, hlo, hhi, h1, h2 => by
    have e : lo = hi := by exact Nat.le_antisymm (by exact hlo) (qfl fun x => qfa3 x (qfs1 (hi) (lo)) hf (by simp +arith only))
    subst e
    unfold SetTable.below.go
    exact ⟨hhi, h1, h2⟩
  | fuel + 1, lo, hi, hf, hlo, hhi, h1, h2 => by
    unfold SetTable.below.go
    by_cases hlt : lo < hi
    · rw [if_pos hlt]
      have hmid : (lo + hi) / 2 < xs.size := Nat.lt_of_lt_of_le (oMid2 hlt) hhi
      have hget : xs.getD ((lo + hi) / 2) j = xs[(lo + hi) / 2] := by simp [hmid]
      have mono : ∀ (a b x y : Nat), a < b → xs[a]? = some x → xs[b]? = some y → x < y := by
        intro a b x y hab hx hy
        obtain ⟨ha, rfl⟩ := Array.getElem?_eq_some_iff.mp hx
        obtain ⟨hb, rfl⟩ := Array.getElem?_eq_some_iff.mp hy
        have := List.pairwise_iff_getElem.mp hs a b (by simpa using ha) (by simpa using hb) hab
        simpa using this
      dsimp only
      rw [hget]
      by_cases hc : xs[(lo + hi) / 2] < j
      · rw [if_pos hc]
        refine below_go hs j fuel _ _ (oFuel hf (oLo (oMid1 hlo) hlt)) (oMid2 hlt) hhi (fun k hk x hx => ?_) h2
        rcases Nat.lt_or_ge k ((lo + hi) / 2) with h | h
        · exact Nat.lt_trans (mono k _ x _ h hx (Array.getElem?_eq_some_iff.mpr ⟨hmid, rfl⟩)) hc
        · have : k = (lo + hi) / 2 := by exact Nat.le_antisymm (Nat.le_of_lt_succ hk) h
          subst this
          rw [Array.getElem?_eq_getElem hmid] at hx
          cases hx; exact hc
      · rw [if_neg hc]
        refine below_go hs j fuel _ _ (oFuel hf (oHi (oMid1 hlo) (oMid2 hlt))) (oMid1 hlo) (by exact Nat.le_of_lt hmid) h1 (fun k hk x hx => ?_)
        rcases Nat.lt_or_ge ((lo + hi) / 2) k with h | h
        · have := mono _ k _ x h (Array.getElem?_eq_some_iff.mpr ⟨hmid, rfl⟩) hx
          exact Nat.le_of_lt (Nat.lt_of_le_of_lt (Nat.le_of_not_lt hc) this)
        · have : k = (lo + hi) / 2 := by exact Nat.le_antisymm h hk
          subst this
          rw [Array.getElem?_eq_getElem hmid] at hx
          cases hx; exact (Nat.le_of_not_lt hc)
    · rw [if_neg hlt]
      have e : lo = hi := by exact Nat.le_antisymm hlo (Nat.le_of_not_lt hlt)
      subst e
      exact ⟨hhi, h1, h2⟩

theorem below_spec {xs : Array Nat} (hs : xs.toList.Pairwise (· < ·)) (j : Nat) :
    SetTable.below xs j ≤ xs.size ∧ (∀ k, k < SetTable.below xs j → ∀ x, xs[k]? = some x → x < j) ∧ (∀ k, SetTable.below xs j ≤ k → ∀ x, xs[k]? = some x → j ≤ x) :=
  below_go hs j xs.size 0 xs.size (by exact (qfs2 (xs.size) (0) (by exact Nat.zero_le _))) (Nat.zero_le _) (Nat.le_refl _) (fun k hk => absurd hk (Nat.not_lt_zero _)) (fun k hk x hx => by
    exact absurd (Array.getElem?_eq_some_iff.mp hx).1 (Nat.not_lt.mpr hk))
theorem below_at {xs : Array Nat} (hs : xs.toList.Pairwise (· < ·)) {i j : Nat} (h : xs[i]? = some j) : SetTable.below xs j = i := by
  obtain ⟨h1, h2, h3⟩ := below_spec hs j
  obtain ⟨hi, e⟩ := Array.getElem?_eq_some_iff.mp h
  rcases Nat.lt_trichotomy (SetTable.below xs j) i with q | q | q
  · have hb : SetTable.below xs j < xs.size := by exact Nat.lt_trans q hi
    have g1 := h3 _ (Nat.le_refl _) _ (Array.getElem?_eq_getElem hb)
    have := List.pairwise_iff_getElem.mp hs (SetTable.below xs j) i (by simpa using hb) (by simpa using hi) q
    simp only [Array.getElem_toList] at this
    exact absurd (Nat.lt_of_le_of_lt g1 this) (by rw [e]; exact Nat.lt_irrefl _)
  · exact q
  · exact absurd (h2 i q j h) (Nat.lt_irrefl _)
theorem slot_live {t : SetTable} (hs : t.place.toList.Pairwise (· < ·)) {i j : Nat} (h : t.place[i]? = some j) : t.slot j = .live i := by
  unfold SetTable.slot
  rw [below_at hs h]
  simp [h]
theorem slot_empty {t : SetTable} (hs : t.place.toList.Pairwise (· < ·)) (hd : t.dummies = #[]) {j : Nat} (h : j ∉ t.place.toList) : t.slot j = .empty := by
  unfold SetTable.slot
  have h1 : ¬ (t.place[SetTable.below t.place j]? == some j) = true := fun q => by
    have q := beq_iff_eq.mp q
    exact h (by have := Array.mem_of_getElem? q; simpa using this)
  have h2 : ¬ SetTable.has t.dummies j = true := by
    rw [hd]
    unfold SetTable.has
    simp
  simp only
  rw [if_neg h1, if_neg h2]
theorem insertAt_toList {α : Type} (xs : Array α) (p : Nat) (x : α) (hp : p ≤ xs.size) : (SetTable.insertAt xs p x).toList = xs.toList.take p ++ x :: xs.toList.drop p := by
  unfold SetTable.insertAt
  simp only [Array.toList_append, Array.toList_push, Array.toList_extract, List.extract_eq_take_drop, List.append_assoc, List.cons_append, List.nil_append, List.drop_zero, Nat.sub_zero]
  rw [List.take_of_length_le (l := List.drop p xs.toList) (by rw [List.length_drop, Array.length_toList]; exact Nat.le_refl _)]
end Mine.Internal
end
section
set_option tactic.hygienic false
open PySem PySem.W PySem.Calls PyProof.Rows
set_option maxRecDepth 100000
namespace Mine.Internal

theorem nodup_len {α : Type} [DecidableEq α] : ∀ {l M : List α}, l.Nodup → (∀ x ∈ l, x ∈ M) → l.length ≤ M.length
  | [], _, _, _ => Nat.zero_le _
  | a :: l, M, hn, h => by
    rw [List.nodup_cons] at hn
    have ha := h a (.head _)
    have := nodup_len (l := l) (M := M.erase a) hn.2 fun x hx => (List.mem_erase_of_ne (fun e => hn.1 (by rw [← e]; exact hx))).mpr (h x (.tail _ hx))
    rw [List.length_erase_of_mem ha] at this
    have g := List.length_pos_of_mem ha
    exact Nat.le_trans (Nat.succ_le_succ this) (Nat.le_of_eq (Nat.sub_add_cancel g))

structure TI (t : SetTable) (es : Array (Int × Value)) : Prop where
  dum : t.dummies = #[]
  size : t.place.size = es.size
  sorted : t.place.toList.Pairwise (· < ·)
  bound : ∀ j ∈ t.place.toList, j ≤ t.mask
  mask : okMask t.mask
  path : ∀ e ∈ List.zip t.place.toList es.toList, ∃ n, (seqP t e.2.1 n).j = e.1 ∧ ∀ m, m < n → (seqP t e.2.1 m).j ∈ t.place.toList

theorem TI.free {t : SetTable} {es : Array (Int × Value)} (T : TI t es) (hl : es.size * 5 < t.mask * 3) (h : Int) :
    ∃ N, N ≤ 10 * (13 + t.mask) ∧ (seqP t h N).j ∉ t.place.toList ∧ ∀ m, m < N → (seqP t h m).j ∈ t.place.toList := by
  have hx : ∃ x, x ≤ t.mask ∧ t.place.toList.contains x = false := by
    have : ¬ ∀ x, x ≤ t.mask → x ∈ t.place.toList := fun q => by
      have := nodup_len (l := List.range (t.mask + 1)) (M := t.place.toList) List.nodup_range fun x hx => q x (by have := List.mem_range.mp hx; exact Nat.le_of_lt_succ this)
      rw [List.length_range, Array.length_toList, T.size] at this
      exact qfa4 hl this this this (by simp +arith only)
    simp only [Classical.not_forall] at this
    obtain ⟨x, hx, hn⟩ := this
    exact ⟨x, hx, by simpa using hn⟩
  obtain ⟨N, h1, h2, h3⟩ := first_free T.mask h (fun j => t.place.toList.contains j) hx
  exact ⟨N, h1, by simpa using h2, fun m hm => by simpa using h3 m hm⟩

theorem zip_take' {α β : Type} : ∀ (p : Nat) (a : List α) (b : List β), List.zip (a.take p) (b.take p) = (List.zip a b).take p
  | 0, _, _ => by simp
  | p + 1, [], _ => by simp
  | p + 1, _ :: _, [] => by simp
  | p + 1, x :: a, y :: b => by simp only [List.take_succ_cons, List.zip_cons_cons]; rw [zip_take' p a b]
theorem zip_drop' {α β : Type} : ∀ (p : Nat) (a : List α) (b : List β), List.zip (a.drop p) (b.drop p) = (List.zip a b).drop p
  | 0, _, _ => by simp
  | p + 1, [], _ => by simp
  | p + 1, _ :: _, [] => by simp
  | p + 1, x :: a, y :: b => by simp only [List.drop_succ_cons, List.zip_cons_cons]; rw [zip_drop' p a b]
theorem zip_insert {α β : Type} (a : List α) (b : List β) (x : α) (y : β) (p : Nat) (h : a.length = b.length) : List.zip (a.take p ++ x :: a.drop p) (b.take p ++ y :: b.drop p) = (List.zip a b).take p ++ (x, y) :: (List.zip a b).drop p := by
  rw [List.zip_append (by rw [List.length_take, List.length_take, h]), List.zip_cons_cons, zip_take', zip_drop']

theorem seqP_j_le (t : SetTable) (h : Int) (n : Nat) : (seqP t h n).j ≤ t.mask := by
  have : ∀ n, (seqP t h n).j + (seqP t h n).more ≤ t.mask := by
    intro n
    induction n with
    | zero =>
      show SetTable.bits h % (t.mask + 1) + (SetTable.runEnd t.mask (SetTable.bits h % (t.mask + 1)) - SetTable.bits h % (t.mask + 1)) ≤ t.mask
      have h1 := Nat.mod_lt (SetTable.bits h) (show t.mask + 1 > 0 by exact Nat.le_of_ble_eq_true rfl)
      have := runEnd_le t.mask (SetTable.bits h % (t.mask + 1)) (by exact Nat.le_of_lt_succ h1)
      exact qfl fun x => qfa3 x (qfs2 (SetTable.runEnd t.mask (SetTable.bits h % (t.mask + 1))) (SetTable.bits h % (t.mask + 1)) (by exact this.2.1)) this.2.2 (by simp +arith only)
    | succ n ih =>
      show (t.advance (seqP t h n)).j + (t.advance (seqP t h n)).more ≤ t.mask
      unfold SetTable.advance
      by_cases hm : (seqP t h n).more > 0
      · rw [if_pos hm]
        show (seqP t h n).j + 1 + ((seqP t h n).more - 1) ≤ t.mask
        exact qfl fun x => qfa3 x ih (qfs2 ((seqP t h n).more) (1) (by exact hm)) (by simp +arith only)
      · rw [if_neg hm]
        show (SetTable.leap t.mask (seqP t h n).i (seqP t h n).perturb).1 + (SetTable.runEnd t.mask (SetTable.leap t.mask (seqP t h n).i (seqP t h n).perturb).1 - (SetTable.leap t.mask (seqP t h n).i (seqP t h n).perturb).1) ≤ t.mask
        have h1 : (SetTable.leap t.mask (seqP t h n).i (seqP t h n).perturb).1 ≤ t.mask := by
          show ((seqP t h n).i * 5 + 1 + (seqP t h n).perturb / 32) % (t.mask + 1) ≤ t.mask
          have := Nat.mod_lt ((seqP t h n).i * 5 + 1 + (seqP t h n).perturb / 32) (show t.mask + 1 > 0 by exact Nat.le_of_ble_eq_true rfl)
          exact Nat.le_of_lt_succ this
        have := runEnd_le t.mask _ h1
        exact qfl fun x => qfa3 x (qfs2 (SetTable.runEnd t.mask (SetTable.leap t.mask (seqP t h n).i (seqP t h n).perturb).fst) ((SetTable.leap t.mask (seqP t h n).i (seqP t h n).perturb).fst) (by exact this.2.1)) this.2.2 (by simp +arith only)
  have := this n
  exact Nat.le_trans (Nat.le_add_right _ _) this

theorem TI.put {t : SetTable} {es : Array (Int × Value)} (T : TI t es) {j : Nat} {h : Int} {x : Value} {N : Nat} (hj : (seqP t h N).j = j) (hn : j ∉ t.place.toList) (hp : ∀ m, m < N → (seqP t h m).j ∈ t.place.toList) (pl : Bool) :
    (t.put j).2 ≤ es.size ∧ TI { (t.put j).1 with plain := pl } (SetTable.insertAt es (t.put j).2 (h, x)) ∧ TI (t.put j).1 (SetTable.insertAt es (t.put j).2 (h, x)) ∧ (SetTable.insertAt es (t.put j).2 (h, x)).size = es.size + 1 := by
  obtain ⟨b1, b2, b3⟩ := below_spec T.sorted j
  have hb : SetTable.below t.place j ≤ es.size := by rw [← T.size]; exact b1
  have e1 : (t.put j).2 = SetTable.below t.place j := rfl
  have e2 : (t.put j).1.place = SetTable.insertAt t.place (SetTable.below t.place j) j := rfl
  have e3 : (t.put j).1.dummies = #[] := by
    show (if SetTable.has t.dummies j = true then _ else t.dummies) = #[]
    rw [T.dum]
    have : ¬ SetTable.has #[] j = true := by unfold SetTable.has; simp
    rw [if_neg this]
  have e4 : (t.put j).1.mask = t.mask := rfl
  have pl' := insertAt_toList t.place (SetTable.below t.place j) j b1
  have es' := insertAt_toList es (SetTable.below t.place j) (h, x) hb
  have hlen : t.place.toList.length = es.toList.length := by rw [Array.length_toList, Array.length_toList, T.size]
  have sz : (SetTable.insertAt es (SetTable.below t.place j) (h, x)).size = es.size + 1 := by
    have := congrArg List.length es'
    rw [Array.length_toList, List.length_append, List.length_cons, List.length_take, List.length_drop, Array.length_toList] at this
    exact this.trans (oIns hb)
  have sz2 : (SetTable.insertAt t.place (SetTable.below t.place j) j).size = es.size + 1 := by
    have := congrArg List.length pl'
    rw [Array.length_toList, List.length_append, List.length_cons, List.length_take, List.length_drop, Array.length_toList, T.size] at this
    exact this.trans (oIns hb)
  have srt : (SetTable.insertAt t.place (SetTable.below t.place j) j).toList.Pairwise (· < ·) := by
    rw [pl']
    refine List.pairwise_append.mpr ⟨T.sorted.sublist (List.take_sublist _ _), List.pairwise_cons.mpr ⟨fun y hy => ?_, T.sorted.sublist (List.drop_sublist _ _)⟩, fun a ha y hy => ?_⟩
    · obtain ⟨k, hk⟩ := List.mem_iff_getElem?.mp hy
      rw [List.getElem?_drop] at hk
      have h1 := b3 (SetTable.below t.place j + k) (by exact Nat.le_add_right _ _) y (by rw [← Array.getElem?_toList]; exact hk)
      have h2 : j ≠ y := fun e => hn (e ▸ List.mem_of_getElem? hk)
      exact Nat.lt_of_le_of_ne h1 h2
    · obtain ⟨k, hk⟩ := List.mem_iff_getElem?.mp ha
      have hk1 : k < SetTable.below t.place j := by
        have := (List.getElem?_eq_some_iff.mp hk).1
        rw [List.length_take] at this
        exact oMinL this
      rw [List.getElem?_take_of_lt hk1] at hk
      have haj := b2 k hk1 a (by rw [← Array.getElem?_toList]; exact hk)
      rcases List.mem_cons.mp hy with rfl | hy
      · exact haj
      · obtain ⟨k2, hk2⟩ := List.mem_iff_getElem?.mp hy
        rw [List.getElem?_drop] at hk2
        have h1 := b3 (SetTable.below t.place j + k2) (by exact Nat.le_add_right _ _) y (by rw [← Array.getElem?_toList]; exact hk2)
        exact Nat.le_trans haj h1
  have mem : ∀ a, a ∈ (SetTable.insertAt t.place (SetTable.below t.place j) j).toList ↔ a = j ∨ a ∈ t.place.toList := by
    intro a
    rw [pl']
    have := List.take_append_drop (SetTable.below t.place j) t.place.toList
    constructor
    · intro q
      rcases List.mem_append.mp q with q | q
      · exact .inr (List.mem_of_mem_take q)
      · rcases List.mem_cons.mp q with q | q
        · exact .inl q
        · exact .inr (List.mem_of_mem_drop q)
    · rintro (q | q)
      · rw [q]; exact List.mem_append_right _ (.head _)
      · rw [← this] at q
        rcases List.mem_append.mp q with q | q
        · exact List.mem_append_left _ q
        · exact List.mem_append_right _ (.tail _ q)
  have pth : ∀ (t' : SetTable), t'.mask = t.mask → t'.place = SetTable.insertAt t.place (SetTable.below t.place j) j → ∀ e ∈ List.zip t'.place.toList (SetTable.insertAt es (SetTable.below t.place j) (h, x)).toList, ∃ n, (seqP t' e.2.1 n).j = e.1 ∧ ∀ m, m < n → (seqP t' e.2.1 m).j ∈ t'.place.toList := by
    intro t' hm hpl e he
    rw [hpl, pl', es', zip_insert _ _ _ _ _ hlen] at he
    have key : e = (j, (h, x)) ∨ e ∈ List.zip t.place.toList es.toList := by
      rcases List.mem_append.mp he with q | q
      · exact .inr (List.mem_of_mem_take q)
      · rcases List.mem_cons.mp q with q | q
        · exact .inl q
        · exact .inr (List.mem_of_mem_drop q)
    have sq : ∀ h n, seqP t' h n = seqP t h n := fun h n => seqP_mask hm h n
    rcases key with rfl | key
    · refine ⟨N, by rw [sq]; exact hj, fun m hm => ?_⟩
      rw [sq, hpl, mem]; exact .inr (hp m hm)
    · obtain ⟨n, h1, h2⟩ := T.path e key
      refine ⟨n, by rw [sq]; exact h1, fun m hm => ?_⟩
      rw [sq, hpl, mem]; exact .inr (h2 m hm)
  have bnd : ∀ a ∈ (SetTable.insertAt t.place (SetTable.below t.place j) j).toList, a ≤ t.mask := by
    intro a ha
    rcases (mem a).mp ha with rfl | q
    · rw [← hj]; exact seqP_j_le t h N
    · exact T.bound a q
  refine ⟨by rw [e1]; exact hb, ⟨e3, by rw [e1]; show (t.put j).1.place.size = _; rw [e2, sz, sz2], srt, bnd, T.mask, pth _ rfl rfl⟩, ⟨e3, by rw [e1, e2, sz, sz2], srt, bnd, T.mask, pth _ rfl rfl⟩, by rw [e1]; exact sz⟩

theorem insertAt_perm' {α : Type} (xs : Array α) (p : Nat) (x : α) (hp : p ≤ xs.size) : (SetTable.insertAt xs p x).toList.Perm (x :: xs.toList) := by
  rw [insertAt_toList xs p x hp]
  refine List.perm_middle.trans (.cons _ ?_)
  rw [List.take_append_drop]
end Mine.Internal
end
section
set_option tactic.hygienic false
open PySem PySem.W PySem.Calls PyProof.Rows
set_option maxRecDepth 100000
namespace Mine.Internal

noncomputable def Occ (owner : Array (Option Nat)) (j : Nat) : Prop := ∃ i, owner[j]? = some (some i)

theorem occ_iff {owner : Array (Option Nat)} {j : Nat} (hj : j < owner.size) : (owner.getD j (some 0)).isNone = true ↔ ¬ Occ owner j := by
  have e : owner.getD j (some 0) = owner[j] := by simp [hj]
  rw [e]
  unfold Occ
  rw [Array.getElem?_eq_getElem hj]
  cases owner[j] with
  | none => simp
  | some i => simp

theorem free_spec (t : SetTable) (h : Int) {owner : Array (Option Nat)} (hsz : owner.size = t.mask + 1) : ∀ (fuel k0 n0 : Nat), seqP t h n0 = startOf t (runI t.mask h k0) → (∀ m, m < n0 → Occ owner (seqP t h m).j) →
    (∃ k, k0 ≤ k ∧ k < k0 + fuel ∧ ¬ Occ owner (runI t.mask h k).1) →
    ∃ N, SetTable.layClean.free t.mask owner fuel (runI t.mask h k0).1 (runI t.mask h k0).2 = some (seqP t h N).j ∧ ¬ Occ owner (seqP t h N).j ∧ ∀ m, m < N → Occ owner (seqP t h m).j
  | 0, k0, n0, _, _, ⟨k, h1, h2, _⟩ => absurd h2 (Nat.not_lt.mpr h1)
  | fuel + 1, k0, n0, e, hocc, ⟨k, h1, h2, h3⟩ => by
    have hi := runI_le t.mask h k0
    have hr := runEnd_le t.mask _ hi
    have run := adv_run t _ h n0 e
    unfold SetTable.layClean.free
    cases hf : (List.range (SetTable.runEnd t.mask (runI t.mask h k0).1 + 1 - (runI t.mask h k0).1)).find? fun r => (owner.getD ((runI t.mask h k0).1 + r) (some 0)).isNone with
    | some r =>
      have hf' := List.find?_range_eq_some.mp hf
      have hrlt : r < SetTable.runEnd t.mask (runI t.mask h k0).1 + 1 - (runI t.mask h k0).1 := List.mem_range.mp hf'.2.1
      have hj : (seqP t h (n0 + r)).j = (runI t.mask h k0).1 + r := by rw [run r (by exact qfl fun x => qfa4 x hrlt (qfs2 (SetTable.runEnd t.mask (runI t.mask h k0).fst + 1) ((runI t.mask h k0).fst) (by exact Nat.le_succ_of_le hr.2.1)) (qfs1 (SetTable.runEnd t.mask (runI t.mask h k0).fst) ((runI t.mask h k0).fst)) (by simp +arith only))]
      refine ⟨n0 + r, by rw [hj], ?_, fun m hm => ?_⟩
      · rw [hj]; exact (occ_iff (by exact qft fun x => qfa5 x (qfs2 (SetTable.runEnd t.mask (runI t.mask h k0).fst + 1) ((runI t.mask h k0).fst) (by exact Nat.le_succ_of_le hr.2.1)) hrlt hr.2.2 (qfg hsz) (by simp +arith only))).mp hf'.1
      · rcases Nat.lt_or_ge m n0 with q | q
        · exact hocc m q
        · obtain ⟨r', rfl⟩ : ∃ r', m = n0 + r' := ⟨m - n0, by exact (Nat.add_sub_cancel' q).symm⟩
          have hr' : r' < r := by exact Nat.le_of_add_le_add_left hm
          have := hf'.2.2 r' hr'
          rw [run r' (by exact qfl fun x => qfa5 x hm hrlt (qfs2 (SetTable.runEnd t.mask (runI t.mask h k0).fst + 1) ((runI t.mask h k0).fst) (qfl fun x => qfa2 x hr.2.1 (by simp +arith only))) (qfs1 (SetTable.runEnd t.mask (runI t.mask h k0).fst) ((runI t.mask h k0).fst)) (by simp +arith only))]
          show Occ owner ((runI t.mask h k0).1 + r')
          cases Classical.em (Occ owner ((runI t.mask h k0).1 + r')) with
          | inl q => exact q
          | inr q =>
            have z := (occ_iff (owner := owner) (j := (runI t.mask h k0).1 + r') (Nat.lt_of_lt_of_eq (Nat.lt_of_lt_of_le (Nat.lt_trans (Nat.add_lt_add_left hr' _) (oAdd hrlt)) (Nat.succ_le_succ hr.2.2)) hsz.symm)).mpr q
            rw [z] at this
            cases this
    | none =>
      have hf' := List.find?_range_eq_none.mp hf
      have all : ∀ r, r ≤ SetTable.runEnd t.mask (runI t.mask h k0).1 - (runI t.mask h k0).1 → Occ owner ((runI t.mask h k0).1 + r) := by
        intro r hr'
        have := hf' r (by exact qft fun x => qfa4 x hr' (qfs2 (SetTable.runEnd t.mask (runI t.mask h k0).fst) ((runI t.mask h k0).fst) (qfl fun x => qfa2 x hr.2.1 (by simp +arith only))) (qfs1 (SetTable.runEnd t.mask (runI t.mask h k0).fst + 1) ((runI t.mask h k0).fst)) (by simp +arith only))
        cases Classical.em (Occ owner ((runI t.mask h k0).1 + r)) with
        | inl q => exact q
        | inr q =>
          have z := (occ_iff (owner := owner) (j := (runI t.mask h k0).1 + r) (by exact qft fun x => qfa5 x (qfs2 (SetTable.runEnd t.mask (runI t.mask h k0).fst) ((runI t.mask h k0).fst) (qfl fun x => qfa2 x hr.2.1 (by simp +arith only))) hr' hr.2.2 (qfg hsz) (by simp +arith only))).mpr q
          rw [z] at this
          cases this
      have e' := adv_leap t _ h n0 e
      refine free_spec t h hsz fuel (k0 + 1) _ e' (fun m hm => ?_) ⟨k, ?_, by exact qft fun x => qfa2 x h2 (by simp +arith only), h3⟩
      · rcases Nat.lt_or_ge m n0 with q | q
        · exact hocc m q
        · obtain ⟨r', rfl⟩ : ∃ r', m = n0 + r' := ⟨m - n0, by exact Nat.le_antisymm (qfl fun x => qfa2 x (qfs1 (m) (n0)) (by simp +arith only)) (qfl fun x => qfa2 x (qfs2 (m) (n0) (qfl fun x => qfa2 x q (by simp +arith only))) (by simp +arith only))⟩
          rw [run r' (by exact qfl fun x => qfa2 x hm (by simp +arith only))]
          exact all r' (by exact qfl fun x => qfa2 x hm (by simp +arith only))
      · rcases Nat.lt_or_ge k0 k with q | q
        · exact q
        · have : k = k0 := by exact Nat.le_antisymm (qfl fun x => qfa2 x q (by simp +arith only)) (qfl fun x => qfa2 x h1 (by simp +arith only))
          subst this
          exact absurd (by have := all 0 (Nat.zero_le _); simpa using this) h3

structure LI (t : SetTable) (hs : List Int) (owner : Array (Option Nat)) (k : Nat) : Prop where
  size : owner.size = t.mask + 1
  lt : ∀ (j i : Nat), owner[j]? = some (some i) → i < k
  has : ∀ i, i < k → ∃ j : Nat, owner[j]? = some (some i)
  one : ∀ (j j' i : Nat), owner[j]? = some (some i) → owner[j']? = some (some i) → j = j'
  path : ∀ (j i : Nat) (h : Int), owner[j]? = some (some i) → hs[i]? = some h → ∃ n, (seqP t h n).j = j ∧ ∀ m, m < n → Occ owner (seqP t h m).j

theorem LI.occ {t : SetTable} {hs : List Int} {owner : Array (Option Nat)} {k : Nat} (L : LI t hs owner k) (hk : k ≤ t.mask) : ∃ x, x ≤ t.mask ∧ ¬ Occ owner x := by
  refine Classical.byContradiction fun q => ?_
  have all : ∀ x, x ≤ t.mask → Occ owner x := fun x hx => Classical.byContradiction fun z => q ⟨x, hx, z⟩
  have f : ∀ x, ∃ i, x ≤ t.mask → owner[x]? = some (some i) := fun x => by
    by_cases hx : x ≤ t.mask
    · obtain ⟨i, hi⟩ := all x hx; exact ⟨i, fun x => hi⟩
    · exact ⟨0, fun h => absurd h hx⟩
  let g := fun x => Classical.choose (f x)
  have hg : ∀ x, x ≤ t.mask → owner[x]? = some (some (g x)) := fun x hx => Classical.choose_spec (f x) hx
  have hn : ((List.range (t.mask + 1)).map g).Nodup := by
    refine List.pairwise_map.mpr ?_
    refine (List.nodup_range (n := t.mask + 1)).imp_of_mem fun {a b} ha hb hab e => hab ?_
    have ha := List.mem_range.mp ha
    have hb := List.mem_range.mp hb
    refine L.one a b (g a) (hg a (by exact Nat.le_of_lt_succ ha)) ?_
    rw [e]; exact hg b (by exact Nat.le_of_lt_succ hb)
  have := nodup_len (M := List.range k) hn fun y hy => by
    obtain ⟨x, hx, rfl⟩ := List.mem_map.mp hy
    have hx := List.mem_range.mp hx
    exact List.mem_range.mpr (L.lt x _ (hg x (by exact Nat.le_of_lt_succ hx)))
  rw [List.length_map, List.length_range, List.length_range] at this
  exact qfa2 this hk (by simp +arith only)

theorem lay_step {t : SetTable} (hm : okMask t.mask) {hs : List Int} {owner : Array (Option Nat)} {k : Nat} (L : LI t hs owner k) (hk : k ≤ t.mask) {h : Int} (hh : hs[k]? = some h) :
    ∃ j, SetTable.layClean.free t.mask owner (SetTable.turns t.mask) (SetTable.bits h % (t.mask + 1)) (SetTable.bits h) = some j ∧ LI t hs (owner.setIfInBounds j (some k)) (k + 1) := by
  obtain ⟨x, hx, hxo⟩ := L.occ hk
  obtain ⟨kr, hkr, ekr⟩ := runI_reach hm h hx
  obtain ⟨N, h1, h2, h3⟩ := free_spec t h L.size (SetTable.turns t.mask) 0 0 rfl (fun m hm => absurd hm (Nat.not_lt_zero _)) ⟨kr, Nat.zero_le _, by unfold SetTable.turns; exact qft fun x => qfa2 x hkr (by simp +arith only), by rw [ekr]; exact hxo⟩
  refine ⟨_, h1, ?_⟩
  generalize hj : (seqP t h N).j = j at *
  have hjm : j ≤ t.mask := by rw [← hj]; exact seqP_j_le t h N
  have get : ∀ a : Nat, (owner.setIfInBounds j (some k))[a]? = if a = j then some (some k) else owner[a]? := by
    intro a
    rw [Array.getElem?_setIfInBounds]
    by_cases e : j = a
    · rw [if_pos e, if_pos e.symm, if_pos (by have := L.size; exact Nat.lt_of_le_of_lt hjm (qfg this))]
    · rw [if_neg e, if_neg (fun q => e q.symm)]
  have occ' : ∀ a, Occ owner a → Occ (owner.setIfInBounds j (some k)) a := by
    rintro a ⟨i, hi⟩
    by_cases e : a = j
    · exact ⟨k, by rw [get, if_pos e]⟩
    · exact ⟨i, by rw [get, if_neg e]; exact hi⟩
  refine ⟨by rw [Array.size_setIfInBounds]; exact L.size, fun a i hi => ?_, fun i hi => ?_, fun a a' i ha ha' => ?_, fun a i h' ha hh' => ?_⟩
  · rw [get] at hi
    by_cases e : a = j
    · rw [if_pos e] at hi; cases hi; exact Nat.le_refl _
    · rw [if_neg e] at hi
      have := L.lt a i hi; exact Nat.le_succ_of_le this
  · rcases Nat.lt_or_ge i k with q | q
    · obtain ⟨a, ha⟩ := L.has i q
      refine ⟨a, ?_⟩
      rw [get, if_neg (fun e => h2 (by rw [← e]; exact ⟨i, ha⟩))]
      exact ha
    · have : i = k := by exact Nat.le_antisymm (qfl fun x => qfa2 x hi (by simp +arith only)) (qfl fun x => qfa2 x q (by simp +arith only))
      subst this
      exact ⟨j, by rw [get, if_pos rfl]⟩
  · rw [get] at ha ha'
    by_cases e : a = j
    · by_cases e' : a' = j
      · rw [e, e']
      · rw [if_pos e] at ha; rw [if_neg e'] at ha'
        cases ha
        have := L.lt _ _ ha'; lia
    · by_cases e' : a' = j
      · rw [if_neg e] at ha; rw [if_pos e'] at ha'
        cases ha'
        have := L.lt _ _ ha; lia
      · rw [if_neg e] at ha; rw [if_neg e'] at ha'
        exact L.one a a' i ha ha'
  · rw [get] at ha
    by_cases e : a = j
    · rw [if_pos e] at ha
      cases ha
      rw [hh] at hh'
      cases hh'
      exact ⟨N, by rw [hj, e], fun m hm => occ' _ (h3 m hm)⟩
    · rw [if_neg e] at ha
      obtain ⟨n, e1, e2⟩ := L.path a i h' ha hh'
      exact ⟨n, e1, fun m hm => occ' _ (e2 m hm)⟩

theorem lay_all {t : SetTable} (hm : okMask t.mask) (hs : List Int) : ∀ (todo : List Int) (owner : Array (Option Nat)) (k : Nat), LI t hs owner k → hs.drop k = todo → k + todo.length ≤ t.mask →
    ∃ owner', (todo.foldl (fun (acc : Option (Array (Option Nat) × Nat)) h => do
      let (owner, k) ← acc
      let j ← SetTable.layClean.free t.mask owner (SetTable.turns t.mask) (SetTable.bits h % (t.mask + 1)) (SetTable.bits h)
      pure (owner.setIfInBounds j (some k), k + 1)) (some (owner, k))) = some (owner', k + todo.length) ∧ LI t hs owner' (k + todo.length)
  | [], owner, k, L, _, _ => ⟨owner, rfl, L⟩
  | h :: todo, owner, k, L, hd, hl => by
    have hh : hs[k]? = some h := by
      have := congrArg (·[0]?) hd
      simpa [List.getElem?_drop] using this
    have hd' : hs.drop (k + 1) = todo := by
      have := congrArg List.tail hd
      rw [List.tail_drop] at this
      exact this
    simp -iota only [List.length_cons] at hl
    obtain ⟨j, e, L'⟩ := lay_step hm L (by exact Nat.le_trans (Nat.le_add_right _ _) hl) hh
    obtain ⟨owner', e', L''⟩ := lay_all hm hs todo _ _ L' hd' (by exact Nat.le_trans (Nat.le_of_eq (Nat.add_right_comm _ _ _)) hl)
    refine ⟨owner', ?_, by rw [List.length_cons, show k + (todo.length + 1) = k + 1 + todo.length by exact (Nat.succ_add _ _).symm]; exact L''⟩
    rw [List.foldl_cons, List.length_cons, show k + (todo.length + 1) = k + 1 + todo.length by exact (Nat.succ_add _ _).symm, ← e']
    congr 1
    show (SetTable.layClean.free t.mask owner (SetTable.turns t.mask) (SetTable.bits h % (t.mask + 1)) (SetTable.bits h)).bind _ = _
    rw [e]
    rfl

theorem layClean_ok {t : SetTable} (hm : okMask t.mask) (hashes : Array Int) (hl : hashes.size ≤ t.mask) : ∃ owner, SetTable.layClean t.mask hashes = some owner ∧ LI t hashes.toList owner hashes.size := by
  have L0 : LI t hashes.toList (Array.replicate (t.mask + 1) none) 0 := by
    refine ⟨by simp, fun j i h => ?_, fun i h => absurd h (Nat.not_lt_zero _), fun j j' i h u => ?_, fun j i h h' u => ?_⟩
    · rw [Array.getElem?_replicate] at h; split at h <;> cases h
    · rw [Array.getElem?_replicate] at h; split at h <;> cases h
    · rw [Array.getElem?_replicate] at h'; split at h' <;> cases h'
  obtain ⟨owner, e, L⟩ := lay_all hm hashes.toList hashes.toList _ 0 L0 rfl (by rw [Array.length_toList]; exact (by exact Nat.le_trans (Nat.le_of_eq (Nat.add_comm _ _)) hl))
  refine ⟨owner, ?_, by rw [Array.length_toList, Nat.zero_add] at L; exact L⟩
  unfold SetTable.layClean
  rw [← Array.foldl_toList]
  rw [e]
  rfl
end Mine.Internal
end
section
set_option tactic.hygienic false
open PySem PySem.W PySem.Calls PyProof.Rows
set_option maxRecDepth 100000
namespace Mine.Internal

noncomputable def liveOf (m : Nat) (owner : Array (Option Nat)) : List (Nat × Nat) := (List.range (m + 1)).filterMap fun j => (owner.getD j none).map (j, ·)

theorem live_mem {m : Nat} {owner : Array (Option Nat)} (hs : owner.size = m + 1) {j i : Nat} : (j, i) ∈ liveOf m owner ↔ owner[j]? = some (some i) := by
  unfold liveOf
  rw [List.mem_filterMap]
  constructor
  · rintro ⟨a, ha, e⟩
    obtain ⟨b, hb, e2⟩ := Option.map_eq_some_iff.mp e
    cases e2
    have ha := List.mem_range.mp ha
    have : owner.getD j none = owner[j]'(by exact Nat.le_trans ha (qfg hs)) := by simp [show j < owner.size by exact Nat.le_trans ha (qfg hs)]
    rw [this] at hb
    rw [Array.getElem?_eq_getElem (by exact Nat.le_trans ha (qfg hs)), hb]
  · intro h
    obtain ⟨hj, e⟩ := Array.getElem?_eq_some_iff.mp h
    refine ⟨j, List.mem_range.mpr (by exact Nat.le_trans hj (Nat.le_of_eq hs)), ?_⟩
    have : owner.getD j none = owner[j] := by simp [hj]
    rw [this, e]; rfl

theorem live_fst (m : Nat) (owner : Array (Option Nat)) : (liveOf m owner).map (·.1) = (List.range (m + 1)).filter fun j => (owner.getD j none).isSome := by
  unfold liveOf
  induction List.range (m + 1) with
  | nil => rfl
  | cons a l ih =>
    rw [List.filterMap_cons, List.filter_cons]
    cases h : owner.getD a none with
    | none => simpa using ih
    | some b => simpa using ih

theorem live_sorted (m : Nat) (owner : Array (Option Nat)) : ((liveOf m owner).map (·.1)).Pairwise (· < ·) := by
  rw [live_fst]
  exact (List.pairwise_lt_range).sublist List.filter_sublist

theorem live_perm {t : SetTable} {hs : List Int} {owner : Array (Option Nat)} {k : Nat} (L : LI t hs owner k) : ((liveOf t.mask owner).map (·.2)).Perm (List.range k) := by
  refine (List.perm_ext_iff_of_nodup ?_ List.nodup_range).mpr fun i => ?_
  · have h1 : (liveOf t.mask owner).Pairwise fun a b => a.1 ≠ b.1 := List.pairwise_map.mp ((live_sorted t.mask owner).imp fun h => Nat.ne_of_lt h)
    refine List.pairwise_map.mpr (h1.imp_of_mem fun {a b} ha hb hab e => hab ?_)
    exact L.one a.1 b.1 a.2 ((live_mem L.size).mp ha) (by rw [e]; exact (live_mem L.size).mp hb)
  · rw [List.mem_range, List.mem_map]
    constructor
    · rintro ⟨q, hq, rfl⟩
      exact L.lt q.1 q.2 ((live_mem L.size).mp hq)
    · intro hi
      obtain ⟨j, hj⟩ := L.has i hi
      exact ⟨(j, i), (live_mem L.size).mpr hj, rfl⟩

theorem filterMap_all {α β : Type} (f : α → Option β) (g : α → β) : ∀ l : List α, (∀ a ∈ l, f a = some (g a)) → l.filterMap f = l.map g
  | [], _ => rfl
  | a :: l, h => by
    rw [List.filterMap_cons, h a (.head _), List.map_cons, filterMap_all f g l fun b hb => h b (.tail _ hb)]

theorem relaid_ok {t : SetTable} {es : Array (Int × Value)} {wanted : Nat} (hm : okMask (SetTable.sizeAbove wanted - 1)) (hl : es.size ≤ SetTable.sizeAbove wanted - 1) :
    ∃ t' order, t.relaid (es.map (·.1)) wanted = some (t', order) ∧ TI t' (order.filterMap (es[·]?)) ∧ (order.filterMap (es[·]?)).toList.Perm es.toList ∧ t'.led = t.led ∧ t'.plain = t.plain ∧ t'.finger = t.finger ∧ t'.mask = SetTable.sizeAbove wanted - 1 := by
  generalize hmm : SetTable.sizeAbove wanted - 1 = m at hm hl
  let t0 : SetTable := { t with mask := m }
  have hsz : (es.map (·.1)).size = es.size := Array.size_map
  obtain ⟨owner, e, L⟩ := layClean_ok (t := t0) hm (es.map (·.1)) (by rw [hsz]; exact hl)
  rw [hsz] at L
  refine ⟨{ mask := m, place := ((liveOf m owner).map (·.1)).toArray, dummies := #[], finger := t.finger, led := t.led, moves := t.movedTo m, plain := t.plain }, ((liveOf m owner).map (·.2)).toArray, ?_, ?_, ?_, rfl, rfl, rfl, rfl⟩
  · unfold SetTable.relaid SetTable.laid
    rw [hmm]
    have e' : SetTable.layClean m (es.map (·.1)) = some owner := e
    rw [e']
    rfl
  all_goals
    have hall : ∀ q ∈ liveOf m owner, q.2 < es.size := fun q hq => L.lt q.1 q.2 ((live_mem L.size).mp hq)
    have hfm : ((liveOf m owner).map (·.2)).filterMap (es[·]?) = (liveOf m owner).map fun q => (es[q.2]?).getD (0, .none) := by
      rw [List.filterMap_map]
      exact filterMap_all _ _ _ fun q hq => by
        show es[q.2]? = some ((es[q.2]?).getD (0, .none))
        rw [Array.getElem?_eq_getElem (hall q hq)]; rfl
    have htl : (((liveOf m owner).map (·.2)).toArray.filterMap (es[·]?)).toList = (liveOf m owner).map fun q => (es[q.2]?).getD (0, .none) := by
      rw [Array.toList_filterMap]
      exact hfm
  · refine ⟨rfl, ?_, live_sorted m owner, fun j hj => ?_, hm, fun x hx => ?_⟩
    · have := congrArg List.length htl
      rw [Array.length_toList, List.length_map] at this
      rw [this]
      show ((liveOf m owner).map (·.1)).toArray.size = _
      rw [List.size_toArray, List.length_map]
    · have hj : j ∈ (liveOf m owner).map (·.1) := hj
      rw [live_fst] at hj
      have := List.mem_range.mp (List.mem_filter.mp hj).1
      show j ≤ m
      exact Nat.le_of_lt_succ this
    · rw [htl] at hx
      have hx : x ∈ List.zip ((liveOf m owner).map (·.1)) ((liveOf m owner).map fun q => (es[q.2]?).getD (0, .none)) := hx
      rw [List.zip_map', List.mem_map] at hx
      obtain ⟨q, hq, rfl⟩ := hx
      have ho := (live_mem L.size).mp hq
      have hq2 := hall q hq
      have hget : (es[q.2]?).getD (0, .none) = es[q.2] := by rw [Array.getElem?_eq_getElem hq2]; rfl
      obtain ⟨n, h1, h2⟩ := L.path q.1 q.2 (es[q.2]).1 ho (by simp [hq2])
      have sq : ∀ h n, seqP ({ mask := m, place := ((liveOf m owner).map (·.1)).toArray, dummies := #[], finger := t.finger, led := t.led, moves := t.movedTo m, plain := t.plain } : SetTable) h n = seqP t0 h n   := fun h n => seqP_mask (show m = t0.mask from rfl) h n
      refine ⟨n, ?_, fun m' hm' => ?_⟩
      · show (seqP _ ((es[q.2]?).getD (0, .none)).1 n).j = q.1
        rw [hget, sq]; exact h1
      · show (seqP _ ((es[q.2]?).getD (0, .none)).1 m').j ∈ (liveOf m owner).map (·.1)
        rw [hget, sq]
        obtain ⟨i, hi⟩ := h2 m' hm'
        exact List.mem_map.mpr ⟨(_, i), (live_mem L.size).mpr hi, rfl⟩
  · rw [Array.toList_filterMap]
    show List.Perm (((liveOf m owner).map (·.2)).filterMap (es[·]?)) _
    refine ((live_perm L).filterMap _).trans ?_
    rw [filterMap_getElem?_range]
end Mine.Internal
end
section
set_option tactic.hygienic false
open PySem PySem.W PySem.Calls PyProof.Rows PySem.Spec
set_option maxRecDepth 100000
namespace Mine.Internal

noncomputable def wayD (w : Way) : PyData := .tuple (w.map .str)
noncomputable def pairD (p : Way × Int) : PyData := .tuple [wayD p.1, .int p.2]

theorem eqvAll_strs : ∀ a b : List Str, PyData.eqvAll (a.map .str) (b.map .str) = decide (a = b)
  | [], [] => by simp [PyData.eqvAll]
  | [], _ :: _ => by simp [PyData.eqvAll]
  | _ :: _, [] => by simp [PyData.eqvAll]
  | x :: a, y :: b => by
    simp only [List.map_cons, PyData.eqvAll, PyData.eqv, eqvAll_strs a b, List.cons.injEq]
    by_cases h : x = y <;> simp [h]
theorem eqv_way (a b : Way) : PyData.eqv (wayD a) (wayD b) = decide (a = b) := by
  unfold wayD
  rw [PyData.eqv, eqvAll_strs]
theorem eqv_pair (a b : Way × Int) : PyData.eqv (pairD a) (pairD b) = decide (a = b) := by
  obtain ⟨a1, a2⟩ := a
  obtain ⟨b1, b2⟩ := b
  unfold pairD
  simp only [PyData.eqv, PyData.eqvAll, eqv_way, Bool.and_true, Prod.mk.injEq]
  by_cases h : a1 = b1 <;> by_cases h2 : a2 = b2 <;> simp [h, h2]

theorem reads_strs {h : Heap} : ∀ {us : List Value} {way : Way}, WayV us way → ReadsAll h us (way.map .str) [] := fun w => WayV.ind (P := fun us way => ReadsAll h us (way.map .str) []) .nil (fun x x x x ih => ReadsAll.cons (as := []) (bs := []) (.str _ _) ih) w
theorem reads_way {h : Heap} {q : Addr} {us : List Value} {way : Way} (hq : h.get? q = some (tupO us)) (hw : WayV us way) : Reads h (.ref q) (wayD way) [] :=
  .tuple hq rfl rfl (reads_strs hw)
theorem reads_pair {h : Heap} {a q : Addr} {us : List Value} {way : Way} {f : Int} {tk : Tok} (ha : h.get? a = some (tupO [.ref q, .int f tk])) (hq : h.get? q = some (tupO us)) (hw : WayV us way) : Reads h (.ref a) (pairD (way, f)) [] :=
  .tuple ha rfl rfl (ReadsAll.cons (as := []) (bs := []) (reads_way hq hw) (ReadsAll.cons (as := []) (bs := []) (.int _ _) .nil))

noncomputable def Okw (way : Way) : Prop := ∀ k ∈ way, PyData.strOk k = true
theorem canLay_strs : ∀ way : Way, Okw way → PyData.canLayAll0 (way.map .str) = true
  | [], _ => rfl
  | k :: way, h => by
    simp only [List.map_cons, PyData.canLayAll0, PyData.canLay0, canLay_strs way fun x hx => h x (.tail _ hx), h k (.head _), Bool.and_self]
theorem depth_strs : ∀ way : Way, PyData.depthAll (way.map .str) = 0
  | [] => rfl
  | k :: way => by simp [PyData.depthAll, PyData.depth, depth_strs way]
theorem shaped_way {way : Way} (h : Okw way) : SeqAt.shaped (wayD way) = true := by
  unfold SeqAt.shaped wayD
  simp [PyData.canLay0, canLay_strs way h, PyData.depth, depth_strs]
theorem shaped_pair {p : Way × Int} (h : Okw p.1) : SeqAt.shaped (pairD p) = true := by
  unfold SeqAt.shaped pairD wayD
  simp [PyData.canLay0, PyData.canLayAll0, canLay_strs p.1 h, PyData.depth, PyData.depthAll, depth_strs]

noncomputable def PairAt (h : Heap) (v : Value) (p : Way × Int) : Prop := ∃ a q us tk, v = .ref a ∧ h.get? a = some (tupO [.ref q, .int p.2 tk]) ∧ h.get? q = some (tupO us) ∧ WayV us p.1 ∧ Okw p.1 ∧ p.1 ≠ []
theorem PairAt.reads {h : Heap} {v : Value} {p : Way × Int} (x : PairAt h v p) : Reads h v (pairD p) [] := by
  obtain ⟨a, q, us, tk, rfl, ha, hq, hw, _, _⟩ := x
  exact reads_pair ha hq hw
theorem PairAt.keeps {h h' : Heap} {v : Value} {p : Way × Int} (x : PairAt h v p) (k : ∀ b us, h.get? b = some (tupO us) → h'.get? b = some (tupO us)) : PairAt h' v p := by
  obtain ⟨a, q, us, tk, e, ha, hq, r⟩ := x
  exact ⟨a, q, us, tk, e, k _ _ ha, k _ _ hq, r⟩
theorem PairAt.inj {h : Heap} {v : Value} {p p' : Way × Int} (x : PairAt h v p) (y : PairAt h v p') : p = p' := by
  obtain ⟨a, q, us, tk, rfl, ha, hq, hw, _, _⟩ := x
  obtain ⟨a', q', us', tk', e, ha', hq', hw', _, _⟩ := y
  cases e
  rw [ha] at ha'
  have := (Obj.mk.injEq .. ▸ Option.some.inj ha').2.2.1
  simp at this
  obtain ⟨rfl, e1, _⟩ := this
  rw [hq] at hq'
  have := (Obj.mk.injEq .. ▸ Option.some.inj hq').2.2.1
  simp at this
  subst this
  unfold WayV at hw hw'
  have : p.1.map some = p'.1.map some := hw.symm.trans hw'
  have : p.1 = p'.1 := by
    have := congrArg (List.filterMap id) this
    simpa using this
  exact Prod.ext this e1

section
variable {prog : Program} {w : World} {A : Around} {E : Value → Shared → Prop} {s : Shared}

theorem eqBool_pair {x y : Value} {p p' : Way × Int} {Q : Bool → Shared → Prop} (hu : A.units + 64 < cLine) (hx : PairAt s.heap x p) (hy : PairAt s.heap y p') (h : Q (decide (p = p')) s) : wpAny (model prog w) A (eqBool x y) Q E s := by
  have okx : Okw p.1 := by obtain ⟨_, _, _, _, _, _, _, _, o, _⟩ := hx; exact o
  have oky : Okw p'.1 := by obtain ⟨_, _, _, _, _, _, _, _, o, _⟩ := hy; exact o
  have := SeqAt.eqAt_reads (pairD p) (pairD p') A s x y [] [] hx.reads hy.reads (SeqAt.canLay_of_shaped (shaped_pair okx)) (SeqAt.canLay_of_shaped (shaped_pair oky)) (SeqAt.room_of_shaped (shaped_pair okx) hu)
  refine this prog w E Q ?_
  rw [eqv_pair]
  exact h

noncomputable def pairHash (prog : Program) (w : World) (p : Way × Int) : Int := reduceHash (Builtin.Tuple.tupleHashOf [tupleKeyHash (strKind prog w) p.1, hashInt p.2])

theorem itemsAre_way : ∀ {us : List Value} {way : Way}, WayV us way → ItemsAre (strKind prog w) way us := fun h => WayV.ind (P := fun us way => ItemsAre (strKind prog w) way us) .nil (fun x x x x ih => .cons (strKind_is prog w _ _) ih) h
theorem tupKey {h : Heap} {q : Addr} {us : List Value} {way : Way} (hq : h.get? q = some (tupO us)) (hw : WayV us way) : IsTupleKey (strKind prog w) h way q := ⟨_, us.toArray, 0, hq, rfl, rfl, by simpa using itemsAre_way hw⟩

theorem pyHash_pair {x : Value} {p : Way × Int} {Q : Int → Shared → Prop} (hu : A.units + 8 < cLine) (hx : PairAt s.heap x p) (h : ∀ tk, Q (pairHash prog w p) { s with toks := tk }) : wpAny (model prog w) A (pyHash x) Q E s := by
  obtain ⟨a, q, us, tk, rfl, ha, hq, hw, _, _⟩ := hx
  have hT : s.TypeIs (.ref a) "tuple" := ⟨_, ha, rfl⟩
  unfold pyHash
  first | unfold pyHashByItsType | skip
  first | refine wpAny_bind (wpAny_cRoomFor_or (.inr (by exact Nat.lt_of_le_of_lt (Nat.le_add_right _ _) hu)) ?_) | skip
  refine wpAny_bind (wpAny_specialOf hT F.slot_tuple_hash.lookup ?_)
  show wpAny _ _ (if (some (Value.builtin "tuple.__hash__") == some Value.none) = true then _ else _) Q E s
  rw [if_neg (by rw [beq_builtin_none]; exact Bool.false_ne_true)]
  refine wpAny_bind (wpAny_specialOf hT F.slot_tuple_hash.lookup ?_)
  show wpAny _ _ (callSpecialIfBoundUnlessNone? (.ref a) "__hash__" _ >>= _) Q E s
  refine wpAny_bind (wpAny_callSpecialIfBoundUnlessNone?_slot hT F.slot_tuple_hash (wpAny_call_entry F.slot_tuple_hash hT F.entry_tuple_hash ?_ (F.args_tuple_hash_1 _)))
  show wpAny _ _ (Builtin.Tuple.tupleItemsOf (.ref a) >>= _) _ _ s
  refine wpAny_bind (wpAny_tupleItemsOf ha rfl ?_)
  refine wpAny_bind ?_
  rw [← Array.forIn_toList]
  show wpAny _ _ (forIn [Value.ref q, Value.int p.2 tk] _ _) _ _ s
  refine wpAny_forIn_list _ (fun rest (b : Array Int) s' => ∃ n, s' = { s with toks := n } ∧ ((rest = [Value.ref q, Value.int p.2 tk] ∧ b = #[]) ∨ (rest = [Value.int p.2 tk] ∧ b = #[tupleKeyHash (strKind prog w) p.1]) ∨ (rest = [] ∧ b = #[tupleKeyHash (strKind prog w) p.1, hashInt p.2]))) _ ?_ ?_ _ _ ⟨s.toks, rfl, .inl ⟨rfl, rfl⟩⟩
  · rintro x rest b s' ⟨n, rfl, ⟨e, rfl⟩ | ⟨e, rfl⟩ | ⟨e, _⟩⟩
    · cases e
      refine wpAny_bind (wpAny_pyHash_tuple ?_ (tupKey (h := s.heap) hq hw) ?_)
      · show A.units + 1 < cLine
        exact qft fun x => qfa2 x hu (by simp +arith only)
      exact wpAny_bind (wpAny_pure (wpAny_pure ⟨_, rfl, .inr (.inl ⟨rfl, rfl⟩)⟩))
    · cases e
      refine wpAny_bind (wpAny_pyHash_int ?_)
      exact wpAny_bind (wpAny_pure (wpAny_pure ⟨_, rfl, .inr (.inr ⟨rfl, rfl⟩)⟩))
    · cases e
  · rintro b s' ⟨n, rfl, ⟨e, _⟩ | ⟨e, _⟩ | ⟨_, rfl⟩⟩
    · cases e
    · cases e
    show wpAny _ _ (retInt (Builtin.Tuple.tupleHashOf [tupleKeyHash (strKind prog w) p.1, hashInt p.2])) _ _ _
    refine wpAny_ret_mkInt ?_
    show wpAny _ _ (if (decide (-(2 : Int) ^ 63 ≤ Builtin.Tuple.tupleHashOf [tupleKeyHash (strKind prog w) p.1, hashInt p.2]) && decide (Builtin.Tuple.tupleHashOf [tupleKeyHash (strKind prog w) p.1, hashInt p.2] < 2 ^ 63)) = true then _ else _) Q E _
    unfold pairHash reduceHash at h
    by_cases hr : (decide (-(2 : Int) ^ 63 ≤ Builtin.Tuple.tupleHashOf [tupleKeyHash (strKind prog w) p.1, hashInt p.2]) && decide (Builtin.Tuple.tupleHashOf [tupleKeyHash (strKind prog w) p.1, hashInt p.2] < 2 ^ 63)) = true
    · rw [if_pos hr]
      rw [if_pos hr] at h
      exact wpAny_pure (h _)
    · rw [if_neg hr]
      rw [if_neg hr] at h
      exact wpAny_bind (wpAny_rule (wpAny_pure (h _)))
end
end Mine.Internal
end
section
set_option tactic.hygienic false
open PySem PySem.W PySem.Calls PyProof.Rows PySem.Spec
set_option maxRecDepth 100000
namespace Mine.Internal

section
variable {prog : Program} {w : World} {A : Around} {E : Value → Shared → Prop} {env env2 : Env} {ns : List Str} {h₀ : Heap} {vs : List (Option Value)} {l : Lg} {s₀ s : Shared}
  {K : Frag} {p : Program} {loose : List Str} {mean : ExcName → Option Value} {mg mb : Str → Option Value} {d u : Nat}

theorem g_eqway {a b : Addr} {us ws : List Value} {x y : Way} {Q : Value → Shared → Prop} (st : S env ns h₀ vs l s₀ s) (ha : (a, tupO us) ∈ l) (hb : (b, tupO ws) ∈ l) (hx : WayV us x) (hy : WayV ws y) (ox : Okw x) (oy : Okw y) (hu : A.units + 64 < cLine)
    (h : Q (.bool (decide (x = y))) s) : wpAny (model prog w) A (compareOp .Eq (.ref a) (.ref b)) Q E s :=
  SeqAt.compareEq_shaped (reads_way (st.at ha) hx) (reads_way (st.at hb) hy) (shaped_way ox) (shaped_way oy) hu (by rw [eqv_way]; exact h)
theorem g_neway {a b : Addr} {us ws : List Value} {x y : Way} {Q : Value → Shared → Prop} (st : S env ns h₀ vs l s₀ s) (ha : (a, tupO us) ∈ l) (hb : (b, tupO ws) ∈ l) (hx : WayV us x) (hy : WayV ws y) (ox : Okw x) (oy : Okw y) (hu : A.units + 64 < cLine)
    (h : Q (.bool (!decide (x = y))) s) : wpAny (model prog w) A (compareOp .NotEq (.ref a) (.ref b)) Q E s :=
  SeqAt.compareNe_shaped (reads_way (st.at ha) hx) (reads_way (st.at hb) hy) (shaped_way ox) (shaped_way oy) hu (by rw [eqv_way]; exact h)

theorem g_lentup {a : Addr} {us : List Value} {Q : Value → Shared → Prop} (st : S env ns h₀ vs l s₀ s) (ha : (a, tupO us) ∈ l) (hz : us.length ≤ sizeLine)
    (h : ∀ t s', S env ns h₀ vs l s₀ s' → Q (.int us.length t) s') : wpAny (model prog w) A (call (.builtin "len") [.ref a]) Q E s :=
  len_tuple (st.tup ha) (by rw [List.size_toArray]; rw [sizeLine_eq] at hz; lia) (by rw [List.size_toArray]; exact h _ _ (st.tok _))
theorem g_lenlist {a : Addr} {us : List Value} {n : Nat} {Q : Value → Shared → Prop} (st : S env ns h₀ vs l s₀ s) (ha : (a, listO us n) ∈ l) (hz : us.length ≤ sizeLine)
    (h : ∀ t s', S env ns h₀ vs l s₀ s' → Q (.int us.length t) s') : wpAny (model prog w) A (call (.builtin "len") [.ref a]) Q E s :=
  len_list (st.list ha) (by rw [List.size_toArray]; rw [sizeLine_eq] at hz; lia) (by rw [List.size_toArray]; exact h _ _ (st.tok _))

theorem g_lappend_meth {a : Addr} {us : List Value} {n : Nat} {pl : Sem Bool} {Q : Value × List Value → Shared → Prop} (st : S env ns h₀ vs l s₀ s) (ha : (a, listO us n) ∈ l)
    (h : Q (.builtin "list.append", [.ref a]) s) : wpAny (model prog w) A (getMethod (.ref a) "append" pl) Q E s :=
  listMethod_K (its := us.toArray) (n := n) st.nw ha PySem.F.slot_list_append PySem.F.type_list_append h

theorem g_isAnd {values : List Expr} {pos : Pos} {whole : Sem Value} {Q : Bool → Shared → Prop} (h : wpAny (model prog w) A (allTrue .And values env2) Q E s) : wpAny (model prog w) A (isTrue (.BoolOp .And values pos) env2 whole) Q E s := wpAny_isTrue_BoolOp h
theorem g_all0 {Q : Bool → Shared → Prop} (h : Q true s) : wpAny (model prog w) A (allTrue .And [] env2) Q E s := wpAny_allTrue_And_nil h
theorem g_all {x : Expr} {rest : List Expr} {Q : Bool → Shared → Prop} (h : wpAny (model prog w) A (isTrue x env2 (eval x env2)) (fun b s₁ => if b then wpAny (model prog w) A (allTrue .And rest env2) Q E s₁ else Q false s₁) E s) : wpAny (model prog w) A (allTrue .And (x :: rest) env2) Q E s := wpAny_allTrue_And_cons h
end
end Mine.Internal
end
section
set_option tactic.hygienic false
open PySem PySem.W PySem.Calls PyProof.Rows PySem.Spec
set_option maxRecDepth 100000
namespace Mine.Internal
section
variable {prog : Program} {w : World} {A : Around} {E : Value → Shared → Prop} {env env2 : Env} {ns : List Str} {h₀ : Heap} {vs : List (Option Value)} {l : Lg} {s₀ s : Shared}

theorem w_extend_meth {a : Addr} {us : List Value} {n : Nat} {pl : Sem Bool} {Q : Value × List Value → Shared → Prop} (st : S env ns h₀ vs l s₀ s) (ha : (a, listO us n) ∈ l)
    (h : Q (.builtin "list.extend", [.ref a]) s) : W (model prog w) A (getMethod (.ref a) "extend" pl) Q E s :=
  .mk (listMethod_K (its := us.toArray) (n := n) st.nw ha PySem.F.slot_list_extend PySem.F.type_list_extend h)
theorem w_extend {D b : Addr} {us ws : List Value} {n m : Nat} {l' : Obj → Lg} {Q : Value → Shared → Prop} (st : S env ns h₀ vs l s₀ s) (U : ∀ o', UpdL D (listO us n) o' l (l' o')) (hb : (b, listO ws m) ∈ l) (hz : us.length + ws.length ≤ 1000000)
    (h : ∀ n' s', S env ns h₀ vs (l' (listO (us ++ ws) n')) s₀ s' → Q .none s') : W (model prog w) A (call (.builtin "list.extend") [.ref D, .ref b]) Q E s := by
  have ho := st.at (U (listO us n)).mem
  have hsl : sizeLine = 2 ^ 24 := rfl
  refine .mk (call_meets PySem.F.slot_list_extend ⟨_, ho, rfl⟩ PySem.F.entry_list_extend (PySem.F.args_list_extend_2 _ _) (PySem.AutoSeq1.list_extend_list_list_0 D us.toArray n b ws.toArray m ?_ ?_ ?_) ⟨ho, st.at hb, ?_⟩)
  · unfold Builtin.List.listTooLong
    simp
    intros
    lia
  · simp; lia
  · simp; lia
  · have hs := Heap.SameBut.update s.heap D (Obj.mapSeq fun x => x ++ ws.toArray)
    have hg := Heap.get?_update_self (Obj.mapSeq fun x => x ++ ws.toArray) ho rfl
    obtain ⟨n', hn'⟩ : ∃ n', (listO us n).mapSeq (fun x => x ++ ws.toArray) = listO (us ++ ws) n' := by
      refine ⟨if ws = [] then n else n + 1, ?_⟩
      by_cases hws : ws = []
      · subst hws; simp [Obj.mapSeq]
      · simp [Obj.mapSeq, hws]
    exact h n' _ (st.upd (U _) hs (hg.trans (by rw [hn'])))

theorem w_assignC {x : Str} {pos' pos : Pos} {value : Expr} {Q : Flow → Shared → Prop}
    (h : W (model prog w) A (eval value env2) (fun v s₁ => W (model prog w) A (storeName env2 x v) (fun x => Q .next) E s₁) E s)
    (hs : autoParam (swapsWith value (some (.Name x pos')) pos.line env2 = pure false) tRfl) : W (model prog w) A (exec (.Assign [.Name x pos'] value pos) env2) Q E s := by
  with_unfolding_all exact wpAny_Assign_Name h hs

theorem w_notin_ways {t a : Addr} {us xs : List Value} {n : Nat} {x : Way} {ways : List Way} {Q : Value → Shared → Prop} (st : S env ns h₀ vs l s₀ s) (ht : (t, listO us n) ∈ l) (ha : (a, tupO xs) ∈ l) (hx : WayV xs x) (ox : Okw x) (hu : A.units + 66 < cLine)
    (hw : ∀ (i : Nat) (v : Value), us[i]? = some v → ∃ y, ways[i]? = some y ∧ ∃ q zs, v = .ref q ∧ (q, tupO zs) ∈ l ∧ WayV zs y ∧ Okw y) (hlen : us.length = ways.length)
    (h : Q (.bool (!decide (x ∈ ways))) s) : W (model prog w) A (compareOp .NotIn (.ref a) (.ref t)) Q E s := by
  have key : ∀ v, v ∈ us.toArray → ∃ y, y ∈ ways ∧ ∃ q zs, v = .ref q ∧ (q, tupO zs) ∈ l ∧ WayV zs y ∧ Okw y := fun v hv => by
    obtain ⟨i, hi⟩ := List.mem_iff_getElem?.mp (by simpa using hv : v ∈ us)
    obtain ⟨y, hy, r⟩ := hw i v hi
    exact ⟨y, List.mem_of_getElem? hy, r⟩
  let e : Value → Bool := fun v => match v with | .ref q => (match s.heap.get? q with | some o => (match o.data with | .seq zs _ => decide (zs.toList.map strOf = x.map some) | _ => false) | none => false) | _ => false
  have he : ∀ v, v ∈ us.toArray → ∀ y q zs, v = .ref q → (q, tupO zs) ∈ l → WayV zs y → e v = decide (y = x) := by
    rintro v _ y q zs rfl hq hz
    show (match s.heap.get? q with | some o => (match o.data with | .seq zs _ => decide (zs.toList.map strOf = x.map some) | _ => false) | none => false) = _
    rw [st.at hq]
    show decide (zs.map strOf = x.map some) = _
    unfold WayV at hz
    rw [hz]
    have : (y.map some = x.map some) ↔ y = x := ⟨fun q => by
      have := congrArg (List.filterMap id) q
      simpa using this, fun q => by rw [q]⟩
    simp only [this]
  refine .mk (SeqAt.notIn_listAt e (st.list ht) (fun v hv => ?_) ?_)
  · obtain ⟨y, hy, q, zs, rfl, hq, hz, oz⟩ := key v hv
    rw [he _ hv y q zs rfl hq hz]
    have := SeqAt.eqAt_reads (wayD y) (wayD x) A.in1 s (.ref q) (.ref a) [] [] (reads_way (st.at hq) hz) (reads_way (st.at ha) hx) (SeqAt.canLay_of_shaped (shaped_way oz)) (SeqAt.canLay_of_shaped (shaped_way ox)) (SeqAt.room_of_shaped (shaped_way oz) (by show A.units + 1 + 64 < cLine; exact Nat.le_of_lt hu))
    rw [eqv_way] at this
    exact this
  · have e2 : us.toArray.any e = decide (x ∈ ways) := by
      rw [Bool.eq_iff_iff, Array.any_eq_true', decide_eq_true_eq]
      constructor
      · rintro ⟨v, hv, hev⟩
        obtain ⟨y, hy, q, zs, e1, hq, hz, _⟩ := key v hv
        rw [he _ hv y q zs e1 hq hz, decide_eq_true_eq] at hev
        exact hev ▸ hy
      · intro hxm
        obtain ⟨i, hi⟩ := List.mem_iff_getElem?.mp hxm
        have hlt : i < us.length := by rw [hlen]; exact (List.getElem?_eq_some_iff.mp hi).1
        obtain ⟨y, hy, q, zs, e1, hq, hz, _⟩ := hw i us[i] (List.getElem?_eq_getElem hlt)
        rw [hi] at hy
        cases hy
        have hv : us[i] ∈ us.toArray := by simp
        exact ⟨us[i], hv, by rw [he _ hv x q zs e1 hq hz]; simp⟩
    rw [e2]
    exact h
end
end Mine.Internal
end
section
set_option tactic.hygienic false
open PySem PySem.W PySem.Calls PyProof.Rows
set_option maxRecDepth 100000
namespace Mine.Internal

noncomputable def modN (w : Way) (g : Nd → Nd) (ns : List (Way × Nd)) : List (Way × Nd) := ns.map fun p => if p.1 = w then (p.1, g p.2) else p
noncomputable def FO.mod (F : FO) (w : Way) (g : Nd → Nd) : FO := { F with nodes := modN w g F.nodes }
noncomputable def FO.setDict (F : FO) (w : Way) (o' : Obj) : FO := if w = [] then { F with oroot := o' } else F.mod w fun x => { x with ond := o' }
noncomputable def FO.add (F : FO) (v : Way) (x : Nd) : FO := { F with nodes := (v, x) :: F.nodes }

theorem modN_keys (w : Way) (g : Nd → Nd) (ns : List (Way × Nd)) : (modN w g ns).map (·.1) = ns.map (·.1) := by
  unfold modN
  rw [List.map_map]
  apply List.map_congr_left
  intro p _
  show (if p.1 = w then (p.1, g p.2) else p).1 = p.1
  split <;> rfl
theorem look_modN (w : Way) (g : Nd → Nd) (v : Way) : ∀ ns : List (Way × Nd), (((modN w g ns).find? fun p => decide (p.1 = v)).map (·.2)) = if v = w then ((ns.find? fun p => decide (p.1 = v)).map (·.2)).map g else (ns.find? fun p => decide (p.1 = v)).map (·.2)
  | [] => by simp [modN]
  | p :: ns => by
    have ih := look_modN w g v ns
    unfold modN at ih ⊢
    rw [List.map_cons, List.find?_cons, List.find?_cons]
    by_cases h1 : p.1 = w
    · rw [if_pos h1]
      by_cases h2 : p.1 = v
      · have : v = w := h2.symm.trans h1
        simp [h2, this]
      · have : ¬ v = w := fun e => h2 (h1.trans e.symm)
        simp -iota only [decide_eq_false h2]
        exact ih
    · rw [if_neg h1]
      by_cases h2 : p.1 = v
      · have : ¬ v = w := fun e => h1 (h2.trans e)
        simp [h2, this]
      · simp -iota only [decide_eq_false h2]
        exact ih
theorem FO.look_mod (F : FO) (w : Way) (g : Nd → Nd) (v : Way) : (F.mod w g).look v = if v = w then (F.look v).map g else F.look v := look_modN w g v F.nodes
theorem FO.look_setDict (F : FO) (w : Way) (o' : Obj) (v : Way) : (F.setDict w o').look v = if v = w ∧ w ≠ [] then (F.look v).map fun x => { x with ond := o' } else F.look v := by
  unfold FO.setDict
  by_cases h : w = []
  · rw [if_pos h, if_neg (fun q => q.2 h)]; rfl
  · rw [if_neg h, FO.look_mod]
    by_cases e : v = w
    · rw [if_pos e, if_pos ⟨e, h⟩]
    · rw [if_neg e, if_neg (fun q => e q.1)]
theorem FO.look_add (F : FO) (v : Way) (x : Nd) (u : Way) : (F.add v x).look u = if u = v then some x else F.look u := by
  unfold FO.add FO.look
  simp -iota only [List.find?_cons]
  by_cases h : v = u
  · simp [h]
  · have h' : ¬ u = v := fun e => h e.symm
    simp [h, h']
theorem FO.setDict_keys (F : FO) (w : Way) (o' : Obj) : (F.setDict w o').nodes.map (·.1) = F.nodes.map (·.1) := by
  unfold FO.setDict
  split
  · rfl
  · exact modN_keys w (fun x => { x with ond := o' }) F.nodes
theorem modN_out (w : Way) (g : Nd → Nd) : ∀ ns : List (Way × Nd), w ∉ ns.map (·.1) → modN w g ns = ns
  | [], _ => rfl
  | p :: ns, h => by
    rw [List.map_cons, List.mem_cons, not_or] at h
    have ih := modN_out w g ns h.2
    unfold modN at ih ⊢
    rw [List.map_cons, if_neg (fun e => h.1 e.symm), ih]
theorem modN_upd {w : Way} {g : Nd → Nd} {d : Addr} {o o' : Obj} {x : Nd} (u : UpdL d o o' x.cells (g x).cells) : ∀ {ns : List (Way × Nd)}, (ns.map (·.1)).Nodup → (w, x) ∈ ns → UpdL d o o' (ns.flatMap fun p => p.2.cells) ((modN w g ns).flatMap fun p => p.2.cells)
  | [], _, h => by cases h
  | p :: ns, hn, h => by
    rw [List.map_cons, List.nodup_cons] at hn
    rcases List.mem_cons.mp h with e | h
    · subst e
      have e : modN w g ((w, x) :: ns) = (w, g x) :: ns := by
        have := modN_out w g ns hn.1
        unfold modN at this ⊢
        rw [List.map_cons, if_pos rfl, this]
      rw [e]
      exact .left u
    · have hne : ¬ p.1 = w := fun e => hn.1 (List.mem_map.mpr ⟨(w, x), h, e.symm⟩)
      have e : modN w g (p :: ns) = p :: modN w g ns := by
        unfold modN
        rw [List.map_cons, if_neg hne]
      rw [e]
      exact .app (modN_upd u hn.2 h)
theorem FO.mod_upd {F : FO} {w : Way} {g : Nd → Nd} {d : Addr} {o o' : Obj} {x : Nd} (hk : (F.nodes.map (·.1)).Nodup) (hx : F.look w = some x) (u : UpdL d o o' x.cells (g x).cells) : UpdL d o o' F.cells (F.mod w g).cells :=
  .tail (.tail (.tail (.tail (modN_upd u hk (FO.look_mem hx)))))
theorem FO.setDict_upd {F : FO} {w : Way} {a : Addr} {o o' : Obj} (hk : (F.nodes.map (·.1)).Nodup) (h : F.dictAt w = some (a, o)) : UpdL a o o' F.cells (F.setDict w o').cells := by
  unfold FO.dictAt at h
  unfold FO.setDict
  by_cases hw : w = []
  · rw [if_pos hw] at h
    rw [if_pos hw]
    cases h
    exact .tail (.tail .head)
  · rw [if_neg hw] at h
    rw [if_neg hw]
    obtain ⟨x, hx, e⟩ := Option.map_eq_some_iff.mp h
    cases e
    exact FO.mod_upd hk hx (.tail (.tail (.tail .head)))
theorem FO.add_cells (F : FO) (v : Way) (x : Nd) : (x.cells ++ F.cells).Perm (F.add v x).cells := by
  show List.Perm (x.cells ++ (_ :: _ :: _ :: _ :: F.nodes.flatMap _)) (_ :: _ :: _ :: _ :: (x.cells ++ F.nodes.flatMap _))
  refine List.perm_middle.trans (.cons _ ?_)
  refine List.perm_middle.trans (.cons _ ?_)
  refine List.perm_middle.trans (.cons _ ?_)
  exact List.perm_middle

theorem append_one_inj {α : Type} {v w : List α} {k k' : α} (h : v ++ [k] = w ++ [k']) : v = w ∧ k = k' := by
  have := List.append_inj' h rfl
  exact ⟨this.1, by have := this.2; simpa using this⟩

theorem valueAt_stored (kvs : List (Str × Value)) (k : Str) (v : Value) (z : Str) : valueAt (stored kvs k v) z = if z = k then some v else valueAt kvs z := by
  unfold stored
  by_cases h : (kvs.any fun kv => decide (kv.1 = k)) = true
  · rw [if_pos h]
    unfold valueAt
    induction kvs with
    | nil => simp at h
    | cons p kvs ih =>
      rw [List.map_cons, List.find?_cons, List.find?_cons]
      by_cases h1 : p.1 = k
      · rw [if_pos h1]
        by_cases h2 : p.1 = z
        · have : z = k := h2.symm.trans h1
          simp [h2, this]
        · have hz : ¬ z = k := fun e => h2 (h1.trans e.symm)
          simp -iota only [decide_eq_false h2]
          rw [if_neg hz]
          by_cases h3 : (kvs.any fun kv => decide (kv.1 = k)) = true
          · have := ih h3
            rw [if_neg hz] at this
            exact this
          · have hno : ∀ q ∈ kvs, ¬ q.1 = k := fun q hq e => h3 (List.any_eq_true.mpr ⟨q, hq, decide_eq_true e⟩)
            have : kvs.map (fun kv => if kv.1 = k then (kv.1, v) else kv) = kvs := by
              conv => rhs; rw [← List.map_id kvs]
              exact List.map_congr_left fun q hq => by rw [if_neg (hno q hq)]; rfl
            rw [this]
      · rw [if_neg h1]
        have h' : (kvs.any fun kv => decide (kv.1 = k)) = true := by
          rw [List.any_cons, decide_eq_false h1, Bool.false_or] at h
          exact h
        by_cases h2 : p.1 = z
        · have : ¬ z = k := fun e => h1 (h2.trans e)
          simp [h2, this]
        · simp -iota only [decide_eq_false h2]
          exact ih h'
  · rw [if_neg h]
    have hno : ∀ q ∈ kvs, ¬ q.1 = k := fun q hq e => h (List.any_eq_true.mpr ⟨q, hq, decide_eq_true e⟩)
    unfold valueAt
    rw [List.find?_append]
    by_cases hz : z = k
    · subst hz
      have : kvs.find? (fun kv => decide (kv.1 = z)) = none := List.find?_eq_none.mpr fun q hq => by simpa using hno q hq
      rw [this, if_pos rfl]
      simp
    · rw [if_neg hz]
      cases kvs.find? (fun kv => decide (kv.1 = z)) with
      | some q => rfl
      | none =>
        have : ¬ k = z := fun e => hz e.symm
        simp [this]
theorem valueAt_without (kvs : List (Str × Value)) (k : Str) (z : Str) : valueAt (without kvs k) z = if z = k then none else valueAt kvs z := by
  unfold without valueAt
  induction kvs with
  | nil => simp
  | cons p kvs ih =>
    rw [List.filter_cons]
    by_cases h1 : p.1 = k
    · rw [if_neg (by simp [h1])]
      rw [ih, List.find?_cons]
      by_cases hz : z = k
      · rw [if_pos hz, if_pos hz]
      · rw [if_neg hz, if_neg hz]
        have : ¬ p.1 = z := fun e => hz (e.symm.trans h1)
        simp [this]
    · rw [if_pos (by simp [h1]), List.find?_cons, List.find?_cons]
      by_cases h2 : p.1 = z
      · have : ¬ z = k := fun e => h1 (h2.trans e)
        simp [h2, this]
      · simp -iota only [decide_eq_false h2]
        exact ih

noncomputable def ensure (τ : AbsT) (v : Way) : AbsT := fun u => if u = v then some ((τ v).getD (fun x => false, fun x => false)) else τ u

theorem setDict_dictAt {F : FO} {w : Way} {o' : Obj} {v : Way} {a : Addr} {o : Obj} (h : (F.setDict w o').dictAt v = some (a, o)) : ∃ o₁, F.dictAt v = some (a, o₁) ∧ (if v = w then o = o' else o = o₁) := by
  unfold FO.dictAt at h ⊢
  by_cases hv : v = []
  · rw [if_pos hv] at h ⊢
    unfold FO.setDict at h
    by_cases hw : w = []
    · rw [if_pos hw] at h
      cases h
      exact ⟨_, rfl, by rw [if_pos (hv.trans hw.symm)]⟩
    · rw [if_neg hw] at h
      cases h
      exact ⟨_, rfl, by rw [if_neg (fun e => hw (e.symm.trans hv))]; rfl⟩
  · rw [if_neg hv] at h ⊢
    rw [FO.look_setDict] at h
    by_cases e : v = w ∧ w ≠ []
    · rw [if_pos e, Option.map_map] at h
      obtain ⟨x, hx, e'⟩ := Option.map_eq_some_iff.mp h
      cases e'
      exact ⟨x.ond, by rw [hx]; rfl, by rw [if_pos e.1]⟩
    · rw [if_neg e] at h
      exact ⟨o, h, by rw [if_neg (fun q => e ⟨q, fun z => hv (q.trans z)⟩)]⟩

theorem Is_grow {prog : Program} {w : World} {M : List Str} {F : FO} {τ : AbsT} {v : Way} {k : Str} {a : Addr} {o o' : Obj} {x : Nd} {kvs : List (Str × Value)} (H : F.Is prog w M τ)
    (hd : F.dictAt v = some (a, o)) (hn : F.look (v ++ [k]) = none) (hm : ∀ z ∈ v ++ [k], z ∈ M) (hkv : ∀ z y, valueAt kvs z = some y ↔ ∃ q, F.look (v ++ [z]) = some q ∧ y = .ref q.n)
    (ho : o'.IsDictOf (strKind prog w) (stored kvs k (.ref x.n)))
    (hx1 : x.on.IsDictOf (strKind prog w) [("flags", .ref x.fl), ("recursive_flags", .ref x.rc), ("nested", .ref x.nd)]) (hx2 : IS prog w x.ofl fun x => false) (hx3 : IS prog w x.orc fun x => false) (hx4 : x.ond.IsDictOf (strKind prog w) [])
    (hx5 : (x.n == sysModules) = false) (hx6 : (x.nd == sysModules) = false) :
    ((F.setDict v o').add (v ++ [k]) x).Is prog w M (ensure τ (v ++ [k])) := by
  have hnm : v ++ [k] ∉ F.nodes.map (·.1) := fun h => by
    obtain ⟨p, hp, e⟩ := List.mem_map.mp h
    have := FO.look_of_mem H.keys (v := v ++ [k]) (x := p.2) (by rw [← e]; exact hp)
    rw [hn] at this; cases this
  have look : ∀ u, ((F.setDict v o').add (v ++ [k]) x).look u = if u = v ++ [k] then some x else (F.look u).map fun y => if u = v then { y with ond := o' } else y := by
    intro u
    rw [FO.look_add]
    by_cases e : u = v ++ [k]
    · rw [if_pos e, if_pos e]
    · rw [if_neg e, if_neg e, FO.look_setDict]
      by_cases e2 : u = v ∧ v ≠ []
      · rw [if_pos e2]; simp [e2.1]
      · rw [if_neg e2]
        by_cases e3 : u = v
        · have hv : v = [] := by
            by_cases q : v = []
            · exact q
            · exact absurd ⟨e3, q⟩ e2
          have : F.look u = none := by
            cases q : F.look u with
            | none => rfl
            | some y => exact absurd (e3.trans hv) (H.nonil _ (FO.look_mem q))
          rw [this]; rfl
        · simp [e3]
  have lookn : ∀ u, (((F.setDict v o').add (v ++ [k]) x).look u).map (·.n) = if u = v ++ [k] then some x.n else (F.look u).map (·.n) := by
    intro u
    rw [look]
    by_cases e : u = v ++ [k]
    · rw [if_pos e, if_pos e]; rfl
    · rw [if_neg e, if_neg e, Option.map_map]
      congr 1
      funext y
      show (if u = v then { y with ond := o' } else y).n = y.n
      split <;> rfl
  have mem : ∀ p ∈ ((F.setDict v o').add (v ++ [k]) x).nodes, p = (v ++ [k], x) ∨ ∃ y, F.look p.1 = some y ∧ p.2 = if p.1 = v then { y with ond := o' } else y := by
    intro p hp
    have hkeys : (((F.setDict v o').add (v ++ [k]) x).nodes.map (·.1)).Nodup := by
      show (((v ++ [k], x) :: (F.setDict v o').nodes).map (·.1)).Nodup
      rw [List.map_cons, FO.setDict_keys, List.nodup_cons]
      exact ⟨hnm, H.keys⟩
    have := FO.look_of_mem hkeys (v := p.1) (x := p.2) hp
    rw [look] at this
    by_cases e : p.1 = v ++ [k]
    · rw [if_pos e] at this
      left
      exact Prod.ext e (Option.some.inj this).symm
    · rw [if_neg e] at this
      right
      obtain ⟨y, hy, e'⟩ := Option.map_eq_some_iff.mp this
      exact ⟨y, hy, e'.symm⟩
  have dict : ∀ u a₁ o₁, ((F.setDict v o').add (v ++ [k]) x).dictAt u = some (a₁, o₁) → (u = v ++ [k] ∧ a₁ = x.nd ∧ o₁ = x.ond) ∨ (u ≠ v ++ [k] ∧ ∃ o₂, F.dictAt u = some (a₁, o₂) ∧ if u = v then o₁ = o' else o₁ = o₂) := by
    intro u a₁ o₁ h
    by_cases e : u = v ++ [k]
    · left
      unfold FO.dictAt at h
      rw [if_neg (by rw [e]; simp), FO.look_add, if_pos e] at h
      cases h
      exact ⟨e, rfl, rfl⟩
    · right
      refine ⟨e, setDict_dictAt (F := F) (w := v) ?_⟩
      unfold FO.dictAt at h ⊢
      rw [FO.look_add, if_neg e] at h
      exact h
  refine ⟨?_, ?_, ?_, ?_, ?_, ?_, ?_, ?_, ?_, ?_, ?_⟩
  · have e1 : ((F.setDict v o').add (v ++ [k]) x).ofd = F.ofd ∧ ((F.setDict v o').add (v ++ [k]) x).root = F.root ∧ ((F.setDict v o').add (v ++ [k]) x).pd = F.pd := by
      unfold FO.add FO.setDict
      split <;> exact ⟨rfl, rfl, rfl⟩
    rw [e1.1, e1.2.1, e1.2.2]
    exact H.fd
  · intro u a₁ o₁ h
    rcases dict u a₁ o₁ h with ⟨_, rfl, _⟩ | ⟨_, o₂, h2, _⟩
    · exact hx6
    · exact H.low _ _ _ h2
  · show (((v ++ [k], x) :: (F.setDict v o').nodes).map (·.1)).Nodup
    rw [List.map_cons, FO.setDict_keys, List.nodup_cons]
    exact ⟨hnm, H.keys⟩
  · intro p hp
    rcases mem p hp with rfl | ⟨y, hy, _⟩
    · simp
    · exact H.nonil (p.1, y) (FO.look_mem hy)
  · intro p hp
    rcases mem p hp with rfl | ⟨y, hy, _⟩
    · exact hm
    · exact H.menu (p.1, y) (FO.look_mem hy)
  · intro p hp
    rcases mem p hp with rfl | ⟨y, hy, e⟩
    · exact hx1
    · rw [e]
      have := H.node_at hy
      split <;> exact this
  · intro p hp
    rcases mem p hp with rfl | ⟨y, hy, e⟩
    · exact hx5
    · rw [e]
      have := H.nlow _ (FO.look_mem hy)
      split <;> exact this
  · intro p hp
    rcases mem p hp with rfl | ⟨y, hy, e⟩
    · refine ⟨_, _, ?_, hx2, hx3⟩
      unfold ensure
      rw [if_pos rfl, H.gone _ hn]; rfl
    · obtain ⟨X, Y, h1, h2, h3⟩ := H.flags_at hy
      have hne : p.1 ≠ v ++ [k] := fun q => by rw [q, hn] at hy; cases hy
      refine ⟨X, Y, ?_, ?_, ?_⟩
      · unfold ensure
        rw [if_neg hne]; exact h1
      · rw [e]; split <;> exact h2
      · rw [e]; split <;> exact h3
  · intro u hu
    rw [look] at hu
    by_cases e : u = v ++ [k]
    · rw [if_pos e] at hu; cases hu
    · rw [if_neg e] at hu
      unfold ensure
      rw [if_neg e]
      exact H.gone _ (by simpa using hu)
  · intro u a₁ o₁ h
    have some_n : ∀ (u' : Way) (z : Value), (∃ y, ((F.setDict v o').add (v ++ [k]) x).look u' = some y ∧ z = .ref y.n) ↔ (∃ n, (((F.setDict v o').add (v ++ [k]) x).look u').map (·.n) = some n ∧ z = .ref n) := by
      intro u' z
      constructor
      · rintro ⟨y, hy, rfl⟩; exact ⟨y.n, by rw [hy]; rfl, rfl⟩
      · rintro ⟨n, hy, rfl⟩
        obtain ⟨y, hy2, rfl⟩ := Option.map_eq_some_iff.mp hy
        exact ⟨y, hy2, rfl⟩
    have some_F : ∀ (u' : Way) (z : Value), (∃ y, F.look u' = some y ∧ z = .ref y.n) ↔ (∃ n, (F.look u').map (·.n) = some n ∧ z = .ref n) := by
      intro u' z
      constructor
      · rintro ⟨y, hy, rfl⟩; exact ⟨y.n, by rw [hy]; rfl, rfl⟩
      · rintro ⟨n, hy, rfl⟩
        obtain ⟨y, hy2, rfl⟩ := Option.map_eq_some_iff.mp hy
        exact ⟨y, hy2, rfl⟩
    rcases dict u a₁ o₁ h with ⟨rfl, rfl, rfl⟩ | ⟨hne, o₂, h2, h3⟩
    · refine ⟨[], hx4, fun z y => ?_⟩
      constructor
      · intro q; cases q
      · rw [some_n, lookn]
        rintro ⟨n, q, _⟩
        rw [if_neg (fun e => by have := congrArg List.length e; simp at this)] at q
        obtain ⟨y', hy', _⟩ := Option.map_eq_some_iff.mp q
        rcases H.closed (v ++ [k]) z (by rw [hy']; exact fun q => nomatch q) with e | e
        · simp at e
        · exact absurd hn e
    · by_cases e : u = v
      · subst e
        rw [if_pos rfl] at h3
        subst h3
        refine ⟨_, ho, fun z y => ?_⟩
        rw [some_n, lookn]
        have hvk : valueAt kvs k = none := by
          cases q : valueAt kvs k with
          | none => rfl
          | some y' => obtain ⟨y2, h4, _⟩ := (hkv k y').mp q; rw [hn] at h4; cases h4
        by_cases hz : z = k
        · subst hz
          rw [if_pos rfl]
          have : valueAt (stored kvs z (.ref x.n)) z = some (.ref x.n) := by
            rw [valueAt_stored]; simp
          rw [this]
          constructor
          · intro q; exact ⟨x.n, rfl, (Option.some.inj q).symm⟩
          · rintro ⟨n, q, rfl⟩; cases q; rfl
        · have hz' : ¬ u ++ [z] = u ++ [k] := fun e => hz (append_one_inj e).2
          rw [if_neg hz', ← some_F, ← hkv]
          have : valueAt (stored kvs k (.ref x.n)) z = valueAt kvs z := by
            rw [valueAt_stored]; simp [hz]
          rw [this]
      · rw [if_neg e] at h3
        subst h3
        obtain ⟨kvs', h5, h6⟩ := H.kids _ _ _ h2
        refine ⟨kvs', h5, fun z y => ?_⟩
        rw [h6, some_n, lookn, if_neg (fun q => e (append_one_inj q).1), some_F]
  · intro u z hz
    rw [look] at hz
    by_cases e : u ++ [z] = v ++ [k]
    · obtain ⟨rfl, rfl⟩ := append_one_inj e
      unfold FO.dictAt at hd
      by_cases hu : u = []
      · exact .inl hu
      · right
        rw [if_neg hu] at hd
        obtain ⟨y, hy, _⟩ := Option.map_eq_some_iff.mp hd
        rw [look, if_neg (fun q => by have := congrArg List.length q; simp at this), hy]
        exact fun q => nomatch q
    · rw [if_neg e] at hz
      rcases H.closed u z (by intro q; rw [q] at hz; exact hz rfl) with h1 | h1
      · exact .inl h1
      · right
        rw [look]
        by_cases e2 : u = v ++ [k]
        · rw [if_pos e2]; exact fun q => nomatch q
        · rw [if_neg e2]
          intro q
          exact h1 (by simpa using q)
end Mine.Internal
end
section
set_option tactic.hygienic false
open PySem PySem.W PySem.Calls PyProof.Rows
set_option maxRecDepth 100000
namespace Mine.Internal

structure FO.Same (F F' : FO) : Prop where
  f : F'.f = F.f
  fd : F'.fd = F.fd
  root : F'.root = F.root
  pd : F'.pd = F.pd
  ofd : F'.ofd = F.ofd
  opd : F'.opd = F.opd
theorem FO.Same.refl (F : FO) : F.Same F := ⟨rfl, rfl, rfl, rfl, rfl, rfl⟩
theorem FO.Same.trans {F G H : FO} (x : F.Same G) (y : G.Same H) : F.Same H := ⟨y.f.trans x.f, y.fd.trans x.fd, y.root.trans x.root, y.pd.trans x.pd, y.ofd.trans x.ofd, y.opd.trans x.opd⟩
theorem FO.Same.setDict (F : FO) (w : Way) (o' : Obj) : F.Same (F.setDict w o') := by unfold FO.setDict; split <;> exact ⟨rfl, rfl, rfl, rfl, rfl, rfl⟩
theorem FO.Same.add (F : FO) (v : Way) (x : Nd) : F.Same (F.add v x) := ⟨rfl, rfl, rfl, rfl, rfl, rfl⟩
theorem FO.Same.mod (F : FO) (v : Way) (g : Nd → Nd) : F.Same (F.mod v g) := ⟨rfl, rfl, rfl, rfl, rfl, rfl⟩

theorem Is_marks {prog : Program} {w : World} {M : List Str} {F : FO} {τ : AbsT} {v : Way} {x : Nd} {g : Nd → Nd} {X Y : Int → Bool} (H : F.Is prog w M τ) (hx : F.look v = some x)
    (hg : ∀ y, (g y).n = y.n ∧ (g y).fl = y.fl ∧ (g y).rc = y.rc ∧ (g y).nd = y.nd ∧ (g y).on = y.on ∧ (g y).ond = y.ond) (h1 : IS prog w (g x).ofl X) (h2 : IS prog w (g x).orc Y) :
    (F.mod v g).Is prog w M (fun u => if u = v then some (X, Y) else τ u) := by
  have hkeys : ((F.mod v g).nodes.map (·.1)).Nodup := by
    have : (F.mod v g).nodes.map (·.1) = F.nodes.map (·.1) := modN_keys v g F.nodes
    rw [this]; exact H.keys
  have mem : ∀ p ∈ (F.mod v g).nodes, ∃ y, F.look p.1 = some y ∧ p.2 = if p.1 = v then g y else y := by
    intro p hp
    have := FO.look_of_mem hkeys (v := p.1) (x := p.2) hp
    rw [FO.look_mod] at this
    by_cases e : p.1 = v
    · rw [if_pos e] at this
      obtain ⟨y, hy, e'⟩ := Option.map_eq_some_iff.mp this
      exact ⟨y, hy, by rw [if_pos e]; exact e'.symm⟩
    · rw [if_neg e] at this
      exact ⟨p.2, this, by rw [if_neg e]⟩
  have lookn : ∀ u, ((F.mod v g).look u).map (·.n) = (F.look u).map (·.n) := by
    intro u
    rw [FO.look_mod]
    split
    · rw [Option.map_map]; congr 1; funext y; exact (hg y).1
    · rfl
  have lookN : ∀ u, (F.mod v g).look u = none ↔ F.look u = none := by
    intro u
    have := lookn u
    constructor
    · intro q; rw [q] at this; simpa using this.symm
    · intro q; rw [q] at this; simpa using this
  have dict : ∀ u, (F.mod v g).dictAt u = F.dictAt u := by
    intro u
    unfold FO.dictAt
    split
    · rfl
    · rw [FO.look_mod]
      split
      · rw [Option.map_map]; congr 1; funext y
        show ((g y).nd, (g y).ond) = _
        rw [(hg y).2.2.2.1, (hg y).2.2.2.2.2]
      · rfl
  have some_n : ∀ (G : FO) (u' : Way) (z : Value), (∃ y, G.look u' = some y ∧ z = .ref y.n) ↔ (∃ n, (G.look u').map (·.n) = some n ∧ z = .ref n) := by
    intro G u' z
    constructor
    · rintro ⟨y, hy, rfl⟩; exact ⟨y.n, by rw [hy]; rfl, rfl⟩
    · rintro ⟨n, hy, rfl⟩
      obtain ⟨y, hy2, rfl⟩ := Option.map_eq_some_iff.mp hy
      exact ⟨y, hy2, rfl⟩
  refine ⟨H.fd, fun u a o h => H.low u a o (dict u ▸ h), hkeys, ?_, ?_, ?_, ?_, ?_, ?_, ?_, ?_⟩
  · intro p hp
    obtain ⟨y, hy, _⟩ := mem p hp
    exact H.nonil (p.1, y) (FO.look_mem hy)
  · intro p hp
    obtain ⟨y, hy, _⟩ := mem p hp
    exact H.menu (p.1, y) (FO.look_mem hy)
  · intro p hp
    obtain ⟨y, hy, e⟩ := mem p hp
    have := H.node_at hy
    rw [e]
    split
    · rw [(hg y).2.2.2.2.1, (hg y).2.1, (hg y).2.2.1, (hg y).2.2.2.1]; exact this
    · exact this
  · intro p hp
    obtain ⟨y, hy, e⟩ := mem p hp
    have := H.nlow _ (FO.look_mem hy)
    rw [e]
    split
    · rw [(hg y).1]; exact this
    · exact this
  · intro p hp
    obtain ⟨y, hy, e⟩ := mem p hp
    by_cases e2 : p.1 = v
    · have : y = x := by rw [e2, hx] at hy; exact (Option.some.inj hy).symm
      subst this
      rw [if_pos e2] at e
      exact ⟨X, Y, by rw [if_pos e2], e ▸ h1, e ▸ h2⟩
    · obtain ⟨X', Y', a, b, c⟩ := H.flags_at hy
      rw [if_neg e2] at e
      exact ⟨X', Y', by rw [if_neg e2]; exact a, e ▸ b, e ▸ c⟩
  · intro u hu
    have hu' := (lookN u).mp hu
    have : u ≠ v := fun e => by rw [e, hx] at hu'; cases hu'
    rw [if_neg this]
    exact H.gone _ hu'
  · intro u a o h
    rw [dict] at h
    obtain ⟨kvs, h5, h6⟩ := H.kids _ _ _ h
    refine ⟨kvs, h5, fun z y => ?_⟩
    rw [h6, some_n F, some_n (F.mod v g), lookn]
  · intro u z hz
    have hz' : F.look (u ++ [z]) ≠ none := fun q => hz ((lookN _).mpr q)
    rcases H.closed u z hz' with h1 | h1
    · exact .inl h1
    · exact .inr fun q => h1 ((lookN _).mp q)

noncomputable def FO.cut (F : FO) (v : Way) (o' : Obj) (k : Str) : FO := { F.setDict v o' with nodes := (F.setDict v o').nodes.filter fun p => !(v ++ [k]).isPrefixOf p.1 }
noncomputable def cutT (τ : AbsT) (v : Way) : AbsT := fun u => if v.isPrefixOf u then none else τ u

theorem flatMap_filter_sub {α β : Type} (f : α → List β) (p : α → Bool) : ∀ l : List α, ((l.filter p).flatMap f).Sublist (l.flatMap f)
  | [] => .slnil
  | a :: l => by
    rw [List.filter_cons, List.flatMap_cons]
    split
    · rw [List.flatMap_cons]; exact (List.Sublist.refl _).append (flatMap_filter_sub f p l)
    · exact (flatMap_filter_sub f p l).trans (List.sublist_append_right _ _)
theorem FO.cut_sub (F : FO) (v : Way) (o' : Obj) (k : Str) : (F.cut v o' k).cells.Sublist (F.setDict v o').cells := by
  unfold FO.cut FO.cells
  exact ((((flatMap_filter_sub _ _ _).cons_cons _).cons_cons _).cons_cons _).cons_cons _
theorem FO.Same.cut (F : FO) (v : Way) (o' : Obj) (k : Str) : F.Same (F.cut v o' k) := by
  have := FO.Same.setDict F v o'
  exact ⟨this.f, this.fd, this.root, this.pd, this.ofd, this.opd⟩

theorem look_filter (q : Way → Bool) (v : Way) : ∀ ns : List (Way × Nd), (((ns.filter fun p => q p.1).find? fun p => decide (p.1 = v)).map (·.2)) = if q v then (ns.find? fun p => decide (p.1 = v)).map (·.2) else none
  | [] => by simp
  | p :: ns => by
    have ih := look_filter q v ns
    rw [List.filter_cons, List.find?_cons]
    by_cases h2 : p.1 = v
    · by_cases h1 : q p.1 = true
      · rw [if_pos h1, List.find?_cons]
        have : q v = true := h2 ▸ h1
        simp [h2, this]
      · rw [if_neg h1, ih]
        have : ¬ q v = true := h2 ▸ h1
        rw [if_neg this, if_neg this]
    · simp only [decide_eq_false h2]
      by_cases h1 : q p.1 = true
      · rw [if_pos h1, List.find?_cons]
        simp only [decide_eq_false h2]
        exact ih
      · rw [if_neg h1]; exact ih

theorem FO.look_cut (F : FO) (v : Way) (o' : Obj) (k : Str) (u : Way) : (F.cut v o' k).look u = if (v ++ [k]).isPrefixOf u then none else (F.setDict v o').look u := by
  have := look_filter (fun z => !(v ++ [k]).isPrefixOf z) u (F.setDict v o').nodes
  show (((F.setDict v o').nodes.filter fun p => !(v ++ [k]).isPrefixOf p.1).find? fun p => decide (p.1 = u)).map (·.2) = _
  rw [this]
  by_cases h : (v ++ [k]).isPrefixOf u = true
  · rw [if_pos h, h]; rfl
  · rw [if_neg h]
    have h' : (v ++ [k]).isPrefixOf u = false := Bool.eq_false_iff.mpr h
    rw [h']; rfl

theorem pre_iff {a b : Way} : a.isPrefixOf b = true ↔ a <+: b := List.isPrefixOf_iff_prefix
theorem Is_cut {prog : Program} {w : World} {M : List Str} {F : FO} {τ : AbsT} {v : Way} {k : Str} {a : Addr} {o o' : Obj} {kvs : List (Str × Value)} (H : F.Is prog w M τ)
    (hd : F.dictAt v = some (a, o)) (hkv : ∀ z y, valueAt kvs z = some y ↔ ∃ q, F.look (v ++ [z]) = some q ∧ y = .ref q.n)
    (ho : o'.IsDictOf (strKind prog w) (without kvs k)) : (F.cut v o' k).Is prog w M (cutT τ (v ++ [k])) := by
  have look : ∀ u, (F.cut v o' k).look u = if (v ++ [k]).isPrefixOf u then none else (F.look u).map fun y => if u = v then { y with ond := o' } else y := by
    intro u
    rw [FO.look_cut]
    split
    · rfl
    · rw [FO.look_setDict]
      by_cases e2 : u = v ∧ v ≠ []
      · rw [if_pos e2]; simp [e2.1]
      · rw [if_neg e2]
        by_cases e3 : u = v
        · have hv : v = [] := by
            by_cases q : v = []
            · exact q
            · exact absurd ⟨e3, q⟩ e2
          have : F.look u = none := by
            cases q : F.look u with
            | none => rfl
            | some y => exact absurd (e3.trans hv) (H.nonil _ (FO.look_mem q))
          rw [this]; rfl
        · simp [e3]
  have lookn : ∀ u, ((F.cut v o' k).look u).map (·.n) = if (v ++ [k]).isPrefixOf u then none else (F.look u).map (·.n) := by
    intro u
    rw [look]
    split
    · rfl
    · rw [Option.map_map]; congr 1; funext y
      show (if u = v then { y with ond := o' } else y).n = y.n
      split <;> rfl
  have hkeys : ((F.cut v o' k).nodes.map (·.1)).Nodup := by
    have h1 : ((F.setDict v o').nodes.map (·.1)).Nodup := by rw [FO.setDict_keys]; exact H.keys
    exact h1.sublist (List.filter_sublist.map _)
  have mem : ∀ p ∈ (F.cut v o' k).nodes, (v ++ [k]).isPrefixOf p.1 = false ∧ ∃ y, F.look p.1 = some y ∧ p.2 = if p.1 = v then { y with ond := o' } else y := by
    intro p hp
    have := FO.look_of_mem hkeys (v := p.1) (x := p.2) hp
    rw [look] at this
    by_cases e : (v ++ [k]).isPrefixOf p.1 = true
    · rw [if_pos e] at this; cases this
    · rw [if_neg e] at this
      obtain ⟨y, hy, e'⟩ := Option.map_eq_some_iff.mp this
      exact ⟨Bool.eq_false_iff.mpr e, y, hy, e'.symm⟩
  have dict : ∀ u a₁ o₁, (F.cut v o' k).dictAt u = some (a₁, o₁) → (v ++ [k]).isPrefixOf u = false ∧ ∃ o₂, F.dictAt u = some (a₁, o₂) ∧ if u = v then o₁ = o' else o₁ = o₂ := by
    intro u a₁ o₁ h
    by_cases hu : u = []
    · subst hu
      refine ⟨by cases v <;> rfl, setDict_dictAt (F := F) (w := v) ?_⟩
      unfold FO.dictAt at h ⊢
      rw [if_pos rfl] at h ⊢
      exact h
    · have h' := h
      unfold FO.dictAt at h
      rw [if_neg hu, FO.look_cut] at h
      by_cases e : (v ++ [k]).isPrefixOf u = true
      · rw [if_pos e] at h; cases h
      · rw [if_neg e] at h
        refine ⟨Bool.eq_false_iff.mpr e, setDict_dictAt (F := F) (w := v) ?_⟩
        unfold FO.dictAt
        rw [if_neg hu]; exact h
  have some_n : ∀ (G : FO) (u' : Way) (z : Value), (∃ y, G.look u' = some y ∧ z = .ref y.n) ↔ (∃ n, (G.look u').map (·.n) = some n ∧ z = .ref n) := by
    intro G u' z
    constructor
    · rintro ⟨y, hy, rfl⟩; exact ⟨y.n, by rw [hy]; rfl, rfl⟩
    · rintro ⟨n, hy, rfl⟩
      obtain ⟨y, hy2, rfl⟩ := Option.map_eq_some_iff.mp hy
      exact ⟨y, hy2, rfl⟩
  have sm := FO.Same.cut F v o' k
  refine ⟨?_, ?_, hkeys, ?_, ?_, ?_, ?_, ?_, ?_, ?_, ?_⟩
  · rw [sm.ofd, sm.root, sm.pd]; exact H.fd
  · intro u a₁ o₁ h
    obtain ⟨_, o₂, h2, _⟩ := dict u a₁ o₁ h
    exact H.low _ _ _ h2
  · intro p hp
    obtain ⟨_, y, hy, _⟩ := mem p hp
    exact H.nonil (p.1, y) (FO.look_mem hy)
  · intro p hp
    obtain ⟨_, y, hy, _⟩ := mem p hp
    exact H.menu (p.1, y) (FO.look_mem hy)
  · intro p hp
    obtain ⟨_, y, hy, e⟩ := mem p hp
    have := H.node_at hy
    rw [e]; split <;> exact this
  · intro p hp
    obtain ⟨_, y, hy, e⟩ := mem p hp
    have := H.nlow _ (FO.look_mem hy)
    rw [e]; split <;> exact this
  · intro p hp
    obtain ⟨hno, y, hy, e⟩ := mem p hp
    obtain ⟨X', Y', h1, b, c⟩ := H.flags_at hy
    refine ⟨X', Y', ?_, ?_, ?_⟩
    · unfold cutT
      rw [hno]; exact h1
    · rw [e]; split <;> exact b
    · rw [e]; split <;> exact c
  · intro u hu
    unfold cutT
    rw [look] at hu
    split
    · rfl
    · rename_i e
      rw [if_neg e] at hu
      exact H.gone _ (by simpa using hu)
  · intro u a₁ o₁ h
    obtain ⟨hno, o₂, h2, h3⟩ := dict u a₁ o₁ h
    by_cases e : u = v
    · subst e
      rw [if_pos rfl] at h3
      subst h3
      refine ⟨_, ho, fun z y => ?_⟩
      rw [some_n, lookn, valueAt_without]
      by_cases hz : z = k
      · subst hz
        have : (u ++ [z]).isPrefixOf (u ++ [z]) = true := pre_iff.mpr (List.prefix_refl _)
        rw [if_pos rfl, this]
        simp
      · have : ¬ (u ++ [k]).isPrefixOf (u ++ [z]) = true := fun q => by
          have := (pre_iff.mp q).eq_of_length (by simp)
          exact hz (append_one_inj this).2.symm
        rw [if_neg hz, if_neg this, hkv, some_n]
    · rw [if_neg e] at h3
      subst h3
      obtain ⟨kvs', h5, h6⟩ := H.kids _ _ _ h2
      refine ⟨kvs', h5, fun z y => ?_⟩
      have : ¬ (v ++ [k]).isPrefixOf (u ++ [z]) = true := fun q => by
        have q := pre_iff.mp q
        rcases Nat.lt_or_ge u.length (v ++ [k]).length with hlt | hge
        · have h9 : (v ++ [k]).length ≤ (u ++ [z]).length := q.length_le
          simp at hlt h9
          have := q.eq_of_length (by simp; exact (by exact Nat.le_antisymm h9 (Nat.le_of_lt_succ hlt)))
          exact e (append_one_inj this).1.symm
        · have h8 : (v ++ [k]) <+: u := List.prefix_of_prefix_length_le q (List.prefix_append u [z]) hge
          rw [pre_iff.mpr h8] at hno; cases hno
      rw [h6, some_n F, some_n, lookn, if_neg this]
  · intro u z hz
    have h1 := lookn (u ++ [z])
    by_cases e : (v ++ [k]).isPrefixOf (u ++ [z]) = true
    · rw [if_pos e] at h1
      exact absurd (by simpa using h1) hz
    · rw [if_neg e] at h1
      have : F.look (u ++ [z]) ≠ none := fun q => by rw [q] at h1; exact hz (by simpa using h1)
      rcases H.closed u z this with h2 | h2
      · exact .inl h2
      · right
        intro q
        have h3 := lookn u
        have : ¬ (v ++ [k]).isPrefixOf u = true := fun q => e (pre_iff.mpr ((pre_iff.mp q).trans (List.prefix_append _ _)))
        rw [if_neg this, q] at h3
        exact h2 (by simpa using h3.symm)

noncomputable def road (τ : AbsT) : Way → List Str → AbsT
  | _, [] => τ
  | pre, k :: r => road (ensure τ (pre ++ [k])) (pre ++ [k]) r
theorem road_snoc (τ : AbsT) : ∀ (xs : List Str) (pre : Way) (k : Str), road τ pre (xs ++ [k]) = ensure (road τ pre xs) (pre ++ xs ++ [k])
  | [], pre, k => by simp [road]
  | x :: xs, pre, k => by
    show road (ensure τ (pre ++ [x])) (pre ++ [x]) (xs ++ [k]) = ensure (road (ensure τ (pre ++ [x])) (pre ++ [x]) xs) (pre ++ (x :: xs) ++ [k])
    have := road_snoc (ensure τ (pre ++ [x])) xs (pre ++ [x]) k
    rw [this]
    simp
theorem ensure_there {τ : AbsT} {v : Way} {x : NS} (h : τ v = some x) : ensure τ v = τ := by
  funext u
  unfold ensure
  by_cases e : u = v
  · rw [if_pos e, h, e, h]; rfl
  · rw [if_neg e]
noncomputable def addF (X : Int → Bool) (f : Int) : Int → Bool := fun k => X k || decide (k = f)
noncomputable def setM (τ : AbsT) (v : Way) (rec : Bool) (f : Int) : AbsT := fun u => if u = v then (τ v).map fun x => if rec then (x.1, addF x.2 f) else (addF x.1 f, x.2) else τ u
noncomputable def setT (τ : AbsT) (v : Way) (f : Int) (rec : Bool) : AbsT := setM (road τ [] v) v rec f

theorem IS_add {prog : Program} {w : World} {o : Obj} {X : Int → Bool} {f : Int} (hf : f = 0 ∨ f = 1) (hX : ∀ k, X k = true → k = 0 ∨ k = 1) (h : o.SetObjOf (intKind prog w) (fun k' => X k' || decide (k' = f)) (if X f then cnt X else cnt X + 1)) : IS prog w o (addF X f) := by
  refine ⟨?_, fun k hk => ?_⟩
  · have e : cnt (addF X f) = if X f then cnt X else cnt X + 1 := by
      unfold cnt addF
      rcases hf with rfl | rfl
      · have : ¬ ((1 : Int) = 0) := by decide
        simp only [this, decide_false, Bool.or_false, decide_true, Bool.or_true, if_true]
        cases X 0 <;> simp <;> exact (by exact Nat.add_comm _ _)
      · have : ¬ ((0 : Int) = 1) := by decide
        simp only [this, decide_false, Bool.or_false, decide_true, Bool.or_true, if_true]
        cases X 1 <;> simp <;> lia
    rw [e]; exact h
  · unfold addF at hk
    rw [Bool.or_eq_true] at hk
    rcases hk with h1 | h1
    · exact hX k h1
    · have := of_decide_eq_true h1; subst this; exact hf
theorem IS_nil (prog : Program) (w : World) (led : Bool) : IS prog w (freshSet led) fun x => false := ⟨freshSet_is led, fun k h => by cases h⟩
end Mine.Internal
end
section
set_option tactic.hygienic false
end
section
set_option tactic.hygienic false
open PySem PySem.W PySem.Calls PyProof.Rows
set_option maxRecDepth 100000
namespace Mine.Internal
theorem dummy : (PySem.Challenge.rw_aa0050_01 = PySem.Challenge.rw_aa0050_01 ∧ hkF = hkF) := by k_fill; exact ⟨rfl, rfl⟩
inductive QJ (F : FO) (τ : AbsT) (zr : Lg) (q : Addr) (flag : Int) (t : Tok) (way : Way) (i : Nat) : List (Option Value) → Lg → Prop
  | mk (a : Addr) (o : Obj) (kx ix : Option Value) : F.dictAt (way.take i) = some (a, o) → isW τ way flag = isGo τ (way.take i) (way.drop i) flag → QJ F τ zr q flag t way i [some (.ref F.f), some (.ref q), some (.int flag t), some (.ref a), kx, ix, none] zr
theorem qj_facts {way : Way} {us : List Value} {i : Nat} {k : Str} (hk : way.dropLast[i]? = some k) : way.take (i + 1) = way.take i ++ [k] ∧ ∃ k' r, way.drop i = k :: k' :: r ∧ way.drop (i + 1) = k' :: r := by
  have hlt : i + 1 < way.length := by
    have := (List.getElem?_eq_some_iff.mp hk).1
    rw [List.length_dropLast] at this
    exact Nat.add_lt_of_lt_sub this
  have hki : way[i]? = some k := by
    rw [List.getElem?_dropLast] at hk
    split at hk
    · exact hk
    · cases hk
  refine ⟨by rw [List.take_add_one, hki]; rfl, ?_⟩
  have h1 : way.drop i = k :: way.drop (i + 1) := by
    rw [List.drop_eq_getElem_cons (by exact Nat.le_of_lt hlt)]
    congr 1
    exact Option.some.inj ((List.getElem?_eq_getElem (by exact Nat.le_of_lt hlt)).symm.trans hki)
  cases h2 : way.drop (i + 1) with
  | nil => have := congrArg List.length h2; rw [List.length_drop] at this; exact absurd (Nat.le_of_sub_eq_zero this) (Nat.not_le.mpr hlt)
  | cons k' r => exact ⟨k', r, by rw [h1, h2], rfl⟩
section
variable {prog : Program} {w : World} {A : Around} {E : Value → Shared → Prop} {env : Env} {ns : List Str} {h₀ : Heap} {vs : List (Option Value)} {l : Lg} {s₀ s : Shared}
  {p : Program} {loose : List Str} {mean : ExcName → Option Value} {mg mb : Str → Option Value} {d u : Nat}

theorem g_flags {F : FO} {M : List Str} {τ : AbsT} {x : Bool} {Q : Value → Shared → Prop} (cx : Cx (hkF w.params) p loose mean mg mb d u A env h₀) (st : S env ns h₀ vs l s₀ s) (H : F.Is prog w M τ) (hc : ∀ c ∈ F.cells, c ∈ l)
    (h : ∀ s', S env ns h₀ vs l s₀ s' → Q (.ref F.root) s') : wpAny (model prog w) A (getAttr (.ref F.f) "_flags" x) Q E s := by
  obtain ⟨a0, t0, a1, t1, n, e⟩ := H.fd
  have m1 := hc _ (.head _)
  have m2 := hc _ (.tail _ (.head _))
  rw [e] at m2
  refine get_own (es := [⟨a0, .str "_flags" t0, .ref F.root⟩, ⟨a1, .str "_pending_flags" t1, .ref F.pd⟩]) st.fr cx.x ⟨st.at m1, rfl, rfl, st.at m2⟩ (by k_is) (by k_is) (by k_is) (by k_is) (by k_get) rfl (h _ (st.tok _))

theorem w_flags {F : FO} {M : List Str} {τ : AbsT} {x : Bool} {Q : Value → Shared → Prop} (cx : Cx (hkF w.params) p loose mean mg mb d u A env h₀) (st : S env ns h₀ vs l s₀ s) (H : F.Is prog w M τ) (hc : ∀ c ∈ F.cells, c ∈ l)
    (h : ∀ s', S env ns h₀ vs l s₀ s' → Q (.ref F.root) s') : W (model prog w) A (getAttr (.ref F.f) "_flags" x) Q E s := .mk (g_flags cx st H hc h)

theorem is_spec {M : List Str} {F : FO} {τ : AbsT} {rest : Lg} {q : Addr} {us : List Value} {way : Way} {flag : Int} {t : Tok} {R : Result → Shared → Prop}
    (fn : Fn env ns) (cx : Cx (hkF w.params) p loose mean mg mb (d + 1) (u + 3) A env h₀) (st : S env ns h₀ vs (F.cells ++ rest) s₀ s)
    (H : F.Is prog w M τ) (hq : (q, tupO us) ∈ rest) (hw : WayV us way) (hz : us.length ≤ sizeLine)
    (h : ∀ s', S env ns h₀ vs (F.cells ++ rest) s₀ s' → R (.ok (.ret (.bool (isW τ way flag)))) s') :
    codeAny (model prog w) A (.call (.ref 63) ⟨[.ref F.f, .ref q, .int flag t], []⟩) R s := by
  refine S_call (d := d) (u := u) (ns' := ["self", "key", "flag", "cont", "k", "inner_cont", "key_stem"]) (vs' := [some (.ref F.f), some (.ref q), some (.int flag t), none, none, none, none])
    [("self", .ref F.f), ("key", .ref q), ("flag", .int flag t)] ["cont", "k", "inner_cont", "key_stem"] fn cx st (by k_is) (by k_is) (BindsTo.of_eq rfl) rfl rfl (fn_of (by rfl) (by decide) rfl) (by decide) ?_
  intro env1 g A1 s1 E' he fn1 cx1 st1
  generalize hSR : SRet _ _ _ _ _ _ _ _ _ = RR0; revert RR0; refine hold ?_; intro RR0 hSR
  have hq1 : (q, tupO us) ∈ F.cells ++ rest := List.mem_append_right _ hq
  refine w_cons (w_if (w_not (w_plain (w_name 1 fn1 st1 rfl rfl (w_truthy_tuple st1 hq1 hz fun s2 st2 => ?_)))))
  cases hus : us.isEmpty with
  | true =>
    refine w_cons (w_ret (w_bool ?_))
    subst hSR
    refine SRet.intro st2 fun st => ?_
    have e : way = [] := by
      have := hw.length
      rw [List.isEmpty_iff.mp hus] at this
      exact List.eq_nil_of_length_eq_zero this.symm
    have := h _ st
    rw [e] at this
    exact this
  | false =>
    refine w_nil ?_
    refine w_cons (w_assign 3 fn1 rfl (w_attr (w_name 0 fn1 st2 rfl rfl (w_flags cx1 st2 H (fun c hc => List.mem_append_left _ hc) fun s3 st3 => ⟨_, _, st3, Nat.le_of_ble_eq_true rfl, fun s4 st4 => ?_⟩))))
    refine w_cons (w_for ?_)
    refine w_subslice (w_name 1 fn1 st4 rfl rfl (wpart_0 (wpart_e (w_neg1 st4 fun t5 s5 st5 => ?_))))
    refine w_slice_tup st5 hq1 .none (.int _ _) hz fun z a s6 st6 ha => ?_
    have ha := ha _ hq1
    rw [sl_init] at ha
    have mc : ∀ c ∈ F.cells, c ∈ z ++ (F.cells ++ rest) := fun c hc => List.mem_append_right _ (List.mem_append_left _ hc)
    have hway : way ≠ [] := by
      intro e
      have := hw.length
      rw [e] at this
      rw [List.eq_nil_of_length_eq_zero this] at hus
      cases hus
    refine w_for_tuple cx1.hand st6 ha (QJ F τ (z ++ (F.cells ++ rest)) q flag t way)
      (.mk F.root F.oroot none none rfl rfl) (fun i vs' l' hJ => by obtain ⟨_⟩ := hJ; exact ha) ?_ ?_
    · intro i v vs' l' I oI s' E2 hv hJ st'
      generalize hLP : LPost _ _ _ _ _ _ _ _ = QQ; revert QQ; refine hold ?_; intro QQ hLP
      obtain ⟨a1, o1, kx, ix, hd1, hgo⟩ := hJ
      obtain ⟨k, tk, rfl, hk⟩ := hw.dropLast.get hv
      have mI : ∀ c ∈ F.cells, c ∈ (I, oI) :: (z ++ (F.cells ++ rest)) := fun c hc => .tail _ (mc c hc)
      obtain ⟨kvs, hkv, hkids⟩ := H.kids _ _ _ hd1
      obtain ⟨htake, k', r, hdrop⟩ := qj_facts (us := us) hk
      rw [hdrop.1] at hgo
      refine w_aname (w_store 4 fn1 st' rfl (Nat.le_of_ble_eq_true rfl) fun s2 st2 => ?_)
      refine w_cons (w_if (w_testcmp (w_name 4 fn1 st2 rfl rfl (w_name 3 fn1 st2 rfl rfl (w_notin_dict st2 (mI _ (dict_mem hd1)) hkv (H.low _ _ _ hd1) fun s3 st3 => w_tbool ?_)))))
      cases hl : valueAt kvs k with
      | none =>
        refine w_cons (w_ret (w_bool ?_))
        have hn : F.look (way.take i ++ [k]) = none := by
          cases e : F.look (way.take i ++ [k]) with
          | none => rfl
          | some y => have := (hkids k _).mpr ⟨y, e, rfl⟩; rw [hl] at this; cases this
        subst hLP; subst hSR
        change SRet _ _ _ _ _ _ _ _ _ _ _
        refine SRet.intro st3.drop.dropL fun st => ?_
        have := h _ st
        rw [hgo] at this
        unfold isGo at this
        rw [H.gone _ hn] at this
        exact this
      | some x =>
        obtain ⟨y, hy, rfl⟩ := (hkids k x).mp hl
        refine w_nil ?_
        have hyn := H.node_at hy
        obtain ⟨X, Y, hτ, hX, hY⟩ := H.flags_at hy
        refine w_cons (w_assign 5 fn1 rfl (w_subE (w_name 3 fn1 st3 rfl rfl (w_name 4 fn1 st3 rfl rfl (w_tail_dict st3 (mI _ (dict_mem hd1)) hkv hl fun s4 st4 => ⟨_, _, st4, Nat.le_of_ble_eq_true rfl, fun s5 st5 => ?_⟩)))))
        refine w_cons (w_if (w_testcmp (w_name 2 fn1 st5 rfl rfl (w_subE (w_name 5 fn1 st5 rfl rfl (w_str st5 fun t6 s6 st6 => w_tail_dict st6 (mI _ (mem_cells hy (.head _))) hyn rfl fun s7 st7 => w_in_set st7 (mI _ (mem_cells hy (.tail _ (.tail _ (.head _))))) hY.1 (by have := cnt_le Y; unfold scanBound; exact Nat.lt_of_le_of_lt this (Nat.le_of_ble_eq_true rfl)) fun s8 st8 => w_tbool ?_))))))
        cases hf : Y flag with
        | true =>
          refine w_cons (w_ret (w_bool ?_))
          subst hLP; subst hSR
          change SRet _ _ _ _ _ _ _ _ _ _ _
          refine SRet.intro st8.drop.dropL fun st => ?_
          have := h _ st
          rw [hgo] at this
          unfold isGo at this
          rw [hτ] at this
          simp only [hf, if_true] at this
          exact this
        | false =>
          refine w_nil ?_
          refine w_cons (w_assign 3 fn1 rfl (w_subE (w_name 5 fn1 st8 rfl rfl (w_str st8 fun t9 s9 st9 => w_tail_dict st9 (mI _ (mem_cells hy (.head _))) hyn rfl fun s10 st10 => ⟨_, _, st10, Nat.le_of_ble_eq_true rfl, fun s11 st11 => ?_⟩))))
          refine w_nil ?_
          subst hLP
          refine ⟨_, _, st11, .mk y.nd y.ond _ _ ?_ ?_⟩
          · rw [htake]; exact H.dict_of hy
          · rw [hgo, htake, hdrop.2]
            conv => lhs; unfold isGo
            rw [hτ]
            simp [hf]
    · rintro vs' l' s' ⟨a1, o1, kx, ix, hd1, hgo⟩ st'
      have hlen := hw.length
      have hpos : 0 < way.length := by cases way with | nil => exact absurd rfl hway | cons _ _ => simp
      have hidx : us.dropLast.length = way.length - 1 := by rw [List.length_dropLast, hlen]
      rw [hidx] at hd1 hgo
      obtain ⟨v, hv⟩ : ∃ v, us[way.length - 1]? = some v := ⟨us[way.length - 1], List.getElem?_eq_getElem (by exact Nat.le_trans (qfs2 (List.length way) (1) (by exact hpos)) (qfg hlen))⟩
      obtain ⟨k, tk, rfl, hk⟩ := hw.get hv
      have hdrop : way.drop (way.length - 1) = [k] := by
        rw [List.drop_eq_getElem_cons (by exact (qfs2 (List.length way) (1) (by exact hpos)))]
        rw [List.drop_of_length_le (by exact (qfs1 (List.length way) (1)))]
        congr 1
        exact Option.some.inj ((List.getElem?_eq_getElem (by exact (qfs2 (List.length way) (1) (by exact hpos)))).symm.trans hk)
      rw [hdrop] at hgo
      generalize way.take (way.length - 1) = pre at hd1 hgo
      obtain ⟨kvs, hkv, hkids⟩ := H.kids _ _ _ hd1
      refine w_cons (w_assign 6 fn1 rfl (w_subE (w_name 1 fn1 st' rfl rfl (w_neg1 st' fun t2 s2 st2 => w_item_tup st2 (List.mem_append_right _ hq1) (by decide) (by decide) (seqIndex_last (by exact Nat.le_trans hpos (qfg hlen))) (hlen ▸ hv) ⟨_, _, st2, Nat.le_of_ble_eq_true rfl, fun s3 st3 => ?_⟩))))
      refine w_cons (w_if (w_testcmp (w_name 6 fn1 st3 rfl rfl (w_name 3 fn1 st3 rfl rfl (w_in_dict st3 (mc _ (dict_mem hd1)) hkv (H.low _ _ _ hd1) fun s4 st4 => w_tbool ?_)))))
      cases hl : valueAt kvs k with
      | none =>
        refine w_nil ?_
        refine w_cons (w_ret (w_bool ?_))
        subst hSR
        change SRet _ _ _ _ _ _ _ _ _ _ _
        have hn : F.look (pre ++ [k]) = none := by
          cases e : F.look (pre ++ [k]) with
          | none => rfl
          | some y => have := (hkids k _).mpr ⟨y, e, rfl⟩; rw [hl] at this; cases this
        refine SRet.intro st4.dropL fun st => ?_
        have := h _ st
        rw [hgo] at this
        unfold isGo at this
        rw [H.gone _ hn] at this
        exact this
      | some x =>
        obtain ⟨y, hy, rfl⟩ := (hkids k x).mp hl
        have hyn := H.node_at hy
        obtain ⟨X, Y, hτ, hX, hY⟩ := H.flags_at hy
        refine w_cons (w_assign 3 fn1 rfl (w_subE (w_name 3 fn1 st4 rfl rfl (w_name 6 fn1 st4 rfl rfl (w_tail_dict st4 (mc _ (dict_mem hd1)) hkv hl fun s5 st5 => ⟨_, _, st5, Nat.le_of_ble_eq_true rfl, fun s6 st6 => ?_⟩)))))
        refine w_cons (w_ret (w_or (w_cmp (w_name 2 fn1 st6 rfl rfl (w_subE (w_name 3 fn1 st6 rfl rfl (w_str st6 fun t7 s7 st7 => w_tail_dict st7 (mc _ (mem_cells hy (.head _))) hyn rfl fun s8 st8 =>
          w_in_set st8 (mc _ (mem_cells hy (.tail _ (.head _)))) hX.1 (by have := cnt_le X; unfold scanBound; exact Nat.lt_of_le_of_lt this (Nat.le_of_ble_eq_true rfl)) fun s9 st9 => w_tbool ?_)))))))
        cases hf : X flag with
        | true =>
          rw [if_pos rfl]
          subst hSR
          change SRet _ _ _ _ _ _ _ _ _ _ _
          refine SRet.intro st9.dropL fun st => ?_
          have := h _ st
          rw [hgo] at this
          unfold isGo at this
          rw [hτ] at this
          simp only [hf, Bool.true_or] at this
          exact this
        | false =>
          rw [if_neg Bool.false_ne_true]
          refine w_cmp (w_name 2 fn1 st9 rfl rfl (w_subE (w_name 3 fn1 st9 rfl rfl (w_str st9 fun t10 s10 st10 => w_tail_dict st10 (mc _ (mem_cells hy (.head _))) hyn rfl fun s11 st11 =>
            w_in_set st11 (mc _ (mem_cells hy (.tail _ (.tail _ (.head _))))) hY.1 (by have := cnt_le Y; unfold scanBound; exact Nat.lt_of_le_of_lt this (Nat.le_of_ble_eq_true rfl)) fun s12 st12 => ?_))))
          subst hSR
          change SRet _ _ _ _ _ _ _ _ _ _ _
          refine SRet.intro st12.dropL fun st => ?_
          have := h _ st
          rw [hgo] at this
          unfold isGo at this
          rw [hτ] at this
          simp only [hf, Bool.false_or] at this
          exact this
end
end Mine.Internal
end
section
set_option tactic.hygienic false
open PySem PySem.W PySem.Calls PyProof.Rows
set_option maxRecDepth 100000
namespace Mine.Internal
theorem dummyS : (PySem.Challenge.rw_aa0050_01 = PySem.Challenge.rw_aa0050_01 ∧ hkF = hkF) := by k_fill; exact ⟨rfl, rfl⟩

theorem nodup_lenF {α : Type} [DecidableEq α] : ∀ {l M : List α}, l.Nodup → (∀ x ∈ l, x ∈ M) → l.length ≤ M.length
  | [], _, _, _ => Nat.zero_le _
  | a :: l, M, hn, h => by
    rw [List.nodup_cons] at hn
    have ha := h a (.head _)
    have := nodup_lenF (l := l) (M := M.erase a) hn.2 fun x hx => (List.mem_erase_of_ne (fun e => hn.1 (by rw [← e]; exact hx))).mpr (h x (.tail _ hx))
    rw [List.length_erase_of_mem ha] at this
    have := List.length_pos_of_mem ha
    simp only [List.length_cons]
    lia
theorem isDict_nodup {prog : Program} {w : World} {o : Obj} {kvs : List (Str × Value)} (h : o.IsDictOf (strKind prog w) kvs) : (kvs.map (·.1)).Nodup := by obtain ⟨_, _, _, _, _, _, hn⟩ := h; exact hn
theorem valueAt_mem {kvs : List (Str × Value)} : ∀ p ∈ kvs, ∃ v, valueAt kvs p.1 = some v := by
  intro p hp
  unfold valueAt
  cases h : kvs.find? fun kv => decide (kv.1 = p.1) with
  | some q => exact ⟨q.2, rfl⟩
  | none => have := List.find?_eq_none.mp h p hp; simp at this
theorem FO.Is.len {prog : Program} {w : World} {M : List Str} {F : FO} {τ : AbsT} (H : F.Is prog w M τ) {v : Way} {o : Obj} {kvs : List (Str × Value)} (hM : M.length ≤ 100) (h : o.IsDictOf (strKind prog w) kvs)
    (hk : ∀ k x, valueAt kvs k = some x ↔ ∃ y, F.look (v ++ [k]) = some y ∧ x = .ref y.n) : kvs.length ≤ sizeLine := by
  have := nodup_lenF (M := M) (isDict_nodup h) fun z hz => by
    obtain ⟨p, hp, rfl⟩ := List.mem_map.mp hz
    obtain ⟨x, hx⟩ := valueAt_mem p hp
    obtain ⟨y, hy, _⟩ := (hk _ _).mp hx
    exact H.menu _ (FO.look_mem hy) p.1 (by simp)
  rw [List.length_map] at this
  rw [sizeLine_eq]
  exact qfl fun x => qfa3 x this hM (by simp +arith only)

inductive SJ (prog : Program) (w : World) (M : List Str) (F : FO) (τ : AbsT) (z rest : Lg) (q a : Addr) (flag : Int) (t tks : Tok) (rec : Bool) (ks : Str) (way : Way) (i : Nat) : List (Option Value) → Lg → Prop
  | mk (F' : FO) (a' : Addr) (o : Obj) (kx : Option Value) : F'.Is prog w M (road τ [] (way.take i)) → F.Same F' → F'.dictAt (way.take i) = some (a', o) →
      SJ prog w M F τ z rest q a flag t tks rec ks way i [some (.ref F.f), some (.ref q), some (.int flag t), some (.bool rec), some (.ref a'), some (.ref a), some (.str ks tks), kx] (z ++ (F'.cells ++ rest))
noncomputable def GrS (prog : Program) (w : World) (M : List Str) (env : Env) (ns : List Str) (h₀ : Heap) (s₀ : Shared) (vs : List (Option Value)) (pre rest : Lg) (F : FO) (a' : Addr) (v : Way) (k : Str) (T : AbsT) (f : Flow) (s3 : Shared) : Prop :=
  f = .next ∧ ∃ F'' : FO, F''.Is prog w M T ∧ F.Same F'' ∧ (F''.dictAt v).map (·.1) = some a' ∧ (∃ y, F''.look (v ++ [k]) = some y) ∧ S env ns h₀ vs (pre ++ (F''.cells ++ rest)) s₀ s3
theorem grown {prog : Program} {w : World} {M : List Str} {F'' : FO} {T : AbsT} {a' : Addr} {v : Way} {k : Str} (H'' : F''.Is prog w M T) (hda : (F''.dictAt v).map (·.1) = some a') (hy : ∃ y, F''.look (v ++ [k]) = some y) :
    ∃ kvs o y, F''.dictAt v = some (a', o) ∧ o.IsDictOf (strKind prog w) kvs ∧ F''.look (v ++ [k]) = some y ∧ valueAt kvs k = some (.ref y.n) := by
  obtain ⟨y, hy⟩ := hy
  obtain ⟨⟨a2, o2⟩, hd2, e2⟩ := Option.map_eq_some_iff.mp hda
  cases e2
  obtain ⟨kvs2, hkv2, hk2⟩ := H''.kids _ _ _ hd2
  exact ⟨kvs2, o2, y, hd2, hkv2, hy, (hk2 _ _).mpr ⟨y, hy, rfl⟩⟩
theorem sj_take {way : Way} {i : Nat} {k : Str} (hk : way.dropLast[i]? = some k) : way.take (i + 1) = way.take i ++ [k] := by
  have hki : way[i]? = some k := by
    rw [List.getElem?_dropLast] at hk
    split at hk
    · exact hk
    · cases hk
  rw [List.take_add_one, hki]; rfl
theorem sj_last {way : Way} {us : List Value} {ks : Str} (hlen : us.length = way.length) (hpos : 0 < way.length) (hks : way[way.length - 1]? = some ks) : way = way.take (way.length - 1) ++ [ks] := by
  have := List.take_append_drop (way.length - 1) way
  rw [List.drop_eq_getElem_cons (by exact (qfs2 (List.length way) (1) (by exact hpos))), List.drop_of_length_le (by exact (qfs1 (List.length way) (1)))] at this
  conv => lhs; rw [← this]
  congr 2
  exact Option.some.inj ((List.getElem?_eq_getElem (by exact (qfs2 (List.length way) (1) (by exact hpos)))).symm.trans hks)
theorem sj_road {τ : AbsT} {way pre : Way} {ks : Str} (hwl : way = pre ++ [ks]) : road τ [] way = ensure (road τ [] pre) way := by
  conv => lhs; rw [hwl]
  rw [road_snoc]
  simp only [List.nil_append]
  rw [← hwl]
section
variable {prog : Program} {w : World} {A : Around} {E : Value → Shared → Prop} {env : Env} {ns : List Str} {h₀ : Heap} {vs : List (Option Value)} {l : Lg} {s₀ s : Shared}
  {K : Frag} {p : Program} {loose : List Str} {mean : ExcName → Option Value} {mg mb : Str → Option Value} {d u : Nat}

theorem w_grow {M : List Str} {F : FO} {τ : AbsT} {pre rest : Lg} {x y : Str} {i j : Nat} {a : Addr} {o : Obj} {k : Str} {t : Tok} {v : Way} {Q : Flow → Shared → Prop}
    {p1 p2 p3 p4 p5 p6 p7 p8 p9 q1 q2 q3 q4 : Pos} {c1 c2 c3 : Nat}
    (fn : Fn env ns) (cx : Cx K p loose mean mg mb d u A env h₀) (st : S env ns h₀ vs (pre ++ (F.cells ++ rest)) s₀ s) (H : F.Is prog w M τ)
    (e : nsIn K mainGlobals "set" = some none) (hx : env.kindOf "set" = some .globalImplicit)
    (hi : ns[i]? = some x) (hvi : vs[i]? = some (some (.ref a))) (hj : ns[j]? = some y) (hvj : vs[j]? = some (some (.str k t)))
    (hd : F.dictAt v = some (a, o)) (hn : F.look (v ++ [k]) = none) (hm : ∀ z ∈ v ++ [k], z ∈ M) (hM : M.length ≤ 100)
    (h : ∀ F' s', F'.Is prog w M (ensure τ (v ++ [k])) → F.Same F' → (∃ z, F'.look (v ++ [k]) = some z) → (F'.dictAt v).map (·.1) = some a → S env ns h₀ vs (pre ++ (F'.cells ++ rest)) s₀ s' → Q .next s')
    (hs : swapsWith (.Dict [some (.Constant (.str "flags") c1 p1), some (.Constant (.str "recursive_flags") c2 p2), some (.Constant (.str "nested") c3 p3)] [.Call (.Name "set" p4) [] [] p5, .Call (.Name "set" p6) [] [] p7, .Dict [] [] p8] p9) (some (.Subscript (.Name x q1) (.Name y q2) q3)) q4.line env = pure false) :
    W (model prog w) A (exec (.Assign [.Subscript (.Name x q1) (.Name y q2) q3] (.Dict [some (.Constant (.str "flags") c1 p1), some (.Constant (.str "recursive_flags") c2 p2), some (.Constant (.str "nested") c3 p3)] [.Call (.Name "set" p4) [] [] p5, .Call (.Name "set" p6) [] [] p7, .Dict [] [] p8] p9) q4) env) Q E s := by
  obtain ⟨kvs, hkv, hkids⟩ := H.kids _ _ _ hd
  refine w_assignSub (w_dict3 st cx (by decide) fun b s1 hb st1 => w_set_call fn cx st1 e hx fun b1 led1 s2 st2 => ⟨_, st2, fun s2' st2' => w_set_call fn cx st2' e hx fun b2 led2 s3 st3 => ⟨_, st3, fun s3' st3' => w_newdict st3' cx fun b3 s4 hb3 st4 =>
    ⟨_, _, st4, fun o' => .tail (.tail (.tail .head)), fun o' s5 ho' st5 => ?_⟩⟩⟩) hs
  refine w_name i fn st5 hi hvi (w_name j fn st5 hj hvj (w_setitem st5 (fun o'' => .tail (.tail (.tail (.tail (.app (.left (FO.setDict_upd H.keys hd))))))) hkv (H.len hM hkv hkids) fun o'' s6 ho'' st6 => ?_))
  let x : Nd := ⟨b, b1, b2, b3, o', freshSet led1, freshSet led2, emptyD⟩
  refine h ((F.setDict v o'').add (v ++ [k]) x) s6 (Is_grow H hd hn hm hkids ho'' ho' (IS_nil prog w _) (IS_nil prog w _) isDict_nil hb hb3) ((FO.Same.setDict F v o'').trans (FO.Same.add _ _ _)) ⟨x, by rw [FO.look_add, if_pos rfl]⟩ ?_ (st6.perm ?_)
  · unfold FO.dictAt at hd ⊢
    by_cases hv : v = []
    · rw [if_pos hv] at hd ⊢
      rw [(FO.Same.add _ _ _).root, (FO.Same.setDict F v o'').root]
      cases hd; rfl
    · rw [if_neg hv] at hd ⊢
      rw [FO.look_add, if_neg (fun q => by have := congrArg List.length q; simp at this), FO.look_setDict, if_pos ⟨rfl, hv⟩]
      obtain ⟨z, hz, e'⟩ := Option.map_eq_some_iff.mp hd
      rw [hz]
      cases e'; rfl
  · show List.Perm ([(b3, emptyD), (b2, freshSet led2), (b1, freshSet led1), (b, o')] ++ (pre ++ ((F.setDict v o'').cells ++ rest))) _
    have e1 : List.Perm [(b3, emptyD), (b2, freshSet led2), (b1, freshSet led1), (b, o')] x.cells := (List.reverse_perm x.cells)
    refine (e1.append_right _).trans ?_
    refine (List.perm_append_comm_assoc _ _ _).trans (List.Perm.append_left _ ?_)
    rw [← List.append_assoc]
    exact (FO.add_cells _ _ _).append_right _

set_option maxHeartbeats 4000000 in
theorem set_spec {M : List Str} {F : FO} {τ : AbsT} {rest : Lg} {q : Addr} {us : List Value} {way : Way} {flag : Int} {t : Tok} {rec : Bool} {R : Result → Shared → Prop}
    (fn : Fn env ns) (cx : Cx (hkF w.params) p loose mean mg mb (d + 1) (u + 3) A env h₀) (st : S env ns h₀ vs (F.cells ++ rest) s₀ s)
    (H : F.Is prog w M τ) (hq : (q, tupO us) ∈ rest) (hw : WayV us way) (hz : us.length ≤ sizeLine) (hne : way ≠ []) (hm : ∀ z ∈ way, z ∈ M) (hM : M.length ≤ 100) (hf : flag = 0 ∨ flag = 1)
    (h : ∀ F' s', F'.Is prog w M (setT τ way flag rec) → F.Same F' → S env ns h₀ vs (F'.cells ++ rest) s₀ s' → R (.ok (.ret .none)) s') :
    codeAny (model prog w) A (.call (.ref 56) ⟨[.ref F.f, .ref q, .int flag t], [("recursive", .bool rec)]⟩) R s := by
  refine S_call (d := d) (u := u) (ns' := ["self", "key", "flag", "recursive", "cont", "key_parent", "key_stem", "k"]) (vs' := [some (.ref F.f), some (.ref q), some (.int flag t), some (.bool rec), none, none, none, none])
    [("self", .ref F.f), ("key", .ref q), ("flag", .int flag t), ("recursive", .bool rec)] ["cont", "key_parent", "key_stem", "k"] fn cx st (by k_is) (by k_is) (BindsTo.of_eq rfl) rfl rfl (fn_of (by rfl) (by decide) rfl) (by decide) ?_
  intro env1 g A1 s1 E' he fn1 cx1 st1
  generalize hSR : SRet _ _ _ _ _ _ _ _ _ = RR0; revert RR0; refine hold ?_; intro RR0 hSR
  have hset : env1.kindOf "set" = some .globalImplicit := by obtain ⟨L', e⟩ := he; rw [e]; rfl
  have hint : interactive env1 = false := by obtain ⟨L', e⟩ := he; rw [e]; rfl
  have hlen := hw.length
  have hpos : 0 < way.length := by cases way with | nil => exact absurd rfl hne | cons _ _ => simp
  obtain ⟨v, hv⟩ : ∃ v, us[way.length - 1]? = some v := ⟨us[way.length - 1], List.getElem?_eq_getElem (by exact Nat.le_trans (qfs2 (List.length way) (1) (by exact hpos)) (qfg hlen))⟩
  obtain ⟨ks, tks, rfl, hks⟩ := hw.get hv
  have hq1 : (q, tupO us) ∈ F.cells ++ rest := List.mem_append_right _ hq
  refine w_cons (w_assign 4 fn1 rfl (w_attr (w_name 0 fn1 st1 rfl rfl (w_flags cx1 st1 H (fun c hc => List.mem_append_left _ hc) fun s3 st3 => ⟨_, _, st3, Nat.le_of_ble_eq_true rfl, fun s4 st4 => ?_⟩))))
  refine w_cons (w_swapped ["key_parent", "key_stem"] ?_ (by obtain ⟨L', rfl⟩ := he; rfl) (by obtain ⟨L', rfl⟩ := he; rfl))
  refine w_tupleE (w_args (w_subslice (w_name 1 fn1 st4 rfl rfl (wpart_0 (wpart_e (w_neg1 st4 fun t5 s5 st5 => ?_))))))
  refine w_slice_tup st5 hq1 .none (.int _ _) hz fun z a s6 st6 ha => ?_
  refine w_args (w_subE (w_name 1 fn1 st6 rfl rfl (w_neg1 st6 fun t7 s7 st7 => w_item_tup st7 (List.mem_append_right _ hq1) (by decide) (by decide) (seqIndex_last (by exact Nat.le_trans hpos (qfg hlen))) (hlen ▸ hv) ?_)))
  refine w_args0 (w_tuple st7 (fun b s8 st8 => ?_))
  refine w_unpackItems cx1.hand st8 (.head _) rfl fun s9 st9 => ?_
  refine w_inorder (w_bind (w_store 6 fn1 st9.drop rfl (Nat.le_of_ble_eq_true rfl) fun s10 st10 => ?_))
  refine w_inorder (w_bind (w_store 5 fn1 st10 rfl (Nat.le_of_ble_eq_true rfl) fun s11 st11 => ?_))
  refine w_inorder0 ?_
  refine w_cons (w_for (w_name 5 fn1 st11 rfl rfl ?_))
  have mz : ∀ F' : FO, (a, tupO us.dropLast) ∈ z ++ (F'.cells ++ rest) := by
    intro F'
    have := ha (F'.cells ++ rest) (List.mem_append_right _ hq)
    rw [sl_init] at this
    exact this
  refine w_for_tuple cx1.hand st11 (mz F) (SJ prog w M F τ z rest q a flag t tks rec ks way)
    (.mk F F.root F.oroot none H (.refl F) rfl) (fun i vs' l' hJ => by obtain ⟨F'⟩ := hJ; exact mz F') ?_ ?_
  · intro i v vs' l' I oI s' E2 hv hJ st'
    generalize hLP : LPost _ _ _ _ _ _ _ _ = QQ; revert QQ; refine hold ?_; intro QQ hLP
    obtain ⟨F', a', o, kx, H', sm, hd⟩ := hJ
    obtain ⟨k, tk, rfl, hk⟩ := hw.dropLast.get hv
    have htake := sj_take hk
    have hroad : road τ [] (way.take (i + 1)) = ensure (road τ [] (way.take i)) (way.take i ++ [k]) := by rw [htake, road_snoc]; rfl
    have hmk : ∀ y ∈ way.take i ++ [k], y ∈ M := fun y hy => hm y (List.mem_of_mem_take (by rw [← htake] at hy; exact hy))
    have mI : ∀ F'' : FO, ∀ c ∈ F''.cells, c ∈ (I, oI) :: (z ++ (F''.cells ++ rest)) := fun x0 c hc => .tail _ (List.mem_append_right _ (List.mem_append_left _ hc))
    obtain ⟨kvs, hkv, hkids⟩ := H'.kids _ _ _ hd
    refine w_aname (w_store 7 fn1 st' rfl (Nat.le_of_ble_eq_true rfl) fun s2 st2 => ?_)
    refine w_cons (W.mono (Q := GrS prog w M env1 ["self", "key", "flag", "recursive", "cont", "key_parent", "key_stem", "k"] g s₀ [some (.ref F.f), some (.ref q), some (.int flag t), some (.bool rec), some (.ref a'), some (.ref a), some (.str ks tks), some (.str k tk)] ((I, oI) :: z) rest F a' (way.take i) k (road τ [] (way.take (i + 1))))
      (w_if (w_testcmp (w_name 7 fn1 st2 rfl rfl (w_name 4 fn1 st2 rfl rfl (w_notin_dict st2 (mI F' _ (dict_mem hd)) hkv (H'.low _ _ _ hd) fun s3 st3 => w_tbool ?_))))) ?_)
    · cases hl : valueAt kvs k with
      | none =>
        have hn : F'.look (way.take i ++ [k]) = none := by
          cases e : F'.look (way.take i ++ [k]) with
          | none => rfl
          | some y => have := (hkids k _).mpr ⟨y, e, rfl⟩; rw [hl] at this; cases this
        refine w_cons (w_grow (pre := (I, oI) :: z) (i := 4) (j := 7) fn1 cx1 st3 H' (by k_is) hset rfl rfl rfl rfl hd hn hmk hM (fun F'' s4 H'' sm'' hy hda st4 => w_nil ⟨rfl, F'', hroad ▸ H'', sm.trans sm'', hda, hy, st4⟩) rfl)
      | some x =>
        obtain ⟨y, hy, rfl⟩ := (hkids k x).mp hl
        obtain ⟨X, Y, hτ, _, _⟩ := H'.flags_at hy
        exact w_nil ⟨rfl, F', by rw [hroad, ensure_there hτ]; exact H', sm, by rw [hd]; rfl, ⟨y, hy⟩, st3⟩
    · rintro f s3 ⟨rfl, F'', H'', sm'', hda, hy, st3⟩
      obtain ⟨kvs2, o2, y, hd2, hkv2, hy2, hl2⟩ := grown H'' hda hy
      have hyn := H''.node_at hy2
      refine w_cons (w_assign 4 fn1 rfl (w_subE (w_subE (w_name 4 fn1 st3 rfl rfl (w_name 7 fn1 st3 rfl rfl (w_tail_dict st3 (mI F'' _ (dict_mem hd2)) hkv2 hl2 fun s4 st4 =>
        w_str st4 fun t5 s5 st5 => w_tail_dict st5 (mI F'' _ (mem_cells hy2 (.head _))) hyn rfl fun s6 st6 => ⟨_, _, st6, Nat.le_of_ble_eq_true rfl, fun s7 st7 => ?_⟩))))))
      subst hLP
      refine w_nil ⟨_, _, st7, .mk F'' y.nd y.ond _ H'' sm'' ?_⟩
      rw [htake]; exact H''.dict_of hy2
  · rintro vs' l' s' ⟨F', a', o, kx, H', sm, hd⟩ st'
    have hidx : us.dropLast.length = way.length - 1 := by rw [List.length_dropLast, hlen]
    rw [hidx] at hd H'
    have hwl := sj_last hlen (by exact hpos) hks
    have hroad := sj_road (τ := τ) hwl
    have hm' : ∀ y ∈ way.take (way.length - 1) ++ [ks], y ∈ M := fun y hy => hm y (by rw [hwl]; exact hy)
    generalize hpre : way.take (way.length - 1) = pre at *
    have mc : ∀ F'' : FO, ∀ c ∈ F''.cells, c ∈ z ++ (F''.cells ++ rest) := fun x0 c hc => List.mem_append_right _ (List.mem_append_left _ hc)
    obtain ⟨kvs, hkv, hkids⟩ := H'.kids _ _ _ hd
    refine w_cons (W.mono (Q := GrS prog w M env1 ["self", "key", "flag", "recursive", "cont", "key_parent", "key_stem", "k"] g s₀ [some (.ref F.f), some (.ref q), some (.int flag t), some (.bool rec), some (.ref a'), some (.ref a), some (.str ks tks), kx] z rest F a' pre ks (road τ [] way))
      (w_if (w_testcmp (w_name 6 fn1 st' rfl rfl (w_name 4 fn1 st' rfl rfl (w_notin_dict st' (mc F' _ (dict_mem hd)) hkv (H'.low _ _ _ hd) fun s3 st3 => w_tbool ?_))))) ?_)
    · cases hl : valueAt kvs ks with
      | none =>
        have hn : F'.look (pre ++ [ks]) = none := by
          cases e : F'.look (pre ++ [ks]) with
          | none => rfl
          | some y => have := (hkids ks _).mpr ⟨y, e, rfl⟩; rw [hl] at this; cases this
        refine w_cons (w_grow (pre := z) (i := 4) (j := 6) fn1 cx1 st3 H' (by k_is) hset rfl rfl rfl rfl hd hn hm' hM (fun F'' s4 H'' sm'' hy hda st4 => w_nil ⟨rfl, F'', by rw [hroad, hwl]; exact H'', sm.trans sm'', hda, hy, st4⟩) rfl)
      | some x =>
        obtain ⟨y, hy, rfl⟩ := (hkids ks x).mp hl
        obtain ⟨X, Y, hτ, _, _⟩ := H'.flags_at hy
        exact w_nil ⟨rfl, F', by rw [hroad, hwl, ensure_there hτ]; exact H', sm, by rw [hd]; rfl, ⟨y, hy⟩, st3⟩
    · rintro f s3 ⟨rfl, F'', H'', sm'', hda, hy, st3⟩
      obtain ⟨kvs2, o2, y, hd2, hkv2, hy, hl2⟩ := grown H'' hda hy
      have hyn := H''.node_at hy
      obtain ⟨X, Y, hτ, hX, hY⟩ := H''.flags_at hy
      rw [← hwl] at hy hτ
      refine w_cons (w_exprS hint (w_meth (w_subE (w_subE (w_name 4 fn1 st3 rfl rfl (w_name 6 fn1 st3 rfl rfl (w_tail_dict st3 (mc F'' _ (dict_mem hd2)) hkv2 hl2 fun s4 st4 => w_ifexp (w_plain (w_name 3 fn1 st4 rfl rfl (w_tbool ?_))))))))))
      cases rec with
      | true =>
        refine w_str st4 fun t5 s5 st5 => ?_
        refine w_tail_dict st5 (mc F'' _ (mem_cells hy (.head _))) hyn rfl fun s6 st6 => ?_
        have hb : cnt Y + 1 < scanBound := by have := cnt_le Y; unfold scanBound; exact qft fun x => qfa2 x this (by simp +arith only)
        refine w_add_meth st6 (mc F'' _ (mem_cells hy (.tail _ (.tail _ (.head _))))) hY.1 (Nat.lt_of_succ_lt hb) ?_
        refine w_cwBuiltin ?_
        refine w_args (w_name 2 fn1 st6 rfl rfl ?_)
        refine w_args0 ?_
        refine w_add_int (l' := fun o' => z ++ ((F''.mod way fun y => { y with orc := o' }).cells ++ rest)) st6 (fun o' => .app (.left (FO.mod_upd H''.keys hy (.tail (.tail .head))))) hY.1 hb fun o' s7 ho' st7 => ?_
        refine w_nil ?_
        subst hSR
        change SRet _ _ _ _ _ _ _ _ _ _ _
        refine SRet.intro st7.dropL fun st => h _ _ ?_ (sm''.trans (FO.Same.mod _ _ _)) st
        have := Is_marks H'' hy (g := fun y => { y with orc := o' }) (fun y => ⟨rfl, rfl, rfl, rfl, rfl, rfl⟩) hX (IS_add hf hY.2 ho')
        have e : (fun u => if u = way then some (X, addF Y flag) else road τ [] way u) = setT τ way flag true := by
          funext u
          unfold setT setM
          rw [hτ]; rfl
        rw [e] at this
        exact this
      | false =>
        refine w_str st4 fun t5 s5 st5 => ?_
        refine w_tail_dict st5 (mc F'' _ (mem_cells hy (.head _))) hyn rfl fun s6 st6 => ?_
        have hb : cnt X + 1 < scanBound := by have := cnt_le X; unfold scanBound; exact qft fun x => qfa2 x this (by simp +arith only)
        refine w_add_meth st6 (mc F'' _ (mem_cells hy (.tail _ (.head _)))) hX.1 (Nat.lt_of_succ_lt hb) ?_
        refine w_cwBuiltin ?_
        refine w_args (w_name 2 fn1 st6 rfl rfl ?_)
        refine w_args0 ?_
        refine w_add_int (l' := fun o' => z ++ ((F''.mod way fun y => { y with ofl := o' }).cells ++ rest)) st6 (fun o' => .app (.left (FO.mod_upd H''.keys hy (.tail .head)))) hX.1 hb fun o' s7 ho' st7 => ?_
        refine w_nil ?_
        subst hSR
        change SRet _ _ _ _ _ _ _ _ _ _ _
        refine SRet.intro st7.dropL fun st => h _ _ ?_ (sm''.trans (FO.Same.mod _ _ _)) st
        have := Is_marks H'' hy (g := fun y => { y with ofl := o' }) (fun y => ⟨rfl, rfl, rfl, rfl, rfl, rfl⟩) (IS_add hf hX.2 ho') hY
        have e : (fun u => if u = way then some (addF X flag, Y) else road τ [] way u) = setT τ way flag false := by
          funext u
          unfold setT setM
          rw [hτ]; rfl
        rw [e] at this
        exact this
end
end Mine.Internal
end
section
set_option tactic.hygienic false
open PySem PySem.W PySem.Calls PyProof.Rows PySem.Spec
set_option maxRecDepth 100000
namespace Mine.Internal
section
variable {prog : Program} {w : World} {A : Around} {E : Value → Shared → Prop} {s : Shared}

theorem wayV_byValue {us : List Value} {way : Way} (hw : WayV us way) : ∀ v ∈ us, ∃ k tk, v = .str k tk := by
  intro v hv
  have : strOf v ∈ us.map strOf := List.mem_map.mpr ⟨v, hv, rfl⟩
  unfold WayV at hw
  rw [hw] at this
  obtain ⟨k, _, e⟩ := List.mem_map.mp this
  exact ⟨k, strOf_some e.symm⟩

theorem eqIsQuiet_tup {n : Nat} {a : Addr} {xs : List Value} {Q : Bool → Shared → Prop} (ha : s.heap.get? a = some (tupO xs)) (hx : ∀ v ∈ xs, ∀ R : Bool → Shared → Prop, R true s → wpAny (model prog w) A (eqIsQuiet n v) R E s) (h : Q true s) : wpAny (model prog w) A (eqIsQuiet (n + 1) (.ref a)) Q E s := by
  have hT : s.TypeIs (.ref a) "tuple" := ⟨_, ha, rfl⟩
  unfold eqIsQuiet
  refine wpAny_bind (wpAny_specialOf hT F.slot_tuple_eq.lookup ?_)
  show wpAny _ _ (isInstance (.ref a) (.type "tuple") >>= _) _ _ s
  refine wpAny_bind (wpAny_isInstance hT isSubtype_tuple_tuple ?_)
  simp -iota only [Bool.not_true, Bool.false_eq_true, if_false]
  refine wpAny_bind (wpAny_seqItems ha rfl ?_)
  refine wpAny_bind ?_
  show wpAny _ _ (forIn xs.toArray _ _) _ _ s
  rw [← Array.forIn_toList]
  refine wpAny_forIn_list _ (fun rest r s' => r.1 = none ∧ s' = s ∧ ∀ v ∈ rest, v ∈ xs) _ ?_ ?_ _ _ ⟨rfl, rfl, fun v hv => by simpa using hv⟩
  · rintro v rest r s' ⟨hr, rfl, hall⟩
    refine wpAny_bind (hx v (hall v (.head _)) _ ?_)
    simp -iota only [Bool.not_true, Bool.false_eq_true, if_false]
    exact wpAny_pure ⟨rfl, rfl, fun u hu' => hall u (List.mem_cons_of_mem _ hu')⟩
  · rintro ⟨r1, r2⟩ s' ⟨hr, rfl, _⟩
    simp -iota only at hr
    subst hr
    exact wpAny_pure h
theorem quiet_pair {x : Value} {p : Way × Int} {Q : Bool → Shared → Prop} (hx : PairAt s.heap x p) (h : Q true s) : wpAny (model prog w) A (eqIsQuiet 8 x) Q E s := by
  obtain ⟨a, q, us, tk, rfl, ha, hq, hw, _, _⟩ := hx
  refine eqIsQuiet_tup ha (fun v hv R r => ?_) h
  rcases List.mem_cons.mp hv with rfl | hv
  · refine eqIsQuiet_tup hq (fun v hv R r => ?_) r
    obtain ⟨k, tk, rfl⟩ := wayV_byValue hw v hv
    rw [eqIsQuiet_byValue _ rfl]
    exact wpAny_pure r
  · rw [List.mem_singleton] at hv; subst hv
    rw [eqIsQuiet_byValue _ rfl]
    exact wpAny_pure r

set_option smartUnfolding false in
theorem ofAClass_tup {n : Nat} {a : Addr} {xs : List Value} {Q : Bool → Shared → Prop} (ha : s.heap.get? a = some (tupO xs)) (hx : ∀ v ∈ xs, ∀ R : Bool → Shared → Prop, R false s → wpAny (model prog w) A (ofAClassStatement n v) R E s) (h : Q false s) : wpAny (model prog w) A (ofAClassStatement (n + 1) (.ref a)) Q E s := by
  have hT : s.TypeIs (.ref a) "tuple" := ⟨_, ha, rfl⟩
  delta ofAClassStatement
  refine wpAny_bind (wpAny_typeOf hT ?_)
  refine wpAny_bind (wpAny_pure ?_)
  simp -iota only [Bool.not_true, Bool.false_eq_true, if_false]
  refine wpAny_bind (wpAny_seqItems ha rfl ?_)
  refine wpAny_bind ?_
  show wpAny _ _ (forIn xs.toArray _ _) _ _ s
  rw [← Array.forIn_toList]
  refine wpAny_forIn_list _ (fun rest r s' => r.1 = none ∧ s' = s ∧ ∀ v ∈ rest, v ∈ xs) _ ?_ ?_ _ _ ⟨rfl, rfl, fun v hv => by simpa using hv⟩
  · rintro v rest r s' ⟨hr, rfl, hall⟩
    refine wpAny_bind (hx v (hall v (.head _)) _ ?_)
    simp -iota only [Bool.not_true, Bool.false_eq_true, if_false]
    exact wpAny_pure ⟨rfl, rfl, fun u hu' => hall u (List.mem_cons_of_mem _ hu')⟩
  · rintro ⟨r1, r2⟩ s' ⟨hr, rfl, _⟩
    simp -iota only at hr
    subst hr
    exact wpAny_pure h
theorem ofAClass_pair {x : Value} {p : Way × Int} {Q : Bool → Shared → Prop} (hx : PairAt s.heap x p) (h : Q false s) : wpAny (model prog w) A (ofAClassStatement 8 x) Q E s := by
  obtain ⟨a, q, us, tk, rfl, ha, hq, hw, _, _⟩ := hx
  refine ofAClass_tup ha (fun v hv R r => ?_) h
  rcases List.mem_cons.mp hv with rfl | hv
  · refine ofAClass_tup hq (fun v hv R r => ?_) r
    obtain ⟨k, tk, rfl⟩ := wayV_byValue hw v hv
    exact wpAny_pure r
  · rw [List.mem_singleton] at hv; subst hv
    exact wpAny_pure r

theorem hashByValue_tup {n : Nat} {a : Addr} {v : Value} {xs : List Value} {Q : Bool → Shared → Prop} (ha : s.heap.get? a = some (tupO (v :: xs))) (hv : ∀ R : Bool → Shared → Prop, R false s → wpAny (model prog w) A (hashByValue n v) R E s) (h : Q false s) : wpAny (model prog w) A (hashByValue (n + 1) (.ref a)) Q E s := by
  have hT : s.TypeIs (.ref a) "tuple" := ⟨_, ha, rfl⟩
  unfold hashByValue
  refine wpAny_bind (wpAny_specialOf hT F.slot_tuple_hash.lookup ?_)
  refine wpAny_bind (wpAny_seqItems ha rfl ?_)
  refine wpAny_bind ?_
  show wpAny _ _ (forIn (v :: xs).toArray _ _) _ _ s
  rw [← Array.forIn_toList]
  show wpAny _ _ (forIn (v :: xs) _ _) _ _ s
  rw [List.forIn_cons]
  refine wpAny_bind (wpAny_bind (hv _ ?_))
  simp -iota only [Bool.not_false, if_true]
  refine wpAny_pure (wpAny_pure ?_)
  exact wpAny_pure h
theorem hashByValue_pair {x : Value} {p : Way × Int} {Q : Bool → Shared → Prop} (hx : PairAt s.heap x p) (h : Q false s) : wpAny (model prog w) A (hashByValue 8 x) Q E s := by
  obtain ⟨a, q, us, tk, rfl, ha, hq, hw, _, hne⟩ := hx
  refine hashByValue_tup ha (fun R r => ?_) h
  cases us with
  | nil => unfold WayV at hw; simp at hw; exact absurd hw hne
  | cons v us =>
    refine hashByValue_tup hq (fun R r => ?_) r
    obtain ⟨k, tk, rfl⟩ := wayV_byValue hw v (.head _)
    exact wpAny_pure r

set_option tactic.hygienic true in
theorem unseen_pairs {x : Value} {p : Way × Int} {ys : List Value} {Q : Bool → Shared → Prop} (hx : PairAt s.heap x p) (hy : ∀ y ∈ ys, ∃ p', PairAt s.heap y p') (h : Q false s) : wpAny (model prog w) A (searchCouldBeSeen x ys) Q E s := by
  refine wpAny_bind ?_
  refine wpAny_forIn_list _ (fun rest r s' => r.1 = none ∧ s' = s ∧ ∀ v ∈ rest, v ∈ ys) _ ?_ ?_ _ _ ⟨rfl, rfl, fun v hv => hv⟩
  · rintro v rest r s' ⟨hr, rfl, hall⟩
    obtain ⟨p', hp⟩ := hy v (hall v (.head _))
    have hk : ∀ u ∈ rest, u ∈ ys := fun u hu' => hall u (List.mem_cons_of_mem _ hu')
    obtain ⟨a, _, _, _, e, _⟩ := id hx
    obtain ⟨b, _, _, _, e', _⟩ := id hp
    subst e e'
    dsimp only
    by_cases hab : (a == b || carriedByValue (.ref a) && carriedByValue (.ref b)) = true
    · rw [if_pos hab]
      exact wpAny_pure ⟨rfl, rfl, hk⟩
    · rw [if_neg hab]
      refine wpAny_bind (quiet_pair hx ?_)
      rw [if_neg (by decide)]
      refine wpAny_bind (quiet_pair hp ?_)
      rw [if_neg (by decide)]
      refine wpAny_bind (ofAClass_pair hx ?_)
      rw [if_neg (by decide)]
      refine wpAny_bind (ofAClass_pair hp ?_)
      rw [if_neg (by decide)]
      exact wpAny_pure ⟨rfl, rfl, hk⟩
  · rintro ⟨r1, r2⟩ s' ⟨hr, rfl, _⟩
    simp -iota only at hr
    subst hr
    exact wpAny_pure h
end

theorem probe_go {t : SetTable} {es : Array (Int × Value)} (T : TI t es) (hashAt : Nat → Int) (h : Int) {N : Nat} (hN : (seqP t h N).j ∉ t.place.toList) (hb : ∀ m, m < N → (seqP t h m).j ∈ t.place.toList) : ∀ (fuel n : Nat), n ≤ N → N - n < fuel →
    (SetTable.probe.go t hashAt h fuel (seqP t h n) = some (.empty (seqP t h N).j none) ∧ ∀ m i, n ≤ m → m < N → t.place[i]? = some (seqP t h m).j → hashAt i ≠ h) ∨
    ∃ m i, n ≤ m ∧ m < N ∧ t.place[i]? = some (seqP t h m).j ∧ hashAt i = h ∧ SetTable.probe.go t hashAt h fuel (seqP t h n) = some (.candidate (seqP t h m).j i (seqP t h (m + 1))) ∧ ∀ m' i', n ≤ m' → m' < m → t.place[i']? = some (seqP t h m').j → hashAt i' ≠ h
  | 0, n, _, hf => absurd hf (Nat.not_lt_zero _)
  | fuel + 1, n, hn, hf => by
    unfold SetTable.probe.go
    rcases Nat.lt_or_ge n N with hlt | hge
    · obtain ⟨i, hi⟩ := Array.getElem?_of_mem (by simpa using hb n hlt : (seqP t h n).j ∈ t.place)
      rw [slot_live T.sorted hi]
      dsimp only
      by_cases hh : hashAt i = h
      · rw [if_pos (by rw [hh]; simp)]
        exact .inr ⟨n, i, Nat.le_refl _, hlt, hi, hh, rfl, fun m' i' h1 h2 => absurd h1 (by exact fun x => qfa2 x h2 (by simp +arith only))⟩
      · rw [if_neg (by simpa using hh)]
        have uniq : ∀ i', t.place[i']? = some (seqP t h n).j → hashAt i' ≠ h := fun i' hi' => by
          have : i' = i := by
            have a1 := below_at T.sorted hi'
            have a2 := below_at T.sorted hi
            rw [← a1, ← a2]
          rw [this]; exact hh
        rcases probe_go T hashAt h hN hb fuel (n + 1) hlt (by exact qft fun x => qfa4 x (qfs2 (N) (n + 1) (by exact hlt)) (qfs1 (N) (n)) hf (by simp +arith only)) with ⟨e, g⟩ | ⟨m, i2, h1, h2, h3, h4, h5, h6⟩
        · refine .inl ⟨e, fun m i' g1 g2 g3 => ?_⟩
          rcases Nat.eq_or_lt_of_le g1 with rfl | g1
          · exact uniq i' g3
          · exact g m i' g1 g2 g3
        · refine .inr ⟨m, i2, by exact Nat.le_of_lt h1, h2, h3, h4, h5, fun m' i' g1 g2 g3 => ?_⟩
          rcases Nat.eq_or_lt_of_le g1 with rfl | g1
          · exact uniq i' g3
          · exact h6 m' i' g1 g2 g3
    · have : n = N := by exact Nat.le_antisymm hn hge
      subst this
      rw [slot_empty T.sorted T.dum hN]
      refine .inl ⟨?_, fun m i g1 g2 => absurd g1 (by exact fun x => qfa2 x g2 (by simp +arith only))⟩
      rw [seq_dummy]
section
variable {prog : Program} {w : World} {A : Around} {E : Value → Shared → Prop} {s : Shared}

inductive Rows (prog : Program) (w : World) (At : Value → Way × Int → Prop) : List (Int × Value) → List (Way × Int) → Prop
  | nil : Rows prog w At [] []
  | cons {e : Int × Value} {p : Way × Int} {es : List (Int × Value)} {ps : List (Way × Int)} : (e.1 = pairHash prog w p ∧ At e.2 p) → Rows prog w At es ps → Rows prog w At (e :: es) (p :: ps)
theorem Rows.perm {At : Value → Way × Int → Prop} {es es' : List (Int × Value)} (q : es.Perm es') : ∀ {ps : List (Way × Int)}, Rows prog w At es ps → ∃ ps', Rows prog w At es' ps' ∧ ps'.Perm ps := by
  induction q with
  | nil => exact fun r => ⟨_, r, List.Perm.refl _⟩
  | cons a _ ih =>
    intro ps r
    cases r with
    | cons h1 h2 =>
      obtain ⟨ps', r', q'⟩ := ih h2
      exact ⟨_, .cons h1 r', q'.cons _⟩
  | swap a b l =>
    intro ps r
    cases r with
    | cons h1 h2 =>
      cases h2 with
      | cons h3 h4 => exact ⟨_, .cons h3 (.cons h1 h4), .swap _ _ _⟩
  | trans _ _ ih1 ih2 =>
    intro ps r
    obtain ⟨p1, r1, q1⟩ := ih1 r
    obtain ⟨p2, r2, q2⟩ := ih2 r1
    exact ⟨p2, r2, q2.trans q1⟩
theorem Rows.imp {At Bt : Value → Way × Int → Prop} (k : ∀ v p, At v p → Bt v p) : ∀ {es : List (Int × Value)} {ps : List (Way × Int)}, Rows prog w At es ps → Rows prog w Bt es ps := by
  intro es ps r
  induction r with
  | nil => exact .nil
  | cons a _ ih => exact .cons ⟨a.1, k _ _ a.2⟩ ih
theorem Rows.length {At : Value → Way × Int → Prop} : ∀ {es : List (Int × Value)} {ps : List (Way × Int)}, Rows prog w At es ps → es.length = ps.length := by
  intro es ps r
  induction r with
  | nil => rfl
  | cons _ _ ih => exact congrArg (· + 1) ih

theorem Rows.mem {At : Value → Way × Int → Prop} : ∀ {es : List (Int × Value)} {ps : List (Way × Int)}, Rows prog w At es ps → ∀ e ∈ es, ∃ p ∈ ps, e.1 = pairHash prog w p ∧ At e.2 p := by
  intro es ps r
  induction r with
  | nil => exact fun e he => nomatch he
  | cons a _ ih =>
    intro e he
    rcases List.mem_cons.mp he with rfl | he
    · exact ⟨_, .head _, a⟩
    · obtain ⟨p, hp, q⟩ := ih e he
      exact ⟨p, .tail _ hp, q⟩
theorem Rows.mem' {At : Value → Way × Int → Prop} : ∀ {es : List (Int × Value)} {ps : List (Way × Int)}, Rows prog w At es ps → ∀ p ∈ ps, ∃ e ∈ es, e.1 = pairHash prog w p ∧ At e.2 p := by
  intro es ps r
  induction r with
  | nil => exact fun e he => nomatch he
  | cons a _ ih =>
    intro e he
    rcases List.mem_cons.mp he with rfl | he
    · exact ⟨_, .head _, a⟩
    · obtain ⟨p, hp, q⟩ := ih e he
      exact ⟨p, .tail _ hp, q⟩

theorem found_at {At : Value → Way × Int → Prop} {es : Array (Int × Value)} {t : SetTable} {p : Way × Int} {ps : List (Way × Int)} (T : TI t es) (R : Rows prog w At es.toList ps) {N : Nat} (hN : (seqP t (pairHash prog w p) N).j ∉ t.place.toList) (hp : p ∈ ps) :
    ∃ (i n0 : Nat) (e : Int × Value), es[i]? = some e ∧ e.1 = pairHash prog w p ∧ At e.2 p ∧ t.place[i]? = some (seqP t (pairHash prog w p) n0).j ∧ n0 < N := by
  obtain ⟨e, he, h1, h2⟩ := R.mem' p hp
  obtain ⟨i, hi⟩ := List.mem_iff_getElem?.mp he
  have hi2 : es[i]? = some e := by simpa using hi
  obtain ⟨hlt, _⟩ := Array.getElem?_eq_some_iff.mp hi2
  have hlt2 : i < t.place.size := by rw [T.size]; exact hlt
  have hj : t.place[i]? = some t.place[i] := Array.getElem?_eq_getElem hlt2
  have hz : (t.place[i], e) ∈ List.zip t.place.toList es.toList := by
    refine List.mem_iff_getElem?.mpr ⟨i, ?_⟩
    rw [List.getElem?_zip_eq_some]
    exact ⟨by simpa using hj, hi⟩
  obtain ⟨n0, q1, q2⟩ := T.path _ hz
  rw [h1] at q1 q2
  refine ⟨i, n0, e, hi2, h1, h2, by rw [hj]; exact congrArg some q1.symm, ?_⟩
  rcases Nat.lt_trichotomy n0 N with q | q | q
  · exact q
  · subst q
    exact absurd (by rw [q1]; simp) hN
  · exact absurd (q2 N q) hN

theorem setSearchFrom_pair {a : Addr} {o : Obj} {es : Array (Int × Value)} {ep : Nat} {t : SetTable} {x : Value} {p : Way × Int} {ps : List (Way × Int)} {Q : SetFound → Shared → Prop} (hu : A.units + 64 < cLine)
    (ho : s.heap.get? a = some o) (hd : o.data = .set es ep t) (T : TI t es) (hl : es.size * 5 < t.mask * 3) (R : Rows prog w (PairAt s.heap) es.toList ps) (hx : PairAt s.heap x p)
    {N : Nat} (hNl : N ≤ 10 * (13 + t.mask)) (hN : (seqP t (pairHash prog w p) N).j ∉ t.place.toList) (hb : ∀ m, m < N → (seqP t (pairHash prog w p) m).j ∈ t.place.toList)
    (hin : p ∈ ps → Q (.there none) s) (hout : p ∉ ps → Q (.free (seqP t (pairHash prog w p) N).j false) s) :
    ∀ (fuel n : Nat) (stand : Option SetTable.Probe), stand.getD (t.probeStart (pairHash prog w p)) = seqP t (pairHash prog w p) n → n ≤ N → N - n < fuel → (∀ (m i : Nat) (e : Int × Value), m < n → t.place[i]? = some (seqP t (pairHash prog w p) m).j → es[i]? = some e → ¬ PairAt s.heap e.2 p) → 
      wpAny (model prog w) A (setSearchFrom a x (pairHash prog w p) true fuel stand) Q E s
  | 0, _, _, _, _, hf, _ => absurd hf (Nat.not_lt_zero _)
  | fuel + 1, n, stand, est, hn, hf, hno => by
    have hfit : t.fits es.size = true := by
      unfold SetTable.fits SetTable.fill
      rw [T.dum, T.size]
      simp
      lia
    have hmask : t.mask % 2 = 1 := by rcases T.mask with e | e | e <;> rw [e]
    refine wpAny_bind (wpAny_setState_of ho hd hfit ?_)
    dsimp -zeta only
    rw [if_neg (by unfold SetTable.gaveWay; rw [hmask]; decide)]
    rw [est]
    unfold SetTable.probe
    generalize hgo : SetTable.probe.go t _ (pairHash prog w p) _ _ = r
    have hsize : t.place.size = es.size := T.size
    rcases probe_go T (fun i => (es[i]?.map (·.1)).getD 0) (pairHash prog w p) hN hb (10 * SetTable.turns t.mask) n hn (by unfold SetTable.turns; exact qft fun x => qfa3 x (qfs2 (N) (n) (by exact hn)) hNl (by simp +arith only)) with ⟨e, g⟩ | ⟨m, i, h1, h2, h3, h4, h5, h6⟩
    · obtain rfl : _ = r := e.symm.trans hgo
      refine wpAny_pure (hout fun hp => ?_)
      obtain ⟨i, n0, e0, q1, q2, q3, q4, q5⟩ := found_at T R hN hp
      rcases Nat.lt_or_ge n0 n with c | c
      · exact hno n0 i e0 c q4 q1 q3
      · refine g n0 i c q5 q4 ?_
        rw [q1]
        exact q2
    · obtain rfl : _ = r := h5.symm.trans hgo
      obtain ⟨hi, _⟩ := Array.getElem?_eq_some_iff.mp h3
      have hi : i < es.size := by rw [← hsize]; exact hi
      have hes : es[i]? = some es[i] := Array.getElem?_eq_getElem hi
      obtain ⟨p', hp', e1, e2⟩ := R.mem es[i] (by simp)
      rw [hes] at h4
      have h4 : (es[i]).1 = pairHash prog w p := h4
      have hslot := slot_live T.sorted h3
      dsimp -zeta only
      extract_lets -merge jp
      have rest : wpAny (model prog w) A (jp PUnit.unit) Q E s := by
        dsimp -zeta only [jp]
        rw [hes]
        dsimp only
        refine wpAny_bind (wpAny_holding (eqBool_pair hu e2 hx ?_))
        refine wpAny_bind (wpAny_setState_of ho hd hfit ?_)
        dsimp only
        by_cases hpp : p' = p
        · rw [decide_eq_true hpp]
          simp -iota only [Bool.and_self, if_true]
          exact wpAny_pure (hin (hpp ▸ hp'))
        · rw [decide_eq_false hpp, if_neg (by simp)]
          have hsm : t.sameMemory t.moves t.mask = some true := by unfold SetTable.sameMemory; simp
          rw [hsm]
          dsimp only
          simp -iota only [if_true]
          rw [hslot]
          dsimp only
          rw [hes]
          dsimp only
          obtain ⟨b, _, _, _, ey, _⟩ := id e2
          rw [ey]
          refine wpAny_bind (wpAny_isSame_ref_self ?_)
          simp -iota only [if_true]
          refine wpAny_bind (wpAny_pure ?_)
          dsimp only
          simp -iota only [Bool.false_eq_true, if_false]
          refine setSearchFrom_pair hu ho hd T hl R hx hNl hN hb hin hout fuel (m + 1) (some _) rfl (by exact h2) (by exact qft fun x => qfa5 x (qfs2 (N) (m + 1) (by exact h2)) (qfs1 (N) (n)) h1 hf (by simp +arith only)) ?_
          intro m1 i1 e1' c1 c2 c3 c4
          rcases Nat.lt_or_ge m1 n with c | c
          · exact hno m1 i1 e1' c c2 c3 c4
          · rcases Nat.eq_or_lt_of_le (show m1 ≤ m by exact Nat.le_of_lt_succ c1) with rfl | c5
            · obtain rfl : i1 = i := by rw [← below_at T.sorted c2, below_at T.sorted h3]
              obtain rfl := Option.some.inj (hes.symm.trans c3)
              exact hpp (e2.inj c4)
            · have q := h6 m1 i1 c c5 c2
              rw [c3] at q
              have q : e1'.1 ≠ pairHash prog w p := q
              obtain ⟨p2, _, q1, q2⟩ := R.mem e1' (by have := Array.mem_of_getElem? c3; simpa using this)
              rw [q2.inj c4] at q1
              exact q q1

      by_cases hled : (!t.led) = true
      · rw [if_pos hled]
        refine wpAny_bind (unseen_pairs hx (fun y hy => ?_) ?_)
        · obtain ⟨e0, he0, rfl⟩ := List.mem_map.mp hy
          have := R.mem e0 (by
            have := (Array.mem_filter.mp (Array.mem_toList_iff.mp he0)).1
            simpa using this)
          exact ⟨_, this.choose_spec.2.2⟩
        rw [if_neg Bool.false_ne_true]
        exact rest
      · rw [if_neg hled]
        exact rest

end
end Mine.Internal
end
section
set_option tactic.hygienic false
open PySem PySem.W PySem.Calls PyProof.Rows PySem.Spec
set_option maxRecDepth 100000
namespace Mine.Internal

noncomputable abbrev setO (es : Array (Int × Value)) (ep : Nat) (t : SetTable) : Obj := { cls := .type "set", dict := none, data := .set es ep t }
noncomputable def byT (prog : Program) (w : World) : Bool := (model prog w).w.params.followText "set-order"

structure PTs (prog : Program) (w : World) (At : Value → Way × Int → Prop) (es : Array (Int × Value)) (t : SetTable) (ps qs : List (Way × Int)) : Prop where
  ti : TI t es
  load : es.size * 5 < t.mask * 3
  rows : Rows prog w At es.toList qs
  perm : qs.Perm ps
  plain : t.plain = true → es = #[]
  led : t.led = !byT prog w
  finger : t.finger = 0
  nodup : ps.Nodup
noncomputable def PT (prog : Program) (w : World) (At : Value → Way × Int → Prop) (o : Obj) (ps : List (Way × Int)) : Prop := ∃ es ep t qs, o = setO es ep t ∧ PTs prog w At es t ps qs

noncomputable def addP (ps : List (Way × Int)) (p : Way × Int) : List (Way × Int) := if p ∈ ps then ps else ps ++ [p]

theorem PTs.size {prog : Program} {w : World} {At : Value → Way × Int → Prop} {es : Array (Int × Value)} {t : SetTable} {ps qs : List (Way × Int)} (P : PTs prog w At es t ps qs) : es.size = ps.length := by
  rw [← Array.length_toList, P.rows.length, P.perm.length_eq]
theorem PTs.fits {prog : Program} {w : World} {At : Value → Way × Int → Prop} {es : Array (Int × Value)} {t : SetTable} {ps qs : List (Way × Int)} (P : PTs prog w At es t ps qs) : t.fits es.size = true := by
  have := P.load
  have := P.ti.mask
  unfold SetTable.fits SetTable.fill
  rw [P.ti.dum, P.ti.size]
  simp
  lia
section
variable {prog : Program} {w : World} {A : Around} {E : Value → Shared → Prop} {s : Shared}

theorem put_set {h : Heap} {a : Addr} {es : Array (Int × Value)} {ep : Nat} {t : SetTable} (es' : Array (Int × Value)) (t' : SetTable) (ho : h.get? a = some (setO es ep t)) :
    (h.update a (Obj.putSet es' t')).get? a = some (setO es' (ep + 1) t') := by
  have := Heap.get?_update_self (Obj.putSet es' t') ho (by rw [putSet_of es' t' rfl]; rfl)
  rw [putSet_of es' t' rfl] at this
  exact this

theorem relay_pair {At : Value → Way × Int → Prop} {a : Addr} {es : Array (Int × Value)} {ep : Nat} {t : SetTable} {qs : List (Way × Int)} {Q : Unit → Shared → Prop} {wanted m : Nat}
    (ho : s.heap.get? a = some (setO es ep t)) (hf : t.fits es.size = true) (R : Rows prog w At es.toList qs) (hm : SetTable.sizeAbove wanted = m + 1) (hk : okMask m) (hl : es.size ≤ m) (hbig : es.size ≤ 100)
    (h : ∀ es' t' qs' h', TI t' es' → es'.size = es.size → Rows prog w At es'.toList qs' → qs'.Perm qs → t'.led = t.led → t'.plain = t.plain → t'.finger = t.finger → t'.mask = m → Heap.SameBut a s.heap h' → h'.get? a = some (setO es' (ep + 1) t') → Q () { s with heap := h' }) :
    wpAny (model prog w) A (setRelay a wanted) Q E s := by
  unfold setRelay
  refine wpAny_bind (wpAny_setState_of ho rfl hf ?_)
  dsimp only
  have hm1 : SetTable.sizeAbove wanted - 1 = m := by exact Nat.le_antisymm ((by exact Nat.le_of_lt_succ (Nat.lt_of_lt_of_le (qfs2 (SetTable.sizeAbove wanted) (1) (qfl fun x => qfa2 x (qfg hm) (by simp +arith only))) (Nat.le_of_eq hm)))) (by exact Nat.le_sub_one_of_lt (qfg hm))
  rw [hm]
  rw [if_neg (by have h1 : sizeLine = 2 ^ 24 := rfl
                 rcases hk with rfl | rfl | rfl <;> rw [h1] <;> decide)]
  obtain ⟨t', order, e, T', pm, e1, e2, e3, e4⟩ := relaid_ok (t := t) (es := es) (wanted := wanted) (by rw [hm1]; exact hk) (by rw [hm1]; exact hl)
  rw [e]
  have hsz : (order.filterMap (es[·]?)).size = es.size := by
    rw [← Array.length_toList, pm.length_eq, Array.length_toList]
  refine wpAny_bind ?_
  show wpAny _ _ (@ite _ _ _ _ _) _ _ _
  rw [if_neg (by rw [hsz]; simp)]
  refine wpAny_pure ?_
  dsimp only
  refine wpAny_storeSet_of ho rfl ?_ (by have h1 : sizeLine = 2 ^ 24 := rfl
                                         rw [hsz, h1]; exact Nat.le_trans hbig (Nat.le_add_left _ _))
  have hs := Heap.SameBut.update s.heap a (Obj.putSet (order.filterMap (es[·]?)) t')
  obtain ⟨qs', r', p'⟩ := Rows.perm pm.symm R
  exact h _ t' qs' _ T' hsz r' p' e1 e2 e3 (e4.trans hm1) hs (put_set _ _ ho)

theorem setAdd_pair {At : Value → Way × Int → Prop} {a : Addr} {o : Obj} {x : Value} {p : Way × Int} {ps : List (Way × Int)} {Q : Bool → Shared → Prop} (hu : A.units + 64 < cLine) (ho : s.heap.get? a = some o) (P : PT prog w At o ps) (hAt : ∀ v p, At v p → PairAt s.heap v p) (hxa : At x p) (hlen : ps.length < 70)
    (h : ∀ b o' h' tk, Heap.SameBut a s.heap h' → h'.get? a = some o' → PT prog w At o' (addP ps p) → Q b { s with heap := h', toks := tk }) :
    wpAny (model prog w) A (setAdd a x) Q E s := by
  have hx := hAt _ _ hxa
  obtain ⟨es, ep, t, qs, rfl, P⟩ := P
  unfold setAdd
  refine wpAny_holding (wpAny_bind (pyHash_pair (by exact qft fun x => qfa2 x hu (by simp +arith only)) hx fun tk => ?_))
  unfold setAddHashed setAddHashedIn
  have hns : byScan x es = false := by
    obtain ⟨b, _, _, _, rfl, _⟩ := hx
    rfl
  have ho' : ({ s with toks := tk } : Shared).heap.get? a = some (setO es ep t) := ho
  refine wpAny_holding (wpAny_bind (wpAny_setState_of ho' rfl P.fits ?_))
  dsimp only
  rw [hns]
  simp -iota only [Bool.false_eq_true, if_false]
  obtain ⟨N, hNl, hN, hb⟩ := P.ti.free P.load (pairHash prog w p)
  unfold setSearch
  have hN2 : N < 100000 := by rcases P.ti.mask with e | e | e <;> rw [e] at hNl <;> exact Nat.lt_of_le_of_lt hNl (Nat.le_of_ble_eq_true rfl)
  refine wpAny_bind (setSearchFrom_pair (s := { s with toks := tk }) hu ho' rfl P.ti P.load (P.rows.imp hAt) hx hNl hN hb (fun hp => ?_) (fun hp => ?_) 100000 0 none rfl (Nat.zero_le _) (by exact Nat.lt_of_le_of_lt (qfs2 (N) (0) (by exact Nat.zero_le _)) hN2) (fun m i e hm => absurd hm (Nat.not_lt_zero _)))
  · dsimp only
    refine wpAny_pure ?_
    have := h false (setO es ep t) s.heap tk (Heap.SameBut.refl a s.heap) ho (by
      unfold addP
      rw [if_pos (P.perm.mem_iff.mp hp)]
      exact ⟨es, ep, t, qs, rfl, P⟩)
    exact this
  · dsimp only
    have hp' : p ∉ ps := fun q => hp (P.perm.mem_iff.mpr q)
    refine wpAny_bind (wpAny_setState_of ho' rfl P.fits ?_)
    dsimp only
    obtain ⟨c1, c2, c3, c4⟩ := P.ti.put (x := x) rfl hN hb false
    have hsz := P.size
    have key : ∀ (t2 : SetTable), t2 = { (t.put (seqP t (pairHash prog w p) N).j).1 with plain := false } → 
        wpAny (model prog w) A (do
          storeSet a (SetTable.insertAt es (t.put (seqP t (pairHash prog w p) N).j).2 (pairHash prog w p, x)) t2
          if (!false && t2.tooFull) = true then do setRelay a (SetTable.grown (es.size + 1)); pure true else pure true) Q E { s with toks := tk } := by
      rintro _ rfl
      have hT : TI { (t.put (seqP t (pairHash prog w p) N).j).1 with plain := false } (SetTable.insertAt es (t.put (seqP t (pairHash prog w p) N).j).2 (pairHash prog w p, x)) := c2
      generalize hes1 : SetTable.insertAt es (t.put (seqP t (pairHash prog w p) N).j).2 (pairHash prog w p, x) = es1 at c4 hT ⊢
      have hpm : es1.toList.Perm ((pairHash prog w p, x) :: es.toList) := by rw [← hes1]; exact insertAt_perm' _ _ _ c1
      have hmk : ({ (t.put (seqP t (pairHash prog w p) N).j).1 with plain := false } : SetTable).mask = t.mask := rfl
      have hfg : ({ (t.put (seqP t (pairHash prog w p) N).j).1 with plain := false } : SetTable).finger = t.finger := rfl
      have hld : ({ (t.put (seqP t (pairHash prog w p) N).j).1 with plain := false } : SetTable).led = t.led := rfl
      have hpl : ({ (t.put (seqP t (pairHash prog w p) N).j).1 with plain := false } : SetTable).plain = false := rfl
      generalize ({ (t.put (seqP t (pairHash prog w p) N).j).1 with plain := false } : SetTable) = t1 at hT hmk hfg hld hpl ⊢
      have hs := Heap.SameBut.update s.heap a (Obj.putSet es1 t1)
      have hput : (s.heap.update a (Obj.putSet es1 t1)).get? a = some (setO es1 (ep + 1) t1) := put_set _ _ ho
      obtain ⟨qs1, r1, p1⟩ := Rows.perm hpm.symm (Rows.cons (e := (pairHash prog w p, x)) ⟨rfl, hxa⟩ P.rows)
      have pm1 : qs1.Perm (ps ++ [p]) := p1.trans ((P.perm.cons p).trans (List.perm_append_singleton p ps).symm)
      have hnd : (ps ++ [p]).Nodup := (List.nodup_append.mpr ⟨P.nodup, by simp, fun x1 hx1 y hy e => by rw [List.mem_singleton] at hy; subst hy; subst e; exact hp' hx1⟩)
      have hadd : addP ps p = ps ++ [p] := by unfold addP; rw [if_neg hp']
      have hfull : t1.tooFull = decide ((es.size + 1) * 5 ≥ t.mask * 3) := by
        unfold SetTable.tooFull SetTable.fill
        rw [hT.dum, hT.size, c4, hmk]
        rfl
      have hsl : sizeLine = 2 ^ 24 := rfl
      refine wpAny_bind (wpAny_storeSet_of ho' rfl ?_ (by rw [hsl, c4]; lia))
      have hl0 := P.load
      by_cases hfl : (es.size + 1) * 5 ≥ t.mask * 3
      · rw [hfull, decide_eq_true hfl]
        rw [if_pos (show (!false && true) = true from rfl)]
        have hgrow : ∃ m, SetTable.sizeAbove (SetTable.grown (es.size + 1)) = m + 1 ∧ okMask m ∧ es.size + 1 ≤ m ∧ (es.size + 1) * 5 < m * 3 := by
          rcases P.ti.mask with e | e | e
          · have : es.size = 4 := by lia
            rw [this]
            exact ⟨31, by decide +kernel, .inr (.inl rfl), by decide, by decide⟩
          · have : es.size = 18 := by lia
            rw [this]
            exact ⟨127, by decide +kernel, .inr (.inr rfl), by decide, by decide⟩
          · lia
        obtain ⟨m, g1, g2, g3, g4⟩ := hgrow
        have hfits1 : t1.fits es1.size = true := by
          unfold SetTable.fits SetTable.fill
          rw [hT.dum, hT.size, c4, hmk]
          have := P.ti.mask
          simp
          lia
        refine wpAny_bind (relay_pair (s := { s with toks := tk, heap := s.heap.update a (Obj.putSet es1 t1) }) hput hfits1 r1 g1 g2 (by exact Nat.le_trans (Nat.le_of_eq c4) g3) (by exact qfl fun x => qfa4 x (Nat.le_of_eq c4) (Nat.le_of_eq hsz) hlen (by simp +arith only)) fun es' t' qs' h' T' sz' r' p' e1 e2 e3 e4 hs' hg' => ?_)
        refine wpAny_pure ?_
        have := h true _ h' tk (hs.trans hs') hg' ⟨es', _, t', qs', rfl, ⟨T', by rw [sz', c4, e4]; exact g4, r', p'.trans (by rw [hadd]; exact pm1), fun q => absurd ((e2.trans hpl).symm.trans q) Bool.false_ne_true, by rw [e1, hld]; exact P.led, by rw [e3, hfg]; exact P.finger, by rw [hadd]; exact hnd⟩⟩
        exact this
      · rw [hfull, decide_eq_false hfl, if_neg (by simp)]
        refine wpAny_pure ?_
        have := h true _ _ tk hs hput ⟨es1, _, t1, qs1, rfl, ⟨hT, by rw [c4, hmk]; lia, r1, by rw [hadd]; exact pm1, fun q => absurd (hpl.symm.trans q) Bool.false_ne_true, by rw [hld]; exact P.led, by rw [hfg]; exact P.finger, by rw [hadd]; exact hnd⟩⟩
        exact this
    by_cases hpl : t.plain = true
    · rw [if_pos (show (t.put (seqP t (pairHash prog w p) N).j).1.plain = true from hpl)]
      refine wpAny_bind (hashByValue_pair (s := { s with toks := tk }) hx ?_)
      simp -iota only [Bool.false_eq_true, if_false]
      exact key _ rfl
    · rw [if_neg (show ¬ (t.put (seqP t (pairHash prog w p) N).j).1.plain = true from hpl)]
      refine wpAny_bind (wpAny_pure ?_)
      simp -iota only [if_true]
      refine key _ ?_
      have : (t.put (seqP t (pairHash prog w p) N).j).1.plain = false := by
        have : t.plain = false := by simpa using hpl
        exact this
      generalize (t.put (seqP t (pairHash prog w p) N).j).1 = u at this
      cases u
      simp -iota only at this
      subst this
      rfl
end
end Mine.Internal
end
section
set_option tactic.hygienic false
open PySem PySem.W PySem.Calls PyProof.Rows PySem.Spec
set_option maxRecDepth 100000
namespace Mine.Internal

theorem slot_setiter_next : Slot "set_iterator" "__next__" "set_iterator.__next__" :=
  .of (owner := "set_iterator") (n := "__next__") (by rw [typeLookup_type, builtinLookup_eq_fast]; kernel_rfl) (by decide +kernel) (by decide +kernel) (by decide +kernel)
    (by first | exact .inl (by decide +kernel) | exact .inr (by decide +kernel)) (by rw [isSubtype_type]; kernel_rfl)
theorem entry_setiter_next : entryFor table "set_iterator.__next__" = some Builtin.«set_iterator.__next__» := entryFor_of_fast (by kernel_rfl)
theorem args_setiter_next (a : Value) : argsOk "set_iterator.__next__" ⟨[a], []⟩ := by unfold argsOk; kernel_rfl
theorem entry_set_iter : entryFor table "set.__iter__" = some Builtin.«frozenset.__iter__» :=
  entryFor_alias (id' := "frozenset.__iter__") (by kernel_rfl) rfl (by decide +kernel) (by kernel_rfl)
end Mine.Internal
end
section
set_option tactic.hygienic false
open PySem PySem.W PySem.Calls PyProof.Rows PySem.Spec
set_option maxRecDepth 100000
namespace Mine.Internal
section
variable {prog : Program} {w : World} {A : Around} {E : Value → Shared → Prop} {s : Shared} {At : Value → Way × Int → Prop}

theorem wpAny_byT {Q : Bool → Shared → Prop} (h : Q (byT prog w) s) : wpAny (model prog w) A setsByText Q E s := by
  unfold setsByText
  exact wpAny_bind (wpAny_askSetting (wpAny_pure h))

theorem fresh_PTs (mv : Nat) : PTs prog w At #[] { SetTable.fresh 0 mv (!byT prog w) with plain := true } [] [] :=
  ⟨⟨rfl, rfl, List.Pairwise.nil, fun j hj => by simp [SetTable.fresh] at hj, .inl rfl, fun e he => by simp [SetTable.fresh] at he⟩, (by show 0 * 5 < 7 * 3; decide), .nil, .refl _, fun x => rfl, rfl, rfl, List.nodup_nil⟩

theorem setWalk_any {a : Addr} {es : Array (Int × Value)} {ep : Nat} {t : SetTable} {ps qs : List (Way × Int)} {Q : Array (Int × Value) → Shared → Prop} (ho : s.heap.get? a = some (setO es ep t)) (P : PTs prog w At es t ps qs)
    (hd : byT prog w = true ∨ es.size ≤ 1) (h : ∀ es', (byT prog w = true → es' = pickOrder ((model prog w).w.params.setOrder a ep) es) → Q es' s) : wpAny (model prog w) A (setWalk a) Q E s := by
  unfold setWalk
  refine wpAny_bind (wpAny_setState_of ho rfl P.fits ?_)
  dsimp only
  refine wpAny_bind (wpAny_byT ?_)
  cases hb : byT prog w with
  | true =>
    simp only [if_true]
    refine wpAny_bind (wpAny_askSetting ?_)
    exact wpAny_pure (h _ fun x => rfl)
  | false =>
    have hd : es.size ≤ 1 := by rcases hd with q | q
                                · rw [hb] at q; cases q
                                · exact q
    simp only [Bool.false_eq_true, if_false]
    show wpAny _ _ (@ite _ ((!t.plain && decide (es.size > 1)) = true) _ _ _) _ _ _
    rw [if_neg (by simp; lia)]
    refine wpAny_bind ?_
    show wpAny _ _ (@ite _ _ _ _ _) _ _ _
    rw [if_neg (by rw [P.led, hb]; simp)]
    exact wpAny_pure (wpAny_pure (h _ fun q => by rw [hb] at q; cases q))

theorem setClear_pair {a : Addr} {es : Array (Int × Value)} {ep : Nat} {t : SetTable} {ps qs : List (Way × Int)} {Q : Option (List Value) → Shared → Prop} (ho : s.heap.get? a = some (setO es ep t)) (P : PTs prog w At es t ps qs)
    (h : ∀ old h' o', Heap.SameBut a s.heap h' → h'.get? a = some o' → PT prog w At o' [] → Q old { s with heap := h' }) : wpAny (model prog w) A (setClear a) Q E s := by
  have tail : ∀ old, wpAny (model prog w) A (do
      let t := (← setState a).2.2
      storeSet a #[] (t.cleared (led := !(← setsByText) && (t.led || t.finger == 0)))
      return old) Q E s := by
    intro old
    refine wpAny_bind (wpAny_setState_of ho rfl P.fits ?_)
    dsimp only
    refine wpAny_bind (wpAny_byT ?_)
    refine wpAny_bind (wpAny_storeSet_of ho rfl ?_ (by show 0 ≤ sizeLine; exact Nat.zero_le _))
    refine wpAny_pure (h old _ _ (Heap.SameBut.update s.heap a _) (put_set _ _ ho) ⟨#[], _, _, [], rfl, ?_⟩)
    have e : t.cleared (led := !byT prog w && (t.led || t.finger == 0)) = { SetTable.fresh 0 (t.movedTo 7) (!byT prog w) with plain := true } := by
      unfold SetTable.cleared
      rw [P.finger]
      simp
    rw [e]
    exact fresh_PTs _
  unfold setClear
  unfold setDeathsKnown
  refine wpAny_bind ?_
  refine wpAny_bind (wpAny_setState_of ho rfl P.fits ?_)
  dsimp only
  refine wpAny_bind (wpAny_byT ?_)
  refine wpAny_pure ?_
  by_cases hd : byT prog w = true ∨ es.size ≤ 1
  · have : (byT prog w || t.led && t.plain || decide (es.size ≤ 1)) = true := by
      rcases hd with q | q <;> simp [q]
    rw [if_pos this]
    unfold setItems
    refine wpAny_bind (wpAny_bind (setWalk_any ho P hd fun es' x => wpAny_pure ?_))
    exact wpAny_bind (wpAny_pure (tail _))
  · by_cases c : (byT prog w || t.led && t.plain || decide (es.size ≤ 1)) = true
    · have : t.plain = true := by
        simp only [Bool.or_eq_true, Bool.and_eq_true, decide_eq_true_eq] at c
        rcases c with (c | c) | c
        · exact absurd (.inl c) hd
        · exact c.2
        · exact absurd (.inr c) hd
      have := P.plain this
      subst this
      exact absurd (.inr (by simp)) hd
    · rw [if_neg c]
      exact wpAny_bind (wpAny_pure (tail _))
end
end Mine.Internal
end
section
set_option tactic.hygienic false
open PySem PySem.W PySem.Calls PyProof.Rows PySem.Spec
set_option maxRecDepth 100000
namespace Mine.Internal

noncomputable abbrev itO (f : Value) (i : Nat) (a : Addr) (n ep : Nat) : Obj := { cls := .type "set_iterator", data := .fields #[f, .int i 0, .ref a, .int n 0, .int ep 0] }

section
variable {prog : Program} {w : World} {A : Around} {E : Value → Shared → Prop} {s : Shared} {At : Value → Way × Int → Prop}

theorem upd_field {h : Heap} {I : Addr} {f : Value} {i : Nat} {a : Addr} {n ep : Nat} (ho : h.get? I = some (itO f i a n ep)) (k : Nat) (x : Value) :
    (h.update I (Obj.mapFields (·.setIfInBounds k x))).get? I = some { cls := .type "set_iterator", data := .fields ((#[f, .int i 0, .ref a, .int n 0, .int ep 0] : Array Value).setIfInBounds k x) } := by
  have := Heap.get?_update_self (Obj.mapFields (·.setIfInBounds k x)) ho (Obj.isFreed_of_fields (Obj.data_mapFields rfl _))
  rw [this]
  rfl

theorem setiter_item {I a : Addr} {es : Array (Int × Value)} {ep n i slot : Nat} {t : SetTable} {x : Value} {slot' : Nat} {Q : Option Value → Shared → Prop}
    (hI : s.heap.get? I = some (itO (.int slot 0) i a n ep)) (ho : s.heap.get? a = some (setO es ep t)) (hf : t.fits es.size = true) (hn : es.size = n)
    (hx : ∀ (A : Around) (R : Option (Value × Nat) → Shared → Prop) (E : Value → Shared → Prop), R (some (x, slot')) s → wpAny (model prog w) A (setNext a slot i ep) R E s)
    (hQ : ∀ h', h'.get? I = some (itO (.int slot' 0) (i + 1) a n ep) → Heap.SameBut I s.heap h' → Q (some x) { s with heap := h' }) :
    wpAny (model prog w) A (pyNext (.ref I)) Q E s := by
  have hT : s.TypeIs (.ref I) "set_iterator" := ⟨_, hI, rfl⟩
  unfold pyNext
  refine wpAny_bind (wpAny_attempt (wpAny_callSpecial?_slot (name := Str.ofString "__next__") hT slot_setiter_next
    (wpAny_call_entry slot_setiter_next hT entry_setiter_next ?_ (args_setiter_next _))))
  show wpAny _ _ (fieldsOf (.ref I) >>= _) _ _ s
  refine wpAny_bind (wpAny_fieldsOf hI rfl ?_)
  try dsimp only
  refine wpAny_bind (wpAny_setEntries_of ho rfl hf ?_)
  rw [if_neg (by rw [hn]; simp)]
  try dsimp only
  simp -iota only [Int.toNat_natCast]
  refine wpAny_bind (hx _ _ _ ?_)
  try dsimp only
  refine wpAny_bind (wpAny_setField hI rfl (by simp) ?_)
  refine wpAny_bind (wpAny_setField (upd_field hI 0 _) rfl (by simp) (wpAny_pure ⟨x, rfl, wpAny_pure (hQ _ ?_ ((Heap.SameBut.update ..).trans (Heap.SameBut.update ..)))⟩))
  refine (Heap.get?_update_self (Obj.mapFields (·.setIfInBounds 1 (rawInt (i + 1)))) (upd_field hI 0 (rawInt slot')) ?_).trans ?_
  · exact Obj.isFreed_of_fields (Obj.data_mapFields rfl _)
  · rfl

theorem setiter_stop {I a : Addr} {es : Array (Int × Value)} {ep n i slot : Nat} {t : SetTable} {Q : Option Value → Shared → Prop} (hh : A.handled = none)
    (hI : s.heap.get? I = some (itO (.int slot 0) i a n ep)) (ho : s.heap.get? a = some (setO es ep t)) (hf : t.fits es.size = true) (hn : es.size = n)
    (hx : ∀ (A : Around) (R : Option (Value × Nat) → Shared → Prop) (E : Value → Shared → Prop), R none s → wpAny (model prog w) A (setNext a slot i ep) R E s)
    (hQ : ∀ h', Heap.ExtBut I s.heap h' → Q none { s with heap := h' }) :
    wpAny (model prog w) A (pyNext (.ref I)) Q E s := by
  have hT : s.TypeIs (.ref I) "set_iterator" := ⟨_, hI, rfl⟩
  unfold pyNext
  refine wpAny_bind (wpAny_attempt (wpAny_callSpecial?_slot (name := Str.ofString "__next__") hT slot_setiter_next
    (wpAny_call_entry slot_setiter_next hT entry_setiter_next ?_ (args_setiter_next _))))
  show wpAny _ _ (fieldsOf (.ref I) >>= _) _ _ s
  refine wpAny_bind (wpAny_fieldsOf hI rfl ?_)
  try dsimp only
  refine wpAny_bind (wpAny_setEntries_of ho rfl hf ?_)
  rw [if_neg (by rw [hn]; simp)]
  try dsimp only
  simp -iota only [Int.toNat_natCast]
  refine wpAny_bind (hx _ _ _ ?_)
  try dsimp only
  refine wpAny_bind (wpAny_setField hI rfl (by simp) ?_)
  show wpAny _ _ (newExc (.type "StopIteration") [] >>= _) _ _ _
  refine wpAny_bind ?_
  simp -iota only [newExc, newTuple]
  refine wpAny_bind (wpAny_newObj_type ?_ (by size_fits))
  refine wpAny_bind (m := firstArgMember _ _) (wpAny_of_eq (a := Value.none) (by first | rfl | (simp -iota only [firstArgMember]; rfl)) ?_)
  refine wpAny_newObj_type ?_ (by size_fits)
  simp -iota only [raiseNew]
  refine wpAny_bind (wpAny_handled ?_)
  rw [show A.in1.handled = none from hh]
  refine wpAny_bind (wpAny_pure (wpAny_throw ?_))
  refine wpAny_bind (wpAny_isInstance (T := "StopIteration") (b := true) ⟨_, Heap.get?_push_size _ rfl, rfl⟩ isSubtype_stop ?_)
  exact wpAny_pure (hQ _ (((Heap.SameBut.update ..).extBut.push _).push _))

theorem drawiter_item {I a T : Addr} {es : Array (Int × Value)} {ep n i pl : Nat} {t : SetTable} {x : Value} {hx : Int} {us : List Value} {Q : Option Value → Shared → Prop}
    (hI : s.heap.get? I = some (itO (.ref T) i a n ep)) (ho : s.heap.get? a = some (setO es ep t)) (hf : t.fits es.size = true) (hn : es.size = n) (hT : s.heap.get? T = some (tupO us))
    (hp : us[i]? = some (.int pl 0)) (hx : es[pl]? = some (hx, x))
    (hQ : ∀ h', h'.get? I = some (itO (.ref T) (i + 1) a n ep) → Heap.SameBut I s.heap h' → Q (some x) { s with heap := h' }) :
    wpAny (model prog w) A (pyNext (.ref I)) Q E s := by
  have hTy : s.TypeIs (.ref I) "set_iterator" := ⟨_, hI, rfl⟩
  unfold pyNext
  refine wpAny_bind (wpAny_attempt (wpAny_callSpecial?_slot (name := Str.ofString "__next__") hTy slot_setiter_next
    (wpAny_call_entry slot_setiter_next hTy entry_setiter_next ?_ (args_setiter_next _))))
  show wpAny _ _ (fieldsOf (.ref I) >>= _) _ _ s
  refine wpAny_bind (wpAny_fieldsOf hI rfl ?_)
  try dsimp only
  refine wpAny_bind (wpAny_setEntries_of ho rfl hf ?_)
  rw [if_neg (by rw [hn]; simp)]
  try dsimp only
  refine wpAny_bind (wpAny_seqItems hT rfl ?_)
  try dsimp only
  simp -iota only [Int.toNat_natCast, List.getElem?_toArray, hp]
  unfold setNextDrawn
  refine wpAny_bind (wpAny_bind (wpAny_setState_of ho rfl hf ?_))
  try dsimp only
  rw [if_neg (by simp)]
  rw [Int.toNat_natCast, hx]
  refine wpAny_pure ?_
  refine wpAny_bind (wpAny_setField hI rfl (by simp) (wpAny_pure ⟨x, rfl, wpAny_pure (hQ _ ?_ (Heap.SameBut.update ..))⟩))
  exact upd_field hI 1 _

theorem drawiter_stop {I a T : Addr} {es : Array (Int × Value)} {ep n i : Nat} {t : SetTable} {us : List Value} {Q : Option Value → Shared → Prop} (hh : A.handled = none)
    (hI : s.heap.get? I = some (itO (.ref T) i a n ep)) (ho : s.heap.get? a = some (setO es ep t)) (hf : t.fits es.size = true) (hn : es.size = n) (hT : s.heap.get? T = some (tupO us))
    (hp : us[i]? = none)
    (hQ : ∀ h', Heap.ExtBut I s.heap h' → Q none { s with heap := h' }) :
    wpAny (model prog w) A (pyNext (.ref I)) Q E s := by
  have hTy : s.TypeIs (.ref I) "set_iterator" := ⟨_, hI, rfl⟩
  unfold pyNext
  refine wpAny_bind (wpAny_attempt (wpAny_callSpecial?_slot (name := Str.ofString "__next__") hTy slot_setiter_next
    (wpAny_call_entry slot_setiter_next hTy entry_setiter_next ?_ (args_setiter_next _))))
  show wpAny _ _ (fieldsOf (.ref I) >>= _) _ _ s
  refine wpAny_bind (wpAny_fieldsOf hI rfl ?_)
  try dsimp only
  refine wpAny_bind (wpAny_setEntries_of ho rfl hf ?_)
  rw [if_neg (by rw [hn]; simp)]
  try dsimp only
  refine wpAny_bind (wpAny_seqItems hT rfl ?_)
  try dsimp only
  simp -iota only [Int.toNat_natCast, List.getElem?_toArray, hp]
  refine wpAny_bind (wpAny_setField hI rfl (by simp) ?_)
  refine wpAny_bind (wpAny_setField (upd_field hI 0 _) rfl (by simp) ?_)
  show wpAny _ _ (newExc (.type "StopIteration") [] >>= _) _ _ _
  refine wpAny_bind ?_
  simp -iota only [newExc, newTuple]
  refine wpAny_bind (wpAny_newObj_type ?_ (by size_fits))
  refine wpAny_bind (m := firstArgMember _ _) (wpAny_of_eq (a := Value.none) (by first | rfl | (simp -iota only [firstArgMember]; rfl)) ?_)
  refine wpAny_newObj_type ?_ (by size_fits)
  simp -iota only [raiseNew]
  refine wpAny_bind (wpAny_handled ?_)
  rw [show A.in1.handled = none from hh]
  refine wpAny_bind (wpAny_pure (wpAny_throw ?_))
  refine wpAny_bind (wpAny_isInstance (T := "StopIteration") (b := true) ⟨_, Heap.get?_push_size _ rfl, rfl⟩ isSubtype_stop ?_)
  exact wpAny_pure (hQ _ ((((Heap.SameBut.update ..).trans (Heap.SameBut.update ..)).extBut.push _).push _))

inductive Vals (At : Value → Way × Int → Prop) : List Value → List (Way × Int) → Prop
  | nil : Vals At [] []
  | cons {v : Value} {p : Way × Int} {vs : List Value} {ps : List (Way × Int)} : At v p → Vals At vs ps → Vals At (v :: vs) (p :: ps)
theorem Rows.vals {es : List (Int × Value)} {ps : List (Way × Int)} (r : Rows prog w At es ps) : Vals At (es.map (·.2)) ps := by
  induction r with
  | nil => exact .nil
  | cons a _ ih => exact .cons a.2 ih
theorem Vals.length {us : List Value} {ps : List (Way × Int)} (r : Vals At us ps) : us.length = ps.length := by
  induction r with
  | nil => rfl
  | cons a _ ih => simp [ih]
theorem Vals.at {us : List Value} {ps : List (Way × Int)} (r : Vals At us ps) : ∀ {i : Nat} {v : Value}, us[i]? = some v → ∃ p, ps[i]? = some p ∧ At v p := by
  induction r with
  | nil => intro i v h; simp at h
  | cons a _ ih =>
    intro i v h
    cases i with
    | zero => simp at h; subst h; exact ⟨_, rfl, a⟩
    | succ i => simp at h; obtain ⟨p, h1, h2⟩ := ih h; exact ⟨p, by simpa using h1, h2⟩

theorem go_setiter {target : Expr} {v : Value} {f : Value} {i : Nat} {a I : Addr} {n ep : Nat} {Q : Unit → Shared → Prop} (hI : s.heap.get? I = some (itO f i a n ep)) (hQ : Q () s) : wpAny (model prog w) A (letOwnedTupleGo target (.ref I) v) Q E s := by
  unfold letOwnedTupleGo
  cases target <;> first
    | exact wpAny_pure hQ
    | (cases v <;> first
        | exact wpAny_pure hQ
        | (refine wpAny_bind (wpAny_load hI ?_)
           exact wpAny_pure hQ))

theorem iter_text (hh : A.handled = none) {I a : Addr} {es : Array (Int × Value)} {ep : Nat} {t : SetTable} (hf : t.fits es.size = true) (hb : byT prog w = true) (hlen : (pickOrder ((model prog w).w.params.setOrder a ep) es).size = es.size) :
    Iter prog w A I es.size (fun i v => ((pickOrder ((model prog w).w.params.setOrder a ep) es).toList.map (·.2))[i]? = some v) (fun i o => o = itO (.int (0 : Nat) 0) i a es.size ep) (fun h => h.get? a = some (setO es ep t)) where
  next := fun i s o Q E hi ho hok hn hQ => by
    subst hok
    have hi2 : i < (pickOrder ((model prog w).w.params.setOrder a ep) es).size := by rw [hlen]; exact hi
    refine setiter_item (x := ((pickOrder ((model prog w).w.params.setOrder a ep) es)[i]).2) (slot' := 0) ho hn hf rfl (fun A R E hR => ?_) fun h' hI' hs' => hQ _ h' s.toks _ (by simp [hi2]) hI' rfl hs'
    unfold setNext
    refine wpAny_bind (wpAny_setState_of hn rfl hf ?_)
    dsimp only
    refine wpAny_bind (wpAny_byT ?_)
    rw [hb]
    simp -iota only [if_true]
    rw [if_neg (by simp)]
    unfold setWalk
    refine wpAny_bind (wpAny_bind (wpAny_setState_of hn rfl hf ?_))
    dsimp only
    refine wpAny_bind (wpAny_byT ?_)
    rw [hb]
    simp -iota only [if_true]
    refine wpAny_bind (wpAny_askSetting ?_)
    refine wpAny_pure (wpAny_pure ?_)
    simp [hi2]
    exact hR
  stop := fun s o Q E ho hok hn hQ => by
    subst hok
    refine setiter_stop hh ho hn hf rfl (fun A R E hR => ?_) fun h' he' => hQ h' s.toks he'
    unfold setNext
    refine wpAny_bind (wpAny_setState_of hn rfl hf ?_)
    dsimp only
    refine wpAny_bind (wpAny_byT ?_)
    rw [hb]
    simp -iota only [if_true]
    rw [if_neg (by simp)]
    unfold setWalk
    refine wpAny_bind (wpAny_bind (wpAny_setState_of hn rfl hf ?_))
    dsimp only
    refine wpAny_bind (wpAny_byT ?_)
    rw [hb]
    simp -iota only [if_true]
    refine wpAny_bind (wpAny_askSetting ?_)
    refine wpAny_pure (wpAny_pure ?_)
    simp [← hlen]
    exact hR
  go := fun i s o target v Q E ho hok hQ => by
    subst hok
    exact go_setiter ho hQ

theorem iter_drawn (hh : A.handled = none) {I a T : Addr} {es : Array (Int × Value)} {ep : Nat} {t : SetTable} (hf : t.fits es.size = true) (ix : List Nat) (hix : ix.Perm (List.range es.size)) :
    Iter prog w A I es.size (fun i v => (ix.map fun k => (es.getD k (0, .none)).2)[i]? = some v) (fun i o => o = itO (.ref T) i a es.size ep) (fun h => h.get? a = some (setO es ep t) ∧ h.get? T = some (tupO (ix.map fun (k : Nat) => rawInt k))) where
  next := fun i s o Q E hi ho hok hn hQ => by
    subst hok
    have hlen : ix.length = es.size := by rw [hix.length_eq, List.length_range]
    have hi2 : i < ix.length := by rw [hlen]; exact hi
    have hk : ix[i] < es.size := List.mem_range.mp (hix.mem_iff.mp (List.getElem_mem hi2))
    refine drawiter_item (pl := ix[i]) (x := (es[ix[i]]).2) (hx := (es[ix[i]]).1) ho hn.1 hf rfl hn.2 (by simp [hi2, rawInt]) (by simp [hk]) fun h' hI' hs' => hQ _ h' s.toks _ (by simp [hi2, hk]) hI' rfl hs'
  stop := fun s o Q E ho hok hn hQ => by
    subst hok
    have hlen : ix.length = es.size := by rw [hix.length_eq, List.length_range]
    exact drawiter_stop hh ho hn.1 hf rfl hn.2 (by simp [← hlen]) fun h' he' => hQ h' s.toks he'
  go := fun i s o target v Q E ho hok hQ => by
    subst hok
    exact go_setiter ho hQ

theorem iter_few (hh : A.handled = none) {I a : Addr} {es : Array (Int × Value)} {ep : Nat} {t : SetTable} (T : TI t es) (hf : t.fits es.size = true) (hb : byT prog w = false) (hled : t.led = true) (hle : es.size ≤ 1) :
    Iter prog w A I es.size (fun i v => (es.toList.map (·.2))[i]? = some v) (fun i o => o = itO (.int ((if i = 0 then 0 else t.place.getD 0 0 + 1 : Nat)) 0) i a es.size ep) (fun h => h.get? a = some (setO es ep t)) where
  next := fun i s o Q E hi ho hok hn hQ => by
    subst hok
    have h0 : i = 0 := by exact Nat.le_antisymm (by exact Nat.le_of_lt_succ (Nat.lt_of_lt_of_le hi hle)) (by exact Nat.zero_le _)
    subst h0
    have hp : 0 < t.place.size := by rw [T.size]; exact hi
    refine setiter_item (slot := 0) (x := (es[0]).2) (slot' := t.place.getD 0 0 + 1) ho hn hf rfl (fun A R E hR => ?_) fun h' hI' hs' => hQ _ h' s.toks _ (by simp [hi]) hI' (by simp) hs'
    unfold setNext
    refine wpAny_bind (wpAny_setState_of hn rfl hf ?_)
    dsimp only
    refine wpAny_bind (wpAny_byT ?_)
    rw [hb]
    simp -iota only [Bool.false_eq_true, if_false]
    show wpAny _ _ (@ite _ ((!t.plain && decide (es.size > 1)) = true) _ _ _) _ _ _
    rw [if_neg (by simp; lia)]
    refine wpAny_bind ?_
    show wpAny _ _ (@ite _ _ _ _ _) _ _ _
    rw [if_neg (by rw [hled]; simp)]
    refine wpAny_pure (wpAny_pure ?_)
    have hbel : SetTable.below t.place 0 = 0 := by
      have := below_spec T.sorted 0
      rcases Nat.eq_zero_or_pos (SetTable.below t.place 0) with q | q
      · exact q
      · exact absurd (this.2.1 0 q _ (Array.getElem?_eq_getElem hp)) (Nat.not_lt_zero _)
    rw [hbel]
    have hg : t.place.getD 0 0 = t.place[0] := by simp [hp]
    rw [hg] at hR
    simp [hi, hp]
    exact hR
  stop := fun s o Q E ho hok hn hQ => by
    subst hok
    refine setiter_stop hh ho hn hf rfl (fun A R E hR => ?_) fun h' he' => hQ h' s.toks he'
    unfold setNext
    refine wpAny_bind (wpAny_setState_of hn rfl hf ?_)
    dsimp only
    refine wpAny_bind (wpAny_byT ?_)
    rw [hb]
    simp -iota only [Bool.false_eq_true, if_false]
    show wpAny _ _ (@ite _ ((!t.plain && decide (es.size > 1)) = true) _ _ _) _ _ _
    rw [if_neg (by simp; lia)]
    refine wpAny_bind ?_
    show wpAny _ _ (@ite _ _ _ _ _) _ _ _
    rw [if_neg (by rw [hled]; simp)]
    refine wpAny_pure (wpAny_pure ?_)
    have hbel : es.size ≤ SetTable.below t.place (if es.size = 0 then 0 else t.place.getD 0 0 + 1) := by
      rcases Nat.eq_zero_or_pos es.size with q | q
      · exact Nat.le_trans (Nat.le_of_eq q) (Nat.le_add_left _ _)
      · have h1 : es.size = 1 := by exact Nat.le_antisymm hle q
        have hp : 0 < t.place.size := by rw [T.size]; exact q
        have := below_spec T.sorted (t.place.getD 0 0 + 1)
        rw [if_neg (by lia), h1]
        rcases Nat.eq_zero_or_pos (SetTable.below t.place (t.place.getD 0 0 + 1)) with q | q
        · have := this.2.2 0 (by exact (Nat.le_of_eq q)) _ (Array.getElem?_eq_getElem hp)
          have hg : t.place.getD 0 0 = t.place[0] := by simp [hp]
          exact (by exact absurd this (Nat.not_lt.mpr (qfg hg)))
        · exact q
    have hnone : es[SetTable.below t.place (if es.size = 0 then 0 else t.place.getD 0 0 + 1)]? = none := Array.getElem?_eq_none hbel
    rw [hnone]
    exact hR
  go := fun i s o target v Q E ho hok hQ => by
    subst hok
    exact go_setiter ho hQ
end
end Mine.Internal
end
section
set_option tactic.hygienic false
open PySem PySem.W PySem.Calls PyProof.Rows PySem.Spec
set_option maxRecDepth 100000
namespace Mine.Internal

theorem cons_erase_perm {α : Type} : ∀ {l : List α} {i : Nat} {x : α}, l[i]? = some x → (x :: l.eraseIdx i).Perm l
  | [], _, _, h => by simp at h
  | a :: l, 0, x, h => by simp at h; subst h; exact .refl _
  | a :: l, i + 1, x, h => by
    simp -iota only [List.getElem?_cons_succ] at h
    exact (List.Perm.swap a x _).trans ((cons_erase_perm h).cons a)

theorem pick_go {α : Type} (next : Nat → Nat) : ∀ (fuel k : Nat) (left : List α) (out : Array α), left.length ≤ fuel → (pickOrder.go next fuel k left out).toList.Perm (out.toList ++ left)
  | 0, k, left, out, h => by
    have : left = [] := List.length_eq_zero_iff.mp (by exact Nat.sub_eq_zero_of_le h)
    subst this
    unfold pickOrder.go
    simp
  | fuel + 1, k, left, out, h => by
    unfold pickOrder.go
    cases hx : left[next k % left.length]? with
    | none =>
      dsimp only
      have : left = [] := by
        cases left with
        | nil => rfl
        | cons a l =>
          rw [List.getElem?_eq_none_iff] at hx
          have := Nat.mod_lt (next k) (show (a :: l).length > 0 by simp)
          lia
      subst this
      simp
    | some x =>
      dsimp only
      obtain ⟨hlt, _⟩ := List.getElem?_eq_some_iff.mp hx
      refine (pick_go next fuel (k + 1) _ _ (by rw [List.length_eraseIdx]; split <;> exact (by exact Nat.le_of_lt_succ (Nat.lt_of_lt_of_le (qfs2 (left.length) (1) (qfl fun x => qfa2 x hlt (by simp +arith only))) h)))).trans ?_
      rw [Array.toList_push, List.append_assoc]
      exact (List.Perm.append_left _ (cons_erase_perm hx))
theorem pickOrder_perm {α : Type} (next : Nat → Nat) (xs : Array α) : (pickOrder next xs).toList.Perm xs.toList := by
  unfold pickOrder
  have := pick_go next xs.size 0 xs.toList #[] (by simp)
  simpa using this

section
variable {prog : Program} {w : World} {A : Around} {E : Value → Shared → Prop} {s : Shared} {At : Value → Way × Int → Prop}

theorem wpAny_choose {M : Model} {src : Source} {n : Nat} {Q : Nat → Shared → Prop} (hn : n ≠ 0) (h : ∀ i d, i < n → Q i { s with drawn := d }) : wpAny M A (choose src n) Q E s :=
  fun x x x => ⟨hn, h _ _ (Nat.mod_lt _ (Nat.pos_of_ne_zero hn))⟩

theorem drawOrder_perm {M : Model} {α : Type} : ∀ (n : Nat) (xs : List α) (s : Shared) (Q : List α → Shared → Prop), xs.length ≤ n → (∀ ys d, ys.Perm xs → Q ys { s with drawn := d }) → wpAny M A (drawOrder n xs) Q E s
  | 0, xs, s, Q, h, hQ => by
    have : xs = [] := List.length_eq_zero_iff.mp (by exact Nat.sub_eq_zero_of_le h)
    subst this
    exact wpAny_pure (hQ [] s.drawn (.refl _))
  | n + 1, [], s, Q, h, hQ => by
    exact wpAny_pure (hQ [] s.drawn (.refl _))
  | n + 1, x :: xs, s, Q, h, hQ => by
    refine wpAny_bind (wpAny_choose (by simp) fun i d hi => ?_)
    have he := List.getElem?_eq_getElem hi
    rw [he]
    dsimp only
    refine wpAny_bind (drawOrder_perm n _ _ _ (by rw [List.length_eraseIdx_of_lt hi]; simp at h ⊢; exact h) fun ys d' hp => ?_)
    exact wpAny_pure (hQ _ d' ((hp.cons _).trans (cons_erase_perm he)))

theorem pyIter_set {a : Addr} {es : Array (Int × Value)} {ep : Nat} {t : SetTable} {ps qs : List (Way × Int)} {Q : Value → Shared → Prop} (ho : s.heap.get? a = some (setO es ep t)) (P : PTs prog w At es t ps qs) (hle : ps.length ≤ 100)
    (h1 : (byT prog w = true ∨ es.size ≤ 1) → Q (.ref s.heap.objs.size) { s with heap := s.heap.push (itO (.int 0 0) 0 a es.size ep) })
    (h2 : ∀ (ix : List Nat) d, ix.Perm (List.range es.size) → Q (.ref (s.heap.push (tupO (ix.map fun (k : Nat) => rawInt k))).objs.size) { s with drawn := d, heap := (s.heap.push (tupO (ix.map fun (k : Nat) => rawInt k))).push (itO (.ref s.heap.objs.size) 0 a es.size ep) }) :
    wpAny (model prog w) A (pyIter (.ref a)) Q E s := by
  have hT : s.TypeIs (.ref a) "set" := ⟨_, ho, rfl⟩
  refine wpAny_pyIter_slot hT F.slot_set_iter (wpAny_call_entry F.slot_set_iter hT entry_set_iter ?_ (F.args_set_iter_1 _))
  unfold Builtin.«frozenset.__iter__» Builtin.Frozenset.slot0 slotArgs
  simp -iota only [List.isEmpty_nil, Bool.not_true, Bool.false_eq_true, ↓reduceIte, bind_assoc, List.length_nil, bne_self_eq_false]
  unfold Builtin.Frozenset.addrOf Builtin.Frozenset.sizeOf
  refine wpAny_bind (wpAny_pure ?_)
  try dsimp only
  refine wpAny_bind (wpAny_pure ?_)
  refine wpAny_bind (wpAny_bind (wpAny_setEntries_of ho rfl P.fits (wpAny_pure ?_)))
  unfold setDrawn
  refine wpAny_bind (wpAny_bind (wpAny_setState_of ho rfl P.fits ?_))
  dsimp only
  refine wpAny_bind (wpAny_byT (wpAny_pure ?_))
  show wpAny _ _ (@ite _ ((!byT prog w && (!t.plain && decide (es.size > 1))) = true) _ _ _) _ _ _
  by_cases hd : byT prog w = true ∨ es.size ≤ 1
  · rw [if_neg (by rcases hd with q | q <;> simp [q])]
    refine wpAny_bind (wpAny_pure ?_)
    refine wpAny_bind (wpAny_setEpoch_of ho rfl P.fits ?_)
    exact wpAny_bind (wpAny_newObj_type (wpAny_pure ⟨_, rfl, "set_iterator", _, ⟨_, Heap.get?_push_size _ rfl, rfl⟩, slot_setiter_next.lookup, h1 hd⟩))
  · have hd1 : byT prog w = false := by
      cases hb : byT prog w with
      | true => exact absurd (.inl hb) hd
      | false => rfl
    have hd2 : es.size > 1 := by
      rcases Nat.lt_or_ge 1 es.size with q | q
      · exact q
      · exact absurd (.inr q) hd
    have hd3 : t.plain = false := by
      cases hb : t.plain with
      | true => have := P.plain hb; subst this; exact absurd hd2 (by decide)
      | false => rfl
    rw [if_pos (by rw [hd1, hd3]; simpa using hd2)]
    refine wpAny_bind (drawOrder_perm _ _ _ _ (by simp) fun ix d hix => ?_)
    have hixl : ix.length = es.size := by rw [hix.length_eq, List.length_range]
    unfold newTuple
    have hfit := P.size
    refine wpAny_bind (wpAny_newObj_type ?_ ?_)
    · have ho2 : ({ s with drawn := d, heap := s.heap.push (tupO (ix.map fun (k : Nat) => rawInt k)) } : Shared).heap.get? a = some (setO es ep t) := (Heap.get?_push_ne s.heap a _ (Nat.ne_of_lt (Heap.lt_size ho))).trans ho
      refine wpAny_bind (wpAny_setEpoch_of ho2 rfl P.fits ?_)
      exact wpAny_bind (wpAny_newObj_type (wpAny_pure ⟨_, rfl, "set_iterator", _, ⟨_, Heap.get?_push_size _ rfl, rfl⟩, slot_setiter_next.lookup, h2 ix d hix⟩))
    · have h1 : sizeLine = 2 ^ 24 := rfl
      show (ix.map fun (k : Nat) => rawInt k).toArray.size ≤ sizeLine
      rw [h1, List.size_toArray, List.length_map]
      lia
end
section
variable {prog : Program} {w : World} {A : Around} {E : Value → Shared → Prop} {env : Env} {ns : List Str} {h₀ : Heap} {vs : List (Option Value)} {l : Lg} {s₀ s : Shared}
  {At : Value → Way × Int → Prop}

noncomputable def LPostZ (env : Env) (ns : List Str) (h₀ : Heap) (s₀ : Shared) (z : Lg) (Jn : List (Option Value) → Lg → Prop) (Q : Flow → Shared → Prop) (f : Flow) (s' : Shared) : Prop :=
  match f with
  | .next | .cont => ∃ vs' l', S env ns h₀ vs' (z ++ l') s₀ s' ∧ Jn vs' l'
  | .brk => False
  | .ret v => Q (.ret v) s'

theorem g_forLoopZ {target : Expr} {body : List Stmt} {I : Addr} {n : Nat} {P : Nat → Value → Prop} {Ok : Nat → Obj → Prop} {Need : Heap → Prop} {oI : Obj} {R : Result → Shared → Prop} {Q : Flow → Shared → Prop} (z : Lg)
    (Wi : Iter prog w A I n P Ok Need) (J : Nat → List (Option Value) → Lg → Prop) (st : S env ns h₀ vs ((I, oI) :: (z ++ l)) s₀ s) (hok : Ok 0 oI) (h0 : J 0 vs l)
    (need : ∀ i vs' l' s' o, J i vs' l' → S env ns h₀ vs' ((I, o) :: (z ++ l')) s₀ s' → Need s'.heap)
    (turn : ∀ i v vs' l' z' s' E', i < n → P i v → J i vs' l' → S env ns h₀ vs' (z' ++ l') s₀ s' →
      wpAny (model prog w) A (assign target env v) (fun x s2 => wpAny (model prog w) A (execs body env) (LPostZ env ns h₀ s₀ z' (J (i + 1)) Q) E' s2) E' s')
    (done : ∀ vs' l' s', J n vs' l' → S env ns h₀ vs' l' s₀ s' → R (.ok .next) s')
    (hR : ∀ v s', Q (.ret v) s' → R (.ok (.ret v)) s') :
    codeAny (model prog w) A (.forLoop target (.ref I) body [] env) R s := by
  refine g_forLoop Wi (fun i vs' l1 => ∃ l', l1 = z ++ l' ∧ J i vs' l') st hok ⟨l, rfl, h0⟩ ?_ ?_ ?_ hR
  · rintro i vs' l1 s' o ⟨l', rfl, hJ⟩ st'
    exact need i vs' l' s' o hJ st'
  · rintro i v vs' l1 o s' E' hi hP ⟨l', rfl, hJ⟩ st'
    refine wpAny_mono (turn i v vs' l' ((I, o) :: z) s' E' hi hP hJ (by simpa using st')) (fun y s2 h2 => wpAny_mono h2 (fun f s3 h3 => ?_) fun x x e => e) fun x x e => e
    cases f with
    | next => obtain ⟨vs3, l3, st3, hJ3⟩ := h3; exact ⟨vs3, z ++ l3, by simpa using st3, l3, rfl, hJ3⟩
    | cont => obtain ⟨vs3, l3, st3, hJ3⟩ := h3; exact ⟨vs3, z ++ l3, by simpa using st3, l3, rfl, hJ3⟩
    | brk => exact h3.elim
    | ret v => exact h3
  · rintro vs' l1 s' ⟨l', rfl, hJ⟩ st'
    exact done vs' l' s' hJ st'.dropL

theorem g_for_pset {target : Expr} {body : List Stmt} {a : Addr} {o : Obj} {ps : List (Way × Int)} {Q : Flow → Shared → Prop} (hh : A.handled = none) (st : S env ns h₀ vs l s₀ s) (hm : (a, o) ∈ l) (P : PT prog w At o ps) (hle : ps.length ≤ 100)
    (J : List Value → List (Way × Int) → Nat → List (Option Value) → Lg → Prop) (h0 : ∀ us qs, Vals At us qs → qs.Perm ps → J us qs 0 vs l) (keep : ∀ us qs i vs' l', J us qs i vs' l' → (a, o) ∈ l')
    (turn : ∀ us qs i v vs' l' z s' E', Vals At us qs → qs.Perm ps → us[i]? = some v → J us qs i vs' l' → S env ns h₀ vs' (z ++ l') s₀ s' →
      wpAny (model prog w) A (assign target env v) (fun x s2 => wpAny (model prog w) A (execs body env) (LPostZ env ns h₀ s₀ z (J us qs (i + 1)) Q) E' s2) E' s')
    (done : ∀ us qs vs' l' s', Vals At us qs → qs.Perm ps → J us qs qs.length vs' l' → S env ns h₀ vs' l' s₀ s' → Q .next s') :
    wpAny (model prog w) A (pyIter (.ref a)) (ForRest prog w A env E target body Q) E s := by
  obtain ⟨es, ep, t, qs0, rfl, P⟩ := P
  have ho := st.at hm
  have hsz := P.size
  have hql := P.perm.length_eq
  refine pyIter_set ho P hle (fun hd => ?_) fun ix d hix => ?_
  · have st1 := st.push (itO (.int 0 0) 0 a es.size ep) rfl
    by_cases hb : byT prog w = true
    · have hpm := pickOrder_perm ((model prog w).w.params.setOrder a ep) es
      obtain ⟨qs, r, pm⟩ := Rows.perm hpm.symm P.rows
      have hv := r.vals
      have pm2 := pm.trans P.perm
      have hn : qs.length = es.size := by rw [pm2.length_eq, hsz]
      refine g_forLoopZ [] (iter_text hh P.fits hb (by rw [← Array.length_toList, hpm.length_eq, Array.length_toList])) (J _ qs) st1 rfl (h0 _ qs hv pm2) (fun i vs' l' s' o hJ st' => st'.at (.tail _ (keep _ _ i vs' l' hJ))) (fun i v vs' l' z' s' E' x hP hJ st' => turn _ qs i v vs' l' z' s' E' hv pm2 hP hJ st') (fun vs' l' s' hJ st' => done _ qs vs' l' s' hv pm2 (by rw [hn]; exact hJ) st') fun v s' h => h
    · have hb : byT prog w = false := by simpa using hb
      have hle1 : es.size ≤ 1 := by rcases hd with q | q
                                    · rw [hb] at q; cases q
                                    · exact q
      have hv := P.rows.vals
      have hn : qs0.length = es.size := by rw [hql, hsz]
      refine g_forLoopZ [] (iter_few hh P.ti P.fits hb (by rw [P.led, hb]; rfl) hle1) (J _ qs0) st1 rfl (h0 _ qs0 hv P.perm) (fun i vs' l' s' o hJ st' => st'.at (.tail _ (keep _ _ i vs' l' hJ))) (fun i v vs' l' z' s' E' x hP hJ st' => turn _ qs0 i v vs' l' z' s' E' hv P.perm hP hJ st') (fun vs' l' s' hJ st' => done _ qs0 vs' l' s' hv P.perm (by rw [hn]; exact hJ) st') fun v s' h => h
  · have st1 := ((st.draw d).push (tupO (ix.map fun (k : Nat) => rawInt k)) rfl).push (itO (.ref s.heap.objs.size) 0 a es.size ep) rfl
    have hpm : (ix.map fun k => es.getD k (0, .none)).Perm es.toList := by
      refine (hix.map _).trans ?_
      have : (List.range es.size).map (fun k => es.getD k (0, .none)) = es.toList := by
        apply List.ext_getElem
        · simp
        · intro i h1 h2
          simp at h1
          simp [h1]
      rw [this]
    obtain ⟨qs, r, pm⟩ := Rows.perm hpm.symm P.rows
    have hv := r.vals
    rw [List.map_map] at hv
    have pm2 := pm.trans P.perm
    have hn : qs.length = es.size := by rw [pm2.length_eq, hsz]
    refine g_forLoopZ [(s.heap.objs.size, tupO (ix.map fun (k : Nat) => rawInt k))] (iter_drawn hh P.fits ix hix) (J _ qs) st1 rfl (h0 _ qs hv pm2) (fun i vs' l' s' o hJ st' => ⟨st'.at (.tail _ (.tail _ (keep _ _ i vs' l' hJ))), st'.at (.tail _ (.head _))⟩) (fun i v vs' l' z' s' E' x hP hJ st' => turn _ qs i v vs' l' z' s' E' hv pm2 hP hJ st') (fun vs' l' s' hJ st' => done _ qs vs' l' s' hv pm2 (by rw [hn]; exact hJ) st') fun v s' h => h
end
end Mine.Internal
end
section
set_option tactic.hygienic false
open PySem PySem.W PySem.Calls PyProof.Rows PySem.Spec
set_option maxRecDepth 100000
namespace Mine.Internal

noncomputable def AtL (l : Lg) (v : Value) (p : Way × Int) : Prop := ∃ a q us tk, v = .ref a ∧ (a, tupO [.ref q, .int p.2 tk]) ∈ l ∧ (q, tupO us) ∈ l ∧ WayV us p.1 ∧ Okw p.1 ∧ p.1 ≠ []
theorem AtL.imp {l l' : Lg} (k : ∀ a us, (a, tupO us) ∈ l → (a, tupO us) ∈ l') (v : Value) (p : Way × Int) (x : AtL l v p) : AtL l' v p := by
  obtain ⟨a, q, us, tk, e, h1, h2, r⟩ := x
  exact ⟨a, q, us, tk, e, k _ _ h1, k _ _ h2, r⟩
theorem PT.imp {prog : Program} {w : World} {At Bt : Value → Way × Int → Prop} (k : ∀ v p, At v p → Bt v p) {o : Obj} {ps : List (Way × Int)} (P : PT prog w At o ps) : PT prog w Bt o ps := by
  obtain ⟨es, ep, t, qs, e, P⟩ := P
  exact ⟨es, ep, t, qs, e, ⟨P.ti, P.load, P.rows.imp k, P.perm, P.plain, P.led, P.finger, P.nodup⟩⟩

section
variable {prog : Program} {w : World} {A : Around} {E : Value → Shared → Prop} {s : Shared} {At : Value → Way × Int → Prop}

theorem code_set_new_led {Q₁ : Value → Shared → Prop}
    (h : Q₁ (.ref s.heap.objs.size) { s with heap := s.heap.push (setO #[] 0 (.fresh 0 0 (!byT prog w))) }) :
    codeAny (model prog w) A (.call (.builtin "set.__new__") ⟨[.type "set"], []⟩) (wants Q₁ E) s := by
  refine codeAny_of_tree ?_
  show wpAny _ A.in1 (do checkBuiltinCall "set.__new__" ⟨[.type "set"], []⟩; again (.builtin "set.__new__" ⟨[.type "set"], []⟩)) _ _ s
  refine wpAny_bind (wpAny_of_eq F.newCall_set_0 (wpAny_pure ⟨plainId_quiet F.plain_set_new _, codeAny_builtin F.entry_set_new ?_⟩))
  rw [Around.under_plainId F.plain_set_new _]
  unfold Builtin.«set.__new__» Builtin.Frozenset.newClass
  have hsub := sub_set_self
  unfold byT at h
  obtain ⟨hp, g, d, tk, os⟩ := s
  dsimp only
  wp_walk
  refine wpAny_askSetting (wpAny_pure ?_)
  dsimp only
  simp -iota only [newObj]
  refine wpAny_bind (wpAny_alloc (wpAny_pure ?_))
  exact wpAny_pure h

set_option maxHeartbeats 1000000 in
theorem call_set_led {Q : Value → Shared → Prop}
    (h : Q (.ref s.heap.objs.size) { s with heap := s.heap.push (setO #[] 0 (.fresh 0 0 (!byT prog w))) }) :
    wpAny (model prog w) A (call (.type "set") []) Q E s := by
  obtain ⟨c, tl, hmro⟩ := F.called_set.mro
  have hmade := F.called_set.made
  have hsub := F.called_set.sub
  refine wpAny_call (codeAny_of_tree ?_)
  show wpAny _ _ (callAny (.type "set") _) _ _ _
  refine wpAny_pure ⟨Code.quiet_builtin _ (by decide +kernel), codeAny_builtin F.entry_type_call ?_⟩
  rw [Around.under_plain (weight_type_call_type "set" [] []) rfl]
  have h1 := F.called_set.notType
  have h2 := F.called_set.canCreate
  have hct := F.typeCall_set_0
  repeat (any_goals (first | assumption | wp_step))
  refine codeAny_mono (code_set_new_led (E := E) (Q₁ := fun obj s₁ => obj = .ref s.heap.objs.size ∧ s₁ = { s with heap := s.heap.push (setO #[] 0 (.fresh 0 0 (!byT prog w))) }) ⟨rfl, rfl⟩) fun r s₁ hr => ?_
  cases r with
  | error e => exact hr
  | ok fl =>
    cases fl with
    | ret obj =>
      obtain ⟨rfl, rfl⟩ := hr
      have hS : (s.heap.push (setO #[] 0 (.fresh 0 0 (!byT prog w)))).get? s.heap.objs.size = some (setO #[] 0 (.fresh 0 0 (!byT prog w))) := Heap.get?_push_size _ rfl
      have hT : Shared.TypeIs { s with heap := s.heap.push (setO #[] 0 (.fresh 0 0 (!byT prog w))) } (.ref s.heap.objs.size) "set" := ⟨_, hS, rfl⟩
      have hli := F.called_set.init.lookup
      have hbi := F.called_set.init.bind (.ref s.heap.objs.size)
      repeat (any_goals (first | assumption | wp_step))
      refine codeAny_mono (codeAny_call_builtin (R := wants (fun r s₂ => r = .none ∧ Q (.ref s.heap.objs.size) s₂) E) F.called_set.init.plain F.entry_set_init (check_set_init hT ?_)) fun r₂ s₂ hr₂ => ?_
      · unfold Builtin.«set.__init__» noKeywords
        wp_walk
        exact ⟨rfl, h⟩
      · cases r₂ with
        | error e => exact hr₂
        | ok fl₂ =>
          cases fl₂ with
          | ret r =>
            obtain ⟨rfl, hq⟩ := hr₂
            repeat (any_goals (first | assumption | wp_step))
          | _ => exact hr₂.elim
    | _ => exact hr.elim
end
end Mine.Internal
end
section
set_option tactic.hygienic false
open PySem PySem.W PySem.Calls PyProof.Rows PySem.Spec
set_option maxRecDepth 100000
namespace Mine.Internal
section
variable {prog : Program} {w : World} {A : Around} {E : Value → Shared → Prop} {env : Env} {ns : List Str} {h₀ : Heap} {vs : List (Option Value)} {l : Lg} {s₀ s : Shared}
  {At : Value → Way × Int → Prop}

theorem S.at_pairs {z : Lg} (st : S env ns h₀ vs l s₀ s) (hz : ∀ c ∈ z, c ∈ l) : ∀ v p, AtL z v p → PairAt s.heap v p := by
  rintro v p ⟨a, q, us, tk, e, h1, h2, r⟩
  exact ⟨a, q, us, tk, e, st.at (hz _ h1), st.at (hz _ h2), r⟩

theorem newpend_PT : PT prog w At (setO #[] 0 (.fresh 0 0 (!byT prog w))) [] := ⟨_, _, _, [], rfl, fresh_PTs 0⟩
theorem g_newpend {Q : Value → Shared → Prop} (st : S env ns h₀ vs l s₀ s)
    (h : ∀ a s', S env ns h₀ vs ((a, setO #[] 0 (.fresh 0 0 (!byT prog w))) :: l) s₀ s' → Q (.ref a) s') : wpAny (model prog w) A (call (.type "set") []) Q E s :=
  call_set_led (h _ _ (st.push _ rfl))

theorem PT.set {o : Obj} {ps : List (Way × Int)} (P : PT prog w At o ps) : o.cls = .type "set" ∧ o.dict = none := by
  obtain ⟨es, ep, t, qs, rfl, P⟩ := P
  exact ⟨rfl, rfl⟩

theorem g_padd_meth {a : Addr} {o : Obj} {ps : List (Way × Int)} {pl : Sem Bool} {Q : Value × List Value → Shared → Prop} (st : S env ns h₀ vs l s₀ s) (hm : (a, o) ∈ l) (P : PT prog w At o ps)
    (h : Q (.builtin "set.add", [.ref a]) s) : wpAny (model prog w) A (getMethod (.ref a) "add" pl) Q E s :=
  getMethod_builtin ⟨_, st.at hm, P.set.1⟩ F.plainAttrs_set F.slot_set_add F.type_set_add (fun b e => by cases e; exact ⟨_, st.at hm, P.set.2⟩) h
theorem g_pclear_meth {a : Addr} {o : Obj} {ps : List (Way × Int)} {pl : Sem Bool} {Q : Value × List Value → Shared → Prop} (st : S env ns h₀ vs l s₀ s) (hm : (a, o) ∈ l) (P : PT prog w At o ps)
    (h : Q (.builtin "set.clear", [.ref a]) s) : wpAny (model prog w) A (getMethod (.ref a) "clear" pl) Q E s :=
  getMethod_builtin ⟨_, st.at hm, P.set.1⟩ F.plainAttrs_set F.slot_set_clear F.type_set_clear (fun b e => by cases e; exact ⟨_, st.at hm, P.set.2⟩) h

theorem g_padd {z : Lg} {a : Addr} {o : Obj} {l' : Obj → Lg} {x : Value} {p : Way × Int} {ps : List (Way × Int)} {Q : Value → Shared → Prop} (hu : A.units + 70 < cLine) (st : S env ns h₀ vs l s₀ s) (U : ∀ o', UpdL a o o' l (l' o')) (hz : ∀ c ∈ z, c ∈ l)
    (P : PT prog w (AtL z) o ps) (hx : AtL z x p) (hlen : ps.length < 70)
    (h : ∀ o' s', PT prog w (AtL z) o' (addP ps p) → S env ns h₀ vs (l' o') s₀ s' → Q .none s') : wpAny (model prog w) A (call (.builtin "set.add") [.ref a, x]) Q E s := by
  have hT : s.TypeIs (.ref a) "set" := ⟨_, st.at (U o).mem, P.set.1⟩
  refine wpAny_call_entry F.slot_set_add hT F.entry_set_add ?_ (F.args_set_add_2 _ _)
  unfold Builtin.«set.add» Builtin.Frozenset.oneOther
  simp only [List.isEmpty_nil, bind_assoc]
  unfold Builtin.Frozenset.addrOf
  refine wpAny_bind (wpAny_pure ?_)
  try dsimp only
  refine wpAny_bind (wpAny_pure ?_)
  try dsimp only
  refine wpAny_bind (setAdd_pair (by show A.units + 1 + 64 < cLine; exact qft fun x => qfa2 x hu (by simp +arith only)) (st.at (U o).mem) P (st.at_pairs hz) hx hlen fun b o' h' tk hs ho' P' => ?_)
  show wpAny _ _ (ret Value.none) _ _ _
  exact wpAny_pure ⟨_, rfl, h o' _ P' (st.upd (U o') hs ho')⟩

theorem g_pclear {a : Addr} {o : Obj} {l' : Obj → Lg} {ps : List (Way × Int)} {Q : Value → Shared → Prop} (st : S env ns h₀ vs l s₀ s) (U : ∀ o', UpdL a o o' l (l' o'))
    (P : PT prog w At o ps)
    (h : ∀ o' s', PT prog w At o' [] → S env ns h₀ vs (l' o') s₀ s' → Q .none s') : wpAny (model prog w) A (call (.builtin "set.clear") [.ref a]) Q E s := by
  have hT : s.TypeIs (.ref a) "set" := ⟨_, st.at (U o).mem, P.set.1⟩
  have ho := st.at (U o).mem
  obtain ⟨es, ep, t, qs, rfl, P⟩ := P
  refine wpAny_call_entry F.slot_set_clear hT F.entry_set_clear ?_ (F.args_set_clear_1 _)
  unfold Builtin.«set.clear» Builtin.Frozenset.noArgs
  simp only [List.isEmpty_nil, bind_assoc]
  unfold Builtin.Frozenset.addrOf Builtin.Frozenset.clearAll
  refine wpAny_bind (wpAny_pure ?_)
  refine wpAny_bind (wpAny_bind (setClear_pair ho P fun old h' o' hs ho' P' => ?_))
  have key : wpAny (model prog w) A.in1 (ret Value.none) (fun fin s' => ∃ v, fin = Fin.done (Flow.ret v) ∧ Q v s') E { s with heap := h' } :=
    wpAny_pure ⟨_, rfl, h o' _ P' (st.upd (U o') hs ho')⟩
  cases old with
  | none =>
    show wpAny _ _ point _ _ _
    exact wpAny_point key
  | some old =>
    show wpAny _ _ (letGo _) _ _ _
    exact wpAny_letGo key
end
end Mine.Internal
end
section
set_option tactic.hygienic false
open PySem PySem.W PySem.Calls PyProof.Rows
set_option maxRecDepth 100000
namespace Mine.Internal
theorem dummyM : (PySem.Challenge.rw_aa0050_01 = PySem.Challenge.rw_aa0050_01 ∧ hkF = hkF) := by k_fill; exact ⟨rfl, rfl⟩

theorem look_below {prog : Program} {w : World} {M : List Str} {F : FO} {τ : AbsT} (H : F.Is prog w M τ) : ∀ (x v : Way), v ≠ [] → F.look v = none → F.look (v ++ x) = none
  | [], v, hv, h => by simpa using h
  | k :: x, v, hv, h => by
    have h1 : F.look (v ++ [k]) = none := by
      cases e : F.look (v ++ [k]) with
      | none => rfl
      | some y =>
        rcases H.closed v k (by rw [e]; simp) with q | q
        · exact absurd q hv
        · exact absurd h q
    have := look_below H x (v ++ [k]) (by simp) h1
    simpa using this
theorem cut_id {prog : Program} {w : World} {M : List Str} {F : FO} {τ : AbsT} (H : F.Is prog w M τ) {v way : Way} (hv : v ≠ []) (h : F.look v = none) (hp : v <+: way) : cutT τ way = τ := by
  funext u
  unfold cutT
  split
  · rename_i q
    obtain ⟨y, rfl⟩ := hp.trans (pre_iff.mp q)
    exact (H.gone _ (look_below H y v hv h)).symm
  · rfl

inductive FJ (F : FO) (zr : Lg) (q : Addr) (way : Way) (i : Nat) : List (Option Value) → Lg → Prop
  | mk (a : Addr) (o : Obj) (kx : Option Value) : F.dictAt (way.take i) = some (a, o) → FJ F zr q way i [some (.ref F.f), some (.ref q), some (.ref a), kx] zr
section
variable {prog : Program} {w : World} {A : Around} {E : Value → Shared → Prop} {env : Env} {ns : List Str} {h₀ : Heap} {vs : List (Option Value)} {l : Lg} {s₀ s : Shared}
  {p : Program} {loose : List Str} {mean : ExcName → Option Value} {mg mb : Str → Option Value} {d u : Nat}

theorem unset_spec {M : List Str} {F : FO} {τ : AbsT} {rest : Lg} {q : Addr} {us : List Value} {way : Way} {R : Result → Shared → Prop}
    (fn : Fn env ns) (cx : Cx (hkF w.params) p loose mean mg mb (d + 1) (u + 3) A env h₀) (st : S env ns h₀ vs (F.cells ++ rest) s₀ s)
    (H : F.Is prog w M τ) (hq : (q, tupO us) ∈ rest) (hw : WayV us way) (hz : us.length ≤ sizeLine) (hne : way ≠ []) (hM : M.length ≤ 100)
    (h : ∀ F' s', F'.Is prog w M (cutT τ way) → F.Same F' → S env ns h₀ vs (F'.cells ++ rest) s₀ s' → R (.ok (.ret .none)) s') :
    codeAny (model prog w) A (.call (.ref 49) ⟨[.ref F.f, .ref q], []⟩) R s := by
  refine S_call (d := d) (u := u) (ns' := ["self", "key", "cont", "k"]) (vs' := [some (.ref F.f), some (.ref q), none, none])
    [("self", .ref F.f), ("key", .ref q)] ["cont", "k"] fn cx st (by k_is) (by k_is) (BindsTo.of_eq rfl) rfl rfl (fn_of (by rfl) (by decide) rfl) (by decide) ?_
  intro env1 g A1 s1 E' he fn1 cx1 st1
  generalize hSR : SRet _ _ _ _ _ _ _ _ _ = RR0; revert RR0; refine hold ?_; intro RR0 hSR
  have hint : interactive env1 = false := by obtain ⟨L', e⟩ := he; rw [e]; rfl
  have hlen := hw.length
  have hpos : 0 < way.length := by cases way with | nil => exact absurd rfl hne | cons _ _ => simp
  obtain ⟨v, hv⟩ : ∃ v, us[way.length - 1]? = some v := ⟨us[way.length - 1], List.getElem?_eq_getElem (by exact Nat.le_trans (qfs2 (List.length way) (1) (by exact hpos)) (qfg hlen))⟩
  obtain ⟨ks, tks, rfl, hks⟩ := hw.get hv
  have hq1 : (q, tupO us) ∈ F.cells ++ rest := List.mem_append_right _ hq
  refine w_cons (w_assign 2 fn1 rfl (w_attr (w_name 0 fn1 st1 rfl rfl (w_flags cx1 st1 H (fun c hc => List.mem_append_left _ hc) fun s3 st3 => ⟨_, _, st3, Nat.le_of_ble_eq_true rfl, fun s4 st4 => ?_⟩))))
  refine w_cons (w_for ?_)
  refine w_subslice (w_name 1 fn1 st4 rfl rfl (wpart_0 (wpart_e (w_neg1 st4 fun t5 s5 st5 => ?_))))
  refine w_slice_tup st5 hq1 .none (.int _ _) hz fun z a s6 st6 ha => ?_
  have ha := ha _ hq1
  rw [sl_init] at ha
  have mc : ∀ c ∈ F.cells, c ∈ z ++ (F.cells ++ rest) := fun c hc => List.mem_append_right _ (List.mem_append_left _ hc)
  refine w_for_tuple cx1.hand st6 ha (FJ F (z ++ (F.cells ++ rest)) q way)
    (.mk F.root F.oroot none rfl) (fun i vs' l' hJ => by obtain ⟨_⟩ := hJ; exact ha) ?_ ?_
  · intro i v vs' l' I oI s' E2 hv hJ st'
    generalize hLP : LPost _ _ _ _ _ _ _ _ = QQ; revert QQ; refine hold ?_; intro QQ hLP
    obtain ⟨a1, o1, kx, hd1⟩ := hJ
    obtain ⟨k, tk, rfl, hk⟩ := hw.dropLast.get hv
    have mI : ∀ c ∈ F.cells, c ∈ (I, oI) :: (z ++ (F.cells ++ rest)) := fun c hc => .tail _ (mc c hc)
    obtain ⟨kvs, hkv, hkids⟩ := H.kids _ _ _ hd1
    have hki : way[i]? = some k := by
      rw [List.getElem?_dropLast] at hk
      split at hk
      · exact hk
      · cases hk
    have htake : way.take (i + 1) = way.take i ++ [k] := by rw [List.take_add_one, hki]; rfl
    refine w_aname (w_store 3 fn1 st' rfl (Nat.le_of_ble_eq_true rfl) fun s2 st2 => ?_)
    refine w_cons (w_if (w_testcmp (w_name 3 fn1 st2 rfl rfl (w_name 2 fn1 st2 rfl rfl (w_notin_dict st2 (mI _ (dict_mem hd1)) hkv (H.low _ _ _ hd1) fun s3 st3 => w_tbool ?_)))))
    cases hl : valueAt kvs k with
    | none =>
      refine w_cons (w_ret0 ?_)
      have hn : F.look (way.take (i + 1)) = none := by
        rw [htake]
        cases e : F.look (way.take i ++ [k]) with
        | none => rfl
        | some y => have := (hkids k _).mpr ⟨y, e, rfl⟩; rw [hl] at this; cases this
      subst hLP; subst hSR
      change SRet _ _ _ _ _ _ _ _ _ _ _
      refine SRet.intro st3.drop.dropL fun st => ?_
      refine h F _ ?_ (.refl F) st
      rw [cut_id H (by rw [htake]; simp) hn (List.take_prefix _ _)]
      exact H
    | some x =>
      obtain ⟨y, hy, rfl⟩ := (hkids k x).mp hl
      refine w_nil ?_
      have hyn := H.node_at hy
      refine w_cons (w_assign 2 fn1 rfl (w_subE (w_subE (w_name 2 fn1 st3 rfl rfl (w_name 3 fn1 st3 rfl rfl (w_tail_dict st3 (mI _ (dict_mem hd1)) hkv hl fun s4 st4 => w_str st4 fun t5 s5 st5 => w_tail_dict st5 (mI _ (mem_cells hy (.head _))) hyn rfl fun s6 st6 => ⟨_, _, st6, Nat.le_of_ble_eq_true rfl, fun s7 st7 => ?_⟩))))))
      refine w_nil ?_
      subst hLP
      refine ⟨_, _, st7, .mk y.nd y.ond _ ?_⟩
      rw [htake]; exact H.dict_of hy
  · rintro vs' l' s' ⟨a1, o1, kx, hd1⟩ st'
    have hidx : us.dropLast.length = way.length - 1 := by rw [List.length_dropLast, hlen]
    rw [hidx] at hd1
    have hway : way = way.take (way.length - 1) ++ [ks] := by
      conv => lhs; rw [← List.take_length (l := way), show way.length = way.length - 1 + 1 by exact (Nat.sub_add_cancel hpos).symm, List.take_add_one, hks]
      rfl
    obtain ⟨kvs, hkv, hkids⟩ := H.kids _ _ _ hd1
    have hkl := H.len hM hkv hkids
    refine w_cons (w_exprA hint (w_meth (w_name 2 fn1 st' rfl rfl (w_pop_meth st' (mc _ (dict_mem hd1)) hkv (w_cwBuiltin (w_args (w_subE (w_name 1 fn1 st' rfl rfl (w_neg1 st' fun t7 s7 st7 => w_item_tup st7 (List.mem_append_right _ hq1) (by decide) (by decide) (seqIndex_last (by exact Nat.le_trans hpos (qfg hlen))) (hlen ▸ hv) ?_)))))))))
    refine w_args (w_none ?_)
    refine w_args0 ?_
    cases hl : valueAt kvs ks with
    | none =>
      refine w_pop_none st7 (mc _ (dict_mem hd1)) hkv (H.low _ _ _ hd1) hl fun s8 st8 => ?_
      refine w_nil ?_
      subst hSR
      change SRet _ _ _ _ _ _ _ _ _ _ _
      refine SRet.intro st8.dropL fun st => h F _ ?_ (.refl F) st
      have hn : F.look way = none := by
        rw [hway]
        cases e : F.look (way.take (way.length - 1) ++ [ks]) with
        | none => rfl
        | some y => have := (hkids ks _).mpr ⟨y, e, rfl⟩; rw [hl] at this; cases this
      rw [cut_id H hne hn (List.prefix_refl _)]
      exact H
    | some x =>
      refine w_pop (l' := fun o' => z ++ ((F.setDict (way.take (way.length - 1)) o').cells ++ rest)) st7 (fun o' => .app (.left (FO.setDict_upd H.keys hd1))) hkv hkl hl fun o' s8 ho' st8 => ?_
      refine w_nil ?_
      subst hSR
      change SRet _ _ _ _ _ _ _ _ _ _ _
      refine SRet.intro (st8.dropL.sub ((FO.cut_sub F (way.take (way.length - 1)) o' ks).append_right _)) fun st => h _ _ ?_ (FO.Same.cut _ _ _ _) st
      have := Is_cut H hd1 hkids ho'
      rw [← hway] at this
      exact this
end
end Mine.Internal
end
section
set_option tactic.hygienic false
open PySem PySem.W PySem.Calls PyProof.Rows PySem.Spec
set_option maxRecDepth 100000
namespace Mine.Internal
section
variable {prog : Program} {w : World} {A : Around} {E : Value → Shared → Prop} {env env2 : Env} {ns : List Str} {h₀ : Heap} {vs : List (Option Value)} {l : Lg} {s₀ s : Shared}
  {K : Frag} {p : Program} {loose : List Str} {mean : ExcName → Option Value} {mg mb : Str → Option Value} {d u : Nat} {scope : Scope} {cl : List (Str × Addr)} {At : Value → Way × Int → Prop}
theorem w_for_pset {target : Expr} {body : List Stmt} {a : Addr} {o : Obj} {ps : List (Way × Int)} {Q : Flow → Shared → Prop} (hh : A.handled = none) (st : S env ns h₀ vs l s₀ s) (hm : (a, o) ∈ l) (P : PT prog w At o ps) (hle : ps.length ≤ 100)
    (J : List Value → List (Way × Int) → Nat → List (Option Value) → Lg → Prop) (h0 : ∀ us qs, Vals At us qs → qs.Perm ps → J us qs 0 vs l) (keep : ∀ us qs i vs' l', J us qs i vs' l' → (a, o) ∈ l')
    (turn : ∀ us qs i v vs' l' z s' E', Vals At us qs → qs.Perm ps → us[i]? = some v → J us qs i vs' l' → S env ns h₀ vs' (z ++ l') s₀ s' →
      W (model prog w) A (assign target env v) (fun x s2 => W (model prog w) A (execs body env) (LPostZ env ns h₀ s₀ z (J us qs (i + 1)) Q) E' s2) E' s')
    (done : ∀ us qs vs' l' s', Vals At us qs → qs.Perm ps → J us qs qs.length vs' l' → S env ns h₀ vs' l' s₀ s' → Q .next s') :
    W (model prog w) A (pyIter (.ref a)) (ForRest prog w A env E target body Q) E s := by
  with_unfolding_all exact g_for_pset hh st hm P hle J h0 keep turn done
theorem w_padd_meth {a : Addr} {o : Obj} {ps : List (Way × Int)} {pl : Sem Bool} {Q : Value × List Value → Shared → Prop} (st : S env ns h₀ vs l s₀ s) (hm : (a, o) ∈ l) (P : PT prog w At o ps)
    (h : Q (.builtin "set.add", [.ref a]) s) : W (model prog w) A (getMethod (.ref a) "add" pl) Q E s := by
  with_unfolding_all exact g_padd_meth st hm P h
theorem w_pclear_meth {a : Addr} {o : Obj} {ps : List (Way × Int)} {pl : Sem Bool} {Q : Value × List Value → Shared → Prop} (st : S env ns h₀ vs l s₀ s) (hm : (a, o) ∈ l) (P : PT prog w At o ps)
    (h : Q (.builtin "set.clear", [.ref a]) s) : W (model prog w) A (getMethod (.ref a) "clear" pl) Q E s := by
  with_unfolding_all exact g_pclear_meth st hm P h
theorem w_padd {z : Lg} {a : Addr} {o : Obj} {l' : Obj → Lg} {x : Value} {p : Way × Int} {ps : List (Way × Int)} {Q : Value → Shared → Prop} (hu : A.units + 70 < cLine) (st : S env ns h₀ vs l s₀ s) (U : ∀ o', UpdL a o o' l (l' o')) (hz : ∀ c ∈ z, c ∈ l)
    (P : PT prog w (AtL z) o ps) (hx : AtL z x p) (hlen : ps.length < 70)
    (h : ∀ o' s', PT prog w (AtL z) o' (addP ps p) → S env ns h₀ vs (l' o') s₀ s' → Q .none s') : W (model prog w) A (call (.builtin "set.add") [.ref a, x]) Q E s := by
  with_unfolding_all exact g_padd hu st U hz P hx hlen h
theorem w_pclear {a : Addr} {o : Obj} {l' : Obj → Lg} {ps : List (Way × Int)} {Q : Value → Shared → Prop} (st : S env ns h₀ vs l s₀ s) (U : ∀ o', UpdL a o o' l (l' o'))
    (P : PT prog w At o ps)
    (h : ∀ o' s', PT prog w At o' [] → S env ns h₀ vs (l' o') s₀ s' → Q .none s') : W (model prog w) A (call (.builtin "set.clear") [.ref a]) Q E s := by
  with_unfolding_all exact g_pclear st U P h
end
end Mine.Internal
end
section
set_option tactic.hygienic false
open PySem PySem.W PySem.Calls PyProof.Rows
set_option maxRecDepth 100000
namespace Mine.Internal
theorem dummyN : (PySem.Challenge.rw_aa0050_01 = PySem.Challenge.rw_aa0050_01 ∧ hkF = hkF) := by k_fill; exact ⟨rfl, rfl⟩

noncomputable def FO.pend (F : FO) (o' : Obj) : FO := { F with opd := o' }
theorem FO.Is.pend {prog : Program} {w : World} {M : List Str} {F : FO} {τ : AbsT} (H : F.Is prog w M τ) (o' : Obj) : (F.pend o').Is prog w M τ :=
  ⟨H.fd, H.low, H.keys, H.nonil, H.menu, H.node, H.nlow, H.flags, H.gone, H.kids, H.closed⟩
theorem FO.pend_upd (F : FO) (o' : Obj) : UpdL F.pd F.opd o' F.cells (F.pend o').cells := .tail (.tail (.tail .head))
noncomputable def finT (τ : AbsT) (qs : List (Way × Int)) : AbsT := qs.foldl (fun τ p => setT τ p.1 p.2 false) τ

section
variable {prog : Program} {w : World} {A : Around} {E : Value → Shared → Prop} {env : Env} {ns : List Str} {h₀ : Heap} {vs : List (Option Value)} {l : Lg} {s₀ s : Shared}
  {p : Program} {loose : List Str} {mean : ExcName → Option Value} {mg mb : Str → Option Value} {d u : Nat}

theorem g_pflags {F : FO} {M : List Str} {τ : AbsT} {x : Bool} {Q : Value → Shared → Prop} (cx : Cx (hkF w.params) p loose mean mg mb d u A env h₀) (st : S env ns h₀ vs l s₀ s) (H : F.Is prog w M τ) (hc : ∀ c ∈ F.cells, c ∈ l)
    (h : ∀ s', S env ns h₀ vs l s₀ s' → Q (.ref F.pd) s') : wpAny (model prog w) A (getAttr (.ref F.f) "_pending_flags" x) Q E s := by
  obtain ⟨a0, t0, a1, t1, n, e⟩ := H.fd
  have m1 := hc _ (.head _)
  have m2 := hc _ (.tail _ (.head _))
  rw [e] at m2
  refine get_own (es := [⟨a0, .str "_flags" t0, .ref F.root⟩, ⟨a1, .str "_pending_flags" t1, .ref F.pd⟩]) st.fr cx.x ⟨st.at m1, rfl, rfl, st.at m2⟩ (by k_is) (by k_is) (by k_is) (by k_is) (by k_get) rfl (h _ (st.tok _))
theorem w_pflags {F : FO} {M : List Str} {τ : AbsT} {x : Bool} {Q : Value → Shared → Prop} (cx : Cx (hkF w.params) p loose mean mg mb d u A env h₀) (st : S env ns h₀ vs l s₀ s) (H : F.Is prog w M τ) (hc : ∀ c ∈ F.cells, c ∈ l)
    (h : ∀ s', S env ns h₀ vs l s₀ s' → Q (.ref F.pd) s') : W (model prog w) A (getAttr (.ref F.f) "_pending_flags" x) Q E s := .mk (g_pflags cx st H hc h)

theorem w_mset {F : FO} {M : List Str} {τ : AbsT} {pl : Sem Bool} {Q : Value × List Value → Shared → Prop} (cx : Cx (hkF w.params) p loose mean mg mb d u A env h₀) (st : S env ns h₀ vs l s₀ s) (H : F.Is prog w M τ) (hc : ∀ c ∈ F.cells, c ∈ l)
    (h : Q (.ref 56, [.ref F.f]) s) : W (model prog w) A (getMethod (.ref F.f) "set" pl) Q E s := by
  obtain ⟨a0, t0, a1, t1, n, e⟩ := H.fd
  have m1 := hc _ (.head _)
  have m2 := hc _ (.tail _ (.head _))
  rw [e] at m2
  exact .mk (method_inst (es := [⟨a0, .str "_flags" t0, .ref F.root⟩, ⟨a1, .str "_pending_flags" t1, .ref F.pd⟩]) st.fr cx.x ⟨st.at m1, rfl, rfl, st.at m2⟩ (by k_is) (by k_is) (by k_is) (by k_get) h)
theorem w_madd {F : FO} {M : List Str} {τ : AbsT} {pl : Sem Bool} {Q : Value × List Value → Shared → Prop} (cx : Cx (hkF w.params) p loose mean mg mb d u A env h₀) (st : S env ns h₀ vs l s₀ s) (H : F.Is prog w M τ) (hc : ∀ c ∈ F.cells, c ∈ l)
    (h : Q (.ref 35, [.ref F.f]) s) : W (model prog w) A (getMethod (.ref F.f) "add_pending" pl) Q E s := by
  obtain ⟨a0, t0, a1, t1, n, e⟩ := H.fd
  have m1 := hc _ (.head _)
  have m2 := hc _ (.tail _ (.head _))
  rw [e] at m2
  exact .mk (method_inst (es := [⟨a0, .str "_flags" t0, .ref F.root⟩, ⟨a1, .str "_pending_flags" t1, .ref F.pd⟩]) st.fr cx.x ⟨st.at m1, rfl, rfl, st.at m2⟩ (by k_is) (by k_is) (by k_is) (by k_get) h)
theorem w_mfin {F : FO} {M : List Str} {τ : AbsT} {pl : Sem Bool} {Q : Value × List Value → Shared → Prop} (cx : Cx (hkF w.params) p loose mean mg mb d u A env h₀) (st : S env ns h₀ vs l s₀ s) (H : F.Is prog w M τ) (hc : ∀ c ∈ F.cells, c ∈ l)
    (h : Q (.ref 42, [.ref F.f]) s) : W (model prog w) A (getMethod (.ref F.f) "finalize_pending" pl) Q E s := by
  obtain ⟨a0, t0, a1, t1, n, e⟩ := H.fd
  have m1 := hc _ (.head _)
  have m2 := hc _ (.tail _ (.head _))
  rw [e] at m2
  exact .mk (method_inst (es := [⟨a0, .str "_flags" t0, .ref F.root⟩, ⟨a1, .str "_pending_flags" t1, .ref F.pd⟩]) st.fr cx.x ⟨st.at m1, rfl, rfl, st.at m2⟩ (by k_is) (by k_is) (by k_is) (by k_get) h)
theorem w_munset {F : FO} {M : List Str} {τ : AbsT} {pl : Sem Bool} {Q : Value × List Value → Shared → Prop} (cx : Cx (hkF w.params) p loose mean mg mb d u A env h₀) (st : S env ns h₀ vs l s₀ s) (H : F.Is prog w M τ) (hc : ∀ c ∈ F.cells, c ∈ l)
    (h : Q (.ref 49, [.ref F.f]) s) : W (model prog w) A (getMethod (.ref F.f) "unset_all" pl) Q E s := by
  obtain ⟨a0, t0, a1, t1, n, e⟩ := H.fd
  have m1 := hc _ (.head _)
  have m2 := hc _ (.tail _ (.head _))
  rw [e] at m2
  exact .mk (method_inst (es := [⟨a0, .str "_flags" t0, .ref F.root⟩, ⟨a1, .str "_pending_flags" t1, .ref F.pd⟩]) st.fr cx.x ⟨st.at m1, rfl, rfl, st.at m2⟩ (by k_is) (by k_is) (by k_is) (by k_get) h)
theorem w_mis {F : FO} {M : List Str} {τ : AbsT} {pl : Sem Bool} {Q : Value × List Value → Shared → Prop} (cx : Cx (hkF w.params) p loose mean mg mb d u A env h₀) (st : S env ns h₀ vs l s₀ s) (H : F.Is prog w M τ) (hc : ∀ c ∈ F.cells, c ∈ l)
    (h : Q (.ref 63, [.ref F.f]) s) : W (model prog w) A (getMethod (.ref F.f) "is_" pl) Q E s := by
  obtain ⟨a0, t0, a1, t1, n, e⟩ := H.fd
  have m1 := hc _ (.head _)
  have m2 := hc _ (.tail _ (.head _))
  rw [e] at m2
  exact .mk (method_inst (es := [⟨a0, .str "_flags" t0, .ref F.root⟩, ⟨a1, .str "_pending_flags" t1, .ref F.pd⟩]) st.fr cx.x ⟨st.at m1, rfl, rfl, st.at m2⟩ (by k_is) (by k_is) (by k_is) (by k_get) h)

theorem add_spec {M : List Str} {F : FO} {τ : AbsT} {rest zz : Lg} {q : Addr} {us : List Value} {way : Way} {flag : Int} {t : Tok} {ps : List (Way × Int)} {R : Result → Shared → Prop}
    (fn : Fn env ns) (cx : Cx (hkF w.params) p loose mean mg mb (d + 1) (u + 73) A env h₀) (st : S env ns h₀ vs (F.cells ++ rest) s₀ s)
    (H : F.Is prog w M τ) (hzz : ∀ c ∈ zz, c ∈ rest) (hP : PT prog w (AtL zz) F.opd ps) (hlen : ps.length < 70) (hq : (q, tupO us) ∈ zz) (hw : WayV us way) (hok : Okw way) (hne : way ≠ [])
    (h : ∀ a o' s', (F.pend o').Is prog w M τ → PT prog w (AtL ((a, tupO [.ref q, .int flag t]) :: zz)) o' (addP ps (way, flag)) → S env ns h₀ vs ((F.pend o').cells ++ ((a, tupO [.ref q, .int flag t]) :: rest)) s₀ s' → R (.ok (.ret .none)) s') :
    codeAny (model prog w) A (.call (.ref 35) ⟨[.ref F.f, .ref q, .int flag t], []⟩) R s := by
  refine S_call (d := d) (u := u + 70) (ns' := ["self", "key", "flag"]) (vs' := [some (.ref F.f), some (.ref q), some (.int flag t)])
    [("self", .ref F.f), ("key", .ref q), ("flag", .int flag t)] [] fn cx st (by k_is) (by k_is) (BindsTo.of_eq rfl) rfl rfl (fn_of (by rfl) (by decide) rfl) (by decide) ?_
  intro env1 g A1 s1 E' he fn1 cx1 st1
  generalize hSR : SRet _ _ _ _ _ _ _ _ _ = RR0; revert RR0; refine hold ?_; intro RR0 hSR
  have hint : interactive env1 = false := by obtain ⟨L', e⟩ := he; rw [e]; rfl
  have hc : ∀ c ∈ F.cells, c ∈ F.cells ++ rest := fun c hc => List.mem_append_left _ hc
  have hpd : (F.pd, F.opd) ∈ F.cells := .tail _ (.tail _ (.tail _ (.head _)))
  refine w_cons (w_exprA hint (w_meth (w_attr (w_name 0 fn1 st1 rfl rfl (w_pflags cx1 st1 H hc fun s2 st2 => ?_)))))
  refine w_padd_meth st2 (hc _ hpd) hP (w_cwBuiltin (w_args (w_tupleE (w_args (w_name 1 fn1 st2 rfl rfl (w_args (w_name 2 fn1 st2 rfl rfl (w_args0 (w_tuple st2 (fun a s3 st3 => w_args0 ?_)))))))))) 
  refine w_padd (p := (way, flag)) (z := (a, tupO [.ref q, .int flag t]) :: zz) (l' := fun o' => (a, tupO [.ref q, .int flag t]) :: ((F.pend o').cells ++ rest)) (by have := cx1.units; exact qft fun x => qfa2 x this (by simp +arith only)) st3 (fun o' => .tail (.left (F.pend_upd o'))) ?_ (hP.imp (AtL.imp fun x x h => .tail _ h)) ⟨a, q, us, t, rfl, .head _, .tail _ hq, hw, hok, hne⟩ hlen fun o' s4 hP' st4 => ?_
  · intro c hc
    rcases List.mem_cons.mp hc with rfl | hc
    · exact .head _
    · exact .tail _ (List.mem_append_right _ (hzz _ hc))
  · refine w_nil ?_
    subst hSR
    change SRet _ _ _ _ _ _ _ _ _ _ _
    refine SRet.intro st4.mid fun st => h a o' _ (H.pend o') hP' st

theorem finalize_spec {M : List Str} {F : FO} {τ : AbsT} {rest zz : Lg} {ps : List (Way × Int)} {R : Result → Shared → Prop}
    (fn : Fn env ns) (cx : Cx (hkF w.params) p loose mean mg mb (d + 2) (u + 6) A env h₀) (st : S env ns h₀ vs (F.cells ++ rest) s₀ s)
    (H : F.Is prog w M τ) (hzz : ∀ c ∈ zz, c ∈ rest) (hP : PT prog w (AtL zz) F.opd ps) (hlen : ps.length ≤ 100) (hps : ∀ p ∈ ps, (p.2 = 0 ∨ p.2 = 1) ∧ (∀ z ∈ p.1, z ∈ M) ∧ p.1.length ≤ 100) (hM : M.length ≤ 100)
    (h : ∀ (F' : FO) (qs : List (Way × Int)) (s' : Shared), qs.Perm ps → F'.Is prog w M (finT τ qs) → F'.f = F.f → PT prog w (AtL zz) F'.opd [] → S env ns h₀ vs (F'.cells ++ rest) s₀ s' → R (.ok (.ret .none)) s') :
    codeAny (model prog w) A (.call (.ref 42) ⟨[.ref F.f], []⟩) R s := by
  refine S_call (d := d + 1) (u := u + 3) (ns' := ["self", "key", "flag"]) (vs' := [some (.ref F.f), none, none])
    [("self", .ref F.f)] ["key", "flag"] fn cx st (by k_is) (by k_is) (BindsTo.of_eq rfl) rfl rfl (fn_of (by rfl) (by decide) rfl) (by decide) ?_
  intro env1 g A1 s1 E' he fn1 cx1 st1
  generalize hSR : SRet _ _ _ _ _ _ _ _ _ = RR0; revert RR0; refine hold ?_; intro RR0 hSR
  have hint : interactive env1 = false := by obtain ⟨L', e⟩ := he; rw [e]; rfl
  have hc : ∀ (F : FO), ∀ c ∈ F.cells, c ∈ F.cells ++ rest := fun F c hc => List.mem_append_left _ hc
  have hpd : ∀ F : FO, (F.pd, F.opd) ∈ F.cells := fun F => .tail _ (.tail _ (.tail _ (.head _)))
  refine w_cons (w_for (w_attr (w_name 0 fn1 st1 rfl rfl (w_pflags cx1 st1 H (hc F) fun s2 st2 => ?_))))
  refine w_for_pset cx1.hand st2 (hc F _ (hpd F)) hP hlen (fun us qs i vs' l' => ∃ F' kx fx, l' = F'.cells ++ rest ∧ F'.Is prog w M (finT τ (qs.take i)) ∧ F.Same F' ∧ vs' = [some (.ref F.f), kx, fx])
    (fun us qs x x => ⟨F, none, none, rfl, H, .refl F, rfl⟩) (fun us qs i vs' l' hJ => ?_) ?_ ?_
  · obtain ⟨F', kx, fx, rfl, H', sm, rfl⟩ := hJ
    rw [← sm.pd, ← sm.opd]
    exact hc F' _ (hpd F')
  · rintro us qs i v vs' l' z s' E2 hv hqp hi ⟨F', kx, fx, rfl, H', sm, rfl⟩ st'
    obtain ⟨p, hp, a, q, us', tk, rfl, m1, m2, hw, hok, hne⟩ := hv.at hi
    have hpp := hps p (hqp.mem_iff.mp (List.mem_of_getElem? hp))
    have mz : ∀ c ∈ F'.cells ++ rest, c ∈ z ++ (F'.cells ++ rest) := fun c hc => List.mem_append_right _ hc
    have mr : ∀ c ∈ zz, c ∈ z ++ (F'.cells ++ rest) := fun c hc => List.mem_append_right _ (List.mem_append_right _ (hzz _ hc))
    refine w_unpack cx1.hand st' (mr _ m1) rfl rfl fun s3 st3 => ?_
    refine w_inorder (w_aname (w_store 1 fn1 st3 rfl (Nat.le_of_ble_eq_true rfl) fun s4 st4 => ?_))
    refine w_inorder (w_aname (w_store 2 fn1 st4 rfl (Nat.le_of_ble_eq_true rfl) fun s5 st5 => ?_))
    refine w_inorder0 ?_
    have e : F.f = F'.f := sm.f.symm
    rw [e] at st5 ⊢
    refine w_cons (w_exprA hint (w_methKW (w_name 0 fn1 st5 rfl rfl (w_mset cx1 st5 H' (fun c h => mz _ (hc F' c h)) (w_cwKW cx1 (by k_is) (w_args (w_name 1 fn1 st5 rfl rfl (w_args (w_name 2 fn1 st5 rfl rfl (w_args0 (w_kw (w_bool (w_kw0 ⟨st5.inK cx1, w_callF ?_⟩)))))))))))))
    have st6 : S env1 ["self", "key", "flag"] g [some (.ref F'.f), some (.ref q), some (.int p.2 tk)] (F'.cells ++ (z ++ rest)) s₀ s5 := st5.perm (List.perm_append_comm_assoc _ _ _)
    refine set_spec (d := d) (u := u) fn1 cx1 st6 H' (List.mem_append_right _ (hzz _ m2)) hw (by rw [hw.length]; have h1 : sizeLine = 2 ^ 24 := rfl; lia) hne hpp.2.1 hM hpp.1 fun F2 s6 H2 sm2 st7 => ?_
    refine w_nil ?_
    have e2 : qs.take (i + 1) = qs.take i ++ [p] := by rw [List.take_add_one, hp]; rfl
    refine ⟨_, _, st7.perm (List.perm_append_comm_assoc _ _ _), F2, some (.ref q), some (.int p.2 tk), rfl, ?_, sm.trans sm2, rfl⟩
    rw [e2]
    unfold finT
    rw [List.foldl_append]
    exact H2
  · rintro us qs vs' l' s' hv hqp ⟨F', kx, fx, rfl, H', sm, rfl⟩ st'
    have e : F.f = F'.f := sm.f.symm
    rw [e] at st' 
    have hP' : PT prog w (AtL zz) F'.opd ps := by rw [sm.opd]; exact hP
    refine w_cons (w_exprA hint (w_meth (w_attr (w_name 0 fn1 st' rfl rfl (w_pflags cx1 st' H' (hc F') fun s3 st3 => ?_)))))
    refine w_pclear_meth st3 (hc F' _ (hpd F')) hP' (w_cwBuiltin0 ?_)
    refine w_pclear (l' := fun o' => (F'.pend o').cells ++ rest) st3 (fun o' => .left (F'.pend_upd o')) hP' fun o' s4 hP2 st4 => ?_
    refine w_nil ?_
    subst hSR
    change SRet _ _ _ _ _ _ _ _ _ _ _
    rw [List.take_length] at H'
    refine SRet.intro st4 fun st => h (F'.pend o') qs _ hqp (H'.pend o') sm.f hP2 st
end
end Mine.Internal
end
section
set_option tactic.hygienic false
open PySem PySem.W PySem.Calls PyProof.Rows
set_option maxRecDepth 100000
namespace Mine.Internal
theorem dummyNW : (PySem.Challenge.rw_aa0050_01 = PySem.Challenge.rw_aa0050_01 ∧ hkF = hkF) := by k_fill; exact ⟨rfl, rfl⟩

section
variable {prog : Program} {w : World} {A : Around} {E : Value → Shared → Prop} {env : Env} {ns : List Str} {h₀ : Heap} {vs : List (Option Value)} {l : Lg} {s₀ s : Shared}
  {K : Frag} {p : Program} {loose : List Str} {mean : ExcName → Option Value} {mg mb : Str → Option Value} {d u : Nat} {At : Value → Way × Int → Prop}

theorem g_pset_call {pos fpos : Pos} {Q : Value → Shared → Prop} (fn : Fn env ns) (cx : Cx K p loose mean mg mb d u A env h₀) (st : S env ns h₀ vs l s₀ s) (e : nsIn K mainGlobals "set" = some none) (hx : env.kindOf "set" = some .globalImplicit)
    (h : ∀ a s', S env ns h₀ vs ((a, setO #[] 0 (.fresh 0 0 (!byT prog w))) :: l) s₀ s' → Q (.ref a) s') : wpAny (model prog w) A (eval (.Call (.Name "set" fpos) [] [] pos) env) Q E s :=
  Call_ (g_builtin fn cx st e boot_set (by decide) hx (by decide) (callWith_type0 (g_newpend st h)))
theorem w_pset_call {pos fpos : Pos} {Q : Value → Shared → Prop} (fn : Fn env ns) (cx : Cx K p loose mean mg mb d u A env h₀) (st : S env ns h₀ vs l s₀ s) (e : nsIn K mainGlobals "set" = some none) (hx : env.kindOf "set" = some .globalImplicit)
    (h : ∀ a s', S env ns h₀ vs ((a, setO #[] 0 (.fresh 0 0 (!byT prog w))) :: l) s₀ s' → Q (.ref a) s') : W (model prog w) A (eval (.Call (.Name "set" fpos) [] [] pos) env) Q E s := .mk (g_pset_call fn cx st e hx h)

theorem flags_new {M : List Str} {Q : Value → Shared → Prop} (fn : Fn env ns) (cx : Cx (hkF w.params) p loose mean mg mb (d + 2) (u + 6) A env h₀) (st : S env ns h₀ vs l s₀ s)
    (h : ∀ (F : FO) (s' : Shared), F.Is prog w M (fun x => none) → PT prog w At F.opd [] → S env ns h₀ vs (F.cells ++ l) s₀ s' → Q (.ref F.f) s') : W (model prog w) A (call (.ref 66) []) Q E s := by
  refine .mk (call_cls st.fr cx.x st.nw (by k_is) (by k_is) (by k_is) fun x dx h' F' N' hlt hxd => ?_)
  have st1 : S env ns h₀ vs ((x, instObj 66 dx) :: (dx, dictOf [] 0) :: l) s₀ { s with heap := h' } := st.toH F' N' (by
    rw [List.map_cons, List.map_cons, List.nodup_cons, List.nodup_cons]
    refine ⟨fun q => ?_, fun q => ?_, st.nd⟩
    · rcases List.mem_cons.mp q with e | q
      · exact absurd e (Nat.ne_of_gt hxd)
      · obtain ⟨y, hy, e⟩ := List.mem_map.mp q
        have h1 := hlt y hy
        have e : y.1 = x := e
        rw [e] at h1
        exact absurd h1 (Nat.not_lt_of_gt hxd)
    · obtain ⟨y, hy, e⟩ := List.mem_map.mp q
      exact absurd e (Nat.ne_of_lt (hlt y hy)))
  refine S_call (d := d) (u := u) (ns' := ["self"]) (vs' := [some (.ref x)])
    [("self", .ref x)] [] fn cx.under st1 (by k_is) (by k_is) (BindsTo.of_eq rfl) rfl rfl (fn_of (by rfl) (by decide) rfl) (by decide) ?_
  intro env1 g A1 s1 E' he fn1 cx1 st1
  generalize hSR : SRet _ _ _ _ _ _ _ _ _ = RR0; revert RR0; refine hold ?_; intro RR0 hSR
  have hset : env1.kindOf "set" = some .globalImplicit := by obtain ⟨L', e⟩ := he; rw [e]; rfl
  refine w_cons (w_assignAttr (w_newdict st1 cx1 fun a s2 ha st2 => w_name 0 fn1 st2 rfl rfl ?_))
  refine w_setattr (n' := 1) (l' := fun t => (a, emptyD) :: (x, instObj 66 dx) :: (dx, dictOf [⟨PyData.keyHash w.params "_flags", .str "_flags" t, .ref a⟩] 1) :: l) cx1 st2 (.tail _ (.head _)) (fun t => [⟨PyData.keyHash w.params "_flags", .str "_flags" t, .ref a⟩])
    (by k_is) (by k_is) (by k_is) (by k_is) rfl (fun t => rfl) (fun t => .tail (.tail .head)) (fun t => by simp) fun t0 s3 st3 => ?_
  refine w_cons (w_assignAttr (w_pset_call fn1 cx1 st3 (by k_is) hset fun b s4 st4 => w_name 0 fn1 st4 rfl rfl ?_))
  refine w_setattr (n' := 2) (l' := fun t => (b, setO #[] 0 (.fresh 0 0 (!byT prog w))) :: (a, emptyD) :: (x, instObj 66 dx) :: (dx, dictOf [⟨PyData.keyHash w.params "_flags", .str "_flags" t0, .ref a⟩, ⟨PyData.keyHash w.params "_pending_flags", .str "_pending_flags" t, .ref b⟩] 2) :: l) cx1 st4 (.tail _ (.tail _ (.head _)))
    (fun t => [⟨PyData.keyHash w.params "_flags", .str "_flags" t0, .ref a⟩, ⟨PyData.keyHash w.params "_pending_flags", .str "_pending_flags" t, .ref b⟩])
    (by k_is) (by k_is) (by k_is) (by k_is) ?_ (fun t => ?_) (fun t => .tail (.tail (.tail .head))) (fun t => by simp) fun t1 s5 st5 => ?_
  · rfl
  · rfl
  · refine w_nil ?_
    subst hSR
    change SRet _ _ _ _ _ _ _ _ _ _ _
    have st6 := S.mid (x := [(a, emptyD), (x, instObj 66 dx), (dx, _)]) st5
    have st7 := S.mid (x := [(x, instObj 66 dx), (dx, _)]) st6
    refine SRet.intro st7 fun st => ⟨rfl, ?_⟩
    refine h ⟨x, dx, a, b, _, emptyD, _, []⟩ _ ⟨⟨_, _, _, _, _, rfl⟩, ?_, List.nodup_nil, (fun p hp => by cases hp), (fun p hp => by cases hp), (fun p hp => by cases hp), (fun p hp => by cases hp), (fun p hp => by cases hp), (fun x x => rfl), ?_, ?_⟩ newpend_PT st
    · intro v a' o' hd
      unfold FO.dictAt FO.look at hd
      split at hd
      · cases hd; exact ha
      · cases hd
    · intro v a' o' hd
      unfold FO.dictAt FO.look at hd
      split at hd
      · cases hd
        refine ⟨[], isDict_nil, fun k y => ?_⟩
        constructor
        · intro q; cases q
        · rintro ⟨y', q, _⟩; cases q
      · cases hd
    · intro v k hq
      exact absurd rfl hq
end
end Mine.Internal
end
section
set_option tactic.hygienic false
open PySem PySem.W PySem.Calls PyProof.Rows
set_option maxRecDepth 100000
namespace Mine.Internal
theorem dummyLC1 : (PySem.Challenge.rw_aa0050_01 = PySem.Challenge.rw_aa0050_01 ∧ hkF = hkF) := by k_fill; exact ⟨rfl, rfl⟩

noncomputable abbrev Cl := Int × Way × Int
noncomputable def nmOf (r : Int) : Str := match (r.fmod 3).toNat with | 0 => "a" | 1 => "flags" | _ => "nested"
noncomputable def restN (r : Int) : Nat → Int
  | 0 => r
  | j + 1 => (restN r j).fdiv 3
noncomputable def wayN (r : Int) : Nat → Way
  | 0 => []
  | j + 1 => wayN r j ++ [nmOf (restN r j)]
noncomputable def callOf (x : Int) : Cl := (x.fmod 6, wayN ((x.fdiv 12).fdiv 5) ((x.fdiv 12).fmod 5 + 1).toNat, (x.fdiv 6).fmod 2)
noncomputable def CAt (l : Lg) (v : Value) (c : Cl) : Prop := ∃ a q us t1 t2, v = .ref a ∧ (a, tupO [.int c.1 t1, .ref q, .int c.2.2 t2]) ∈ l ∧ (q, tupO us) ∈ l ∧ WayV us c.2.1

theorem wayN_len (r : Int) : ∀ n, (wayN r n).length = n
  | 0 => rfl
  | n + 1 => by simp [wayN, wayN_len r n]

theorem byPy (a b : Int) (hb : b.natAbs.log2 / 30 + 1 ≤ 300) : Builtin.divisionGoesByPylong a b = false := by
  unfold Builtin.divisionGoesByPylong
  have : ∀ n : Int, (if n == 0 then 0 else n.natAbs.log2 / 30 + 1) ≤ n.natAbs.log2 / 30 + 1 := fun n => by split <;> lia
  have h2 := this b
  simp only [Bool.and_eq_false_iff, decide_eq_false_iff_not]
  left
  lia

inductive LJ (x r : Int) (t : Tok) (l : Lg) (i : Nat) : List (Option Value) → Lg → Prop
  | mk (z : Lg) (b : Addr) (us : List Value) (ks : Option Value) (t' : Tok) (kk : Option Value) : (b, tupO us) ∈ z → WayV us (wayN r i) → LJ x r t l i [some (.int x t), some (.int (restN r i) t'), ks, some (.ref b), kk] (z ++ l)
section
variable {prog : Program} {w : World} {A : Around} {E : Value → Shared → Prop} {env : Env} {ns : List Str} {h₀ : Heap} {vs : List (Option Value)} {l : Lg} {s₀ s : Shared}
  {p : Program} {loose : List Str} {mean : ExcName → Option Value} {mg mb : Str → Option Value} {d u : Nat}

theorem call_spec {x : Int} {t : Tok} {R : Result → Shared → Prop}
    (fn : Fn env ns) (cx : Cx (hkF w.params) p loose mean mg mb (d + 1) (u + 3) A env h₀) (st : S env ns h₀ vs l s₀ s)
    (h : ∀ z v s', S env ns h₀ vs (z ++ l) s₀ s' → CAt z v (callOf x) → R (.ok (.ret v)) s') :
    codeAny (model prog w) A (.call (.ref 77) ⟨[.int x t], []⟩) R s := by
  refine S_call (d := d) (u := u) (ns' := ["x", "rest", "size", "way", "k"]) (vs' := [some (.int x t), none, none, none, none])
    [("x", .int x t)] ["rest", "size", "way", "k"] fn cx st (by k_is) (by k_is) (BindsTo.of_eq rfl) rfl rfl (fn_of (by rfl) (by decide) rfl) (by decide) ?_
  intro env1 g A1 s1 E' he fn1 cx1 st1
  generalize hSR : SRet _ _ _ _ _ _ _ _ _ = RR0; revert RR0; refine hold ?_; intro RR0 hSR
  have hrange : env1.kindOf "range" = some .globalImplicit := by obtain ⟨L', e⟩ := he; rw [e]; rfl
  have hm5 : ∀ r : Int, 0 ≤ r.fmod 5 ∧ r.fmod 5 < 5 := fun r => ⟨Int.fmod_nonneg_of_pos r (by decide), Int.fmod_lt_of_pos r (by decide)⟩
  have hm3 : ∀ r : Int, 0 ≤ r.fmod 3 ∧ r.fmod 3 < 3 := fun r => ⟨Int.fmod_nonneg_of_pos r (by decide), Int.fmod_lt_of_pos r (by decide)⟩
  refine w_cons (w_assign 1 fn1 rfl (w_binop (w_name 0 fn1 st1 rfl rfl (w_int st1 fun t2 s2 st2 => w_div (by decide) (byPy _ _ (by decide +kernel)) st2 fun t3 s3 st3 => ⟨_, _, st3, Nat.le_of_ble_eq_true rfl, fun s4 st4 => ?_⟩))))
  refine w_cons (w_assign 2 fn1 rfl (w_binop (w_binop (w_name 1 fn1 st4 rfl rfl (w_int st4 fun t5 s5 st5 => w_mod (by decide) st5 fun t6 s6 st6 => w_int st6 fun t7 s7 st7 => w_add st7 fun t8 s8 st8 => ⟨_, _, st8, Nat.le_of_ble_eq_true rfl, fun s9 st9 => ?_⟩)))))
  refine w_cons (w_assign 1 fn1 rfl (w_binop (w_name 1 fn1 st9 rfl rfl (w_int st9 fun t10 s10 st10 => w_div (by decide) (byPy _ _ (by decide +kernel)) st10 fun t11 s11 st11 => ⟨_, _, st11, Nat.le_of_ble_eq_true rfl, fun s12 st12 => ?_⟩))))
  refine w_cons (w_assign 3 fn1 rfl (w_tupleE (w_args0 (w_tuple st12 (fun b s13 st13 => ⟨_, _, st13, Nat.le_of_ble_eq_true rfl, fun s14 st14 => ?_⟩)))))
  obtain ⟨n, hn⟩ : ∃ n : Nat, (x.fdiv 12).fmod 5 + 1 = n := ⟨((x.fdiv 12).fmod 5 + 1).toNat, by exact (Int.toNat_of_nonneg (Int.add_nonneg (hm5 (x.fdiv 12)).1 (by decide))).symm⟩
  have hn3 : n ≤ 5 := Int.ofNat_le.mp (hn ▸ Int.add_one_le_of_lt (hm5 (x.fdiv 12)).2)
  have hc : callOf x = (x.fmod 6, wayN ((x.fdiv 12).fdiv 5) n, (x.fdiv 6).fmod 2) := by unfold callOf; rw [hn]; simp
  rw [hn] at st14
  refine w_cons (w_for (w_callE (w_builtin fn1 cx1 st14 (by k_is) boot_range (by decide) hrange (by decide) (w_cwType (w_args (w_name 2 fn1 st14 rfl rfl (w_args0 (w_range st14 fun a ta tb s15 st15 => ?_))))))))
  refine w_for_range cx1.hand st15 (.head _) (by exact Nat.le_trans hn3 (Nat.le_add_left _ _)) (LJ x ((x.fdiv 12).fdiv 5) t l)
    (.mk [(a, _), (b, tupO [])] b [] _ _ _ (.tail _ (.head _)) WayV.nil) ?_ ?_
  · intro i tk vs' l' I oI s' E2 hi hJ st'
    generalize hLP : LPost _ _ _ _ _ _ _ _ = QQ; revert QQ; refine hold ?_; intro QQ hLP
    obtain ⟨z, b, us, ks, t', kk, hb, hw⟩ := hJ
    refine w_aname (w_store 4 fn1 st' rfl (Nat.le_of_ble_eq_true rfl) fun s2 st2 => ?_)
    refine w_cons (w_assign (h₀ := g) (s₀ := s₀) 3 fn1 rfl (w_binop (w_name 3 fn1 st2 rfl rfl (w_tupleE (w_args ?_)))))
    refine w_subE (w_listE ?_)
    refine w_args (w_str st2 fun ta s3 st3 => ?_)
    refine w_args (w_str st3 fun tb s4 st4 => ?_)
    refine w_args (w_str st4 fun tc s5 st5 => ?_)
    refine w_args0 (w_list st5 (fun c s6 st6 => ?_))
    refine w_binop (w_name 1 fn1 st6 rfl rfl (w_int st6 fun td s7 st7 => w_mod (by decide) st7 fun te s8 st8 => ?_))
    have hr := hm3 (restN ((x.fdiv 12).fdiv 5) i)
    have hx : ∃ tu, ([Value.str "a" ta, Value.str "flags" tb, Value.str "nested" tc] : List Value)[((restN ((x.fdiv 12).fdiv 5) i).fmod 3).toNat]? = some (.str (nmOf (restN ((x.fdiv 12).fdiv 5) i)) tu) := by
      unfold nmOf
      have : ((restN ((x.fdiv 12).fdiv 5) i).fmod 3).toNat = 0 ∨ ((restN ((x.fdiv 12).fdiv 5) i).fmod 3).toNat = 1 ∨ ((restN ((x.fdiv 12).fdiv 5) i).fmod 3).toNat = 2 := oTri _ ((Int.toNat_lt hr.1).mpr hr.2)
      rcases this with e | e | e <;> rw [e] <;> exact ⟨_, rfl⟩
    obtain ⟨tu, hx⟩ := hx
    refine w_item_list st8 (.head _) hr.1 (Int.lt_trans hr.2 (by decide)) hx (w_args0 (w_tuple st8 (fun e s9 st9 => ?_)))
    refine w_addtup st9 (.tail _ (.tail _ (.tail _ (List.mem_append_left _ hb)))) (.head _) ?_ fun z2 f s10 st10 hf => ⟨_, _, st10, Nat.le_of_ble_eq_true rfl, fun s11 st11 => ?_⟩
    · have h1 : sizeLine = 2 ^ 24 := rfl
      rw [hw.length, wayN_len, h1]
      simp
      exact qfl fun x => qfa3 x hi hn3 (by simp +arith only)
    refine w_cons (w_assign 1 fn1 rfl (w_binop (w_name 1 fn1 st11 rfl rfl (w_int st11 fun tg s12 st12 => w_div (by decide) (byPy _ _ (by decide +kernel)) st12 fun th s13 st13 => ⟨_, _, st13, Nat.le_of_ble_eq_true rfl, fun s14 st14 => ?_⟩))))
    refine w_nil ?_
    have hf' := hf ((e, tupO [.str (nmOf (restN ((x.fdiv 12).fdiv 5) i)) tu]) :: (c, listO [Value.str "a" ta, Value.str "flags" tb, Value.str "nested" tc] 0) :: z) (.tail _ (.tail _ hb)) (.head _)
    have st15 := S.mid (a := (I, oI)) (x := []) (st14.perm (List.perm_middle (l₁ := z2 ++ [(e, tupO [.str (nmOf (restN ((x.fdiv 12).fdiv 5) i)) tu]), (c, listO [Value.str "a" ta, Value.str "flags" tb, Value.str "nested" tc] 0)]) |> fun h => by simpa using h))
    have st16 : S env1 ["x", "rest", "size", "way", "k"] g [some (.int x t), some (.int ((restN ((x.fdiv 12).fdiv 5) i).fdiv 3) th), ks, some (.ref f), some (.int i tk)] ((I, oI) :: ((z2 ++ ((e, tupO [.str (nmOf (restN ((x.fdiv 12).fdiv 5) i)) tu]) :: (c, listO [Value.str "a" ta, Value.str "flags" tb, Value.str "nested" tc] 0) :: z)) ++ l)) s₀ s14 := by rw [List.append_assoc]; exact st15
    subst hLP
    exact ⟨_, _, st16, .mk _ f _ _ _ _ hf' (hw.append (WayV.one _ tu))⟩
  · rintro vs' l' s' ⟨z, b, us, ks, t', kk, hb, hw⟩ st'
    refine w_cons (w_ret (w_tupleE ?_))
    refine w_args (w_binop (w_name 0 fn1 st' rfl rfl (w_int st' fun ta s2 st2 => w_mod (by decide) st2 fun tb s3 st3 => ?_)))
    refine w_args (w_name 3 fn1 st3 rfl rfl ?_)
    refine w_args (w_binop (w_binop (w_name 0 fn1 st3 rfl rfl (w_int st3 fun tc s4 st4 => w_div (by decide) (byPy _ _ (by decide +kernel)) st4 fun td s5 st5 => w_int st5 fun te s6 st6 => w_mod (by decide) st6 fun tf s7 st7 => ?_))))
    refine w_args0 (w_tuple st7 (fun e s8 st8 => ?_))
    subst hSR
    change SRet _ _ _ _ _ _ _ _ _ _ _
    refine SRet.intro (l' := ((e, tupO [Value.int (x.fmod 6) tb, .ref b, .int ((x.fdiv 6).fmod 2) tf]) :: z) ++ l) st8 fun st => h _ _ _ st ?_
    rw [hc]
    exact ⟨e, b, us, tb, tf, rfl, .head _, .tail _ hb, hw⟩
end
end Mine.Internal
end
section
set_option tactic.hygienic false
open PySem PySem.W PySem.Calls PyProof.Rows
set_option maxRecDepth 100000
namespace Mine.Internal
inductive Vs {α : Type} (At : Value → α → Prop) : List Value → List α → Prop
  | nil : Vs At [] []
  | cons {v : Value} {p : α} {vs : List Value} {ps : List α} : At v p → Vs At vs ps → Vs At (v :: vs) (p :: ps)
theorem Vs.length {α : Type} {At : Value → α → Prop} {us : List Value} {ps : List α} (r : Vs At us ps) : us.length = ps.length := by
  induction r with
  | nil => rfl
  | cons a _ ih => simp [ih]
theorem Vs.at {α : Type} {At : Value → α → Prop} {us : List Value} {ps : List α} (r : Vs At us ps) : ∀ {i : Nat} {v : Value}, us[i]? = some v → ∃ p, ps[i]? = some p ∧ At v p := by
  induction r with
  | nil => intro i v h; simp at h
  | cons a _ ih =>
    intro i v h
    cases i with
    | zero => simp at h; subst h; exact ⟨_, rfl, a⟩
    | succ i => simp at h; obtain ⟨p, h1, h2⟩ := ih h; exact ⟨p, by simpa using h1, h2⟩
theorem Vs.imp {α : Type} {At Bt : Value → α → Prop} (k : ∀ v p, At v p → Bt v p) {us : List Value} {ps : List α} (r : Vs At us ps) : Vs Bt us ps := by
  induction r with
  | nil => exact .nil
  | cons a _ ih => exact .cons (k _ _ a) ih
theorem Vs.append {α : Type} {At : Value → α → Prop} {us vs : List Value} {ps qs : List α} (r : Vs At us ps) (r' : Vs At vs qs) : Vs At (us ++ vs) (ps ++ qs) := by
  induction r with
  | nil => exact r'
  | cons a _ ih => exact .cons a ih

noncomputable def LM : List Str := ["a", "flags", "nested"]
structure OkC (c : Cl) : Prop where
  flag : c.2.2 = 0 ∨ c.2.2 = 1
  ne : c.2.1 ≠ []
  menu : ∀ z ∈ c.2.1, z ∈ LM
  len : c.2.1.length ≤ 5
  kind : 0 ≤ c.1 ∧ c.1 < 6
theorem okw_menu {way : Way} (h : ∀ z ∈ way, z ∈ LM) : Okw way := by
  intro k hk
  have := h k hk
  simp only [LM, List.mem_cons, List.not_mem_nil, or_false] at this
  rcases this with rfl | rfl | rfl <;> decide +kernel
theorem CAt.imp {l l' : Lg} (k : ∀ a us, (a, tupO us) ∈ l → (a, tupO us) ∈ l') (v : Value) (c : Cl) (x : CAt l v c) : CAt l' v c := by
  obtain ⟨a, q, us, t1, t2, e, h1, h2, r⟩ := x
  exact ⟨a, q, us, t1, t2, e, k _ _ h1, k _ _ h2, r⟩

section
variable {prog : Program} {w : World} {A : Around} {E : Value → Shared → Prop} {s : Shared}
theorem w_lt {a b : Int} {t u : Tok} {Q : Value → Shared → Prop} (h : Q (.bool (decide (a < b))) s) : W (model prog w) A (compareOp .Lt (.int a t) (.int b u)) Q E s := .mk (PyProof.Rows.lt_int h)
theorem w_eq {a b : Int} {t u : Tok} {Q : Value → Shared → Prop} (h : Q (.bool (a == b)) s) : W (model prog w) A (compareOp .Eq (.int a t) (.int b u)) Q E s := .mk (PyProof.Rows.eq_int h)

end
end Mine.Internal
end
section
set_option tactic.hygienic false
open PySem PySem.W PySem.Calls PyProof.Rows PySem.Spec
set_option maxRecDepth 100000
namespace Mine.Internal
section
variable {prog : Program} {w : World} {A : Around} {E : Value → Shared → Prop} {env env2 : Env} {ns : List Str} {h₀ : Heap} {vs : List (Option Value)} {l : Lg} {s₀ s : Shared}
theorem w_isnot_bool {a b : Bool} {Q : Value → Shared → Prop} (h : Q (.bool (!(a == b))) s) : W (model prog w) A (compareOp .IsNot (.bool a) (.bool b)) Q E s :=
  .mk (wpAny_isNot_plain rfl (by
    have : ((Value.bool a == Value.bool b) : Bool) = (a == b) := by cases a <;> cases b <;> rfl
    rw [this]; exact h))
theorem w_slice_list {value : Expr} {lower upper : Option Expr} {p : Pos} {t : Addr} {us : List Value} {n k : Nat} {x : Value} {Q : Value → Shared → Prop} (st : S env ns h₀ vs l s₀ s) (hm : (t, listO us n) ∈ l) (hx : IsPart x (some (k : Int))) (hk : k ≤ us.length) (hz : us.length ≤ sizeLine)
    (h : ∀ a s', S env ns h₀ vs ((a, listO (us.take k) 0) :: l) s₀ s' → Q (.ref a) s')
    (ht : ∀ r, letTemporaryGo value (.ref t) r = pure () := by intro _; with_unfolding_all rfl) :
    W (model prog w) A (subscriptTail value (.Slice lower upper none p) (.ref t) (.ref s.heap.objs.size)) Q E { s with heap := s.heap.push { cls := .type "slice", data := .fields #[.none, x, .none] } } := by
  refine .mk (slice_list st.fr st.nw (st.list hm) .none hx (fun h' F N => ?_) rfl ht (by simpa using hz))
  have e : slicePick us.toArray none (some (k : Int)) none = (us.take k).toArray := by rw [slicePick_upto _ _ (by simpa using hk)]
  rw [e] at N
  refine h _ _ (st.toH F N (List.nodup_cons.mpr ⟨fun q => ?_, st.nd⟩))
  obtain ⟨p, hp, e⟩ := List.mem_map.mp q
  have h1 := Heap.lt_size (st.nw p hp).1
  have e : p.1 = s.heap.objs.size + 1 := e
  have h1 : p.1 < s.heap.objs.size := h1
  have := e ▸ h1
  exact absurd this (Nat.not_lt.mpr (Nat.le_succ _))
theorem w_addlist {a b : Addr} {us ws : List Value} {Q : Value → Shared → Prop} (st : S env ns h₀ vs l s₀ s) (ha : s.heap.IsList a us.toArray) (hb : s.heap.IsList b ws.toArray) (hz : us.length + ws.length ≤ sizeLine)
    (h : ∀ c s', S env ns h₀ vs ((c, listO (us ++ ws) 0) :: l) s₀ s' → Q (.ref c) s') : W (model prog w) A (binaryOp .Add (.ref a) (.ref b)) Q E s := by
  refine .mk (add_lists st.fr st.nw ha hb (fun h' F N => h _ _ (st.toH F N ?_)) hz)
  refine List.nodup_cons.mpr ⟨fun q => ?_, st.nd⟩
  obtain ⟨p, hp, e⟩ := List.mem_map.mp q
  exact absurd (Heap.lt_size (st.nw p hp).1) (by rw [e]; exact Nat.lt_irrefl _)
end
theorem intsAre_at {us : List Value} {ks : List Int} (h : IntsAre us ks) : ∀ {i : Nat} {v : Value}, us[i]? = some v → ∃ k t, v = .int k t ∧ ks[i]? = some k := by
  induction h with
  | nil => intro i v h; simp at h
  | cons n t _ ih =>
    intro i v h
    cases i with
    | zero => simp at h; subst h; exact ⟨n, t, rfl, rfl⟩
    | succ i => simp at h; obtain ⟨k, t', e, e2⟩ := ih h; exact ⟨k, t', e, by simpa using e2⟩
theorem Vs.take {α : Type} {At : Value → α → Prop} : ∀ {us : List Value} {ps : List α} (r : Vs At us ps) (n : Nat), Vs At (us.take n) (ps.take n) := by
  intro us ps r
  induction r with
  | nil => intro n; simpa using Vs.nil
  | cons h _ ih =>
    intro n
    cases n with
    | zero => exact .nil
    | succ n => exact .cons h (ih n)
theorem locOf_none : ∀ {ns : List Str} {vs : List (Option Value)}, (∀ x ∈ vs, x = none) → ∀ y, locOf ns vs y = none := by
  intro ns
  induction ns with
  | nil => exact fun u u => rfl
  | cons n ns ih =>
    intro vs h y
    cases vs with
    | nil => rfl
    | cons v vs =>
      rw [locOf_cons, h v (.head _), ih fun x hx => h x (.tail _ hx)]
      by_cases e : y = n
      · rw [if_pos e]
      · rw [if_neg e]
theorem locOf_first {n : Str} {v : Option Value} {ns : List Str} {vs : List (Option Value)} (h : ∀ x ∈ vs, x = none) : locOf (n :: ns) (v :: vs) = fun y => if y = n then v else none := by
  funext y
  show (if y = n then v else locOf ns vs y) = _
  rw [locOf_none h]
theorem nones (k : Nat) : ∀ x ∈ List.replicate k (none : Option Value), x = none := fun x hx => (List.mem_replicate.mp hx).2
end Mine.Internal
end
section
set_option tactic.hygienic false
open PySem PySem.W PySem.Calls PyProof.Rows PySem.Spec
set_option maxRecDepth 100000
namespace Mine.Internal

theorem mem_frames {env1 : Env} {L b : Addr} {outer : List Env} (hf : env1.frame = some L) (hm : b ∈ (env1 :: outer).filterMap (·.frame)) : b = L ∨ b ∈ outer.filterMap (·.frame) := by
  rw [List.filterMap_cons, hf] at hm
  exact (List.mem_cons.mp hm).elim .inl .inr
theorem leave_any {M : Model} {A : Around} {E : Value → Shared → Prop} {s' : Shared} {base g G : Heap} {outer : List Env} {L e : Addr} {m : Str → Option Value} {Q : Unit → Shared → Prop} {news : Lg} {env1 : Env} {cls : Value}
    (hf : env1.frame = some L) (hA : A.frames = some (env1 :: outer)) (F : Fr g L G m) (R : RaisedSN base G (env1 :: outer) e cls news s'.heap) (hsm : G.UpToSlots s'.heap)
    (hQ : ∀ h', RaisedSN base g outer e cls news h' → g.UpToSlots h' → Q () { s' with heap := h' }) : wpAny M A («leaving» env1 (.ref e)) Q E s' := by
  obtain ⟨B, a0, hB, hBG, hl, hfl⟩ := R
  refine wpAny_leaves_onW hA hf hfl fun h' x1 x2 => hQ h' ⟨B, a0, hB, fun b o q nm => hBG b o (F.keep b o q) fun hm => ?_, fun q hq => ⟨(hl q hq).1, kts_none F.keep (hl q hq).2.1, (hl q hq).2.2⟩, x1⟩ ((Heap.UpToSlots.of_keeps F.keep).trans (hsm.trans x2))
  rcases mem_frames hf hm with z | z
  · rw [z, kts_self F] at q; cases q
  · exact nm z
theorem ground_any {A₀ : Around} {base g G B h₅ : Heap} {outer : List Env} {L : Addr} {m : Str → Option Value} {env1 : Env} (hf : env1.frame = some L) (K : Below A₀ base outer g) (F : Fr g L G m)
    (hBG : ∀ b o, G.get? b = some o → b ∉ (env1 :: outer).filterMap (·.frame) → B.get? b = some o) (hBh : B.StaysIn h₅) (hsm : G.UpToSlots h₅) :
    ∃ g', KtsTurn (outer.filterMap (·.frame)) g g' ∧ Fr g' L h₅ m ∧ Below A₀ base outer g' := by
  have old : ∀ b o, g.get? b = some o → b ∉ outer.filterMap (·.frame) → h₅.get? b = some o := fun b o e nm => hBh b o (hBG b o (F.keep b o e) fun hm => by
    rcases mem_frames hf hm with z | z
    · rw [z, kts_self F] at e; cases e
    · exact nm z)
  obtain ⟨T, S⟩ := kts_turn_at (h := h₅) (fs := outer.filterMap (·.frame)) (g := g) (fun b hb => (K.frames.mem hb).2.elim fun o h => ⟨o, h.1⟩) old
    (fun b o e hm => by
      obtain ⟨_, o', ho', hd⟩ := K.frames.mem hm
      rw [e] at ho'; cases ho'
      exact hsm b o (F.keep b o e) hd)
  refine ⟨_, T, ⟨hsm.ns F.ns, S, T.size.symm ▸ F.above⟩, ⟨K.stack, fun b o e => T.other b o (K.stays b o e) fun hm => ?_, K.frames.of_keeps fun b o e x => ?_⟩⟩
  · rw [(K.frames.mem hm).1] at e; cases e
  · obtain ⟨sl, hs⟩ := T.up e
    exact ⟨_, hs, rfl⟩
section
variable {prog : Program} {w : World} {A : Around} {E : Value → Shared → Prop} {env : Env} {ns : List Str} {h₀ : Heap} {vs : List (Option Value)} {l : Lg} {s₀ s : Shared}
  {K : Frag} {p : Program} {loose : List Str} {mean : ExcName → Option Value} {mg mb : Str → Option Value} {d u : Nat}
theorem caught_any {A₀ : Around} {base g G : Heap} {outer : List Env} {L a e : Addr} {m : Str → Option Value} {name : Str} {scope : Scope} {cd : Value} {cl : List (Str × Addr)} {b₀ : Stmt} {suite : List Stmt} {pos np : Pos} {rest : List ExceptHandler} {Q : Flow → Shared → Prop}
    (hA : A.frames = some (envX name scope L a cd cl :: outer)) (R : RaisedSN base G (envX name scope L a cd cl :: outer) e (.type "IndexError") l s.heap) (F : Fr g L G m) (B : Below A₀ base outer g) (hsm : G.UpToSlots s.heap) (XB : K.In base) (TB : Top p loose mean mg mb base)
    (ex : nsIn K mainGlobals "IndexError" = some none)
    (k : ∀ h' g' E', KtsTurn (outer.filterMap (·.frame)) g g' → Fr g' L h' m → News g' L h' l → Below A₀ base outer g' →
      wpAny (model prog w) (A.mark (some (.ref e))) (execs (b₀ :: suite) (envX name scope L a cd cl)) Q E' { s with heap := h' })
    (hk : scope.kind = .function) (hx : (envX name scope L a cd cl).kindOf "IndexError" = some .globalImplicit) :
    wpAny (model prog w) A (noteFrame (.ref e) (envX name scope L a cd cl))
      (fun x s₂ => wpAny (model prog w) A (setFlight (.ref e) none) (fun x s₃ =>
        wpAny (model prog w) A (handleBy (.ref e) (envX name scope L a cd cl) (.ExceptHandler (some (.Name "IndexError" np)) none (b₀ :: suite) pos :: rest)) Q E s₃) E s₂) E s := by
  obtain ⟨Bx, a0, hB, hBG, hl, hfl⟩ := R
  have hL : Bx.get? L = none := by
    obtain ⟨_, ⟨L', _, hf, hn', _⟩, _⟩ := hfl.2.2.1
    obtain rfl : L = L' := Option.some.inj hf
    exact hn'
  refine wpAny_looks_onW hA rfl hfl fun h₄ hheld₄ hsm₄ => ?_
  refine wpAny_landsW hheld₄ fun h₅ hheld hsm₅' => ?_
  have hsm₅ := hsm₄.trans hsm₅'
  obtain ⟨g₅, T₅, F₅, K₅⟩ := ground_any rfl B F hBG hheld.1 (hsm.trans hsm₅)
  obtain ⟨ob, hob, hobc⟩ := hheld.there
  refine wpAny_handleBy_builtin (X := "IndexError") (T := "IndexError") (b := true) PySem.F.isExc_IndexError PySem.F.notTuple_IndexError (by rw [isSubtype_type]; kernel_rfl)
    (nameX_B F₅ (XB.keeps K₅.stays) (topRead_of (TB.keeps K₅.stays)) ex PyProof.Rows.Boot.«IndexError» (by decide) ⟨rfl, ⟨ob, hob, hobc⟩, ?_⟩ hk hx (by decide))
  refine lands_againW hheld fun h₆ hfl₆ hsm₆ => ?_
  obtain ⟨g₆, T₆, F₆, K₆⟩ := ground_any rfl B F hBG hfl₆.1 ((hsm.trans hsm₅).trans hsm₆)
  exact k h₆ g₆ _ T₆ F₆ (fun q hq => ⟨hfl₆.1 _ _ (hl q hq).1, (fun z => by have := (hl q hq).1; rw [z, hL] at this; cases this), T₆.none_ _ (kts_none F.keep (hl q hq).2.1)⟩) K₆
end
end Mine.Internal
end
section
set_option tactic.hygienic false
open PySem PySem.W PySem.Calls PyProof.Rows PySem.Spec
set_option maxRecDepth 100000
namespace Mine.Internal
section
variable {prog : Program} {w : World} {A : Around} {E : Value → Shared → Prop} {env : Env} {ns : List Str} {h₀ : Heap} {vs : List (Option Value)} {l : Lg} {s₀ s : Shared}
  {K : Frag} {p : Program} {loose : List Str} {mean : ExcName → Option Value} {mg mb : Str → Option Value} {d u : Nat}
noncomputable def SRetD (env' : Env) (ns' : List Str) (g : Heap) (env : Env) (ns : List Str) (h₀ : Heap) (vs : List (Option Value)) (s₀ : Shared) (R : Result → Shared → Prop) (fl : Flow) (s' : Shared) : Prop :=
  ∃ g' vs' l', KtsTurn [env.locals] g g' ∧ S env' ns' g' vs' l' s₀ s' ∧ (S env ns h₀ vs l' s₀ s' → R (.ok (.ret (match fl with | .ret v => v | _ => .none))) s')
theorem S_callD {R : Result → Shared → Prop} {name qual : Str} {params : Arguments} {body : List Stmt} {scope : Scope} {dV kV doc pm cdv ct oc : Value} {an od : Option Addr} {osl : Array (Option Value)} {f : Addr} {args : Args} (binds : List (Str × Value)) {ns' : List Str} {vs' : List (Option Value)}
    (fn : Fn env ns) (cx : Cx K p loose mean mg mb (d + 1) (u + 3) A env h₀) (hA : A.frames = some [env]) (st : S env ns h₀ vs l s₀ s)
    (ho : K.lookup f = some ⟨oc, od, .func (fnOf name qual params body scope dV kV doc pm an cdv ct), osl⟩) (hcd : codeIn K cdv qual = true)
    (hbind : BindsTo s (fnOf name qual params body scope dV kV doc pm an cdv ct) args binds) (hkind : (binds.all fun y => scope.names.lookup y.1 == some .local || scope.names.lookup y.1 == some .cell) = true)
    (hnd : ((cellsFrom 0 scope.names []).map (·.1)).Nodup)
    (hbl : ∀ L', bindL (envOfC qual scope L' f cdv).kindOf binds (fun x => none) = locOf ns' vs')
    (hfn : ∀ L', Fn (envOfC qual scope L' f cdv) ns')
    (h : ∀ (L' : Addr) (g : Heap) (A' : Around) (s₁ : Shared) (E' : Value → Shared → Prop) (cells : Lg) (base : Heap), A'.frames = some [envOfC qual scope L' f cdv, env] → Below A base [env] g → K.In base → Top p loose mean mg mb base → A'.depth + d < recursionLimit → A'.units + u < cLine → A'.handled = none → Fn (envOfC qual scope L' f cdv) ns' →
      K.In g → Top p loose mean mg mb g → CellsAre (bindC (envOfC qual scope L' f cdv).kindOf binds fun x => none) (cellsFrom (L' + 1) scope.names []) cells →
      S (envOfC qual scope L' f cdv) ns' g vs' (cells ++ l) s₀ s₁ →
      W (model prog w) A' (execs body (envOfC qual scope L' f cdv)) (SRetD (envOfC qual scope L' f cdv) ns' g env ns h₀ vs s₀ R) E' s₁)
    (hco : autoParam (scope.isCoroutine = false) tRfl) (hgen : autoParam (scope.isGenerator = false) tRfl) (hk : autoParam (scope.kind = .function) tRfl) :
    codeAny (model prog w) A (.call (.ref f) args) R s := by
  obtain ⟨A₀, base, outer, B0, hA0⟩ := cx.below
  have B : Below A₀ h₀ [] h₀ := ⟨by
    rw [hA] at hA0
    cases hA0
    exact B0.stack, fun x x e => e, trivial⟩
  obtain ⟨FG, BG, stay, -⟩ := groundX (R := R) B st.fr st.nw hA fn.frame fn.kind
  have X := cx.x.keeps st.fr.keep
  have N := st.nw
  obtain ⟨oL, es, ep, hLg, hLd, hLk, hLf⟩ := FG.ns
  refine codeAny_call_function (by have := cx.room; exact Nat.lt_of_le_of_lt (Nat.le_add_right _ _) this) (X _ _ ho) rfl hco hgen rfl (codeRec_of X hcd) (hbind _ _ _ _ ?_)
  refine wpAny_newFunctionEnv_cells hk (kindsX hkind _) fun env' he s' x => ?_
  subst he
  refine ⟨(cx.top.nolimit.keeps st.fr.keep).keeps x.toInCall.keep, codeAny_func ?_⟩
  obtain ⟨h₁, tk, rfl, _⟩ := x.done
  have hk₁ := x.toInCall.keep
  obtain ⟨cells, NC, Y⟩ := Cl.news (h₀ := s.heap) (Nat.le_refl _) fun n c hm => ⟨x.cell n c (lookup_of_mem_nodup (cellsFrom_names scope.names 0 (s.heap.objs.size + 1) [] [] rfl ▸ hnd) hm), x.above n c hm⟩
  have F' : Fr (hideAll s.heap (l.map (·.1))) s.heap.objs.size h₁ (locOf ns' vs') := (hbl s.heap.objs.size) ▸ ⟨x.toInCall.ns, fun b o e => hk₁ b o (of_hideAll _ e), Nat.le_of_eq (hideAll_size _ _)⟩
  have N' : News (hideAll s.heap (l.map (·.1))) s.heap.objs.size h₁ (cells ++ l) := fun p hp => by
    rcases List.mem_append.mp hp with hp | hp
    · refine ⟨(NC p hp).1, (NC p hp).2.1, ?_⟩
      cases q : (hideAll s.heap (l.map (·.1))).get? p.1 with
      | none => rfl
      | some o => have := of_hideAll _ q; rw [(NC p hp).2.2] at this; cases this
    · exact ⟨hk₁ _ _ (N p hp).1, Nat.ne_of_lt (Heap.lt_size (N p hp).1), hideAll_none _ (List.mem_map_of_mem hp)⟩
  have hD : ((cells ++ l).map (·.1)).Nodup := by
    rw [List.map_append, List.nodup_append]
    have hc := cellsFrom_addrs scope.names (s.heap.objs.size + 1) [] List.nodup_nil (fun a ha => nomatch ha)
    have e := cellsAre_fst Y
    refine ⟨by rw [e]; exact hc.1, st.nd, fun a ha b hb q => ?_⟩
    rw [e] at ha
    obtain ⟨x, hx, rfl⟩ := List.mem_map.mp ha
    obtain ⟨y, hy, rfl⟩ := List.mem_map.mp hb
    rcases hc.2 x hx with q2 | q2
    · cases q2
    · have h3 := Heap.lt_size (N y hy).1
      have q : x.2 = y.1 := q
      rw [← q] at h3
      exact absurd (Nat.lt_trans h3 (Nat.lt_of_succ_le q2)) (Nat.lt_irrefl _)
  refine wpAny_mono (h s.heap.objs.size _ (A.deeper _) { s with heap := h₁, toks := tk } _ cells h₀ (by show A.frames.map _ = _; rw [hA]; rfl) BG cx.x cx.top (by have := cx.room; show A.depth + 1 + d < _; exact qft fun x => qfa2 x this (by simp +arith only)) (by have := cx.units; show A.units + 3 + u < _; exact qft fun x => qfa2 x this (by simp +arith only)) cx.hand (hfn _)
    (cx.x.keeps stay) (cx.top.keeps stay) Y ⟨by have e := st.same; obtain ⟨_, _, _, _, _⟩ := s; simp only [Shared.mk.injEq] at e ⊢; exact ⟨trivial, e.2.1, trivial, trivial, e.2.2.2.2⟩, F', N', hD⟩).out (fun fl s' hr => ?_) fun x0 x0 y => y
  obtain ⟨g', vs'', l', T', st', k⟩ := hr
  obtain ⟨sl, hs⟩ := T'.up hLg
  have nL₀ : h₀.get? env.locals = none := kts_self st.fr
  refine k ⟨st'.same, ⟨⟨_, es, ep, st'.fr.keep _ _ hs, hLd, hLk, hLf⟩, fun b o e => st'.fr.keep b o (T'.other b o (stay b o e) fun q => ?_), st.fr.above⟩, fun p hp => ⟨(st'.nw p hp).1, fun q => ?_, ?_⟩, st'.nd⟩
  · rw [List.mem_singleton] at q; rw [q, nL₀] at e; cases e
  · have := (st'.nw p hp).2.2; rw [q, hs] at this; cases this
  · cases q : h₀.get? p.1 with
    | none => rfl
    | some o =>
      obtain ⟨sl', hs'⟩ := T'.up (stay _ _ q)
      have := (st'.nw p hp).2.2
      rw [hs'] at this; cases this
end
end Mine.Internal
end
section
set_option tactic.hygienic false
open PySem PySem.W PySem.Calls PyProof.Rows PySem.Spec
set_option maxRecDepth 100000
namespace Mine.Internal
structure RaiseAt (base : Heap) (env : Env) (ns : List Str) (vs : List (Option Value)) (h₀ : Heap) (l : Lg) (s₀ : Shared) (outer : List Env) (e : Addr) (s : Shared) : Prop where
  same : s = { s₀ with heap := s.heap, toks := s.toks, drawn := s.drawn }
  at_ : ∃ G, Fr h₀ env.locals G (locOf ns vs) ∧ RaisedSN base G (env :: outer) e (.type "IndexError") l s.heap ∧ G.UpToSlots s.heap
theorem RaiseAt.sub {base : Heap} {env : Env} {ns : List Str} {vs : List (Option Value)} {h₀ : Heap} {l l' : Lg} {s₀ s : Shared} {outer : List Env} {e : Addr} (r : RaiseAt base env ns vs h₀ l s₀ outer e s) (hl : ∀ x ∈ l', x ∈ l) : RaiseAt base env ns vs h₀ l' s₀ outer e s := by
  obtain ⟨h1, G, h2, ⟨B, a0, h3, h4, h5, h6⟩, h7⟩ := r
  exact ⟨h1, G, h2, ⟨B, a0, h3, h4, fun q hq => h5 q (hl q hq), h6⟩, h7⟩
section
variable {prog : Program} {w : World} {A : Around} {E : Value → Shared → Prop} {env : Env} {ns : List Str} {h₀ : Heap} {vs : List (Option Value)} {l : Lg} {s₀ s : Shared}
  {K : Frag} {p : Program} {loose : List Str} {mean : ExcName → Option Value} {mg mb : Str → Option Value} {d u : Nat}
theorem same_of {s₀ s : Shared} {h : Heap} {t : Nat} (e : s = { s₀ with heap := s.heap, toks := s.toks, drawn := s.drawn }) : ({ s with heap := h, toks := t } : Shared) = { s₀ with heap := h, toks := t, drawn := s.drawn } := by
  obtain ⟨_, _, _, _, _⟩ := s
  simp only [Shared.mk.injEq] at e ⊢
  exact ⟨trivial, e.2.1, trivial, trivial, e.2.2.2.2⟩
theorem w_item_out {value slice : Expr} {t : Addr} {u' : Tok} {Q : Value → Shared → Prop} (hh : A.handled = none) (st : S env ns h₀ vs l s₀ s) (hm : (t, tupO []) ∈ l)
    (hE : ∀ h' tk e, Heap.NewExc s.heap h' e "IndexError" → E (.ref e) { s with heap := h', toks := tk })
    (hs : autoParam (subscripted slice false (.ref t) (.int (-1) u') = operate [.ref t, .int (-1) u'] (getItem (.ref t) (.int (-1) u'))) tWur) :
    W (model prog w) A (subscriptTail value slice (.ref t) (.int (-1) u')) Q E s :=
  .mk (tail_any (st.tup hm).typeIs slot_tuple_getitem.lookup (getItem_meets ⟨_, st.at hm, rfl⟩ (by decide) PySem.F.slot_tuple_getitem PySem.F.entry_tuple_getitem (PySem.F.args_tuple_getitem_2 _ _) (PySem.MeetsSeq.tuple_getitem_out t #[] 0 (-1) u' (by decide) (by decide) rfl) ⟨st.at hm, hh, hE⟩) hs)
theorem S_callR {A₀ : Around} {base : Heap} {outer : List Env} {R : Result → Shared → Prop} {name qual : Str} {params : Arguments} {body : List Stmt} {scope : Scope} {dV kV doc pm cdv ct oc : Value} {an od : Option Addr} {osl : Array (Option Value)} {f : Addr} {args : Args} (binds : List (Str × Value)) (rest : List Str) {ns' : List Str} {vs' : List (Option Value)}
    (B : Below A₀ base outer h₀) (hA : A.frames = some (env :: outer)) (fn : Fn env ns) (cx : Cx K p loose mean mg mb (d + 1) (u + 3) A env h₀) (st : S env ns h₀ vs l s₀ s)
    (ho : K.lookup f = some ⟨oc, od, .func (fnOf name qual params body scope dV kV doc pm an cdv ct), osl⟩) (hcd : codeIn K cdv qual = true)
    (hbind : BindsTo s (fnOf name qual params body scope dV kV doc pm an cdv ct) args binds) (hns : ns' = binds.map (·.1) ++ rest) (hvs : vs' = binds.map (fun b => some b.2) ++ rest.map fun x => none)
    (hfn : ∀ L', Fn (envOf qual scope L' f cdv) ns') (hcell : ∀ x ∈ scope.names, x.2 ≠ .cell)
    (h : ∀ (env' : Env) (g : Heap) (A' : Around) (s₁ : Shared) (E' : Value → Shared → Prop), (∀ vs1 l1 s1 h' tk e, S env' ns' g vs1 (l1 ++ l) s₀ s1 → Heap.NewExc s1.heap h' e "IndexError" → E' (.ref e) { s1 with heap := h', toks := tk }) →
      (∃ L', env' = envOf qual scope L' f cdv) → Fn env' ns' → Cx K p loose mean mg mb d u A' env' g → S env' ns' g vs' l s₀ s₁ → W (model prog w) A' (execs body env') (fun x x => False) E' s₁)
    (hR : ∀ e s', RaiseAt base env ns vs h₀ l s₀ outer e s' → R (.error (.ref e)) s')
    (hco : autoParam (scope.isCoroutine = false) tRfl) (hgen : autoParam (scope.isGenerator = false) tRfl) (hk : autoParam (scope.kind = .function) tRfl) :
    codeAny (model prog w) A (.call (.ref f) args) R s := by
  subst hns hvs
  have hloc : ∀ y ∈ binds, scope.names.lookup y.1 = some .local := fun y hy => (hfn 0).loc y.1 (List.mem_append_left _ (List.mem_map.mpr ⟨y, hy, rfl⟩))
  have hroom := cx.room
  refine code_def B st.fr cx.x st.nw cx.top hA fn.frame fn.kind ho hcd (by exact Nat.lt_of_le_of_lt (Nat.le_add_right _ _) hroom) hbind hloc (fun g L' h₁ FG F' N' B' X' T' => ?_) hco hgen hk hcell
  have hd := (hfn L').nodup
  rw [locOf_binds hd] at F'
  have cx' : Cx K p loose mean mg mb d u (A.deeper (envOf qual scope L' f cdv)) (envOf qual scope L' f cdv) g :=
    ⟨⟨A, base, _, B', by show A.frames.map _ = _; rw [hA]; rfl⟩, X', T', by show A.depth + 1 + d < _; exact qft fun x => qfa2 x hroom (by simp +arith only), by have := cx.units; show A.units + 3 + u < _; exact qft fun x => qfa2 x this (by simp +arith only), cx.hand⟩
  refine wpAny_mono (h (envOf qual scope L' f cdv) g (A.deeper (envOf qual scope L' f cdv)) { s with heap := h₁, toks := s.toks + binds.length } _ (fun vs1 l1 s1 h' tk e st1 hx => ?_) ⟨L', rfl⟩ (hfn L') cx' ⟨same_of st.same, F', N', st.nd⟩).out (fun x x q => q.elim) fun x x e => e
  exact leave_newS (s' := { s1 with heap := h', toks := tk }) (cls := "IndexError") (news := l) B' hx st1.fr (fun q hq => st1.nw q (List.mem_append_right _ hq)) (fun h2 R' x U' => hR e _ ⟨same_of (s := { s1 with heap := h', toks := tk }) (h := h2) (t := tk) (same_of st1.same), g, FG, R', U'⟩) hk
theorem S_lamR {A₀ : Around} {base : Heap} {outer : List Env} {R : Result → Shared → Prop} {name qual : Str} {params : Arguments} {body : Expr} {scope : Scope} {pm ctv : Value} {c' f : Addr} {cl : List (Str × Addr)}
    (B : Below A₀ base outer h₀) (hA : A.frames = some (env :: outer)) (fn : Fn env ns) (cx : Cx K p loose mean mg mb (d + 1) (u + 3) A env h₀) (st : S env ns h₀ vs l s₀ s)
    (ho : (f, kla_obj name qual params body scope cl pm c' ctv) ∈ l) (hcd : s.heap.CodeRec (.ref c') qual) (hbind : bindArgs (kla_fn name qual params body scope cl pm (.ref c') ctv) ⟨[], []⟩ = pure [])
    (h : ∀ (L' : Addr) (g : Heap) (A' : Around) (s₁ : Shared) (E' : Value → Shared → Prop), (∀ e l1 s', RaiseAt base (envX qual scope L' f (.ref c') cl) [] [] g (l1 ++ l) s₀ (env :: outer) e s' → E' (.ref e) s') → A'.frames = some (envX qual scope L' f (.ref c') cl :: env :: outer) → Below A base (env :: outer) g →
      Fn (envX qual scope L' f (.ref c') cl) [] → Cx K p loose mean mg mb d u A' (envX qual scope L' f (.ref c') cl) g → S (envX qual scope L' f (.ref c') cl) [] g [] l s₀ s₁ → W (model prog w) A' (eval body (envX qual scope L' f (.ref c') cl)) (fun x x => False) E' s₁)
    (hR : ∀ e s', RaiseAt base env ns vs h₀ l s₀ outer e s' → R (.error (.ref e)) s')
    (hco : scope.isCoroutine = false) (hgen : scope.isGenerator = false) (hk : scope.kind = .function) (hcell : ∀ x ∈ scope.names, x.2 ≠ .cell) :
    codeAny (model prog w) A (.call (.ref f) ⟨[], []⟩) R s := by
  have hroom := cx.room
  refine kla_code B st.fr cx.x st.nw cx.top hA fn.frame fn.kind ho hcd (by exact Nat.lt_of_le_of_lt (Nat.le_add_right _ _) hroom) hbind (fun y hy => (nomatch hy)) (fun g L' h₁ FG F' N' B' X' T' => ?_) hco hgen hk hcell
  have hA' : (A.deeper (envX qual scope L' f (.ref c') cl)).frames = some (envX qual scope L' f (.ref c') cl :: env :: outer) := by show A.frames.map _ = _; rw [hA]; rfl
  have cx' : Cx K p loose mean mg mb d u (A.deeper (envX qual scope L' f (.ref c') cl)) (envX qual scope L' f (.ref c') cl) g :=
    ⟨⟨A, base, _, B', hA'⟩, X', T', by show A.depth + 1 + d < _; exact qft fun x => qfa2 x hroom (by simp +arith only), by have := cx.units; show A.units + 3 + u < _; exact qft fun x => qfa2 x this (by simp +arith only), cx.hand⟩
  have hl : (fun y => ([] : List (Str × Value)).reverse.lookup y) = locOf [] [] := rfl
  rw [hl] at F'
  refine wpAny_mono (h L' g _ { s with heap := h₁, toks := s.toks + 0 } _ (fun e l1 s' r => ?_) hA' B' ⟨hk, List.nodup_nil, (fun x q => (nomatch q)), rfl, (fun x q => (nomatch q)), rfl, rfl⟩ cx' ⟨same_of st.same, F', N', st.nd⟩).out (fun x x q => q.elim) fun x0 x0 e => e
  have r := r.sub (l' := l) fun x hx => List.mem_append_right _ hx
  obtain ⟨G, r2, r3, r4⟩ := r.at_
  refine leave_any rfl hA' r2 r3 r4 fun h2 R' U' => hR e _ ⟨?_, g, FG, R', U'⟩
  have e := r.same
  obtain ⟨_, _, _, _, _⟩ := s'
  simp only [Shared.mk.injEq] at e ⊢
  exact ⟨trivial, e.2.1, trivial, trivial, e.2.2.2.2⟩
theorem S_caught {A₀ : Around} {base g : Heap} {outer : List Env} {L a e : Addr} {name : Str} {scope : Scope} {cd : Value} {cl : List (Str × Addr)} {b₀ : Stmt} {suite : List Stmt} {pos np : Pos} {rest : List ExceptHandler} {Q : Flow → Shared → Prop}
    (hX : env = envX name scope L a cd cl) (hA : A.frames = some (env :: outer)) (r : RaiseAt base env ns vs g l s₀ outer e s) (hnd : (l.map (·.1)).Nodup) (B : Below A₀ base outer g) (XB : K.In base) (TB : Top p loose mean mg mb base)
    (ex : nsIn K mainGlobals "IndexError" = some none)
    (k : ∀ h' g' E', KtsTurn (outer.filterMap (·.frame)) g g' → Below A₀ base outer g' → S env ns g' vs l s₀ { s with heap := h' } →
      W (model prog w) (A.mark (some (.ref e))) (execs (b₀ :: suite) env) Q E' { s with heap := h' })
    (hk : scope.kind = .function) (hx : env.kindOf "IndexError" = some .globalImplicit) :
    W (model prog w) A (noteFrame (.ref e) env)
      (fun x s₂ => W (model prog w) A (setFlight (.ref e) none) (fun x s₃ =>
        W (model prog w) A (handleBy (.ref e) env (.ExceptHandler (some (.Name "IndexError" np)) none (b₀ :: suite) pos :: rest)) Q E s₃) E s₂) E s := by
  subst hX
  obtain ⟨hs, G, r2, r3, r4⟩ := r
  simp only [W.eq]
  refine caught_any hA r3 r2 B r4 XB TB ex (fun h' g' E' T F N B' => (k h' g' E' T B' ⟨?_, F, N, hnd⟩).out) hk hx
  obtain ⟨_, _, _, _, _⟩ := s
  simp only [Shared.mk.injEq] at hs ⊢
  exact ⟨trivial, hs.2.1, trivial, trivial, hs.2.2.2.2⟩
theorem w_try {body : List Stmt} {h₁ : ExceptHandler} {hs : List ExceptHandler} {pos : Pos} {Q : Flow → Shared → Prop}
    (h : W (model prog w) A (execs body env) (fun x x => False)
      (fun e s₁ => W (model prog w) A (noteFrame e env) (fun x s₂ => W (model prog w) A (setFlight e none) (fun x s₃ => W (model prog w) A (handleBy e env (h₁ :: hs)) Q E s₃) E s₂) E s₁) s) :
    W (model prog w) A (exec (.Try body (h₁ :: hs) [] [] pos) env) Q E s := by
  simp only [W.eq] at h ⊢
  exact wpAny_Try_except (wpAny_mono h (fun x x q => q.elim) fun x x e => e)
end
end Mine.Internal
end
section
set_option tactic.hygienic false
open PySem PySem.W PySem.Calls PyProof.Rows
set_option maxRecDepth 100000
namespace Mine.Internal
theorem dummyRF : (PySem.Challenge.rw_aa0050_01 = PySem.Challenge.rw_aa0050_01 ∧ hkF = hkF) := by k_fill; exact ⟨rfl, rfl⟩
section
variable {prog : Program} {w : World} {A A₀ : Around} {E : Value → Shared → Prop} {env : Env} {ns : List Str} {h₀ base : Heap} {vs : List (Option Value)} {l : Lg} {s₀ s : Shared} {outer : List Env}
  {p : Program} {loose : List Str} {mean : ExcName → Option Value} {mg mb : Str → Option Value} {d u : Nat}
theorem set_raises {M : List Str} {F : FO} {τ : AbsT} {q : Addr} {flag : Int} {t : Tok} {rec : Bool} {R : Result → Shared → Prop}
    (B : Below A₀ base outer h₀) (hA : A.frames = some (env :: outer)) (fn : Fn env ns) (cx : Cx (hkF w.params) p loose mean mg mb (d + 1) (u + 3) A env h₀) (st : S env ns h₀ vs l s₀ s)
    (H : F.Is prog w M τ) (hF : ∀ c ∈ F.cells, c ∈ l) (hq : (q, tupO []) ∈ l) (h : ∀ e s', RaiseAt base env ns vs h₀ l s₀ outer e s' → R (.error (.ref e)) s') :
    codeAny (model prog w) A (.call (.ref 56) ⟨[.ref F.f, .ref q, .int flag t], [("recursive", .bool rec)]⟩) R s := by
  refine S_callR (d := d) (u := u) (ns' := ["self", "key", "flag", "recursive", "cont", "key_parent", "key_stem", "k"]) (vs' := [some (.ref F.f), some (.ref q), some (.int flag t), some (.bool rec), none, none, none, none])
    [("self", .ref F.f), ("key", .ref q), ("flag", .int flag t), ("recursive", .bool rec)] ["cont", "key_parent", "key_stem", "k"] B hA fn cx st (by k_is) (by k_is) (BindsTo.of_eq rfl) rfl rfl (fn_of (by rfl) (by decide) rfl) (by decide) ?_ h
  intro env1 g A1 s1 E' hE he fn1 cx1 st1
  refine w_cons (w_assign 4 fn1 rfl (w_attr (w_name 0 fn1 st1 rfl rfl (w_flags cx1 st1 H hF fun s3 st3 => ⟨_, _, st3, Nat.le_of_ble_eq_true rfl, fun s4 st4 => ?_⟩))))
  refine w_cons (w_swapped ["key_parent", "key_stem"] ?_ (by obtain ⟨L', rfl⟩ := he; rfl) (by obtain ⟨L', rfl⟩ := he; rfl))
  refine w_tupleE (w_args (w_subslice (w_name 1 fn1 st4 rfl rfl (wpart_0 (wpart_e (w_neg1 st4 fun t5 s5 st5 => ?_))))))
  refine w_slice_tup st5 hq .none (.int _ _) (Nat.zero_le _) fun z a s6 st6 ha => ?_
  refine w_args (w_subE (w_name 1 fn1 st6 rfl rfl (w_neg1 st6 fun t7 s7 st7 => w_item_out cx1.hand st7 (List.mem_append_right _ hq) fun h' tk e hx => hE _ z s7 h' tk e st7 hx)))
theorem unset_raises {M : List Str} {F : FO} {τ : AbsT} {q : Addr} {R : Result → Shared → Prop}
    (B : Below A₀ base outer h₀) (hA : A.frames = some (env :: outer)) (fn : Fn env ns) (cx : Cx (hkF w.params) p loose mean mg mb (d + 1) (u + 3) A env h₀) (st : S env ns h₀ vs l s₀ s)
    (H : F.Is prog w M τ) (hF : ∀ c ∈ F.cells, c ∈ l) (hq : (q, tupO []) ∈ l) (h : ∀ e s', RaiseAt base env ns vs h₀ l s₀ outer e s' → R (.error (.ref e)) s') :
    codeAny (model prog w) A (.call (.ref 49) ⟨[.ref F.f, .ref q], []⟩) R s := by
  refine S_callR (d := d) (u := u) (ns' := ["self", "key", "cont", "k"]) (vs' := [some (.ref F.f), some (.ref q), none, none])
    [("self", .ref F.f), ("key", .ref q)] ["cont", "k"] B hA fn cx st (by k_is) (by k_is) (BindsTo.of_eq rfl) rfl rfl (fn_of (by rfl) (by decide) rfl) (by decide) ?_ h
  intro env1 g A1 s1 E' hE he fn1 cx1 st1
  have hint : interactive env1 = false := by obtain ⟨L', e⟩ := he; rw [e]; rfl
  refine w_cons (w_assign 2 fn1 rfl (w_attr (w_name 0 fn1 st1 rfl rfl (w_flags cx1 st1 H hF fun s3 st3 => ⟨_, _, st3, Nat.le_of_ble_eq_true rfl, fun s4 st4 => ?_⟩))))
  refine w_cons (w_for ?_)
  refine w_subslice (w_name 1 fn1 st4 rfl rfl (wpart_0 (wpart_e (w_neg1 st4 fun t5 s5 st5 => ?_))))
  refine w_slice_tup st5 hq .none (.int _ _) (Nat.zero_le _) fun z a s6 st6 ha => ?_
  have ha := ha _ hq
  rw [sl_init] at ha
  refine w_for_tuple cx1.hand st6 ha (fun i vs' l' => vs' = [some (.ref F.f), some (.ref q), some (.ref F.root), none] ∧ l' = z ++ l) ⟨rfl, rfl⟩ (fun i vs' l' hJ => hJ.2 ▸ ha) (fun i v vs' l' I oI s' E2 hi => by cases hi) ?_
  rintro vs' l' s' ⟨rfl, rfl⟩ st'
  have hd : FO.dictAt F [] = some (F.root, F.oroot) := by unfold FO.dictAt; rw [if_pos rfl]
  obtain ⟨kvs, hkv, hkids⟩ := H.kids _ _ _ hd
  refine w_cons (w_exprA hint (w_meth (w_name 2 fn1 st' rfl rfl (w_pop_meth st' (List.mem_append_right _ (hF _ (dict_mem hd))) hkv (w_cwBuiltin (w_args (w_subE (w_name 1 fn1 st' rfl rfl (w_neg1 st' fun t7 s7 st7 => w_item_out cx1.hand st7 (List.mem_append_right _ hq) fun h' tk e hx => hE _ z s7 h' tk e st7 hx)))))))))
end
end Mine.Internal
end
section
set_option tactic.hygienic false
open PySem PySem.W PySem.Calls PyProof.Rows
set_option maxRecDepth 100000
namespace Mine.Internal
noncomputable def CodeAt (q : Str) (l : Lg) (c : Addr) : Prop := ∃ oc vs t, (c, oc) ∈ l ∧ oc.data = .fields vs ∧ vs[1]? = some (.str q t)
theorem CodeAt.mono {q : Str} {l l' : Lg} {c : Addr} (h : CodeAt q l c) (hl : ∀ x ∈ l, x ∈ l') : CodeAt q l' c := by
  obtain ⟨oc, vs, t, h1, h2⟩ := h
  exact ⟨oc, vs, t, hl _ h1, h2⟩
section
variable {prog : Program} {w : World} {A : Around} {E : Value → Shared → Prop} {env : Env} {ns : List Str} {h₀ : Heap} {vs : List (Option Value)} {l : Lg} {s₀ s : Shared}
  {K : Frag} {p : Program} {loose : List Str} {mean : ExcName → Option Value} {mg mb : Str → Option Value} {d u : Nat}
theorem CodeAt.rec {q : Str} {c : Addr} (h : CodeAt q l c) (st : S env ns h₀ vs l s₀ s) : s.heap.CodeRec (.ref c) q := by
  obtain ⟨oc, vs, t, h1, h2, h3⟩ := h
  exact codeRec_news st.nw h1 h2 h3
theorem w_cwLam0 {f : Addr} {o : Obj} {fd : FuncData} {pos : Pos} {Q : Value → Shared → Prop} (st : S env ns h₀ vs l s₀ s) (hm : (f, o) ∈ l) (hd : o.data = .func fd) (h : W (model prog w) A (call (.ref f) []) Q E s) :
    W (model prog w) A (callWith pos (.ref f) [] (backTo pos (starEach [] env)) []) Q E s := .mk (PyProof.Rows.callWith_meth0 hd (st.at hm) h.out)
theorem w_augInt {x : Str} {p1 p2 pos : Pos} {k : Nat} {n m : Int} {t : Tok} {Q : Flow → Shared → Prop} (i : Nat) (fn : Fn env ns) (st : S env ns h₀ vs l s₀ s) (hn : ns[i]? = some x) (hv : vs[i]? = some (some (.int n t))) (hi : i < vs.length)
    (h : ∀ t' s', S env ns h₀ (vs.set i (some (.int (n + m) t'))) l s₀ s' → Q .next s') : W (model prog w) A (exec (.AugAssign (.Name x p1) .Add (.Constant (.int m) k p2) pos) env) Q E s := by
  refine .mk (wpAny_AugAssign_Name (wpAny_loadName_local fn.kind (fn.loc x (List.mem_of_getElem? hn)) st.fr.ns (locOf_get fn.nodup hn hv) (g_int st fun t' s' st' => PySem.AutoIntOps.iadd_0 ?_)))
  exact g_store i fn (st'.tok _) hn hi fun s'' st'' => h _ s'' st''
theorem w_lamNew {L a c P : Addr} {cn qual : Str} {cs : Scope} {ccd : Value} {cl clos : List (Str × Addr)} {ps : Array Value} {params : Arguments} {body : Expr} {scope : Scope} {pos : Pos} {Q : Value → Shared → Prop}
    (hX : env = envX cn cs L a ccd cl) (st : S env ns h₀ vs ((P, tabObj ps) :: l) s₀ s) (T : Top p loose mean mg mb h₀) (C : CodeHd h₀ c P) (hcd : ccd = .ref c) (ht : TriplesOk ps.toList) (hnf : codeAmong pos ps.toList = none)
    (hcl : closureFor scope env = pure clos) (hq : env.qual ++ "<lambda>" = qual) (hdef : defaultsOf params env = ([], []))
    (h : ∀ f c' oc pm ctv s', S env ns h₀ vs ((f, kla_obj "<lambda>" qual params body scope clos pm c' ctv) :: (c', oc) :: (P, tabObj (ps ++ #[rawInt pos.line, rawInt pos.col, .ref c'])) :: l) s₀ s' →
      CodeAt qual [(c', oc)] c' → Q (.ref f) s') : W (model prog w) A (eval (.Lambda params body scope pos) env) Q E s := by
  subst hX
  refine .mk (kla_eval hdef (kla_nest st.fr st.nw T C hcd (.head fun y hy q => (List.nodup_cons.mp st.nd).1 (List.mem_map.mpr ⟨y, hy, q⟩)) ht hnf hcl fun f c' oc vs' t ctv h' tk F N hd hv l1 l2 => ?_))
  rw [hq] at N hv
  refine h f c' oc _ ctv _ (st.to F N ?_) ⟨oc, vs', t, .head _, hd, hv⟩
  have e : (((P, tabObj ps) :: l).map (·.1)) = (((P, tabObj (ps ++ #[rawInt pos.line, rawInt pos.col, .ref c'])) :: l).map (·.1)) := rfl
  have lt : ∀ b ∈ ((P, tabObj ps) :: l).map (·.1), b < c' := fun b hb => by
    obtain ⟨y, hy, rfl⟩ := List.mem_map.mp hb
    exact l1 y hy
  rw [List.map_cons, List.map_cons, ← e, List.nodup_cons, List.nodup_cons]
  refine ⟨fun q => ?_, fun q => Nat.lt_irrefl _ (lt _ q), st.nd⟩
  rcases List.mem_cons.mp q with q | q
  · exact Nat.ne_of_gt l2 q
  · exact absurd (Nat.lt_trans (lt _ q) l2) (Nat.lt_irrefl _)
theorem w_lamHit {L a c P c' : Addr} {cn qual : Str} {cs : Scope} {ccd : Value} {cl clos : List (Str × Addr)} {ps : Array Value} {params : Arguments} {body : Expr} {scope : Scope} {pos : Pos} {Q : Value → Shared → Prop}
    (hX : env = envX cn cs L a ccd cl) (st : S env ns h₀ vs l s₀ s) (hm : (P, tabObj ps) ∈ l) (T : Top p loose mean mg mb h₀) (C : CodeHd h₀ c P) (hcd : ccd = .ref c) (ht : TriplesOk ps.toList) (hf : codeAmong pos ps.toList = some (.ref c'))
    (hcl : closureFor scope env = pure clos) (hq : env.qual ++ "<lambda>" = qual) (hdef : defaultsOf params env = ([], []))
    (h : ∀ f pm ctv s', S env ns h₀ vs ((f, kla_obj "<lambda>" qual params body scope clos pm c' ctv) :: l) s₀ s' → Q (.ref f) s') : W (model prog w) A (eval (.Lambda params body scope pos) env) Q E s := by
  subst hX
  refine .mk (kla_eval hdef (kla_hit st.fr st.nw T C hcd hm ht hf hcl fun f ctv h' tk F N l1 => ?_))
  rw [hq] at N
  refine h f _ ctv _ (st.to F N ?_)
  rw [List.map_cons, List.nodup_cons]
  refine ⟨fun q => ?_, st.nd⟩
  obtain ⟨y, hy, e⟩ := List.mem_map.mp q
  exact Nat.ne_of_lt (l1 y hy) e
theorem w_forG {target : Expr} {body : List Stmt} {t : Addr} {us : List Value} {n : Nat} {Q : Flow → Shared → Prop} (hh : A.handled = none) (st : S env ns h₀ vs l s₀ s) (hm : (t, listO us n) ∈ l)
    (J : Nat → Heap → List (Option Value) → Lg → Prop) (h0 : J 0 h₀ vs l) (keep : ∀ i g vs' l', J i g vs' l' → (t, listO us n) ∈ l')
    (turn : ∀ i v g vs' l' I o s' E', us[i]? = some v → (o.cls = .type "list_iterator" ∧ ∃ k : Int, o.data = .fields #[.ref t, .int k 0]) → J i g vs' l' → S env ns g vs' ((I, o) :: l') s₀ s' →
      wpAny (model prog w) A (assign target env v) (fun x s2 => wpAny (model prog w) A (execs body env) (fun f s3 => f = .next ∧ ∃ g' vs3 l3, S env ns g' vs3 ((I, o) :: l3) s₀ s3 ∧ J (i + 1) g' vs3 l3) E' s2) E' s')
    (done : ∀ g vs' l' s', J us.length g vs' l' → S env ns g vs' l' s₀ s' → Q .next s') :
    W (model prog w) A (pyIter (.ref t)) (ForRest prog w A env E target body Q) E s := by
  have hl : s.heap.IsList t us.toArray := ⟨_, st.at hm, rfl, _, rfl⟩
  refine .mk (wpAny_pyIter_list hl ?_)
  have hne : t ≠ s.heap.objs.size := Nat.ne_of_lt (Heap.lt_size (st.at hm))
  generalize hI : s.heap.objs.size = I at hne
  have Wi : Iter prog w A I us.length _ _ _ := iter_list hh hne us
  have st0 := st.push { cls := .type "list_iterator", data := .fields #[.ref t, .int (0 : Nat) 0] } rfl
  rw [hI] at st0
  refine codeAny_forLoop_any (fun k s' => ∃ (i : Nat) (g : Heap) (vs' : List (Option Value)) (l' : Lg) (o : Obj), S env ns g vs' ((I, o) :: l') s₀ s' ∧ (o.cls = .type "list_iterator" ∧ o.data = .fields #[.ref t, .int i 0]) ∧ J i g vs' l' ∧ i ≤ us.length ∧ k = us.length + 1 - i) ?_ (us.length + 1) ⟨0, h₀, vs, l, _, st0, ⟨rfl, rfl⟩, h0, Nat.zero_le _, rfl⟩
  rintro k s' ⟨i, g, vs', l', o, st', hok', hJ, hi, rfl⟩
  have ho := st'.at (.head _)
  have hlt' : s'.heap.IsList t us.toArray := st'.list (.tail _ (keep i g vs' l' hJ))
  by_cases hlt : i < us.length
  · refine Wi.next i s' o _ _ hlt ho hok' hlt' fun v h' tk o' hP ho' hok'' hs' => ?_
    have st2 : S env ns g vs' ((I, o') :: l') s₀ { s' with heap := h', toks := tk } := st'.upd .head hs' ho'
    refine Wi.go (i + 1) _ o' target v _ _ ho' hok'' ?_
    refine wpAny_mono (turn i v g vs' l' I o' _ _ hP ⟨hok''.1, _, hok''.2⟩ hJ st2) (fun x0 s2 h2 => wpAny_mono h2 (fun f s3 h3 => ?_) fun x x e => e) fun x0 x0 e => e
    obtain ⟨rfl, g', vs3, l3, st3, hJ3⟩ := h3
    exact ⟨us.length + 1 - (i + 1), by exact (by exact Nat.lt_of_add_lt_add_right (Nat.lt_of_lt_of_le (qfs2 (us.length + 1) (i + 1) (qfl fun x => qfa2 x hi (by simp +arith only))) (qfs1 (us.length + 1) (i)))), i + 1, g', vs3, l3, o', st3, hok'', hJ3, hlt, rfl⟩
  · have hin : i = us.length := by exact Nat.le_antisymm hi (Nat.le_of_not_lt hlt)
    subst hin
    refine Wi.stop s' o _ _ ho hok' hlt' fun h' tk he => wpAny_execs_nil ?_
    exact done g vs' l' _ hJ (st'.extBut he)
end
end Mine.Internal
end
section
set_option tactic.hygienic false
open PySem PySem.W PySem.Calls PyProof.Rows
set_option maxRecDepth 100000
namespace Mine.Internal
theorem dummyAR : (PySem.Challenge.rw_aa0050_01 = PySem.Challenge.rw_aa0050_01 ∧ hkF = hkF) := by k_fill; exact ⟨rfl, rfl⟩
noncomputable def lamQ : Str := "_law_all_refused.<locals>.<lambda>"
noncomputable def LamR (prog : Program) (w : World) (Z : Lg) (c' : Addr) (o : Obj) : Prop :=
  ∀ {p : Program} {loose : List Str} {mean : ExcName → Option Value} {mg mb : Str → Option Value} {A A₀ : Around} {env : Env} {ns : List Str} {h₀ base : Heap} {vs : List (Option Value)} {l : Lg} {s₀ s : Shared} {outer : List Env} {R : Result → Shared → Prop} {f : Addr},
    Below A₀ base outer h₀ → A.frames = some (env :: outer) → Fn env ns → Cx (hkF w.params) p loose mean mg mb 20 20 A env h₀ → S env ns h₀ vs l s₀ s → (f, o) ∈ l → CodeAt lamQ l c' → (∀ c ∈ Z, c ∈ l) →
    (∀ e s', RaiseAt base env ns vs h₀ l s₀ outer e s' → R (.error (.ref e)) s') → codeAny (model prog w) A (.call (.ref f) ⟨[], []⟩) R s
section
variable {prog : Program} {w : World} {M : List Str} {F : FO} {τ : AbsT} {Z : Lg} {x1 x0 : Addr} {o1 o0 : Obj} {flag : Int} {t : Tok} {c' : Addr} {pm ctv : Value} {params : Arguments} {scope : Scope} {clos : List (Str × Addr)}
theorem lam_set {p1 p2 p3 p4 p5 p6 p7 : Pos} {k1 k2 : Nat} {rec : Bool} {pl : Env → Sem Bool} (H : F.Is prog w M τ) (hF : ∀ c ∈ F.cells, c ∈ Z) (m1 : (x1, o1) ∈ Z) (m0 : (x0, o0) ∈ Z) (v1 : CellV o1 (some (.int flag t))) (v0 : CellV o0 (some (.ref F.f)))
    (he : ∀ env3, eval (.Call (.Attribute (.Name "flags" p1) "set" p2) [.Tuple [] k1 p3, .Name "flag" p4] [⟨some "recursive", .Constant (.bool rec) k2 p5, p6⟩] p7) env3 = (do
      let ov ← eval (.Name "flags" p1) env3
      standAt p2.atName
      let (f, first) ← holding [ov] (getMethod ov "set" (pl env3))
      callWith p7 f first (backTo p7 (starEach [.Tuple [] k1 p3, .Name "flag" p4] env3)) (backToKw p7 (keywordEach [⟨some "recursive", .Constant (.bool rec) k2 p5, p6⟩] env3))))
    (hb : ∀ b, bindArgs (kla_fn "<lambda>" lamQ params b scope clos pm (.ref c') ctv) ⟨[], []⟩ = pure []) (h1 : ∀ L' f, (envX lamQ scope L' f (.ref c') clos).kindOf "flag" = some .free) (h0 : ∀ L' f, (envX lamQ scope L' f (.ref c') clos).kindOf "flags" = some .free)
    (l1 : clos.lookup ("flag" : Str) = some x1) (l0 : clos.lookup ("flags" : Str) = some x0) (hco : scope.isCoroutine = false) (hgen : scope.isGenerator = false) (hk : scope.kind = .function) (hcell : ∀ x ∈ scope.names, x.2 ≠ .cell) :
    LamR prog w Z c' (kla_obj "<lambda>" lamQ params (.Call (.Attribute (.Name "flags" p1) "set" p2) [.Tuple [] k1 p3, .Name "flag" p4] [⟨some "recursive", .Constant (.bool rec) k2 p5, p6⟩] p7) scope clos pm c' ctv) := by
  intro p loose mean mg mb A A₀ env ns h₀ base vs l s₀ s outer R f B hA fn cx st hf hc hZ hR
  refine S_lamR (d := 19) (u := 17) B hA fn cx st hf (hc.rec st) (hb _) (fun L' g A' s1 E' hE hA' B' fnL cxL stL => ?_) hR hco hgen hk hcell
  have r1 : Rd prog w (envX lamQ scope L' f (.ref c') clos) Z "flag" (.int flag t) := Rd.free hk (h1 _ _) l1 m1 v1
  have r0 : Rd prog w (envX lamQ scope L' f (.ref c') clos) Z "flags" (.ref F.f) := Rd.free hk (h0 _ _) l0 m0 v0
  refine w_methKW (he := he _) (w_rd r0 stL hZ (w_mset cxL stL H (fun c hc => hZ _ (hF c hc)) (w_cwKW cxL (by k_is) (w_args (w_tupleE (w_args0 (w_tuple stL fun q s2 st2 => w_args (w_rd r1 st2 (fun c hc => .tail _ (hZ _ hc)) (w_args0 (w_kw (w_bool (w_kw0 ⟨st2.inK cxL, w_callF ?_⟩)))))))))))) 
  exact set_raises (d := 18) (u := 14) B' hA' fnL cxL st2 H (fun c hc => .tail _ (hZ _ (hF c hc))) (.head _) fun e s' r => hE e [(q, tupO [])] s' r
theorem lam_unset {p1 p2 p3 p7 : Pos} {k1 : Nat} {pl : Env → Sem Bool} (H : F.Is prog w M τ) (hF : ∀ c ∈ F.cells, c ∈ Z) (m0 : (x0, o0) ∈ Z) (v0 : CellV o0 (some (.ref F.f)))
    (he : ∀ env3, eval (.Call (.Attribute (.Name "flags" p1) "unset_all" p2) [.Tuple [] k1 p3] [] p7) env3 = (do
      let ov ← eval (.Name "flags" p1) env3
      standAt p2.atName
      let (f, first) ← holding [ov] (getMethod ov "unset_all" (pl env3))
      callWith p7 f first (backTo p7 (starEach [.Tuple [] k1 p3] env3)) []))
    (hb : ∀ b, bindArgs (kla_fn "<lambda>" lamQ params b scope clos pm (.ref c') ctv) ⟨[], []⟩ = pure []) (h0 : ∀ L' f, (envX lamQ scope L' f (.ref c') clos).kindOf "flags" = some .free)
    (l0 : clos.lookup ("flags" : Str) = some x0) (hco : scope.isCoroutine = false) (hgen : scope.isGenerator = false) (hk : scope.kind = .function) (hcell : ∀ x ∈ scope.names, x.2 ≠ .cell) :
    LamR prog w Z c' (kla_obj "<lambda>" lamQ params (.Call (.Attribute (.Name "flags" p1) "unset_all" p2) [.Tuple [] k1 p3] [] p7) scope clos pm c' ctv) := by
  intro p loose mean mg mb A A₀ env ns h₀ base vs l s₀ s outer R f B hA fn cx st hf hc hZ hR
  refine S_lamR (d := 19) (u := 17) B hA fn cx st hf (hc.rec st) (hb _) (fun L' g A' s1 E' hE hA' B' fnL cxL stL => ?_) hR hco hgen hk hcell
  have r0 : Rd prog w (envX lamQ scope L' f (.ref c') clos) Z "flags" (.ref F.f) := Rd.free hk (h0 _ _) l0 m0 v0
  refine w_meth (he := he _) (w_rd r0 stL hZ (w_munset cxL stL H (fun c hc => hZ _ (hF c hc)) (w_cwK cxL (by k_is) (w_args (w_tupleE (w_args0 (w_tuple stL fun q s2 st2 => (w_args0 ⟨st2.inK cxL, w_callF ?_⟩))))))))
  exact unset_raises (d := 18) (u := 14) B' hA' fnL cxL st2 H (fun c hc => .tail _ (hZ _ (hF c hc))) (.head _) fun e s' r => hE e [(q, tupO [])] s' r
end
end Mine.Internal
end
section
set_option tactic.hygienic false
open PySem PySem.W PySem.Calls PyProof.Rows
set_option maxRecDepth 100000
namespace Mine.Internal
theorem dummyAR2 : (PySem.Challenge.rw_aa0050_01 = PySem.Challenge.rw_aa0050_01 ∧ hkF = hkF) := by k_fill; exact ⟨rfl, rfl⟩
inductive TabSt (l : Lg) : Array Value → Prop
  | empty : TabSt l #[]
  | full (c1 c2 c3 : Addr) : CodeAt lamQ l c1 → CodeAt lamQ l c2 → CodeAt lamQ l c3 → TabSt l #[rawInt 66, rawInt 0, .ref c1, rawInt 67, rawInt 0, .ref c2, rawInt 68, rawInt 0, .ref c3]
theorem TabSt.mono {l l' : Lg} {ps : Array Value} (h : TabSt l ps) (hl : ∀ x ∈ l, x ∈ l') : TabSt l' ps := by
  cases h with
  | empty => exact .empty
  | full c1 c2 c3 a b c => exact .full c1 c2 c3 (a.mono hl) (b.mono hl) (c.mono hl)
theorem pmR {α : Type} (a b c d : α) (Y F l : List α) : (a :: (Y ++ (b :: ((c :: d :: F) ++ l)))).Perm (b :: (F ++ ((a :: (Y ++ [c, d])) ++ l))) := by
  have e : (a :: Y) ++ ((c :: d :: F) ++ l) = (a :: (Y ++ [c, d])) ++ (F ++ l) := by simp
  refine (List.perm_middle (l₁ := a :: Y)).trans (List.Perm.cons _ ?_)
  rw [e]
  exact List.perm_append_comm_assoc _ _ _
inductive RJ (A : Around) (env : Env) (base g : Heap) (L0 : Lg) (i : Nat) : Heap → List (Option Value) → Lg → Prop
  | mk (g' : Heap) (t' : Tok) (k2 : Option Value) : KtsTurn [env.locals] g g' → Below A base [env] g' → RJ A env base g L0 i g' [some (.int i t'), k2] L0
section
variable {prog : Program} {w : World} {A : Around} {E : Value → Shared → Prop} {env : Env} {ns : List Str} {h₀ : Heap} {vs : List (Option Value)} {l : Lg} {s₀ s : Shared}
  {p : Program} {loose : List Str} {mean : ExcName → Option Value} {mg mb : Str → Option Value} {d u : Nat}
set_option maxHeartbeats 4000000 in
theorem refused_spec {lc : Lg} {F : FO} {τ : AbsT} {flag : Int} {t : Tok} {ps : Array Value} {R : Result → Shared → Prop}
    (fn : Fn env ns) (hA : A.frames = some [env]) (cx : Cx (hkF w.params) p loose mean mg mb (d + 30) (u + 60) A env h₀) (st : S env ns h₀ vs ((79, tabObj ps) :: (F.cells ++ l)) s₀ s) (H : F.Is prog w LM τ) (hlc : ∀ x ∈ lc, x ∈ l) (ht : TabSt lc ps)
    (h : ∀ z ps' s', TabSt (z ++ lc) ps' → S env ns h₀ vs ((79, tabObj ps') :: (F.cells ++ (z ++ l))) s₀ s' → R (.ok (.ret (.bool true))) s') :
    codeAny (model prog w) A (.call (.ref 84) ⟨[.ref F.f, .int flag t], []⟩) R s := by
  refine S_callD (d := d + 29) (u := u + 57) [("flags", .ref F.f), ("flag", .int flag t)] (ns' := ["refused", "deed"]) (vs' := [none, none]) fn cx hA st (by k_is) (by k_is) (BindsTo.of_eq rfl) (by rfl) (by decide +kernel) ?_ (fn_ofC (by rfl) (by decide) rfl) ?_
  · intro L'
    funext y
    exact (locOf_none (nones 2) y).symm
  · intro L' g A1 s1 E' cells base hA1 B1 XB TB hroom hunits hhand fn1 X1 T1 hY st1
    obtain ⟨a1, a0, o1, o0, rfl, e1, e0, v1, v0⟩ : ∃ a1 a0 o1 o0, cells = [(a1, o1), (a0, o0)] ∧ a1 = L' + 2 ∧ a0 = L' + 1 ∧ CellV o1 (some (.int flag t)) ∧ CellV o0 (some (.ref F.f)) := by
      cases hY with
      | cons v1 hY =>
        cases hY with
        | cons v0 hY =>
          cases hY
          exact ⟨_, _, _, _, rfl, rfl, rfl, v1, v0⟩
    subst e1 e0
    clear hY
    generalize hE : envOfC _ _ L' 84 _ = env1 at fn1 hA1 st1 ⊢
    have hint : interactive env1 = false := by rw [← hE]; rfl
    have CH : CodeHd g 83 79 := codeHd_of_K X1 (by kernel_rfl)
    have hfr : [env].filterMap (·.frame) = [env.locals] := by rw [List.filterMap_cons, fn.frame]; rfl
    refine w_cons (w_assign (h₀ := g) (s₀ := s₀) 0 fn1 rfl (w_int st1 fun t2 s2 st2 => ⟨_, _, st2, Nat.le_of_ble_eq_true rfl, fun s3 st3 => ?_⟩))
    refine w_cons (w_for (w_listE ?_))
    generalize hQL : (fun (vs : List Value) (s₁ : Shared) => (_ : Prop)) = QL
    have st4 := st3.perm (l' := (79, tabObj ps) :: ((L' + 2, o1) :: (L' + 1, o0) :: (F.cells ++ l))) (List.perm_middle (l₁ := [(L' + 2, o1), (L' + 1, o0)]))
    generalize hZ : (L' + 2, o1) :: (L' + 1, o0) :: F.cells = Z
    have hF : ∀ c ∈ F.cells, c ∈ Z := fun c hc => hZ ▸ .tail _ (.tail _ hc)
    have m1 : (L' + 2, o1) ∈ Z := hZ ▸ .head _
    have m0 : (L' + 1, o0) ∈ Z := hZ ▸ .tail _ (.head _)
    have eZ : (L' + 2, o1) :: (L' + 1, o0) :: (F.cells ++ l) = Z ++ l := by rw [← hZ]; rfl
    rw [eZ] at st4
    have hAfter : ∀ (Y : Lg) (ps' : Array Value) (f1 f2 f3 c1 c2 c3 : Addr) (O1 O2 O3 : Obj) (s' : Shared), (f1, O1) ∈ Y → (f2, O2) ∈ Y → (f3, O3) ∈ Y → (LamR prog w Z c1 O1 ∧ ∃ fd, O1.data = .func fd) → (LamR prog w Z c2 O2 ∧ ∃ fd, O2.data = .func fd) → (LamR prog w Z c3 O3 ∧ ∃ fd, O3.data = .func fd) →
        CodeAt lamQ (Y ++ l) c1 → CodeAt lamQ (Y ++ l) c2 → CodeAt lamQ (Y ++ l) c3 → TabSt (Y ++ lc) ps' → S env1 ["refused", "deed"] g [some (.int 0 t2), none] (Y ++ ((79, tabObj ps') :: (Z ++ l))) s₀ s' → QL [.ref f1, .ref f2, .ref f3] s' := by
      intro Y ps' f1 f2 f3 c1 c2 c3 O1 O2 O3 s' mf1 mf2 mf3 r1 r2 r3 hc1 hc2 hc3 hT st'
      rw [← hQL]
      refine w_list st' fun LL s5 st5 => ?_
      refine w_forG hhand st5 (.head _) (RJ A env base g ((LL, listO [.ref f1, .ref f2, .ref f3] 0) :: (Y ++ ((79, tabObj ps') :: (Z ++ l))))) (.mk g t2 none .refl B1) (fun i g' vs' l' hJ => by obtain ⟨_⟩ := hJ; exact .head _) ?_ ?_
      · intro i v g' vs' l' I oI s6 E2 hi _ hJ st6
        obtain ⟨t', k2, T6, B6⟩ := hJ
        obtain ⟨f, c, O, rfl, mf, ⟨r, fd, hfd⟩, hc⟩ : ∃ f c O, v = .ref f ∧ (f, O) ∈ Y ∧ (LamR prog w Z c O ∧ ∃ fd, O.data = .func fd) ∧ CodeAt lamQ (Y ++ l) c := by
          match i, hi with
          | 0, e => exact ⟨f1, c1, O1, (Option.some.inj e).symm, mf1, r1, hc1⟩
          | 1, e => exact ⟨f2, c2, O2, (Option.some.inj e).symm, mf2, r2, hc2⟩
          | 2, e => exact ⟨f3, c3, O3, (Option.some.inj e).symm, mf3, r3, hc3⟩
        have cx6 : Cx (hkF w.params) p loose mean mg mb 20 20 A1 env1 g' := ⟨⟨A, base, _, B6, hA1⟩, XB.keeps B6.stays, TB.keeps B6.stays, by exact qft fun x => qfa2 x hroom (by simp +arith only), by exact qft fun x => qfa2 x hunits (by simp +arith only), hhand⟩
        have mY : ∀ x ∈ Y ++ l, x ∈ (I, oI) :: (LL, listO [.ref f1, .ref f2, .ref f3] 0) :: (Y ++ ((79, tabObj ps') :: (Z ++ l))) := fun x hx => .tail _ (.tail _ ((List.mem_append.mp hx).elim (List.mem_append_left _) fun h => List.mem_append_right _ (.tail _ (List.mem_append_right _ h))))
        refine (w_aname (w_store 1 fn1 st6 rfl (Nat.le_of_ble_eq_true rfl) fun s7 st7 => ?_)).out
        refine W.out (w_cons (w_try (w_cons (w_exprA hint (w_callE (w_name 1 fn1 st7 rfl rfl (w_cwLam0 st7 (mY _ (List.mem_append_left _ mf)) hfd (w_callF ?_))))))))
        refine r B6 hA1 fn1 cx6 st7 (mY _ (List.mem_append_left _ mf)) (hc.mono mY) (fun x hx => .tail _ (.tail _ (List.mem_append_right _ (.tail _ (List.mem_append_left _ hx))))) fun e s8 hr => ?_
        refine S_caught hE.symm hA1 hr st7.nd B6 XB TB (by k_is) (fun h9 g9 E9 T9 B9 st9 => ?_) rfl (by rw [← hE]; rfl)
        refine w_cons (w_augInt 0 fn1 st9 rfl rfl (Nat.le_of_ble_eq_true rfl) fun t9 s10 st10 => w_nil (w_nil ⟨rfl, g9, _, _, st10, ?_⟩))
        rw [hfr] at T9
        exact .mk g9 t9 (some (.ref f)) (T6.trans T9) B9
      · rintro g' vs' l' s6 ⟨t', k2, T6, B6⟩ st6
        refine w_cons (w_ret (w_cmp (w_name 0 fn1 st6 rfl rfl (w_int st6 fun t7 s7 st7 => w_eq ?_))))
        refine ⟨g', _, _, T6, st7, fun st => ?_⟩
        refine h ((LL, listO [.ref f1, .ref f2, .ref f3] 0) :: (Y ++ [(L' + 2, o1), (L' + 1, o0)])) ps' _ (hT.mono fun x hx => ?_) (st.perm ?_)
        · exact (List.mem_append.mp hx).elim (fun h => List.mem_append_left _ (.tail _ (List.mem_append_left _ h))) (List.mem_append_right _)
        · rw [← hZ]; exact pmR _ _ _ _ _ _ _
    clear hQL
    cases ht with
    | empty =>
      refine w_args (w_lamNew (qual := lamQ) hE.symm st4 T1 CH rfl trivial rfl (by rw [← hE]; rfl) (by rw [← hE]; rfl) (by rw [← hE]; rfl) fun f1 c1 oc1 pm1 ctv1 s5 st5 k1 => ?_)
      generalize hO1 : kla_obj _ _ _ _ _ _ _ _ _ = O1 at st5
      have r1 : LamR prog w Z c1 O1 ∧ ∃ fd, O1.data = .func fd := by
        rw [← hO1]
        exact ⟨lam_set H hF m1 m0 v1 v0 (fun x => rfl) (fun x => rfl) (fun x x => rfl) (fun x x => rfl) rfl rfl rfl rfl rfl (by decide), _, rfl⟩
      clear hO1
      have st5 := st5.perm (List.perm_middle (l₁ := [(f1, O1), (c1, oc1)]))
      refine w_args (w_lamNew (qual := lamQ) hE.symm st5 T1 CH rfl trivial rfl (by rw [← hE]; rfl) (by rw [← hE]; rfl) (by rw [← hE]; rfl) fun f2 c2 oc2 pm2 ctv2 s6 st6 k2 => ?_)
      generalize hO2 : kla_obj _ _ _ _ _ _ _ _ _ = O2 at st6
      have r2 : LamR prog w Z c2 O2 ∧ ∃ fd, O2.data = .func fd := by
        rw [← hO2]
        exact ⟨lam_set H hF m1 m0 v1 v0 (fun x => rfl) (fun x => rfl) (fun x x => rfl) (fun x x => rfl) rfl rfl rfl rfl rfl (by decide), _, rfl⟩
      clear hO2
      have st6 := st6.perm (List.perm_middle (l₁ := [(f2, O2), (c2, oc2)]))
      refine w_args (w_lamNew (qual := lamQ) hE.symm st6 T1 CH rfl trivial rfl (by rw [← hE]; rfl) (by rw [← hE]; rfl) (by rw [← hE]; rfl) fun f3 c3 oc3 pm3 ctv3 s7 st7 k3 => ?_)
      generalize hO3 : kla_obj _ _ _ _ _ _ _ _ _ = O3 at st7
      have r3 : LamR prog w Z c3 O3 ∧ ∃ fd, O3.data = .func fd := by
        rw [← hO3]
        exact ⟨lam_unset H hF m0 v0 (fun x => rfl) (fun x => rfl) (fun x x => rfl) rfl rfl rfl rfl (by decide), _, rfl⟩
      clear hO3
      have st7 := st7.perm ((List.perm_middle (l₁ := [(f3, O3), (c3, oc3)])).trans (List.perm_middle (l₁ := [(f3, O3), (c3, oc3), (f2, O2), (c2, oc2), (f1, O1), (c1, oc1)])).symm)
      have jj : ∀ {c : Addr} {oc : Obj} (k : CodeAt lamQ [(c, oc)] c) (Y : Lg), (∀ x ∈ [(c, oc)], x ∈ Y) → CodeAt lamQ (Y ++ lc) c := fun k Y hY => k.mono fun x hx => List.mem_append_left _ (hY x hx)
      have j1 : CodeAt lamQ ([(f3, O3), (c3, oc3), (f2, O2), (c2, oc2), (f1, O1), (c1, oc1)] ++ l) c1 := k1.mono fun x hx => by rw [List.mem_singleton.mp hx]; exact .tail _ (.tail _ (.tail _ (.tail _ (.tail _ (.head _)))))
      have j2 : CodeAt lamQ ([(f3, O3), (c3, oc3), (f2, O2), (c2, oc2), (f1, O1), (c1, oc1)] ++ l) c2 := k2.mono fun x hx => by rw [List.mem_singleton.mp hx]; exact .tail _ (.tail _ (.tail _ (.head _)))
      have j3 : CodeAt lamQ ([(f3, O3), (c3, oc3), (f2, O2), (c2, oc2), (f1, O1), (c1, oc1)] ++ l) c3 := k3.mono fun x hx => by rw [List.mem_singleton.mp hx]; exact .tail _ (.head _)
      exact w_args0 (hAfter [(f3, O3), (c3, oc3), (f2, O2), (c2, oc2), (f1, O1), (c1, oc1)] _ f1 f2 f3 c1 c2 c3 O1 O2 O3 s7 (.tail _ (.tail _ (.tail _ (.tail _ (.head _))))) (.tail _ (.tail _ (.head _))) (.head _) r1 r2 r3 j1 j2 j3 (.full c1 c2 c3 (jj k1 _ fun x hx => by rw [List.mem_singleton.mp hx]; exact .tail _ (.tail _ (.tail _ (.tail _ (.tail _ (.head _)))))) (jj k2 _ fun x hx => by rw [List.mem_singleton.mp hx]; exact .tail _ (.tail _ (.tail _ (.head _)))) (jj k3 _ fun x hx => by rw [List.mem_singleton.mp hx]; exact .tail _ (.head _))) st7)
    | full c1 c2 c3 k1 k2 k3 =>
      refine w_args (w_lamHit (qual := lamQ) hE.symm st4 (.head _) T1 CH rfl trivial rfl (by rw [← hE]; rfl) (by rw [← hE]; rfl) (by rw [← hE]; rfl) fun f1 pm1 ctv1 s5 st5 => ?_)
      generalize hO1 : kla_obj _ _ _ _ _ _ _ _ _ = O1 at st5
      have r1 : LamR prog w Z c1 O1 ∧ ∃ fd, O1.data = .func fd := by
        rw [← hO1]
        exact ⟨lam_set H hF m1 m0 v1 v0 (fun x => rfl) (fun x => rfl) (fun x x => rfl) (fun x x => rfl) rfl rfl rfl rfl rfl (by decide), _, rfl⟩
      clear hO1
      refine w_args (w_lamHit (qual := lamQ) hE.symm st5 (.tail _ (.head _)) T1 CH rfl trivial rfl (by rw [← hE]; rfl) (by rw [← hE]; rfl) (by rw [← hE]; rfl) fun f2 pm2 ctv2 s6 st6 => ?_)
      generalize hO2 : kla_obj _ _ _ _ _ _ _ _ _ = O2 at st6
      have r2 : LamR prog w Z c2 O2 ∧ ∃ fd, O2.data = .func fd := by
        rw [← hO2]
        exact ⟨lam_set H hF m1 m0 v1 v0 (fun x => rfl) (fun x => rfl) (fun x x => rfl) (fun x x => rfl) rfl rfl rfl rfl rfl (by decide), _, rfl⟩
      clear hO2
      refine w_args (w_lamHit (qual := lamQ) hE.symm st6 (.tail _ (.tail _ (.head _))) T1 CH rfl trivial rfl (by rw [← hE]; rfl) (by rw [← hE]; rfl) (by rw [← hE]; rfl) fun f3 pm3 ctv3 s7 st7 => ?_)
      generalize hO3 : kla_obj _ _ _ _ _ _ _ _ _ = O3 at st7
      have r3 : LamR prog w Z c3 O3 ∧ ∃ fd, O3.data = .func fd := by
        rw [← hO3]
        exact ⟨lam_unset H hF m0 v0 (fun x => rfl) (fun x => rfl) (fun x x => rfl) rfl rfl rfl rfl (by decide), _, rfl⟩
      clear hO3
      exact w_args0 (hAfter [(f3, O3), (f2, O2), (f1, O1)] _ f1 f2 f3 c1 c2 c3 O1 O2 O3 s7 (.tail _ (.tail _ (.head _))) (.tail _ (.head _)) (.head _) r1 r2 r3 (k1.mono fun x hx => List.mem_append_right _ (hlc _ hx)) (k2.mono fun x hx => List.mem_append_right _ (hlc _ hx)) (k3.mono fun x hx => List.mem_append_right _ (hlc _ hx))
        (.full c1 c2 c3 (k1.mono fun x hx => List.mem_append_right _ hx) (k2.mono fun x hx => List.mem_append_right _ hx) (k3.mono fun x hx => List.mem_append_right _ hx)) st7)
end
end Mine.Internal
end
section
set_option tactic.hygienic false
open PySem PySem.W PySem.Calls PyProof.Rows
set_option maxRecDepth 100000
namespace Mine.Internal

noncomputable def e0 : NS := (fun x => false, fun x => false)
noncomputable def addR (rec : Bool) (f : Int) (x : NS) : NS := if rec then (x.1, addF x.2 f) else (addF x.1 f, x.2)
noncomputable def opAt (v : Way) (f : Int) (rec : Bool) (u : Way) (x : Option NS) : Option NS := if u = v then some (addR rec f (x.getD e0)) else if u ≠ [] ∧ u <+: v then some (x.getD e0) else x

theorem road_eq (τ : AbsT) (v : Way) : ∀ n u, road τ [] (v.take n) u = if u ≠ [] ∧ u <+: v.take n then some ((τ u).getD e0) else τ u
  | 0, u => by
    rw [List.take_zero, if_neg (fun q => q.1 (List.prefix_nil.mp q.2))]
    rfl
  | n + 1, u => by
    cases hk : v[n]? with
    | none =>
      have : v.take (n + 1) = v.take n := by rw [List.take_add_one, hk]; simp
      rw [this]; exact road_eq τ v n u
    | some k =>
      have e : v.take (n + 1) = v.take n ++ [k] := by rw [List.take_add_one, hk]; rfl
      rw [e, road_snoc]
      show ensure (road τ [] (v.take n)) (v.take n ++ [k]) u = _
      unfold ensure
      by_cases hu : u = v.take n ++ [k]
      · rw [if_pos hu, if_pos ⟨by rw [hu]; simp, by rw [hu]; exact List.prefix_refl _⟩, road_eq τ v n]
        rw [if_neg (fun q => by
          have := q.2.length_le
          simp at this
          have h1 : n < v.length := (List.getElem?_eq_some_iff.mp hk).1
          exact qfa1 this (by simp +arith only)), ← hu]
        rfl
      · rw [if_neg hu, road_eq τ v n]
        have : (u <+: v.take n ++ [k]) ↔ u <+: v.take n := by
          constructor
          · intro q
            rcases List.prefix_concat_iff.mp q with q | q
            · exact absurd q hu
            · exact q
          · intro q; exact q.trans (List.prefix_append _ _)
        simp only [this]
theorem setT_eq (τ : AbsT) {v : Way} (hv : v ≠ []) (f : Int) (rec : Bool) : setT τ v f rec = fun u => opAt v f rec u (τ u) := by
  funext u
  have hr := road_eq τ v v.length
  rw [List.take_length] at hr
  unfold setT setM opAt
  by_cases hu : u = v
  · rw [if_pos hu, if_pos hu, hr, if_pos ⟨hv, List.prefix_refl _⟩]
    subst hu
    rfl
  · rw [if_neg hu, if_neg hu, hr]
theorem addR_comm (r r' : Bool) (f g : Int) (x : NS) : addR r f (addR r' g x) = addR r' g (addR r f x) := by
  have h : ∀ X : Int → Bool, addF (addF X g) f = addF (addF X f) g := by
    intro X; funext k; unfold addF
    cases X k <;> cases decide (k = f) <;> cases decide (k = g) <;> rfl
  unfold addR
  cases r <;> cases r' <;> simp [h]
theorem opAt_comm (v w : Way) (f g : Int) (r r' : Bool) (u : Way) (x : Option NS) : opAt v f r u (opAt w g r' u x) = opAt w g r' u (opAt v f r u x) := by
  unfold opAt
  by_cases h1 : u = v <;> by_cases h2 : u = w
  · rw [if_pos h1, if_pos h2]
    simp only [if_pos h1, if_pos h2, Option.getD_some]
    rw [addR_comm]
  · simp only [if_pos h1, if_neg h2]
    by_cases h3 : u ≠ [] ∧ u <+: w
    · simp only [if_pos h3, Option.getD_some]
    · simp only [if_neg h3]
  · simp only [if_neg h1, if_pos h2]
    by_cases h3 : u ≠ [] ∧ u <+: v
    · simp only [if_pos h3, Option.getD_some]
    · simp only [if_neg h3]
  · simp only [if_neg h1, if_neg h2]
    by_cases h3 : u ≠ [] ∧ u <+: v <;> by_cases h4 : u ≠ [] ∧ u <+: w <;> simp only [h3, h4, if_true, if_false, Option.getD_some, and_self]
theorem setT_comm (τ : AbsT) {v w : Way} (hv : v ≠ []) (hw : w ≠ []) (f g : Int) (r r' : Bool) : setT (setT τ w g r') v f r = setT (setT τ v f r) w g r' := by
  rw [setT_eq _ hv, setT_eq _ hw, setT_eq _ hw, setT_eq _ hv]
  funext u
  exact opAt_comm v w f g r r' u (τ u)
theorem finT_perm (τ : AbsT) {qs ps : List (Way × Int)} (p : qs.Perm ps) (h : ∀ x ∈ ps, x.1 ≠ []) : finT τ qs = finT τ ps := by
  unfold finT
  refine List.Perm.foldl_eq' p (fun x hx y hy z => ?_) τ
  exact setT_comm z (h y (p.mem_iff.mp hy)) (h x (p.mem_iff.mp hx)) _ _ _ _
end Mine.Internal
end
section
set_option tactic.hygienic false
open PySem PySem.W PySem.Calls PyProof.Rows
set_option maxRecDepth 100000
namespace Mine.Internal
noncomputable abbrev Pr := Way × Int
noncomputable def dp (τ : AbsT) (v : Way) (f : Int) : Bool := match τ v with | none => false | some x => x.2 f
noncomputable def ft (τ : AbsT) (v : Way) (f : Int) : Bool := match τ v with | none => false | some x => x.1 f
noncomputable def Closed (τ : AbsT) : Prop := ∀ (v : Way) (k : Str), v ≠ [] → τ v = none → τ (v ++ [k]) = none
theorem Closed.below {τ : AbsT} (h : Closed τ) : ∀ (x v : Way), v ≠ [] → τ v = none → τ (v ++ x) = none := by
  intro x
  induction x with
  | nil => intro v hv h0; simpa using h0
  | cons k x ih =>
    intro v hv h0
    have := ih (v ++ [k]) (by simp) (h v k hv h0)
    simpa using this
theorem isGo_iff {τ : AbsT} (hc : Closed τ) (f : Int) : ∀ (xs pre : Way), isGo τ pre xs f = true ↔ (∃ u, u ≠ [] ∧ u <+: xs ∧ dp τ (pre ++ u) f = true) ∨ (xs ≠ [] ∧ ft τ (pre ++ xs) f = true)
  | [], pre => by
    simp only [isGo, Bool.false_eq_true, false_iff, not_or, not_exists, not_and]
    exact ⟨fun u h1 h2 => absurd (List.prefix_nil.mp h2) h1, fun h => absurd rfl h⟩
  | [k], pre => by
    unfold isGo
    have hu : ∀ u : Way, u ≠ [] ∧ u <+: [k] ∧ dp τ (pre ++ u) f = true ↔ u = [k] ∧ dp τ (pre ++ [k]) f = true := by
      intro u
      constructor
      · rintro ⟨h1, h2, h3⟩
        have : u = [k] := by
          obtain ⟨t, ht⟩ := h2
          cases u with
          | nil => exact absurd rfl h1
          | cons a u => simp at ht; obtain ⟨rfl, h, _⟩ := ht; rw [h]
        exact ⟨this, this ▸ h3⟩
      · rintro ⟨rfl, h⟩
        exact ⟨by simp, List.prefix_refl _, h⟩
    simp only [hu, exists_eq_left]
    unfold dp ft
    cases τ (pre ++ [k]) with
    | none => simp
    | some x => obtain ⟨X, Y⟩ := x; simp [Bool.or_eq_true, or_comm]
  | k :: k' :: r, pre => by
    unfold isGo
    have ih := isGo_iff hc f (k' :: r) (pre ++ [k])
    cases e : τ (pre ++ [k]) with
    | none =>
      have hb : ∀ x : Way, τ (pre ++ k :: x) = none := fun x => by
        have := hc.below x (pre ++ [k]) (by simp) e
        simpa using this
      simp only [Bool.false_eq_true, false_iff, not_or, not_exists, not_and]
      constructor
      · intro u h1 h2
        obtain ⟨t, ht⟩ := h2
        cases u with
        | nil => exact absurd rfl h1
        | cons a u =>
          simp at ht
          obtain ⟨rfl, _⟩ := ht
          simp [dp, hb]
      · intro _
        simp [ft, hb]
    | some x =>
      obtain ⟨X, Y⟩ := x
      simp only
      by_cases hY : Y f = true
      · rw [if_pos hY]
        simp only [true_iff]
        refine .inl ⟨[k], by simp, ⟨k' :: r, rfl⟩, ?_⟩
        unfold dp; rw [e]; exact hY
      · rw [if_neg hY, ih]
        constructor
        · rintro (⟨u, h1, h2, h3⟩ | ⟨h1, h2⟩)
          · refine .inl ⟨k :: u, by simp, ?_, by simpa using h3⟩
            obtain ⟨t, ht⟩ := h2
            exact ⟨t, by simp [ht]⟩
          · exact .inr ⟨by simp, by simpa using h2⟩
        · rintro (⟨u, h1, h2, h3⟩ | ⟨h1, h2⟩)
          · obtain ⟨t, ht⟩ := h2
            cases u with
            | nil => exact absurd rfl h1
            | cons a u =>
              simp at ht
              obtain ⟨rfl, ht⟩ := ht
              cases u with
              | nil =>
                unfold dp at h3
                rw [e] at h3
                exact absurd h3 hY
              | cons b u => exact .inl ⟨b :: u, by simp, ⟨t, ht⟩, by simpa using h3⟩
          · exact .inr ⟨by simp, by simpa using h2⟩
theorem isW_iff {τ : AbsT} (hc : Closed τ) (w : Way) (f : Int) : isW τ w f = true ↔ (∃ u, u ≠ [] ∧ u <+: w ∧ dp τ u f = true) ∨ (w ≠ [] ∧ ft τ w f = true) := by
  have := isGo_iff hc f w []
  simpa [isW] using this
theorem Closed.nil : Closed (fun x => none) := fun x x x x => rfl
theorem Closed.cut {τ : AbsT} (h : Closed τ) (v : Way) : Closed (cutT τ v) := by
  intro u k hu e
  unfold cutT at e ⊢
  by_cases h1 : v.isPrefixOf u = true
  · have : v.isPrefixOf (u ++ [k]) = true := pre_iff.mpr ((pre_iff.mp h1).trans (List.prefix_append _ _))
    rw [if_pos this]
  · rw [if_neg h1] at e
    rw [h u k hu e]
    split <;> rfl
theorem Closed.set {τ : AbsT} (h : Closed τ) {v : Way} (hv : v ≠ []) (f : Int) (r : Bool) : Closed (setT τ v f r) := by
  intro u k hu e
  rw [setT_eq _ hv] at e ⊢
  simp only [opAt] at e ⊢
  by_cases h1 : u = v
  · rw [if_pos h1] at e; cases e
  · rw [if_neg h1] at e
    by_cases h2 : u ≠ [] ∧ u <+: v
    · rw [if_pos h2] at e; cases e
    · rw [if_neg h2] at e
      have h3 : ¬ u ++ [k] <+: v := fun q => h2 ⟨hu, (List.prefix_append _ _).trans q⟩
      rw [if_neg (fun q : u ++ [k] = v => h3 (by rw [q]; exact List.prefix_refl _)), if_neg (fun q => h3 q.2)]
      exact h u k hu e
end Mine.Internal
end
section
set_option tactic.hygienic false
open PySem PySem.W PySem.Calls PyProof.Rows PySem.Spec
set_option maxRecDepth 100000
namespace Mine.Internal
theorem entry_set_eq1 : entryFor table "set.__eq__" = some Builtin.«frozenset.__eq__» := entryFor_alias (id' := "frozenset.__eq__") (by kernel_rfl) rfl (by decide +kernel) (by kernel_rfl)
section
variable {prog : Program} {w : World} {A : Around} {E : Value → Shared → Prop} {s : Shared}
theorem sub_set_set1 : isSubtype (.type "set") (.type "set") = pure true := by first | exact PySem.F.sub_set_set | rfl | kernel_rfl
theorem sub_set_fro1 : isSubtype (.type "set") (.type "frozenset") = pure false := by first | exact PySem.F.sub_set_frozenset | rfl | kernel_rfl
theorem w_setSize1 {a : Addr} {o : Obj} {es : Array (Int × Value)} {ep : Nat} {t : SetTable} {Q : Nat → Shared → Prop}
    (ho : s.heap.get? a = some o) (hd : o.data = .set es ep t) (hf : t.fits es.size = true) (h : Q es.size s) : wpAny (model prog w) A (Builtin.Frozenset.sizeOf a) Q E s := by
  unfold Builtin.Frozenset.sizeOf setEntries
  exact wpAny_bind (wpAny_bind (wpAny_setState_of ho hd hf (wpAny_pure (wpAny_pure h))))
theorem w_setEntries1 {a : Addr} {o : Obj} {es : Array (Int × Value)} {ep : Nat} {t : SetTable} {Q : Array (Int × Value) → Shared → Prop}
    (ho : s.heap.get? a = some o) (hd : o.data = .set es ep t) (hf : t.fits es.size = true) (h : Q es s) : wpAny (model prog w) A (setEntries a) Q E s := by
  unfold setEntries
  exact wpAny_bind (wpAny_setState_of ho hd hf (wpAny_pure h))
theorem quiet_elem {es : List (Int × Value)} (h : ElemsOf (intKind prog w) es) : ∀ e ∈ es, Builtin.Frozenset.quietEq e.2 = pure true := by
  intro e he
  obtain ⟨⟨k, hk, _⟩, _⟩ := h e he
  obtain ⟨hh, v⟩ := e
  cases v <;> first | rfl | exact absurd hk (by simp [intKind, Value.isInt])
theorem w_unseen1 {a b : Addr} {oa ob : Obj} {es es' : Array (Int × Value)} {ep ep' : Nat} {t t' : SetTable} {Q : List (Int × Value) → Shared → Prop}
    (ha : s.heap.get? a = some oa) (hd : oa.data = .set es ep t) (hf : t.fits es.size = true) (hel : ElemsOf (intKind prog w) es.toList)
    (hb : s.heap.get? b = some ob) (hd' : ob.data = .set es' ep' t') (hf' : t'.fits es'.size = true) (hel' : ElemsOf (intKind prog w) es'.toList)
    (h : Q es.toList s) : wpAny (model prog w) A (Builtin.Frozenset.walkUnseen a b) Q E s := by
  unfold Builtin.Frozenset.walkUnseen
  refine wpAny_bind (w_setEntries1 ha hd hf ?_)
  refine wpAny_bind (w_setEntries1 hb hd' hf' ?_)
  refine wpAny_bind ?_
  refine wpAny_forIn_list _ (fun rest q s' => s' = s ∧ q = (none, ()) ∧ ∀ e ∈ rest, Builtin.Frozenset.quietEq e.2 = pure true) _ ?_ ?_ _ _ ⟨rfl, rfl, ?_⟩
  · rintro ⟨x1, x⟩ rest q s' ⟨rfl, rfl, hq⟩
    have e : Builtin.Frozenset.quietEq x = pure true := hq _ (.head _)
    refine wpAny_bind (wpAny_of_eq e ?_)
    show wpAny _ _ (if (!true) = true then _ else _) _ _ _
    rw [if_neg (by decide)]
    exact wpAny_pure ⟨rfl, rfl, fun e he => hq e (.tail _ he)⟩
  · rintro q s' ⟨rfl, rfl, _⟩
    exact wpAny_pure h
  · intro e he
    rcases List.mem_append.mp he with he | he
    · exact quiet_elem hel e he
    · exact quiet_elem hel' e he
theorem sub1 {a b : Addr} {oa ob : Obj} {X : Int → Bool} {n : Nat} {es es' : Array (Int × Value)} {ep ep' : Nat} {t t' : SetTable} {id : String} {Q : Bool → Shared → Prop}
    (ha : s.heap.get? a = some oa) (hd : oa.data = .set es ep t) (hf : t.fits es.size = true) (hel : ElemsOf (intKind prog w) es.toList) (hmem : ∀ k, X k = true ↔ ∃ e ∈ es.toList, (intKind prog w).is k e.2 = true) (hsz : es.size = n)
    (Sb : s.heap.SetOf (intKind prog w) b X n) (hb : s.heap.get? b = some ob) (hd' : ob.data = .set es' ep' t') (hf' : t'.fits es'.size = true) (hel' : ElemsOf (intKind prog w) es'.toList) (hsz' : es'.size = n) (hn : n < scanBound)
    (h : Q true s) : wpAny (model prog w) A (Builtin.Frozenset.subsetOf id a b) Q E s := by
  unfold Builtin.Frozenset.subsetOf
  refine wpAny_bind (w_setSize1 ha hd hf ?_)
  refine wpAny_bind (w_setSize1 hb hd' hf' ?_)
  rw [if_neg (by rw [hsz, hsz']; exact Nat.lt_irrefl n)]
  refine wpAny_bind (wpAny_setEpoch_of ha hd hf ?_)
  refine wpAny_bind (w_unseen1 ha hd hf hel hb hd' hf' hel' ?_)
  refine wpAny_bind ?_
  refine wpAny_forIn_list _ (fun rest q s' => s' = s ∧ q = (none, ()) ∧ ∀ e ∈ rest, e ∈ es.toList) _ ?_ ?_ _ _ ⟨rfl, rfl, fun e he => he⟩
  · rintro ⟨x1, x⟩ rest q s' ⟨rfl, rfl, hq⟩
    have e := hq _ (.head _)
    obtain ⟨⟨k, hk, hh⟩, hsc⟩ := hel _ e
    have hX : X k = true := (hmem k).mpr ⟨_, e, hk⟩
    have hh' : x1 = (intKind prog w).hash k := hh
    refine wpAny_bind (wpAny_holding ?_)
    rw [hh']
    refine wpAny_setFind_of hk hsc Sb fun r hr => ?_
    have e1 : r.isNone = false := by rw [hX] at hr; cases r with
      | none => exact nomatch hr
      | some _ => rfl
    rw [if_neg (by rw [e1]; exact Bool.false_ne_true)]
    refine wpAny_bind ?_
    unfold Builtin.Frozenset.unchanged
    refine wpAny_bind (wpAny_setEpoch_of ha hd hf ?_)
    rw [if_neg (by simp)]
    exact wpAny_pure (wpAny_pure ⟨rfl, rfl, fun e he => hq e (.tail _ he)⟩)
  · rintro q s' ⟨rfl, rfl, _⟩
    exact wpAny_pure h
theorem set_rc {a b : Addr} {oa ob : Obj} {X : Int → Bool} {n : Nat} (ha : s.heap.get? a = some oa) (hb : s.heap.get? b = some ob) (xa : oa.SetObjOf (intKind prog w) X n) (xb : ob.SetObjOf (intKind prog w) X n) (hn : n < scanBound) (hu : A.units < cLine)
    {Q : Value → Shared → Prop} (h : Q (.bool true) s) : wpAny (model prog w) A (richCompare .Eq (.ref a) (.ref b)) Q E s := by
  have Ta : s.TypeIs (.ref a) "set" := ⟨oa, ha, xa.1.1⟩
  have Tb : s.TypeIs (.ref b) "set" := ⟨ob, hb, xb.1.1⟩
  have Sa := xa.setOf ha hn
  have Sb := xb.setOf hb hn
  obtain ⟨_, es, ep, t, hd, hel, hmem, hsz, hf⟩ := xa
  obtain ⟨_, es', ep', t', hd', hel', hmem', hsz', hf'⟩ := xb
  refine wpAny_richCompare_same_room (op := .Eq) Ta Tb PySem.F.slot_set_eq (wpAny_call_entry PySem.F.slot_set_eq Ta entry_set_eq1 ?_ (PySem.F.args_set_eq_2 _ _)) hu
  unfold Builtin.«frozenset.__eq__»
  show wpAny _ _ (Builtin.Frozenset.slot1 "__eq__" ⟨[.ref a, .ref b], []⟩ >>= _) _ _ s
  refine wpAny_bind (wpAny_pure ?_)
  dsimp only
  refine wpAny_bind ?_
  unfold Builtin.Frozenset.isAnySet
  refine wpAny_bind (wpAny_isInstance Tb sub_set_set1 ?_)
  refine wpAny_pure ?_
  show wpAny _ _ (if (!true) = true then _ else _) _ _ s
  rw [if_neg (by decide)]
  refine wpAny_bind (wpAny_pure ?_)
  refine wpAny_bind (wpAny_pure ?_)
  refine wpAny_bind (w_setSize1 ha hd hf ?_)
  refine wpAny_bind (w_setSize1 hb hd' hf' ?_)
  refine wpAny_bind ?_
  rw [if_neg (by rw [hsz, hsz']; simp)]
  refine wpAny_bind (wpAny_bind (wpAny_isInstance Ta sub_set_fro1 (wpAny_pure ?_)))
  show wpAny _ _ (if false = true then _ else _) _ _ s
  rw [if_neg Bool.false_ne_true]
  refine sub1 (X := X) (n := n) ha hd hf hel hmem hsz Sb hb hd' hf' hel' hsz' hn ?_
  refine wpAny_pure ⟨_, rfl, ?_, h⟩
  exact fun x => nomatch x
end
end Mine.Internal
end
section
set_option tactic.hygienic false
open PySem PySem.W PySem.Calls PyProof.Rows PySem.Spec
set_option maxRecDepth 100000
namespace Mine.Internal
section
variable {prog : Program} {w : World} {A : Around} {E : Value → Shared → Prop} {s : Shared}
noncomputable def EqP (prog : Program) (w : World) (A : Around) (s : Shared) (y x : Value) : Prop := ∀ (E : Value → Shared → Prop) (Q : Bool → Shared → Prop), Q true s → wpAny (model prog w) A (eqBool y x) Q E s
noncomputable def RcP (prog : Program) (w : World) (A : Around) (s : Shared) (y x : Value) : Prop := ∀ (E : Value → Shared → Prop) (Q : Value → Shared → Prop), Q (.bool true) s → wpAny (model prog w) A (richCompare .Eq y x) Q E s
theorem RcP.eq {a b : Addr} (h : RcP prog w A s (.ref a) (.ref b)) : EqP prog w A s (.ref a) (.ref b) := fun E Q hq => by
  unfold eqBool
  refine wpAny_holding ?_
  refine wpAny_ite_split (fun x => wpAny_bind (wpAny_rule (wpAny_pure hq))) (fun u => ?_)
  exact wpAny_bind (h E _ (wpAny_truthy_bool hq))
theorem de_pairs {nm : String} {a b : Addr} {ka kb : List (Str × Value)} {Q : Bool → Shared → Prop} (ha : (a == sysModules) = false) (hb : (b == sysModules) = false)
    (da : s.heap.DictOf (strKind prog w) a ka) (db : s.heap.DictOf (strKind prog w) b kb) (hl : ka.length = kb.length)
    (hits : ∀ p ∈ ka, ∃ y, valueAt kb p.1 = some y ∧ EqP prog w A s p.2 y) (h : Q true s) :
    wpAny (model prog w) A (Builtin.Dict.samePairs nm a b) Q E s := by
  obtain ⟨oa, es, ep, hoa, _, hda, hka, hpa, _⟩ := da
  obtain ⟨ob, fs, fp, hob, _, hdb, hkb, hpb, _⟩ := db
  have la : es.size = ka.length := by rw [← hpa.length]; exact Array.length_toList.symm
  have lb : fs.size = kb.length := by rw [← hpb.length]; exact Array.length_toList.symm
  unfold Builtin.Dict.samePairs Builtin.Dict.showsAll
  rw [if_neg (by rw [ha]; exact Bool.false_ne_true), if_neg (by rw [hb]; exact Bool.false_ne_true)]
  refine wpAny_bind (wpAny_pure (wpAny_bind (wpAny_pure (wpAny_bind (wpAny_dictEntries hoa hda (wpAny_bind (wpAny_dictEntries hob hdb ?_)))))))
  rw [if_neg (by rw [la, lb, hl]; simp)]
  refine wpAny_bind (wpAny_dictEpoch hoa hda (wpAny_bind ?_))
  rw [Std.Legacy.Range.forIn_eq_forIn_range']
  refine wpAny_forIn_list _ (fun rest q s' => s' = s ∧ q = (none, ()) ∧ ∀ i ∈ rest, i < es.size) _ ?_ ?_ _ _ ⟨rfl, rfl, fun i hi => ?_⟩
  · rintro i rest q s' ⟨rfl, rfl, hq⟩
    have hi : i < es.size := hq i (.head _)
    have hi' : i < ka.length := la ▸ hi
    refine wpAny_bind (wpAny_dictEntries hoa hda ?_)
    rw [Array.getElem?_eq_getElem hi]
    obtain ⟨hkey, hval⟩ := hpa.get? (i := i) (e := es[i]) (k := ka[i].1) (v := ka[i].2) (by rw [Array.getElem?_toList]; exact Array.getElem?_eq_getElem hi) (List.getElem?_eq_getElem hi')
    obtain ⟨k', hk', hh⟩ := hka es[i] (Array.getElem_mem hi)
    rw [(strKind prog w).inj _ _ _ hk' hkey] at hh
    obtain ⟨y, hy, he⟩ := hits ka[i] (List.getElem_mem hi')
    rw [← hpb.find] at hy
    show wpAny _ _ (holding [es[i].key, es[i].val] _ >>= _) _ _ _
    rw [hh]
    refine wpAny_bind (wpAny_holding (wpAny_bind (wpAny_dictFind_of hkey hob hdb hkb ?_)))
    have hf := findBy_of_findIdx? (strKind prog w).is fs ka[i].1
    have hf' : findBy (strKind prog w).is fs ka[i].1 = some y := by
      rw [← hy]
      clear hf hy lb hpb hkb hdb hob
      obtain ⟨l⟩ := fs
      simp [findBy]
    rw [hf'] at hf
    cases hj : fs.findIdx? fun e => (strKind prog w).is ka[i].1 e.key with
    | none => rw [hj] at hf; exact nomatch hf
    | some j =>
      rw [hj] at hf
      refine wpAny_bind (wpAny_dictEntries hob hdb ?_)
      obtain ⟨f, hf1, hf2⟩ := Option.map_eq_some_iff.mp hf.symm
      rw [hf1]
      refine wpAny_holding ?_
      rw [hf2, hval]
      refine he _ _ ?_
      show wpAny _ _ (if (!true) = true then _ else _) _ _ _
      rw [if_neg (by decide)]
      refine wpAny_bind (wpAny_dictEpoch hoa hda ?_)
      rw [if_neg (by simp)]
      exact wpAny_pure ⟨rfl, rfl, fun i hi => hq i (.tail _ hi)⟩
  · rintro q s' ⟨rfl, rfl, _⟩
    exact wpAny_pure h
  · have := List.mem_range'_1.mp hi
    simp [Std.Legacy.Range.size] at this
    exact this
theorem de_rc {a b : Addr} {ka kb : List (Str × Value)} (ha : (a == sysModules) = false) (hb : (b == sysModules) = false)
    (da : s.heap.DictOf (strKind prog w) a ka) (db : s.heap.DictOf (strKind prog w) b kb) (hu : A.units < cLine) (hl : ka.length = kb.length)
    (hits : ∀ p ∈ ka, ∃ y, valueAt kb p.1 = some y ∧ EqP prog w A.in1 s p.2 y) : RcP prog w A s (.ref a) (.ref b) := fun E Q h => by
  refine wpAny_richCompare_same_room (op := .Eq) da.typeIs db.typeIs PySem.F.slot_dict_eq (wpAny_call_entry PySem.F.slot_dict_eq da.typeIs PySem.F.entry_dict_eq ?_ (PySem.F.args_dict_eq_2 _ _)) hu
  show wpAny _ _ (Builtin.Dict.dictSlotArgs "__eq__" ⟨[.ref a, .ref b], []⟩ >>= _) _ _ s
  unfold Builtin.Dict.dictSlotArgs
  refine wpAny_bind (wpAny_bind (wpAny_notOrdered_dict da.typeIs (wpAny_pure ?_)))
  refine wpAny_bind (wpAny_isInstance (T := "dict") db.typeIs PySem.F.sub_dict_dict ?_)
  refine wpAny_bind (wpAny_pure (wpAny_bind (wpAny_pure ?_)))
  refine wpAny_bind (de_pairs ha hb da db hl hits (wpAny_pure ⟨_, rfl, ?_, h⟩))
  exact fun x => nomatch x
theorem de_ne {a b : Addr} {ka kb : List (Str × Value)} (ha : (a == sysModules) = false) (hb : (b == sysModules) = false)
    (da : s.heap.DictOf (strKind prog w) a ka) (db : s.heap.DictOf (strKind prog w) b kb) (hu : A.units < cLine) (hl : ka.length = kb.length)
    (hits : ∀ p ∈ ka, ∃ y, valueAt kb p.1 = some y ∧ EqP prog w A.in1 s p.2 y) {Q : Value → Shared → Prop} (h : Q (.bool false) s) : wpAny (model prog w) A (richCompare .NotEq (.ref a) (.ref b)) Q E s := by
  refine wpAny_richCompare_same_room (op := .NotEq) da.typeIs db.typeIs PySem.F.slot_dict_ne (wpAny_call_entry PySem.F.slot_dict_ne da.typeIs PySem.F.entry_dict_ne ?_ (PySem.F.args_dict_ne_2 _ _)) hu
  show wpAny _ _ (Builtin.Dict.dictSlotArgs "__ne__" ⟨[.ref a, .ref b], []⟩ >>= _) _ _ s
  unfold Builtin.Dict.dictSlotArgs
  refine wpAny_bind (wpAny_bind (wpAny_notOrdered_dict da.typeIs (wpAny_pure ?_)))
  refine wpAny_bind (wpAny_isInstance (T := "dict") db.typeIs PySem.F.sub_dict_dict ?_)
  refine wpAny_bind (wpAny_pure (wpAny_bind (wpAny_pure ?_)))
  refine wpAny_bind (de_pairs ha hb da db hl hits (wpAny_pure ⟨_, rfl, ?_, h⟩))
  exact fun x => nomatch x
end
end Mine.Internal
end
section
set_option tactic.hygienic false
open PySem PySem.W PySem.Calls PyProof.Rows PySem.Spec
set_option maxRecDepth 100000
namespace Mine.Internal
theorem nodup_le {α : Type} [DecidableEq α] : ∀ {l m : List α}, l.Nodup → (∀ x ∈ l, x ∈ m) → l.length ≤ m.length
  | [], m, _, _ => Nat.zero_le _
  | x :: l, m, hn, h => by
    rw [List.nodup_cons] at hn
    have hx := h x (.head _)
    have := nodup_le (l := l) (m := m.erase x) hn.2 fun y hy => (List.mem_erase_of_ne (fun e => hn.1 (by rw [← e]; exact hy))).mpr (h y (.tail _ hy))
    rw [List.length_erase_of_mem hx] at this
    have := List.length_pos_of_mem hx
    rw [List.length_cons]
    lia
theorem keys_len {ka kb : List (Str × Value)} (ha : (ka.map (·.1)).Nodup) (hb : (kb.map (·.1)).Nodup) (h : ∀ k, (valueAt ka k).isSome = (valueAt kb k).isSome) : ka.length = kb.length := by
  have mem : ∀ (l : List (Str × Value)) k, k ∈ l.map (·.1) ↔ (valueAt l k).isSome = true := fun l k => by
    unfold valueAt
    rw [Option.isSome_map, List.find?_isSome]
    simp
  have h1 := nodup_le ha (m := kb.map (·.1)) fun k hk => (mem _ _).mpr ((h k) ▸ (mem _ _).mp hk)
  have h2 := nodup_le hb (m := ka.map (·.1)) fun k hk => (mem _ _).mpr ((h k).symm ▸ (mem _ _).mp hk)
  rw [List.length_map, List.length_map] at h1 h2
  exact Nat.le_antisymm h1 h2
theorem valueAt_mem1 {kvs : List (Str × Value)} (hn : (kvs.map (·.1)).Nodup) {q : Str × Value} (hq : q ∈ kvs) : valueAt kvs q.1 = some q.2 := by
  unfold valueAt
  induction kvs with
  | nil => cases hq
  | cons p l ih =>
    rw [List.map_cons, List.nodup_cons] at hn
    rw [List.find?_cons]
    rcases List.mem_cons.mp hq with e | hq
    · subst e; simp
    · have : ¬ p.1 = q.1 := fun e => hn.1 (e ▸ List.mem_map_of_mem hq)
      simp only [decide_eq_false this]
      exact ih hn.2 hq
section
variable {prog : Program} {w : World} {A : Around} {E : Value → Shared → Prop} {s : Shared} {M M' : List Str} {F B : FO} {τ σ : AbsT}
theorem look_some (H : F.Is prog w M τ) (v : Way) : (F.look v).isSome = (τ v).isSome := by
  cases h : F.look v with
  | none => rw [H.gone _ h]; rfl
  | some x =>
    obtain ⟨X, Y, e, _⟩ := H.flags_at h
    rw [e]; rfl
noncomputable def Got (s : Shared) (l : Lg) : Prop := ∀ c ∈ l, s.heap.get? c.1 = some c.2
theorem eq_sets {a b : Addr} {oa ob : Obj} {X : Int → Bool} (ha : s.heap.get? a = some oa) (hb : s.heap.get? b = some ob) (xa : IS prog w oa X) (xb : IS prog w ob X) (hu : A.units < cLine) : EqP prog w A s (.ref a) (.ref b) :=
  RcP.eq fun E Q h => set_rc ha hb xa.1 xb.1 (Nat.lt_of_le_of_lt (cnt_le X) (by decide)) hu h
noncomputable abbrev trio (f r n : Addr) : List (Str × Value) := [("flags", .ref f), ("recursive_flags", .ref r), ("nested", .ref n)]
theorem trio_hits {f r n f' r' n' : Addr} (h1 : EqP prog w A s (.ref f) (.ref f')) (h2 : EqP prog w A s (.ref r) (.ref r')) (h3 : EqP prog w A s (.ref n) (.ref n')) :
    ∀ p ∈ trio f r n, ∃ y, valueAt (trio f' r' n') p.1 = some y ∧ EqP prog w A s p.2 y := by
  intro p hp
  rcases List.mem_cons.mp hp with rfl | hp
  · exact ⟨_, rfl, h1⟩
  rcases List.mem_cons.mp hp with rfl | hp
  · exact ⟨_, rfl, h2⟩
  rcases List.mem_cons.mp hp with rfl | hp
  · exact ⟨_, rfl, h3⟩
  cases hp
theorem in1_units : A.in1.units = A.units + 1 := rfl
noncomputable def TreeAt (prog : Program) (w : World) (s : Shared) (F B : FO) (p : Way) (N k : Nat) : Prop :=
  ∀ (A : Around) (u : Way) (a : Addr) (o : Obj) (b : Addr) (o' : Obj), N ≤ u.length + k → A.units + 4 * k + 4 < cLine → F.dictAt (p ++ u) = some (a, o) → B.dictAt u = some (b, o') → RcP prog w A s (.ref a) (.ref b)
theorem tree_step (HF : F.Is prog w M τ) (HB : B.Is prog w M' σ) (gF : Got s F.cells) (gB : Got s B.cells) (p : Way) (heq : ∀ u, u ≠ [] → τ (p ++ u) = σ u) (N : Nat) (hN : ∀ u, (σ u).isSome = true → u.length ≤ N)
    (k : Nat) (ih : ∀ j, k = j + 1 → TreeAt prog w s F B p N j) : TreeAt prog w s F B p N k := by
  intro A u a o b o' hk hu hF hB
  obtain ⟨ka, da, va⟩ := HF.kids _ _ _ hF
  obtain ⟨kb, db, vb⟩ := HB.kids _ _ _ hB
  have na : (ka.map (·.1)).Nodup := by obtain ⟨_, _, _, _, _, _, h⟩ := da; exact h
  have nb : (kb.map (·.1)).Nodup := by obtain ⟨_, _, _, _, _, _, h⟩ := db; exact h
  have sa : ∀ z, (valueAt ka z).isSome = (F.look (p ++ u ++ [z])).isSome := fun z => by
    rw [Bool.eq_iff_iff, Option.isSome_iff_exists, Option.isSome_iff_exists]
    exact ⟨fun ⟨x, hx⟩ => let ⟨y, hy, _⟩ := (va z x).mp hx; ⟨y, hy⟩, fun ⟨y, hy⟩ => ⟨_, (va z _).mpr ⟨y, hy, rfl⟩⟩⟩
  have sb : ∀ z, (valueAt kb z).isSome = (B.look (u ++ [z])).isSome := fun z => by
    rw [Bool.eq_iff_iff, Option.isSome_iff_exists, Option.isSome_iff_exists]
    exact ⟨fun ⟨x, hx⟩ => let ⟨y, hy, _⟩ := (vb z x).mp hx; ⟨y, hy⟩, fun ⟨y, hy⟩ => ⟨_, (vb z _).mpr ⟨y, hy, rfl⟩⟩⟩
  have st : ∀ z, τ (p ++ u ++ [z]) = σ (u ++ [z]) := fun z => by rw [List.append_assoc]; exact heq _ (by simp)
  have hl : ka.length = kb.length := keys_len na nb fun z => by rw [sa, sb, look_some HF, look_some HB, st]
  refine de_rc (HF.low _ _ _ hF) (HB.low _ _ _ hB) (Heap.dictOf_iff.mpr ⟨o, gF _ (dict_mem hF), da⟩) (Heap.dictOf_iff.mpr ⟨o', gB _ (dict_mem hB), db⟩) (by exact qft fun x => qfa2 x hu (by simp +arith only)) hl ?_
  intro q hq
  obtain ⟨x, hx, ex⟩ := (va _ _).mp (valueAt_mem1 na hq)
  have hs : (B.look (u ++ [q.1])).isSome = true := by rw [look_some HB, ← st, ← look_some HF, hx]; rfl
  obtain ⟨y, hy⟩ := Option.isSome_iff_exists.mp hs
  refine ⟨_, (vb _ _).mpr ⟨y, hy, rfl⟩, ?_⟩
  rw [ex]
  have hlen := hN _ ((look_some HB _).symm.trans hs)
  rw [List.length_append] at hlen
  have hlen1 : ([q.1] : List Str).length = 1 := rfl
  obtain ⟨j, rfl⟩ : ∃ j, k = j + 1 := ⟨k - 1, by exact Nat.le_antisymm (qfl fun x => qfa2 x (qfs1 (k) (1)) (by simp +arith only)) (qfl fun x => qfa2 x (qfs2 (k) (1) (by exact Nat.le_of_add_le_add_left (Nat.le_trans hlen hk))) (by simp +arith only))⟩
  obtain ⟨X, Y, e1, fx, rx⟩ := HF.flags_at hx
  obtain ⟨X', Y', e2, fy, ry⟩ := HB.flags_at hy
  rw [st, e2] at e1
  cases e1
  have u1 := in1_units (A := A)
  have u2 := in1_units (A := A.in1)
  refine RcP.eq (de_rc (HF.nlow _ (FO.look_mem hx)) (HB.nlow _ (FO.look_mem hy)) (Heap.dictOf_iff.mpr ⟨_, gF _ (mem_cells hx (.head _)), HF.node_at hx⟩) (Heap.dictOf_iff.mpr ⟨_, gB _ (mem_cells hy (.head _)), HB.node_at hy⟩) (by exact qft fun x => qfa3 x (Nat.le_of_eq u1) hu (by simp +arith only)) rfl (trio_hits ?_ ?_ ?_))
  · exact eq_sets (gF _ (mem_cells hx (.tail _ (.head _)))) (gB _ (mem_cells hy (.tail _ (.head _)))) fx fy (by exact qft fun x => qfa4 x (Nat.le_of_eq u2) (Nat.le_of_eq u1) hu (by simp +arith only))
  · exact eq_sets (gF _ (mem_cells hx (.tail _ (.tail _ (.head _))))) (gB _ (mem_cells hy (.tail _ (.tail _ (.head _))))) rx ry (by exact qft fun x => qfa4 x (Nat.le_of_eq u2) (Nat.le_of_eq u1) hu (by simp +arith only))
  · refine RcP.eq (ih j rfl _ (u ++ [q.1]) _ _ _ _ ?_ ?_ (by rw [← List.append_assoc]; exact HF.dict_of hx) (HB.dict_of hy))
    · rw [List.length_append]; exact qfl fun x => qfa3 x hk (qfg hlen1) (by simp +arith only)
    · exact qft fun x => qfa4 x (Nat.le_of_eq u2) hu (Nat.le_of_eq u1) (by simp +arith only)
theorem tree_rc (HF : F.Is prog w M τ) (HB : B.Is prog w M' σ) (gF : Got s F.cells) (gB : Got s B.cells) (p : Way) (heq : ∀ u, u ≠ [] → τ (p ++ u) = σ u) (N : Nat) (hN : ∀ u, (σ u).isSome = true → u.length ≤ N) (k : Nat) : TreeAt prog w s F B p N k := by
  induction k with
  | zero => exact tree_step HF HB gF gB p heq N hN 0 fun j e => nomatch e
  | succ k ih => exact tree_step HF HB gF gB p heq N hN (k + 1) fun j e => by cases e; exact ih
end
end Mine.Internal
end
section
set_option tactic.hygienic false
open PySem PySem.W PySem.Calls PyProof.Rows PySem.Spec
set_option maxRecDepth 100000
namespace Mine.Internal
section
variable {env : Env} {ns : List Str} {h₀ : Heap} {vs : List (Option Value)} {l : Lg} {s₀ s : Shared}
theorem S.more (st : S env ns h₀ vs l s₀ s) {h' : Heap} {d : Drawn} {tk : Nat} {D : Addr} {o : Obj} (k : ∀ b o, s.heap.get? b = some o → h'.get? b = some o) (hD : ∀ b o, s.heap.get? b = some o → b < D) (ho : h'.get? D = some o) :
    S env ns h₀ vs ((D, o) :: l) s₀ { s with heap := h', drawn := d, toks := tk } := by
  have F : Fr h₀ env.locals h' (locOf ns vs) := st.fr.kept k
  refine ((st.draw d).to F (fun p hp => ?_) ?_)
  · obtain ⟨oL, _, _, hoL, _⟩ := st.fr.ns
    have hL := hD _ _ hoL
    rcases List.mem_cons.mp hp with rfl | hp
    · exact ⟨ho, Nat.ne_of_gt hL, Heap.get?_none_of_le (Nat.le_trans st.fr.above (Nat.le_of_lt hL))⟩
    · exact ⟨k _ _ (st.nw p hp).1, (st.nw p hp).2⟩
  · exact List.nodup_cons.mpr ⟨fun q => by
      obtain ⟨p, hp, e⟩ := List.mem_map.mp q
      have := hD _ _ (st.nw p hp).1
      rw [e] at this
      exact absurd this (Nat.lt_irrefl _), st.nd⟩
end
end Mine.Internal
end
section
set_option tactic.hygienic false
open PySem PySem.W PySem.Calls PyProof.Rows PySem.Spec
set_option maxRecDepth 100000
namespace Mine.Internal
noncomputable def Few (L : List Int) : Prop := L = [] ∨ L = [0] ∨ L = [1] ∨ L = [0, 1] ∨ L = [1, 0]
theorem Few.step {L : List Int} {x : Int} (h : Few L) (hx : x = 0 ∨ x = 1) : Few (step_dedup L x) := by
  rcases h with rfl | rfl | rfl | rfl | rfl <;> rcases hx with rfl | rfl <;> (unfold Few; decide)
theorem Few.len {L : List Int} (h : Few L) : L.length = cnt fun k => L.any (· == k) := by
  rcases h with rfl | rfl | rfl | rfl | rfl <;> rfl
theorem few_first {ns : List Int} (h : ∀ k ∈ ns, k = 0 ∨ k = 1) : ∀ i, i ≤ ns.length → Few (firstMet (fun i => ns.getD i 0) i)
  | 0, _ => .inl rfl
  | i + 1, hi => by
    rw [firstMet_succ]
    refine (few_first h i (by exact Nat.le_of_lt hi)).step ?_
    have : ns.getD i 0 = ns[i] := by simp [List.getD, show i < ns.length by exact hi]
    rw [this]
    exact h _ (List.getElem_mem _)
theorem first_any {ns : List Int} (k : Int) : (firstMet (fun i => ns.getD i 0) ns.length).any (· == k) = decide (k ∈ ns) := by
  rw [firstMet_any]
  have e : (List.range ns.length).map (fun i => ns.getD i 0) = ns := by
    apply List.ext_getElem
    · simp
    · intro i h1 h2
      simp at h1
      simp [h1]
  rw [e, Bool.eq_iff_iff, List.any_eq_true, decide_eq_true_iff]
  constructor
  · rintro ⟨x, hx, e⟩
    rw [← eq_of_beq e]; exact hx
  · exact fun h => ⟨k, h, beq_self_eq_true k⟩
section
variable {prog : Program} {w : World} {A : Around} {E : Value → Shared → Prop} {env : Env} {ns : List Str} {h₀ : Heap} {vs : List (Option Value)} {l : Lg} {s₀ s : Shared}
theorem g_setlist {a : Addr} {us : List Value} {n : Nat} {ks : List Int} {Q : Value → Shared → Prop} (hh : A.handled = none) (st : S env ns h₀ vs l s₀ s) (hm : (a, listO us n) ∈ l) (hi : IntsAre us ks) (hk : ∀ k ∈ ks, k = 0 ∨ k = 1) (hz : ks.length ≤ 1000)
    (h : ∀ D o s', IS prog w o (fun k => decide (k ∈ ks)) → S env ns h₀ vs ((D, o) :: l) s₀ s' → Q (.ref D) s') : wpAny (model prog w) A (call (.type "set") [.ref a]) Q E s := by
  have hl := IntsAre.length hi
  have hsz : us.toArray.size = ks.length := by rw [List.size_toArray, hl]
  refine PySem.call_set_list (items := us.toArray) (ns := ks) hh (st.list hm) (by simpa using hi) (by rw [hsz]; unfold scanBound; exact qft fun x => qfa2 x hz (by simp +arith only)) fun h' tk hS k => ?_
  rw [hsz] at hS
  obtain ⟨o, ho, hso⟩ := hS.objOf
  refine h _ o _ ⟨?_, fun k hk' => hk k (of_decide_eq_true hk')⟩ (st.more (d := s.drawn) (tk := tk) (fun b o e => k b o (Heap.lt_size e) e) (fun b o e => Heap.lt_size e) ho)
  have e : (fun k' => (firstMet (fun i => ks.getD i 0) ks.length).any (· == k')) = fun k => decide (k ∈ ks) := funext first_any
  rw [(few_first hk _ (Nat.le_refl _)).len, e] at hso
  exact hso
end
end Mine.Internal
end
section
set_option tactic.hygienic false
open PySem PySem.W PySem.Calls PyProof.Rows PySem.Spec
set_option maxRecDepth 100000
namespace Mine.Internal
section
variable {prog : Program} {w : World} {A : Around} {E : Value → Shared → Prop} {env env2 : Env} {ns : List Str} {h₀ : Heap} {vs : List (Option Value)} {l : Lg} {s₀ s : Shared}
  {K : Frag} {p : Program} {loose : List Str} {mean : ExcName → Option Value} {mg mb : Str → Option Value} {d u : Nat} {scope : Scope} {cl : List (Str × Addr)} {At : Value → Way × Int → Prop}
theorem w_eqway {a b : Addr} {us ws : List Value} {x y : Way} {Q : Value → Shared → Prop} (st : S env ns h₀ vs l s₀ s) (ha : (a, tupO us) ∈ l) (hb : (b, tupO ws) ∈ l) (hx : WayV us x) (hy : WayV ws y) (ox : Okw x) (oy : Okw y) (hu : A.units + 64 < cLine)
    (h : Q (.bool (decide (x = y))) s) : W (model prog w) A (compareOp .Eq (.ref a) (.ref b)) Q E s := by
  with_unfolding_all exact g_eqway st ha hb hx hy ox oy hu h
theorem w_neway {a b : Addr} {us ws : List Value} {x y : Way} {Q : Value → Shared → Prop} (st : S env ns h₀ vs l s₀ s) (ha : (a, tupO us) ∈ l) (hb : (b, tupO ws) ∈ l) (hx : WayV us x) (hy : WayV ws y) (ox : Okw x) (oy : Okw y) (hu : A.units + 64 < cLine)
    (h : Q (.bool (!decide (x = y))) s) : W (model prog w) A (compareOp .NotEq (.ref a) (.ref b)) Q E s := by
  with_unfolding_all exact g_neway st ha hb hx hy ox oy hu h
theorem w_lentup {a : Addr} {us : List Value} {Q : Value → Shared → Prop} (st : S env ns h₀ vs l s₀ s) (ha : (a, tupO us) ∈ l) (hz : us.length ≤ sizeLine)
    (h : ∀ t s', S env ns h₀ vs l s₀ s' → Q (.int us.length t) s') : W (model prog w) A (call (.builtin "len") [.ref a]) Q E s := by
  with_unfolding_all exact g_lentup st ha hz h
theorem w_lenlist {a : Addr} {us : List Value} {n : Nat} {Q : Value → Shared → Prop} (st : S env ns h₀ vs l s₀ s) (ha : (a, listO us n) ∈ l) (hz : us.length ≤ sizeLine)
    (h : ∀ t s', S env ns h₀ vs l s₀ s' → Q (.int us.length t) s') : W (model prog w) A (call (.builtin "len") [.ref a]) Q E s := by
  with_unfolding_all exact g_lenlist st ha hz h
theorem w_lappend_meth {a : Addr} {us : List Value} {n : Nat} {pl : Sem Bool} {Q : Value × List Value → Shared → Prop} (st : S env ns h₀ vs l s₀ s) (ha : (a, listO us n) ∈ l)
    (h : Q (.builtin "list.append", [.ref a]) s) : W (model prog w) A (getMethod (.ref a) "append" pl) Q E s := by
  with_unfolding_all exact g_lappend_meth st ha h
theorem w_isAnd {values : List Expr} {pos : Pos} {whole : Sem Value} {Q : Bool → Shared → Prop} (h : W (model prog w) A (allTrue .And values env2) Q E s) : W (model prog w) A (isTrue (.BoolOp .And values pos) env2 whole) Q E s := by
  with_unfolding_all exact g_isAnd h
theorem w_all0 {Q : Bool → Shared → Prop} (h : Q true s) : W (model prog w) A (allTrue .And [] env2) Q E s := by
  with_unfolding_all exact g_all0 h
theorem w_all {x : Expr} {rest : List Expr} {Q : Bool → Shared → Prop} (h : W (model prog w) A (isTrue x env2 (eval x env2)) (fun b s₁ => if b then W (model prog w) A (allTrue .And rest env2) Q E s₁ else Q false s₁) E s) : W (model prog w) A (allTrue .And (x :: rest) env2) Q E s := by
  with_unfolding_all exact g_all h
end
end Mine.Internal
end
section
set_option tactic.hygienic false
open PySem PySem.W PySem.Calls PyProof.Rows
set_option maxRecDepth 100000
namespace Mine.Internal
theorem dummyLN : (PySem.Challenge.rw_aa0050_01 = PySem.Challenge.rw_aa0050_01 ∧ hkF = hkF) := by k_fill; exact ⟨rfl, rfl⟩
section
variable {prog : Program} {w : World} {A : Around} {E : Value → Shared → Prop} {env : Env} {ns : List Str} {h₀ : Heap} {vs : List (Option Value)} {l : Lg} {s₀ s : Shared}
  {p : Program} {loose : List Str} {mean : ExcName → Option Value} {mg mb : Str → Option Value} {d u : Nat}
inductive NodeAns (prog : Program) (w : World) (F : FO) (l : Lg) : Way → Value → Prop
  | root {a f r : Addr} {o of' or' : Obj} : (a, o) ∈ l → (f, of') ∈ l → (r, or') ∈ l → o.IsDictOf (strKind prog w) (trio f r F.root) → IS prog w of' (fun x => false) → IS prog w or' (fun x => false) → (a == sysModules) = false → NodeAns prog w F l [] (.ref a)
  | node {v : Way} {x : Nd} : v ≠ [] → F.look v = some x → NodeAns prog w F l v (.ref x.n)
  | none {v : Way} : v ≠ [] → F.look v = Option.none → NodeAns prog w F l v .none
inductive NJ (prog : Program) (w : World) (F : FO) (l0 : Lg) (q a0 : Addr) (way : Way) (i : Nat) : List (Option Value) → Lg → Prop
  | mk (a : Addr) (o : Obj) (f r n : Addr) (on : Obj) (kx : Option Value) : (a, o) ∈ l0 → o.IsDictOf (strKind prog w) (trio f r n) → F.dictAt (way.take i) = some (n, on) → (a == sysModules) = false → (i = 0 → a = a0) → (0 < i → ∃ x, F.look (way.take i) = some x ∧ a = x.n) →
    NJ prog w F l0 q a0 way i [some (.ref F.f), some (.ref q), some (.ref a), kx] l0
theorem w_setl {p1 p2 p3 : Pos} {Q : Value → Shared → Prop} {K : Frag} (fn : Fn env ns) (cx : Cx K p loose mean mg mb d u A env h₀) (st : S env ns h₀ vs l s₀ s) (e : nsIn K mainGlobals "set" = some none) (hx : env.kindOf "set" = some .globalImplicit)
    (h : ∀ D o z s', IS prog w o (fun x => false) → S env ns h₀ vs ((D, o) :: (z ++ l)) s₀ s' → Q (.ref D) s') : W (model prog w) A (eval (.Call (.Name "set" p1) [.List [] p2] [] p3) env) Q E s := by
  refine w_callE (w_builtin fn cx st e boot_set (by decide) hx (by decide) (w_cwType (w_args (w_listE (w_args0 (w_list st fun a s1 st1 => ?_))))))
  refine w_args0 (.mk (g_setlist cx.hand st1 (.head _) .nil (fun k hk => by cases hk) (Nat.zero_le _) fun D o s2 hI st2 => ?_))
  exact h D o [(a, listO [] 0)] s2 (by have e : (fun k : Int => decide (k ∈ ([] : List Int))) = fun x => false := by funext k; simp
                                       rwa [e] at hI) st2
theorem node_spec {M : List Str} {F : FO} {τ : AbsT} {rest : Lg} {q : Addr} {us : List Value} {way : Way} {R : Result → Shared → Prop}
    (fn : Fn env ns) (cx : Cx (hkF w.params) p loose mean mg mb (d + 1) (u + 3) A env h₀) (st : S env ns h₀ vs (F.cells ++ rest) s₀ s)
    (H : F.Is prog w M τ) (hq : (q, tupO us) ∈ rest) (hw : WayV us way) (hz : us.length ≤ sizeLine) (hM : M.length ≤ 100)
    (h : ∀ z v s', NodeAns prog w F (z ++ rest) way v → S env ns h₀ vs (F.cells ++ (z ++ rest)) s₀ s' → R (.ok (.ret v)) s') :
    codeAny (model prog w) A (.call (.ref 98) ⟨[.ref F.f, .ref q], []⟩) R s := by
  refine S_call (d := d) (u := u) (ns' := ["flags", "p", "node", "name"]) (vs' := [some (.ref F.f), some (.ref q), none, none])
    [("flags", .ref F.f), ("p", .ref q)] ["node", "name"] fn cx st (by k_is) (by k_is) (BindsTo.of_eq rfl) rfl rfl (fn_of (by rfl) (by decide) rfl) (by decide) ?_
  intro env1 g A1 s1 E' he fn1 cx1 st1
  generalize hSR : SRet _ _ _ _ _ _ _ _ _ = RR0; revert RR0; refine hold ?_; intro RR0 hSR
  have hset : env1.kindOf "set" = some .globalImplicit := by obtain ⟨L', e⟩ := he; rw [e]; rfl
  refine w_cons (w_assign (h₀ := g) (s₀ := s₀) 2 fn1 rfl (w_dict3 st1 cx1 (by decide) fun a s2 hlow st2 => ?_))
  refine w_setl fn1 cx1 st2 (by k_is) hset fun D1 o1 z1 s3 hI1 st3 => ⟨_, st3, fun s4 st4 => ?_⟩
  refine w_setl fn1 cx1 st4 (by k_is) hset fun D2 o2 z2 s5 hI2 st5 => ⟨_, st5, fun s6 st6 => ?_⟩
  refine w_attr (w_name 0 fn1 st6 rfl rfl (w_flags cx1 st6 H (fun c hc => ?_) fun s7 st7 => ⟨_, fun o' => (D2, o2) :: (z2 ++ ((D1, o1) :: (z1 ++ ((a, o') :: (F.cells ++ rest))))), st7, fun o' => ?_, fun o' s8 hd st8 => ?_⟩))
  · exact .tail _ (List.mem_append_right _ (.tail _ (List.mem_append_right _ (.tail _ (List.mem_append_left _ hc)))))
  · exact .tail (.app (.tail (.app .head)))
  refine ⟨_, _, st8, Nat.le_of_ble_eq_true rfl, fun s9 st9 => ?_⟩
  replace st9 : S env1 ["flags", "p", "node", "name"] g [some (.ref F.f), some (.ref q), some (.ref a), none] ((D2, o2) :: (z2 ++ ((D1, o1) :: (z1 ++ ((a, o') :: (F.cells ++ rest)))))) s₀ s9 := st9
  generalize hl0 : (D2, o2) :: (z2 ++ ((D1, o1) :: (z1 ++ ((a, o') :: (F.cells ++ rest))))) = l0 at st9
  have mF : ∀ c ∈ F.cells, c ∈ l0 := fun c hc => hl0 ▸ .tail _ (List.mem_append_right _ (.tail _ (List.mem_append_right _ (.tail _ (List.mem_append_left _ hc)))))
  have ma : (a, o') ∈ l0 := hl0 ▸ .tail _ (List.mem_append_right _ (.tail _ (List.mem_append_right _ (.head _))))
  have mq : (q, tupO us) ∈ l0 := hl0 ▸ .tail _ (List.mem_append_right _ (.tail _ (List.mem_append_right _ (.tail _ (List.mem_append_right _ hq)))))
  have fin : ∀ v s', S env ns h₀ vs l0 s₀ s' → NodeAns prog w F ((D2, o2) :: (z2 ++ ((D1, o1) :: (z1 ++ [(a, o')]))) ++ rest) way v → R (.ok (.ret v)) s' := fun v s' st' hv => by
    refine h _ v s' hv (st'.perm ?_)
    rw [← hl0]
    have e : (D2, o2) :: (z2 ++ ((D1, o1) :: (z1 ++ ((a, o') :: (F.cells ++ rest))))) = ((D2, o2) :: (z2 ++ ((D1, o1) :: (z1 ++ [(a, o')])))) ++ (F.cells ++ rest) := by simp
    rw [e]
    exact List.perm_append_comm_assoc _ _ _
  refine w_cons (w_for (w_name 1 fn1 st9 rfl rfl ?_))
  refine w_for_tuple cx1.hand st9 mq (NJ prog w F l0 q a way)
    (.mk a o' D1 D2 F.root F.oroot none ma hd rfl hlow (fun x => rfl) (fun h => absurd h (Nat.lt_irrefl 0))) (fun i vs' l' hJ => by obtain ⟨_⟩ := hJ; exact mq) ?_ ?_
  · intro i v vs' l' I oI s' E2 hv hJ st'
    generalize hLP : LPost _ _ _ _ _ _ _ _ = QQ; revert QQ; refine hold ?_; intro QQ hLP
    obtain ⟨a1, o1', f1, r1, n1, on1, kx, m1, hd1, hn1, low1, hz0, hz1⟩ := hJ
    obtain ⟨k, tk, rfl, hk⟩ := hw.get hv
    obtain ⟨kvs, hkv, hkids⟩ := H.kids _ _ _ hn1
    have htake : way.take (i + 1) = way.take i ++ [k] := by rw [List.take_add_one, hk]; rfl
    refine w_aname (w_store 3 fn1 st' rfl (Nat.le_of_ble_eq_true rfl) fun s2 st2 => ?_)
    refine w_cons (w_if (w_testcmp (w_name 3 fn1 st2 rfl rfl ?_)))
    refine w_subE (w_name 2 fn1 st2 rfl rfl (w_str st2 fun t5 s5 st5 => w_tail_dict st5 (.tail _ m1) hd1 rfl fun s6 st6 => w_notin_dict st6 (.tail _ (mF _ (dict_mem hn1))) hkv (H.low _ _ _ hn1) fun s7 st7 => w_tbool ?_))
    cases hl : valueAt kvs k with
    | none =>
      have hn : F.look (way.take (i + 1)) = none := by
        rw [htake]
        cases e : F.look (way.take i ++ [k]) with
        | none => rfl
        | some y => have := (hkids k _).mpr ⟨y, e, rfl⟩; rw [hl] at this; cases this
      refine w_cons (w_ret (w_none ?_))
      subst hLP; subst hSR
      change SRet _ _ _ _ _ _ _ _ _ _ _
      refine SRet.intro st7.drop fun st => fin _ _ st ?_
      have e := look_below H (way.drop (i + 1)) _ (by rw [htake]; simp) hn
      rw [List.take_append_drop] at e
      exact .none (by rintro rfl; simp at hk) e
    | some x =>
      obtain ⟨y, hy, rfl⟩ := (hkids k x).mp hl
      refine w_nil ?_
      refine w_cons (w_assign (h₀ := g) (s₀ := s₀) 2 fn1 rfl (w_subE (w_subE (w_name 2 fn1 st7 rfl rfl (w_str st7 fun t8 s8 st8 => w_tail_dict st8 (.tail _ m1) hd1 rfl fun s9 st9 => w_name 3 fn1 st9 rfl rfl (w_tail_dict st9 (.tail _ (mF _ (dict_mem hn1))) hkv hl fun s10 st10 => ⟨_, _, st10, Nat.le_of_ble_eq_true rfl, fun s11 st11 => ?_⟩))))))
      refine w_nil ?_
      subst hLP
      refine ⟨_, _, st11, .mk y.n y.on y.fl y.rc y.nd y.ond _ (mF _ (mem_cells hy (.head _))) (H.node_at hy) ?_ (H.nlow _ (FO.look_mem hy)) (fun z => by lia) (fun x => ⟨y, by rw [htake]; exact hy, rfl⟩)⟩
      rw [htake]; exact H.dict_of hy
  · rintro vs' l' s' ⟨a1, o1', f1, r1, n1, on1, kx, m1, hd1, hn1, low1, hz0, hz1⟩ st'
    refine w_cons (w_ret (w_name 2 fn1 st' rfl rfl ?_))
    subst hSR
    change SRet _ _ _ _ _ _ _ _ _ _ _
    refine SRet.intro st' fun st => fin _ _ st ?_
    rw [List.take_of_length_le (Nat.le_of_eq hw.length.symm)] at hz1
    rcases Nat.eq_zero_or_pos us.length with e | e
    · have hw0 : way = [] := List.eq_nil_of_length_eq_zero (hw.length.symm.trans e)
      rw [hz0 e, hw0]
      exact .root (o := o') (of' := o1) (or' := o2) (f := D1) (r := D2) (by simp) (by simp) (by simp) hd hI1 hI2 hlow
    · obtain ⟨x, hx, rfl⟩ := hz1 e
      exact .node (by rintro rfl; rw [hw.length] at e; exact absurd e (Nat.lt_irrefl 0)) hx
end
end Mine.Internal
end
section
set_option tactic.hygienic false
open PySem PySem.W PySem.Calls PyProof.Rows
set_option maxRecDepth 100000
namespace Mine.Internal
theorem dummyLA : (PySem.Challenge.rw_aa0050_01 = PySem.Challenge.rw_aa0050_01 ∧ hkF = hkF) := by k_fill; exact ⟨rfl, rfl⟩
section
variable {prog : Program} {w : World} {A : Around} {E : Value → Shared → Prop} {env : Env} {ns : List Str} {h₀ : Heap} {vs : List (Option Value)} {l : Lg} {s₀ s : Shared}
  {p : Program} {loose : List Str} {mean : ExcName → Option Value} {mg mb : Str → Option Value} {d u : Nat}
theorem w_lenN {K : Frag} {x : Str} {p1 p2 p3 : Pos} {q : Addr} {us : List Value} {Q : Value → Shared → Prop} (i : Nat) (fn : Fn env ns) (cx : Cx K p loose mean mg mb d u A env h₀) (kl : env.kindOf "len" = some .globalImplicit) (hk : nsIn K mainGlobals "len" = some none) (st : S env ns h₀ vs l s₀ s)
    (hn : ns[i]? = some x) (hv : vs[i]? = some (some (.ref q))) (hm : (q, tupO us) ∈ l) (hsz : us.length ≤ sizeLine) (h : ∀ t s', S env ns h₀ vs l s₀ s' → Q (.int us.length t) s') :
    W (model prog w) A (eval (.Call (.Name "len" p1) [.Name x p2] [] p3) env) Q E s :=
  w_callE (w_builtin fn cx st hk boot_len (by decide) kl (by decide) (w_cwBuiltin (w_args (w_name i fn st hn hv (w_args0 (w_lentup st hm hsz h))))))
theorem w_cutN {K : Frag} {x y : Str} {p1 p2 p3 p4 p5 p6 : Pos} {a b : Addr} {us ws : List Value} {Q : Value → Shared → Prop} (i j : Nat) (fn : Fn env ns) (cx : Cx K p loose mean mg mb d u A env h₀) (kl : env.kindOf "len" = some .globalImplicit) (hk : nsIn K mainGlobals "len" = some none) (st : S env ns h₀ vs l s₀ s)
    (hi : ns[i]? = some x) (hvi : vs[i]? = some (some (.ref a))) (hj : ns[j]? = some y) (hvj : vs[j]? = some (some (.ref b))) (ha : (a, tupO us) ∈ l) (hb : (b, tupO ws) ∈ l) (hu : us.length ≤ sizeLine) (hw : ws.length ≤ sizeLine)
    (h : ∀ z c s', S env ns h₀ vs (z ++ l) s₀ s' → (c, tupO (us.take ws.length)) ∈ z ++ l → Q (.ref c) s') :
    W (model prog w) A (eval (.Subscript (.Name x p1) (.Slice none (some (.Call (.Name "len" p2) [.Name y p3] [] p4)) none p5) p6) env) Q E s := by
  refine w_subslice (w_name i fn st hi hvi (wpart_0 (wpart_e (w_lenN j fn cx kl hk st hj hvj hb hw fun t s1 st1 => ?_))))
  refine w_slice_tup st1 ha .none (.int _ _) hu fun z c s2 st2 hc => ?_
  have hc := hc _ ha
  rw [sl_to] at hc
  exact h z c s2 st2 hc
theorem w_fromN {K : Frag} {x y : Str} {p1 p2 p3 p4 p5 p6 : Pos} {a b : Addr} {us ws : List Value} {Q : Value → Shared → Prop} (i j : Nat) (fn : Fn env ns) (cx : Cx K p loose mean mg mb d u A env h₀) (kl : env.kindOf "len" = some .globalImplicit) (hk : nsIn K mainGlobals "len" = some none) (st : S env ns h₀ vs l s₀ s)
    (hi : ns[i]? = some x) (hvi : vs[i]? = some (some (.ref a))) (hj : ns[j]? = some y) (hvj : vs[j]? = some (some (.ref b))) (ha : (a, tupO us) ∈ l) (hb : (b, tupO ws) ∈ l) (hu : us.length ≤ sizeLine) (hw : ws.length ≤ sizeLine)
    (h : ∀ z c s', S env ns h₀ vs (z ++ l) s₀ s' → (∀ l' : Lg, (a, tupO us) ∈ l' → (c, tupO (us.drop ws.length)) ∈ z ++ l') → Q (.ref c) s') :
    W (model prog w) A (eval (.Subscript (.Name x p1) (.Slice (some (.Call (.Name "len" p2) [.Name y p3] [] p4)) none none p5) p6) env) Q E s := by
  refine w_subslice (w_name i fn st hi hvi (wpart_e (w_lenN j fn cx kl hk st hj hvj hb hw fun t s1 st1 => wpart_0 ?_)))
  refine w_slice_tup st1 ha (.int _ _) .none hu fun z c s2 st2 hc => ?_
  rw [sl_from] at hc
  exact h z c s2 st2 hc
theorem w_preN {K : Frag} {x y : Str} {p1 p2 p3 p4 p5 p6 p7 p8 : Pos} {a b : Addr} {us ws : List Value} {v v' : Way} {whole : Sem Value} {Q : Bool → Shared → Prop} (i j : Nat) (fn : Fn env ns) (cx : Cx K p loose mean mg mb d u A env h₀) (kl : env.kindOf "len" = some .globalImplicit) (hk : nsIn K mainGlobals "len" = some none) (st : S env ns h₀ vs l s₀ s)
    (hi : ns[i]? = some x) (hvi : vs[i]? = some (some (.ref a))) (hj : ns[j]? = some y) (hvj : vs[j]? = some (some (.ref b))) (ha : (a, tupO us) ∈ l) (hb : (b, tupO ws) ∈ l) (hx : WayV us v) (hy : WayV ws v') (ox : Okw v) (oy : Okw v') (lx : v.length ≤ 100) (ly : v'.length ≤ 100) (hu : A.units + 64 < cLine)
    (h : ∀ z s', S env ns h₀ vs (z ++ l) s₀ s' → Q (decide (v.take v'.length = v')) s') :
    W (model prog w) A (isTrue (.Compare (.Subscript (.Name x p1) (.Slice none (some (.Call (.Name "len" p2) [.Name y p3] [] p4)) none p5) p6) [.Eq] [.Name y p7] p8) env whole) Q E s := by
  have zl : sizeLine = 2 ^ 24 := sizeLine_eq
  refine w_testcmp (w_cutN i j fn cx kl hk st hi hvi hj hvj ha hb (by rw [hx.length, zl]; exact Nat.le_trans lx (Nat.le_add_left _ _)) (by rw [hy.length, zl]; exact Nat.le_trans ly (Nat.le_add_left _ _)) fun z c s1 st1 hc => ?_)
  refine w_name j fn st1 hj hvj ?_
  have ht := hx.take ws.length
  refine w_eqway st1 hc (List.mem_append_right _ hb) ht hy (fun k hk => ox k (List.mem_of_mem_take hk)) oy hu (w_tbool ?_)
  rw [hy.length]
  exact h z s1 st1
noncomputable abbrev AlS := AbsT × List Int × List Int × Bool
noncomputable def alStep (p : Way) (σ : AlS) (c : Cl) : AlS :=
  if c.1 = 4 ∧ p.take c.2.1.length = c.2.1 then (fun x => none, [], [], false)
  else if c.2.1.take p.length = p ∧ c.1 = 4 then (cutT σ.1 (c.2.1.drop p.length), σ.2)
  else if c.2.1.take p.length = p then
    if c.2.1.drop p.length ≠ [] then (setT σ.1 (c.2.1.drop p.length) c.2.2 (c.1 == 1), σ.2.1, σ.2.2.1, true)
    else if c.1 = 1 then (σ.1, σ.2.1, σ.2.2.1 ++ [c.2.2], true) else (σ.1, σ.2.1 ++ [c.2.2], σ.2.2.1, true)
  else σ
noncomputable def alS (p : Way) (cs : List Cl) : AlS := cs.foldl (alStep p) (fun x => none, [], [], decide (p = []))
theorem pmA {α : Type} (i p q : α) (z f y : List α) : (z ++ (i :: (f ++ (p :: q :: y)))).Perm (f ++ (p :: q :: i :: (z ++ y))) := by
  have e1 : z ++ (i :: (f ++ (p :: q :: y))) = (z ++ [i]) ++ (f ++ ([p, q] ++ y)) := by simp
  rw [e1]
  refine (List.perm_append_comm_assoc _ _ _).trans (List.Perm.append_left f ?_)
  refine (List.perm_append_comm_assoc _ _ _).trans (List.Perm.append_left [p, q] ?_)
  rw [List.append_assoc]
  exact List.perm_middle
theorem pmB {α : Type} (i p q : α) (z f y : List α) : (z ++ (f ++ (p :: q :: i :: y))).Perm (f ++ (p :: q :: i :: (z ++ y))) :=
  (List.perm_append_comm_assoc _ _ _).trans (List.Perm.append_left f (List.perm_append_comm_assoc z [p, q, i] y))
theorem pmC {α : Type} (i p q p' q' t : α) (z f f' y : List α) : (t :: q' :: p' :: (f' ++ (f ++ (p :: q :: i :: (z ++ y))))).Perm (f' ++ (p' :: q' :: i :: ((t :: (f ++ (p :: q :: z))) ++ y))) := by
  have e1 : (t :: q' :: p' :: (f' ++ (f ++ (p :: q :: i :: (z ++ y))))) = [t, q', p'] ++ (f' ++ (f ++ (p :: q :: i :: (z ++ y)))) := rfl
  rw [e1]
  refine (List.perm_append_comm_assoc _ _ _).trans (List.Perm.append_left f' ?_)
  show (t :: q' :: p' :: (f ++ (p :: q :: i :: (z ++ y)))).Perm (p' :: q' :: i :: (t :: ((f ++ (p :: q :: z)) ++ y)))
  have e2 : (f ++ (p :: q :: i :: (z ++ y))) = (f ++ [p, q]) ++ (i :: (z ++ y)) := by simp
  have e3 : ((f ++ (p :: q :: z)) ++ y) = (f ++ [p, q]) ++ (z ++ y) := by simp
  rw [e2, e3]
  have h1 : ((f ++ [p, q]) ++ (i :: (z ++ y))).Perm (i :: ((f ++ [p, q]) ++ (z ++ y))) := List.perm_middle
  refine (((h1.cons p').cons q').cons t).trans ?_
  have h2 : ∀ (r : List α), (t :: q' :: p' :: i :: r).Perm (p' :: q' :: i :: t :: r) := fun r => by
    have : ([t, q', p', i] : List α).Perm [p', q', i, t] := by
      refine (List.perm_append_comm (l₁ := [t]) (l₂ := [q', p', i])).trans ?_
      exact List.Perm.swap _ _ _
    exact this.append_right r
  exact h2 _
inductive AJ (prog : Program) (w : World) (t q : Addr) (l : Lg) (σ : AlS) : List (Option Value) → Lg → Prop
  | mk (F : FO) (P D : Addr) (us1 us2 : List Value) (n1 n2 : Nat) (z : Lg) (k1 k2 k3 k4 : Option Value) : F.Is prog w LM σ.1 → IntsAre us1 σ.2.1 → IntsAre us2 σ.2.2.1 →
    AJ prog w t q l σ [some (.ref t), some (.ref q), some (.ref F.f), some (.ref P), some (.ref D), some (.bool σ.2.2.2), k1, k2, k3, k4] (F.cells ++ ((P, listO us1 n1) :: (D, listO us2 n2) :: (z ++ l)))
theorem ints_snoc {us : List Value} {ks : List Int} (h : IntsAre us ks) (k : Int) (t : Tok) : IntsAre (us ++ [.int k t]) (ks ++ [k]) := by
  induction h with
  | nil => exact .cons k t .nil
  | cons n t' _ ih => exact .cons n t' ih
theorem alStep_len (p : Way) (σ : AlS) (c : Cl) (n : Nat) (h : σ.2.1.length ≤ n ∧ σ.2.2.1.length ≤ n) : (alStep p σ c).2.1.length ≤ n + 1 ∧ (alStep p σ c).2.2.1.length ≤ n + 1 := by
  unfold alStep
  split
  · exact ⟨Nat.zero_le _, Nat.zero_le _⟩
  · split
    · exact ⟨Nat.le_succ_of_le h.1, Nat.le_succ_of_le h.2⟩
    · split
      · split
        · exact ⟨Nat.le_succ_of_le h.1, Nat.le_succ_of_le h.2⟩
        · split
          · exact ⟨Nat.le_succ_of_le h.1, by rw [List.length_append]; exact Nat.add_le_add_right h.2 1⟩
          · exact ⟨by rw [List.length_append]; exact Nat.add_le_add_right h.1 1, Nat.le_succ_of_le h.2⟩
      · exact ⟨Nat.le_succ_of_le h.1, Nat.le_succ_of_le h.2⟩
theorem foldl_len (p : Way) : ∀ (cs : List Cl) (σ : AlS) (n : Nat), σ.2.1.length ≤ n ∧ σ.2.2.1.length ≤ n → (cs.foldl (alStep p) σ).2.1.length ≤ n + cs.length ∧ (cs.foldl (alStep p) σ).2.2.1.length ≤ n + cs.length
  | [], σ, n, h => h
  | c :: cs, σ, n, h => by
    have := foldl_len p cs (alStep p σ c) (n + 1) (alStep_len p σ c n h)
    rw [List.length_cons, Nat.add_comm cs.length 1, ← Nat.add_assoc]
    exact this
theorem alone_spec {t q : Addr} {us ws : List Value} {n : Nat} {way : Way} {cs : List Cl} {R : Result → Shared → Prop}
    (fn : Fn env ns) (cx : Cx (hkF w.params) p loose mean mg mb (d + 4) (u + 80) A env h₀) (st : S env ns h₀ vs l s₀ s)
    (hm : (t, listO us n) ∈ l) (hv : Vs (CAt l) us cs) (hcs : ∀ c ∈ cs, OkC c) (hlen : cs.length ≤ 5000) (hq : (q, tupO ws) ∈ l) (hw : WayV ws way) (ow : Okw way) (lw : way.length ≤ 5)
    (h : ∀ (F : FO) (P D T : Addr) (us1 us2 : List Value) (n1 n2 : Nat) (z : Lg) (s' : Shared), F.Is prog w LM (alS way cs).1 → IntsAre us1 (alS way cs).2.1 → IntsAre us2 (alS way cs).2.2.1 →
      S env ns h₀ vs ((T, tupO [.ref F.f, .ref P, .ref D, .bool (alS way cs).2.2.2]) :: (F.cells ++ ((P, listO us1 n1) :: (D, listO us2 n2) :: (z ++ l)))) s₀ s' → R (.ok (.ret (.ref T))) s') :
    codeAny (model prog w) A (.call (.ref 91) ⟨[.ref t, .ref q], []⟩) R s := by
  refine S_call (d := d + 3) (u := u + 77) (ns' := ["history", "p", "below", "plain", "deep", "kept", "kind", "way", "flag", "rest"]) (vs' := [some (.ref t), some (.ref q), none, none, none, none, none, none, none, none])
    [("history", .ref t), ("p", .ref q)] ["below", "plain", "deep", "kept", "kind", "way", "flag", "rest"] fn cx st (by k_is) (by k_is) (BindsTo.of_eq rfl) rfl rfl (fn_of (by rfl) (by decide) rfl) (by decide) ?_
  intro env1 g A1 s1 E' he fn1 cx1 st1
  generalize hSR : SRet _ _ _ _ _ _ _ _ _ = RR0; revert RR0; refine hold ?_; intro RR0 hSR
  have hint : interactive env1 = false := by obtain ⟨L', e⟩ := he; rw [e]; rfl
  have hFl : env1.kindOf "Flags" = some .globalImplicit := by obtain ⟨L', e⟩ := he; rw [e]; rfl
  have hln : env1.kindOf "len" = some .globalImplicit := by obtain ⟨L', e⟩ := he; rw [e]; rfl
  have zl : sizeLine = 2 ^ 24 := sizeLine_eq
  refine w_cons (w_assignTup (w_tupleE ?_))
  refine w_args (w_callE (w_global fn1 cx1 st1 (by k_is) hFl (by decide) (w_cwK0 cx1 st1 (by k_is) (flags_new (M := LM) (At := AtL l) (d := d + 1) (u := u) fn1 (cx1.le (by exact Nat.le_refl _) (by exact Nat.add_le_add_left (Nat.le_of_ble_eq_true rfl) _)) st1 fun F s2 H hP st2 => ?_))))
  refine w_args (w_listE (w_args0 (w_list st2 fun P s3 st3 => ?_)))
  refine w_args (w_listE (w_args0 (w_list st3 fun D s4 st4 => ?_)))
  refine w_args (w_cmp (w_name 1 fn1 st4 rfl rfl (w_tupleE (w_args0 (w_tuple st4 fun e s5 st5 => ?_)))))
  refine w_eqway st5 (.tail _ (.tail _ (.tail _ (List.mem_append_right _ hq)))) (.head _) hw WayV.nil ow (fun k hk => nomatch hk) (by have := cx1.units; exact qft fun x => qfa2 x this (by simp +arith only)) ?_
  refine w_args0 (w_tuple st5 fun T s6 st6 => ?_)
  refine w_unpack cx1.hand st6 (.head _) rfl rfl fun s7 st7 => ?_
  refine w_inorder (w_aname (w_store 2 fn1 st7 rfl (Nat.le_of_ble_eq_true rfl) fun s8 st8 => ?_))
  refine w_inorder (w_aname (w_store 3 fn1 st8 rfl (Nat.le_of_ble_eq_true rfl) fun s9 st9 => ?_))
  refine w_inorder (w_aname (w_store 4 fn1 st9 rfl (Nat.le_of_ble_eq_true rfl) fun s10 st10 => ?_))
  refine w_inorder (w_aname (w_store 5 fn1 st10 rfl (Nat.le_of_ble_eq_true rfl) fun s11 st11 => ?_))
  refine w_inorder0 ?_
  have st12 : S env1 ["history", "p", "below", "plain", "deep", "kept", "kind", "way", "flag", "rest"] g [some (.ref t), some (.ref q), some (.ref F.f), some (.ref P), some (.ref D), some (.bool (decide (way = []))), none, none, none, none] (F.cells ++ ((P, listO [] 0) :: (D, listO [] 0) :: ([(T, tupO [.ref F.f, .ref P, .ref D, .bool (decide (way = []))]), (e, tupO [])] ++ l))) s₀ s11 := by
    refine st11.perm ?_
    have e1 : ∀ (a b c d : Addr × Obj) (F l : Lg), (a :: b :: c :: d :: (F ++ l)).Perm (F ++ (d :: c :: ([a, b] ++ l))) := fun a b c d F l => by
      have h1 : (a :: b :: c :: d :: (F ++ l)) = [a, b, c, d] ++ (F ++ l) := rfl
      rw [h1]
      refine (List.perm_append_comm_assoc _ _ _).trans (List.Perm.append_left F ?_)
      show ([a, b] ++ ([c, d] ++ l)).Perm ([d, c] ++ ([a, b] ++ l))
      exact (List.perm_append_comm_assoc _ _ _).trans (List.Perm.append_right _ (List.Perm.swap _ _ _))
    exact e1 _ _ _ _ _ _
  refine w_cons (w_for (w_name 0 fn1 st12 rfl rfl ?_))
  have mt : ∀ (F : FO) (a b : Addr × Obj) (z : Lg) c, c ∈ l → c ∈ F.cells ++ (a :: b :: (z ++ l)) := fun F a b z c hc => List.mem_append_right _ (.tail _ (.tail _ (List.mem_append_right _ hc)))
  refine w_for_list cx1.hand st12 (mt _ _ _ _ _ hm) (fun i => AJ prog w t q l (alS way (cs.take i)))
    (.mk F P D [] [] 0 0 _ none none none none H .nil .nil) (fun i vs' l' hJ => by obtain ⟨F', P', D'⟩ := hJ; exact mt _ _ _ _ _ hm) ?_ ?_
  · intro i v vs' l' I oI s' E2 hi hJ st'
    generalize hLP : LPost _ _ _ _ _ _ _ _ = QQ; revert QQ; refine hold ?_; intro QQ hLP
    obtain ⟨c, hc, a, qc, us', t1, t2, rfl, m1, m2, hwc⟩ := hv.at hi
    have hok := hcs c (List.mem_of_getElem? hc)
    have hrun : alS way (cs.take (i + 1)) = alStep way (alS way (cs.take i)) c := by
      unfold alS
      rw [List.take_add_one, hc, Option.toList_some, List.foldl_append]
      rfl
    have hln2 : (alS way (cs.take i)).2.1.length ≤ 5000 ∧ (alS way (cs.take i)).2.2.1.length ≤ 5000 := by
      have := foldl_len way (cs.take i) (fun x => none, [], [], decide (way = [])) 0 ⟨Nat.le_refl _, Nat.le_refl _⟩
      rw [List.length_take] at this
      unfold alS
      have k := Nat.le_trans (Nat.le_of_eq (Nat.zero_add _)) (Nat.le_trans (Nat.min_le_right i cs.length) hlen)
      exact ⟨Nat.le_trans this.1 k, Nat.le_trans this.2 k⟩
    generalize hσ : alS way (cs.take i) = σ at hJ hrun hln2
    obtain ⟨F, P, D, us1, us2, n1, n2, z, k1, k2, k3, k4, H, i1, i2⟩ := hJ
    have lc := hok.len
    have okc := okw_menu hok.menu
    have hu64 : A1.units + 64 < cLine := by have := cx1.units; exact qft fun x => qfa2 x this (by simp +arith only)
    refine w_unpack cx1.hand st' (.tail _ (mt _ _ _ _ _ m1)) rfl rfl fun s3 st3 => ?_
    refine w_inorder (w_aname (w_store 6 fn1 st3 rfl (Nat.le_of_ble_eq_true rfl) fun s4 st4 => ?_))
    refine w_inorder (w_aname (w_store 7 fn1 st4 rfl (Nat.le_of_ble_eq_true rfl) fun s5 st5 => ?_))
    refine w_inorder (w_aname (w_store 8 fn1 st5 rfl (Nat.le_of_ble_eq_true rfl) fun s6 st6 => ?_))
    refine w_inorder0 ?_
    refine w_cons (w_assign (h₀ := g) (s₀ := s₀) 9 fn1 rfl (w_fromN 7 1 fn1 cx1 hln (by k_is) st6 rfl rfl rfl rfl (.tail _ (mt _ _ _ _ _ m2)) (.tail _ (mt _ _ _ _ _ hq)) (by rw [hwc.length, zl]; exact Nat.le_trans lc (Nat.le_add_left _ _)) (by rw [hw.length, zl]; exact Nat.le_trans lw (Nat.le_add_left _ _)) fun z1 rr s7 st7 hrr => ⟨_, _, st7, Nat.le_of_ble_eq_true rfl, fun s8 st8 => ?_⟩))
    have hrw : WayV (us'.drop ws.length) (c.2.1.drop way.length) := by rw [← hw.length]; exact hwc.drop _
    have st9 : S env1 ["history", "p", "below", "plain", "deep", "kept", "kind", "way", "flag", "rest"] g [some (.ref t), some (.ref q), some (.ref F.f), some (.ref P), some (.ref D), some (.bool σ.2.2.2), some (.int c.1 t1), some (.ref qc), some (.int c.2.2 t2), some (.ref rr)] (F.cells ++ ((P, listO us1 n1) :: (D, listO us2 n2) :: (I, oI) :: ((z1 ++ z) ++ l))) s₀ s8 := by
      rw [List.append_assoc]
      exact st8.perm (pmA _ _ _ _ _ _)
    have hrr2 : (rr, tupO (us'.drop ws.length)) ∈ (z1 ++ z) ++ l := by
      have := hrr l m2
      rcases List.mem_append.mp this with x | x
      · exact List.mem_append_left _ (List.mem_append_left _ x)
      · exact List.mem_append_right _ x
    generalize hzz : z1 ++ z = zz at st9 hrr2
    clear st8 st7 hrr hzz st6 st5 st4 st3 st'
    have mr : ∀ (F : FO) (a b : Addr × Obj) (z : Lg) x, x ∈ zz ++ l → x ∈ F.cells ++ (a :: b :: (I, oI) :: (z ++ (zz ++ l))) := fun F a b z x hx => List.mem_append_right _ (.tail _ (.tail _ (.tail _ (List.mem_append_right _ hx))))
    have back : ∀ (F' : FO) (P' D' : Addr) (us1' us2' : List Value) (n1' n2' : Nat) (z' : Lg) (s' : Shared), S env1 ["history", "p", "below", "plain", "deep", "kept", "kind", "way", "flag", "rest"] g [some (.ref t), some (.ref q), some (.ref F'.f), some (.ref P'), some (.ref D'), some (.bool (alStep way σ c).2.2.2), some (.int c.1 t1), some (.ref qc), some (.int c.2.2 t2), some (.ref rr)] (F'.cells ++ ((P', listO us1' n1') :: (D', listO us2' n2') :: (I, oI) :: (z' ++ (zz ++ l)))) s₀ s' →
        F'.Is prog w LM (alStep way σ c).1 → IntsAre us1' (alStep way σ c).2.1 → IntsAre us2' (alStep way σ c).2.2.1 → W (model prog w) A1 (execs [] env1) QQ E2 s' := by
      intro F' P' D' us1' us2' n1' n2' z' s' st H' j1 j2
      refine w_nil ?_
      subst hLP
      rw [← List.append_assoc] at st
      have st2 := st.perm (pmA (I, oI) (P', listO us1' n1') (D', listO us2' n2') [] F'.cells ((z' ++ zz) ++ l)).symm
      refine ⟨_, _, st2, ?_⟩
      rw [hrun]
      exact .mk F' P' D' us1' us2' n1' n2' (z' ++ zz) _ _ _ _ H' j1 j2
    refine w_cons (w_if ?_)
    generalize hBR : (fun (b : Bool) (s₂ : Shared) => (_ : Prop)) = BR
    have hB : ∀ (b : Bool) (z' : Lg) (s' : Shared), S env1 ["history", "p", "below", "plain", "deep", "kept", "kind", "way", "flag", "rest"] g [some (.ref t), some (.ref q), some (.ref F.f), some (.ref P), some (.ref D), some (.bool σ.2.2.2), some (.int c.1 t1), some (.ref qc), some (.int c.2.2 t2), some (.ref rr)] (F.cells ++ ((P, listO us1 n1) :: (D, listO us2 n2) :: (I, oI) :: (z' ++ (zz ++ l)))) s₀ s' → (b = true ↔ (c.1 = 4 ∧ way.take c.2.1.length = c.2.1)) → BR b s' := by
      intro b z' s' st hb
      rw [← hBR]
      cases b with
      | true =>
        have hc1 := hb.mp rfl
        have ea : alStep way σ c = (fun x => none, [], [], false) := by unfold alStep; rw [if_pos hc1]
        rw [ea] at back
        refine w_cons (w_assignTup (w_tupleE ?_))
        refine w_args (w_callE (w_global fn1 cx1 st (by k_is) hFl (by decide) (w_cwK0 cx1 st (by k_is) (flags_new (M := LM) (At := AtL l) (d := d + 1) (u := u) fn1 (cx1.le (by exact Nat.le_refl _) (by exact Nat.add_le_add_left (Nat.le_of_ble_eq_true rfl) _)) st fun F' s2 H' hP' st2 => ?_))))
        refine w_args (w_listE (w_args0 (w_list st2 fun P' s3 st3 => ?_)))
        refine w_args (w_listE (w_args0 (w_list st3 fun D' s4 st4 => ?_)))
        refine w_args (w_bool (w_args0 (w_tuple st4 fun T s6 st6 => ?_)))
        refine w_unpack cx1.hand st6 (.head _) rfl rfl fun s7 st7 => ?_
        refine w_inorder (w_aname (w_store 2 fn1 st7 rfl (Nat.le_of_ble_eq_true rfl) fun s8 st8 => ?_))
        refine w_inorder (w_aname (w_store 3 fn1 st8 rfl (Nat.le_of_ble_eq_true rfl) fun s9 st9 => ?_))
        refine w_inorder (w_aname (w_store 4 fn1 st9 rfl (Nat.le_of_ble_eq_true rfl) fun s10 st10 => ?_))
        refine w_inorder (w_aname (w_store 5 fn1 st10 rfl (Nat.le_of_ble_eq_true rfl) fun s11 st11 => ?_))
        refine w_inorder0 ?_
        exact w_nil (back F' P' D' [] [] 0 0 _ s11 (st11.perm (pmC _ _ _ _ _ _ _ _ _ _)) H' .nil .nil)
      | false =>
        have hc1 : ¬ (c.1 = 4 ∧ way.take c.2.1.length = c.2.1) := fun z => (nomatch hb.mpr z)
        clear hb hBR
        refine w_cons (w_if ?_)
        generalize hBR : (fun (b : Bool) (s₂ : Shared) => (_ : Prop)) = BR
        have hB : ∀ (b : Bool) (z' : Lg) (s' : Shared), S env1 ["history", "p", "below", "plain", "deep", "kept", "kind", "way", "flag", "rest"] g [some (.ref t), some (.ref q), some (.ref F.f), some (.ref P), some (.ref D), some (.bool σ.2.2.2), some (.int c.1 t1), some (.ref qc), some (.int c.2.2 t2), some (.ref rr)] (F.cells ++ ((P, listO us1 n1) :: (D, listO us2 n2) :: (I, oI) :: (z' ++ (zz ++ l)))) s₀ s' → (b = true ↔ (c.2.1.take way.length = way ∧ c.1 = 4)) → BR b s' := by
          clear st
          intro b z' s' st hb
          rw [← hBR]
          have hwr : ∀ {k}, k ∈ c.2.1.drop way.length → k ∈ c.2.1 := fun h => List.mem_of_mem_drop h
          have hsz : (us'.drop ws.length).length ≤ sizeLine := by rw [hrw.length, List.length_drop, zl]; exact Nat.le_trans (Nat.sub_le _ _) (Nat.le_trans lc (Nat.le_of_ble_eq_true rfl))
          have hcF : ∀ x ∈ F.cells, x ∈ F.cells ++ ((P, listO us1 n1) :: (D, listO us2 n2) :: (I, oI) :: (z' ++ (zz ++ l))) := fun x hx => List.mem_append_left _ hx
          have mrr : (rr, tupO (us'.drop ws.length)) ∈ (P, listO us1 n1) :: (D, listO us2 n2) :: (I, oI) :: (z' ++ (zz ++ l)) := .tail _ (.tail _ (.tail _ (List.mem_append_right _ hrr2)))
          cases b with
          | true =>
            have hc2 := hb.mp rfl
            have ea : alStep way σ c = (cutT σ.1 (c.2.1.drop way.length), σ.2) := by unfold alStep; rw [if_neg hc1, if_pos hc2]
            rw [ea] at back
            have hne : c.2.1.drop way.length ≠ [] := fun z => hc1 ⟨hc2.2, by
              have h2 := List.take_append_drop way.length c.2.1
              rw [z, List.append_nil, hc2.1] at h2
              rw [← h2, List.take_length]⟩
            refine w_cons (w_exprA hint (w_meth (w_name 2 fn1 st rfl rfl (w_munset cx1 st H hcF (w_cwK cx1 (by k_is) (w_args (w_name 9 fn1 st rfl rfl (w_args0 ⟨st.inK cx1, w_callF ?_⟩))))))))
            refine unset_spec (d := d + 1) (u := u) fn1 (cx1.le (by exact Nat.le_succ _) (by exact Nat.add_le_add_left (Nat.le_of_ble_eq_true rfl) _)) st H mrr hrw hsz hne (by decide) fun F2 s10 H2 sm2 st10 => ?_
            have e : F.f = F2.f := sm2.f.symm
            rw [e] at st10
            exact w_nil (w_nil (back F2 P D us1 us2 n1 n2 z' _ st10 H2 i1 i2))
          | false =>
            have hc2 : ¬ (c.2.1.take way.length = way ∧ c.1 = 4) := fun z => (nomatch hb.mpr z)
            clear hb hBR
            refine w_cons (w_if (w_preN 7 1 fn1 cx1 hln (by k_is) st rfl rfl rfl rfl (mr F _ _ z' _ (List.mem_append_right _ m2)) (mr F _ _ z' _ (List.mem_append_right _ hq)) hwc hw okc ow (by exact Nat.le_trans lc (Nat.le_add_left _ _)) (by exact Nat.le_trans lw (Nat.le_add_left _ _)) hu64 fun z2 s10 st11 => ?_))
            have st12 : S env1 ["history", "p", "below", "plain", "deep", "kept", "kind", "way", "flag", "rest"] g [some (.ref t), some (.ref q), some (.ref F.f), some (.ref P), some (.ref D), some (.bool σ.2.2.2), some (.int c.1 t1), some (.ref qc), some (.int c.2.2 t2), some (.ref rr)] (F.cells ++ ((P, listO us1 n1) :: (D, listO us2 n2) :: (I, oI) :: ((z2 ++ z') ++ (zz ++ l)))) s₀ s10 := by rw [List.append_assoc]; exact st11.perm (pmB _ _ _ _ _ _)
            by_cases hp : c.2.1.take way.length = way
            · refine ite_t (decide_eq_true hp) ?_
              refine w_cons (w_assign (h₀ := g) (s₀ := s₀) 5 fn1 rfl (w_bool ⟨_, _, st12, Nat.le_of_ble_eq_true rfl, fun s11 st13 => ?_⟩))
              refine w_cons (w_if (w_testcmp (w_name 9 fn1 st13 rfl rfl (w_tupleE (w_args0 (w_tuple st13 fun e s12 st14 => ?_))))))
              refine w_neway st14 (.tail _ (mr F _ _ _ _ hrr2)) (.head _) hrw WayV.nil (fun k hk => okc k (hwr hk)) (fun k hk => nomatch hk) hu64 (w_tbool ?_)
              have st15 : S env1 ["history", "p", "below", "plain", "deep", "kept", "kind", "way", "flag", "rest"] g [some (.ref t), some (.ref q), some (.ref F.f), some (.ref P), some (.ref D), some (.bool true), some (.int c.1 t1), some (.ref qc), some (.int c.2.2 t2), some (.ref rr)] (F.cells ++ ((P, listO us1 n1) :: (D, listO us2 n2) :: (I, oI) :: ((((e, tupO []) :: (z2 ++ z'))) ++ (zz ++ l)))) s₀ s12 := st14.perm (pmB (I, oI) (P, listO us1 n1) (D, listO us2 n2) [(e, tupO [])] F.cells ((z2 ++ z') ++ (zz ++ l)))
              generalize hZ : (e, tupO []) :: (z2 ++ z') = Z at st15
              have hcF : ∀ x ∈ F.cells, x ∈ F.cells ++ ((P, listO us1 n1) :: (D, listO us2 n2) :: (I, oI) :: (Z ++ (zz ++ l))) := fun x hx => List.mem_append_left _ hx
              have mrr : (rr, tupO (us'.drop ws.length)) ∈ (P, listO us1 n1) :: (D, listO us2 n2) :: (I, oI) :: (Z ++ (zz ++ l)) := .tail _ (.tail _ (.tail _ (List.mem_append_right _ hrr2)))
              by_cases hr : c.2.1.drop way.length = []
              · refine ite_f (by rw [decide_eq_true hr]; rfl) ?_
                refine w_cons (w_if (w_testcmp (w_name 6 fn1 st15 rfl rfl (w_int st15 fun t3 s13 st16 => w_eq (w_tbool ?_)))))
                by_cases hk1 : c.1 = 1
                · have ea : alStep way σ c = (σ.1, σ.2.1, σ.2.2.1 ++ [c.2.2], true) := by unfold alStep; rw [if_neg hc1, if_neg hc2, if_pos hp, if_neg (fun z => z hr), if_pos hk1]
                  rw [ea] at back
                  refine ite_t (beq_iff_eq.mpr hk1) ?_
                  refine w_cons (w_exprA hint (w_meth (w_name 4 fn1 st16 rfl rfl (w_lappend_meth st16 (List.mem_append_right _ (.tail _ (.head _))) (w_cwBuiltin (w_args (w_name 8 fn1 st16 rfl rfl (w_args0 ?_))))))))
                  refine w_append (l' := fun o' => F.cells ++ ((P, listO us1 n1) :: (D, o') :: (I, oI) :: (Z ++ (zz ++ l)))) st16 (fun o' => .app (.tail .head)) (by rw [IntsAre.length i2, zl]; exact Nat.le_trans hln2.2 (Nat.le_add_left _ _)) fun n' s14 st17 => ?_
                  exact w_nil (w_nil (w_nil (w_nil (w_nil (back F P D us1 _ n1 n' Z _ st17 H i1 (ints_snoc i2 _ _))))))
                · have ea : alStep way σ c = (σ.1, σ.2.1 ++ [c.2.2], σ.2.2.1, true) := by unfold alStep; rw [if_neg hc1, if_neg hc2, if_pos hp, if_neg (fun z => z hr), if_neg hk1]
                  rw [ea] at back
                  refine ite_f (beq_eq_false_iff_ne.mpr hk1) ?_
                  refine w_cons (w_exprA hint (w_meth (w_name 3 fn1 st16 rfl rfl (w_lappend_meth st16 (List.mem_append_right _ (.head _)) (w_cwBuiltin (w_args (w_name 8 fn1 st16 rfl rfl (w_args0 ?_))))))))
                  refine w_append (l' := fun o' => F.cells ++ ((P, o') :: (D, listO us2 n2) :: (I, oI) :: (Z ++ (zz ++ l)))) st16 (fun o' => .app .head) (by rw [IntsAre.length i1, zl]; exact Nat.le_trans hln2.1 (Nat.le_add_left _ _)) fun n' s14 st17 => ?_
                  exact w_nil (w_nil (w_nil (w_nil (w_nil (back F P D _ us2 n' n2 Z _ st17 H (ints_snoc i1 _ _) i2)))))
              · have ea : alStep way σ c = (setT σ.1 (c.2.1.drop way.length) c.2.2 (c.1 == 1), σ.2.1, σ.2.2.1, true) := by unfold alStep; rw [if_neg hc1, if_neg hc2, if_pos hp, if_pos hr]
                rw [ea] at back
                refine ite_t (by rw [decide_eq_false hr]; rfl) ?_
                refine w_cons (w_exprA hint (w_methKW (w_name 2 fn1 st15 rfl rfl (w_mset cx1 st15 H hcF (w_cwKW cx1 (by k_is) (w_args (w_name 9 fn1 st15 rfl rfl (w_args (w_name 8 fn1 st15 rfl rfl (w_args0 (w_kw (w_cmp (w_name 6 fn1 st15 rfl rfl (w_int st15 fun t8 s13 st16 => w_eq (w_kw0 ⟨st16.inK cx1, w_callF ?_⟩)))))))))))))))
                refine set_spec (d := d + 1) (u := u) fn1 (cx1.le (by exact Nat.le_succ _) (by exact Nat.add_le_add_left (Nat.le_of_ble_eq_true rfl) _)) st16 H mrr hrw hsz hr (fun z hz => hok.menu z (hwr hz)) (by decide) hok.flag fun F2 s14 H2 sm2 st17 => ?_
                have e2 : F.f = F2.f := sm2.f.symm
                rw [e2] at st17
                exact w_nil (w_nil (w_nil (w_nil (back F2 P D us1 us2 n1 n2 Z _ st17 H2 i1 i2))))
            · have ea : alStep way σ c = σ := by unfold alStep; rw [if_neg hc1, if_neg hc2, if_neg hp]
              rw [ea] at back
              exact ite_f (decide_eq_false hp) (w_nil (w_nil (w_nil (back F P D us1 us2 n1 n2 _ _ st12 H i1 i2))))
        clear hBR
        refine w_isAnd (w_all (w_preN 7 1 fn1 cx1 hln (by k_is) st rfl rfl rfl rfl (mr F _ _ z' _ (List.mem_append_right _ m2)) (mr F _ _ z' _ (List.mem_append_right _ hq)) hwc hw okc ow (by exact Nat.le_trans lc (Nat.le_add_left _ _)) (by exact Nat.le_trans lw (Nat.le_add_left _ _)) hu64 fun z2 s10 st11 => ?_))
        have st12 : S env1 ["history", "p", "below", "plain", "deep", "kept", "kind", "way", "flag", "rest"] g [some (.ref t), some (.ref q), some (.ref F.f), some (.ref P), some (.ref D), some (.bool σ.2.2.2), some (.int c.1 t1), some (.ref qc), some (.int c.2.2 t2), some (.ref rr)] (F.cells ++ ((P, listO us1 n1) :: (D, listO us2 n2) :: (I, oI) :: ((z2 ++ z') ++ (zz ++ l)))) s₀ s10 := by rw [List.append_assoc]; exact st11.perm (pmB _ _ _ _ _ _)
        by_cases hp : c.2.1.take way.length = way
        · refine ite_t (decide_eq_true hp) (w_all (w_testcmp (w_name 6 fn1 st12 rfl rfl (w_int st12 fun t3 s9 st10 => w_eq (w_tbool ?_)))))
          by_cases hk : c.1 = 4
          · exact ite_t (beq_iff_eq.mpr hk) (w_all0 (hB _ _ _ st10 ⟨fun x => ⟨hp, hk⟩, fun x => rfl⟩))
          · exact ite_f (beq_eq_false_iff_ne.mpr hk) (hB _ _ _ st10 ⟨fun z => (nomatch z), fun z => absurd z.2 hk⟩)
        · exact ite_f (decide_eq_false hp) (hB _ _ _ st12 ⟨fun z => (nomatch z), fun z => absurd z.1 hp⟩)
    clear hBR
    refine w_isAnd (w_all (w_testcmp (w_name 6 fn1 st9 rfl rfl (w_int st9 fun t3 s9 st10 => w_eq (w_tbool ?_)))))
    by_cases hk : c.1 = 4
    · refine ite_t (beq_iff_eq.mpr hk) ?_
      refine w_all (w_preN 1 7 fn1 cx1 hln (by k_is) st10 rfl rfl rfl rfl (mr F _ _ [] _ (List.mem_append_right _ hq)) (mr F _ _ [] _ (List.mem_append_right _ m2)) hw hwc ow okc (by exact Nat.le_trans lw (Nat.le_add_left _ _)) (by exact Nat.le_trans lc (Nat.le_add_left _ _)) hu64 fun z2 s10 st11 => ?_)
      have st12 : S env1 ["history", "p", "below", "plain", "deep", "kept", "kind", "way", "flag", "rest"] g [some (.ref t), some (.ref q), some (.ref F.f), some (.ref P), some (.ref D), some (.bool σ.2.2.2), some (.int c.1 t1), some (.ref qc), some (.int c.2.2 t2), some (.ref rr)] (F.cells ++ ((P, listO us1 n1) :: (D, listO us2 n2) :: (I, oI) :: (z2 ++ (zz ++ l)))) s₀ s10 := st11.perm (pmB _ _ _ _ _ _)
      by_cases hp : way.take c.2.1.length = c.2.1
      · refine ite_t (decide_eq_true hp) (w_all0 (hB _ z2 _ st12 ⟨fun x => ⟨hk, hp⟩, fun x => rfl⟩))
      · exact ite_f (decide_eq_false hp) (hB _ z2 _ st12 ⟨fun z => (nomatch z), fun z => absurd z.2 hp⟩)
    · exact ite_f (beq_eq_false_iff_ne.mpr hk) (hB _ [] _ st10 ⟨fun z => (nomatch z), fun z => absurd z.1 hk⟩)
  · rintro vs' l' s' hJ st'
    have e : us.length = cs.length := hv.length
    rw [e, List.take_length] at hJ
    obtain ⟨F, P, D, us1, us2, n1, n2, z, k1, k2, k3, k4, H, i1, i2⟩ := hJ
    refine w_cons (w_ret (w_tupleE (w_args (w_name 2 fn1 st' rfl rfl (w_args (w_name 3 fn1 st' rfl rfl (w_args (w_name 4 fn1 st' rfl rfl (w_args (w_name 5 fn1 st' rfl rfl (w_args0 (w_tuple st' fun T s2 st2 => ?_))))))))))))
    subst hSR
    change SRet _ _ _ _ _ _ _ _ _ _ _
    exact SRet.intro st2 fun st => h F P D T us1 us2 n1 n2 z _ H i1 i2 st
end
end Mine.Internal
end
section
set_option tactic.hygienic false
open PySem PySem.W PySem.Calls PyProof.Rows PySem.Spec
set_option maxRecDepth 100000
namespace Mine.Internal
section
variable {prog : Program} {w : World} {A : Around} {E : Value → Shared → Prop} {s : Shared} {M M' : List Str} {F B : FO} {τ σ : AbsT}
theorem node_ne (HF : F.Is prog w M τ) (HB : B.Is prog w M' σ) (gF : Got s F.cells) (gB : Got s B.cells) {p : Way} {x y fx rx nx fy ry : Addr} {ox oy ofx orx onx ofy ory : Obj} {X Y : Int → Bool} {N : Nat}
    (gx : s.heap.get? x = some ox) (dx : ox.IsDictOf (strKind prog w) (trio fx rx nx)) (gy : s.heap.get? y = some oy) (dy : oy.IsDictOf (strKind prog w) (trio fy ry B.root)) (lx : (x == sysModules) = false) (ly : (y == sysModules) = false)
    (gfx : s.heap.get? fx = some ofx) (ifx : IS prog w ofx X) (grx : s.heap.get? rx = some orx) (irx : IS prog w orx Y) (gfy : s.heap.get? fy = some ofy) (ify : IS prog w ofy X) (gry : s.heap.get? ry = some ory) (iry : IS prog w ory Y)
    (hn : F.dictAt p = some (nx, onx)) (heq : ∀ u, u ≠ [] → τ (p ++ u) = σ u) (hN : ∀ u, (σ u).isSome = true → u.length ≤ N) (hu : A.units + 4 * N + 8 < cLine)
    {Q : Value → Shared → Prop} (h : Q (.bool false) s) : wpAny (model prog w) A (compareOp .NotEq (.ref x) (.ref y)) Q E s := by
  have u1 := in1_units (A := A)
  have hm : B.dictAt [] = some (B.root, B.oroot) := by unfold FO.dictAt; rw [if_pos rfl]
  refine de_ne lx ly (Heap.dictOf_iff.mpr ⟨_, gx, dx⟩) (Heap.dictOf_iff.mpr ⟨_, gy, dy⟩) (by exact qft fun x => qfa2 x hu (by simp +arith only)) rfl (trio_hits (eq_sets gfx gfy ifx ify (by exact qft fun x => qfa3 x (Nat.le_of_eq u1) hu (by simp +arith only))) (eq_sets grx gry irx iry (by exact qft fun x => qfa3 x (Nat.le_of_eq u1) hu (by simp +arith only))) (RcP.eq ?_)) h
  exact tree_rc HF HB gF gB p heq N hN N A.in1 [] nx onx B.root B.oroot (by simp) (by exact qft fun x => qfa3 x (Nat.le_of_eq u1) hu (by simp +arith only)) (by rw [List.append_nil]; exact hn) hm
end
section
variable {prog : Program} {w : World} {A : Around} {E : Value → Shared → Prop} {env : Env} {ns : List Str} {h₀ : Heap} {vs : List (Option Value)} {l : Lg} {s₀ s : Shared}
theorem w_in_ints {a : Addr} {us : List Value} {n : Nat} {ks : List Int} {k : Int} {t : Tok} {Q : Value → Shared → Prop} (st : S env ns h₀ vs l s₀ s) (hm : (a, listO us n) ∈ l) (hi : IntsAre us ks) (h : Q (.bool (decide (k ∈ ks))) s) :
    W (model prog w) A (compareOp .In (.int k t) (.ref a)) Q E s := by
  refine .mk (in_list_ints (st.list hm) hi ?_)
  first
  | exact h
  | (rw [show ks.any (· == k) = decide (k ∈ ks) from by rw [Bool.eq_iff_iff, List.any_eq_true, decide_eq_true_iff]; exact ⟨fun ⟨x, hx, e⟩ => eq_of_beq e ▸ hx, fun hx => ⟨k, hx, beq_self_eq_true k⟩⟩]; exact h)
end
end Mine.Internal
end
section
set_option tactic.hygienic false
open PySem PySem.W PySem.Calls PyProof.Rows
set_option maxRecDepth 100000
namespace Mine.Internal
theorem dummyAD : (PySem.Challenge.rw_aa0050_01 = PySem.Challenge.rw_aa0050_01 ∧ hkF = hkF) := by k_fill; exact ⟨rfl, rfl⟩
noncomputable def WAt (l : Lg) (v : Value) (way : Way) : Prop := ∃ q xs, v = .ref q ∧ (q, tupO xs) ∈ l ∧ WayV xs way
noncomputable def overT (τ : AbsT) (p : Way) (f : Int) : Bool := decide (p ≠ []) && isW τ (p.dropLast ++ [("b" : Str)]) f
structure DueOk (τ : AbsT) (p : Way) (σ : AlS) : Prop where
  root : σ.2.2.2 = true → p = [] → σ.2.1 = [] ∧ σ.2.2.1 = []
  node : σ.2.2.2 = true → p ≠ [] → τ p = some (fun k => decide (k ∈ σ.2.1), fun k => decide (k ∈ σ.2.2.1))
  below : σ.2.2.2 = true → ∀ u, u ≠ [] → τ (p ++ u) = σ.1 u
  gone : σ.2.2.2 = false → p ≠ [] ∧ τ p = none
  deep : ∀ u, (σ.1 u).isSome = true → u.length ≤ 5
  fl1 : ∀ k ∈ σ.2.1, k = 0 ∨ k = 1
  fl2 : ∀ k ∈ σ.2.2.1, k = 0 ∨ k = 1
  len : σ.2.1.length ≤ 500 ∧ σ.2.2.1.length ≤ 500
  is1 : ∀ f, f = 0 ∨ f = 1 → isW τ p f = (overT τ p f || decide (f ∈ σ.2.1 ++ σ.2.2.1))
  is2 : ∀ f, f = 0 ∨ f = 1 → isW τ (p ++ [("b" : Str)]) f = (overT τ p f || decide (f ∈ σ.2.2.1))
inductive EJ (F : FO) (t a q b P D c : Addr) (kb : Bool) (us1 us2 : List Value) (n1 n2 : Nat) (i : Addr × Obj) (y : Lg) : List (Option Value) → Lg → Prop
  | mk (z : Lg) (k7 k8 : Option Value) : EJ F t a q b P D c kb us1 us2 n1 n2 i y [some (.ref F.f), some (.ref t), some (.ref a), some (.ref q), some (.ref b), some (.ref P), some (.ref D), some (.bool kb), some (.ref c), k7, k8] (F.cells ++ ((P, listO us1 n1) :: (D, listO us2 n2) :: i :: (z ++ y)))
inductive DJ (F : FO) (t a : Addr) (l : Lg) : List (Option Value) → Lg → Prop
  | mk (z : Lg) (k1 k2 k3 k4 k5 k6 k7 k8 : Option Value) : DJ F t a l [some (.ref F.f), some (.ref t), some (.ref a), k1, k2, k3, k4, k5, k6, k7, k8] (F.cells ++ (z ++ l))
section
variable {prog : Program} {w : World} {A : Around} {E : Value → Shared → Prop} {env : Env} {ns : List Str} {h₀ : Heap} {vs : List (Option Value)} {l : Lg} {s₀ s : Shared}
  {p : Program} {loose : List Str} {mean : ExcName → Option Value} {mg mb : Str → Option Value} {d u : Nat}
theorem pmE {α : Type} (z4 z3 F Y : List α) (e2 e : α) : (z4 ++ (e2 :: (z3 ++ (F ++ (e :: Y))))).Perm (F ++ ((z4 ++ (e2 :: (z3 ++ [e]))) ++ Y)) := by
  have e1 : z4 ++ (e2 :: (z3 ++ (F ++ (e :: Y)))) = (z4 ++ e2 :: z3) ++ (F ++ (e :: Y)) := by simp
  have e3 : F ++ ((z4 ++ (e2 :: (z3 ++ [e]))) ++ Y) = F ++ ((z4 ++ e2 :: z3) ++ (e :: Y)) := by simp
  rw [e1, e3]; exact List.perm_append_comm_assoc _ _ _
theorem ints_app {us vs : List Value} {ks ms : List Int} (h : IntsAre us ks) (h' : IntsAre vs ms) : IntsAre (us ++ vs) (ks ++ ms) := by
  induction h with
  | nil => exact h'
  | cons n t' _ ih => exact .cons n t' ih
theorem pmD {α : Type} (i p q : α) (a z1 y : List α) : (a ++ (p :: q :: (z1 ++ (i :: y)))).Perm (p :: q :: i :: ((a ++ z1) ++ y)) := by
  refine (List.perm_append_comm_assoc a [p, q] _).trans (List.Perm.append_left [p, q] ?_)
  show (a ++ (z1 ++ (i :: y))).Perm (i :: ((a ++ z1) ++ y))
  rw [← List.append_assoc]
  exact List.perm_middle
theorem w_setX {K : Frag} {x : Str} {p1 p2 p3 : Pos} {a : Addr} {us : List Value} {n : Nat} {ks : List Int} {Q : Value → Shared → Prop} (i : Nat) (fn : Fn env ns) (cx : Cx K p loose mean mg mb d u A env h₀) (st : S env ns h₀ vs l s₀ s) (e : nsIn K mainGlobals "set" = some none) (hx : env.kindOf "set" = some .globalImplicit)
    (hn : ns[i]? = some x) (hv : vs[i]? = some (some (.ref a))) (hm : (a, listO us n) ∈ l) (hi : IntsAre us ks) (hk : ∀ k ∈ ks, k = 0 ∨ k = 1) (hz : ks.length ≤ 500)
    (h : ∀ D o s', IS prog w o (fun k => decide (k ∈ ks)) → S env ns h₀ vs ((D, o) :: l) s₀ s' → Q (.ref D) s') : W (model prog w) A (eval (.Call (.Name "set" p1) [.Name x p2] [] p3) env) Q E s :=
  w_callE (w_builtin fn cx st e boot_set (by decide) hx (by decide) (w_cwType (w_args (w_name i fn st hn hv (w_args0 (.mk (g_setlist cx.hand st hm hi hk (by exact Nat.le_trans hz (Nat.le_add_left _ _)) h)))))))
theorem due_spec {t a : Addr} {us ks : List Value} {n m : Nat} {F : FO} {τ : AbsT} {cs : List Cl} {asked : List Way} {R : Result → Shared → Prop}
    (fn : Fn env ns) (cx : Cx (hkF w.params) p loose mean mg mb (d + 8) (u + 160) A env h₀) (st : S env ns h₀ vs (F.cells ++ l) s₀ s) (H : F.Is prog w LM τ)
    (hm : (t, listO us n) ∈ l) (hv : Vs (CAt l) us cs) (hcs : ∀ c ∈ cs, OkC c) (hlen : cs.length ≤ 5000) (ha : (a, listO ks m) ∈ l) (hks : Vs (WAt l) ks asked) (hok : ∀ x ∈ asked, (∀ k ∈ x, k ∈ LM) ∧ x.length ≤ 5 ∧ DueOk τ x (alS x cs))
    (h : ∀ z s', S env ns h₀ vs (F.cells ++ (z ++ l)) s₀ s' → R (.ok (.ret (.bool true))) s') :
    codeAny (model prog w) A (.call (.ref 105) ⟨[.ref F.f, .ref t, .ref a], []⟩) R s := by
  refine S_call (d := d + 7) (u := u + 157) (ns' := ["flags", "history", "asked", "p", "below", "plain", "deep", "kept", "due", "flag", "over"]) (vs' := [some (.ref F.f), some (.ref t), some (.ref a), none, none, none, none, none, none, none, none])
    [("flags", .ref F.f), ("history", .ref t), ("asked", .ref a)] ["p", "below", "plain", "deep", "kept", "due", "flag", "over"] fn cx st (by k_is) (by k_is) (BindsTo.of_eq rfl) rfl rfl (fn_of (by rfl) (by decide) rfl) (by decide) ?_
  intro env1 g A1 s1 E' he fn1 cx1 st1
  generalize hSR : SRet _ _ _ _ _ _ _ _ _ = RR0; revert RR0; refine hold ?_; intro RR0 hSR
  have hset : env1.kindOf "set" = some .globalImplicit := by obtain ⟨L', e⟩ := he; rw [e]; rfl
  have hal : env1.kindOf "_law_alone" = some .globalImplicit := by obtain ⟨L', e⟩ := he; rw [e]; rfl
  have hnd : env1.kindOf "_law_node" = some .globalImplicit := by obtain ⟨L', e⟩ := he; rw [e]; rfl
  refine w_cons (w_for (w_name 2 fn1 st1 rfl rfl ?_))
  refine w_for_list cx1.hand st1 (List.mem_append_right _ ha) (fun x => DJ F t a l)
    (.mk [] none none none none none none none none) (fun i vs' l' hJ => by obtain ⟨z⟩ := hJ; exact List.mem_append_right _ (List.mem_append_right _ ha)) ?_ ?_
  · intro i v vs' l' I oI s' E2 hi hJ st'
    generalize hLP : LPost _ _ _ _ _ _ _ _ = QQ; revert QQ; refine hold ?_; intro QQ hLP
    obtain ⟨z, k1, k2, k3, k4, k5, k6, k7, k8⟩ := hJ
    obtain ⟨x, hx, q, xs, rfl, mq, hxw⟩ := hks.at hi
    obtain ⟨hmn, hxl, hdue⟩ := hok x (List.mem_of_getElem? hx)
    refine w_aname (w_store 3 fn1 st' rfl (Nat.le_of_ble_eq_true rfl) fun s2 st2 => ?_)
    have st3 : S env1 ["flags", "history", "asked", "p", "below", "plain", "deep", "kept", "due", "flag", "over"] g [some (.ref F.f), some (.ref t), some (.ref a), some (.ref q), k2, k3, k4, k5, k6, k7, k8] (F.cells ++ ((I, oI) :: (z ++ l))) s₀ s2 := st2.mid
    refine w_cons (w_assignTup (w_callE (w_global fn1 cx1 st3 (by k_is) hal (by decide) (w_cwK cx1 (by k_is) (w_args (w_name 1 fn1 st3 rfl rfl (w_args (w_name 3 fn1 st3 rfl rfl (w_args0 ⟨st3.inK cx1, w_callF ?_⟩)))))))))
    refine alone_spec (d := d + 3) (u := u + 77) fn1 (cx1.le (by exact Nat.le_refl _) (by exact Nat.le_refl _)) st3 (List.mem_append_right _ (.tail _ (List.mem_append_right _ hm))) (hv.imp fun v c hc => hc.imp (fun a us h => List.mem_append_right _ (.tail _ (List.mem_append_right _ h))) ) hcs hlen (List.mem_append_right _ (.tail _ (List.mem_append_right _ mq))) hxw (okw_menu hmn) hxl fun B P D T us1 us2 n1 n2 z1 s4 HB i1 i2 st4 => ?_
    refine w_unpack cx1.hand st4 (.head _) rfl rfl fun s5 st5 => ?_
    refine w_inorder (w_aname (w_store 4 fn1 st5 rfl (Nat.le_of_ble_eq_true rfl) fun s6 st6 => ?_))
    refine w_inorder (w_aname (w_store 5 fn1 st6 rfl (Nat.le_of_ble_eq_true rfl) fun s7 st7 => ?_))
    refine w_inorder (w_aname (w_store 6 fn1 st7 rfl (Nat.le_of_ble_eq_true rfl) fun s8 st8 => ?_))
    refine w_inorder (w_aname (w_store 7 fn1 st8 rfl (Nat.le_of_ble_eq_true rfl) fun s9 st9 => ?_))
    refine w_inorder0 ?_
    generalize hσ : alS x cs = σ at hdue HB i1 i2 st9
    generalize hW : B.cells ++ ((P, listO us1 n1) :: (D, listO us2 n2) :: (z1 ++ (F.cells ++ ((I, oI) :: (z ++ l))))) = W0 at st9
    have st10 : S env1 ["flags", "history", "asked", "p", "below", "plain", "deep", "kept", "due", "flag", "over"] g [some (.ref F.f), some (.ref t), some (.ref a), some (.ref q), some (.ref B.f), some (.ref P), some (.ref D), some (.bool σ.2.2.2), k6, k7, k8] W0 s₀ s9 := st9.drop
    have mB : ∀ c ∈ B.cells, c ∈ W0 := fun c hc => hW ▸ List.mem_append_left _ hc
    have mP : (P, listO us1 n1) ∈ W0 := hW ▸ List.mem_append_right _ (.head _)
    have mD : (D, listO us2 n2) ∈ W0 := hW ▸ List.mem_append_right _ (.tail _ (.head _))
    refine w_cons (w_assign (h₀ := g) (s₀ := s₀) 8 fn1 rfl (w_dict3 st10 cx1 (by decide) fun c s11 hlow st11 => ?_))
    refine w_setX 5 fn1 cx1 st11 (by k_is) hset rfl rfl (.tail _ mP) i1 hdue.fl1 hdue.len.1 fun D1 o1 s12 hI1 st12 => ⟨_, st12, fun s13 st13 => ?_⟩
    refine w_setX 6 fn1 cx1 st13 (by k_is) hset rfl rfl (.tail _ (.tail _ mD)) i2 hdue.fl2 hdue.len.2 fun D2 o2 s14 hI2 st14 => ⟨_, st14, fun s15 st15 => ?_⟩
    refine w_attr (w_name 4 fn1 st15 rfl rfl (w_flags cx1 st15 HB (fun c hc => .tail _ (.tail _ (.tail _ (mB c hc)))) fun s16 st16 => ⟨_, fun o' => (D2, o2) :: (D1, o1) :: (c, o') :: W0, st16, fun o' => .tail (.tail .head), fun o' s17 hd st17 => ?_⟩))
    refine ⟨_, _, st17, Nat.le_of_ble_eq_true rfl, fun s18 st18 => ?_⟩
    refine w_cons (w_if ?_)
    generalize hBR : (fun (b : Bool) (s₂ : Shared) => (_ : Prop)) = BR
    have hB : ∀ (z' : Lg) (s' : Shared), S env1 ["flags", "history", "asked", "p", "below", "plain", "deep", "kept", "due", "flag", "over"] g [some (.ref F.f), some (.ref t), some (.ref a), some (.ref q), some (.ref B.f), some (.ref P), some (.ref D), some (.bool σ.2.2.2), some (.ref c), k7, k8] (F.cells ++ ((P, listO us1 n1) :: (D, listO us2 n2) :: (I, oI) :: (z' ++ (z ++ l)))) s₀ s' → BR false s' := by
      intro z' s' st'
      rw [← hBR]
      refine w_nil ?_
      refine w_cons (w_for (w_listE (w_args (w_int st' fun ta s19 st19 => w_args (w_int st19 fun tb s20 st20 => w_args0 (w_list st20 fun LL s21 st21 => ?_))))))
      have st23 : S env1 ["flags", "history", "asked", "p", "below", "plain", "deep", "kept", "due", "flag", "over"] g [some (.ref F.f), some (.ref t), some (.ref a), some (.ref q), some (.ref B.f), some (.ref P), some (.ref D), some (.bool σ.2.2.2), some (.ref c), k7, k8] (F.cells ++ ((P, listO us1 n1) :: (D, listO us2 n2) :: (I, oI) :: (z' ++ ((LL, listO [.int 0 ta, .int 1 tb] 0) :: (z ++ l))))) s₀ s21 := st21.perm ((pmB (I, oI) (P, listO us1 n1) (D, listO us2 n2) [(LL, listO [.int 0 ta, .int 1 tb] 0)] F.cells (z' ++ (z ++ l))).trans (List.Perm.append_left _ ((((List.perm_append_comm_assoc [(LL, listO [.int 0 ta, .int 1 tb] 0)] z' (z ++ l)).cons _).cons _).cons _)))
      refine w_for_list cx1.hand st23 (List.mem_append_right _ (.tail _ (.tail _ (.tail _ (List.mem_append_right _ (.head _)))))) (fun x => EJ F t a q B.f P D c σ.2.2.2 us1 us2 n1 n2 (I, oI) ((LL, listO [.int 0 ta, .int 1 tb] 0) :: (z ++ l)))
        (.mk z' k7 k8) (fun i vs' l' hJ => by obtain ⟨z⟩ := hJ; exact List.mem_append_right _ (.tail _ (.tail _ (.tail _ (List.mem_append_right _ (.head _)))))) ?_ ?_
      · intro i2' v2 vs2 l2 I2 oI2 s2' E3 hi2 hJ2 st2'
        generalize hLP2 : LPost _ _ _ _ _ _ _ _ = QQ2; revert QQ2; refine hold ?_; intro QQ2 hLP2
        obtain ⟨z9, k7', k8'⟩ := hJ2
        obtain ⟨f, tf, rfl, hf⟩ : ∃ f tf, v2 = .int f tf ∧ (f = 0 ∨ f = 1) := by
          match i2', hi2 with
          | 0, e => exact ⟨0, ta, (Option.some.inj e).symm, .inl rfl⟩
          | 1, e => exact ⟨1, tb, (Option.some.inj e).symm, .inr rfl⟩
        refine w_aname (w_store 9 fn1 st2' rfl (Nat.le_of_ble_eq_true rfl) fun s3' st3' => ?_)
        generalize hY : (I2, oI2) :: ((P, listO us1 n1) :: (D, listO us2 n2) :: (I, oI) :: (z9 ++ ((LL, listO [.int 0 ta, .int 1 tb] 0) :: (z ++ l)))) = Y
        have st4' : S env1 ["flags", "history", "asked", "p", "below", "plain", "deep", "kept", "due", "flag", "over"] g [some (.ref F.f), some (.ref t), some (.ref a), some (.ref q), some (.ref B.f), some (.ref P), some (.ref D), some (.bool σ.2.2.2), some (.ref c), some (.int f tf), k8'] (F.cells ++ Y) s₀ s3' := by rw [← hY]; exact st3'.mid
        have yq : (q, tupO xs) ∈ Y := hY ▸ .tail _ (.tail _ (.tail _ (.tail _ (List.mem_append_right _ (.tail _ (List.mem_append_right _ mq))))))
        have yP : (P, listO us1 n1) ∈ Y := hY ▸ .tail _ (.head _)
        have yD : (D, listO us2 n2) ∈ Y := hY ▸ .tail _ (.tail _ (.head _))
        have hout : ∀ (zz : Lg) (b : Bool) (s' : Shared), S env1 ["flags", "history", "asked", "p", "below", "plain", "deep", "kept", "due", "flag", "over"] g [some (.ref F.f), some (.ref t), some (.ref a), some (.ref q), some (.ref B.f), some (.ref P), some (.ref D), some (.bool σ.2.2.2), some (.ref c), some (.int f tf), some (.bool b)] (F.cells ++ (zz ++ Y)) s₀ s' → QQ2 .next s' := by
          intro zz b s' st'
          subst hLP2; subst hY
          refine ⟨_, _, ?_, .mk (zz ++ z9) (some (.int f tf)) (some (.bool b))⟩
          rw [List.append_assoc]
          exact (st'.perm (List.Perm.append_left _ (List.perm_append_comm_assoc zz ((I2, oI2) :: (P, listO us1 n1) :: (D, listO us2 n2) :: (I, oI) :: []) _))).perm (List.perm_append_comm_assoc F.cells [_] _)
        clear hLP2 hY st3' st2'
        have hxz : xs.length + 1 ≤ sizeLine := by rw [hxw.length, sizeLine_eq]; exact Nat.lt_of_le_of_lt hxl (Nat.le_of_ble_eq_true rfl)
        have hu5 : A1.units + 64 < cLine := by have := cx1.units; exact qft fun x => qfa2 x this (by simp +arith only)
        have hcF : ∀ (zz : Lg) (c' : Addr × Obj), c' ∈ F.cells → c' ∈ F.cells ++ zz := fun zz c' hc => List.mem_append_left _ hc
        refine w_cons (w_assign (h₀ := g) (s₀ := s₀) 10 fn1 rfl ?_)
        generalize hQO : (fun (v : Value) (s₂ : Shared) => (_ : Prop)) = QO
        have hO : ∀ (zz : Lg) (s' : Shared), S env1 ["flags", "history", "asked", "p", "below", "plain", "deep", "kept", "due", "flag", "over"] g [some (.ref F.f), some (.ref t), some (.ref a), some (.ref q), some (.ref B.f), some (.ref P), some (.ref D), some (.bool σ.2.2.2), some (.ref c), some (.int f tf), k8'] (F.cells ++ (zz ++ Y)) s₀ s' → QO (.bool (overT τ x f)) s' := by
          intro zz s' st'
          rw [← hQO]
          refine ⟨_, _, st', Nat.le_of_ble_eq_true rfl, fun s6' st6' => ?_⟩
          refine w_cons (w_if ?_)
          generalize hBQ : (fun (b : Bool) (s₂ : Shared) => (_ : Prop)) = BQ
          have h1 : ∀ (zz : Lg) (s' : Shared), S env1 ["flags", "history", "asked", "p", "below", "plain", "deep", "kept", "due", "flag", "over"] g [some (.ref F.f), some (.ref t), some (.ref a), some (.ref q), some (.ref B.f), some (.ref P), some (.ref D), some (.bool σ.2.2.2), some (.ref c), some (.int f tf), some (.bool (overT τ x f))] (F.cells ++ (zz ++ Y)) s₀ s' → BQ false s' := by
            intro zz s' st'
            rw [← hBQ]
            refine w_nil ?_
            refine w_cons (w_if ?_)
            generalize hBQ2 : (fun (b : Bool) (s₂ : Shared) => (_ : Prop)) = BQ2
            have h2 : ∀ (zz : Lg) (s' : Shared), S env1 ["flags", "history", "asked", "p", "below", "plain", "deep", "kept", "due", "flag", "over"] g [some (.ref F.f), some (.ref t), some (.ref a), some (.ref q), some (.ref B.f), some (.ref P), some (.ref D), some (.bool σ.2.2.2), some (.ref c), some (.int f tf), some (.bool (overT τ x f))] (F.cells ++ (zz ++ Y)) s₀ s' → BQ2 false s' := by
              intro zz s' st'
              rw [← hBQ2]
              exact w_nil (w_nil (hout _ _ _ st'))
            clear hBQ2
            refine w_testcmp (w_meth (w_name 0 fn1 st' rfl rfl (w_mis cx1 st' H (hcF _) (w_cwK cx1 (by k_is) (w_args (w_binop (w_name 3 fn1 st' rfl rfl (w_tupleE (w_args (w_str st' fun t6 s9 st9 => w_args0 (w_tuple st9 fun e2 s10 st10 => ?_)))))))))))
            refine w_addtup (st10.mid (x := F.cells) (l := zz ++ Y)) (List.mem_append_right _ (.tail _ (List.mem_append_right _ yq))) (List.mem_append_right _ (.head _)) (by simp only [List.length_cons, List.length_nil]; exact hxz) fun z4 b4 s11 st11 m4 => ?_
            have m4 := m4 ((e2, tupO [.str "b" t6]) :: (zz ++ Y)) (.tail _ (List.mem_append_right _ yq)) (.head _)
            refine w_args (w_name 9 fn1 st11 rfl rfl (w_args0 ⟨st11.inK cx1, w_callF ?_⟩))
            have e3 : F.cells ++ (z4 ++ ((e2, tupO [.str "b" t6]) :: (zz ++ Y))) = F.cells ++ ((z4 ++ ((e2, tupO [.str "b" t6]) :: zz)) ++ Y) := by simp
            have e4 : z4 ++ ((e2, tupO [.str "b" t6]) :: (zz ++ Y)) = (z4 ++ ((e2, tupO [.str "b" t6]) :: zz)) ++ Y := by simp
            have st12 := st11.perm (List.perm_append_comm_assoc z4 F.cells ((e2, tupO [.str "b" t6]) :: (zz ++ Y)))
            rw [e3] at st12
            rw [e4] at m4
            refine is_spec (d := d + 6) (u := u + 150) fn1 (cx1.le (by exact Nat.le_refl _) (by exact qfl fun x => qfa1 x (by simp +arith only))) st12 H m4 (hxw.append (WayV.one _ _)) (by rw [List.length_append]; simp only [List.length_cons, List.length_nil]; exact hxz) fun s7' st7' => ?_
            refine w_or (w_name 10 fn1 st7' rfl rfl (w_tbool ?_))
            have e5 := hdue.is2 f hf
            cases hov : overT τ x f with
            | true =>
              rw [hov] at e5 st7' h2
              refine ite_t rfl ?_
              rw [e5]
              exact w_isnot_bool (w_tbool (h2 _ _ st7'))
            | false =>
              rw [hov] at e5 st7' h2
              refine ite_f rfl ?_
              rw [e5]
              refine w_cmp (w_name 9 fn1 st7' rfl rfl (w_name 6 fn1 st7' rfl rfl (w_in_ints st7' (List.mem_append_right _ (List.mem_append_right _ yD)) i2 ?_)))
              refine w_isnot_bool (w_tbool ?_)
              cases decide (f ∈ σ.2.2.1) <;> exact h2 _ _ st7'
          clear hBQ
          refine w_testcmp (w_meth (w_name 0 fn1 st6' rfl rfl (w_mis cx1 st6' H (hcF _) (w_cwK cx1 (by k_is) (w_args (w_name 3 fn1 st6' rfl rfl (w_args (w_name 9 fn1 st6' rfl rfl (w_args0 ⟨st6'.inK cx1, w_callF ?_⟩)))))))))
          refine is_spec (d := d + 6) (u := u + 150) fn1 (cx1.le (by exact Nat.le_refl _) (by exact qfl fun x => qfa1 x (by simp +arith only))) st6' H (List.mem_append_right _ yq) hxw (by exact Nat.le_of_lt hxz) fun s7' st7' => ?_
          refine w_or (w_name 10 fn1 st7' rfl rfl (w_tbool ?_))
          have e5 := hdue.is1 f hf
          cases hov : overT τ x f with
          | true =>
            rw [hov] at e5 st7' h1
            refine ite_t rfl ?_
            rw [e5]
            exact w_isnot_bool (w_tbool (h1 _ _ st7'))
          | false =>
            rw [hov] at e5 st7' h1
            refine ite_f rfl ?_
            rw [e5]
            have hl := hdue.len
            refine w_cmp (w_name 9 fn1 st7' rfl rfl (w_binop (w_name 5 fn1 st7' rfl rfl (w_name 6 fn1 st7' rfl rfl (w_addlist st7' (st7'.list (List.mem_append_right _ (List.mem_append_right _ yP))) (st7'.list (List.mem_append_right _ (List.mem_append_right _ yD))) (by rw [i1.length, i2.length, sizeLine_eq]; exact qfl fun x => qfa3 x hl.1 hl.2 (by simp +arith only)) fun c2 s8' st8' => ?_)))))
            refine w_in_ints st8' (.head _) (ints_app i1 i2) ?_
            refine w_isnot_bool (w_tbool ?_)
            have st9' := st8'.mid (x := F.cells) (l := zz ++ Y)
            cases decide (f ∈ σ.2.1 ++ σ.2.2.1) <;> exact h1 ((c2, _) :: zz) _ st9'
        clear hQO
        refine w_and (w_cmp (w_name 3 fn1 st4' rfl rfl (w_tupleE (w_args0 (w_tuple st4' fun e s5' st5' => ?_)))))
        have st6' : S env1 ["flags", "history", "asked", "p", "below", "plain", "deep", "kept", "due", "flag", "over"] g [some (.ref F.f), some (.ref t), some (.ref a), some (.ref q), some (.ref B.f), some (.ref P), some (.ref D), some (.bool σ.2.2.2), some (.ref c), some (.int f tf), k8'] (F.cells ++ ([(e, tupO [])] ++ Y)) s₀ s5' := st5'.mid
        refine w_neway st6' (List.mem_append_right _ (.tail _ yq)) (List.mem_append_right _ (.head _)) hxw WayV.nil (okw_menu hmn) (fun k hk => nomatch hk) hu5 (w_tbool ?_)
        by_cases hx0 : x = []
        · refine ite_f (by rw [decide_eq_true hx0]; rfl) ?_
          have ev : overT τ x f = !decide (x = []) := by unfold overT; rw [hx0]; rfl
          rw [← ev]; exact hO _ _ st6'
        · refine ite_t (by rw [decide_eq_false hx0]; rfl) ?_
          refine w_meth (w_name 0 fn1 st6' rfl rfl (w_mis cx1 st6' H (hcF _) (w_cwK cx1 (by k_is) (w_args (w_binop (w_subslice (w_name 3 fn1 st6' rfl rfl (wpart_0 (wpart_e (w_neg1 st6' fun t5 s7' st7' => ?_))))))))))
          refine w_slice_tup st7' (List.mem_append_right _ (.tail _ yq)) .none (.int _ _) (by exact Nat.le_of_lt hxz) fun z3 b3 s8' st8' m3 => ?_
          have m3 := m3 _ yq
          rw [sl_init] at m3
          refine w_tupleE (w_args (w_str st8' fun t6 s9 st9 => w_args0 (w_tuple st9 fun e2 s10 st10 => ?_)))
          refine w_addtup st10 (.tail _ ((List.mem_append.mp m3).elim (List.mem_append_left _) fun h => List.mem_append_right _ (List.mem_append_right _ (.tail _ h)))) (.head _) (by rw [List.length_dropLast]; simp only [List.length_cons, List.length_nil]; exact Nat.lt_of_le_of_lt (Nat.sub_le (xs.length) (1)) hxz) fun z4 b4 s11 st11 m4 => ?_
          have m4 := m4 _ (.tail _ m3) (.head _)
          refine w_args (w_name 9 fn1 st11 rfl rfl (w_args0 ⟨st11.inK cx1, w_callF ?_⟩))
          have st12 := st11.perm (pmE z4 z3 F.cells Y (e2, tupO [.str "b" t6]) (e, tupO []))
          have e6 : (z4 ++ ((e2, tupO [.str "b" t6]) :: (z3 ++ [(e, tupO [])]))) ++ Y = z4 ++ ((e2, tupO [.str "b" t6]) :: (z3 ++ ((e, tupO []) :: Y))) := by simp
          have m5 : (b4, tupO (xs.dropLast ++ [.str "b" t6])) ∈ (z4 ++ ((e2, tupO [.str "b" t6]) :: (z3 ++ [(e, tupO [])]))) ++ Y := by
            rw [e6]
            refine (List.mem_append.mp m4).elim (List.mem_append_left _) fun h => List.mem_append_right _ ?_
            exact (List.mem_cons.mp h).elim (fun h => h ▸ .head _) fun h => .tail _ ((List.mem_append.mp h).elim (List.mem_append_left _) fun h => List.mem_append_right _ (.tail _ h))
          have ev : overT τ x f = isW τ (x.dropLast ++ [("b" : Str)]) f := by unfold overT; rw [decide_eq_true hx0]; rfl
          refine is_spec (d := d + 6) (u := u + 150) fn1 (cx1.le (by exact Nat.le_refl _) (by exact qfl fun x => qfa1 x (by simp +arith only))) st12 H m5 (hxw.dropLast.append (WayV.one _ _)) (by rw [List.length_append, List.length_dropLast]; simp only [List.length_cons, List.length_nil]; exact Nat.lt_of_le_of_lt (Nat.sub_le (xs.length) (1)) hxz) fun s13 st13 => ?_
          rw [← ev]
          exact hO _ _ st13
      · rintro vs' l' s9' ⟨z9, k7', k8'⟩ st9'
        refine w_nil ?_
        subst hLP
        have e9 : z9 ++ ((LL, listO [.int 0 ta, .int 1 tb] 0) :: (z ++ l)) = ((z9 ++ [(LL, listO [.int 0 ta, .int 1 tb] 0)]) ++ z) ++ l := by simp
        rw [e9] at st9'
        exact ⟨_, _, st9'.perm (pmA (I, oI) (P, listO us1 n1) (D, listO us2 n2) [] F.cells _).symm, .mk ((P, listO us1 n1) :: (D, listO us2 n2) :: ((z9 ++ [(LL, listO [.int 0 ta, .int 1 tb] 0)]) ++ z)) _ _ _ _ _ _ _ _⟩
    clear hBR
    refine (w_testcmp (w_callE (w_global fn1 cx1 st18 (by k_is) hnd (by decide) (w_cwK cx1 (by k_is) (w_args (w_name 0 fn1 st18 rfl rfl (w_args (w_name 3 fn1 st18 rfl rfl (w_args0 ⟨st18.inK cx1, w_callF ?_⟩)))))))))
    have hWW : (D2, o2) :: (D1, o1) :: (c, o') :: W0 = ((D2, o2) :: (D1, o1) :: (c, o') :: (B.cells ++ ((P, listO us1 n1) :: (D, listO us2 n2) :: z1))) ++ (F.cells ++ ((I, oI) :: (z ++ l))) := by rw [← hW]; simp
    generalize hX : (D2, o2) :: (D1, o1) :: (c, o') :: (B.cells ++ ((P, listO us1 n1) :: (D, listO us2 n2) :: z1)) = X at hWW
    have st19 : S env1 ["flags", "history", "asked", "p", "below", "plain", "deep", "kept", "due", "flag", "over"] g [some (.ref F.f), some (.ref t), some (.ref a), some (.ref q), some (.ref B.f), some (.ref P), some (.ref D), some (.bool σ.2.2.2), some (.ref c), k7, k8] (F.cells ++ (X ++ ((I, oI) :: (z ++ l)))) s₀ s18 := by
      have e0 : S env1 ["flags", "history", "asked", "p", "below", "plain", "deep", "kept", "due", "flag", "over"] g [some (.ref F.f), some (.ref t), some (.ref a), some (.ref q), some (.ref B.f), some (.ref P), some (.ref D), some (.bool σ.2.2.2), some (.ref c), k7, k8] ((D2, o2) :: (D1, o1) :: (c, o') :: W0) s₀ s18 := st18
      rw [hWW] at e0
      exact e0.perm (List.perm_append_comm_assoc _ _ _)
    have mX : ∀ y ∈ X, y ∈ X ++ ((I, oI) :: (z ++ l)) := fun y hy => List.mem_append_left _ hy
    have xD2 : (D2, o2) ∈ X := hX ▸ .head _
    have xD1 : (D1, o1) ∈ X := hX ▸ .tail _ (.head _)
    have xc : (c, o') ∈ X := hX ▸ .tail _ (.tail _ (.head _))
    have xB : ∀ y ∈ B.cells, y ∈ X := fun y hy => hX ▸ .tail _ (.tail _ (.tail _ (List.mem_append_left _ hy)))
    have xP : (P, listO us1 n1) ∈ X := hX ▸ .tail _ (.tail _ (.tail _ (List.mem_append_right _ (.head _))))
    have xD : (D, listO us2 n2) ∈ X := hX ▸ .tail _ (.tail _ (.tail _ (List.mem_append_right _ (.tail _ (.head _)))))
    have mq2 : (q, tupO xs) ∈ X ++ ((I, oI) :: (z ++ l)) := List.mem_append_right _ (.tail _ (List.mem_append_right _ mq))
    refine node_spec (M := LM) (d := d + 5) (u := u + 150) fn1 (cx1.le (by exact Nat.le_succ _) (by exact qfl fun x => qfa1 x (by simp +arith only))) st19 H mq2 hxw (by rw [hxw.length, sizeLine_eq]; exact Nat.le_trans hxl (Nat.le_add_left _ _)) (by decide) fun z2 v s20 hans st20 => ?_
    have hfin : ∀ s', S env1 ["flags", "history", "asked", "p", "below", "plain", "deep", "kept", "due", "flag", "over"] g [some (.ref F.f), some (.ref t), some (.ref a), some (.ref q), some (.ref B.f), some (.ref P), some (.ref D), some (.bool σ.2.2.2), some (.ref c), k7, k8] (F.cells ++ (z2 ++ (X ++ ((I, oI) :: (z ++ l))))) s₀ s' → BR false s' := fun s' st' => by
      refine hB (z2 ++ ((D2, o2) :: (D1, o1) :: (c, o') :: (B.cells ++ z1))) s' (st'.perm (List.Perm.append_left _ ?_))
      rw [← hX]
      have h1 := pmD (I, oI) (P, listO us1 n1) (D, listO us2 n2) (z2 ++ ((D2, o2) :: (D1, o1) :: (c, o') :: B.cells)) z1 (z ++ l)
      have e1 : z2 ++ (((D2, o2) :: (D1, o1) :: (c, o') :: (B.cells ++ ((P, listO us1 n1) :: (D, listO us2 n2) :: z1))) ++ ((I, oI) :: (z ++ l))) = (z2 ++ ((D2, o2) :: (D1, o1) :: (c, o') :: B.cells)) ++ ((P, listO us1 n1) :: (D, listO us2 n2) :: (z1 ++ ((I, oI) :: (z ++ l)))) := by simp
      have e2 : ((z2 ++ ((D2, o2) :: (D1, o1) :: (c, o') :: B.cells)) ++ z1) ++ (z ++ l) = (z2 ++ ((D2, o2) :: (D1, o1) :: (c, o') :: (B.cells ++ z1))) ++ (z ++ l) := by simp
      rw [e1, ← e2]
      exact h1
    have mXX : ∀ y ∈ X, y ∈ F.cells ++ (z2 ++ (X ++ ((I, oI) :: (z ++ l)))) := fun y hy => List.mem_append_right _ (List.mem_append_right _ (List.mem_append_left _ hy))
    have gF : Got s20 F.cells := fun y hy => st20.at (List.mem_append_left _ hy)
    have gB : Got s20 B.cells := fun y hy => st20.at (mXX _ (xB _ hy))
    have hu : A1.units + 4 * 5 + 8 < cLine := by have := cx1.units; exact qft fun x => qfa2 x this (by simp +arith only)
    refine w_ifexp (w_plain (w_name 7 fn1 st20 rfl rfl (w_tbool ?_)))
    cases hkept : σ.2.2.2 with
    | true =>
      refine ite_t rfl (w_name 8 fn1 st20 rfl rfl (.mk ?_))
      cases hans with
      | @root a4 f4 r4 o4 of4 or4 m1 m2 m3 d4 i4 i5 l4 =>
        obtain ⟨e1, e2⟩ := hdue.root hkept rfl
        have e3 : (fun k => decide (k ∈ σ.2.1)) = fun _ : Int => false := by rw [e1]; funext k; simp
        have e4 : (fun k => decide (k ∈ σ.2.2.1)) = fun _ : Int => false := by rw [e2]; funext k; simp
        rw [e3] at hI1
        rw [e4] at hI2
        refine node_ne (p := []) (onx := F.oroot) H HB gF gB (st20.at (List.mem_append_right _ m1)) d4 (st20.at (mXX _ xc)) hd l4 hlow (st20.at (List.mem_append_right _ m2)) i4 (st20.at (List.mem_append_right _ m3)) i5 (st20.at (mXX _ xD1)) hI1 (st20.at (mXX _ xD2)) hI2 (by unfold FO.dictAt; rw [if_pos rfl]) (fun u hu => hdue.below hkept u hu) hdue.deep hu (w_tbool (hfin _ st20))
      | @node v4 y hne hy =>
        obtain ⟨X4, Y4, e1, f1, r1⟩ := H.flags_at hy
        rw [hdue.node hkept hne] at e1
        cases e1
        refine node_ne (p := x) H HB gF gB (gF _ (mem_cells hy (.head _))) (H.node_at hy) (st20.at (mXX _ xc)) hd (H.nlow _ (FO.look_mem hy)) hlow (gF _ (mem_cells hy (.tail _ (.head _)))) f1 (gF _ (mem_cells hy (.tail _ (.tail _ (.head _))))) r1 (st20.at (mXX _ xD1)) hI1 (st20.at (mXX _ xD2)) hI2 (H.dict_of hy) (fun u hu => hdue.below hkept u hu) hdue.deep hu (w_tbool (hfin _ st20))
      | none hne hno =>
        have := look_some H x
        rw [hno, hdue.node hkept hne] at this
        cases this
    | false =>
      obtain ⟨hne, hno⟩ := hdue.gone hkept
      refine ite_f rfl (w_none (.mk ?_))
      cases hans with
      | root => exact absurd rfl hne
      | node _ hy =>
        have := look_some H x
        rw [hy, hno] at this
        cases this
      | none _ _ =>
        exact PySem.EqNone.ne_none_none (w_tbool (hfin _ st20))
  · rintro vs' l' s' ⟨z, k1, k2, k3, k4, k5, k6, k7, k8⟩ st'
    refine w_cons (w_ret (w_bool ?_))
    subst hSR
    change SRet _ _ _ _ _ _ _ _ _ _ _
    exact SRet.intro st' fun st => h z _ st
end
end Mine.Internal
end
section
set_option tactic.hygienic false
open PySem PySem.W PySem.Calls PyProof.Rows
set_option maxRecDepth 100000
namespace Mine.Internal
noncomputable def hStep (τ : AbsT) (c : Cl) : AbsT := if c.1 = 4 then cutT τ c.2.1 else setT τ c.2.1 c.2.2 (c.1 == 1)
noncomputable def histT (h : List Cl) : AbsT := h.foldl hStep (fun x => none)
structure OkH (c : Cl) : Prop where
  ok : OkC c
  kind : c.1 = 0 ∨ c.1 = 1 ∨ c.1 = 4
structure HInv (τ : AbsT) (p : Way) (σ : AlS) : Prop where
  root : p = [] → σ.2.1 = [] ∧ σ.2.2.1 = [] ∧ σ.2.2.2 = true
  node : p ≠ [] → τ p = if σ.2.2.2 = true then some (fun k => decide (k ∈ σ.2.1), fun k => decide (k ∈ σ.2.2.1)) else none
  emp : σ.2.2.2 = false → σ.2.1 = [] ∧ σ.2.2.1 = []
  below : ∀ u, u ≠ [] → τ (p ++ u) = σ.1 u
  fl1 : ∀ k ∈ σ.2.1, k = 0 ∨ k = 1
  fl2 : ∀ k ∈ σ.2.2.1, k = 0 ∨ k = 1
structure TInv (τ : AbsT) : Prop where
  cl : Closed τ
  hd : ∀ u, τ u ≠ none → (∀ z ∈ u, z ∈ LM) ∧ u.length ≤ 5
theorem TInv.step {τ : AbsT} {c : Cl} (h : TInv τ) (hc : OkH c) : TInv (hStep τ c) := by
  unfold hStep
  split
  · refine ⟨h.cl.cut _, fun u hu => h.hd u fun e => hu ?_⟩
    unfold cutT
    rw [e]; split <;> rfl
  · refine ⟨h.cl.set hc.ok.ne _ _, fun u hu => ?_⟩
    rw [setT_eq _ hc.ok.ne] at hu
    simp only [opAt] at hu
    by_cases h1 : u = c.2.1
    · rw [h1]; exact ⟨hc.ok.menu, hc.ok.len⟩
    · rw [if_neg h1] at hu
      by_cases h2 : u ≠ [] ∧ u <+: c.2.1
      · exact ⟨fun z hz => hc.ok.menu z (h2.2.subset hz), Nat.le_trans h2.2.length_le hc.ok.len⟩
      · rw [if_neg h2] at hu
        exact h.hd u hu
theorem take_iff {p v : Way} : v.take p.length = p ↔ p <+: v := ⟨fun h => by rw [← h]; exact List.take_prefix _ _, fun h => (List.prefix_iff_eq_take.mp h).symm⟩
theorem HInv.step {τ : AbsT} {p : Way} {σ : AlS} {c : Cl} (h : HInv τ p σ) (hc : OkH c) : HInv (hStep τ c) p (alStep p σ c) := by
  have hne := hc.ok.ne
  have hfl := hc.ok.flag
  unfold hStep alStep
  simp only [take_iff]
  by_cases h4 : c.1 = 4
  · simp only [h4, true_and, and_true, if_true]
    by_cases h1 : c.2.1 <+: p
    · rw [if_pos h1]
      have hp : p ≠ [] := fun e => hne (List.prefix_nil.mp (e ▸ h1))
      refine ⟨fun e => absurd e hp, fun y => ?_, fun y => ⟨rfl, rfl⟩, fun u hu => ?_, fun k hk => (nomatch hk), fun k hk => (nomatch hk)⟩
      · show cutT τ c.2.1 p = none
        unfold cutT; rw [if_pos (pre_iff.mpr h1)]
      · show cutT τ c.2.1 (p ++ u) = none
        unfold cutT; rw [if_pos (pre_iff.mpr (h1.trans (List.prefix_append _ _)))]
    · rw [if_neg h1]
      have hnode : cutT τ c.2.1 p = τ p := by unfold cutT; rw [if_neg (fun q => h1 (pre_iff.mp q))]
      by_cases h2 : p <+: c.2.1
      · rw [if_pos h2]
        obtain ⟨r, hr⟩ := h2
        refine ⟨h.root, fun hp => hnode.trans (h.node hp), h.emp, fun u hu => ?_, h.fl1, h.fl2⟩
        have e : c.2.1.drop p.length = r := by rw [← hr]; simp
        show cutT τ c.2.1 (p ++ u) = cutT σ.1 (c.2.1.drop p.length) u
        rw [e]
        unfold cutT
        rw [h.below u hu]
        have : c.2.1.isPrefixOf (p ++ u) = r.isPrefixOf u := by
          rw [Bool.eq_iff_iff, pre_iff, pre_iff, ← hr]
          exact List.prefix_append_right_inj p
        rw [this]
      · have h2' : ¬ (4 : Int) = 4 ∨ True := .inr trivial
        rw [if_neg h2, if_neg h2]
        refine ⟨h.root, fun hp => hnode.trans (h.node hp), h.emp, fun u hu => ?_, h.fl1, h.fl2⟩
        show cutT τ c.2.1 (p ++ u) = σ.1 u
        unfold cutT
        rw [if_neg (fun q => ?_), h.below u hu]
        rcases List.prefix_or_prefix_of_prefix (pre_iff.mp q) (List.prefix_append p u) with q | q
        · exact h1 q
        · exact h2 q
  · simp only [h4, false_and, and_false, if_false]
    generalize hr : (c.1 == 1) = rec
    rw [setT_eq _ hne]
    by_cases h2 : p <+: c.2.1
    · rw [if_pos h2]
      obtain ⟨r, hr2⟩ := h2
      have e : c.2.1.drop p.length = r := by rw [← hr2]; simp
      rw [e]
      by_cases h3 : r = []
      · rw [if_neg (fun q => q h3)]
        have hv : c.2.1 = p := by rw [← hr2, h3, List.append_nil]
        have hp : p ≠ [] := hv ▸ hne
        have hb : ∀ u, u ≠ [] → opAt c.2.1 c.2.2 rec (p ++ u) (τ (p ++ u)) = σ.1 u := fun u hu => by
          unfold opAt
          rw [hv, if_neg (fun q => hu (by simpa using q)), if_neg (fun q => hu (by have := q.2.length_le; rw [List.length_append] at this; exact List.eq_nil_of_length_eq_zero (by exact Nat.le_antisymm (by exact Nat.le_of_add_le_add_left this) (by exact Nat.zero_le _))))]
          exact h.below u hu
        have hn : opAt c.2.1 c.2.2 rec p (τ p) = some (addR rec c.2.2 (fun k => decide (k ∈ σ.2.1), fun k => decide (k ∈ σ.2.2.1))) := by
          unfold opAt
          rw [if_pos hv.symm, h.node hp]
          congr 2
          cases hk : σ.2.2.2 with
          | true => rfl
          | false =>
            obtain ⟨e1, e2⟩ := h.emp hk
            rw [e1, e2]
            simp [e0]
        have ha : ∀ (ks : List Int), addF (fun k => decide (k ∈ ks)) c.2.2 = fun k => decide (k ∈ ks ++ [c.2.2]) := fun ks => by
          funext k
          unfold addF
          simp [List.mem_append]
        by_cases h5 : c.1 = 1
        · rw [if_pos h5]
          have hrec : rec = true := by rw [← hr, h5]; rfl
          refine ⟨fun q => absurd q hp, fun y => ?_, fun q => (nomatch q), hb, h.fl1, fun k hk => ?_⟩
          · show opAt c.2.1 c.2.2 rec p (τ p) = some (fun k => decide (k ∈ σ.2.1), fun k => decide (k ∈ σ.2.2.1 ++ [c.2.2]))
            rw [hn, hrec, ← ha]; rfl
          · rcases List.mem_append.mp hk with hk | hk
            · exact h.fl2 k hk
            · rw [List.mem_singleton.mp hk]; exact hfl
        · rw [if_neg h5]
          have hrec : rec = false := by rw [← hr]; exact beq_eq_false_iff_ne.mpr h5
          refine ⟨fun q => absurd q hp, fun y => ?_, fun q => (nomatch q), hb, fun k hk => ?_, h.fl2⟩
          · show opAt c.2.1 c.2.2 rec p (τ p) = some (fun k => decide (k ∈ σ.2.1 ++ [c.2.2]), fun k => decide (k ∈ σ.2.2.1))
            rw [hn, hrec, ← ha]; rfl
          · rcases List.mem_append.mp hk with hk | hk
            · exact h.fl1 k hk
            · rw [List.mem_singleton.mp hk]; exact hfl
      · rw [if_pos h3]
        refine ⟨fun hp => ⟨(h.root hp).1, (h.root hp).2.1, rfl⟩, fun hp => ?_, fun q => (nomatch q), fun u hu => ?_, h.fl1, h.fl2⟩
        · show opAt c.2.1 c.2.2 rec p (τ p) = some (fun k => decide (k ∈ σ.2.1), fun k => decide (k ∈ σ.2.2.1))
          unfold opAt
          rw [if_neg (fun q => h3 (by rw [← hr2] at q; simpa using q)), if_pos ⟨hp, by rw [← hr2]; exact List.prefix_append _ _⟩, h.node hp]
          cases hk : σ.2.2.2 with
          | true => rfl
          | false =>
            obtain ⟨e1, e2⟩ := h.emp hk
            rw [e1, e2]
            simp [e0]
        · show opAt c.2.1 c.2.2 rec (p ++ u) (τ (p ++ u)) = setT σ.1 r c.2.2 rec u
          rw [setT_eq _ h3, h.below u hu]
          unfold opAt
          have e1 : (p ++ u = c.2.1) ↔ u = r := by rw [← hr2]; exact List.append_right_inj p
          have e2 : (p ++ u ≠ [] ∧ p ++ u <+: c.2.1) ↔ (u ≠ [] ∧ u <+: r) := by
            rw [← hr2, List.prefix_append_right_inj]
            exact ⟨fun q => ⟨hu, q.2⟩, fun q => ⟨fun z => hu (List.append_eq_nil_iff.mp z).2, q.2⟩⟩
          simp only [e1, e2]
    · rw [if_neg h2]
      have hb : ∀ u, opAt c.2.1 c.2.2 rec (p ++ u) (τ (p ++ u)) = τ (p ++ u) := fun u => by
        unfold opAt
        rw [if_neg (fun q : p ++ u = c.2.1 => h2 (by rw [← q]; exact List.prefix_append _ _)), if_neg (fun q => h2 ((List.prefix_append _ _).trans q.2))]
      refine ⟨h.root, fun hp => ?_, h.emp, fun u hu => (hb u).trans (h.below u hu), h.fl1, h.fl2⟩
      have := hb []
      rw [List.append_nil] at this
      exact this.trans (h.node hp)
theorem hInv_run : ∀ (h : List Cl) (τ : AbsT) (p : Way) (σ : AlS), HInv τ p σ → (∀ c ∈ h, OkH c) → HInv (h.foldl hStep τ) p (h.foldl (alStep p) σ)
  | [], _, _, _, i, _ => i
  | c :: h, _, p, _, i, hc => hInv_run h _ p _ (i.step (hc c (.head _))) fun x hx => hc x (.tail _ hx)
theorem tInv_run : ∀ (h : List Cl) (τ : AbsT), TInv τ → (∀ c ∈ h, OkH c) → TInv (h.foldl hStep τ)
  | [], _, i, _ => i
  | c :: h, _, i, hc => tInv_run h _ (i.step (hc c (.head _))) fun x hx => hc x (.tail _ hx)
theorem alLen_run (p : Way) : ∀ (h : List Cl) (σ : AlS) (n : Nat), σ.2.1.length ≤ n ∧ σ.2.2.1.length ≤ n → (h.foldl (alStep p) σ).2.1.length ≤ n + h.length ∧ (h.foldl (alStep p) σ).2.2.1.length ≤ n + h.length
  | [], _, _, i => i
  | c :: h, σ, n, i => by
    have := alLen_run p h _ (n + 1) (alStep_len p σ c n i)
    rw [List.length_cons]
    show (h.foldl (alStep p) (alStep p σ c)).2.1.length ≤ _ ∧ (h.foldl (alStep p) (alStep p σ c)).2.2.1.length ≤ _
    exact ⟨(by exact Nat.le_trans this.1 (Nat.le_of_eq (Nat.add_right_comm _ _ _))), (by exact Nat.le_trans this.2 (Nat.le_of_eq (Nat.add_right_comm _ _ _)))⟩
theorem over_iff {τ : AbsT} (h : TInv τ) {p : Way} (hp : p ≠ []) (f : Int) : isW τ (p.dropLast ++ [("b" : Str)]) f = true ↔ ∃ u, u ≠ [] ∧ u <+: p.dropLast ∧ dp τ u f = true := by
  rw [isW_iff h.cl]
  have hn : ∀ v, τ (v ++ [("b" : Str)]) = none := fun v => by
    cases e : τ (v ++ [("b" : Str)]) with
    | none => rfl
    | some x =>
      have := (h.hd (v ++ [("b" : Str)]) (by rw [e]; exact fun q => nomatch q)).1 "b" (by simp)
      exact absurd this (by decide +kernel)
  constructor
  · rintro (⟨u, h1, h2, h3⟩ | ⟨_, h2⟩)
    · rcases List.prefix_concat_iff.mp h2 with q | q
      · rw [q] at h3; unfold dp at h3; rw [hn] at h3; cases h3
      · exact ⟨u, h1, q, h3⟩
    · unfold ft at h2; rw [hn] at h2; cases h2
  · rintro ⟨u, h1, h2, h3⟩
    exact .inl ⟨u, h1, h2.trans (List.prefix_append _ _), h3⟩
theorem isB_iff {τ : AbsT} (h : TInv τ) (p : Way) (f : Int) : isW τ (p ++ [("b" : Str)]) f = true ↔ ∃ u, u ≠ [] ∧ u <+: p ∧ dp τ u f = true := by
  have := over_iff h (p := p ++ [("b" : Str)]) (by simp) f
  rwa [List.dropLast_concat] at this
theorem due_ok {h : List Cl} (hc : ∀ c ∈ h, OkH c) (hl : h.length ≤ 500) (p : Way) : DueOk (histT h) p (alS p h) := by
  have ti : TInv (histT h) := tInv_run h _ ⟨Closed.nil, fun u hu => absurd rfl hu⟩ hc
  have hi : HInv (histT h) p (alS p h) := hInv_run h _ p _ ⟨fun hp => ⟨rfl, rfl, decide_eq_true hp⟩, fun hp => by rw [if_neg (by simp [hp])], fun x => ⟨rfl, rfl⟩, fun x x => rfl, fun k hk => (nomatch hk), fun k hk => (nomatch hk)⟩ hc
  have hz := alLen_run p h (fun x => none, [], [], decide (p = [])) 0 ⟨Nat.le_refl _, Nat.le_refl _⟩
  generalize histT h = τ at ti hi ⊢
  have hlen : (alS p h).2.1.length ≤ 500 ∧ (alS p h).2.2.1.length ≤ 500 := ⟨by have : (alS p h).2.1.length ≤ 0 + h.length := hz.1; exact qfl fun x => qfa3 x this hl (by simp +arith only), by have : (alS p h).2.2.1.length ≤ 0 + h.length := hz.2; exact qfl fun x => qfa3 x this hl (by simp +arith only)⟩
  clear hz
  generalize alS p h = σ at hi hlen ⊢
  have hd : ∀ f, p ≠ [] → dp τ p f = decide (f ∈ σ.2.2.1) := fun f hp => by
    unfold dp
    rw [hi.node hp]
    cases hk : σ.2.2.2 with
    | true => rfl
    | false => rw [(hi.emp hk).2]; simp
  have hf : ∀ f, p ≠ [] → ft τ p f = decide (f ∈ σ.2.1) := fun f hp => by
    unfold ft
    rw [hi.node hp]
    cases hk : σ.2.2.2 with
    | true => rfl
    | false => rw [(hi.emp hk).1]; simp
  have hpre : p ≠ [] → ∀ u, u <+: p ↔ u = p ∨ u <+: p.dropLast := fun hp u => by
    obtain ⟨q, k, rfl⟩ : ∃ q k, p = q ++ [k] := ⟨p.dropLast, p.getLast hp, (List.dropLast_concat_getLast hp).symm⟩
    rw [List.dropLast_concat, List.prefix_concat_iff]
  have hb : ∀ f, isW τ (p ++ [("b" : Str)]) f = (overT τ p f || decide (f ∈ σ.2.2.1)) := fun f => by
    rw [Bool.eq_iff_iff, isB_iff ti, Bool.or_eq_true, decide_eq_true_eq]
    unfold overT
    by_cases hp : p = []
    · subst hp
      rw [(hi.root rfl).2.1]
      simp only [ne_eq, not_true_eq_false, decide_false, Bool.false_and, Bool.false_eq_true, List.not_mem_nil, or_self, iff_false, not_exists, not_and]
      exact fun u h1 h2 => absurd (List.prefix_nil.mp h2) h1
    · rw [Bool.and_eq_true, over_iff ti hp]
      simp only [hpre hp, decide_eq_true_eq]
      constructor
      · rintro ⟨u, h1, rfl | h2, h3⟩
        · rw [hd f hp] at h3; exact .inr (of_decide_eq_true h3)
        · exact .inl ⟨hp, u, h1, h2, h3⟩
      · rintro (⟨_, u, h1, h2, h3⟩ | h3)
        · exact ⟨u, h1, .inr h2, h3⟩
        · exact ⟨p, hp, .inl rfl, by rw [hd f hp]; exact decide_eq_true h3⟩
  refine ⟨fun y hp => ⟨(hi.root hp).1, (hi.root hp).2.1⟩, fun hk hp => by rw [hi.node hp, if_pos hk], fun y u hu => hi.below u hu, fun hk => ?_, fun u hu => ?_, hi.fl1, hi.fl2, hlen, fun f y => ?_, fun f x => hb f⟩
  · have hp : p ≠ [] := fun hp => by rw [(hi.root hp).2.2] at hk; cases hk
    exact ⟨hp, by rw [hi.node hp, hk]; rfl⟩
  · by_cases h0 : u = []
    · rw [h0]; exact Nat.zero_le _
    · rw [← hi.below u h0] at hu
      have := (ti.hd (p ++ u) (fun e => by rw [e] at hu; cases hu)).2
      rw [List.length_append] at this
      exact Nat.le_trans (Nat.le_add_left _ _) this
  · have e : isW τ p f = (isW τ (p ++ [("b" : Str)]) f || (decide (p ≠ []) && ft τ p f)) := by
      rw [Bool.eq_iff_iff, isW_iff ti.cl, Bool.or_eq_true, isB_iff ti, Bool.and_eq_true, decide_eq_true_eq]
    rw [e, hb f]
    by_cases hp : p = []
    · rw [(hi.root hp).1]; simp [hp]
    · rw [hf f hp]
      simp only [List.mem_append, ne_eq, hp, not_false_eq_true, decide_true, Bool.true_and]
      cases overT τ p f <;> by_cases h1 : f ∈ σ.2.1 <;> by_cases h2 : f ∈ σ.2.2.1 <;> simp [h1, h2]
end Mine.Internal
end
section
set_option tactic.hygienic false
open PySem PySem.W PySem.Calls PyProof.Rows
set_option maxRecDepth 100000
namespace Mine.Internal
noncomputable abbrev LS := List Cl × List (Way × Int) × List Way
noncomputable def pres (way : Way) : List Way := (List.range (way.length + 1)).map way.take
noncomputable def fin0 (wt : List (Way × Int)) : List Cl := wt.map fun p => (0, p.1, p.2)
noncomputable def stepH (h : List Cl) (wt : List (Way × Int)) (c : Cl) : List Cl := if c.1 < 2 then h ++ [c] else if c.1 = 2 then h else if c.1 = 3 then h ++ fin0 wt else if c.1 = 4 then h ++ [c] else h
noncomputable def stepW (wt : List (Way × Int)) (c : Cl) : List (Way × Int) := if c.1 = 2 then wt ++ [c.2] else if c.1 = 3 then [] else wt
noncomputable def stepQ (ak : List Way) (way : Way) : List Way := ak ++ (pres way).filter fun p => !decide (p ∈ ak)
noncomputable def stepL (σ : LS) (c : Cl) : LS := (stepH σ.1 σ.2.1 c, stepW σ.2.1 c, stepQ σ.2.2 c.2.1)
noncomputable def runL (cs : List Cl) : LS := cs.foldl stepL ([], [], [])
noncomputable def dd (ws : List (Way × Int)) : List (Way × Int) := ws.foldl addP []
structure OkP (p : Way × Int) : Prop where
  ne : p.1 ≠ []
  menu : ∀ z ∈ p.1, z ∈ LM
  len : p.1.length ≤ 5
  flag : p.2 = 0 ∨ p.2 = 1
structure OkL (σ : LS) (n : Nat) : Prop where
  h : ∀ c ∈ σ.1, OkH c
  w : ∀ p ∈ σ.2.1, OkP p
  q : ∀ x ∈ σ.2.2, (∀ k ∈ x, k ∈ LM) ∧ x.length ≤ 5
  lh : σ.1.length + σ.2.1.length ≤ n
  lq : σ.2.2.length ≤ 6 * n
theorem pres_ok {way : Way} (hm : ∀ z ∈ way, z ∈ LM) (hl : way.length ≤ 5) : ∀ x ∈ pres way, (∀ k ∈ x, k ∈ LM) ∧ x.length ≤ 5 := fun x hx => by
  obtain ⟨k, _, rfl⟩ := List.mem_map.mp hx
  exact ⟨fun z hz => hm z (List.mem_of_mem_take hz), by rw [List.length_take]; lia⟩
theorem OkL.step {σ : LS} {n : Nat} {c : Cl} (o : OkL σ n) (hc : OkC c) : OkL (stepL σ c) (n + 1) := by
  have hk := hc.kind
  have hl := o.lh
  refine ⟨?_, ?_, ?_, ?_, ?_⟩
  · show ∀ x ∈ stepH σ.1 σ.2.1 c, OkH x
    have snoc : (c.1 = 0 ∨ c.1 = 1 ∨ c.1 = 4) → ∀ x ∈ σ.1 ++ [c], OkH x := fun z x hx => by
      rcases List.mem_append.mp hx with hx | hx
      · exact o.h x hx
      · rw [List.mem_singleton.mp hx]; exact ⟨hc, z⟩
    unfold stepH
    split
    · exact snoc (by lia)
    · split
      · exact o.h
      · split
        · intro x hx
          rcases List.mem_append.mp hx with hx | hx
          · exact o.h x hx
          · obtain ⟨p, hp, rfl⟩ := List.mem_map.mp hx
            have op := o.w p hp
            exact ⟨⟨op.flag, op.ne, op.menu, op.len, ⟨Int.le_refl 0, (by show (0 : Int) < 6; decide)⟩⟩, .inl rfl⟩
        · split
          · exact snoc (by lia)
          · exact o.h
  · show ∀ x ∈ stepW σ.2.1 c, OkP x
    unfold stepW
    split
    · intro x hx
      rcases List.mem_append.mp hx with hx | hx
      · exact o.w x hx
      · rw [List.mem_singleton.mp hx]; exact ⟨hc.ne, hc.menu, hc.len, hc.flag⟩
    · split
      · exact fun x hx => (nomatch hx)
      · exact o.w
  · show ∀ x ∈ stepQ σ.2.2 c.2.1, _
    intro x hx
    rcases List.mem_append.mp hx with hx | hx
    · exact o.q x hx
    · exact pres_ok hc.menu hc.len x (List.mem_filter.mp hx).1
  · show (stepH σ.1 σ.2.1 c).length + (stepW σ.2.1 c).length ≤ n + 1
    have e : (fin0 σ.2.1).length = σ.2.1.length := by unfold fin0; rw [List.length_map]
    unfold stepH stepW
    by_cases h1 : c.1 < 2
    · have h2 : ¬ c.1 = 2 := by lia
      have h3 : ¬ c.1 = 3 := by lia
      rw [if_pos h1, if_neg h2, if_neg h3, List.length_append, List.length_singleton]; exact qfl fun x => qfa2 x hl (by simp +arith only)
    · by_cases h2 : c.1 = 2
      · rw [if_neg h1, if_pos h2, if_pos h2, List.length_append, List.length_singleton]; exact Nat.lt_succ_of_le hl
      · by_cases h3 : c.1 = 3
        · rw [if_neg h1, if_neg h2, if_neg h2, if_pos h3, if_pos h3, List.length_append, e, List.length_nil]; exact Nat.le_succ_of_le hl
        · rw [if_neg h1, if_neg h2, if_neg h2, if_neg h3, if_neg h3]
          split
          · rw [List.length_append, List.length_singleton]; exact qfl fun x => qfa2 x hl (by simp +arith only)
          · exact Nat.le_succ_of_le hl
  · show (stepQ σ.2.2 c.2.1).length ≤ 6 * (n + 1)
    unfold stepQ
    rw [List.length_append]
    have h1 := List.length_filter_le (fun p => !decide (p ∈ σ.2.2)) (pres c.2.1)
    have h2 : (pres c.2.1).length = c.2.1.length + 1 := by unfold pres; rw [List.length_map, List.length_range]
    have h3 := hc.len
    have h4 := o.lq
    exact qfl fun x => qfa5 x h4 h1 (Nat.le_of_eq h2) h3 (by simp +arith only)
theorem OkL.run : ∀ (cs : List Cl) (σ : LS) (n : Nat), OkL σ n → (∀ c ∈ cs, OkC c) → OkL (cs.foldl stepL σ) (n + cs.length)
  | [], _, _, o, _ => o
  | c :: cs, σ, n, o, h => by
    have := OkL.run cs _ _ (o.step (h c (.head _))) fun x hx => h x (.tail _ hx)
    rw [List.length_cons, show n + (cs.length + 1) = n + 1 + cs.length from by exact (Nat.succ_add _ _).symm]
    exact this
theorem okL_run {cs : List Cl} (h : ∀ c ∈ cs, OkC c) : OkL (runL cs) cs.length := by
  have := OkL.run cs ([], [], []) 0 ⟨fun c hc => (nomatch hc), fun c hc => (nomatch hc), fun c hc => (nomatch hc), Nat.le_refl _, Nat.le_refl _⟩ h
  rwa [Nat.zero_add] at this
theorem histT_snoc (h : List Cl) (c : Cl) : histT (h ++ [c]) = hStep (histT h) c := by unfold histT; rw [List.foldl_append]; rfl
theorem histT_fin (h : List Cl) : ∀ (wt : List (Way × Int)), histT (h ++ fin0 wt) = finT (histT h) wt := by
  intro wt
  unfold histT finT fin0
  rw [List.foldl_append, List.foldl_map]
  rfl
theorem dd_snoc (ws : List (Way × Int)) (p : Way × Int) : dd (ws ++ [p]) = addP (dd ws) p := by unfold dd; rw [List.foldl_append]; rfl
theorem mem_addP {ps : List (Way × Int)} {p x : Way × Int} : x ∈ addP ps p ↔ x ∈ ps ∨ x = p := by
  unfold addP
  split
  · rename_i h
    exact ⟨.inl, fun q => q.elim id fun e => e ▸ h⟩
  · simp
theorem dd_facts : ∀ (n : Nat) (ws : List (Way × Int)), ws.length = n → (∀ x, x ∈ dd ws ↔ x ∈ ws) ∧ (dd ws).Nodup ∧ (dd ws).length ≤ ws.length
  | 0, ws, h => by
    rw [List.eq_nil_of_length_eq_zero h]
    exact ⟨fun x => Iff.rfl, List.nodup_nil, Nat.le_refl _⟩
  | n + 1, ws, h => by
    obtain ⟨q, p, rfl⟩ : ∃ q p, ws = q ++ [p] := ⟨ws.dropLast, ws.getLast (by intro e; rw [e] at h; cases h), (List.dropLast_concat_getLast _).symm⟩
    obtain ⟨h1, h2, h3⟩ := dd_facts n q (by rw [List.length_append, List.length_singleton] at h; exact (by exact Nat.add_right_cancel h))
    rw [dd_snoc]
    refine ⟨fun x => by rw [mem_addP, h1, List.mem_append, List.mem_singleton], ?_, ?_⟩
    · unfold addP
      split
      · exact h2
      · rename_i hn
        rw [List.nodup_append]
        exact ⟨h2, (List.nodup_cons.mpr ⟨List.not_mem_nil, List.nodup_nil⟩), fun a ha b hb => by rw [List.mem_singleton.mp hb]; exact fun e => hn (e ▸ ha)⟩
    · unfold addP
      rw [List.length_append, List.length_singleton]
      split
      · exact Nat.le_succ_of_le h3
      · rw [List.length_append, List.length_singleton]; exact Nat.lt_succ_of_le h3
theorem mem_dd {ws : List (Way × Int)} {x : Way × Int} : x ∈ dd ws ↔ x ∈ ws := (dd_facts _ ws rfl).1 x
theorem dd_nodup (ws : List (Way × Int)) : (dd ws).Nodup := (dd_facts _ ws rfl).2.1
theorem dd_len (ws : List (Way × Int)) : (dd ws).length ≤ ws.length := (dd_facts _ ws rfl).2.2
theorem setT_twice (τ : AbsT) {v : Way} (hv : v ≠ []) (f : Int) (r : Bool) : setT (setT τ v f r) v f r = setT τ v f r := by
  rw [setT_eq _ hv, setT_eq _ hv]
  funext u
  have ha : ∀ X : Int → Bool, addF (addF X f) f = addF X f := fun X => by
    funext k; unfold addF
    cases X k <;> cases decide (k = f) <;> rfl
  unfold opAt addR
  by_cases h1 : u = v
  · simp only [if_pos h1]
    cases r <;> simp [ha]
  · simp only [if_neg h1]
    by_cases h2 : u ≠ [] ∧ u <+: v
    · simp only [if_pos h2]; simp
    · simp only [if_neg h2]
theorem finT_snoc (τ : AbsT) (ws : List (Way × Int)) (p : Way × Int) : finT τ (ws ++ [p]) = setT (finT τ ws) p.1 p.2 false := by unfold finT; rw [List.foldl_append]; rfl
theorem finT_in (τ : AbsT) {ws : List (Way × Int)} {p : Way × Int} (hp : p ∈ ws) (h : ∀ x ∈ ws, x.1 ≠ []) : setT (finT τ ws) p.1 p.2 false = finT τ ws := by
  obtain ⟨a, b, rfl⟩ := List.append_of_mem hp
  have e : (a ++ p :: b).Perm ((a ++ b) ++ [p]) := by
    have := List.perm_middle (a := p) (l₁ := a) (l₂ := b)
    exact this.trans (List.perm_append_singleton p (a ++ b)).symm
  rw [finT_perm τ e (fun x hx => h x (e.mem_iff.mpr hx)), finT_snoc, setT_twice _ (h p hp)]
theorem finT_dd (τ : AbsT) : ∀ (n : Nat) (ws : List (Way × Int)), ws.length = n → (∀ x ∈ ws, x.1 ≠ []) → finT τ (dd ws) = finT τ ws
  | 0, ws, h, _ => by rw [List.eq_nil_of_length_eq_zero h]; rfl
  | n + 1, ws, h, hne => by
    obtain ⟨q, p, rfl⟩ : ∃ q p, ws = q ++ [p] := ⟨ws.dropLast, ws.getLast (by intro e; rw [e] at h; cases h), (List.dropLast_concat_getLast _).symm⟩
    have hq : ∀ x ∈ q, x.1 ≠ [] := fun x hx => hne x (List.mem_append_left _ hx)
    have ih := finT_dd τ n q (by rw [List.length_append, List.length_singleton] at h; exact (by exact Nat.add_right_cancel h)) hq
    rw [dd_snoc, finT_snoc]
    unfold addP
    split
    · rename_i hm
      rw [ih, finT_in τ (mem_dd.mp hm) hq]
    · rw [finT_snoc, ih]
end Mine.Internal
end
section
set_option tactic.hygienic false
open PySem PySem.W PySem.Calls PyProof.Rows
set_option maxRecDepth 100000
namespace Mine.Internal
section
variable {prog : Program} {w : World} {A : Around} {E : Value → Shared → Prop} {env env2 : Env} {ns : List Str} {h₀ : Heap} {vs : List (Option Value)} {l : Lg} {s₀ s : Shared} {scope : Scope}
theorem w_compRange {elt iter : Expr} {ifs : List Expr} {pos px : Pos} {x : Str} {RR : Value → Addr → Result → Shared → Prop} {t : Addr} {n : Nat} {t0 t1 t2 : Tok} (hh : A.handled = none) (gl : Gl env2) (hk : scope.kind = .function) (hx : scope.names.lookup x = some .local) (hcell : ∀ C, cellL (C + 1) scope.names = [])
    (J : Nat → List Value → Lg → Prop) (st : S env ns h₀ vs l s₀ s) (hm : (t, { cls := .type "range", data := .fields #[.int 0 t1, .int n t0, .int 1 t2] }) ∈ l) (h0 : J 0 [] l) (hn : n ≤ 2 ^ 20)
    (turn : ∀ cenv (i : Nat) tk ys z l' s' E', (∃ C, cenv = cE scope (closL env2.cells scope.names []) env2 C) → i < n → J i ys l' → Rd prog w cenv z x (.int i tk) → S env ns h₀ vs (z ++ l') s₀ s' →
      W (model prog w) A (testsOf ifs cenv) (fun ok s3 => if ok = true then W (model prog w) A (eval elt cenv) (fun y s4 => ∃ l'', S env ns h₀ vs (z ++ l'') s₀ s4 ∧ J (i + 1) (ys ++ [y]) l'') E' s3
        else ∃ l'', S env ns h₀ vs (z ++ l'') s₀ s3 ∧ J (i + 1) ys l'') E' s')
    (done : ∀ ys k D C oC m l' s', J n ys l' → ys.length ≤ n → LCg.NsObj oC m → S env ns h₀ vs ((C, oC) :: (D, listO ys k) :: l') s₀ s' → RR (.ref D) C (.ok .next) s')
    (hb : autoParam ((x == ("__debug__" : Str)) = false) tDec) :
    W (model prog w) A (pyIter (.ref t)) (CompRest prog w A env2 E elt [⟨.Name x px, iter, ifs, 0⟩] scope pos RR) E s := by
  refine .mk (wpAny_pyIter_range (st.at hm) (range_small (by exact Nat.le_trans hn (Nat.le_add_left _ _))) ?_)
  rw [rangeSize_n]
  refine g_compOne FL (fun C v fr => Rd prog w (cE scope (closL env2.cells scope.names []) env2 C) fr x v) J (iter_range hh n) (st.push (rgO 0 n) rfl) rfl h0 hn (fun s Q E ho h hQ => wpAny_pyIter_rangeiter (x := (0 : Nat)) (left := (n : Int) - (0 : Nat)) (step := 1) ho hQ) (fun x x x x x x x => trivial)
    (fun C => by rw [hcell]; exact FL.start) (fun C fr h => h.end_) (fun C i v ys fr l' z s' E' x hv hJ hfr st' => (w_asgloc gl hk hx hfr st' hb).out) (fun C i v ys fr l' z s' E' hi hv hJ hfx st' => ?_) done
  obtain ⟨tk, rfl⟩ := hv
  have st2 : S env ns h₀ vs ((z ++ fr) ++ l') s₀ s' := by rw [List.append_assoc]; exact st'
  refine wpAny_mono (turn _ i tk ys (z ++ fr) l' s' E' ⟨C, rfl⟩ hi hJ (hfx.mono fun c hc => List.mem_append_right _ hc) st2).out (fun ok s3 h3 => ?_) fun u u e => e
  cases ok with
  | true =>
    rw [if_pos rfl] at h3 ⊢
    refine wpAny_mono h3.out (fun y s4 h4 => ?_) fun x x e => e
    obtain ⟨l'', st4, hJ4⟩ := h4
    exact ⟨l'', by rw [← List.append_assoc]; exact st4, hJ4⟩
  | false =>
    rw [if_neg Bool.false_ne_true] at h3 ⊢
    obtain ⟨l'', st4, hJ4⟩ := h3
    exact ⟨l'', by rw [← List.append_assoc]; exact st4, hJ4⟩
end
end Mine.Internal
end
section
set_option tactic.hygienic false
open PySem PySem.W PySem.Calls PyProof.Rows PySem.Spec
set_option maxRecDepth 100000
namespace Mine.Internal
structure SOk (prog : Program) (w : World) (A : Around) (s : Shared) (κ : SortKind) (rk : Value → Nat) (D : List Keyed) : Prop where
  cmp : ∀ p ∈ D, ∀ q ∈ D, ∀ (E : Value → Shared → Prop) (Q : Bool → Shared → Prop), Q (decide (rk p.1 < rk q.1)) s → wpAny (model prog w) A (keyLt' κ p.1 q.1) Q E s
  nd : D.Pairwise fun p q => rk p.1 ≠ rk q.1
structure SB (κ : SortKind) (D : List Keyed) (st : SortSt) : Prop where
  kind : kindOf st = κ
  failed : failedOf st = none
  perm : (arrOf st).toList.Perm D
noncomputable def RR (rk : Value → Nat) (xs : Array Keyed) (i : Nat) : Nat := match xs[i]? with
  | some p => rk p.1
  | none => 0
noncomputable def Up (rk : Value → Nat) (xs : Array Keyed) (lo hi : Nat) : Prop := ∀ i, lo ≤ i → i + 1 < hi → RR rk xs i < RR rk xs (i + 1)
section
variable {prog : Program} {w : World} {A : Around} {E : Value → Shared → Prop} {s : Shared} {κ : SortKind} {rk : Value → Nat} {D : List Keyed} {st : SortSt} {xs ys : Array Keyed}
theorem SB.size (B : SB κ D st) : (arrOf st).size = D.length := by rw [← Array.length_toList]; exact B.perm.length_eq
theorem SB.set (B : SB κ D st) (h : xs.Perm (arrOf st)) : SB κ D (setArr st xs) := ⟨B.kind, B.failed, (Array.perm_iff_toList_perm.mp h).trans B.perm⟩
theorem RR_congr {i j : Nat} (h : xs[i]? = ys[j]?) : RR rk xs i = RR rk ys j := by unfold RR; rw [h]
theorem Up.lt {lo hi : Nat} (h : Up rk xs lo hi) : ∀ d i, lo ≤ i → i + d + 1 < hi → RR rk xs i < RR rk xs (i + d + 1)
  | 0, i, h1, h2 => h i h1 h2
  | d + 1, i, h1, h2 => Nat.lt_trans (h.lt d i h1 (by exact Nat.le_of_lt h2)) (h (i + d + 1) (by exact qfl fun x => qfa2 x h1 (by simp +arith only)) h2)
theorem Up.lt' {lo hi i j : Nat} (h : Up rk xs lo hi) (h1 : lo ≤ i) (h2 : i < j) (h3 : j < hi) : RR rk xs i < RR rk xs j := by
  have := h.lt (j - i - 1) i h1 (oGapL h2 h3)
  rwa [oGap h2] at this
theorem SOk.ne (O : SOk prog w A s κ rk D) (B : SB κ D st) {i j : Nat} (hij : i < j) (hj : j < D.length) : RR rk (arrOf st) i ≠ RR rk (arrOf st) j := by
  have nd : (arrOf st).toList.Pairwise fun p q => rk p.1 ≠ rk q.1 := (B.perm.pairwise_iff fun h => Ne.symm h).mpr O.nd
  have hj' : j < (arrOf st).size := by rw [B.size]; exact hj
  have := List.pairwise_iff_getElem.mp nd i j (by rw [Array.length_toList]; exact Nat.lt_trans hij hj') (by rw [Array.length_toList]; exact hj') hij
  unfold RR
  rw [getElem?_pos (arrOf st) i (Nat.lt_trans hij hj'), getElem?_pos (arrOf st) j hj']
  exact this
theorem lt_ok (O : SOk prog w A s κ rk D) {p q : Keyed} {Q : Option Bool → SortSt → Prop} (hp : p ∈ D) (hq : q ∈ D) (hk : kindOf st = κ) (h : Q (some (decide (rk p.1 < rk q.1))) st) : wpS (model prog w) A E s (lt' p q) Q st := by
  rw [lt'_eq]
  refine wpS_bind (wpS_get ?_)
  rw [hk]
  refine wpS_bind (wpS_lift (wpAny_attempt (O.cmp p hp q hq _ _ ⟨rfl, ?_⟩)))
  exact wpS_pure h
theorem elem_ok {i : Nat} {Q : Keyed → SortSt → Prop} {M : Model} (hi : i < xs.size) (h : Q xs[i] st) : wpS M A E s (elem' xs i) Q st := by
  rw [elem'_eq, getElem?_pos xs i hi]
  exact wpS_pure h
theorem ltAt_ok (O : SOk prog w A s κ rk D) (B : SB κ D st) {i j : Nat} {Q : Option Bool → SortSt → Prop} (hi : i < D.length) (hj : j < D.length) (h : Q (some (decide (RR rk (arrOf st) i < RR rk (arrOf st) j))) st) :
    wpS (model prog w) A E s (ltAt' i j) Q st := by
  rw [ltAt'_eq]
  have hi' : i < (arrOf st).size := by rw [B.size]; exact hi
  have hj' : j < (arrOf st).size := by rw [B.size]; exact hj
  refine wpS_bind (wpS_get ?_)
  refine wpS_bind (elem_ok hi' (wpS_bind (elem_ok hj' (lt_ok O (B.perm.mem_iff.mp (Array.mem_toList_iff.mpr (Array.getElem_mem hi'))) (B.perm.mem_iff.mp (Array.mem_toList_iff.mpr (Array.getElem_mem hj'))) B.kind ?_))))
  unfold RR at h
  rw [getElem?_pos (arrOf st) i hi', getElem?_pos (arrOf st) j hj'] at h
  exact h
theorem rev_ok {i j : Nat} {Q : Unit → SortSt → Prop} (B : SB κ D st) (hj : j ≤ D.length)
    (h : ∀ st', SB κ D st' → pendingOf st' = pendingOf st → (∀ k, RR rk (arrOf st') k = if i ≤ k ∧ k < j then RR rk (arrOf st) (i + j - 1 - k) else RR rk (arrOf st) k) → Q () st') : wpS (model prog w) A E s (reverseSlice' i j) Q st := by
  rw [reverseSlice'_eq]
  refine wpS_modify (h _ (B.set (mirror_perm _ _ _ _)) rfl fun k => ?_)
  have e := getElem?_mirror_all (xs := arrOf st) (i := i) (by rw [B.size]; exact hj) k
  by_cases h1 : i ≤ k ∧ k < j
  · rw [if_pos h1] at e ⊢; exact RR_congr e
  · rw [if_neg h1] at e ⊢; exact RR_congr e
theorem move_ok {i j : Nat} {Q : Unit → SortSt → Prop} (B : SB κ D st) (hi : i < D.length) (hj : j ≤ i)
    (h : ∀ st', SB κ D st' → pendingOf st' = pendingOf st → (∀ k, RR rk (arrOf st') k = if k = j then RR rk (arrOf st) i else if j < k ∧ k ≤ i then RR rk (arrOf st) (k - 1) else RR rk (arrOf st) k) → Q () st') : wpS (model prog w) A E s (moveDown' i j) Q st := by
  rw [moveDown'_eq]
  refine wpS_modify (h _ (B.set (bubble_perm _ _ _)) rfl fun k => ?_)
  have e := getElem?_bubble (xs := arrOf st) (src := i) (by rw [B.size]; exact hi) (i - j) (by exact Nat.le_trans (Nat.le_add_right _ _) (qfs2 (i) (j) (by exact hj))) k
  rw [Nat.sub_sub_self hj] at e
  show RR rk (bubble (arrOf st) i (i - j)) k = _
  by_cases h1 : k = j
  · rw [if_pos h1] at e ⊢; exact RR_congr e
  · rw [if_neg h1] at e ⊢
    by_cases h2 : j < k ∧ k ≤ i
    · rw [if_pos h2] at e ⊢; exact RR_congr e
    · rw [if_neg h2] at e ⊢; exact RR_congr e
end
end Mine.Internal
end
section
set_option tactic.hygienic false
open PySem PySem.W PySem.Calls PyProof.Rows PySem.Spec
set_option maxRecDepth 100000
namespace Mine.Internal
section
variable {prog : Program} {w : World} {A : Around} {E : Value → Shared → Prop} {s : Shared} {κ : SortKind} {rk : Value → Nat} {D : List Keyed} {st : SortSt} {xs ys : Array Keyed}
theorem Up.one {lo : Nat} : Up rk xs lo (lo + 1) := fun i h1 h2 => absurd (Nat.lt_of_succ_lt_succ h2) (Nat.not_lt.mpr h1)
theorem Up.snoc {lo n : Nat} (h : Up rk xs lo (lo + n)) (h2 : RR rk xs (lo + n - 1) < RR rk xs (lo + n)) : Up rk xs lo (lo + (n + 1)) := fun i a b => by
  by_cases e : i + 1 = lo + n
  · have e1 : i = lo + n - 1 := by exact Nat.le_antisymm (qfl fun x => qfa3 x b (qfs1 (lo + n) (1)) (by simp +arith only)) ((by exact Nat.le_of_lt_succ (Nat.lt_of_lt_of_le (qfs2 (lo + n) (1) (qfl fun x => qfa2 x b (by simp +arith only))) (qfg e))))
    rw [e1, show lo + n - 1 + 1 = lo + n by exact Nat.le_antisymm (qfl fun x => qfa2 x (qfs2 (lo + n) (1) (qfl fun x => qfa2 x b (by simp +arith only))) (by simp +arith only)) (qfl fun x => qfa2 x (qfs1 (lo + n) (1)) (by simp +arith only))]; exact h2
  · exact h i a (Nat.lt_of_le_of_ne (Nat.le_of_lt_succ b) e)
theorem SOk.flip (O : SOk prog w A s κ rk D) (B : SB κ D st) {i j : Nat} (hij : i < j) (hj : j < D.length) (h : ¬ RR rk (arrOf st) j < RR rk (arrOf st) i) : RR rk (arrOf st) i < RR rk (arrOf st) j :=
  Nat.lt_of_le_of_ne (Nat.le_of_not_lt h) (O.ne B hij hj)
noncomputable def Dn (rk : Value → Nat) (xs : Array Keyed) (lo hi : Nat) : Prop := ∀ i, lo ≤ i → i + 1 < hi → RR rk xs (i + 1) < RR rk xs i
theorem Dn.two {lo : Nat} (h : RR rk xs (lo + 1) < RR rk xs (lo + 1 - 1)) : Dn rk xs lo (lo + (1 + 1)) := fun i a b => by
  obtain rfl : i = lo := by exact Nat.le_antisymm (qfl fun x => qfa2 x b (by simp +arith only)) (by exact a)
  exact h
theorem Dn.snoc {lo n : Nat} (h : Dn rk xs lo (lo + n)) (h1 : 1 + 1 ≤ n) (h2 : RR rk xs (lo + n) < RR rk xs (lo + n - 1)) : Dn rk xs lo (lo + (n + 1)) := fun i a b => by
  by_cases e : i + 1 = lo + n
  · have e1 : i = lo + n - 1 := by exact Nat.le_antisymm (qfl fun x => qfa3 x b (qfs1 (lo + n) (1)) (by simp +arith only)) ((by exact Nat.le_of_lt_succ (Nat.lt_of_lt_of_le (qfs2 (lo + n) (1) (qfl fun x => qfa2 x h1 (by simp +arith only))) (qfg e))))
    rw [e1, show lo + n - 1 + 1 = lo + n by exact Nat.le_antisymm (qfl fun x => qfa2 x (qfs2 (lo + n) (1) (qfl fun x => qfa2 x h1 (by simp +arith only))) (by simp +arith only)) (qfl fun x => qfa2 x (qfs1 (lo + n) (1)) (by simp +arith only))]; exact h2
  · exact h i a (Nat.lt_of_le_of_ne (Nat.le_of_lt_succ b) e)
theorem Dn.rev {lo n : Nat} (h : Dn rk xs lo (lo + n)) (hR : ∀ k, RR rk ys k = if lo ≤ k ∧ k < lo + n then RR rk xs (lo + (lo + n) - 1 - k) else RR rk xs k) : Up rk ys lo (lo + n) := fun i a b => by
  rw [hR, hR, if_pos (by exact ⟨(by exact a), (by exact Nat.le_of_lt b)⟩), if_pos (by exact ⟨(by exact Nat.le_succ_of_le a), (by exact b)⟩)]
  have := h (lo + (lo + n) - 1 - (i + 1)) (by exact qfl fun x => qfa4 x (qfs1 (lo + (lo + n)) (1)) (qfs1 (lo + (lo + n) - 1) (i + 1)) b (by simp +arith only)) (oRevL a b)
  rwa [oRev (Nat.lt_of_lt_of_le b (Nat.le_add_left _ _))] at this
theorem asc_ok {lo a nrem : Nat} {f : Nat → AscSt → StateT SortSt Sem (ForInStep AscSt)} {Q : AscSt → SortSt → Prop} (O : SOk prog w A s κ rk D) (B : SB κ D st) (hz : lo + nrem ≤ D.length) (h1 : 1 ≤ a) (ha : a ≤ nrem) (hu : Up rk (arrOf st) lo (lo + a))
    (hf : ∀ x n (Q' : ForInStep AscSt → SortSt → Prop), 1 ≤ n → lo + n < D.length → Q' (if RR rk (arrOf st) (lo + n) < RR rk (arrOf st) (lo + n - 1) then .done (none, n) else .yield (none, n + 1)) st → wpS (model prog w) A E s (f x (none, n)) Q' st)
    (h : ∀ n, a ≤ n → n ≤ nrem → Up rk (arrOf st) lo (lo + n) → (n = nrem ∨ RR rk (arrOf st) (lo + n) < RR rk (arrOf st) (lo + n - 1)) → Q (none, n) st) : wpS (model prog w) A E s (forIn [a:nrem] ((none, a) : AscSt) f) Q st := by
  refine wpS_forRange (I := fun x c st' => st' = st ∧ c = (none, x) ∧ Up rk (arrOf st) lo (lo + x)) ?step ?fin ⟨rfl, rfl, hu⟩
  case fin =>
    rintro c st' ⟨rfl, rfl, hs⟩
    rw [Nat.max_eq_right ha] at hs ⊢
    exact h nrem ha (Nat.le_refl _) hs (.inl rfl)
  case step =>
    rintro x c st' hx hn ⟨rfl, rfl, hs⟩
    have hx1 : 1 ≤ x := Nat.le_trans h1 hx
    have hd : lo + x < D.length := by exact Nat.le_trans (Nat.add_le_add_left hn _) hz
    refine hf x x _ hx1 hd ?_
    by_cases hlt : RR rk (arrOf st') (lo + x) < RR rk (arrOf st') (lo + x - 1)
    · rw [if_pos hlt]
      exact h x hx (Nat.le_of_lt hn) hs (.inr hlt)
    · rw [if_neg hlt]
      exact ⟨rfl, rfl, hs.snoc (O.flip B (by exact (qfs2 (lo + x) (1) (by exact Nat.le_trans hx1 (Nat.le_add_left _ _)))) hd hlt)⟩
theorem countRun_ok (O : SOk prog w A s κ rk D) (B : SB κ D st) {lo nrem : Nat} {Q : Option Nat → SortSt → Prop} (hz : lo + nrem ≤ D.length) (h1 : 1 ≤ nrem)
    (h : ∀ m st', SB κ D st' → pendingOf st' = pendingOf st → (∀ i, i < lo → RR rk (arrOf st') i = RR rk (arrOf st) i) → 1 ≤ m → m ≤ nrem → Up rk (arrOf st') lo (lo + m) → Q (some m) st') :
    wpS (model prog w) A E s (countRun' lo nrem) Q st := by
  rw [countRun'_eq]
  refine wpS_bind (asc_ok O B hz (Nat.le_refl 1) h1 Up.one ?_ fun n n1 n2 hu hor => ?_)
  · intro x n Q' a1 a2 hQ
    refine wpS_bind (ltAt_ok O B a2 (by exact Nat.lt_trans (qfs2 (lo + (none, n).snd) (1) (by exact Nat.le_trans a1 (Nat.le_add_left _ _))) a2) ?_)
    by_cases hlt : RR rk (arrOf st) (lo + n) < RR rk (arrOf st) (lo + n - 1)
    · rw [if_pos hlt] at hQ
      rw [decide_eq_true hlt]
      exact wpS_pure hQ
    · rw [if_neg hlt] at hQ
      rw [decide_eq_false hlt]
      exact wpS_pure hQ
  · dsimp only
    by_cases hn : n = nrem
    · rw [if_pos (by rw [hn]; exact beq_self_eq_true nrem)]
      exact wpS_pure (h n st B rfl (fun x x => rfl) n1 n2 hu)
    · rw [if_neg (by simpa using hn)]
      by_cases hn1 : n > 1
      · rw [if_pos hn1]
        refine wpS_bind (ltAt_ok O B (by exact Nat.le_trans (Nat.add_le_add_left h1 _) hz) (by exact qft fun x => qfa4 x (qfs2 (lo + n) (1) (by exact Nat.le_trans n1 (Nat.le_add_left _ _))) hz n2 (by simp +arith only)) ?_)
        rw [decide_eq_true (hu.lt' (Nat.le_refl lo) (j := lo + n - 1) (by exact qft fun x => qfa3 x (qfs1 (lo + n) (1)) hn1 (by simp +arith only)) (by exact (qfs2 (lo + n) (1) (by exact Nat.le_trans n1 (Nat.le_add_left _ _)))))]
        exact wpS_pure (h n st B rfl (fun x x => rfl) n1 n2 hu)
      · rw [if_neg hn1]
        obtain rfl : n = 1 := Nat.le_antisymm (Nat.le_of_not_lt hn1) n1
        refine wpS_bind (wpS_lift (wpAny_rule ⟨rfl, ?_⟩))
        have hd := hor.resolve_left hn
        refine wpS_bind (wpS_mono (wpS_forRange (I := fun x c st' => st' = st ∧ c = (none, x, 0) ∧ Dn rk (arrOf st) lo (lo + x)) (Q := fun c st' => st' = st ∧ ∃ n, c = (none, n, 0) ∧ 2 ≤ n ∧ n ≤ nrem ∧ Dn rk (arrOf st) lo (lo + n)) ?step ?fin ⟨rfl, rfl, Dn.two hd⟩) ?post)
        case fin =>
          rintro c st' ⟨rfl, rfl, hs⟩
          rw [Nat.max_eq_right (Nat.lt_of_le_of_ne n2 hn)] at hs ⊢
          exact ⟨rfl, nrem, rfl, Nat.lt_of_le_of_ne n2 hn, Nat.le_refl _, hs⟩
        case step =>
          rintro x c st' hx hxn ⟨rfl, rfl, hs⟩
          have b1 : lo + x < D.length := by exact Nat.le_trans (Nat.add_le_add_left hxn _) hz
          have b2 : lo + x - 1 < lo + x := by exact (qfs2 (lo + x) (1) (qfl fun x => qfa2 x hx (by simp +arith only)))
          refine wpS_bind (ltAt_ok O B b1 (Nat.lt_trans b2 b1) ?_)
          by_cases hlt : RR rk (arrOf st') (lo + x) < RR rk (arrOf st') (lo + x - 1)
          · rw [decide_eq_true hlt]
            exact wpS_pure ⟨rfl, rfl, hs.snoc hx hlt⟩
          · rw [decide_eq_false hlt]
            refine wpS_bind (ltAt_ok O B (Nat.lt_trans b2 b1) b1 ?_)
            rw [decide_eq_true (O.flip B b2 b1 hlt)]
            exact wpS_pure ⟨rfl, x, rfl, hx, Nat.le_of_lt hxn, hs⟩
        case post =>
          rintro c st' ⟨rfl, n, rfl, n1, n2, hs⟩
          dsimp only
          refine wpS_bind (rev_ok (rk := rk) B (by exact Nat.le_trans (Nat.add_le_add_left n2 _) hz) fun st2 B2 hp hR => ?_)
          refine wpS_bind (asc_ok O B2 hz (by exact Nat.le_of_lt n1) n2 (hs.rev hR) ?_ fun m m1 m2 hu y => ?_)
          · intro x n Q' a1 a2 hQ
            refine wpS_bind (ltAt_ok O B2 a2 (by exact Nat.lt_trans (qfs2 (lo + (none, n).snd) (1) (by exact Nat.le_trans a1 (Nat.le_add_left _ _))) a2) ?_)
            by_cases hlt : RR rk (arrOf st2) (lo + n) < RR rk (arrOf st2) (lo + n - 1)
            · rw [if_pos hlt] at hQ
              rw [decide_eq_true hlt]
              exact wpS_pure hQ
            · rw [if_neg hlt] at hQ
              rw [decide_eq_false hlt]
              exact wpS_pure hQ
          · refine wpS_pure (h m st2 B2 hp (fun i hi => ?_) (by exact Nat.le_of_lt (Nat.lt_of_lt_of_le n1 m1)) m2 hu)
            rw [hR, if_neg fun c => Nat.not_lt.mpr c.1 hi]
end
end Mine.Internal
end
section
set_option tactic.hygienic false
open PySem PySem.W PySem.Calls PyProof.Rows PySem.Spec
set_option maxRecDepth 100000
namespace Mine.Internal
section
variable {prog : Program} {w : World} {A : Around} {E : Value → Shared → Prop} {s : Shared} {κ : SortKind} {rk : Value → Nat} {D : List Keyed} {st : SortSt} {xs ys : Array Keyed}
theorem Up.ins {lo l k : Nat} (h : Up rk xs lo (lo + k)) (hl : l ≤ k) (h1 : ∀ i, i < l → RR rk xs (lo + i) < RR rk xs (lo + k)) (h2 : ∀ i, l ≤ i → i < k → RR rk xs (lo + k) < RR rk xs (lo + i))
    (hR : ∀ z, RR rk ys z = if z = lo + l then RR rk xs (lo + k) else if lo + l < z ∧ z ≤ lo + k then RR rk xs (z - 1) else RR rk xs z) : Up rk ys lo (lo + (k + 1)) := fun i a b => by
  rw [hR, hR]
  by_cases e1 : i + 1 = lo + l
  · rw [if_pos e1, if_neg (fun c => Nat.succ_ne_self i (e1.trans c.symm)), if_neg (fun c => Nat.lt_irrefl _ (Nat.lt_of_lt_of_eq (Nat.lt_trans c.1 (Nat.lt_succ_self i)) e1))]
    have := h1 (i - lo) (by exact qft fun x => qfa3 x (qfs2 (i) (lo) (by exact a)) (Nat.le_of_eq e1) (by simp +arith only))
    rwa [show lo + (i - lo) = i by exact Nat.add_sub_cancel' a] at this
  · rw [if_neg e1]
    by_cases e2 : i = lo + l
    · rw [if_pos e2, if_pos (by exact ⟨(by exact Nat.succ_le_succ (qfg e2)), (by exact Nat.le_of_lt_succ b)⟩)]
      have := h2 l (Nat.le_refl _) (by exact qft fun x => qfa3 x (qfg e2) b (by simp +arith only))
      rwa [show i + 1 - 1 = lo + l by exact e2]
    · rw [if_neg e2]
      by_cases e3 : lo + l < i
      · rw [if_pos ⟨e3, by exact qfl fun x => qfa2 x b (by simp +arith only)⟩, if_pos ⟨by exact Nat.le_succ_of_le e3, by exact Nat.le_of_lt_succ b⟩]
        have := h (i - 1) (by exact qfl fun x => qfa3 x e3 (qfs1 (i) (1)) (by simp +arith only)) (by exact qft fun x => qfa3 x (qfs2 (i) (1) (by exact Nat.lt_of_le_of_lt (Nat.zero_le _) e3)) b (by simp +arith only))
        rwa [show i - 1 + 1 = i + 1 - 1 by exact Nat.le_antisymm ((by exact Nat.le_of_lt_succ (Nat.lt_of_le_of_lt (qfs2 (i) (1) (qfl fun x => qfa2 x e3 (by simp +arith only))) (qfs1 (i + 1) (1))))) (qfl fun x => qfa3 x (qfs2 (i + 1) (1) (by exact Nat.le_add_left _ _)) (qfs1 (i) (1)) (by simp +arith only))] at this
      · rw [if_neg (show ¬ (lo + l < i ∧ i ≤ lo + k) from fun c => e3 c.1), if_neg (show ¬ (lo + l < i + 1 ∧ i + 1 ≤ lo + k) from fun c => e2 (Nat.le_antisymm (Nat.le_of_not_lt e3) (Nat.le_of_lt_succ c.1)))]
        exact h i a (Nat.lt_of_lt_of_le (Nat.lt_of_le_of_ne (Nat.lt_of_le_of_ne (Nat.le_of_not_lt e3) e2) e1) (Nat.add_le_add_left hl lo))
theorem binarySort_ok (O : SOk prog w A s κ rk D) (B : SB κ D st) {lo n ok : Nat} {Q : Bool → SortSt → Prop} (hz : lo + n ≤ D.length) (h1 : 1 ≤ ok) (hn : ok ≤ n) (hu : Up rk (arrOf st) lo (lo + ok))
    (h : ∀ st', SB κ D st' → pendingOf st' = pendingOf st → (∀ i, i < lo → RR rk (arrOf st') i = RR rk (arrOf st) i) → Up rk (arrOf st') lo (lo + n) → Q true st') :
    wpS (model prog w) A E s (binarySort' lo n ok) Q st := by
  rw [binarySort'_eq, Nat.max_eq_left h1]
  refine wpS_bind (wpS_mono (wpS_forRange (I := fun k c st' => c = (none, ()) ∧ SB κ D st' ∧ pendingOf st' = pendingOf st ∧ (∀ i, i < lo → RR rk (arrOf st') i = RR rk (arrOf st) i) ∧ Up rk (arrOf st') lo (lo + k))
    (Q := fun c st' => c = (none, ()) ∧ SB κ D st' ∧ pendingOf st' = pendingOf st ∧ (∀ i, i < lo → RR rk (arrOf st') i = RR rk (arrOf st) i) ∧ Up rk (arrOf st') lo (lo + n)) ?step ?fin ⟨rfl, B, rfl, fun x x => rfl, hu⟩) ?post)
  case post =>
    rintro c st' ⟨rfl, B', hp, hR, hs⟩
    exact wpS_pure (h st' B' hp hR hs)
  case fin =>
    rintro c st' hc
    rw [Nat.max_eq_right hn] at hc
    exact hc
  case step =>
    rintro k c st' hk hkn ⟨rfl, B', hp, hR, hs⟩
    have hkD : lo + k < D.length := by exact Nat.le_trans (Nat.add_le_add_left hkn _) hz
    refine wpS_bind (wpS_mono (wpS_forRange (I := fun x c st'' => st'' = st' ∧ ∃ l r, c = (none, l, r) ∧ l ≤ r ∧ r ≤ k ∧ r - l ≤ k - x ∧ (∀ i, i < l → RR rk (arrOf st') (lo + i) < RR rk (arrOf st') (lo + k)) ∧ (∀ i, r ≤ i → i < k → RR rk (arrOf st') (lo + k) < RR rk (arrOf st') (lo + i)))
      (Q := fun c st'' => st'' = st' ∧ ∃ l r, c = (none, l, r) ∧ l ≤ k ∧ (∀ i, i < l → RR rk (arrOf st') (lo + i) < RR rk (arrOf st') (lo + k)) ∧ (∀ i, l ≤ i → i < k → RR rk (arrOf st') (lo + k) < RR rk (arrOf st') (lo + i))) ?istep ?ifin ?iinit) ?ipost)
    case iinit => exact ⟨rfl, 0, k, rfl, Nat.zero_le _, Nat.le_refl _, Nat.le_refl _, fun i hi => absurd hi (Nat.not_lt_zero i), fun i a b => absurd b (Nat.not_lt.mpr a)⟩
    case ifin =>
      rintro c st'' ⟨rfl, l, r, rfl, hlr, hrk, hm, hlo, hhi⟩
      obtain rfl : l = r := oEq0 hlr hm
      exact ⟨rfl, l, l, rfl, hrk, hlo, hhi⟩
    case istep =>
      rintro x c st'' _ hxk ⟨rfl, l, r, rfl, hlr, hrk, hm, hlo, hhi⟩
      dsimp only
      by_cases hge : l ≥ r
      · rw [if_pos hge]
        obtain rfl : l = r := Nat.le_antisymm hlr hge
        exact wpS_pure ⟨rfl, l, l, rfl, hrk, hlo, hhi⟩
      · rw [if_neg hge]
        have m1 : l ≤ (l + r) / 2 := oMid1 hlr
        have m2 : (l + r) / 2 < r := oMid2 (Nat.lt_of_not_le hge)
        have m3 : lo + (l + r) / 2 < lo + k := by exact qft fun x => qfa3 x m2 hrk (by simp +arith only)
        refine wpS_bind (ltAt_ok O B' hkD (Nat.lt_trans m3 hkD) ?_)
        by_cases hlt : RR rk (arrOf st'') (lo + k) < RR rk (arrOf st'') (lo + (l + r) / 2)
        · rw [decide_eq_true hlt]
          refine wpS_pure ⟨rfl, l, (l + r) / 2, rfl, m1, by exact qfl fun x => qfa2 x m3 (by simp +arith only), oStep hm (oHi m1 m2), hlo, fun i a b => ?_⟩
          rcases Nat.lt_or_eq_of_le a with a | a
          · exact Nat.lt_trans hlt (hs.lt' (by exact Nat.le_add_right _ _) (by exact Nat.add_le_add_left a _) (by exact Nat.add_le_add_left b _))
          · rw [← a]; exact hlt
        · rw [decide_eq_false hlt]
          have g := O.flip B' m3 hkD hlt
          refine wpS_pure ⟨rfl, (l + r) / 2 + 1, r, rfl, m2, hrk, oStep hm (oLo m1 (Nat.lt_of_not_le hge)), fun i a => ?_, hhi⟩
          rcases Nat.lt_or_eq_of_le (Nat.le_of_lt_succ a) with a | a
          · exact Nat.lt_trans (hs.lt' (by exact Nat.le_add_right _ _) (by exact Nat.add_le_add_left a _) (by exact m3)) g
          · rw [a]; exact g
    case ipost =>
      rintro c st'' ⟨rfl, l, r, rfl, hlk, hlo, hhi⟩
      dsimp only
      refine wpS_bind (move_ok (rk := rk) B' hkD (Nat.add_le_add_left hlk lo) fun st2 B2 p2 R2 => wpS_pure ⟨rfl, B2, p2.trans hp, fun i hi => ?_, hs.ins hlk hlo hhi R2⟩)
      rw [R2, if_neg (Nat.ne_of_lt (Nat.lt_of_lt_of_le hi (Nat.le_add_right _ _))), if_neg (fun c => Nat.lt_asymm c.1 (Nat.lt_of_lt_of_le hi (Nat.le_add_right _ _)))]
      exact hR i hi
end
end Mine.Internal
end
section
set_option tactic.hygienic false
open PySem PySem.W PySem.Calls PyProof.Rows PySem.Spec
set_option maxRecDepth 100000
namespace Mine.Internal
noncomputable abbrev GalT := Bool → Keyed → Array Keyed → Nat → Nat → Nat → StateT SortSt Sem (Option Nat)
noncomputable def gallop1 : GalT := sortPriv% PySem.Builtin.gallop
noncomputable abbrev BisSt := Option (Option Nat) × Nat × Nat
section
variable {prog : Program} {w : World} {A : Around} {E : Value → Shared → Prop} {s : Shared} {κ : SortKind} {rk : Value → Nat} {D : List Keyed} {st : SortSt} {xs ys : Array Keyed} {M : Model} {σ : Type} {S : σ}
theorem bis_ok {n l r : Nat} {P : Nat → Prop} [DecidablePred P] {f : Nat → BisSt → StateT σ Sem (ForInStep BisSt)} {Q : BisSt → σ → Prop} (hP : ∀ i j, i < j → j < n → P j → P i) (hlr : l ≤ r) (hr : r ≤ n) (h1 : ∀ i, i < l → P i) (h2 : ∀ i, r ≤ i → i < n → ¬ P i)
    (hf : ∀ x l r (Q' : ForInStep BisSt → σ → Prop), (l < r → l + (r - l) / 2 < n) → Q' (if l ≥ r then .done (none, l, r) else if P (l + (r - l) / 2) then .yield (none, l + (r - l) / 2 + 1, r) else .yield (none, l, l + (r - l) / 2)) S → wpS M A E s (f x (none, l, r)) Q' S)
    (h : ∀ k, k ≤ n → (∀ i, i < k → P i) → (∀ i, k ≤ i → i < n → ¬ P i) → Q (none, k, k) S) : wpS M A E s (forIn [0:n] ((none, l, r) : BisSt) f) Q S := by
  refine wpS_forRange (I := fun x c st' => st' = S ∧ ∃ l r, c = (none, l, r) ∧ l ≤ r ∧ r ≤ n ∧ r - l ≤ n - x ∧ (∀ i, i < l → P i) ∧ (∀ i, r ≤ i → i < n → ¬ P i)) ?step ?fin ⟨rfl, l, r, rfl, hlr, hr, Nat.le_trans (Nat.sub_le _ _) hr, h1, h2⟩
  case fin =>
    rintro c st' ⟨rfl, l, r, rfl, hlr, hr, hm, h1, h2⟩
    obtain rfl : l = r := oEq0 hlr hm
    exact h l hr h1 h2
  case step =>
    rintro x c st' _ hx ⟨rfl, l, r, rfl, hlr, hr, hm, h1, h2⟩
    refine hf x l r _ (fun q => Nat.lt_of_lt_of_le (oMid3 q) hr) ?_
    by_cases hge : l ≥ r
    · rw [if_pos hge]
      obtain rfl : l = r := Nat.le_antisymm hlr hge
      exact h l hr h1 h2
    · rw [if_neg hge]
      by_cases hp : P (l + (r - l) / 2)
      · rw [if_pos hp]
        refine ⟨rfl, _, r, rfl, oMid3 (Nat.lt_of_not_le hge), hr, oStep hm (oLo (Nat.le_add_right _ _) (Nat.lt_of_not_le hge)), fun i hi => ?_, h2⟩
        rcases Nat.lt_or_eq_of_le (Nat.le_of_lt_succ hi) with a | a
        · exact hP _ _ a (Nat.lt_of_lt_of_le (oMid3 (Nat.lt_of_not_le hge)) hr) hp
        · rw [a]; exact hp
      · rw [if_neg hp]
        refine ⟨rfl, l, _, rfl, by exact Nat.le_add_right _ _, by exact qfl fun x => qfa4 x (qfs2 (r) (l) (by exact hlr)) (qfd1 (r - l)) hr (by simp +arith only), oStep hm (oHi (Nat.le_add_right _ _) (oMid3 (Nat.lt_of_not_le hge))), h1, fun i a b q => ?_⟩
        rcases Nat.lt_or_eq_of_le a with a | a
        · exact hp (hP _ _ a b q)
        · rw [a] at hp; exact hp q
theorem exp_ok {n m : Nat} {G : Nat → Prop} [DecidablePred G] {f : Nat → BisSt → StateT σ Sem (ForInStep BisSt)} {Q : BisSt → σ → Prop} (hm : m ≤ n) (hm1 : 1 ≤ m) (h0 : G 0)
    (hf : ∀ x l o (Q' : ForInStep BisSt → σ → Prop), (o < m → Q' (if G o then .yield (none, o, 2 * o + 1) else .done (none, l, o)) S) → (m ≤ o → Q' (.done (none, l, o)) S) → wpS M A E s (f x (none, l, o)) Q' S)
    (h : ∀ l o, l < o → l < m → G l → (o < m → ¬ G o) → Q (none, l, o) S) : wpS M A E s (forIn [0:n] ((none, 0, 1) : BisSt) f) Q S := by
  refine wpS_forRange (I := fun x c st' => st' = S ∧ ∃ l o, c = (none, l, o) ∧ l < o ∧ l < m ∧ x < o ∧ G l) ?step ?fin ⟨rfl, 0, 1, rfl, Nat.zero_lt_one, hm1, Nat.zero_lt_one, h0⟩
  case fin =>
    rintro c st' ⟨rfl, l, o, rfl, a1, a2, a3, a4⟩
    exact h l o a1 a2 a4 fun a => absurd (Nat.lt_of_lt_of_le a hm) (Nat.not_lt.mpr (Nat.le_trans (Nat.le_max_right 0 n) (Nat.le_of_lt a3)))
  case step =>
    rintro x c st' _ hx ⟨rfl, l, o, rfl, a1, a2, a3, a4⟩
    refine hf x l o _ (fun ho => ?_) (fun ho => ?_)
    · by_cases hg : G o
      · rw [if_pos hg]
        exact ⟨rfl, o, _, rfl, by exact qft fun x => qfa1 x (by simp +arith only), ho, by exact qft fun x => qfa2 x a3 (by simp +arith only), hg⟩
      · rw [if_neg hg]
        exact h l o a1 a2 a4 fun x => hg
    · exact h l o a1 a2 a4 fun a => absurd a (Nat.not_lt.mpr ho)
theorem gallop_ok (O : SOk prog w A s κ rk D) (hk : kindOf st = κ) {left : Bool} {key : Keyed} {arr : Array Keyed} {base n hint : Nat} {Q : Option Nat → SortSt → Prop} (hkey : key ∈ D) (hmem : ∀ p ∈ arr, p ∈ D) (hsz : base + n ≤ arr.size) (hh : hint < n)
    (hu : Up rk arr base (base + n)) (hne : ∀ i, i < n → RR rk arr (base + i) ≠ rk key.1)
    (h : ∀ k, k ≤ n → (∀ i, i < k → RR rk arr (base + i) < rk key.1) → (∀ i, k ≤ i → i < n → ¬ RR rk arr (base + i) < rk key.1) → Q (some k) st) : wpS (model prog w) A E s (gallop1 left key arr base n hint) Q st := by
  have hP : ∀ i j, i < j → j < n → RR rk arr (base + j) < rk key.1 → RR rk arr (base + i) < rk key.1 := fun i j a b c => Nat.lt_trans (hu.lt' (by exact Nat.le_add_right _ _) (by exact Nat.add_le_add_left a _) (by exact Nat.add_le_add_left b _)) c
  unfold gallop1
  refine wpS_bind ?_
  generalize hb : (fun i : Nat => (_ : StateT SortSt Sem (Option Bool))) = bey
  have hbe : ∀ i, i < n → ∀ Q' : Option Bool → SortSt → Prop, Q' (some (decide (RR rk arr (base + i) < rk key.1))) st → wpS (model prog w) A E s (bey i) Q' st := by
    intro i hi Q' hq
    have hi' : base + i < arr.size := by exact Nat.le_trans (Nat.add_le_add_left hi _) hsz
    have eR : RR rk arr (base + i) = rk (arr[base + i]).1 := by unfold RR; rw [getElem?_pos arr _ hi']
    have ne := hne i hi
    rw [eR] at hq ne
    rw [← hb]
    refine wpS_bind (elem_ok hi' ?_)
    cases left with
    | true =>
      rw [if_pos rfl]
      exact lt_ok O (hmem _ (Array.getElem_mem hi')) hkey hk hq
    | false =>
      rw [if_neg Bool.false_ne_true]
      refine wpS_bind (lt_ok O hkey (hmem _ (Array.getElem_mem hi')) hk (wpS_pure ?_))
      have e : (!decide (rk key.1 < rk (arr[base + i]).1)) = decide (rk (arr[base + i]).1 < rk key.1) := by
        rw [Bool.eq_iff_iff, Bool.not_eq_true', decide_eq_false_iff_not, decide_eq_true_iff]
        exact oDec ne
      show Q' (some (!decide (rk key.1 < rk (arr[base + i]).1))) st
      rw [e]
      exact hq
  clear hb hmem hu hne hsz
  refine hbe hint hh _ ?_
  dsimp only
  have bis : ∀ l r (Q' : BisSt → SortSt → Prop) (f : Nat → BisSt → StateT SortSt Sem (ForInStep BisSt)), l ≤ r → r ≤ n → (∀ i, i < l → RR rk arr (base + i) < rk key.1) → (∀ i, r ≤ i → i < n → ¬ RR rk arr (base + i) < rk key.1) →
      (∀ x l r, f x (none, l, r) = if l ≥ r then pure (.done (none, l, r)) else bey (l + (r - l) / 2) >>= fun x => match x with | some more => if more = true then pure (.yield (none, l + (r - l) / 2 + 1, r)) else pure (.yield (none, l, l + (r - l) / 2)) | _ => pure (.done (some none, l, r))) →
      (∀ k, k ≤ n → (∀ i, i < k → RR rk arr (base + i) < rk key.1) → (∀ i, k ≤ i → i < n → ¬ RR rk arr (base + i) < rk key.1) → Q' (none, k, k) st) → wpS (model prog w) A E s (forIn [0:n] ((none, l, r) : BisSt) f) Q' st := by
    intro l r Q' f a1 a2 a3 a4 hf a5
    refine bis_ok (P := fun i => RR rk arr (base + i) < rk key.1) hP a1 a2 a3 a4 (fun x l r Q2 hlt hq => ?_) a5
    rw [hf]
    by_cases hge : l ≥ r
    · rw [if_pos hge] at hq ⊢
      exact wpS_pure hq
    · rw [if_neg hge] at hq ⊢
      refine wpS_bind (hbe _ (hlt (Nat.lt_of_not_le hge)) _ ?_)
      by_cases hp : RR rk arr (base + (l + (r - l) / 2)) < rk key.1
      · rw [if_pos hp] at hq
        rw [decide_eq_true hp]
        exact wpS_pure hq
      · rw [if_neg hp] at hq
        rw [decide_eq_false hp]
        exact wpS_pure hq
  by_cases hp : RR rk arr (base + hint) < rk key.1
  · rw [decide_eq_true hp]
    refine wpS_bind (exp_ok (m := n - hint) (G := fun o => RR rk arr (base + (hint + o)) < rk key.1) (Nat.sub_le _ _) (by exact Nat.sub_pos_of_lt hh) hp (fun x l o Q' q1 q2 => ?_) fun l o a1 a2 a3 a4 => ?_)
    · dsimp only
      by_cases ho : o ≥ n - hint
      · have := q2 ho
        refine Eq.mpr (congrArg (fun m => wpS (model prog w) A E s m Q' st) (if_pos ho)) (wpS_pure this)
      · have q := q1 (Nat.lt_of_not_le ho)
        refine Eq.mpr (congrArg (fun m => wpS (model prog w) A E s m Q' st) (if_neg ho)) (wpS_bind (hbe _ (oAdd (Nat.lt_of_not_le ho)) _ ?_))
        by_cases hp2 : RR rk arr (base + (hint + o)) < rk key.1
        · rw [if_pos hp2] at q
          rw [decide_eq_true hp2]
          exact wpS_pure q
        · rw [if_neg hp2] at q
          rw [decide_eq_false hp2]
          exact wpS_pure q
    · dsimp only
      refine wpS_bind (bis _ _ _ _ (oMinA a1 a2) (oMinD hh) (fun i hi => ?_) (fun i b1 b2 => ?_) (fun x x x => rfl) fun k k1 k2 k3 => wpS_pure (h k k1 k2 k3))
      · rcases Nat.lt_or_eq_of_le (Nat.le_of_lt_succ hi) with a | a
        · exact hP _ _ a (by exact qft fun x => qfa3 x (qfs2 (n) (hint) (by exact Nat.le_of_lt hh)) a2 (by simp +arith only)) a3
        · rw [a]; exact a3
      · have ho : o < n - hint := oMinLt hh b1 b2
        rw [Nat.min_eq_left (Nat.le_of_lt ho)] at b1
        intro q
        rcases Nat.lt_or_eq_of_le b1 with a | a
        · exact a4 ho (hP _ _ a b2 q)
        · rw [← a] at q; exact a4 ho q
  · rw [decide_eq_false hp]
    refine wpS_bind (exp_ok (m := hint + 1) (G := fun o => ¬ RR rk arr (base + (hint - o)) < rk key.1) hh (Nat.succ_pos _) hp (fun x l o Q' q1 q2 => ?_) fun l o a1 a2 a3 a4 => ?_)
    · dsimp only
      by_cases ho : o ≥ hint + 1
      · have := q2 ho
        refine Eq.mpr (congrArg (fun m => wpS (model prog w) A E s m Q' st) (if_pos ho)) (wpS_pure this)
      · have q := q1 (Nat.lt_of_not_le ho)
        refine Eq.mpr (congrArg (fun m => wpS (model prog w) A E s m Q' st) (if_neg ho)) (wpS_bind (hbe _ (by exact Nat.lt_of_le_of_lt (Nat.sub_le (hint) (o)) hh) _ ?_))
        by_cases hp2 : RR rk arr (base + (hint - o)) < rk key.1
        · rw [if_neg (fun z => z hp2)] at q
          rw [decide_eq_true hp2]
          exact wpS_pure q
        · rw [if_pos hp2] at q
          rw [decide_eq_false hp2]
          exact wpS_pure q
    · dsimp only
      refine wpS_bind (bis _ _ _ _ (oMinB a1 a2) (by exact qfl fun x => qfa3 x (qfs2 (hint) (l) (by exact Nat.le_of_lt_succ a2)) hh (by simp +arith only)) (fun i hi => ?_) (fun i b1 b2 q => ?_) (fun x x x => rfl) fun k k1 k2 k3 => wpS_pure (h k k1 k2 k3))
      · have ho : o < hint + 1 := oMinC hi
        rw [Nat.min_eq_left (Nat.le_of_lt ho)] at hi
        have g := Decidable.not_not.mp (a4 ho)
        rcases Nat.lt_or_eq_of_le (show i ≤ hint - o by exact qfl fun x => qfa4 x hi (qfs2 (hint + 1) (o) (by exact Nat.le_of_lt ho)) (qfs1 (hint) (o)) (by simp +arith only)) with a | a
        · exact hP _ _ a (by exact qft fun x => qfa3 x (qfs2 (hint) (o) (by exact Nat.le_of_lt_succ ho)) hh (by simp +arith only)) g
        · rw [a]; exact g
      · rcases Nat.lt_or_eq_of_le b1 with a | a
        · exact a3 (hP _ _ a b2 q)
        · rw [← a] at q; exact a3 q
end
end Mine.Internal
end
section
set_option tactic.hygienic false
open PySem PySem.W PySem.Calls PyProof.Rows PySem.Spec
set_option maxRecDepth 100000
namespace Mine.Internal
section
variable {rk : Value → Nat} {R : Keyed → Keyed → Prop} {T out la lb l1 : List Keyed} {a b o m : Array Keyed} {ia ib : Nat}
structure MI (R : Keyed → Keyed → Prop) (T out la lb : List Keyed) : Prop where
  perm : (out ++ la ++ lb).Perm T
  sa : (out ++ la).Pairwise R
  sb : (out ++ lb).Pairwise R
theorem MI.swap (h : MI R T out la lb) : MI R T out lb la := by
  refine ⟨?_, h.sb, h.sa⟩
  refine List.Perm.trans ?_ h.perm
  rw [List.append_assoc, List.append_assoc]
  exact List.perm_append_comm.append_left out
theorem MI.adv (h : MI R T out (l1 ++ la) lb) (hl : ∀ x ∈ l1, ∀ y ∈ lb, R x y) : MI R T (out ++ l1) la lb := by
  have sa := h.sa
  rw [← List.append_assoc] at sa
  refine ⟨by have := h.perm; rwa [← List.append_assoc] at this, sa, ?_⟩
  have sb := List.pairwise_append.mp h.sb
  refine List.pairwise_append.mpr ⟨(List.pairwise_append.mp sa).1, sb.2.1, fun x hx y hy => ?_⟩
  rcases List.mem_append.mp hx with hx | hx
  · exact sb.2.2 x hx y hy
  · exact hl x hx y hy
theorem MI.fin (h : MI R T out la lb) (e : la = [] ∨ lb = []) : (out ++ la ++ lb).Pairwise R := by
  rcases e with rfl | rfl
  · rw [List.append_nil]; exact h.sb
  · rw [List.append_nil]; exact h.sa
theorem MI.le (h : MI R T out la lb) {y : Keyed} {l : List Keyed} (e : lb = y :: l) (tr : ∀ x y z, R x y → R y z → R x z) {x z : Keyed} (hx : R x y) (hz : z ∈ lb) : R x z := by
  have sb := (List.pairwise_append.mp h.sb).2.1
  rw [e] at sb hz
  rcases List.mem_cons.mp hz with rfl | hz
  · exact hx
  · exact tr _ _ _ hx ((List.pairwise_cons.mp sb).1 z hz)

noncomputable abbrev Asc (rk : Value → Nat) : Keyed → Keyed → Prop := fun p q => rk p.1 < rk q.1
theorem Asc.tr {x y z : Keyed} (h1 : Asc rk x y) (h2 : Asc rk y z) : Asc rk x z := Nat.lt_trans h1 h2
noncomputable def ML (rk : Value → Nat) (T : List Keyed) (a b o : Array Keyed) (ia ib : Nat) : Prop := MI (Asc rk) T o.toList (a.toList.drop ia) (b.toList.drop ib)
theorem drop_at {ia : Nat} (h : ia < a.size) : a.toList.drop ia = a[ia] :: a.toList.drop (ia + 1) := by
  rw [List.drop_eq_getElem_cons (by rw [Array.length_toList]; exact h), Array.getElem_toList]
theorem RR_at {i : Nat} (h : i < a.size) : RR rk a i = rk (a[i]).1 := by unfold RR; rw [getElem?_pos a i h]
theorem ML.swap (h : ML rk T a b o ia ib) : ML rk T b a o ib ia := MI.swap h
theorem ML.pushA (h : ML rk T a b o ia ib) (ha : ia < a.size) (hb : ib < b.size) (hl : rk (a[ia]).1 < rk (b[ib]).1) : ML rk T a b (o.push a[ia]) (ia + 1) ib := by
  unfold ML at h ⊢
  rw [Array.toList_push]
  rw [drop_at ha] at h
  refine MI.adv (l1 := [a[ia]]) h fun x hx y hy => ?_
  rw [List.mem_singleton.mp hx]
  exact h.le (drop_at hb) (fun x x x => Asc.tr) hl hy
theorem ML.extA (h : ML rk T a b o ia ib) {k : Nat} (ha : ia + k ≤ a.size) (hb : ib < b.size) (hl : ∀ i, i < k → RR rk a (ia + i) < rk (b[ib]).1) : ML rk T a b (o ++ a.extract ia (ia + k)) (ia + k) ib := by
  unfold ML at h ⊢
  rw [Array.toList_append, Array.toList_extract, List.extract_eq_take_drop, Nat.add_sub_cancel_left]
  have e : a.toList.drop ia = (a.toList.drop ia).take k ++ a.toList.drop (ia + k) := by rw [← List.drop_drop, List.take_append_drop]
  rw [e] at h
  refine h.adv fun x hx y hy => ?_
  refine h.le (drop_at hb) (fun x x x => Asc.tr) ?_ hy
  obtain ⟨i, hi, ex⟩ := List.mem_iff_getElem.mp hx
  rw [List.length_take] at hi
  have hi1 : i < k := oMinL hi
  have hi2 : ia + i < a.size := by exact Nat.le_trans (Nat.add_le_add_left hi1 _) ha
  have := hl i hi1
  rw [RR_at hi2] at this
  rw [← ex, List.getElem_take, List.getElem_drop, Array.getElem_toList]
  exact this
theorem ML.done (h : ML rk T a b o ia ib) (e : a.size ≤ ia ∨ b.size ≤ ib) : (o ++ a.extract ia a.size ++ b.extract ib b.size).toList.Perm T ∧ (o ++ a.extract ia a.size ++ b.extract ib b.size).toList.Pairwise (Asc rk) := by
  have ex : ∀ (c : Array Keyed) i, (c.extract i c.size).toList = c.toList.drop i := fun c i => by
    rw [Array.toList_extract, List.extract_eq_take_drop, ← Array.length_toList]
    exact List.take_of_length_le (by rw [List.length_drop]; exact Nat.le_refl _)
  rw [Array.toList_append, Array.toList_append, ex, ex]
  refine ⟨h.perm, MI.fin h ?_⟩
  rcases e with e | e
  · exact .inl (List.drop_eq_nil_of_le (by rw [Array.length_toList]; exact e))
  · exact .inr (List.drop_eq_nil_of_le (by rw [Array.length_toList]; exact e))
theorem ML.last (h : ML rk T a b o ia ib) (ha : ia + 1 = a.size) (hb : ib ≤ b.size) (hl : ∀ y ∈ b.toList, rk y.1 < rk (a[ia]'(by exact (Nat.le_of_eq ha))).1) : (o ++ b.extract ib b.size ++ a.extract ia a.size).toList.Perm T ∧ (o ++ b.extract ib b.size ++ a.extract ia a.size).toList.Pairwise (Asc rk) := by
  have h2 : ML rk T b a (o ++ b.extract ib (ib + (b.size - ib))) (ib + (b.size - ib)) ia := h.swap.extA (by exact qfl fun x => qfa2 x (qfs2 (b.size) (ib) (by exact hb)) (by simp +arith only)) (by exact (Nat.le_of_eq ha)) fun i hi => by
    have hi2 : ib + i < b.size := by exact qft fun x => qfa3 x (qfs2 (b.size) (ib) (by exact hb)) hi (by simp +arith only)
    rw [RR_at hi2]
    exact hl _ (Array.mem_toList_iff.mpr (Array.getElem_mem hi2))
  have e : ib + (b.size - ib) = b.size := by exact Nat.add_sub_cancel' hb
  rw [e] at h2
  have := h2.done (.inl (Nat.le_refl _))
  rw [show b.extract b.size b.size = #[] by simp, Array.append_empty] at this
  exact this
end
end Mine.Internal
end
section
set_option tactic.hygienic false
open PySem PySem.W PySem.Calls PyProof.Rows PySem.Spec
set_option maxRecDepth 100000
namespace Mine.Internal
noncomputable abbrev MrgT := Array Keyed → Array Keyed → StateT SortSt Sem (Array Keyed)
noncomputable def mergeLo1 : MrgT := sortPriv% PySem.Builtin.mergeLo
noncomputable def mergeHi1 : MrgT := sortPriv% PySem.Builtin.mergeHi
noncomputable def Fine1 (rk : Value → Nat) (T : List Keyed) (m : Array Keyed) : Prop := m.toList.Perm T ∧ m.toList.Pairwise (Asc rk)
noncomputable def Same (st st' : SortSt) : Prop := kindOf st' = kindOf st ∧ arrOf st' = arrOf st ∧ pendingOf st' = pendingOf st ∧ failedOf st' = failedOf st
inductive LoG (rk : Value → Nat) (T : List Keyed) (a b : Array Keyed) (n : Nat) {β : Type} : Option (Array Keyed) × Array Keyed × Nat × Nat × β → Prop
  | go {o : Array Keyed} {ia ib : Nat} {r : β} : ML rk T a b o ia ib → ia + 1 < a.size → ib < b.size → n ≤ ia + ib → LoG rk T a b n (none, o, ia, ib, r)
inductive LoS (rk : Value → Nat) (T : List Keyed) (a b : Array Keyed) (n : Nat) {β : Type} : Option (Array Keyed) × Array Keyed × Nat × Nat × β → Prop
  | go {o : Array Keyed} {ia ib : Nat} {r : β} : ML rk T a b o ia ib → ia + 1 < a.size → ib < b.size → n ≤ ia + ib → LoS rk T a b n (none, o, ia, ib, r)
  | stop {m o : Array Keyed} {ia ib : Nat} {r : β} : Fine1 rk T m → LoS rk T a b n (some m, o, ia, ib, r)
section
variable {prog : Program} {w : World} {A : Around} {E : Value → Shared → Prop} {s : Shared} {κ : SortKind} {rk : Value → Nat} {D : List Keyed} {st : SortSt} {xs ys : Array Keyed}
theorem Same.refl : Same st st := ⟨rfl, rfl, rfl, rfl⟩
theorem Same.tr {st1 st2 st3 : SortSt} (h : Same st1 st2) (g : Same st2 st3) : Same st1 st3 := ⟨g.1.trans h.1, g.2.1.trans h.2.1, g.2.2.1.trans h.2.2.1, g.2.2.2.trans h.2.2.2⟩
theorem wpS_mod {f : SortSt → SortSt} {Q : PUnit → SortSt → Prop} {M : Model} (hf : Same st (f st)) (h : ∀ st2, Same st st2 → Q ⟨⟩ st2) : wpS M A E s (modify f : StateT SortSt Sem PUnit) Q st := wpS_modify (h _ hf)
theorem wpS_ite {α : Type} {c : Prop} [Decidable c] {x y : StateT SortSt Sem α} {Q : α → SortSt → Prop} {M : Model} (h1 : c → wpS M A E s x Q st) (h2 : ¬ c → wpS M A E s y Q st) : wpS M A E s (if c then x else y) Q st := by
  by_cases h : c
  · rw [if_pos h]; exact h1 h
  · rw [if_neg h]; exact h2 h
theorem lt_of_ne {i n : Nat} (h : i < n) (e : ¬ (i + 1 == n) = true) : i + 1 < n := Nat.lt_of_le_of_ne h (fun q => e (by rw [q]; exact beq_self_eq_true n))
set_option tactic.hygienic true in
theorem mergeLo_ok (O : SOk prog w A s κ rk D) (hk : kindOf st = κ) {a b : Array Keyed} {Q : Array Keyed → SortSt → Prop} (ma : ∀ p ∈ a, p ∈ D) (mb : ∀ p ∈ b, p ∈ D) (ua : Up rk a 0 a.size) (ub : Up rk b 0 b.size) (dis : ∀ x ∈ a, ∀ y ∈ b, rk x.1 ≠ rk y.1)
    (ha : 0 < a.size) (hb : 0 < b.size) {T : List Keyed} (h1 : ML rk T a b #[b[0]] 0 1) (hl : ∀ (i : Nat) (hi : i < a.size), i + 1 = a.size → ∀ y ∈ b.toList, rk y.1 < rk (a[i]).1)
    (h : ∀ m st', Same st st' → Fine1 rk T m → Q m st') : wpS (model prog w) A E s (mergeLo1 a b) Q st := by
  unfold mergeLo1
  refine wpS_bind (wpS_lift (wpAny_rule ⟨rfl, ?_⟩))
  extract_lets -merge total done lastOfA
  have hdone : ∀ o ia ib, ML rk T a b o ia ib → a.size ≤ ia ∨ b.size ≤ ib → Fine1 rk T (done o ia ib) := fun o ia ib g e => g.done e
  have hlast : ∀ o ia ib, ML rk T a b o ia ib → ia + 1 = a.size → ib ≤ b.size → Fine1 rk T (lastOfA o ia ib) := fun o ia ib g e e2 => g.last e e2 (hl ia (by exact (Nat.le_of_eq e)) e)
  have htot : total = a.size + b.size := rfl
  clear_value total done lastOfA
  refine wpS_bind (elem_ok hb ?_)
  extract_lets -merge out ia ib
  by_cases e1 : 1 = b.size
  · refine Eq.mpr (congrArg (fun m => wpS (model prog w) A E s m Q st) (if_pos (by rw [← e1]; rfl))) (wpS_pure (h _ st Same.refl (hdone _ _ _ h1 (.inr (by lia)))))
  refine Eq.mpr (congrArg (fun m => wpS (model prog w) A E s m Q st) (if_neg (by simpa using e1))) ?_
  by_cases e2 : 0 + 1 = a.size
  · refine Eq.mpr (congrArg (fun m => wpS (model prog w) A E s m Q st) (if_pos (by rw [← e2]; rfl))) (wpS_pure (h _ st Same.refl (hlast _ _ _ h1 e2 (by lia))))
  refine Eq.mpr (congrArg (fun m => wpS (model prog w) A E s m Q st) (if_neg (by simpa using e2))) ?_
  refine wpS_bind (wpS_get ?_)
  extract_lets -merge minG
  refine wpS_bind (wpS_mono (wpS_forRange (I := fun x c st' => Same st st' ∧ LoG rk T a b (x + 1) c) (Q := fun c st' => Same st st' ∧ LoS rk T a b (total + 1) c) ?step ?fin ⟨Same.refl, .go h1 (by lia) (by lia) (Nat.le_refl 1)⟩) ?post)
  case post =>
    rintro c st' ⟨hs, hc⟩
    cases hc with
    | go g b1 b2 b3 => lia
    | stop g => exact wpS_pure (h _ st' hs g)
  case fin =>
    rintro c st' ⟨hs, hc⟩
    cases hc with
    | go g b1 b2 b3 => lia
  case step =>
    rintro x c st' _ hx ⟨hs, ⟨g, b1, b2, b3⟩⟩
    rename_i o ia ib mg
    have hk' : kindOf st' = κ := hs.1.trans hk
    clear h out h1
    refine wpS_bind (wpS_mono (wpS_forRange (I := fun i c st'' => st'' = st' ∧ LoG rk T a b (x + 1 + i) c) (Q := fun c st'' => st'' = st' ∧ LoS rk T a b (x + 2) c) ?step1 ?fin1 ⟨rfl, .go g b1 b2 b3⟩) ?post1)
    case fin1 =>
      rintro c st'' ⟨rfl, hc⟩
      cases hc with
      | go g b1 b2 b3 => lia
    case step1 =>
      rintro i c st'' _ hi ⟨rfl, ⟨g, b1, b2, b3⟩⟩
      rename_i o ia ib mg
      have b1' : ia < a.size := Nat.lt_of_succ_lt b1
      refine wpS_bind (elem_ok b2 (wpS_bind (elem_ok b1' (wpS_bind (lt_ok O (mb _ (Array.getElem_mem b2)) (ma _ (Array.getElem_mem b1')) hk' ?_)))))
      by_cases hlt : rk (b[ib]).1 < rk (a[ia]).1
      · rw [decide_eq_true hlt]
        refine wpS_bind (elem_ok b2 ?_)
        have g2 := (g.swap.pushA b2 b1' hlt).swap
        dsimp only
        refine wpS_ite (fun e => wpS_pure ⟨rfl, .stop (hdone _ _ _ g2 (.inr (Nat.le_of_eq (eq_of_beq e).symm)))⟩) fun e => wpS_ite (fun h => wpS_pure ⟨rfl, .go g2 b1 (lt_of_ne b2 e) (by exact qfl fun x => qfa2 x b3 (by simp +arith only))⟩) fun u => wpS_pure ⟨rfl, .go g2 b1 (lt_of_ne b2 e) (by exact Nat.lt_succ_of_le b3)⟩
      · rw [decide_eq_false hlt]
        have hlt2 : rk (a[ia]).1 < rk (b[ib]).1 := Nat.lt_of_le_of_ne (Nat.le_of_not_lt hlt) (dis _ (Array.getElem_mem b1') _ (Array.getElem_mem b2))
        refine wpS_bind (elem_ok b1' ?_)
        have g2 := g.pushA b1' b2 hlt2
        dsimp only
        refine wpS_ite (fun e => wpS_pure ⟨rfl, .stop (hlast _ _ _ g2 (eq_of_beq e) (Nat.le_of_lt b2))⟩) fun e => wpS_ite (fun h => wpS_pure ⟨rfl, .go g2 (lt_of_ne b1 e) b2 (by exact qfl fun x => qfa2 x b3 (by simp +arith only))⟩) fun u => wpS_pure ⟨rfl, .go g2 (lt_of_ne b1 e) b2 (by exact qfl fun x => qfa2 x b3 (by simp +arith only))⟩
    case post1 =>
      rintro c st'' ⟨rfl, hc⟩
      clear g b1 b2 b3
      rcases hc with ⟨g, b1, b2, b3⟩ | ⟨g⟩
      case stop => exact wpS_pure ⟨hs, .stop g⟩
      rename_i o ia ib r
      refine wpS_bind (wpS_lift (wpAny_rule ⟨rfl, ?_⟩))
      extract_lets -merge mg2
      refine wpS_bind (wpS_mono (wpS_forRange (I := fun i c st' => Same st st' ∧ LoG rk T a b (x + 2) c) (Q := fun c st' => Same st st' ∧ LoS rk T a b (x + 2) c) ?step2 ?fin2 ⟨hs, .go g b1 b2 b3⟩) ?post2)
      case fin2 =>
        rintro c st' ⟨hs, ⟨g, b1, b2, b3⟩⟩
        exact ⟨hs, .go g b1 b2 b3⟩
      case post2 =>
        rintro c st' ⟨hs, hc⟩
        rcases hc with ⟨g, b1, b2, b3⟩ | ⟨g⟩
        · exact wpS_bind (wpS_modify (wpS_pure ⟨hs, .go g b1 b2 b3⟩))
        · exact wpS_pure ⟨hs, .stop g⟩
      case step2 =>
        clear g b1 b2 b3 hs hk'
        rintro i c st' _ hi ⟨hs, ⟨g, b1, b2, b3⟩⟩
        rename_i o ia ib r
        extract_lets -merge q1 q2 q3 q4 q5 q6 q7 q8 q9 q10 q11 ib2 jp mg1
        generalize hQ : (fun (r : ForInStep (Option (Array Keyed) × Array Keyed × Nat × Nat × Nat × Nat × Nat)) (st' : SortSt) => (_ : Prop)) = Q'
        have hd : ∀ c st', Same st st' → LoS rk T a b (x + 2) c → Q' (.done c) st' := fun c st' q1 q2 => by rw [← hQ]; exact ⟨q1, q2⟩
        have hy : ∀ c st', Same st st' → LoG rk T a b (x + 2) c → Q' (.yield c) st' := fun c st' q1 q2 => by rw [← hQ]; exact ⟨q1, q2⟩
        clear hQ
        have hj : ∀ mg st', Same st st' → wpS (model prog w) A E s (jp () mg) Q' st' := by
          intro mg st' hs
          refine wpS_bind (wpS_mod ⟨rfl, rfl, rfl, rfl⟩ fun st2 hs2 => ?_)
          have hs := hs.tr hs2
          clear hs2
          refine wpS_bind (elem_ok b2 (wpS_bind (gallop_ok (base := ia) (n := a.size - ia) (hint := 0) O (hs.1.trans hk) (mb _ (Array.getElem_mem b2)) ma (by exact qfl fun x => qfa2 x (qfs2 (a.size) (ia) (by exact Nat.le_of_succ_le (Nat.le_of_lt b1))) (by simp +arith only)) (by exact qft fun x => qfa3 x b1 (qfs1 (a.size) (ia)) (by simp +arith only)) ?_ ?_ fun k k1 k2 k3 => ?_)))
          · exact fun i a1 a2 => ua i (Nat.zero_le _) (by exact qft fun x => qfa3 x a2 (qfs2 (a.size) (ia) (by exact Nat.le_of_succ_le (Nat.le_of_lt b1))) (by simp +arith only))
          · exact fun i a1 => by
              have q : ia + i < a.size := by exact qft fun x => qfa3 x (qfs2 (a.size) (ia) (by exact Nat.le_of_succ_le (Nat.le_of_lt b1))) a1 (by simp +arith only)
              rw [RR_at q]
              exact dis _ (Array.getElem_mem q) _ (Array.getElem_mem b2)
          dsimp -zeta only
          extract_lets -merge ac jp2 o4 ia4
          have hj2 : ∀ o ia, ML rk T a b o ia ib → (a1 : ia + 1 < a.size) → x + 2 ≤ ia + ib → rk (b[ib]).1 < rk (a[ia]'(Nat.lt_of_succ_lt a1)).1 → wpS (model prog w) A E s (jp2 () o ia) Q' st2 := by
            clear k1 k2 k3 g b1 b3
            intro o ia g b1 b3 hlt
            have b1' : ia < a.size := Nat.lt_of_succ_lt b1
            refine wpS_bind (elem_ok b2 ?_)
            have g2 := (g.swap.pushA b2 b1' hlt).swap
            extract_lets -merge o2 ia3
            refine wpS_ite (fun e => wpS_pure (hd _ _ hs (.stop (hdone _ _ _ g2 (.inr (Nat.le_of_eq (eq_of_beq e).symm)))))) fun e => ?_
            have b4 := lt_of_ne b2 e
            refine wpS_bind (elem_ok b1' (wpS_bind (gallop_ok (base := ib + 1) (n := b.size - (ib + 1)) (hint := 0) O (hs.1.trans hk) (ma _ (Array.getElem_mem b1')) mb (by exact qfl fun x => qfa2 x (qfs2 (b.size) (ib + 1) (by exact b2)) (by simp +arith only)) (by exact Nat.sub_pos_of_lt b4) ?_ ?_ fun k k1 k2 k3 => ?_)))
            · exact fun i a1 a2 => ub i (Nat.zero_le _) (by exact qft fun x => qfa3 x a2 (qfs2 (b.size) (ib + 1) (by exact b2)) (by simp +arith only))
            · exact fun i a1 => by
                have q : ib + 1 + i < b.size := by exact qft fun x => qfa3 x (qfs2 (b.size) (ib + 1) (by exact b2)) a1 (by simp +arith only)
                rw [RR_at q]
                exact Ne.symm (dis _ (Array.getElem_mem b1') _ (Array.getElem_mem q))
            dsimp -zeta only
            extract_lets -merge bc jp3 o4 ib4
            have hj3 : ∀ o ib, ML rk T a b o ia ib → (a1 : ib < b.size) → x + 1 ≤ ia + ib → rk (a[ia]).1 < rk (b[ib]).1 → wpS (model prog w) A E s (jp3 () o ib) Q' st2 := by
              clear k1 k2 k3 g g2 b3 b4 hlt e
              intro o ib g b2 b3 hlt
              refine wpS_bind (elem_ok b1' ?_)
              have g2 := g.pushA b1' b2 hlt
              refine wpS_ite (fun e => wpS_pure (hd _ _ hs (.stop (hlast _ _ _ g2 (eq_of_beq e) (Nat.le_of_lt b2))))) fun e => ?_
              have b3' : x + 2 ≤ ia + 1 + ib := by exact qfl fun x => qfa2 x b3 (by simp +arith only)
              exact wpS_ite (fun x => wpS_pure (hd _ _ hs (.go g2 (lt_of_ne b1 e) b2 b3'))) fun u => wpS_pure (hy _ _ hs (.go g2 (lt_of_ne b1 e) b2 b3'))
            clear_value jp3
            have nxt : ∀ j, ib + 1 ≤ j → (q : j < b.size) → ¬ RR rk b j < rk (a[ia]).1 → rk (a[ia]).1 < rk (b[j]).1 := fun j u q z => by
              rw [RR_at q] at z
              exact Nat.lt_of_le_of_ne (Nat.le_of_not_lt z) (dis _ (Array.getElem_mem b1') _ (Array.getElem_mem q))
            refine wpS_ite (fun hk0 => ?_) (fun hk0 => ?_)
            · have g3 := (g2.swap.extA (k := k) (by exact qfl fun x => qfa3 x (qfs2 (b.size) (ib + 1) (by exact b2)) k1 (by simp +arith only)) b1' k2).swap
              refine wpS_ite (fun e => wpS_pure (hd _ _ hs (.stop (hdone _ _ _ g3 (.inr (Nat.le_of_eq (eq_of_beq e).symm)))))) fun e => ?_
              have q : ib + 1 + k < b.size := Nat.lt_of_le_of_ne (by exact qfl fun x => qfa3 x (qfs2 (b.size) (ib + 1) (by exact b2)) k1 (by simp +arith only)) (fun z => e (by rw [← z]; exact beq_self_eq_true _))
              exact hj3 _ (ib + 1 + k) g3 q (by exact qfl fun x => qfa2 x b3 (by simp +arith only)) (nxt _ (by exact Nat.le_add_right _ _) q (k3 k (Nat.le_refl _) (by exact qft fun x => qfa3 x q (qfs1 (b.size) (ib + 1)) (by simp +arith only))))
            · have ek : k = 0 := by lia
              exact hj3 _ (ib + 1) g2 b4 (by exact qfl fun x => qfa2 x b3 (by simp +arith only)) (nxt _ (Nat.le_refl _) b4 (k3 0 (by exact (Nat.le_of_eq ek)) (by exact Nat.sub_pos_of_lt b4)))
          clear_value jp2
          have nxt : ∀ j, ia ≤ j → (q : j < a.size) → ¬ RR rk a j < rk (b[ib]).1 → rk (b[ib]).1 < rk (a[j]).1 := fun j u q z => by
            rw [RR_at q] at z
            exact Nat.lt_of_le_of_ne (Nat.le_of_not_lt z) (Ne.symm (dis _ (Array.getElem_mem q) _ (Array.getElem_mem b2)))
          refine wpS_ite (fun hk0 => ?_) (fun hk0 => ?_)
          · have g3 := g.extA (k := k) (by exact qfl fun x => qfa3 x (qfs2 (a.size) (ia) (by exact Nat.le_of_succ_le (Nat.le_of_lt b1))) k1 (by simp +arith only)) b2 k2
            refine wpS_ite (fun e => wpS_pure (hd _ _ hs (.stop (hlast _ _ _ g3 (eq_of_beq e) (Nat.le_of_lt b2))))) fun e => ?_
            refine wpS_ite (fun e => wpS_pure (hd _ _ hs (.stop (hdone _ _ _ g3 (.inl (Nat.le_of_eq (eq_of_beq e).symm)))))) fun e2 => ?_
            have q : ia + k < a.size := Nat.lt_of_le_of_ne (by exact qfl fun x => qfa3 x (qfs2 (a.size) (ia) (by exact Nat.le_of_succ_le (Nat.le_of_lt b1))) k1 (by simp +arith only)) (fun z => e2 (by rw [← z]; exact beq_self_eq_true _))
            exact hj2 _ (ia + k) g3 (lt_of_ne q e) (by exact qfl fun x => qfa2 x b3 (by simp +arith only)) (nxt _ (by exact Nat.le_add_right _ _) q (k3 k (Nat.le_refl _) (by exact qft fun x => qfa3 x q (qfs1 (a.size) (ia)) (by simp +arith only))))
          · exact hj2 _ ia g b1 b3 (nxt _ (Nat.le_refl _) (Nat.lt_of_succ_lt b1) (k3 0 (by lia) (by exact qft fun x => qfa3 x b1 (qfs1 (a.size) (ia)) (by simp +arith only))))
        clear_value jp
        exact wpS_ite (fun x => hj _ _ hs) (fun x => hj _ _ hs)
end
end Mine.Internal
end
section
set_option tactic.hygienic false
open PySem PySem.W PySem.Calls PyProof.Rows PySem.Spec
set_option maxRecDepth 100000
namespace Mine.Internal
section
variable {rk : Value → Nat} {T out la lb l1 : List Keyed} {a b o m : Array Keyed} {na nb : Nat}
noncomputable abbrev Dsc (rk : Value → Nat) : Keyed → Keyed → Prop := fun p q => rk q.1 < rk p.1
theorem Dsc.tr {x y z : Keyed} (h1 : Dsc rk x y) (h2 : Dsc rk y z) : Dsc rk x z := Nat.lt_trans h2 h1
noncomputable def MH (rk : Value → Nat) (T : List Keyed) (a b o : Array Keyed) (na nb : Nat) : Prop := MI (Dsc rk) T o.toList (a.toList.take na).reverse (b.toList.take nb).reverse
theorem take_at {n : Nat} (h0 : 0 < n) (h : n ≤ a.size) : (a.toList.take n).reverse = a[n - 1]'(by exact Nat.le_trans (qfs2 (n) (1) (by exact h0)) h) :: (a.toList.take (n - 1)).reverse := by
  obtain ⟨k, rfl⟩ : ∃ k, n = k + 1 := ⟨n - 1, by exact (Nat.sub_add_cancel h0).symm⟩
  have hk : k < a.toList.length := by rw [Array.length_toList]; exact h
  rw [List.take_succ_eq_append_getElem hk, List.reverse_append]
  rfl
theorem MH.swap (h : MH rk T a b o na nb) : MH rk T b a o nb na := MI.swap h
theorem MH.pushA (h : MH rk T a b o na nb) (ha0 : 0 < na) (ha : na ≤ a.size) (hb0 : 0 < nb) (hb : nb ≤ b.size) (hl : rk (b[nb - 1]'(by exact Nat.le_trans (qfs2 (nb) (1) (by exact hb0)) hb)).1 < rk (a[na - 1]'(by exact Nat.le_trans (qfs2 (na) (1) (by exact ha0)) ha)).1) : MH rk T a b (o.push (a[na - 1]'(by exact Nat.le_trans (qfs2 (na) (1) (by exact ha0)) ha))) (na - 1) nb := by
  unfold MH at h ⊢
  rw [Array.toList_push]
  rw [take_at ha0 ha] at h
  refine MI.adv (l1 := [a[na - 1]'(by exact Nat.le_trans (qfs2 (na) (1) (by exact ha0)) ha)]) h fun x hx y hy => ?_
  rw [List.mem_singleton.mp hx]
  exact h.le (take_at hb0 hb) (fun x x x => Dsc.tr) hl hy
theorem MH.extA (h : MH rk T a b o na nb) {k : Nat} (hk : k ≤ na) (ha : na ≤ a.size) (hb0 : 0 < nb) (hb : nb ≤ b.size) (hl : ∀ i, k ≤ i → i < na → rk (b[nb - 1]'(by exact Nat.le_trans (qfs2 (nb) (1) (by exact hb0)) hb)).1 < RR rk a i) : MH rk T a b (o ++ (a.extract k na).reverse) k nb := by
  unfold MH at h ⊢
  rw [Array.toList_append, Array.toList_reverse, Array.toList_extract, List.extract_eq_take_drop]
  have e : a.toList.take na = a.toList.take k ++ (a.toList.drop k).take (na - k) := by
    rw [← List.take_append_drop k (a.toList.take na), List.take_take, Nat.min_eq_left hk, List.drop_take]
  rw [e, List.reverse_append] at h
  refine h.adv fun x hx y hy => ?_
  refine h.le (take_at hb0 hb) (fun x x x => Dsc.tr) ?_ hy
  obtain ⟨i, hi, ex⟩ := List.mem_iff_getElem.mp (List.mem_reverse.mp hx)
  rw [List.length_take] at hi
  have hi1 : k + i < na := oAdd (oMinL hi)
  have := hl (k + i) (by exact Nat.le_add_right _ _) hi1
  rw [RR_at (show k + i < a.size by exact Nat.le_trans hi1 ha)] at this
  rw [← ex, List.getElem_take, List.getElem_drop, Array.getElem_toList]
  exact this
theorem MH.done (h : MH rk T a b o na nb) (e : na = 0 ∨ nb = 0) : Fine1 rk T (a.extract 0 na ++ b.extract 0 nb ++ o.reverse) := by
  have ex : ∀ (c : Array Keyed) i, (c.extract 0 i).toList = c.toList.take i := fun c i => by
    rw [Array.toList_extract, List.extract_eq_take_drop]; rfl
  have f := MI.fin h (by rcases e with rfl | rfl; exact .inl rfl; exact .inr rfl)
  have e2 : (a.extract 0 na ++ b.extract 0 nb ++ o.reverse).toList.reverse = o.toList ++ (b.toList.take nb).reverse ++ (a.toList.take na).reverse := by
    rw [Array.toList_append, Array.toList_append, ex, ex, Array.toList_reverse, List.reverse_append, List.reverse_reverse, List.reverse_append, List.append_assoc]
  refine ⟨(List.reverse_perm _).symm.trans ?_, ?_⟩
  · rw [e2]; exact (MI.swap h).perm
  · rw [← List.pairwise_reverse, e2]
    exact (MI.swap h).fin (by rcases e with rfl | rfl; exact .inr rfl; exact .inl rfl)
theorem MH.last (h : MH rk T a b o na nb) (ha : na ≤ a.size) (hb : nb = 1) (hb0 : 0 < b.size) (hl : ∀ i, i < a.size → rk (b[0]).1 < RR rk a i) : Fine1 rk T (b.extract 0 nb ++ a.extract 0 na ++ o.reverse) := by
  subst hb
  have h2 := h.extA (k := 0) (Nat.zero_le _) ha Nat.zero_lt_one (by exact hb0) fun i x hi => hl i (by exact Nat.le_trans hi ha)
  have h3 := h2.swap.done (.inr rfl)
  rw [Array.reverse_append, Array.reverse_reverse] at h3
  rw [show a.extract 0 0 = #[] by simp, Array.append_empty, ← Array.append_assoc] at h3
  exact h3
end
inductive HiG (rk : Value → Nat) (T : List Keyed) (a b : Array Keyed) (n : Nat) {β : Type} : Option (Array Keyed) × Nat × Nat × Array Keyed × β → Prop
  | go {o : Array Keyed} {na nb : Nat} {r : β} : MH rk T a b o na nb → 0 < na → 1 < nb → na ≤ a.size → nb ≤ b.size → n + na + nb ≤ a.size + b.size → HiG rk T a b n (none, na, nb, o, r)
inductive HiS (rk : Value → Nat) (T : List Keyed) (a b : Array Keyed) (n : Nat) {β : Type} : Option (Array Keyed) × Nat × Nat × Array Keyed × β → Prop
  | go {o : Array Keyed} {na nb : Nat} {r : β} : MH rk T a b o na nb → 0 < na → 1 < nb → na ≤ a.size → nb ≤ b.size → n + na + nb ≤ a.size + b.size → HiS rk T a b n (none, na, nb, o, r)
  | stop {m o : Array Keyed} {na nb : Nat} {r : β} : Fine1 rk T m → HiS rk T a b n (some m, na, nb, o, r)
theorem pos_of {n : Nat} (e : ¬ (n == 0) = true) : 0 < n := Nat.pos_of_ne_zero fun q => e (by rw [q]; rfl)
theorem one_of {n : Nat} (h : 0 < n) (e : ¬ (n == 1) = true) : 1 < n := Nat.lt_of_le_of_ne h fun q => e (by rw [← q]; rfl)
section
variable {prog : Program} {w : World} {A : Around} {E : Value → Shared → Prop} {s : Shared} {κ : SortKind} {rk : Value → Nat} {D : List Keyed} {st : SortSt} {xs ys : Array Keyed}
set_option tactic.hygienic true in
theorem mergeHi_ok (O : SOk prog w A s κ rk D) (hk : kindOf st = κ) {a b : Array Keyed} {Q : Array Keyed → SortSt → Prop} (ma : ∀ p ∈ a, p ∈ D) (mb : ∀ p ∈ b, p ∈ D) (ua : Up rk a 0 a.size) (ub : Up rk b 0 b.size) (dis : ∀ x ∈ a, ∀ y ∈ b, rk x.1 ≠ rk y.1)
    (ha : 0 < a.size) (hb : 0 < b.size) {T : List Keyed} (h1 : MH rk T a b #[a[a.size - 1]] (a.size - 1) b.size) (hl : ∀ i, i < a.size → rk (b[0]).1 < RR rk a i)
    (h : ∀ m st', Same st st' → Fine1 rk T m → Q m st') : wpS (model prog w) A E s (mergeHi1 a b) Q st := by
  unfold mergeHi1
  refine wpS_bind (wpS_lift (wpAny_rule ⟨rfl, ?_⟩))
  extract_lets -merge total done firstB na nb
  have hdone : ∀ o na nb, MH rk T a b o na nb → na = 0 ∨ nb = 0 → Fine1 rk T (done o na nb) := fun o na nb g e => g.done e
  have hlast : ∀ o na nb, MH rk T a b o na nb → na ≤ a.size → nb = 1 → Fine1 rk T (firstB o na nb) := fun o na nb g e e2 => g.last e e2 hb hl
  have htot : total = a.size + b.size := rfl
  have hna : a.size - 1 < a.size := by exact (qfs2 (a.size) (1) (by exact ha))
  clear_value total done firstB
  refine wpS_bind (elem_ok hna ?_)
  extract_lets -merge out
  refine wpS_ite (fun e => wpS_pure (h _ st Same.refl (hdone _ _ _ h1 (.inl (eq_of_beq e))))) fun e1 => ?_
  refine wpS_ite (fun e => wpS_pure (h _ st Same.refl (hlast _ _ _ h1 (Nat.le_of_lt hna) (eq_of_beq e)))) fun e2 => ?_
  refine wpS_bind (wpS_get ?_)
  extract_lets -merge minG
  refine wpS_bind (wpS_mono (wpS_forRange (I := fun x c st' => Same st st' ∧ HiG rk T a b (x + 1) c) (Q := fun c st' => Same st st' ∧ HiS rk T a b (total + 1) c) ?step ?fin ⟨Same.refl, .go h1 (pos_of e1) (one_of hb e2) (Nat.le_of_lt hna) (Nat.le_refl _) (by lia)⟩) ?post)
  case post =>
    rintro c st' ⟨hs, hc⟩
    cases hc with
    | go g b1 b2 b3 b4 b5 => lia
    | stop g => exact wpS_pure (h _ st' hs g)
  case fin =>
    rintro c st' ⟨hs, hc⟩
    cases hc with
    | go g b1 b2 b3 b4 b5 => lia
  case step =>
    rintro x c st' _ hx ⟨hs, ⟨g, b1, b2, b3, b4, b5⟩⟩
    rename_i o na nb mg
    have hk' : kindOf st' = κ := hs.1.trans hk
    clear h out h1 hna e1 e2
    refine wpS_bind (wpS_mono (wpS_forRange (I := fun i c st'' => st'' = st' ∧ HiG rk T a b (x + 1 + i) c) (Q := fun c st'' => st'' = st' ∧ HiS rk T a b (x + 2) c) ?step1 ?fin1 ⟨rfl, .go g b1 b2 b3 b4 b5⟩) ?post1)
    case fin1 =>
      rintro c st'' ⟨rfl, hc⟩
      cases hc with
      | go g b1 b2 b3 b4 b5 => lia
    case step1 =>
      rintro i c st'' _ hi ⟨rfl, ⟨g, b1, b2, b3, b4, b5⟩⟩
      rename_i o na nb mg
      have c1 : nb - 1 < b.size := by exact Nat.le_trans (qfs2 (nb) (1) (by exact Nat.le_of_lt b2)) b4
      have c2 : na - 1 < a.size := by exact Nat.le_trans (qfs2 (na) (1) (by exact b1)) b3
      refine wpS_bind (elem_ok c1 (wpS_bind (elem_ok c2 (wpS_bind (lt_ok O (mb _ (Array.getElem_mem c1)) (ma _ (Array.getElem_mem c2)) hk' ?_)))))
      by_cases hlt : rk (b[nb - 1]).1 < rk (a[na - 1]).1
      · rw [decide_eq_true hlt]
        refine wpS_bind (elem_ok c2 ?_)
        have g2 := g.pushA b1 b3 (Nat.lt_of_succ_lt b2) b4 hlt
        have c3 : x + 2 + (na - 1) + nb ≤ a.size + b.size := by exact qfl fun x => qfa3 x b5 (qfs2 (na) (1) (by exact b1)) (by simp +arith only)
        have c4 : x + 1 + (i + 1) + (na - 1) + nb ≤ a.size + b.size := by exact qfl fun x => qfa3 x b5 (qfs2 (na) (1) (by exact b1)) (by simp +arith only)
        dsimp only
        refine wpS_ite (fun e => wpS_pure ⟨rfl, .stop (hdone _ _ _ g2 (.inl (eq_of_beq e)))⟩) fun e => wpS_ite (fun x => wpS_pure ⟨rfl, .go g2 (pos_of e) b2 (Nat.le_of_lt c2) b4 c3⟩) fun u => wpS_pure ⟨rfl, .go g2 (pos_of e) b2 (Nat.le_of_lt c2) b4 c4⟩
      · rw [decide_eq_false hlt]
        have hlt2 : rk (a[na - 1]).1 < rk (b[nb - 1]).1 := Nat.lt_of_le_of_ne (Nat.le_of_not_lt hlt) (dis _ (Array.getElem_mem c2) _ (Array.getElem_mem c1))
        refine wpS_bind (elem_ok c1 ?_)
        have g2 := (g.swap.pushA (Nat.lt_of_succ_lt b2) b4 b1 b3 hlt2).swap
        have c3 : x + 2 + na + (nb - 1) ≤ a.size + b.size := by exact qfl fun x => qfa3 x b5 (qfs2 (nb) (1) (by exact Nat.le_of_lt b2)) (by simp +arith only)
        have c4 : x + 1 + (i + 1) + na + (nb - 1) ≤ a.size + b.size := by exact qfl fun x => qfa3 x b5 (qfs2 (nb) (1) (by exact Nat.le_of_lt b2)) (by simp +arith only)
        have c5 : 0 < nb - 1 := Nat.sub_pos_of_lt b2
        dsimp only
        refine wpS_ite (fun e => wpS_pure ⟨rfl, .stop (hlast _ _ _ g2 b3 (eq_of_beq e))⟩) fun e => wpS_ite (fun x => wpS_pure ⟨rfl, .go g2 b1 (one_of c5 e) b3 (Nat.le_of_lt c1) c3⟩) fun u => wpS_pure ⟨rfl, .go g2 b1 (one_of c5 e) b3 (Nat.le_of_lt c1) c4⟩
    case post1 =>
      rintro c st'' ⟨rfl, hc⟩
      clear g b1 b2 b3 b4 b5
      rcases hc with ⟨g, b1, b2, b3, b4, b5⟩ | ⟨g⟩
      case stop => exact wpS_pure ⟨hs, .stop g⟩
      rename_i o na nb r
      refine wpS_bind (wpS_lift (wpAny_rule ⟨rfl, ?_⟩))
      extract_lets -merge mg2
      refine wpS_bind (wpS_mono (wpS_forRange (I := fun i c st' => Same st st' ∧ HiG rk T a b (x + 2) c) (Q := fun c st' => Same st st' ∧ HiS rk T a b (x + 2) c) ?step2 ?fin2 ⟨hs, .go g b1 b2 b3 b4 b5⟩) ?post2)
      case fin2 =>
        rintro c st' ⟨hs, ⟨g, b1, b2, b3, b4, b5⟩⟩
        exact ⟨hs, .go g b1 b2 b3 b4 b5⟩
      case post2 =>
        rintro c st' ⟨hs, hc⟩
        rcases hc with ⟨g, b1, b2, b3, b4, b5⟩ | ⟨g⟩
        · exact wpS_bind (wpS_modify (wpS_pure ⟨hs, .go g b1 b2 b3 b4 b5⟩))
        · exact wpS_pure ⟨hs, .stop g⟩
      case step2 =>
        clear g b1 b2 b3 b4 b5 hs hk'
        rintro i c st' _ hi ⟨hs, ⟨g, b1, b2, b3, b4, b5⟩⟩
        rename_i o na nb r
        extract_lets -merge q1 q2 q3 q4 q5 q6 q7 q8 q9 q10 q11 nb2 jp mg1
        generalize hQ : (fun (r : ForInStep (Option (Array Keyed) × Nat × Nat × Array Keyed × Nat × Nat × Nat)) (st' : SortSt) => (_ : Prop)) = Q'
        have hd : ∀ c st', Same st st' → HiS rk T a b (x + 2) c → Q' (.done c) st' := fun c st' q1 q2 => by rw [← hQ]; exact ⟨q1, q2⟩
        have hy : ∀ c st', Same st st' → HiG rk T a b (x + 2) c → Q' (.yield c) st' := fun c st' q1 q2 => by rw [← hQ]; exact ⟨q1, q2⟩
        clear hQ
        have hj : ∀ mg st', Same st st' → wpS (model prog w) A E s (jp () mg) Q' st' := by
          intro mg st' hs
          refine wpS_bind (wpS_mod ⟨rfl, rfl, rfl, rfl⟩ fun st2 hs2 => ?_)
          have hs := hs.tr hs2
          clear hs2
          have c1 : nb - 1 < b.size := by exact Nat.le_trans (qfs2 (nb) (1) (by exact Nat.le_of_lt b2)) b4
          refine wpS_bind (elem_ok c1 (wpS_bind (gallop_ok (base := 0) (n := na) (hint := na - 1) O (hs.1.trans hk) (mb _ (Array.getElem_mem c1)) ma (by exact Nat.le_trans (Nat.le_of_eq (Nat.add_comm _ _)) b3) (by exact (qfs2 (na) (1) (by exact b1))) ?_ ?_ fun k k1 k2 k3 => ?_)))
          · exact fun i a1 a2 => ua i a1 (by exact qft fun x => qfa3 x a2 b3 (by simp +arith only))
          · exact fun i a1 => by
              have q : 0 + i < a.size := by exact qft fun x => qfa3 x a1 b3 (by simp +arith only)
              rw [RR_at q]
              exact dis _ (Array.getElem_mem q) _ (Array.getElem_mem c1)
          dsimp -zeta only
          extract_lets -merge d ac jp2 o4
          have hj2 : ∀ na o, MH rk T a b o na nb → (a1 : 0 < na) → (a2 : na ≤ a.size) → x + 2 + na + nb ≤ a.size + b.size → rk (a[na - 1]'(by exact Nat.le_trans (qfs2 (na) (1) (by exact a1)) a2)).1 < rk (b[nb - 1]).1 → wpS (model prog w) A E s (jp2 () na o) Q' st2 := by
            clear k1 k2 k3 g b1 b3 b5
            intro na o g b1 b3 b5 hlt
            have c2 : na - 1 < a.size := by exact Nat.le_trans (qfs2 (na) (1) (by exact b1)) b3
            have c5 : 0 < nb - 1 := Nat.sub_pos_of_lt b2
            refine wpS_bind (elem_ok c1 ?_)
            have g2 := (g.swap.pushA (Nat.lt_of_succ_lt b2) b4 b1 b3 hlt).swap
            extract_lets -merge o2
            refine wpS_ite (fun e => wpS_pure (hd _ _ hs (.stop (hlast _ _ _ g2 b3 (eq_of_beq e))))) fun e => ?_
            have b6 := one_of c5 e
            refine wpS_bind (elem_ok c2 (wpS_bind (gallop_ok (base := 0) (n := nb - 1) (hint := nb - 1 - 1) O (hs.1.trans hk) (ma _ (Array.getElem_mem c2)) mb (by exact qfl fun x => qfa2 x c1 (by simp +arith only)) (by exact (qfs2 (nb - 1) (1) (by exact c5))) ?_ ?_ fun k k1 k2 k3 => ?_)))
            · exact fun i a1 a2 => ub i a1 (by exact qft fun x => qfa3 x a2 c1 (by simp +arith only))
            · exact fun i a1 => by
                have q : 0 + i < b.size := by exact qft fun x => qfa3 x a1 c1 (by simp +arith only)
                rw [RR_at q]
                exact Ne.symm (dis _ (Array.getElem_mem c2) _ (Array.getElem_mem q))
            dsimp -zeta only
            extract_lets -merge d bc jp3 o5 nb3
            have hj3 : ∀ nb o, MH rk T a b o na nb → (a1 : 1 < nb) → (a2 : nb ≤ b.size) → x + 2 + na + nb ≤ a.size + b.size → rk (b[nb - 1]'(by exact Nat.le_trans (qfs2 (nb) (1) (by exact Nat.le_of_lt a1)) a2)).1 < rk (a[na - 1]).1 → wpS (model prog w) A E s (jp3 () nb o) Q' st2 := by
              clear k1 k2 k3 g g2 b2 b4 b5 b6 hlt e c5
              intro nb o g b2 b4 b5 hlt
              refine wpS_bind (elem_ok c2 ?_)
              have g2 := g.pushA b1 b3 (Nat.lt_of_succ_lt b2) b4 hlt
              refine wpS_ite (fun e => wpS_pure (hd _ _ hs (.stop (hdone _ _ _ g2 (.inl (eq_of_beq e)))))) fun e => ?_
              have b6 : x + 2 + (na - 1) + nb ≤ a.size + b.size := by exact qfl fun x => qfa3 x b5 (qfs2 (na) (1) (by exact b1)) (by simp +arith only)
              exact wpS_ite (fun x => wpS_pure (hd _ _ hs (.go g2 (pos_of e) b2 (Nat.le_of_lt c2) b4 b6))) fun u => wpS_pure (hy _ _ hs (.go g2 (pos_of e) b2 (Nat.le_of_lt c2) b4 b6))
            clear_value jp3
            have c6 : nb - 1 ≤ b.size := Nat.le_of_lt c1
            have nxt : ∀ j, k ≤ j → j < nb - 1 → rk (a[na - 1]).1 < RR rk b j := fun j q1 q2 => by
              have z := k3 j q1 q2
              rw [Nat.zero_add] at z
              have q3 : j < b.size := by exact Nat.lt_trans q2 c1
              rw [RR_at q3] at z ⊢
              exact Nat.lt_of_le_of_ne (Nat.le_of_not_lt z) (dis _ (Array.getElem_mem c2) _ (Array.getElem_mem q3))
            refine wpS_ite (fun hk0 => ?_) (fun hk0 => ?_)
            · have g3 := (g2.swap.extA k1 c6 b1 b3 nxt).swap
              refine wpS_ite (fun e => wpS_pure (hd _ _ hs (.stop (hlast _ _ _ g3 b3 (eq_of_beq e))))) fun e => ?_
              refine wpS_ite (fun e => wpS_pure (hd _ _ hs (.stop (hdone _ _ _ g3 (.inr (eq_of_beq e)))))) fun e2 => ?_
              have c7 : 0 < k := pos_of e2
              refine hj3 k _ g3 (one_of c7 e) (by exact Nat.le_of_lt (Nat.lt_of_le_of_lt k1 c1)) (by exact qfl fun x => qfa4 x b5 k1 (qfs2 (nb) (1) (by exact Nat.le_of_lt b2)) (by simp +arith only)) ?_
              have q : k - 1 < b.size := by exact qft fun x => qfa4 x (qfs2 (k) (1) (by exact c7)) k1 c1 (by simp +arith only)
              have z := k2 (k - 1) (by exact (qfs2 (k) (1) (by exact c7)))
              rw [Nat.zero_add, RR_at q] at z
              exact z
            · have ek : k = nb - 1 := oLastE k1 hk0
              refine hj3 (nb - 1) _ g2 b6 c6 (by exact qfl fun x => qfa3 x b5 (qfs2 (nb) (1) (qfl fun x => qfa2 x b2 (by simp +arith only))) (by simp +arith only)) ?_
              have q : nb - 1 - 1 < b.size := by exact Nat.lt_trans (qfs2 (nb - 1) (1) (qfl fun x => qfa2 x c5 (by simp +arith only))) c1
              have z := k2 (nb - 1 - 1) (by exact Nat.le_trans (qfs2 (nb - 1) (1) (qfl fun x => qfa2 x c5 (by simp +arith only))) (qfg ek))
              rw [Nat.zero_add, RR_at q] at z
              exact z
          clear_value jp2
          have nxt : ∀ j, k ≤ j → j < na → rk (b[nb - 1]).1 < RR rk a j := fun j q1 q2 => by
            have z := k3 j q1 q2
            rw [Nat.zero_add] at z
            have q3 : j < a.size := by exact Nat.le_trans q2 b3
            rw [RR_at q3] at z ⊢
            exact Nat.lt_of_le_of_ne (Nat.le_of_not_lt z) (Ne.symm (dis _ (Array.getElem_mem q3) _ (Array.getElem_mem c1)))
          refine wpS_ite (fun hk0 => ?_) (fun hk0 => ?_)
          · have g3 := g.extA k1 b3 (Nat.lt_of_succ_lt b2) b4 nxt
            refine wpS_ite (fun e => wpS_pure (hd _ _ hs (.stop (hdone _ _ _ g3 (.inl (eq_of_beq e)))))) fun e => ?_
            refine hj2 k _ g3 (pos_of e) (by exact Nat.le_trans k1 b3) (by exact qfl fun x => qfa3 x b5 k1 (by simp +arith only)) ?_
            have q : k - 1 < a.size := Nat.lt_of_lt_of_le (Nat.sub_one_lt_of_lt (pos_of e)) (Nat.le_trans k1 b3)
            have z := k2 (k - 1) (Nat.sub_one_lt_of_lt (pos_of e))
            rw [Nat.zero_add, RR_at q] at z
            exact z
          · have ek : k = na := oLastE k1 hk0
            refine hj2 na _ g b1 b3 b5 ?_
            have q : na - 1 < a.size := by exact Nat.le_trans (qfs2 (na) (1) (qfl fun x => qfa2 x b1 (by simp +arith only))) b3
            have z := k2 (na - 1) (by exact Nat.le_trans (qfs2 (na) (1) (qfl fun x => qfa2 x b1 (by simp +arith only))) (qfg ek))
            rw [Nat.zero_add, RR_at q] at z
            exact z
        clear_value jp
        exact wpS_ite (fun x => hj _ _ hs) (fun x => hj _ _ hs)
end
end Mine.Internal
end
section
set_option tactic.hygienic false
open PySem PySem.W PySem.Calls PyProof.Rows PySem.Spec
set_option maxRecDepth 100000
namespace Mine.Internal
section
variable {rk : Value → Nat} {T out la lb l1 : List Keyed} {a b o m : Array Keyed} {na nb : Nat}
theorem put_list (sa : Nat) : ∀ (l : List Keyed) (j : Nat) (xs : Array Keyed), sa + j + l.length ≤ xs.size →
    ((l.zipIdx j).foldl (fun (a : Array Keyed) (x : Keyed × Nat) => a.setIfInBounds (sa + x.2) x.1) xs).toList = xs.toList.take (sa + j) ++ l ++ xs.toList.drop (sa + j + l.length)
  | [], j, xs, h => by
    show xs.toList = _
    rw [List.append_nil, List.length_nil, Nat.add_zero, List.take_append_drop]
  | p :: l, j, xs, h => by
    rw [List.length_cons] at h
    rw [List.zipIdx_cons, List.foldl_cons]
    have ih := put_list sa l (j + 1) (xs.setIfInBounds (sa + j) p) (by rw [Array.size_setIfInBounds]; exact qfl fun x => qfa2 x h (by simp +arith only))
    show (List.foldl _ (xs.setIfInBounds (sa + j) p) _).toList = _
    rw [ih, Array.toList_setIfInBounds, List.set_eq_take_append_cons_drop, if_pos (by rw [Array.length_toList]; exact Nat.lt_of_le_of_lt (Nat.le_add_right _ _) h)]
    have hl : (xs.toList.take (sa + j)).length = sa + j := by rw [List.length_take, Array.length_toList]; lia
    have e1 : (xs.toList.take (sa + j) ++ p :: xs.toList.drop (sa + j + 1)).take (sa + (j + 1)) = xs.toList.take (sa + j) ++ [p] := by
      rw [List.take_append, hl, List.take_of_length_le (by rw [hl]; exact (by exact Nat.le_succ _)), show sa + (j + 1) - (sa + j) = 1 by exact Nat.le_antisymm (qfl fun x => qfa2 x (qfs2 (sa + (j + 1)) (sa + j) (by exact Nat.le_succ _)) (by simp +arith only)) (qfl fun x => qfa2 x (qfs1 (sa + (j + 1)) (sa + j)) (by simp +arith only))]; rfl
    have e2 : (xs.toList.take (sa + j) ++ p :: xs.toList.drop (sa + j + 1)).drop (sa + (j + 1) + l.length) = xs.toList.drop (sa + j + (p :: l).length) := by
      rw [List.drop_append, hl, List.drop_of_length_le (by rw [hl]; exact qfl fun x => qfa1 x (by simp +arith only)), show sa + (j + 1) + l.length - (sa + j) = l.length + 1 by exact Nat.le_antisymm (qfl fun x => qfa2 x (qfs2 (sa + (j + 1) + l.length) (sa + j) (qfl fun x => qfa1 x (by simp +arith only))) (by simp +arith only)) (qfl fun x => qfa2 x (qfs1 (sa + (j + 1) + l.length) (sa + j)) (by simp +arith only)), List.drop_succ_cons, List.drop_drop, List.nil_append, List.length_cons]
      congr 1; exact (by exact Nat.add_right_comm _ _ _)
    rw [e1, e2, List.append_assoc, List.append_assoc, List.append_assoc]; rfl
theorem Up.pw {lo n : Nat} (h : Up rk a lo (lo + n)) (hs : lo + n ≤ a.size) : (a.extract lo (lo + n)).toList.Pairwise (Asc rk) := by
  rw [List.pairwise_iff_getElem]
  intro i j hi hj hij
  have z : (a.extract lo (lo + n)).toList.length = n := by rw [Array.length_toList, Array.size_extract]; exact oExt hs
  rw [z] at hi hj
  have := h.lt' (i := lo + i) (j := lo + j) (by exact Nat.le_add_right _ _) (by exact Nat.add_le_add_left hij _) (by exact Nat.add_le_add_left hj _)
  rw [RR_at (by exact Nat.le_trans (Nat.add_le_add_left hi _) hs), RR_at (by exact Nat.le_trans (Nat.add_le_add_left hj _) hs)] at this
  rw [Array.getElem_toList, Array.getElem_toList, Array.getElem_extract, Array.getElem_extract]
  exact this
theorem Up.ext {lo hi n : Nat} (h : Up rk a lo hi) {k : Nat} (h1 : lo ≤ k) (h2 : k + n ≤ hi) (hs : k + n ≤ a.size) : Up rk (a.extract k (k + n)) 0 (a.extract k (k + n)).size := fun i y b => by
  have z : (a.extract k (k + n)).size = n := by rw [Array.size_extract]; exact oExt hs
  rw [z] at b
  have := h (k + i) (by exact Nat.le_trans h1 (Nat.le_add_right _ _)) (by exact Nat.le_trans (Nat.add_le_add_left b _) h2)
  rw [RR_at (by rw [z]; exact Nat.le_of_lt b), RR_at (by rw [z]; exact b), Array.getElem_extract, Array.getElem_extract]
  rw [RR_at (by exact qft fun x => qfa3 x hs b (by simp +arith only)), RR_at (by exact Nat.le_trans (Nat.add_le_add_left b _) hs)] at this
  exact this
end
section
variable {prog : Program} {w : World} {A : Around} {E : Value → Shared → Prop} {s : Shared} {κ : SortKind} {rk : Value → Nat} {D : List Keyed} {st : SortSt} {xs ys : Array Keyed}
theorem wpS_set {σ : Type} {x y : σ} {Q : PUnit → σ → Prop} {M : Model} (h : Q ⟨⟩ x) : wpS M A E s (set x : StateT σ Sem PUnit) Q y := by
  unfold wpS; rw [StateT.run_set]; exact wpAny_pure ⟨rfl, h⟩
theorem SB.mem (B : SB κ D st) : ∀ p ∈ arrOf st, p ∈ D := fun p h => B.perm.mem_iff.mp (Array.mem_toList_iff.mpr h)
theorem merge_pw {P X Y Z M : List Keyed} (h1 : (P ++ X).Pairwise (Asc rk)) (h2 : (Y ++ Z).Pairwise (Asc rk)) (hM : M.Perm (X ++ Y)) (hs : M.Pairwise (Asc rk)) (hPY : ∀ p ∈ P, ∀ y ∈ Y ++ Z, Asc rk p y) (hXZ : ∀ x ∈ X, ∀ z ∈ Z, Asc rk x z) : (P ++ M ++ Z).Pairwise (Asc rk) := by
  have a1 := List.pairwise_append.mp h1
  have a2 := List.pairwise_append.mp h2
  refine List.pairwise_append.mpr ⟨List.pairwise_append.mpr ⟨a1.1, hs, fun p hp m hm => ?_⟩, a2.2.1, fun q hq z hz => ?_⟩
  · rcases List.mem_append.mp (hM.mem_iff.mp hm) with hm | hm
    · exact a1.2.2 p hp m hm
    · exact hPY p hp m (List.mem_append_left _ hm)
  · rcases List.mem_append.mp hq with hq | hq
    · exact hPY q hq z (List.mem_append_right _ hz)
    · rcases List.mem_append.mp (hM.mem_iff.mp hq) with hm | hm
      · exact hXZ q hm z hz
      · exact a2.2.2 q hm z hz
theorem mem_ext {a : Array Keyed} {i j : Nat} {p : Keyed} (h : p ∈ (a.extract i j).toList) : ∃ z, i ≤ z ∧ z < j ∧ z < a.size ∧ rk p.1 = RR rk a z ∧ p ∈ a := by
  obtain ⟨z, hz, e⟩ := List.mem_iff_getElem.mp h
  rw [Array.length_toList, Array.size_extract] at hz
  have hz2 : i + z < a.size := oAddL hz
  rw [Array.getElem_toList, Array.getElem_extract] at e
  refine ⟨i + z, Nat.le_add_right _ _, oAddJ hz, hz2, ?_, ?_⟩
  · rw [RR_at hz2, e]
  · rw [← e]; exact Array.getElem_mem hz2
theorem ext_app {a : Array Keyed} {i j k : Nat} (h1 : i ≤ j) (h2 : j ≤ k) : (a.extract i j).toList ++ (a.extract j k).toList = (a.extract i k).toList := by
  rw [← Array.toList_append, Array.extract_append_extract, Nat.min_eq_left h1, Nat.max_eq_right h2]
theorem Up.all {a : Array Keyed} (h : Up rk a 0 (0 + a.size)) : a.toList.Pairwise (Asc rk) := by
  have := h.pw (by exact Nat.le_of_eq (Nat.add_comm _ _))
  rwa [Nat.zero_add, Array.extract_size] at this
theorem Up.join {a : Array Keyed} {n m : Nat} (h1 : Up rk a 0 (0 + n)) (h2 : Up rk a n (n + m)) (h : RR rk a (n - 1) < RR rk a n) : Up rk a 0 (0 + (n + m)) := fun i y b => by
  by_cases c1 : i + 1 < n
  · exact h1 i (Nat.zero_le _) (by exact Nat.le_trans c1 (Nat.le_add_left _ _))
  · by_cases c2 : i + 1 = n
    · rw [c2, show i = n - 1 by exact Nat.le_antisymm (by exact Nat.le_sub_one_of_lt (Nat.le_of_eq c2)) ((by exact Nat.le_of_lt_succ (Nat.lt_of_lt_of_le (qfs2 (n) (1) (qfl fun x => qfa2 x (Nat.le_of_eq c2) (by simp +arith only))) (Nat.le_of_not_lt c1))))]; exact h
    · exact h2 i (by lia) (by exact Nat.le_trans b (Nat.le_of_eq (Nat.add_comm _ _)))
theorem mergeAt_ok (O : SOk prog w A s κ rk D) (B : SB κ D st) {n1 n2 p1 p2 : Nat} {Q : Bool → SortSt → Prop} (hp : pendingOf st = #[(0, n1, p1), (n1, n2, p2)]) (hn : n1 + n2 = D.length) (h1 : 0 < n1) (h2 : 0 < n2) (u1 : Up rk (arrOf st) 0 (0 + n1)) (u2 : Up rk (arrOf st) n1 (n1 + n2))
    (h : ∀ st', SB κ D st' → pendingOf st' = #[(0, n1 + n2, p1)] → (arrOf st').toList.Pairwise (Asc rk) → Q true st') : wpS (model prog w) A E s (mergeAt' 0) Q st := by
  obtain ⟨kd, arr, pd, mg, fl⟩ := st
  have hz : arr.size = D.length := B.size
  have hmem : ∀ p ∈ arr, p ∈ D := B.mem
  have B1 : SB κ D (SortSt.mk' kd arr #[(0, n1 + n2, p1)] mg fl) := ⟨B.kind, B.failed, B.perm⟩
  have w1 : Up rk arr 0 (0 + n1) := u1
  have w2 : Up rk arr n1 (n1 + n2) := u2
  obtain rfl : pd = #[(0, n1, p1), (n1, n2, p2)] := hp
  have ne := fun i j => O.ne (i := i) (j := j) B1
  have ne : ∀ i j, i < j → j < D.length → RR rk arr i ≠ RR rk arr j := ne
  clear B u1 u2
  unfold mergeAt'
  refine wpS_bind (wpS_get ?_)
  dsimp -zeta only
  refine wpS_bind (wpS_set ?_)
  rw [show ((#[(0, n1, p1), (n1, n2, p2)] : Array (Nat × Nat × Nat)).setIfInBounds 0 (0, n1 + n2, p1)).eraseIdxIfInBounds (0 + 1) = #[(0, n1 + n2, p1)] by simp [Array.eraseIdxIfInBounds, Array.setIfInBounds, Array.eraseIdx]]
  have c1 : n1 < arr.size := by exact qft fun x => qfa4 x (Nat.le_of_eq hn) (qfg hz) h2 (by simp +arith only)
  refine wpS_bind (elem_ok c1 (wpS_bind (gallop_ok (base := 0) (n := n1) (hint := 0) O B1.kind (hmem _ (Array.getElem_mem c1)) hmem (by exact qfl fun x => qfa2 x c1 (by simp +arith only)) h1 w1 ?_ fun k k1 k2 k3 => ?_)))
  · exact fun i hi => by
      have := ne (0 + i) n1 (by exact qft fun x => qfa2 x hi (by simp +arith only)) (by exact Nat.le_trans (Nat.add_le_add_left h2 _) (Nat.le_of_eq hn))
      rwa [RR_at c1] at this
  rw [← RR_at (rk := rk) c1] at k2 k3
  dsimp -zeta only
  refine wpS_ite (fun e => wpS_pure (h _ B1 rfl ?_)) fun e => ?_
  · have ek : k = n1 := by have := eq_of_beq e; exact Nat.le_antisymm (by exact k1) (qfl fun x => qfa3 x (qfs1 (n1) (k)) (Nat.le_of_eq this) (by simp +arith only))
    refine Up.all (a := arr) ?_
    rw [hz, ← hn]
    refine w1.join w2 ?_
    have := k2 (n1 - 1) (by exact Nat.le_trans (qfs2 (n1) (1) (by exact h1)) (qfg ek))
    rwa [Nat.zero_add] at this
  have hk : k < n1 := by have := pos_of e; exact qft fun x => qfa3 x (qfs2 (n1) (k) (by exact k1)) this (by simp +arith only)
  have c2 : n1 - 1 < arr.size := by exact Nat.lt_trans (qfs2 (n1) (1) (by exact h1)) c1
  have c3 : 0 + k + (n1 - k) - 1 = n1 - 1 := oBack (Nat.le_of_lt hk)
  rw [c3]
  refine wpS_bind (elem_ok c2 (wpS_bind (gallop_ok (base := n1) (n := n2) (hint := n2 - 1) O B1.kind (hmem _ (Array.getElem_mem c2)) hmem (by exact Nat.le_trans (Nat.le_of_eq hn) (qfg hz)) (by exact (qfs2 (n2) (1) (by exact h2))) w2 ?_ fun l l1 l2 l3 => ?_)))
  · exact fun i hi => by
      have := ne (n1 - 1) (n1 + i) (by exact Nat.le_trans (qfs2 (n1) (1) (by exact h1)) (Nat.le_add_right _ _)) (by exact Nat.le_trans (Nat.add_le_add_left hi _) (Nat.le_of_eq hn))
      rw [RR_at c2] at this
      exact Ne.symm this
  rw [← RR_at (rk := rk) c2] at l2 l3
  dsimp -zeta only
  refine wpS_ite (fun e => wpS_pure (h _ B1 rfl ?_)) fun e => ?_
  · have el : l = 0 := eq_of_beq e
    refine Up.all (a := arr) ?_
    rw [hz, ← hn]
    refine w1.join w2 ?_
    have := l3 0 (Nat.le_of_eq el) h2
    rw [Nat.add_zero] at this
    exact Nat.lt_of_le_of_ne (Nat.le_of_not_lt this) (ne _ _ (by exact (qfs2 (n1) (1) (by exact h1))) (by exact Nat.le_trans (Nat.add_le_add_left h2 _) (Nat.le_of_eq hn)))
  have hl := pos_of e
  have k4 : ∀ i, k ≤ i → i < n1 → RR rk arr n1 < RR rk arr i := fun i a1 a2 => by
    have := k3 i a1 a2
    rw [Nat.zero_add] at this
    exact Nat.lt_of_le_of_ne (Nat.le_of_not_lt this) (Ne.symm (ne _ _ a2 (by exact Nat.le_trans (Nat.add_le_add_left h2 _) (Nat.le_of_eq hn))))
  have l4 : ∀ i, n1 + l ≤ i → i < n1 + n2 → RR rk arr (n1 - 1) < RR rk arr i := fun i a1 a2 => by
    have := l3 (i - n1) (by exact qfl fun x => qfa3 x a1 (qfs1 (i) (n1)) (by simp +arith only)) (by exact qft fun x => qfa3 x (qfs2 (i) (n1) (by exact Nat.le_trans (Nat.le_add_right _ _) a1)) a2 (by simp +arith only))
    rw [show n1 + (i - n1) = i by exact Nat.le_antisymm (qfl fun x => qfa2 x (qfs2 (i) (n1) (by exact Nat.le_trans (Nat.le_add_right _ _) a1)) (by simp +arith only)) (qfl fun x => qfa2 x (qfs1 (i) (n1)) (by simp +arith only))] at this
    exact Nat.lt_of_le_of_ne (Nat.le_of_not_lt this) (ne _ _ (by exact qft fun x => qfa3 x (qfs2 (n1) (1) (by exact h1)) a1 (by simp +arith only)) (by exact Nat.le_trans a2 (Nat.le_of_eq hn)))
  rw [Nat.zero_add] at *
  extract_lets -merge x y jp
  have hx : x = arr.extract k n1 := rfl
  have hy : y = arr.extract n1 (n1 + l) := rfl
  have hj : ∀ m st', Same (SortSt.mk' kd arr #[(0, n1 + n2, p1)] mg fl) st' → Fine1 rk (x.toList ++ y.toList) m → wpS (model prog w) A E s (jp m) Q st' := by
    rintro m ⟨kd', arr', pd', mg', fl'⟩ ⟨e1, e2, e3, e4⟩ ⟨f1, f2⟩
    obtain rfl : kd' = kd := e1
    obtain rfl : arr' = arr := e2
    obtain rfl : pd' = _ := e3
    obtain rfl : fl' = fl := e4
    have zm : m.toList.length = (n1 - k) + l := by
      rw [f1.length_eq, List.length_append, Array.length_toList, Array.length_toList, hx, hy, Array.size_extract, Array.size_extract]; exact oZm hk (by rw [hz, ← hn]; exact Nat.add_le_add_left l1 _)
    refine wpS_bind (wpS_modify (wpS_bind (wpS_get (wpS_pure ?_))))
    have hf : fl' = none := B1.failed
    rw [show (_ : Option Value).isNone = true from (congrArg Option.isNone hf)]
    have el := put_list k m.toList 0 arr' (by rw [zm]; exact qfl fun x => qfa5 x (qfs2 (n1) (k) (by exact k1)) l1 (Nat.le_of_eq hn) (qfg hz) (by simp +arith only))
    rw [zm, show k + 0 + (n1 - k + l) = n1 + l by exact Nat.le_antisymm (qfl fun x => qfa2 x (qfs2 (n1) (k) (by exact k1)) (by simp +arith only)) (qfl fun x => qfa2 x (qfs1 (n1) (k)) (by simp +arith only)), Nat.add_zero, show arr'.toList.take k = (arr'.extract 0 k).toList by rw [Array.toList_extract, List.extract_eq_take_drop]; rfl,
      show arr'.toList.drop (n1 + l) = (arr'.extract (n1 + l) (n1 + n2)).toList by rw [Array.toList_extract, List.extract_eq_take_drop, List.take_of_length_le (by rw [List.length_drop, Array.length_toList]; exact qfl fun x => qfa5 x (qfs2 (arr'.size) (n1 + l) (qfl fun x => qfa4 x (Nat.le_of_eq hn) (qfg hz) l1 (by simp +arith only))) (Nat.le_of_eq hz) (qfg hn) (qfs1 (n1 + n2) (n1 + l)) (by simp +arith only))]] at el
    have eA : (arr'.extract 0 k).toList ++ (x.toList ++ y.toList) ++ (arr'.extract (n1 + l) (n1 + n2)).toList = arr'.toList := by
      rw [hx, hy, ext_app (Nat.le_of_lt hk) (by exact Nat.le_add_right _ _), ext_app (by exact Nat.zero_le _) (by exact Nat.le_trans k1 (Nat.le_add_right _ _)), ext_app (by exact Nat.zero_le _) (by exact Nat.add_le_add_left l1 _), hn, ← hz, Array.extract_size]
    refine h _ ⟨B1.kind, B1.failed, ?_⟩ rfl ?_
    · refine List.Perm.trans ?_ B1.perm
      show List.Perm (List.foldl _ arr' (m.toList.zipIdx 0)).toList arr'.toList
      refine (List.Perm.of_eq el).trans ?_
      refine List.Perm.trans ?_ (List.Perm.of_eq eA)
      exact (f1.append_left _).append_right _
    · show List.Pairwise _ (List.foldl _ arr' (m.toList.zipIdx 0)).toList
      refine Eq.mpr (congrArg (List.Pairwise (Asc rk)) el) ?_
      refine merge_pw (X := x.toList) (Y := y.toList) ?_ ?_ f1 f2 ?_ ?_
      · rw [hx, ext_app (Nat.zero_le _) (Nat.le_of_lt hk)]
        have := Up.pw (rk := rk) (lo := 0) (n := n1) (a := arr') (by rw [Nat.zero_add]; exact w1) (by exact qfl fun x => qfa2 x c1 (by simp +arith only))
        rwa [Nat.zero_add] at this
      · rw [hy, ext_app (by exact Nat.le_add_right _ _) (by exact Nat.add_le_add_left l1 _)]
        exact w2.pw (by exact Nat.le_trans (Nat.le_of_eq hn) (qfg hz))
      · intro p hp y' hy'
        rw [hy, ext_app (by exact Nat.le_add_right _ _) (by exact Nat.add_le_add_left l1 _)] at hy'
        obtain ⟨z, _, z2, z3, z4, _⟩ := mem_ext (rk := rk) hp
        obtain ⟨z', v1, v2, v3, v4, _⟩ := mem_ext (rk := rk) hy'
        show rk p.1 < rk y'.1
        rw [z4, v4]
        have a1 := k2 z z2
        rw [Nat.zero_add] at a1
        rcases Nat.lt_or_eq_of_le v1 with v | v
        · exact Nat.lt_trans a1 (w2.lt' (Nat.le_refl _) v v2)
        · rw [← v]; exact a1
      · intro p hp y' hy'
        rw [hx] at hp
        obtain ⟨z, _, z2, z3, z4, _⟩ := mem_ext (rk := rk) hp
        obtain ⟨z', v1, v2, v3, v4, _⟩ := mem_ext (rk := rk) hy'
        show rk p.1 < rk y'.1
        rw [z4, v4]
        have a1 := l4 z' v1 v2
        rcases Nat.lt_or_eq_of_le (Nat.le_sub_one_of_lt z2) with v | v
        · exact Nat.lt_trans (w1.lt' (Nat.zero_le _) v (by exact (qfs2 (n1) (1) (by exact h1)))) a1
        · rw [v]; exact a1
  clear_value jp
  have zx : x.size = n1 - k := by rw [hx, Array.size_extract]; exact oExt2 (by rw [hz, ← hn]; exact Nat.le_add_right _ _)
  have zy : y.size = l := by rw [hy, Array.size_extract]; exact oExt (by rw [hz, ← hn]; exact Nat.add_le_add_left l1 _)
  have ux : Up rk x 0 x.size := by
    have := w1.ext (k := k) (n := n1 - k) (Nat.zero_le _) (by exact qfl fun x => qfa2 x (qfs2 (n1) (k) (by exact k1)) (by simp +arith only)) (by exact qfl fun x => qfa3 x (qfs2 (n1) (k) (by exact k1)) c1 (by simp +arith only))
    rwa [show k + (n1 - k) = n1 by exact Nat.add_sub_cancel' k1] at this
  have uy : Up rk y 0 y.size := w2.ext (Nat.le_refl _) (by exact Nat.add_le_add_left l1 _) (by exact qfl fun x => qfa4 x (Nat.le_of_eq hn) l1 (qfg hz) (by simp +arith only))
  have mx : ∀ p ∈ x, p ∈ D := fun p hp => let ⟨_, _, _, _, _, q⟩ := mem_ext (rk := rk) (Array.mem_toList_iff.mpr hp); hmem p q
  have my : ∀ p ∈ y, p ∈ D := fun p hp => let ⟨_, _, _, _, _, q⟩ := mem_ext (rk := rk) (Array.mem_toList_iff.mpr hp); hmem p q
  have dis : ∀ p ∈ x, ∀ q ∈ y, rk p.1 ≠ rk q.1 := fun p hp q hq => by
    obtain ⟨z, _, z2, z3, z4, _⟩ := mem_ext (rk := rk) (Array.mem_toList_iff.mpr hp)
    obtain ⟨z', v1, v2, v3, v4, _⟩ := mem_ext (rk := rk) (Array.mem_toList_iff.mpr hq)
    rw [z4, v4]
    exact ne _ _ (by exact Nat.le_trans z2 v1) (by exact Nat.le_trans v3 (Nat.le_of_eq hz))
  have Rx : ∀ i, i < n1 - k → RR rk x i = RR rk arr (k + i) := fun i hi => by
    rw [RR_at (a := x) (i := i) (by exact Nat.le_trans hi (qfg zx)), RR_at (a := arr) (i := k + i) (by exact qft fun x => qfa4 x (qfs2 (n1) (k) (qfl fun x => qfa2 x k1 (by simp +arith only))) hi c1 (by simp +arith only))]
    simp only [hx, Array.getElem_extract]
  have Ry : ∀ i, i < l → RR rk y i = RR rk arr (n1 + i) := fun i hi => by
    rw [RR_at (a := y) (i := i) (by exact Nat.le_trans hi (qfg zy)), RR_at (a := arr) (i := n1 + i) (by exact qft fun x => qfa5 x (Nat.le_of_eq hn) hi (qfg hz) l1 (by simp +arith only))]
    simp only [hy, Array.getElem_extract]
  clear_value x y
  have x0 : 0 < x.size := by exact qft fun x => qfa4 x hk (qfs1 (n1) (k)) (qfg zx) (by simp +arith only)
  have y0 : 0 < y.size := by exact Nat.le_trans hl (qfg zy)
  have m0 : MI (Asc rk) (x.toList ++ y.toList) [] x.toList y.toList := by
    refine ⟨List.Perm.refl _, ?_, ?_⟩
    · exact Up.all (by rwa [Nat.zero_add])
    · exact Up.all (by rwa [Nat.zero_add])
  refine wpS_ite (fun u => ?_) (fun u => ?_)
  · refine wpS_bind (mergeLo_ok O B1.kind mx my ux uy dis x0 y0 (T := x.toList ++ y.toList) ?_ ?_ hj)
    · have : ML rk (x.toList ++ y.toList) x y #[] 0 0 := m0
      refine (this.swap.pushA y0 x0 ?_).swap
      rw [← RR_at (rk := rk) y0, ← RR_at (rk := rk) x0, Rx 0 (by exact qft fun x => qfa3 x hk (qfs1 (n1) (k)) (by simp +arith only)), Ry 0 (by exact hl)]
      exact k4 _ (Nat.le_refl _) hk
    · intro i hi e2 q hq
      obtain ⟨j, hj1, e3⟩ := List.mem_iff_getElem.mp hq
      rw [Array.length_toList] at hj1
      rw [Array.getElem_toList] at e3
      rw [← e3, ← RR_at (rk := rk) hj1, ← RR_at (rk := rk) hi, Rx i (by exact Nat.le_trans hi (Nat.le_of_eq zx)), Ry j (by exact Nat.le_trans hj1 (Nat.le_of_eq zy)), show k + i = n1 - 1 by exact Nat.le_antisymm (qfl fun x => qfa5 x (qfs1 (k + (n1 - k)) (1)) hi (Nat.le_of_eq c3) (Nat.le_of_eq zx) (by simp +arith only)) (qfl fun x => qfa5 x (qfg c3) (qfs2 (k + (n1 - k)) (1) (qfl fun x => qfa3 x x0 (Nat.le_of_eq zx) (by simp +arith only))) (qfg zx) (qfg e2) (by simp +arith only))]
      exact l2 j (by exact Nat.le_trans hj1 (Nat.le_of_eq zy))
  · refine wpS_bind (mergeHi_ok O B1.kind mx my ux uy dis x0 y0 (T := x.toList ++ y.toList) ?_ ?_ hj)
    · have : MH rk (x.toList ++ y.toList) x y #[] x.size y.size := by
        unfold MH
        rw [List.take_of_length_le (by rw [Array.length_toList]; exact Nat.le_refl _), List.take_of_length_le (by rw [Array.length_toList]; exact Nat.le_refl _)]
        exact ⟨(List.reverse_perm _).append (List.reverse_perm _), List.pairwise_reverse.mpr m0.sa, List.pairwise_reverse.mpr m0.sb⟩
      refine this.pushA x0 (Nat.le_refl _) y0 (Nat.le_refl _) ?_
      rw [← RR_at (rk := rk) (show y.size - 1 < y.size by exact (qfs2 (y.size) (1) (qfl fun x => qfa2 x y0 (by simp +arith only)))), ← RR_at (rk := rk) (show x.size - 1 < x.size by exact (qfs2 (x.size) (1) (qfl fun x => qfa2 x x0 (by simp +arith only)))), Rx (x.size - 1) (by exact Nat.le_trans (qfs2 (x.size) (1) (qfl fun x => qfa2 x x0 (by simp +arith only))) (Nat.le_of_eq zx)), Ry (y.size - 1) (by exact Nat.le_trans (qfs2 (y.size) (1) (qfl fun x => qfa2 x y0 (by simp +arith only))) (Nat.le_of_eq zy)), show k + (x.size - 1) = n1 - 1 by lia]
      exact l2 (y.size - 1) (by exact Nat.le_trans (qfs2 (y.size) (1) (qfl fun x => qfa2 x y0 (by simp +arith only))) (Nat.le_of_eq zy))
    · intro i hi
      rw [← RR_at (rk := rk) y0, Rx i (by exact Nat.le_trans hi (Nat.le_of_eq zx)), Ry 0 (by exact hl)]
      exact k4 (k + i) (by exact Nat.le_add_right _ _) (by exact qft fun x => qfa4 x (qfs2 (n1) (k) (qfl fun x => qfa2 x k1 (by simp +arith only))) hi (Nat.le_of_eq zx) (by simp +arith only))
end
end Mine.Internal
end
section
set_option tactic.hygienic false
open PySem PySem.W PySem.Calls PyProof.Rows PySem.Spec
set_option maxRecDepth 100000
namespace Mine.Internal
section
variable {prog : Program} {w : World} {A : Around} {E : Value → Shared → Prop} {s : Shared} {κ : SortKind} {rk : Value → Nat} {D : List Keyed} {st : SortSt} {xs ys : Array Keyed}
inductive RunS (κ : SortKind) (rk : Value → Nat) (D : List Keyed) (mr : Nat) : Nat → SortSt → Prop
  | zero {st : SortSt} : SB κ D st → pendingOf st = #[] → RunS κ rk D mr 0 st
  | one {st : SortSt} {n : Nat} : SB κ D st → pendingOf st = #[(0, n, 0)] → 0 < n → mr ≤ n → n ≤ D.length → Up rk (arrOf st) 0 (0 + n) → RunS κ rk D mr n st
  | two {st : SortSt} {n1 n2 p : Nat} : SB κ D st → pendingOf st = #[(0, n1, p), (n1, n2, 0)] → 0 < n1 → 0 < n2 → n1 + n2 = D.length → Up rk (arrOf st) 0 (0 + n1) → Up rk (arrOf st) n1 (n1 + n2) → RunS κ rk D mr (n1 + n2) st
theorem sortRuns_ok (O : SOk prog w A s κ rk D) (B : SB κ D st) {mr : Nat} {Q : Unit → SortSt → Prop} (hp : pendingOf st = #[]) (hmr : minRun' D.length D.length 0 = mr) (m1 : 1 ≤ mr) (m2 : mr ≤ D.length) (m3 : D.length ≤ 2 * mr)
    (h : ∀ st', SB κ D st' → (arrOf st').toList.Pairwise (Asc rk) → Q () st') : wpS (model prog w) A E s sortRuns' Q st := by
  rw [sortRuns'_eq]
  refine wpS_bind (wpS_get ?_)
  rw [B.size]
  extract_lets -merge size minrun lo
  have hsz : size = D.length := rfl
  have hm : minrun = mr := hmr
  have hlo : lo = 0 := rfl
  clear_value size minrun lo
  subst hsz hm hlo
  clear hmr
  refine wpS_bind (wpS_mono (wpS_forRange (I := fun x c st' => ∃ lo, c = (none, lo) ∧ x ≤ lo ∧ RunS κ rk D minrun lo st') (Q := fun c st' => c = (none, D.length) ∧ RunS κ rk D minrun D.length st') ?step ?fin ⟨0, rfl, Nat.le_refl _, .zero B hp⟩) ?post)
  case fin =>
    rintro c st' ⟨lo, rfl, hx, hr⟩
    have e : lo = D.length := by
      have h1 : D.length ≤ lo := by lia
      cases hr with
      | zero => exact Nat.le_antisymm (by exact Nat.zero_le _) (by exact h1)
      | one _ _ _ _ z _ => exact (by exact Nat.le_antisymm z h1)
      | two _ _ _ _ z => exact (by exact z)
    subst e
    exact ⟨rfl, hr⟩
  case post =>
    rintro c st' ⟨rfl, hr⟩
    refine wpS_bind (wpS_mono (wpS_forRange (I := fun i c st3 => c = (none, ()) ∧ (i = 0 → RunS κ rk D minrun D.length st3) ∧ (0 < i → SB κ D st3 ∧ (pendingOf st3).size = 1 ∧ (arrOf st3).toList.Pairwise (Asc rk))) (Q := fun c st3 => c = (none, ()) ∧ SB κ D st3 ∧ (arrOf st3).toList.Pairwise (Asc rk)) ?st ?fi ⟨rfl, fun x => hr, fun h => absurd h (Nat.lt_irrefl 0)⟩) ?po)
    case po =>
      rintro c st3 ⟨rfl, B3, hs⟩
      exact wpS_pure (h st3 B3 hs)
    case fi =>
      rintro c st3 ⟨rfl, _, hc⟩
      obtain ⟨a1, _, a2⟩ := hc (by lia)
      exact ⟨rfl, a1, a2⟩
    case st =>
      rintro i c st3 _ hi ⟨rfl, h1, h2⟩
      refine wpS_bind (wpS_get ?_)
      rcases Nat.eq_zero_or_pos i with e | e
      · have hr3 := h1 e
        generalize hL : D.length = L at hr3
        cases hr3 with
        | zero _ _ => lia
        | one B3 hp3 z1 z2 z3 z4 =>
          rw [hp3]
          refine wpS_ite (fun y => wpS_pure ⟨rfl, B3, ?_⟩) fun q => absurd (Nat.le_refl 1) q
          subst hL
          refine Up.all ?_
          rwa [B3.size]
        | two B3 hp3 z1 z2 z3 z4 z5 =>
          rw [hp3]
          refine wpS_ite (fun q => absurd q (by show ¬ 2 ≤ 1; exact fun x => qfa1 x (by simp +arith only))) fun y => ?_
          refine wpS_bind (mergeAt_ok O B3 hp3 (by exact z3) z1 z2 z4 z5 fun st4 B4 hp4 hs4 => ?_)
          exact wpS_pure ⟨rfl, fun q => by lia, fun x => ⟨B4, by rw [hp4]; rfl, hs4⟩⟩
      · obtain ⟨a1, a2, a3⟩ := h2 e
        refine wpS_ite (fun x => wpS_pure ⟨rfl, a1, a3⟩) fun q => absurd (Nat.le_of_eq a2) q
  case step =>
    rintro x c st' _ hx ⟨lo, rfl, hxl, hr⟩
    dsimp -zeta only
    extract_lets -merge lo0 jp force nf
    have e0 : lo0 = lo := rfl
    clear_value lo0
    subst e0
    refine wpS_ite (fun hge => wpS_pure ?_) fun hge => ?_
    · have e : lo0 = D.length := by
        have h1 : D.length ≤ lo0 := hge
        cases hr with
        | zero => exact Nat.le_antisymm (by exact Nat.zero_le _) (by exact hge)
        | one _ _ _ _ z _ => exact (by exact Nat.le_antisymm z hge)
        | two _ _ _ _ z => exact (by exact z)
      exact ⟨by rw [e], e ▸ hr⟩
    · have hlt : lo0 < D.length := Nat.lt_of_not_le hge
      have B' : SB κ D st' := by cases hr <;> assumption
      refine wpS_bind (countRun_ok (rk := rk) O B' (lo := lo0) (nrem := D.length - lo0) (by exact qfl fun x => qfa2 x (qfs2 (D.length) (lo0) (by exact Nat.le_of_lt hlt)) (by simp +arith only)) (by exact Nat.sub_pos_of_lt hlt) fun m st2 B2 hp2 hR q1 q2 hu => ?_)
      dsimp -zeta only
      extract_lets -merge n0
      generalize hQ : (fun (r : ForInStep (Option Unit × Nat)) (st' : SortSt) => (_ : Prop)) = Q'
      have hy : ∀ n st2, x + 1 ≤ lo0 + n → RunS κ rk D minrun (lo0 + n) st2 → Q' (.yield (none, lo0 + n)) st2 := fun n st2 q1 q2 => by rw [← hQ]; exact ⟨_, rfl, q1, q2⟩
      clear hQ
      have hj : ∀ n st2, SB κ D st2 → pendingOf st2 = pendingOf st' → (∀ i, i < lo0 → RR rk (arrOf st2) i = RR rk (arrOf st') i) → 1 ≤ n → lo0 + n ≤ D.length → (lo0 = 0 → minrun ≤ n) → (0 < lo0 → lo0 + n = D.length) → Up rk (arrOf st2) lo0 (lo0 + n) → wpS (model prog w) A E s (jp () n) Q' st2 := by
        clear q1 q2 hu hR hp2 B2
        intro n st2 B2 hp2 hR q1 q2 q3 q4 hu
        refine wpS_bind (wpS_get ?_)
        rw [hp2]
        cases hr with
        | zero _ hp' =>
          rw [hp']
          refine wpS_bind (wpS_modify (wpS_pure (hy _ _ (by exact Nat.add_le_add hxl q1) ?_)))
          rw [Nat.zero_add] at *
          exact .one ⟨B2.kind, B2.failed, B2.perm⟩ (by show (pendingOf st2).push _ = _; rw [hp2, hp']; rfl) q1 (q3 rfl) q2 (by rwa [Nat.zero_add])
        | one _ hp' z1 z2 z3 z4 =>
          rw [hp']
          have hp3 : pendingOf st2 = #[(0, lo0, 0)] := hp2.trans hp'
          refine wpS_bind (wpS_mono (wpS_forRange (I := fun i c st3 => st3 = st2 ∧ c = (none, ())) (Q := fun c st3 => st3 = st2 ∧ c = (none, ())) ?st ?fi ⟨rfl, rfl⟩) ?po)
          case fi => exact fun c st3 h => h
          case st =>
            rintro i c st3 _ _ ⟨rfl, rfl⟩
            refine wpS_bind (wpS_get ?_)
            rw [hp3]
            exact wpS_pure ⟨rfl, rfl⟩
          case po =>
            rintro c st3 ⟨rfl, rfl⟩
            refine wpS_bind (wpS_modify (wpS_bind (wpS_modify (wpS_pure (hy _ _ (by exact Nat.add_le_add hxl q1) ?_)))))
            refine .two (n1 := lo0) (n2 := n) (p := _) ⟨B2.kind, B2.failed, B2.perm⟩ (show Array.push (Array.modify (pendingOf st3) _ _) _ = _ by rw [hp3]; rfl) z1 q1 (q4 z1) ?_ hu
            exact fun i a b => by
              have := z4 i a b
              rw [← hR i (by exact qft fun x => qfa2 x b (by simp +arith only)), ← hR (i + 1) (by exact Nat.le_trans b (Nat.le_of_eq (Nat.add_comm _ _)))] at this
              exact this
        | two _ _ z1 z2 z3 z4 => lia
      clear_value jp
      have hf : force = min (D.length - lo0) minrun := rfl
      have hnf : nf = force := rfl
      clear_value nf force
      subst hnf
      have z : 0 < lo0 → minrun ≤ lo0 := fun z => by
        cases hr with
        | zero => lia
        | one _ _ _ h1 _ _ => exact h1
        | two _ _ _ _ h1 => exact Nat.le_trans m2 (qfg h1)
      refine wpS_ite (fun hn => ?_) fun hn => ?_
      · refine wpS_bind (wpS_lift (wpAny_rule ⟨rfl, ?_⟩))
        have hn : m < minrun := hn
        refine wpS_bind (binarySort_ok (rk := rk) O B2 (lo := lo0) (n := nf) (ok := m) (by rw [hf]; exact oAddMin (Nat.le_of_lt hlt)) q1 (by rw [hf]; exact Nat.le_min.mpr ⟨q2, Nat.le_of_lt hn⟩) hu fun st3 B3 hp3 hR3 hu3 => ?_)
        refine wpS_ite (fun e => nomatch e) fun y => ?_
        exact hj nf st3 B3 (hp3.trans hp2) (fun i hi => (hR3 i hi).trans (hR i hi)) (by rw [hf]; exact Nat.le_trans q1 (Nat.le_min.mpr ⟨q2, Nat.le_of_lt hn⟩)) (by rw [hf]; exact oAddMin (Nat.le_of_lt hlt)) (fun e => by rw [hf, e]; exact Nat.le_min.mpr ⟨m2, Nat.le_refl _⟩) (fun e => by rw [hf]; exact oAddAll (Nat.le_of_lt hlt) (z e) m3) hu3
      · have hn : ¬ m < minrun := hn
        exact hj m st2 B2 hp2 hR q1 (by exact qfl fun x => qfa3 x (qfs2 (D.length) (lo0) (by exact Nat.le_of_lt hlt)) q2 (by simp +arith only)) (fun e => by exact (Nat.le_of_not_lt hn)) (fun e => by have := z e; exact Nat.le_antisymm (qfl fun x => qfa3 x (qfs2 (D.length) (lo0) (by exact Nat.le_of_lt hlt)) q2 (by simp +arith only)) (qfl fun x => qfa4 x m3 (Nat.le_of_not_lt hn) this (by simp +arith only))) hu
end
end Mine.Internal
end
section
set_option tactic.hygienic false
open PySem PySem.W PySem.Calls PyProof.Rows PySem.Spec
set_option maxRecDepth 100000
namespace Mine.Internal
section
variable {prog : Program} {w : World} {A : Around} {E : Value → Shared → Prop} {s : Shared} {R : Result → Shared → Prop} {I S : Addr} {n : Nat} {P : Nat → Value → Prop} {Ok : Nat → Obj → Prop} {Need : Heap → Prop}
theorem ext_loop (W : Iter prog w A.in1 I n P Ok Need) (hn : n ≤ sizeLine) (hSI : S ≠ I) (need : ∀ h h' : Heap, Need h → (∀ b o, b ≠ S → b ≠ I → h.get? b = some o → h'.get? b = some o) → Need h') (res : Value) :
    ∀ (k i : Nat) (s : Shared) (acc : Array Value) (c : Nat) (oI : Obj), n - i = k → i ≤ n → s.heap.get? I = some oI → Ok i oI → Need s.heap → s.heap.get? S = some (seqObj "list" acc c) → ItemsOf P acc i →
    (∀ h' tk acc' c', (∀ b o, b ≠ S → b ≠ I → s.heap.get? b = some o → h'.get? b = some o) → h'.get? S = some (seqObj "list" acc' c') → ItemsOf P acc' n → R (.ok (.ret res)) { s with heap := h', toks := tk }) →
    codeAny (model prog w) A (.builtin "list.extend.loop" ⟨[.ref S, .ref I, res], []⟩) R s := by
  intro k
  induction k with
  | zero =>
    intro i s acc c oI hk hi hI hO hN hS hacc hR
    obtain rfl : i = n := by exact Nat.le_antisymm (by exact hi) (qfl fun x => qfa3 x (qfs1 (n) (i)) (Nat.le_of_eq hk) (by simp +arith only))
    refine codeAny_builtin F.entry_extend_loop ?_
    rw [Around.under_plainId F.plain_extend_loop _]
    show wpAny _ A.in1 (pyNext (.ref I) >>= _) _ _ s
    refine wpAny_bind (W.stop s oI _ _ hI hO hN fun h' tk hm => ?_)
    exact wpAny_pure (hR h' tk acc c (fun b o h1 h2 e => hm b o h2 e) (hm S _ hSI hS) hacc)
  | succ k ih =>
    intro i s acc c oI hk hi hI hO hN hS hacc hR
    have hlt : i < n := by exact qft fun x => qfa3 x (qfs2 (n) (i) (by exact hi)) (qfg hk) (by simp +arith only)
    refine codeAny_builtin F.entry_extend_loop ?_
    rw [Around.under_plainId F.plain_extend_loop _]
    show wpAny _ A.in1 (pyNext (.ref I) >>= _) _ _ s
    refine wpAny_bind (W.next i s oI _ _ hlt hI hO hN fun v h' tk o' hP hI' hO' hm => ?_)
    have hS' : h'.get? S = some (seqObj "list" acc c) := (hm.2 S hSI).trans hS
    show wpAny _ A.in1 (updateSeq S (·.push v) >>= _) _ _ _
    refine wpAny_bind (wpAny_updateSeq hS' rfl (wpAny_pure ⟨plainId_quiet F.plain_extend_loop _, ?_⟩) (by rw [hacc.1]; exact Nat.le_trans hi hn) (by show (acc.push v).size ≤ sizeLine + 1; rw [Array.size_push, hacc.1]; exact qfl fun x => qfa3 x hi hn (by simp +arith only)))
    have keep : ∀ b o, b ≠ S → b ≠ I → s.heap.get? b = some o → (h'.update S (Obj.mapSeq (·.push v))).get? b = some o := fun b o h1 h2 e => (Heap.get?_update_other _ _ (Ne.symm h1)).trans ((hm.2 b h2).trans e)
    refine ih (i + 1) _ (acc.push v) _ o' (by exact Nat.le_antisymm (qfl fun x => qfa4 x (qfs2 (n) (i + 1) (by exact hlt)) (qfs1 (n) (i)) (Nat.le_of_eq hk) (by simp +arith only)) (by exact Nat.le_sub_one_of_lt (qfg hk))) hlt ((Heap.get?_update_other _ _ hSI).trans hI') hO' (need _ _ hN keep) (Heap.get?_update_self _ hS' rfl) (hacc.push hP) fun h2 tk2 acc' c' k2 hS2 hacc2 => ?_
    exact hR h2 tk2 acc' c' (fun b o h1 h2 e => k2 b o h1 h2 (keep b o h1 h2 e)) hS2 hacc2
end
section
variable {prog : Program} {w : World} {A : Around} {E : Value → Shared → Prop} {s : Shared} {At : Value → Way × Int → Prop}
theorem set_no_len : typeLookup (.type "set") (Str.ofString "__len__") = pure (some (.builtin "set.__len__")) := F.slot_set_len.lookup
theorem hint_set {a : Addr} {Q : Bool → Shared → Prop} (hT : s.TypeIs (.ref a) "set") (h : Q false s) : wpAny (model prog w) A (Builtin.List.listLengthHint (.ref a)) Q E s := by
  unfold Builtin.List.listLengthHint
  refine wpAny_bind (wpAny_specialOf hT set_no_len ?_)
  refine wpAny_bind (wpAny_isInstance hT PySem.F.sub_set_set ?_)
  refine wpAny_bind (wpAny_typeOf hT ?_)
  exact wpAny_pure h
theorem items_eq {us : List Value} {acc : Array Value} {n : Nat} (hn : us.length = n) (h : ItemsOf (fun i v => us[i]? = some v) acc n) : acc.toList = us := by
  refine List.ext_getElem? fun i => ?_
  rw [Array.getElem?_toList]
  cases e : acc[i]? with
  | none =>
    have : n ≤ i := by rw [← h.1]; exact Array.getElem?_eq_none_iff.mp e
    exact (List.getElem?_eq_none (by exact Nat.le_trans (Nat.le_of_eq hn) this)).symm
  | some v => exact (h.2 i v e).symm
theorem collect_set {a : Addr} {es : Array (Int × Value)} {ep : Nat} {t : SetTable} {ps qs : List (Way × Int)} {Q : List Value → Shared → Prop} (hh : A.handled = none) (ho : s.heap.get? a = some (setO es ep t)) (P : PTs prog w At es t ps qs) (hle : ps.length ≤ 100)
    (h : ∀ us qs h' d tk, Vals At us qs → qs.Perm ps → (∀ b o, s.heap.get? b = some o → h'.get? b = some o) → Q us { s with heap := h', drawn := d, toks := tk }) : wpAny (model prog w) A (collect (.ref a)) Q E s := by
  unfold collect
  refine wpAny_bind (wpAny_runValue (codeAny_builtin F.entry_proto_collect ?_))
  rw [Around.under_plainId F.plain_proto_collect _]
  show wpAny _ A.in1 (newList [] >>= fun l => again (.builtin "list.__iadd__" ⟨[l, .ref a], []⟩)) _ _ s
  refine wpAny_bind (wpAny_newObj_type ?_)
  refine wpAny_pure ⟨plainId_quiet F.plain_list_iadd _, codeAny_builtin F.entry_list_iadd ?_⟩
  rw [Around.under_plainId F.plain_list_iadd _]
  have hSa : s.heap.objs.size ≠ a := Nat.ne_of_gt (Heap.lt_size ho)
  have hS₁ : (s.heap.push { cls := .type "list", data := .seq ([] : List Value).toArray }).get? s.heap.objs.size = some (seqObj "list" #[] 0) := Heap.get?_push_size _ rfl
  have k1 : ∀ b o, s.heap.get? b = some o → (s.heap.push { cls := .type "list", data := .seq ([] : List Value).toArray }).get? b = some o := fun b o e => Heap.get?_push_of_some _ e
  have hz1 : (s.heap.push { cls := .type "list", data := .seq ([] : List Value).toArray }).objs.size = s.heap.objs.size + 1 := size_push' _ _
  show wpAny _ A.in1 (Builtin.List.listExtendWith (.ref s.heap.objs.size) (.ref a) (.ref s.heap.objs.size)) _ _ _
  unfold Builtin.List.listExtendWith
  have ho1 := k1 _ _ ho
  refine wpAny_bind (wpAny_typeOf (T := "set") ⟨_, ho1, rfl⟩ ?_)
  have h1 : Builtin.List.listSameRef (.ref s.heap.objs.size) (.ref a) = false := by simp [Builtin.List.listSameRef, hSa]
  have h2 : (Value.type "set" == Value.type "list") = false := by decide
  have h3 : (Value.type "set" == Value.type "tuple") = false := by decide
  simp -iota only [h1, h2, h3, Bool.or_false, Bool.false_eq_true, if_false]
  refine wpAny_bind ?_
  generalize hC : (fun (v : Value) (s' : Shared) => (_ : Prop)) = C
  have go : ∀ (I : Addr) (n : Nat) (us : List Value) (Ok : Nat → Obj → Prop) (Need : Heap → Prop) (oI : Obj) (qs : List (Way × Int)) (h1 : Heap) (d : Drawn), Iter prog w A.in1 I n (fun i v => us[i]? = some v) Ok Need → us.length = n → n ≤ sizeLine → s.heap.objs.size ≠ I →
      (∀ h h' : Heap, Need h → (∀ b o, b ≠ s.heap.objs.size → b ≠ I → h.get? b = some o → h'.get? b = some o) → Need h') → (∀ b o, s.heap.get? b = some o → h1.get? b = some o ∧ b ≠ s.heap.objs.size ∧ b ≠ I) → h1.get? s.heap.objs.size = some (seqObj "list" #[] 0) → h1.get? I = some oI → Ok 0 oI → Need h1 → Vals At us qs → qs.Perm ps →
      C (.ref I) { s with heap := h1, drawn := d } := by
    intro I n us Ok Need oI qs h1 d W hn hz hSI need keep hS hI hO hN hv hp
    rw [← hC]
    have hT : Shared.TypeIs { s with heap := h1, drawn := d } (.ref a) "set" := ⟨_, (keep _ _ ho).1, rfl⟩
    refine wpAny_bind (wpAny_holding (hint_set hT ?_))
    rw [if_pos (by rfl)]
    refine wpAny_bind (wpAny_rule (wpAny_bind ?_))
    show wpAny _ A.in1 (updateSeq s.heap.objs.size (·.push .none) >>= fun x => updateSeq s.heap.objs.size (·.pop)) _ _ _
    refine wpAny_bind (wpAny_updateSeq hS rfl ?_)
    have hS2 := Heap.get?_update_self (Obj.mapSeq (·.push Value.none)) hS rfl
    refine wpAny_updateSeq hS2 rfl ?_
    have hS3 := Heap.get?_update_self (Obj.mapSeq (·.pop)) hS2 rfl
    have oth : ∀ b o, b ≠ s.heap.objs.size → h1.get? b = some o → ((h1.update s.heap.objs.size (Obj.mapSeq (·.push Value.none))).update s.heap.objs.size (Obj.mapSeq (·.pop))).get? b = some o :=
      fun b o hb e => (Heap.get?_update_other _ _ (Ne.symm hb)).trans ((Heap.get?_update_other _ _ (Ne.symm hb)).trans e)
    refine wpAny_pure ⟨plainId_quiet F.plain_extend_loop _, ext_loop W hz hSI need _ n 0 _ _ _ oI rfl (Nat.zero_le _) (oth _ _ (Ne.symm hSI) hI) hO (need _ _ hN fun b o q1 x e => oth b o q1 e) hS3 (ItemsOf.nil _) fun h' tk acc' c' k2 hS4 hacc => ?_⟩
    show wpAny _ A (load s.heap.objs.size >>= _) _ _ _
    refine wpAny_bind (wpAny_load hS4 (wpAny_pure ?_))
    show Q acc'.toList _
    rw [items_eq hn hacc]
    exact h us qs h' d tk hv hp fun b o e => k2 b o (keep b o e).2.1 (keep b o e).2.2 (oth b o (keep b o e).2.1 (keep b o e).1)
  clear hC
  have hsz := P.size
  have hql := P.perm.length_eq
  have lz : es.size ≤ sizeLine := by rw [sizeLine_eq]; exact qfl fun x => qfa3 x (Nat.le_of_eq hsz) hle (by simp +arith only)
  have kS : ∀ b o, s.heap.get? b = some o → b ≠ s.heap.objs.size := fun b o e => Nat.ne_of_lt (Heap.lt_size e)
  refine pyIter_set ho1 P hle (fun hd => ?_) fun ix d hix => ?_
  · have eI : (s.heap.push { cls := .type "list", data := .seq ([] : List Value).toArray }).objs.size = s.heap.objs.size + 1 := hz1
    have hI : ((s.heap.push { cls := .type "list", data := .seq ([] : List Value).toArray }).push (itO (.int (0 : Nat) 0) 0 a es.size ep)).get? (s.heap.push { cls := .type "list", data := .seq ([] : List Value).toArray }).objs.size = some (itO (.int (0 : Nat) 0) 0 a es.size ep) := Heap.get?_push_size _ rfl
    have nSI : s.heap.objs.size ≠ (s.heap.push { cls := .type "list", data := .seq ([] : List Value).toArray }).objs.size := by rw [eI]; exact fun x' => absurd (qfg x') fun x => qfa1 x (by simp +arith only)
    have nb : ∀ (h h' : Heap), h.get? a = some (setO es ep t) → (∀ b o, b ≠ s.heap.objs.size → b ≠ (s.heap.push { cls := .type "list", data := .seq ([] : List Value).toArray }).objs.size → h.get? b = some o → h'.get? b = some o) → h'.get? a = some (setO es ep t) := fun h h' e k => k _ _ (Ne.symm hSa) (by rw [eI]; exact Nat.ne_of_lt (Nat.lt_succ_of_lt (Heap.lt_size ho))) e
    have kk : ∀ b o, s.heap.get? b = some o → ((s.heap.push { cls := .type "list", data := .seq ([] : List Value).toArray }).push (itO (.int (0 : Nat) 0) 0 a es.size ep)).get? b = some o ∧ b ≠ s.heap.objs.size ∧ b ≠ (s.heap.push { cls := .type "list", data := .seq ([] : List Value).toArray }).objs.size := fun b o e => ⟨Heap.get?_push_of_some _ (k1 b o e), kS b o e, by rw [eI]; exact Nat.ne_of_lt (Nat.lt_succ_of_lt (Heap.lt_size e))⟩
    by_cases hb : byT prog w = true
    · have hpm := pickOrder_perm ((model prog w).w.params.setOrder a ep) es
      obtain ⟨qs, r, pm⟩ := Rows.perm hpm.symm P.rows
      have hv := r.vals
      have pm2 := pm.trans P.perm
      exact go _ es.size _ _ _ _ qs _ s.drawn (iter_text (A := A.in1) hh P.fits hb (by rw [← Array.length_toList, hpm.length_eq, Array.length_toList])) (by rw [List.length_map, hpm.length_eq, Array.length_toList]) lz nSI nb kk (Heap.get?_push_of_some _ hS₁) hI rfl (Heap.get?_push_of_some _ ho1) hv pm2
    · have hb : byT prog w = false := by simpa using hb
      have hle1 : es.size ≤ 1 := by rcases hd with q | q
                                    · rw [hb] at q; cases q
                                    · exact q
      exact go _ es.size _ _ _ _ qs _ s.drawn (iter_few (A := A.in1) hh P.ti P.fits hb (by rw [P.led, hb]; rfl) hle1) (by rw [List.length_map, Array.length_toList]) lz nSI nb kk (Heap.get?_push_of_some _ hS₁) hI rfl (Heap.get?_push_of_some _ ho1) P.rows.vals P.perm
  · have eT : (s.heap.push { cls := .type "list", data := .seq ([] : List Value).toArray }).objs.size = s.heap.objs.size + 1 := hz1
    generalize hT : (s.heap.push { cls := .type "list", data := .seq ([] : List Value).toArray }) = g at *
    have eI : (g.push (tupO (ix.map fun (k : Nat) => rawInt k))).objs.size = s.heap.objs.size + 2 := by rw [size_push', eT]
    have hpm : (ix.map fun k => es.getD k (0, .none)).Perm es.toList := by
      refine (hix.map _).trans ?_
      have : (List.range es.size).map (fun k => es.getD k (0, .none)) = es.toList := by
        apply List.ext_getElem
        · simp
        · intro i h1 h2
          simp at h1
          simp [h1]
      rw [this]
    obtain ⟨qs, r, pm⟩ := Rows.perm hpm.symm P.rows
    have hv := r.vals
    rw [List.map_map] at hv
    have pm2 := pm.trans P.perm
    have lt : ∀ b o, s.heap.get? b = some o → b < s.heap.objs.size := fun b o e => Heap.lt_size e
    refine go _ es.size _ _ _ _ qs _ d (iter_drawn (A := A.in1) (T := g.objs.size) hh P.fits ix hix) (by rw [List.length_map, hix.length_eq, List.length_range]) lz (by rw [eI]; exact fun x' => absurd (qfg x') fun x => qfa1 x (by simp +arith only)) ?_ ?_ (Heap.get?_push_of_some _ (Heap.get?_push_of_some _ hS₁)) (Heap.get?_push_size _ rfl) rfl ⟨Heap.get?_push_of_some _ (Heap.get?_push_of_some _ ho1), Heap.get?_push_of_some _ (Heap.get?_push_size _ rfl)⟩ hv pm2
    · exact fun h h' e k => ⟨k _ _ (Ne.symm hSa) (by rw [eI]; exact Nat.ne_of_lt (Nat.lt_of_lt_of_le (lt _ _ ho) (Nat.le_add_right _ 2))) e.1, k _ _ (by rw [eT]; exact fun x' => absurd (Nat.le_of_eq x') fun x => qfa1 x (by simp +arith only)) (by rw [eI, eT]; exact fun x' => absurd (qfg x') fun x => qfa1 x (by simp +arith only)) e.2⟩
    · exact fun b o e => ⟨Heap.get?_push_of_some _ (Heap.get?_push_of_some _ (k1 b o e)), kS b o e, by rw [eI]; exact Nat.ne_of_lt (Nat.lt_of_lt_of_le (lt _ _ e) (Nat.le_add_right _ 2))⟩
end
end Mine.Internal
end
section
set_option tactic.hygienic false
open PySem PySem.W PySem.Calls PyProof.Rows PySem.Spec
set_option maxRecDepth 100000
namespace Mine.Internal
section
variable {prog : Program} {w : World} {A : Around} {E : Value → Shared → Prop} {s : Shared} {κ : SortKind} {rk : Value → Nat}
noncomputable def KeyOk (prog : Program) (w : World) (A : Around) (κ : SortKind) (rk : Value → Nat) (vs : List Value) (s : Shared) : Prop :=
  SOk prog w A s κ rk (pairsOf vs).toList ∧ (2 ≤ vs.length → ∀ (E : Value → Shared → Prop) (Q : SortKind → Shared → Prop), Q κ s → wpAny (model prog w) A (keyKind' vs.toArray) Q E s)
theorem min_run {n : Nat} (h2 : 2 ≤ n) (h64 : n ≤ 64) : ∃ mr, minRun' n n 0 = mr ∧ 1 ≤ mr ∧ mr ≤ n ∧ n ≤ 2 * mr := by
  rcases Nat.lt_or_eq_of_le h64 with h | h
  · obtain ⟨f, rfl⟩ : ∃ f, n = f + 1 := ⟨n - 1, by exact (Nat.sub_add_cancel (Nat.le_of_lt h2)).symm⟩
    exact ⟨f + 1, by rw [minRun'_succ, if_pos h], by exact Nat.le_of_ble_eq_true rfl, Nat.le_refl _, by exact qfl fun x => qfa1 x (by simp +arith only)⟩
  · subst h
    exact ⟨32, rfl, by decide, by decide, by decide⟩
theorem out_perm {vs : List Value} {xs : Array Keyed} (hp : xs.toList.Perm (pairsOf vs).toList) (hs : xs.toList.Pairwise (Asc rk)) : (xs.map (·.2)).toList.Perm vs ∧ (xs.map (·.2)).toList.Pairwise fun p q => rk p < rk q := by
  rw [pairsOf_toList] at hp
  rw [Array.toList_map]
  constructor
  · have := hp.map (·.2)
    rwa [show (vs.zip vs).map (·.2) = vs from List.map_snd_zip (Nat.le_refl _)] at this
  · rw [List.pairwise_map]
    refine hs.imp_of_mem fun {a b} ha hb h => ?_
    rw [← (mem_zip_self (hp.mem_iff.mp ha)).1, ← (mem_zip_self (hp.mem_iff.mp hb)).1]
    exact h
theorem sort_ok {a : Addr} {vs : List Value} {n : Nat} {P : Fin → Shared → Prop} (ho : s.heap.get? a = some (seqObj "list" vs.toArray n)) (h64 : vs.length ≤ 64)
    (hk : ∀ h' : Heap, (∀ b o, b ≠ a → s.heap.get? b = some o → h'.get? b = some o) → KeyOk prog w A κ rk vs { s with heap := h' })
    (h : ∀ us : List Value, us.Perm vs → us.Pairwise (fun p q => rk p < rk q) → P (.done (.ret .none)) { s with heap := sortedHeap s.heap a vs us.toArray }) :
    wpAny (model prog w) A (Builtin.«list.sort» ⟨[.ref a], []⟩) P E s := by
  rw [list_sort_plain]
  have ha : a < s.heap.objs.size := Heap.lt_size ho
  have zl : sizeLine = 2 ^ 24 := sizeLine_eq
  refine wpAny_bind (listItems_at ho rfl ?_)
  refine wpAny_bind (listUpdate_at ho rfl ?_ (by rw [List.size_toArray, zl]; exact Nat.le_trans h64 (Nat.le_add_left _ _)) (Nat.zero_le _))
  obtain ⟨e1, ho1⟩ : ∃ e1, (s.heap.update a (Obj.mapSeq fun x => #[])).get? a = some (seqObj "list" #[] e1) := ⟨_, get?_update_seq ho (fun x => #[])⟩
  refine wpAny_bind (seqEpoch_at ho1 rfl ?_)
  refine wpAny_bind (wpAny_newTuple ?_ (by show vs.length ≤ _; rw [zl]; exact Nat.le_trans h64 (Nat.le_add_left _ _)))
  refine wpAny_bind (wpAny_newList ?_ (Nat.zero_le _))
  refine wpAny_holding ?_
  have ho6 : (((s.heap.update a (Obj.mapSeq fun x => #[])).push (seqObj "tuple" vs.toArray 0)).push (seqObj "list" #[] 0)).get? a = some (seqObj "list" #[] e1) := Heap.get?_push_of_some _ (Heap.get?_push_of_some _ ho1)
  have kp : ∀ b o, b ≠ a → s.heap.get? b = some o → (((s.heap.update a (Obj.mapSeq fun x => #[])).push (seqObj "tuple" vs.toArray 0)).push (seqObj "list" #[] 0)).get? b = some o :=
    fun b o hb e => Heap.get?_push_of_some _ (Heap.get?_push_of_some _ ((Heap.get?_update_other _ _ (Ne.symm hb)).trans e))
  obtain ⟨kc, kk⟩ := hk _ kp
  show wpAny (model prog w) A _ P E { s with heap := ((s.heap.update a (Obj.mapSeq fun x => #[])).push (seqObj "tuple" vs.toArray 0)).push (seqObj "list" #[] 0) }
  dsimp only
  have hsz : vs.toArray.size = vs.length := by simp
  have fin : ∀ xs : Array Keyed, xs.toList.Perm (pairsOf vs).toList → xs.toList.Pairwise (Asc rk) → P (.done (.ret .none)) { s with heap := sortedHeap s.heap a vs (xs.map (·.2)) } := fun xs hp hs => by
    obtain ⟨h1, h2⟩ := out_perm hp hs
    have := h _ h1 h2
    rwa [Array.toArray_toList] at this
  have zs : ∀ xs : Array Keyed, xs.toList.Perm (pairsOf vs).toList → (xs.map (·.2)).size ≤ sizeLine + 1 := fun xs hp => by
    have := hp.length_eq
    rw [Array.length_toList, Array.length_toList, pairsOf_size] at this
    rw [Array.size_map, zl]; lia
  by_cases h2 : vs.toArray.size < 2
  · rw [if_pos h2, if_pos h2]
    refine wpAny_bind (wpAny_pure ?_)
    rw [StateT.run_pure]
    refine wpAny_bind (wpAny_pure ?_)
    dsimp only
    refine wpAny_bind (seqEpoch_at ho6 rfl ?_)
    refine wpAny_bind (listUpdate_at ho6 rfl ?_ (Nat.zero_le _) (zs _ (List.Perm.refl _)))
    simp only [bne_self_eq_false, Bool.false_eq_true, if_false]
    refine wpAny_pure (fin _ (List.Perm.refl _) ?_)
    rw [List.pairwise_iff_getElem]
    intro i j hi hj hij
    have z : (pairsOf vs).toList.length = vs.length := by rw [Array.length_toList, pairsOf_size]
    have : j < (pairsOf vs).toList.length := hj
    lia
  · rw [if_neg h2, if_neg h2]
    obtain ⟨mr, m1, m2, m3, m4⟩ := min_run (n := vs.length) (by exact Nat.le_trans (Nat.le_of_not_lt h2) (Nat.le_of_eq hsz)) h64
    have z : (pairsOf vs).toList.length = vs.length := by rw [Array.length_toList, pairsOf_size]
    refine wpAny_bind (kk (by exact Nat.le_trans (Nat.le_of_not_lt h2) (Nat.le_of_eq hsz)) _ _ ?_)
    refine wpAny_bind (wpAny_mono (sortRuns_ok kc (st := SortSt.mk' κ (vs.toArray.zip vs.toArray) #[] 7 none)
      (Q := fun x st' => SB κ (pairsOf vs).toList st' ∧ (arrOf st').toList.Pairwise (Asc rk)) ⟨rfl, rfl, List.Perm.refl _⟩ rfl (by rw [z]; exact m1) m2 (by rw [z]; exact m3) (by rw [z]; exact m4) fun st' a1 a2 => ⟨a1, a2⟩) ?_ fun x x e => e)
    rintro ⟨⟨⟩, st'⟩ s' ⟨rfl, B, hs⟩
    dsimp only
    refine wpAny_bind (seqEpoch_at ho6 rfl ?_)
    refine wpAny_bind (listUpdate_at ho6 rfl ?_ (Nat.zero_le _) (zs _ B.perm))
    have hf := B.failed
    rw [hf]
    simp only [bne_self_eq_false, Bool.false_eq_true, if_false]
    exact wpAny_pure (fin _ B.perm hs)
theorem sorted_ok {x : Value} {Q : Value → Shared → Prop} {G : List Value → Prop}
    (hcol : ∀ (Q' : List Value → Shared → Prop) (E' : Value → Shared → Prop), (∀ us h' d tk, G us → (∀ b o, s.heap.get? b = some o → h'.get? b = some o) → Q' us { s with heap := h', drawn := d, toks := tk }) → wpAny (model prog w) A.in1 (collect x) Q' E' s)
    (hz : ∀ us, G us → us.length ≤ 64)
    (hk : ∀ us h' d tk, G us → (∀ b o, s.heap.get? b = some o → h'.get? b = some o) → KeyOk prog w A.in1.in1 κ rk us { s with heap := h', drawn := d, toks := tk })
    (h : ∀ (us out : List Value) (D : Addr) (c : Nat) (h' : Heap) (d : Drawn) (tk : Nat), G us → out.Perm us → out.Pairwise (fun p q => rk p < rk q) → (∀ b o, s.heap.get? b = some o → h'.get? b = some o) → (∀ b o, s.heap.get? b = some o → b < D) → h'.get? D = some (seqObj "list" out.toArray c) → Q (.ref D) { s with heap := h', drawn := d, toks := tk }) :
    wpAny (model prog w) A (call (.builtin "sorted") [x]) Q E s := by
  refine Calls.call_function_entry kind_sorted plain_sorted entry_sorted (args_sorted1 _) ?_
  unfold Builtin.«sorted»
  refine wpAny_bind (m := checkCount "sorted" 1 1 _) (wpAny_pure ?_)
  refine wpAny_bind (hcol _ _ fun vs h1 d tk hG k1 => ?_)
  have hlen := hz vs hG
  have zl : sizeLine = 2 ^ 24 := sizeLine_eq
  refine wpAny_bind (wpAny_newList ?_ (by rw [zl]; exact Nat.le_trans hlen (Nat.le_add_left _ _)))
  have hoL : (h1.push (seqObj "list" vs.toArray 0)).get? h1.objs.size = some (seqObj "list" vs.toArray 0) := Heap.get?_push_size _ rfl
  have k2 : ∀ b o, s.heap.get? b = some o → b ≠ h1.objs.size := fun b o e => Nat.ne_of_lt (Heap.lt_size (k1 b o e))
  show wpAny _ _ _ _ _ { s with heap := h1.push (seqObj "list" vs.toArray 0), drawn := d, toks := tk }
  refine wpAny_bind (wpAny_holding (wpAny_call_entry slot_list_sort ⟨_, hoL, rfl⟩ entry_list_sort (sort_ok (κ := κ) (rk := rk) hoL hlen (fun h' q => hk vs h' d tk hG fun b o e => q b o (k2 b o e) (Heap.get?_push_of_some _ (k1 b o e))) fun us p1 p2 => ⟨_, rfl, ?_⟩) (args_list_sort _)))
  refine wpAny_pure ⟨_, rfl, ?_⟩
  have s1 : ∃ e1, ((h1.push (seqObj "list" vs.toArray 0)).update h1.objs.size (Obj.mapSeq fun x => #[])).get? h1.objs.size = some (seqObj "list" #[] e1) := ⟨_, get?_update_seq hoL fun x => #[]⟩
  obtain ⟨e1, s1⟩ := s1
  have s2 := Heap.get?_push_of_some (seqObj "list" #[] 0) (Heap.get?_push_of_some (seqObj "tuple" vs.toArray 0) s1)
  refine h vs us h1.objs.size _ _ d tk hG p1 p2 (fun b o e => ?_) (fun b o e => Heap.lt_size (k1 b o e)) (get?_update_seq s2 fun x => us.toArray)
  refine (Heap.get?_update_other _ _ (Ne.symm (k2 b o e))).trans (Heap.get?_push_of_some _ (Heap.get?_push_of_some _ ((Heap.get?_update_other _ _ (Ne.symm (k2 b o e))).trans (Heap.get?_push_of_some _ (k1 b o e)))))
end
end Mine.Internal
end
section
set_option tactic.hygienic false
open PySem PySem.W PySem.Calls PyProof.Rows PySem.Spec
set_option maxRecDepth 100000
namespace Mine.Internal
noncomputable def wlt : Way → Way → Bool
  | [], [] => false
  | [], _ :: _ => true
  | _ :: _, [] => false
  | x :: a, y :: b => if x = y then wlt a b else decide (x.cps.toList < y.cps.toList)
noncomputable def plt (p q : Way × Int) : Bool := if p.1 = q.1 then decide (p.2 < q.2) else wlt p.1 q.1
theorem ltLen {a b c d : Nat} (h : a + d = b + c) : c < d ↔ a < b :=
  ⟨fun x => Nat.lt_of_add_lt_add_right (Nat.lt_of_lt_of_eq (Nat.add_lt_add_left x a) h), fun x => Nat.lt_of_add_lt_add_left (h ▸ Nat.add_lt_add_right x d)⟩
theorem wlt_cons (k l : Str) (x y : Way) : wlt (k :: x) (l :: y) = if k = l then wlt x y else decide (k.cps.toList < l.cps.toList) := rfl
theorem wlt_last {us ws : List Value} {x y : Way} (hx : WayV us x) (hy : WayV ws y) (hz : us.zip ws = []) : wlt x y = decide (us.length < ws.length) := by
  have l1 := hx.length
  have l2 := hy.length
  cases us with
  | nil =>
    cases x with
    | cons => cases l1
    | nil =>
      cases ws with
      | nil => cases y with
        | nil => rfl
        | cons => cases l2
      | cons => cases y with
        | nil => cases l2
        | cons => exact (decide_eq_true (Nat.succ_pos _)).symm
  | cons =>
    cases x with
    | nil => cases l1
    | cons =>
      cases ws with
      | nil => cases y with
        | nil => exact (decide_eq_false (Nat.not_lt_zero _)).symm
        | cons => cases l2
      | cons => exact absurd hz (List.cons_ne_nil _ _)
noncomputable def LtI (us ws : List Value) (x y : Way) (rest : List (Value × Value)) : Prop :=
  ∃ us' ws' x' y', rest = us'.zip ws' ∧ WayV us' x' ∧ WayV ws' y' ∧ wlt x' y' = wlt x y ∧ us.length + ws'.length = ws.length + us'.length
theorem LtI.last {us ws : List Value} {x y : Way} (h : LtI us ws x y []) : wlt x y = decide (us.length < ws.length) := by
  obtain ⟨us', ws', x', y', e, hx, hy, hw, hl⟩ := h
  rw [← hw, wlt_last hx hy e.symm]
  exact decide_eq_decide.mpr (ltLen hl)
theorem LtI.step {us ws : List Value} {x y : Way} {u v : Value} {rest : List (Value × Value)} (h : LtI us ws x y ((u, v) :: rest)) :
    ∃ k t k2 t2, u = .str k t ∧ v = .str k2 t2 ∧ (k = k2 → LtI us ws x y rest) ∧ (k ≠ k2 → wlt x y = decide (k.cps.toList < k2.cps.toList)) := by
  obtain ⟨us', ws', x', y', e, hx, hy, hw, hl⟩ := h
  cases us' with
  | nil => cases e
  | cons u' us' =>
    cases ws' with
    | nil => cases e
    | cons v' ws' =>
      cases e
      obtain ⟨k, t, rfl, hk⟩ := hx.get (i := 0) (v := u) rfl
      obtain ⟨k2, t2, rfl, hk2⟩ := hy.get (i := 0) (v := v) rfl
      cases x' with
      | nil => cases hk
      | cons k1 x' =>
        cases y' with
        | nil => cases hk2
        | cons k3 y' =>
          cases hk
          cases hk2
          rw [wlt_cons] at hw
          refine ⟨k, t, k2, t2, rfl, rfl, fun ek => ⟨us', ws', x', y', rfl, (List.cons.inj hx).2, (List.cons.inj hy).2, ?_, Nat.succ.inj hl⟩, fun ek => ?_⟩
          · rw [if_pos ek] at hw; exact hw
          · rw [if_neg ek] at hw; exact hw.symm
section
variable {prog : Program} {w : World} {A : Around} {E : Value → Shared → Prop} {s : Shared}
theorem lt_way {a b : Addr} {us ws : List Value} {x y : Way} {Q : Value → Shared → Prop} (ha : s.heap.get? a = some (tupO us)) (hb : s.heap.get? b = some (tupO ws)) (hx : WayV us x) (hy : WayV ws y) (hu : A.units < cLine) (h : Q (.bool (wlt x y)) s) :
    wpAny (model prog w) A (compareOp .Lt (.ref a) (.ref b)) Q E s := by
  have Ta : s.TypeIs (.ref a) "tuple" := ⟨_, ha, rfl⟩
  have Tb : s.TypeIs (.ref b) "tuple" := ⟨_, hb, rfl⟩
  refine wpAny_richCompare_same_room (op := .Lt) Ta Tb PySem.F.slot_tuple_lt (wpAny_call_entry PySem.F.slot_tuple_lt Ta PySem.F.entry_tuple_lt ?_ (PySem.F.args_tuple_lt_2 _ _)) hu
  show wpAny _ _ (slotArgs "__lt__" 1 ⟨[.ref a, .ref b], []⟩ >>= _) _ _ s
  refine wpAny_bind (wpAny_pure ?_)
  dsimp only
  refine wpAny_bind (wpAny_isInstance Tb (b := true) (by first | exact PySem.F.sub_tuple_tuple | (rw [isSubtype_type]; kernel_rfl)) ?_)
  rw [if_neg (by decide)]
  refine wpAny_bind (m := Builtin.Tuple.tupleItemsOf (.ref a)) ?_
  unfold Builtin.Tuple.tupleItemsOf seqItems?
  refine wpAny_bind (wpAny_bind (wpAny_load ha (wpAny_pure (wpAny_pure ?_))))
  refine wpAny_bind (wpAny_bind (wpAny_bind (wpAny_load hb (wpAny_pure (wpAny_pure ?_)))))
  refine wpAny_bind ?_
  refine wpAny_forIn_list _ (fun rest q s' => s' = s ∧ q = (none, ()) ∧ LtI us ws x y rest) _ ?_ ?_ _ _ ⟨rfl, rfl, us, ws, x, y, by simp, hx, hy, rfl, Nat.add_comm _ _⟩
  · rintro ⟨u, v⟩ rest q s' ⟨rfl, rfl, I⟩
    obtain ⟨k, t, k2, t2, rfl, rfl, I1, I2⟩ := I.step
    refine wpAny_bind (wpAny_eqBool_str ?_)
    by_cases ek : k = k2
    · rw [decide_eq_true ek]
      exact wpAny_pure ⟨rfl, rfl, I1 ek⟩
    · rw [decide_eq_false ek]
      refine wpAny_bind (wpAny_rule (wpAny_bind ?_))
      refine lt_str ?_
      refine wpAny_bind (wpAny_pure (wpAny_pure (wpAny_pure ⟨_, rfl, (fun z => nomatch z), ?_⟩)))
      rw [← I2 ek]
      exact h
  · rintro q s' ⟨rfl, rfl, I⟩
    refine wpAny_pure ⟨_, rfl, (fun z => nomatch z), ?_⟩
    rw [List.size_toArray, List.size_toArray]
    show Q (.bool (decide (us.length < ws.length))) _
    rw [← I.last]
    exact h
theorem eq_way {a b : Addr} {us ws : List Value} {x y : Way} {Q : Bool → Shared → Prop} (ha : s.heap.get? a = some (tupO us)) (hb : s.heap.get? b = some (tupO ws)) (hx : WayV us x) (hy : WayV ws y) (ox : Okw x) (oy : Okw y) (hu : A.units + 64 < cLine) (h : Q (decide (x = y)) s) :
    wpAny (model prog w) A (eqBool (.ref a) (.ref b)) Q E s := by
  refine SeqAt.eqAt_reads (wayD x) (wayD y) A s _ _ [] [] (reads_way ha hx) (reads_way hb hy) (SeqAt.canLay_of_shaped (shaped_way ox)) (SeqAt.canLay_of_shaped (shaped_way oy)) (SeqAt.room_of_shaped (shaped_way ox) hu) prog w E Q ?_
  rw [eqv_way]
  exact h
theorem key_pair {u v : Value} {p q : Way × Int} {Q : Bool → Shared → Prop} (hu : A.units + 64 < cLine) (hp : PairAt s.heap u p) (hq : PairAt s.heap v q) (h : Q (plt p q) s) : wpAny (model prog w) A (keyLt' (tuples' false) u v) Q E s := by
  obtain ⟨a, qa, us, ta, rfl, a1, a2, a3, a4, _⟩ := hp
  obtain ⟨b, qb, ws, tb, rfl, b1, b2, b3, b4, _⟩ := hq
  unfold plt at h
  refine kat_lt a1 rfl b1 rfl ?_
  show KatLex prog w A false _ Q [(.ref qa, .ref qb), (.int p.2 ta, .int q.2 tb)] 0 s
  refine kat_cons (eq_way a2 b2 a3 b3 a4 b4 hu ?_)
  by_cases e : p.1 = q.1
  · rw [if_pos e] at h
    rw [decide_eq_true e]
    refine kat_yes (kat_cons (wpAny_eqBool_int ?_))
    by_cases e2 : p.2 = q.2
    · rw [show (p.2 == q.2) = true from beq_iff_eq.mpr e2]
      refine kat_yes (kat_nil ?_)
      rw [decide_eq_false (by lia)] at h
      exact h
    · rw [show (p.2 == q.2) = false from beq_eq_false_iff_ne.mpr e2]
      exact kat_no (kat_one _ _ (PyProof.Rows.lt_int h))
  · rw [if_neg e] at h
    rw [decide_eq_false e]
    exact kat_no (kat_one _ _ (lt_way a2 b2 a3 b3 (by exact Nat.lt_of_le_of_lt (Nat.le_add_right _ _) hu) h))
end
end Mine.Internal
end
section
set_option tactic.hygienic false
open PySem PySem.W PySem.Calls PyProof.Rows PySem.Spec
set_option maxRecDepth 100000
namespace Mine.Internal
noncomputable def dg (k : Str) : Nat := if k = "a" then 1 else if k = "flags" then 2 else 3
noncomputable def wc : Nat → Way → Nat
  | 0, _ => 0
  | _ + 1, [] => 0
  | n + 1, k :: r => dg k * 4 ^ n + wc n r
noncomputable def Mnu (x : Way) : Prop := ∀ k ∈ x, k = "a" ∨ k = "flags" ∨ k = "nested"
theorem dg_pos (k : Str) : 1 ≤ dg k ∧ dg k ≤ 3 := by
  unfold dg
  split
  · exact ⟨by decide, by decide⟩
  · split <;> exact ⟨by decide, by decide⟩
theorem wc_lt : ∀ (n : Nat) (x : Way), wc n x < 4 ^ n
  | 0, _ => Nat.zero_lt_one
  | n + 1, [] => Nat.pow_pos (by decide)
  | n + 1, k :: r => by
    have h := wc_lt n r
    have d := dg_pos k
    show dg k * 4 ^ n + wc n r < 4 ^ (n + 1)
    have : dg k * 4 ^ n ≤ 3 * 4 ^ n := Nat.mul_le_mul_right _ d.2
    rw [Nat.pow_succ]
    exact qft fun x => qfa3 x this h (by simp +arith only)
theorem dg_lt {k l : Str} (hk : k = "a" ∨ k = "flags" ∨ k = "nested") (hl : l = "a" ∨ l = "flags" ∨ l = "nested") : (k = l ↔ dg k = dg l) ∧ decide (k.cps.toList < l.cps.toList) = decide (dg k < dg l) := by
  rcases hk with rfl | rfl | rfl <;> rcases hl with rfl | rfl | rfl <;> decide
theorem wlt_wc : ∀ (n : Nat) (x y : Way), Mnu x → Mnu y → x.length ≤ n → y.length ≤ n → wlt x y = decide (wc n x < wc n y) ∧ (wc n x = wc n y → x = y) := by
  intro n
  induction n with
  | zero =>
    intro x y _ _ hx hy
    rw [List.eq_nil_of_length_eq_zero (Nat.le_zero.mp hx), List.eq_nil_of_length_eq_zero (Nat.le_zero.mp hy)]
    exact ⟨rfl, fun x => rfl⟩
  | succ n IH =>
    intro x y hx hy lx ly
    have pos : ∀ (k : Str) (r : Way), 0 < wc (n + 1) (k :: r) := fun k r => Nat.lt_of_lt_of_le (Nat.mul_pos (dg_pos k).1 (Nat.pow_pos (by decide))) (Nat.le_add_right _ _)
    cases x with
    | nil =>
      cases y with
      | nil => exact ⟨rfl, fun x => rfl⟩
      | cons k r => exact ⟨(decide_eq_true (pos k r)).symm, fun e => absurd e (Nat.ne_of_lt (pos k r))⟩
    | cons k r =>
      cases y with
      | nil => exact ⟨(decide_eq_false (Nat.not_lt_zero _)).symm, fun e => absurd e.symm (Nat.ne_of_lt (pos k r))⟩
      | cons l q =>
        have d := dg_lt (hx k (.head _)) (hy l (.head _))
        have ih := IH r q (fun z h => hx z (.tail _ h)) (fun z h => hy z (.tail _ h)) (Nat.le_of_succ_le_succ lx) (Nat.le_of_succ_le_succ ly)
        have b1 := wc_lt n r
        have b2 := wc_lt n q
        rw [wlt_cons]
        have w1 : wc (n + 1) (k :: r) = dg k * 4 ^ n + wc n r := rfl
        have w2 : wc (n + 1) (l :: q) = dg l * 4 ^ n + wc n q := rfl
        by_cases e : k = l
        · subst e
          rw [if_pos rfl, ih.1]
          exact ⟨decide_eq_decide.mpr oIffLt, fun z => by rw [ih.2 (by exact Nat.add_left_cancel z)]⟩
        · rw [if_neg e, d.2]
          have ne : dg k ≠ dg l := fun z => e (d.1.mpr z)
          have o := oDig2 ne b1 b2
          exact ⟨decide_eq_decide.mpr o.1, fun z => absurd z o.2⟩
noncomputable def UP (p : Way × Int) : Prop := Mnu p.1 ∧ p.1.length ≤ 5 ∧ (p.2 = 0 ∨ p.2 = 1)
noncomputable def pc (p : Way × Int) : Nat := wc 5 p.1 * 2 + p.2.toNat
theorem plt_pc {p q : Way × Int} (hp : UP p) (hq : UP q) : plt p q = decide (pc p < pc q) ∧ (pc p = pc q → p = q) := by
  have h := wlt_wc 5 p.1 q.1 hp.1 hq.1 hp.2.1 hq.2.1
  obtain ⟨x, f⟩ := p
  obtain ⟨y, g⟩ := q
  obtain ⟨_, _, hf⟩ := hp
  obtain ⟨_, _, hg⟩ := hq
  unfold plt pc
  dsimp only at *
  by_cases e : x = y
  · subst e
    rw [if_pos rfl]
    refine ⟨decide_eq_decide.mpr ((oTwoLt hf hg).1.trans oIffLt), fun z => ?_⟩
    rw [(oTwoLt hf hg).2 (Nat.add_left_cancel z)]
  · rw [if_neg e, h.1]
    have : wc 5 x ≠ wc 5 y := fun z => e (h.2 z)
    have o := oDig2 this (oTwo hf) (oTwo hg)
    exact ⟨decide_eq_decide.mpr o.1, fun z => absurd z o.2⟩
open Classical in
noncomputable def rkOf (h : Heap) (v : Value) : Nat := if e : ∃ p, PairAt h v p then pc (Classical.choose e) else 0
theorem rkOf_eq {h : Heap} {v : Value} {p : Way × Int} (x : PairAt h v p) : rkOf h v = pc p := by
  unfold rkOf
  rw [dif_pos ⟨p, x⟩]
  have := Classical.choose_spec (⟨p, x⟩ : ∃ p, PairAt h v p)
  exact congrArg pc (this.inj x)
section
variable {prog : Program} {w : World} {A : Around} {E : Value → Shared → Prop} {s : Shared}
theorem firsts_of {h : Heap} : ∀ {us : List Value} {qs : List (Way × Int)}, Vals (PairAt h) us qs → ∃ fs, KatTups h us fs ∧ fs.length = us.length ∧ ∀ v ∈ fs, ∃ q xs, v = .ref q ∧ h.get? q = some (tupO xs) := by
  intro us qs r
  induction r with
  | nil => exact ⟨[], trivial, rfl, fun v hv => by cases hv⟩
  | cons x r ih =>
    obtain ⟨fs, k, l, hf⟩ := ih
    obtain ⟨a, q, us, tk, rfl, a1, a2, _⟩ := x
    refine ⟨.ref q :: fs, KatTups.cons a1 rfl rfl rfl k, by rw [List.length_cons, List.length_cons, l], fun v hv => ?_⟩
    rcases List.mem_cons.mp hv with rfl | hv
    · exact ⟨_, _, rfl, a2⟩
    · exact hf v hv
theorem vals_rk {h h₁ : Heap} : ∀ {us : List Value} {qs : List (Way × Int)}, Vals (PairAt h) us qs → (∀ q ∈ qs, UP q) → qs.Nodup → us.Pairwise fun u v => rkOf h u ≠ rkOf h v := by
  intro us qs r
  induction r with
  | nil => exact fun x0 x0 => .nil
  | cons x r ih =>
    intro hU hn
    rw [List.nodup_cons] at hn
    refine List.pairwise_cons.mpr ⟨fun v hv => ?_, ih (fun q hq => hU q (.tail _ hq)) hn.2⟩
    obtain ⟨i, hi, e⟩ := List.mem_iff_getElem.mp hv
    obtain ⟨q, hq, y⟩ := r.at (List.getElem?_eq_some_iff.mpr ⟨hi, e⟩)
    rw [rkOf_eq x, rkOf_eq y]
    have hq := List.mem_of_getElem? hq
    exact fun z => hn.1 ((plt_pc (hU _ (.head _)) (hU _ (.tail _ hq))).2 z ▸ hq)
theorem keyOk {us : List Value} {qs : List (Way × Int)} {h : Heap} (hu : A.units + 64 < cLine) (hv : Vals (PairAt h) us qs) (hU : ∀ q ∈ qs, UP q) (hn : qs.Nodup) (hk : ∀ b o, h.get? b = some o → s.heap.get? b = some o) : KeyOk prog w A (tuples' false) (rkOf h) us s := by
  have ex : ∀ v ∈ us, ∃ q ∈ qs, PairAt h v q := fun v hv' => by
    obtain ⟨i, hi, e⟩ := List.mem_iff_getElem.mp hv'
    obtain ⟨q, hq, y⟩ := hv.at (List.getElem?_eq_some_iff.mpr ⟨hi, e⟩)
    exact ⟨q, List.mem_of_getElem? hq, y⟩
  have kp : ∀ {v q}, PairAt h v q → PairAt s.heap v q := fun x => x.keeps fun b us e => hk _ _ e
  refine ⟨⟨fun p hp q hq E Q hQ => ?_, ?_⟩, fun h2 E Q hQ => ?_⟩
  · rw [pairsOf_toList] at hp hq
    obtain ⟨x, hx, ex1⟩ := ex _ (mem_zip_self hp).2
    obtain ⟨y, hy, ey1⟩ := ex _ (mem_zip_self hq).2
    refine key_pair hu (kp ex1) (kp ey1) ?_
    rw [(plt_pc (hU x hx) (hU y hy)).1]
    rw [rkOf_eq ex1, rkOf_eq ey1] at hQ
    exact hQ
  · rw [pairsOf_toList]
    have := vals_rk (h₁ := h) hv hU hn
    rw [List.pairwise_iff_getElem] at this ⊢
    intro i j hi hj hij
    rw [List.getElem_zip, List.getElem_zip]
    rw [List.length_zip] at hi hj
    exact this i j (by lia) (by lia) hij
  · obtain ⟨fs, k, l, hf⟩ := firsts_of (hv)
    have k' : KatTups s.heap us fs := by
      clear l hf h2 ex hn hU hv
      induction us generalizing fs with
      | nil => cases fs <;> exact k
      | cons v us ih =>
        cases fs with
        | nil => exact k.elim
        | cons f fs =>
          obtain ⟨⟨a, o, xs, n, e, h1, h2⟩, r⟩ := k
          exact ⟨⟨a, o, xs, n, e, hk _ _ h1, h2⟩, ih _ r⟩
    refine kat_kind (T := .type "tuple") k' (by exact Nat.le_of_lt (Nat.lt_of_lt_of_le h2 (qfg l))) (fun v hv' => ?_) rfl ?_
    · obtain ⟨q, xs, rfl, e⟩ := hf v hv'
      exact (Looks.ld (hk _ _ e)).andThen .now
    · exact hQ
end
end Mine.Internal
end
section
set_option tactic.hygienic false
open PySem PySem.W PySem.Calls PyProof.Rows PySem.Spec
set_option maxRecDepth 100000
namespace Mine.Internal
theorem Vals.perm {At : Value → Way × Int → Prop} {out us : List Value} (p : out.Perm us) : ∀ {qs : List (Way × Int)}, Vals At us qs → ∃ ps, Vals At out ps ∧ ps.Perm qs := by
  induction p with
  | nil => exact fun h => ⟨_, h, .refl _⟩
  | cons v _ ih =>
    intro qs h
    cases h with
    | cons x r =>
      obtain ⟨ps, h1, h2⟩ := ih r
      exact ⟨_, .cons x h1, h2.cons _⟩
  | swap u v l =>
    intro qs h
    cases h with
    | cons x r =>
      cases r with
      | cons y r => exact ⟨_, .cons y (.cons x r), .swap _ _ _⟩
  | trans _ _ i1 i2 =>
    intro qs h
    obtain ⟨ps, h1, h2⟩ := i2 h
    obtain ⟨ps', h3, h4⟩ := i1 h1
    exact ⟨ps', h3, h4.trans h2⟩
theorem Vals.imp {At Bt : Value → Way × Int → Prop} (k : ∀ v p, At v p → Bt v p) {us : List Value} {qs : List (Way × Int)} (h : Vals At us qs) : Vals Bt us qs := by
  induction h with
  | nil => exact .nil
  | cons x _ ih => exact .cons (k _ _ x) ih
theorem Vals.ord {h : Heap} {us : List Value} {qs : List (Way × Int)} (v : Vals (PairAt h) us qs) (p : us.Pairwise fun u v => rkOf h u < rkOf h v) : qs.Pairwise fun a b => pc a < pc b := by
  induction v with
  | nil => exact .nil
  | cons x r ih =>
    rw [List.pairwise_cons] at p ⊢
    refine ⟨fun q hq => ?_, ih p.2⟩
    obtain ⟨i, hi, e⟩ := List.mem_iff_getElem.mp hq
    have hl := r.length
    obtain ⟨q', hq', y⟩ := r.at (i := i) (List.getElem?_eq_getElem (by exact Nat.le_trans hi (qfg hl)))
    rw [List.getElem?_eq_getElem hi, e] at hq'
    cases hq'
    have := p.1 _ (List.getElem_mem (by exact Nat.le_trans hi (qfg hl) : i < _))
    rwa [rkOf_eq x, rkOf_eq y] at this
theorem sorted_eq : ∀ {ps qs : List (Way × Int)}, ps.Perm qs → ps.Pairwise (fun a b => pc a < pc b) → qs.Pairwise (fun a b => pc a < pc b) → ps = qs
  | [], qs, p, _, _ => p.nil_eq
  | a :: ps, [], p, _, _ => by cases p.symm.nil_eq
  | a :: ps, b :: qs, p, h1, h2 => by
    rw [List.pairwise_cons] at h1 h2
    have e : a = b := by
      rcases List.mem_cons.mp (p.mem_iff.mp (.head _)) with e | e
      · exact e
      · rcases List.mem_cons.mp (p.mem_iff.mpr (.head _)) with e' | e'
        · exact e'.symm
        · have := h1.1 _ e'
          have := h2.1 _ e
          lia
    subst e
    rw [sorted_eq (List.perm_cons _ |>.mp p) h1.2 h2.2]
section
variable {prog : Program} {w : World} {A : Around} {E : Value → Shared → Prop} {env : Env} {ns : List Str} {h₀ : Heap} {vs : List (Option Value)} {l : Lg} {s₀ s : Shared}
theorem g_sorted {x : Value} {Q : Value → Shared → Prop} {G : List Value → List (Way × Int) → Prop} (st : S env ns h₀ vs l s₀ s) (hu : A.units + 80 < cLine)
    (hcol : ∀ (Q' : List Value → Shared → Prop) (E' : Value → Shared → Prop), (∀ us qs h' d tk, Vals (AtL l) us qs → G us qs → (∀ b o, s.heap.get? b = some o → h'.get? b = some o) → Q' us { s with heap := h', drawn := d, toks := tk }) → wpAny (model prog w) A.in1 (collect x) Q' E' s)
    (hG : ∀ us qs, G us qs → (∀ q ∈ qs, UP q) ∧ qs.Nodup ∧ qs.length ≤ 64)
    (h : ∀ out ps us qs D c s', Vals (AtL l) out ps → G us qs → ps.Perm qs → ps.Pairwise (fun a b => pc a < pc b) → S env ns h₀ vs ((D, listO out c) :: l) s₀ s' → Q (.ref D) s') : wpAny (model prog w) A (call (.builtin "sorted") [x]) Q E s := by
  have pa : ∀ v p, AtL l v p → PairAt s.heap v p := st.at_pairs fun c hc => hc
  refine sorted_ok (κ := tuples' false) (rk := rkOf s.heap) (G := fun us => ∃ qs, Vals (AtL l) us qs ∧ G us qs) (fun Q' E' h' => hcol Q' E' fun us qs h1 d tk v g k => h' us h1 d tk ⟨qs, v, g⟩ k) ?_ ?_ ?_
  · rintro us ⟨qs, v, g⟩
    rw [v.length]
    exact (hG us qs g).2.2
  · rintro us h' d tk ⟨qs, v, g⟩ k
    exact keyOk (by show A.units + 1 + 1 + 64 < cLine; exact qft fun x => qfa2 x hu (by simp +arith only)) (v.imp pa) (hG us qs g).1 (hG us qs g).2.1 k
  · rintro us out D c h' d tk ⟨qs, v, g⟩ p o k hD hd
    obtain ⟨ps, v2, p2⟩ := v.perm p
    exact h out ps us qs D c _ v2 g p2 ((v2.imp pa).ord o) (st.more k hD hd)
theorem g_sorted_set {a : Addr} {o : Obj} {ps : List (Way × Int)} {Q : Value → Shared → Prop} (hh : A.handled = none) (st : S env ns h₀ vs l s₀ s) (hu : A.units + 80 < cLine) (hm : (a, o) ∈ l) (P : PT prog w (AtL l) o ps) (hU : ∀ q ∈ ps, UP q) (hn : ps.Nodup) (hz : ps.length ≤ 64)
    (h : ∀ out qs D c s', Vals (AtL l) out qs → qs.Perm ps → qs.Pairwise (fun a b => pc a < pc b) → S env ns h₀ vs ((D, listO out c) :: l) s₀ s' → Q (.ref D) s') : wpAny (model prog w) A (call (.builtin "sorted") [.ref a]) Q E s := by
  obtain ⟨es, ep, t, qs0, rfl, P⟩ := P
  refine g_sorted (G := fun x qs => qs.Perm ps) st hu (fun Q' E' h' => collect_set (A := A.in1) hh (st.at hm) P (by exact Nat.le_trans hz (Nat.le_add_left _ _)) fun us qs h1 d tk v p k => h' us qs h1 d tk v p k) (fun us qs p => ⟨fun q hq => hU q (p.mem_iff.mp hq), p.nodup_iff.mpr hn, by rw [p.length_eq]; exact hz⟩) fun out qs us qs' D c s' v p p2 o s1 => h out qs D c s' v (p2.trans p) o s1
theorem g_sorted_list {a : Addr} {us : List Value} {n : Nat} {ps : List (Way × Int)} {Q : Value → Shared → Prop} (st : S env ns h₀ vs l s₀ s) (hu : A.units + 80 < cLine) (hm : (a, listO us n) ∈ l) (hv : Vals (AtL l) us ps) (hU : ∀ q ∈ ps, UP q) (hn : ps.Nodup) (hz : ps.length ≤ 64)
    (h : ∀ out qs D c s', Vals (AtL l) out qs → qs.Perm ps → qs.Pairwise (fun a b => pc a < pc b) → S env ns h₀ vs ((D, listO out c) :: l) s₀ s' → Q (.ref D) s') : wpAny (model prog w) A (call (.builtin "sorted") [.ref a]) Q E s := by
  have hl : s.heap.IsList a us.toArray := st.list hm
  have zl : sizeLine = 2 ^ 24 := sizeLine_eq
  refine g_sorted (G := fun x qs => qs = ps) st hu (fun Q' E' h' => collect_list hl (h' us ps _ s.drawn s.toks hv rfl fun b o e => ?_) (by rw [hv.length, zl]; exact Nat.le_trans hz (Nat.le_add_left _ _))) (fun us qs p => by subst p; exact ⟨hU, hn, hz⟩) fun out qs us qs' D c s' v p p2 o s1 => h out qs D c s' v (p ▸ p2) o s1
  exact (Heap.get?_update_other _ _ (Nat.ne_of_gt (Heap.lt_size e))).trans (Heap.get?_push_of_some _ e)
theorem reads_pairs {h : Heap} {us : List Value} {ps : List (Way × Int)} (v : Vals (PairAt h) us ps) : ReadsAll h us (ps.map pairD) [] := by
  induction v with
  | nil => exact .nil
  | cons x _ ih => exact ReadsAll.cons (as := []) (bs := []) x.reads ih
theorem shaped_pairs {h : Heap} {us : List Value} {ps : List (Way × Int)} (v : Vals (PairAt h) us ps) : SeqAt.shaped (.list (ps.map pairD)) = true := by
  have h1 : PyData.canLayAll0 (ps.map pairD) = true ∧ PyData.depthAll (ps.map pairD) ≤ 2 := by
    induction v with
    | nil => exact ⟨rfl, Nat.zero_le _⟩
    | cons x _ ih =>
      obtain ⟨_, _, _, _, _, _, _, _, o, _⟩ := x
      simp only [List.map_cons, PyData.canLayAll0, PyData.depthAll, ih.1, SeqAt.canLay_of_shaped (shaped_pair o), Bool.and_true, true_and]
      have : ∀ p : Way × Int, (pairD p).depth ≤ 2 := fun p => by
        unfold pairD wayD
        simp [PyData.depth, PyData.depthAll, depth_strs]
      have := this
      have h2 := ih.2
      first | exact Nat.max_le.mpr ⟨this _, h2⟩ | (have h3 := this; lia)
  unfold SeqAt.shaped
  simp only [PyData.canLay0, h1.1, PyData.depth, Bool.true_and]
  exact decide_eq_true (by have := h1.2; exact Nat.lt_of_le_of_lt h1.2 (Nat.le_of_ble_eq_true rfl))
theorem g_nepairs {a b : Addr} {us ws : List Value} {n m : Nat} {ps : List (Way × Int)} {Q : Value → Shared → Prop} (st : S env ns h₀ vs l s₀ s) (ha : (a, listO us n) ∈ l) (hb : (b, listO ws m) ∈ l) (hu : A.units + 64 < cLine) (hv : Vals (PairAt s.heap) us ps) (hw : Vals (PairAt s.heap) ws ps)
    (h : Q (.bool false) s) : wpAny (model prog w) A (compareOp .NotEq (.ref a) (.ref b)) Q E s := by
  have r1 : Reads s.heap (.ref a) (.list (ps.map pairD)) [a] := .list (st.at ha) rfl rfl (reads_pairs hv)
  have r2 : Reads s.heap (.ref b) (.list (ps.map pairD)) [b] := .list (st.at hb) rfl rfl (reads_pairs hw)
  refine SeqAt.compareNe_shaped r1 r2 (shaped_pairs hv) (shaped_pairs hw) hu ?_
  rw [show PyData.eqv (.list (ps.map pairD)) (.list (ps.map pairD)) = true from SeqAt.eqv_refl _ (SeqAt.canLay_of_shaped (shaped_pairs hv))]
  exact h
end
end Mine.Internal
end
section
set_option tactic.hygienic false
open PySem PySem.W PySem.Calls PyProof.Rows
set_option maxRecDepth 100000
namespace Mine.Internal
noncomputable def lawB : List Stmt := match PySem.Challenge.pw_aa0050_01.main.body.getLast? with | some (.FunctionDef (body := b) ..) => b | _ => []
noncomputable def lawSc : Scope := match PySem.Challenge.pw_aa0050_01.main.body.getLast? with | some (.FunctionDef (scope := b) ..) => b | _ => ⟨.function, [], false, false, []⟩
noncomputable def forB : List Stmt := match lawB.drop 3 with | .For (body := b) .. :: _ => b | _ => []
noncomputable abbrev nsN : List Str := ["script", "calls", "flags", "history", "kind", "flag", "here"]
structure NEnv (env : Env) (B : Nat) : Prop where
  kwaits : env.kindOf "waits" = some .cell
  kasked : env.kindOf "asked" = some .cell
  kway : env.kindOf "way" = some .cell
  lwaits : env.cells.lookup ("waits" : Str) = some (B + 1)
  lasked : env.cells.lookup ("asked" : Str) = some (B + 2)
  lway : env.cells.lookup ("way" : Str) = some (B + 3)
  klen : env.kindOf "len" = some .globalImplicit
  krange : env.kindOf "range" = some .globalImplicit
  ksorted : env.kindOf "sorted" = some .globalImplicit
  kflags : env.kindOf "Flags" = some .globalImplicit
  kref : env.kindOf "_law_all_refused" = some .globalImplicit
  kdue : env.kindOf "_law_as_due" = some .globalImplicit
  hint : interactive env = false
theorem nEnv (q : Str) (B : Nat) (f : Addr) (c : Value) : NEnv (envOfC q lawSc B f c) B := by
  constructor <;> rfl
inductive MS (prog : Program) (w : World) (B Hh As Ff : Addr) (T : Lg) (h : List Cl) (wt : List (Way × Int)) (ak : List Way) (xw : Option Value) : Lg → Prop
  | mk (F : FO) (z : Lg) (ps : Array Value) (o3 o2 o1 : Obj) (Wt : Addr) (hs ws as : List Value) (nh nw na : Nat) : F.f = Ff → F.Is prog w LM (histT h) → PT prog w (AtL (z ++ T)) F.opd (dd wt) → TabSt (z ++ T) ps → CellV o3 xw → CellV o2 (some (.ref As)) → CellV o1 (some (.ref Wt)) →
      Vs (CAt (z ++ T)) hs h → Vs (AtL (z ++ T)) ws wt → Vs (WAt (z ++ T)) as ak →
      MS prog w B Hh As Ff T h wt ak xw (F.cells ++ ((79, tabObj ps) :: (B + 3, o3) :: (B + 2, o2) :: (B + 1, o1) :: (Hh, listO hs nh) :: (Wt, listO ws nw) :: (As, listO as na) :: (z ++ T)))
theorem pmX {α : Type} (Z F m R : List α) : (Z ++ (F ++ (m ++ R))).Perm (F ++ (m ++ (Z ++ R))) := by
  have e1 : F ++ (m ++ R) = (F ++ m) ++ R := by simp
  have e2 : F ++ (m ++ (Z ++ R)) = (F ++ m) ++ (Z ++ R) := by simp
  rw [e1, e2]
  exact List.perm_append_comm_assoc _ _ _
end Mine.Internal
end
section
set_option tactic.hygienic false
open PySem PySem.W PySem.Calls PyProof.Rows
set_option maxRecDepth 100000
namespace Mine.Internal
theorem dummyLX1 : (PySem.Challenge.rw_aa0050_01 = PySem.Challenge.rw_aa0050_01 ∧ hkF = hkF) := by k_fill; exact ⟨rfl, rfl⟩
theorem WAt.mono1 {l l' : Lg} (k : ∀ c ∈ l, c ∈ l') (v : Value) (x : Way) (h : WAt l v x) : WAt l' v x := by
  obtain ⟨q, xs, e, h1, h2⟩ := h
  exact ⟨q, xs, e, k _ h1, h2⟩
theorem pmX1 {α : Type} (y : α) (F m z T : List α) : (y :: (F ++ (m ++ (z ++ T)))).Perm (F ++ (m ++ ((y :: z) ++ T))) := pmX [y] F m (z ++ T)
theorem pmZ {α : Type} (y : α) (F z2 m z T : List α) : (y :: (F ++ (z2 ++ (m ++ (z ++ T))))).Perm (F ++ (y :: (m ++ ((z2 ++ z) ++ T)))) := by
  have h1 : (z2 ++ (m ++ (z ++ T))).Perm (m ++ ((z2 ++ z) ++ T)) := by
    rw [List.append_assoc z2 z T]
    exact List.perm_append_comm_assoc _ _ _
  exact ((h1.append_left F).cons y).trans List.perm_middle.symm
theorem pmY {α : Type} (a b : α) (Z R : List α) : (Z ++ (a :: b :: R)).Perm (b :: ((a :: Z) ++ R)) :=
  (List.perm_middle (l₁ := Z)).trans (((List.perm_middle (l₁ := Z)).cons a).trans (.swap _ _ _))
theorem mAss {α : Type} {x : α} {a b c : List α} (h : x ∈ a ++ (b ++ c)) : x ∈ (a ++ b) ++ c := by rw [List.append_assoc]; exact h
theorem pmV {α : Type} (a b x y : α) (z2 F m z T : List α) : (a :: b :: (z2 ++ (F ++ (m ++ (x :: y :: (z ++ T)))))).Perm (F ++ (m ++ (a :: y :: ((x :: b :: (z2 ++ z)) ++ T)))) := by
  have h1 : ((b :: z2) ++ (x :: y :: (z ++ T))).Perm (y :: ((x :: b :: (z2 ++ z)) ++ T)) := by
    have := pmY x y (b :: z2) (z ++ T)
    have e : (x :: (b :: z2)) ++ (z ++ T) = (x :: b :: (z2 ++ z)) ++ T := by simp
    rwa [e] at this
  exact (pmX (a :: b :: z2) F m (x :: y :: (z ++ T))).trans (((h1.cons a).append_left m).append_left F)
section
variable {prog : Program} {w : World} {A : Around} {E : Value → Shared → Prop} {env : Env} {h₀ : Heap} {s₀ s : Shared}
  {p : Program} {loose : List Str} {mean : ExcName → Option Value} {mg mb : Str → Option Value} {B Hh As Ff q : Addr} {T l : Lg} {h : List Cl} {wt : List (Way × Int)} {ak : List Way} {k0 k1 k6 : Option Value} {c : Cl} {t1 t2 : Tok} {us : List Value} {n : Nat} {Q : Flow → Shared → Prop}
set_option maxHeartbeats 4000000 in
theorem kinds (fn : Fn env nsN) (he : ∃ q f c, env = envOfC q lawSc B f c) (hA : A.frames = some [env]) (cx : Cx (hkF w.params) p loose mean mg mb 200 300 A env h₀)
    (hok : OkC c) (oL : OkL (h, wt, ak) n) (hn : n ≤ 66) (mq : (q, tupO us) ∈ T) (hw : WayV us c.2.1) (hM : MS prog w B Hh As Ff T h wt ak (some (.ref q)) l)
    (st : S env nsN h₀ [k0, k1, some (.ref Ff), some (.ref Hh), some (.int c.1 t1), some (.int c.2.2 t2), k6] l s₀ s)
    (k' : ∀ l' s', MS prog w B Hh As Ff T (stepH h wt c) (stepW wt c) ak (some (.ref q)) l' → S env nsN h₀ [k0, k1, some (.ref Ff), some (.ref Hh), some (.int c.1 t1), some (.int c.2.2 t2), k6] l' s₀ s' → W (model prog w) A (execs (forB.drop 1) env) Q E s') :
    W (model prog w) A (execs forB env) Q E s := by
  have le : NEnv env B := by obtain ⟨q, f, c, rfl⟩ := he; exact nEnv q B f c
  obtain ⟨F, z, ps, o3, o2, o1, Wt, hs, ws, as, nh, nw, na, rfl, H, hP, hT, v3, v2, v1, vh, vw, va⟩ := hM
  have hcF : ∀ R : Lg, ∀ x ∈ F.cells, x ∈ F.cells ++ R := fun R x hx => List.mem_append_left _ hx
  have rway : Rd prog w env [(B + 3, o3)] "way" (.ref q) := Rd.cell fn.kind le.kway le.lway (.head _) v3
  have rwaits : Rd prog w env [(B + 1, o1)] "waits" (.ref Wt) := Rd.cell fn.kind le.kwaits le.lwaits (.head _) v1
  have hsz : us.length ≤ sizeLine := by have h1 : sizeLine = 2 ^ 24 := rfl; rw [hw.length, h1]; have := hok.len; exact Nat.le_trans this (Nat.le_add_left _ _)
  have hlh : h.length + wt.length ≤ n := oL.lh
  have mT : ∀ x ∈ T, x ∈ z ++ T := fun x hx => List.mem_append_right _ hx
  have ex : ∀ (y : Addr × Obj) a us, (a, tupO us) ∈ z ++ T → (a, tupO us) ∈ (y :: z) ++ T := fun y a us hx => .tail _ hx
  have exm : ∀ (y : Addr × Obj) x, x ∈ z ++ T → x ∈ (y :: z) ++ T := fun y x hx => .tail _ hx
  have mR : ∀ x ∈ z ++ T, x ∈ [(79, tabObj ps), (B + 3, o3), (B + 2, o2), (B + 1, o1), (Hh, listO hs nh), (Wt, listO ws nw), (As, listO as na)] ++ (z ++ T) := fun x hx => List.mem_append_right _ hx
  have m1 : ∀ Z : Lg, ∀ x ∈ [(B + 3, o3)], x ∈ Z ++ ([(79, tabObj ps), (B + 3, o3), (B + 2, o2), (B + 1, o1), (Hh, listO hs nh), (Wt, listO ws nw), (As, listO as na)] ++ (z ++ T)) := fun Z x hx => by rw [List.mem_singleton.mp hx]; exact List.mem_append_right _ (.tail _ (.head _))
  have m2 : ∀ Z : Lg, ∀ x ∈ [(B + 1, o1)], x ∈ Z ++ ([(79, tabObj ps), (B + 3, o3), (B + 2, o2), (B + 1, o1), (Hh, listO hs nh), (Wt, listO ws nw), (As, listO as na)] ++ (z ++ T)) := fun Z x hx => by rw [List.mem_singleton.mp hx]; exact List.mem_append_right _ (.tail _ (.tail _ (.tail _ (.head _))))
  have hwl : hs.length ≤ sizeLine ∧ ws.length ≤ sizeLine := by
    have h1 : sizeLine = 2 ^ 24 := rfl
    have h2 := vh.length
    have h3 := vw.length
    lia
  have hdl : (dd wt).length < 70 := by have := dd_len wt; exact qft fun x => qfa4 x this hlh hn (by simp +arith only)
  have hkind := hok.kind
  refine w_cons (w_if (w_testcmp (w_name 4 fn st rfl rfl (w_int st fun t7 s7 st7 => w_lt (w_tbool ?_)))))
  by_cases hk2 : c.1 < 2
  · refine ite_t (decide_eq_true hk2) ?_
    refine w_cons (w_exprA le.hint (w_methKW (w_name 2 fn st7 rfl rfl (w_mset cx st7 H (hcF _) (w_cwKW cx (by k_is) (w_args (w_rd rway st7 (m1 _) (w_args (w_name 5 fn st7 rfl rfl (w_args0 (w_kw (w_cmp (w_name 4 fn st7 rfl rfl (w_int st7 fun t8 s8 st8 => w_eq (w_kw0 ⟨st8.inK cx, w_callF ?_⟩)))))))))))))))
    refine set_spec (d := 199) (u := 297) fn (cx.le (by exact Nat.le_refl _) (by exact Nat.le_refl _)) st8 H (mR _ (mT _ mq)) hw hsz hok.ne hok.menu (by decide) hok.flag fun F2 s9 H2 sm2 st9 => ?_
    refine w_cons (w_exprA le.hint (w_meth (w_name 3 fn st9 rfl rfl (w_lappend_meth st9 (List.mem_append_right _ (.tail _ (.tail _ (.tail _ (.tail _ (.head _)))))) (w_cwBuiltin (w_args (w_tupleE (w_args (w_name 4 fn st9 rfl rfl (w_args (w_rd rway st9 (m1 F2.cells) (w_args (w_name 5 fn st9 rfl rfl (w_args0 (w_tuple st9 fun a s10 st10 => w_args0 ?_)))))))))))))))
    refine w_append (l' := fun o' => (a, tupO [.int c.1 t1, .ref q, .int c.2.2 t2]) :: (F2.cells ++ ((79, tabObj ps) :: (B + 3, o3) :: (B + 2, o2) :: (B + 1, o1) :: (Hh, o') :: (Wt, listO ws nw) :: (As, listO as na) :: (z ++ T)))) st10 (fun o' => .tail (.app (.tail (.tail (.tail (.tail .head)))))) hwl.1 fun n' s11 st11 => ?_
    have p1 := pmX1 (α := Addr × Obj) (a, tupO [.int c.1 t1, .ref q, .int c.2.2 t2]) F2.cells [(79, tabObj ps), (B + 3, o3), (B + 2, o2), (B + 1, o1), (Hh, listO (hs ++ [.ref a]) n'), (Wt, listO ws nw), (As, listO as na)] z T
    have st12 := st11.perm p1
    refine w_nil (k' _ _ ?_ st12)
    rw [show stepH h wt c = h ++ [c] from by unfold stepH; rw [if_pos hk2], show stepW wt c = wt from by unfold stepW; rw [if_neg (by lia), if_neg (by lia)]]
    exact .mk F2 ((a, tupO [.int c.1 t1, .ref q, .int c.2.2 t2]) :: z) ps o3 o2 o1 Wt (hs ++ [.ref a]) ws as n' nw na sm2.f (by rw [histT_snoc]; exact (by unfold hStep; rw [if_neg (by lia)]; exact H2)) (by rw [sm2.opd]; exact hP.imp (AtL.imp (ex _))) (hT.mono (exm _)) v3 v2 v1 ((vh.imp (CAt.imp (ex _))).append (.cons ⟨a, q, us, t1, t2, rfl, .head _, .tail _ (mT _ mq), hw⟩ .nil)) (vw.imp (AtL.imp (ex _))) (va.imp (WAt.mono1 (exm _)))
  · refine ite_f (decide_eq_false hk2) ?_
    refine w_cons (w_if (w_testcmp (w_name 4 fn st7 rfl rfl (w_int st7 fun t8 s8 st8 => w_eq (w_tbool ?_)))))
    by_cases hk : c.1 = 2
    · refine ite_t (beq_iff_eq.mpr hk) ?_
      refine w_cons (w_exprA le.hint (w_meth (w_name 2 fn st8 rfl rfl (w_madd cx st8 H (hcF _) (w_cwK cx (by k_is) (w_args (w_rd rway st8 (m1 _) (w_args (w_name 5 fn st8 rfl rfl (w_args0 ⟨st8.inK cx, w_callF ?_⟩))))))))))
      refine add_spec (d := 199) (u := 227) (zz := z ++ T) fn (cx.le (by exact Nat.le_refl _) (by exact Nat.le_refl _)) st8 H mR hP hdl (mT _ mq) hw (okw_menu hok.menu) hok.ne fun b o' s9 H2 hP2 st9 => ?_
      have q1 := List.Perm.append_left (F.pend o').cells (pmX1 (α := Addr × Obj) (b, tupO [.ref q, .int c.2.2 t2]) [] [(79, tabObj ps), (B + 3, o3), (B + 2, o2), (B + 1, o1), (Hh, listO hs nh), (Wt, listO ws nw), (As, listO as na)] z T)
      have sta : S env nsN h₀ [k0, k1, some (.ref F.f), some (.ref Hh), some (.int c.1 t1), some (.int c.2.2 t2), k6] ((F.pend o').cells ++ ([(79, tabObj ps), (B + 3, o3), (B + 2, o2), (B + 1, o1), (Hh, listO hs nh), (Wt, listO ws nw), (As, listO as na)] ++ (((b, tupO [.ref q, .int c.2.2 t2]) :: z) ++ T))) s₀ s9 := st9.perm q1
      have m3 : ∀ x ∈ [(B + 3, o3)], x ∈ (F.pend o').cells ++ ([(79, tabObj ps), (B + 3, o3), (B + 2, o2), (B + 1, o1), (Hh, listO hs nh), (Wt, listO ws nw), (As, listO as na)] ++ (((b, tupO [.ref q, .int c.2.2 t2]) :: z) ++ T)) := fun x hx => by rw [List.mem_singleton.mp hx]; exact List.mem_append_right _ (.tail _ (.head _))
      have m4 : ∀ x ∈ [(B + 1, o1)], x ∈ (F.pend o').cells ++ ([(79, tabObj ps), (B + 3, o3), (B + 2, o2), (B + 1, o1), (Hh, listO hs nh), (Wt, listO ws nw), (As, listO as na)] ++ (((b, tupO [.ref q, .int c.2.2 t2]) :: z) ++ T)) := fun x hx => by rw [List.mem_singleton.mp hx]; exact List.mem_append_right _ (.tail _ (.tail _ (.tail _ (.head _))))
      refine w_cons (w_exprA le.hint (w_meth (w_rd rwaits sta m4 (w_lappend_meth sta (List.mem_append_right _ (.tail _ (.tail _ (.tail _ (.tail _ (.tail _ (.head _))))))) (w_cwBuiltin (w_args (w_tupleE (w_args (w_rd rway sta m3 (w_args (w_name 5 fn sta rfl rfl (w_args0 (w_tuple sta fun a s10 st10 => w_args0 ?_)))))))))))))
      refine w_append (l' := fun o2' => (a, tupO [.ref q, .int c.2.2 t2]) :: ((F.pend o').cells ++ ((79, tabObj ps) :: (B + 3, o3) :: (B + 2, o2) :: (B + 1, o1) :: (Hh, listO hs nh) :: (Wt, o2') :: (As, listO as na) :: (((b, tupO [.ref q, .int c.2.2 t2]) :: z) ++ T)))) st10 (fun o2' => .tail (.app (.tail (.tail (.tail (.tail (.tail .head))))))) hwl.2 fun n' s11 st11 => ?_
      have p1 := pmX1 (α := Addr × Obj) (a, tupO [.ref q, .int c.2.2 t2]) (F.pend o').cells [(79, tabObj ps), (B + 3, o3), (B + 2, o2), (B + 1, o1), (Hh, listO hs nh), (Wt, listO (ws ++ [.ref a]) n'), (As, listO as na)] ((b, tupO [.ref q, .int c.2.2 t2]) :: z) T
      have st12 := st11.perm p1
      refine w_nil (w_nil (k' _ _ ?_ st12))
      have exx : ∀ a' us', (a', tupO us') ∈ z ++ T → (a', tupO us') ∈ ((a, tupO [.ref q, .int c.2.2 t2]) :: (b, tupO [.ref q, .int c.2.2 t2]) :: z) ++ T := fun a' us' hx => .tail _ (.tail _ hx)
      have exy : ∀ x, x ∈ z ++ T → x ∈ ((a, tupO [.ref q, .int c.2.2 t2]) :: (b, tupO [.ref q, .int c.2.2 t2]) :: z) ++ T := fun x hx => .tail _ (.tail _ hx)
      rw [show stepH h wt c = h from by unfold stepH; rw [if_neg hk2, if_pos hk], show stepW wt c = wt ++ [c.2] from by unfold stepW; rw [if_pos hk]]
      exact .mk (F.pend o') ((a, tupO [.ref q, .int c.2.2 t2]) :: (b, tupO [.ref q, .int c.2.2 t2]) :: z) ps o3 o2 o1 Wt hs (ws ++ [.ref a]) as nh n' na rfl H2 (by rw [dd_snoc]; exact hP2.imp (AtL.imp fun a' us' hx => .tail _ hx)) (hT.mono exy) v3 v2 v1 (vh.imp (CAt.imp exx)) ((vw.imp (AtL.imp exx)).append (.cons ⟨a, q, us, t2, rfl, .head _, .tail _ (.tail _ (mT _ mq)), hw, okw_menu hok.menu, hok.ne⟩ .nil)) (va.imp (WAt.mono1 exy))
    · refine ite_f (beq_eq_false_iff_ne.mpr hk) ?_
      refine w_cons (w_if (w_testcmp (w_name 4 fn st8 rfl rfl (w_int st8 fun t9 s9 st9 => w_eq (w_tbool ?_)))))
      by_cases hk3 : c.1 = 3
      · refine ite_t (beq_iff_eq.mpr hk3) ?_
        refine w_cons (w_exprA le.hint (w_meth (w_name 2 fn st9 rfl rfl (w_mfin cx st9 H (hcF _) (w_cwK0 cx st9 (by k_is) (w_callF ?_))))))
        refine finalize_spec (d := 198) (u := 294) (zz := z ++ T) fn (cx.le (by exact Nat.le_refl _) (by exact Nat.le_refl _)) st9 H mR hP (by exact qfl fun x => qfa2 x hdl (by simp +arith only)) (fun p hp => ⟨(oL.w p (mem_dd.mp hp)).flag, (oL.w p (mem_dd.mp hp)).menu, by have := (oL.w p (mem_dd.mp hp)).len; exact Nat.le_trans this (Nat.le_add_left _ _)⟩) (by decide) fun F2 qs sa hqp H2 ef hP2 sta => ?_
        have hne : ∀ x ∈ wt, x.1 ≠ [] := fun x hx => (oL.w x hx).ne
        have H3 : F2.Is prog w LM (histT (h ++ fin0 wt)) := by rw [histT_fin, ← finT_dd _ _ wt rfl hne, ← finT_perm _ hqp fun x hx => hne x (mem_dd.mp hx)]; exact H2
        clear H2 hqp
        generalize hL0 : F2.cells ++ ((79, tabObj ps) :: (B + 3, o3) :: (B + 2, o2) :: (B + 1, o1) :: (Hh, listO hs nh) :: (Wt, listO ws nw) :: (As, listO as na) :: (z ++ T)) = L0 at sta
        have mH : (Hh, listO hs nh) ∈ L0 := hL0 ▸ List.mem_append_right _ (.tail _ (.tail _ (.tail _ (.tail _ (.head _)))))
        have mW : (Wt, listO ws nw) ∈ L0 := hL0 ▸ List.mem_append_right _ (.tail _ (.tail _ (.tail _ (.tail _ (.tail _ (.head _))))))
        have mo1 : ∀ x ∈ [(B + 1, o1)], x ∈ L0 := fun x hx => by rw [List.mem_singleton.mp hx]; exact hL0 ▸ List.mem_append_right _ (.tail _ (.tail _ (.tail _ (.head _))))
        have mz : ∀ x ∈ z ++ T, x ∈ L0 := fun x hx => hL0 ▸ List.mem_append_right _ (.tail _ (.tail _ (.tail _ (.tail _ (.tail _ (.tail _ (.tail _ hx)))))))
        refine w_cons (w_exprA le.hint (w_meth (w_name 3 fn sta rfl rfl (w_extend_meth sta mH (w_cwBuiltin (w_args (w_comp (w_rd rwaits sta mo1 ?_) (fun x hx hfr => ?_) (fun x => rfl) rfl (by decide))))))))
        · refine w_compPair (fun v v1 v2 => ∃ a, v = .ref a ∧ (a, tupO [v1, v2]) ∈ z ++ T) cx.hand fn.gl rfl rfl rfl (by decide) (fun C => rfl) (fun i ys l2 => ∃ z2, l2 = z2 ++ L0 ∧ Vs (CAt (z2 ++ (z ++ T))) ys (fin0 (wt.take i))) sta mW ⟨[], rfl, .nil⟩ (by have := vw.length; lia) (fun i ys l' hJ => by obtain ⟨z2, rfl, _⟩ := hJ; exact List.mem_append_right _ mW) ?_ ?_ ?_
          · rintro i v ys l' hv ⟨z2, rfl, _⟩
            obtain ⟨p, _, a, q2, us2, tk, rfl, h1, _⟩ := vw.at hv
            exact ⟨a, .ref q2, .int p.2 tk, rfl, ⟨a, rfl, h1⟩, List.mem_append_right _ (mz _ h1)⟩
          · rintro cenv i v v1 v2 ys zf l' sc E' hce hv ⟨a, rfl, ha⟩ ⟨z2, rfl, hys⟩ r1 r2 stc
            obtain ⟨p, hp, a2, q2, us2, tk, e2, h1, h2, h3, _⟩ := vw.at hv
            cases e2
            have e3 := stc.fun (List.mem_append_right _ (List.mem_append_right _ (mz _ ha))) (List.mem_append_right _ (List.mem_append_right _ (mz _ h1)))
            have e4 : [v1, v2] = [.ref q2, .int p.2 tk] := by injection e3 with _ _ e5 _; injection e5 with e6 _; exact congrArg Array.toList e6
            cases e4
            refine w_tests0 (ite_t rfl ?_)
            refine w_tupleE (w_args (w_cint stc fun tz sd std => w_args (w_rd r1 std (fun x hx => List.mem_append_left _ hx) (w_args (w_rd r2 std (fun x hx => List.mem_append_left _ hx) (w_args0 (w_tuple std fun b se ste => ?_)))))))
            refine ⟨(b, tupO [.int 0 tz, .ref q2, .int p.2 tk]) :: (z2 ++ L0), ste.perm List.perm_middle.symm, (b, tupO [.int 0 tz, .ref q2, .int p.2 tk]) :: z2, rfl, ?_⟩
            rw [List.take_add_one, hp, show fin0 (wt.take i ++ (some p).toList) = fin0 (wt.take i) ++ [(0, p.1, p.2)] from by unfold fin0; rw [List.map_append]; rfl]
            exact (hys.imp (CAt.imp fun x x hx => .tail _ hx)).append (.cons ⟨b, q2, us2, tz, tk, rfl, .head _, .tail _ (List.mem_append_right _ h2), h3⟩ .nil)
          · rintro ys k D C oC m l' sc ⟨z2, rfl, hys⟩ hle hN stc
            refine RRn_done stc hN fun sd std => w_args0 ?_
            rw [vw.length, List.take_length] at hys
            subst hL0
            have hyl := hys.length
            have hfl : (fin0 wt).length = wt.length := by unfold fin0; rw [List.length_map]
            have hhl := vh.length
            refine w_extend (l' := fun o' => (D, listO ys k) :: (z2 ++ (F2.cells ++ ((79, tabObj ps) :: (B + 3, o3) :: (B + 2, o2) :: (B + 1, o1) :: (Hh, o') :: (Wt, listO ws nw) :: (As, listO as na) :: (z ++ T))))) std (fun o' => .tail (.app (.app (.tail (.tail (.tail (.tail .head))))))) (.head _) (by lia) fun n' se ste => ?_
            refine w_cons (w_assignC (w_listE (w_args0 (w_list ste fun W2 sf stf => ?_))))
            refine w_setcell (l' := fun o' => (W2, listO [] 0) :: (D, listO ys k) :: (z2 ++ (F2.cells ++ ((79, tabObj ps) :: (B + 3, o3) :: (B + 2, o2) :: (B + 1, o') :: (Hh, listO (hs ++ ys) n') :: (Wt, listO ws nw) :: (As, listO as na) :: (z ++ T))))) fn.gl stf le.kwaits le.lwaits (fun o' => .tail (.tail (.app (.app (.tail (.tail (.tail .head))))))) v1 fun o1' sg v1' stg => ?_
            have pv := pmV (α := Addr × Obj) (W2, listO [] 0) (D, listO ys k) (Wt, listO ws nw) (As, listO as na) z2 F2.cells [(79, tabObj ps), (B + 3, o3), (B + 2, o2), (B + 1, o1'), (Hh, listO (hs ++ ys) n')] z T
            have sth := stg.perm pv
            refine w_nil (w_nil (w_nil (k' _ _ ?_ sth)))
            have exy : ∀ x, x ∈ z ++ T → x ∈ ((Wt, listO ws nw) :: (D, listO ys k) :: (z2 ++ z)) ++ T := fun x hx => .tail _ (.tail _ (mAss (List.mem_append_right _ hx)))
            have exx : ∀ a' us', (a', tupO us') ∈ z ++ T → (a', tupO us') ∈ ((Wt, listO ws nw) :: (D, listO ys k) :: (z2 ++ z)) ++ T := fun a' us' hx => exy _ hx
            rw [show stepH h wt c = h ++ fin0 wt from by unfold stepH; rw [if_neg hk2, if_neg hk, if_pos hk3], show stepW wt c = [] from by unfold stepW; rw [if_neg hk, if_pos hk3]]
            exact .mk F2 ((Wt, listO ws nw) :: (D, listO ys k) :: (z2 ++ z)) ps o3 o2 o1' W2 (hs ++ ys) [] as n' 0 na ef H3 (hP2.imp (AtL.imp exx)) (hT.mono exy) v3 v2 v1' ((vh.imp (CAt.imp exx)).append (hys.imp (CAt.imp fun a' us' hx => .tail _ (.tail _ (mAss hx))))) .nil (va.imp (WAt.mono1 exy))
        · simp only [List.mem_cons, List.not_mem_nil, or_false] at hx
          rcases hx with rfl | rfl | rfl <;> cases hfr
      · refine ite_f (beq_eq_false_iff_ne.mpr hk3) ?_
        refine w_cons (w_if (w_testcmp (w_name 4 fn st9 rfl rfl (w_int st9 fun ta sa sta => w_eq (w_tbool ?_)))))
        by_cases hk4 : c.1 = 4
        · refine ite_t (beq_iff_eq.mpr hk4) ?_
          refine w_cons (w_exprA le.hint (w_meth (w_name 2 fn sta rfl rfl (w_munset cx sta H (hcF _) (w_cwK cx (by k_is) (w_args (w_rd rway sta (m1 _) (w_args0 ⟨sta.inK cx, w_callF ?_⟩))))))))
          refine unset_spec (d := 199) (u := 297) fn (cx.le (by exact Nat.le_refl _) (by exact Nat.le_refl _)) sta H (mR _ (mT _ mq)) hw hsz hok.ne (by decide) fun F2 sb H2 sm2 stb => ?_
          refine w_cons (w_exprA le.hint (w_meth (w_name 3 fn stb rfl rfl (w_lappend_meth stb (List.mem_append_right _ (.tail _ (.tail _ (.tail _ (.tail _ (.head _)))))) (w_cwBuiltin (w_args (w_tupleE (w_args (w_name 4 fn stb rfl rfl (w_args (w_rd rway stb (m1 F2.cells) (w_args (w_name 5 fn stb rfl rfl (w_args0 (w_tuple stb fun a s10 st10 => w_args0 ?_)))))))))))))))
          refine w_append (l' := fun o' => (a, tupO [.int c.1 t1, .ref q, .int c.2.2 t2]) :: (F2.cells ++ ((79, tabObj ps) :: (B + 3, o3) :: (B + 2, o2) :: (B + 1, o1) :: (Hh, o') :: (Wt, listO ws nw) :: (As, listO as na) :: (z ++ T)))) st10 (fun o' => .tail (.app (.tail (.tail (.tail (.tail .head)))))) hwl.1 fun n' s11 st11 => ?_
          have p1 := pmX1 (α := Addr × Obj) (a, tupO [.int c.1 t1, .ref q, .int c.2.2 t2]) F2.cells [(79, tabObj ps), (B + 3, o3), (B + 2, o2), (B + 1, o1), (Hh, listO (hs ++ [.ref a]) n'), (Wt, listO ws nw), (As, listO as na)] z T
          have st12 := st11.perm p1
          refine w_nil (w_nil (w_nil (w_nil (k' _ _ ?_ st12))))
          rw [show stepH h wt c = h ++ [c] from by unfold stepH; rw [if_neg hk2, if_neg hk, if_neg hk3, if_pos hk4], show stepW wt c = wt from by unfold stepW; rw [if_neg hk, if_neg hk3]]
          exact .mk F2 ((a, tupO [.int c.1 t1, .ref q, .int c.2.2 t2]) :: z) ps o3 o2 o1 Wt (hs ++ [.ref a]) ws as n' nw na sm2.f (by rw [histT_snoc]; exact (by unfold hStep; rw [if_pos hk4]; exact H2)) (by rw [sm2.opd]; exact hP.imp (AtL.imp (ex _))) (hT.mono (exm _)) v3 v2 v1 ((vh.imp (CAt.imp (ex _))).append (.cons ⟨a, q, us, t1, t2, rfl, .head _, .tail _ (mT _ mq), hw⟩ .nil)) (vw.imp (AtL.imp (ex _))) (va.imp (WAt.mono1 (exm _)))
        · refine ite_f (beq_eq_false_iff_ne.mpr hk4) ?_
          refine w_cons (w_if (w_not (w_plain (w_callE (w_global fn cx sta (by k_is) le.kref (by decide) (w_cwK cx (by k_is) (w_args (w_name 2 fn sta rfl rfl (w_args (w_name 5 fn sta rfl rfl (w_args0 ⟨sta.inK cx, w_callF ?_⟩)))))))))))
          have pa := List.perm_middle (a := ((79, tabObj ps) : Addr × Obj)) (l₁ := F.cells) (l₂ := (B + 3, o3) :: (B + 2, o2) :: (B + 1, o1) :: (Hh, listO hs nh) :: (Wt, listO ws nw) :: (As, listO as na) :: (z ++ T))
          refine refused_spec (d := 150) (u := 200) (lc := z ++ T) fn hA (cx.le (by exact Nat.le_of_ble_eq_true rfl) (by exact Nat.le_of_ble_eq_true rfl)) (sta.perm pa) H (fun x hx => .tail _ (.tail _ (.tail _ (.tail _ (.tail _ (.tail _ hx)))))) hT fun z2 ps' sb hT2 stb => ?_
          have pb := pmZ (α := Addr × Obj) (79, tabObj ps') F.cells z2 [(B + 3, o3), (B + 2, o2), (B + 1, o1), (Hh, listO hs nh), (Wt, listO ws nw), (As, listO as na)] z T
          have stc := stb.perm pb
          refine w_tbool (w_nil (w_nil (w_nil (w_nil (w_nil (k' _ _ ?_ stc))))))
          have exy : ∀ x, x ∈ z ++ T → x ∈ (z2 ++ z) ++ T := fun x hx => by rw [List.append_assoc]; exact List.mem_append_right _ hx
          have exx : ∀ a' us', (a', tupO us') ∈ z ++ T → (a', tupO us') ∈ (z2 ++ z) ++ T := fun a' us' hx => exy _ hx
          rw [show stepH h wt c = h from by unfold stepH; rw [if_neg hk2, if_neg hk, if_neg hk3, if_neg hk4], show stepW wt c = wt from by unfold stepW; rw [if_neg hk, if_neg hk3]]
          exact .mk F (z2 ++ z) ps' o3 o2 o1 Wt hs ws as nh nw na rfl H (hP.imp (AtL.imp exx)) (by rw [List.append_assoc]; exact hT2) v3 v2 v1 (vh.imp (CAt.imp exx)) (vw.imp (AtL.imp exx)) (va.imp (WAt.mono1 exy))
end
end Mine.Internal
end
section
set_option tactic.hygienic false
open PySem PySem.W PySem.Calls PyProof.Rows
set_option maxRecDepth 100000
namespace Mine.Internal
theorem dummyLX2 : (PySem.Challenge.rw_aa0050_01 = PySem.Challenge.rw_aa0050_01 ∧ hkF = hkF) := by k_fill; exact ⟨rfl, rfl⟩
theorem pmW {α : Type} (d : α) (F zz X m z T : List α) : (d :: (F ++ (zz ++ (X ++ (m ++ (z ++ T)))))).Perm (F ++ (m ++ ((d :: (zz ++ (X ++ z))) ++ T))) := by
  have h1 : (d :: (zz ++ (X ++ (m ++ (z ++ T))))).Perm (m ++ ((d :: (zz ++ (X ++ z))) ++ T)) := by
    have e1 : d :: (zz ++ (X ++ (m ++ (z ++ T)))) = (d :: (zz ++ X)) ++ (m ++ (z ++ T)) := by simp
    have e2 : m ++ ((d :: (zz ++ (X ++ z))) ++ T) = m ++ ((d :: (zz ++ X)) ++ (z ++ T)) := by simp
    rw [e1, e2]
    exact List.perm_append_comm_assoc _ _ _
  exact (List.perm_middle.symm).trans (h1.append_left F)
section
variable {prog : Program} {w : World} {A : Around} {E : Value → Shared → Prop} {env : Env} {h₀ : Heap} {s₀ s : Shared}
  {p : Program} {loose : List Str} {mean : ExcName → Option Value} {mg mb : Str → Option Value} {B Hh As Ff q : Addr} {T l : Lg} {h : List Cl} {wt : List (Way × Int)} {ak : List Way} {k0 k1 k4 k5 k6 : Option Value} {way : Way} {us : List Value} {n : Nat} {Q : Flow → Shared → Prop}
set_option maxHeartbeats 4000000 in
theorem ends (fn : Fn env nsN) (he : ∃ q f c, env = envOfC q lawSc B f c) (cx : Cx (hkF w.params) p loose mean mg mb 200 300 A env h₀)
    (hmenu : ∀ z ∈ way, z ∈ LM) (hl5 : way.length ≤ 5) (oL : OkL (h, wt, ak) n) (hn : n ≤ 66) (mq : (q, tupO us) ∈ T) (hw : WayV us way) (hM : MS prog w B Hh As Ff T h wt ak (some (.ref q)) l)
    (st : S env nsN h₀ [k0, k1, some (.ref Ff), some (.ref Hh), k4, k5, k6] l s₀ s)
    (k' : ∀ l' D s', MS prog w B Hh As Ff T h wt (stepQ ak way) (some (.ref q)) l' → S env nsN h₀ [k0, k1, some (.ref Ff), some (.ref Hh), k4, k5, some (.ref D)] l' s₀ s' → Q .next s') :
    W (model prog w) A (execs (forB.drop 1) env) Q E s := by
  have le : NEnv env B := by obtain ⟨q, f, c, rfl⟩ := he; exact nEnv q B f c
  have hsl : sizeLine = 2 ^ 24 := rfl
  obtain ⟨F, z, ps, o3, o2, o1, Wt, hs, ws, as, nh, nw, na, rfl, H, hP, hT, v3, v2, v1, vh, vw, va⟩ := hM
  have hlh : h.length + wt.length ≤ n := oL.lh
  have hlq : ak.length ≤ 6 * n := oL.lq
  generalize hL0 : F.cells ++ ((79, tabObj ps) :: (B + 3, o3) :: (B + 2, o2) :: (B + 1, o1) :: (Hh, listO hs nh) :: (Wt, listO ws nw) :: (As, listO as na) :: (z ++ T)) = L0 at st
  have mo3 : ∀ Z : Lg, ∀ x ∈ [(B + 3, o3)], x ∈ Z ++ L0 := fun Z x hx => by rw [List.mem_singleton.mp hx]; exact List.mem_append_right _ (hL0 ▸ List.mem_append_right _ (.tail _ (.head _)))
  have mzT : ∀ x ∈ z ++ T, x ∈ L0 := fun x hx => hL0 ▸ List.mem_append_right _ (.tail _ (.tail _ (.tail _ (.tail _ (.tail _ (.tail _ (.tail _ hx)))))))
  have mT : ∀ x ∈ T, x ∈ L0 := fun x hx => mzT x (List.mem_append_right _ hx)
  have rway : Rd prog w env [(B + 3, o3)] "way" (.ref q) := Rd.cell fn.kind le.kway le.lway (.head _) v3
  have hsz : us.length ≤ sizeLine := by rw [hw.length, hsl]; exact Nat.le_trans hl5 (Nat.le_add_left _ _)
  refine w_cons (w_compAssign (w_callE (w_builtin fn cx st (by k_is) boot_range (by decide) le.krange (by decide) (w_cwType (w_args (w_binop (w_callE (w_builtin fn cx st (by k_is) boot_len (by decide) le.klen (by decide) (w_cwBuiltin (w_args ?_)))))))))
    (by obtain ⟨q, f, c, rfl⟩ := he; rfl) (fun x hx hfr => ?_) (fun x => rfl) rfl (by decide))
  · refine w_rd rway st (mo3 []) (w_args0 (w_lentup st (mT _ mq) hsz fun td s1 st1 => w_int st1 fun te s2 st2 => w_add st2 fun tf s3 st3 => w_args0 ?_))
    rw [show ((us.length : Int) + 1) = ((way.length + 1 : Nat) : Int) from by rw [hw.length]; lia]
    refine w_range st3 fun ar t1 t2 s4 st4 => ?_
    generalize hro : ({ cls := .type "range", data := .fields #[.int 0 t1, .int (way.length + 1 : Nat) tf, .int 1 t2] } : Obj) = ro at st4
    have mar : (ar, { cls := .type "range", data := .fields #[.int 0 t1, .int (way.length + 1 : Nat) tf, .int 1 t2] }) ∈ (ar, ro) :: L0 := hro ▸ .head _
    refine w_compRange cx.hand fn.gl rfl rfl (fun C => rfl) (fun i ys l2 => ∃ z2, l2 = z2 ++ ((ar, ro) :: L0) ∧ Vs (WAt (z2 ++ T)) ys ((List.range i).map way.take)) st4 mar ⟨[], rfl, .nil⟩ (by exact Nat.lt_of_le_of_lt hl5 (Nat.le_of_ble_eq_true rfl)) ?_ ?_
    · rintro cenv i tk ys zf l' s5 E5 ⟨C, hcenv⟩ hi ⟨z2, rfl, hys⟩ rk st5
      have hcw : cenv.cells.lookup ("way" : Str) = some (B + 3) := by
        rw [hcenv]
        show List.lookup _ (cellsFrom _ _ (match env.cells.lookup ("way" : Str) with | some c => [(("way" : Str), c)] | none => [])) = _
        rw [le.lway]; rfl
      have rwy : Rd prog w cenv [(B + 3, o3)] "way" (.ref q) := by subst hcenv; exact Rd.up rfl rfl hcw (.head _) v3
      refine w_tests0 (ite_t rfl ?_)
      refine w_subslice (w_rd rwy st5 (fun x hx => List.mem_append_right _ (List.mem_append_right _ (.tail _ (mo3 [] x hx)))) (wpart_0 (wpart_e (w_rd rk st5 (fun x hx => List.mem_append_left _ hx) ?_))))
      refine w_slice_tup st5 (List.mem_append_right _ (List.mem_append_right _ (.tail _ (mT _ mq)))) .none (.int _ _) hsz fun z10 b s6 st6 hb => ?_
      have hb := hb T mq
      rw [sl_to] at hb
      refine ⟨(z10 ++ z2) ++ ((ar, ro) :: L0), ?_, z10 ++ z2, rfl, ?_⟩
      · have := st6.perm (List.perm_append_comm_assoc z10 zf (z2 ++ ((ar, ro) :: L0)))
        rwa [← List.append_assoc z10 z2] at this
      · rw [List.range_succ, List.map_append]
        refine (hys.imp (WAt.mono1 fun x hx => by rw [List.append_assoc]; exact List.mem_append_right _ hx)).append (.cons ⟨b, _, rfl, ?_, hw.take i⟩ .nil)
        rcases List.mem_append.mp hb with hb | hb
        · exact List.mem_append_left _ (List.mem_append_left _ hb)
        · exact List.mem_append_right _ hb
    · rintro ys k D C oC m l' s5 ⟨z2, rfl, hys⟩ hle hN st5
      refine RRu_done 6 fn st5 hN rfl (Nat.le_of_ble_eq_true rfl) fun s6 st6 => ?_
      have hys : Vs (WAt (z2 ++ T)) ys (pres way) := hys
      have hyl : ys.length = way.length + 1 := by rw [hys.length]; unfold pres; rw [List.length_map, List.length_range]
      obtain ⟨X, hX⟩ : ∃ X : Lg, X = (D, listO ys k) :: (z2 ++ [(ar, ro)]) := ⟨_, rfl⟩
      have mD : (D, listO ys k) ∈ X := hX ▸ .head _
      have mz2 : ∀ x ∈ z2, x ∈ X := fun x hx => hX ▸ .tail _ (List.mem_append_left _ hx)
      have eX : (D, listO ys k) :: (z2 ++ ((ar, ro) :: L0)) = X ++ L0 := by rw [hX]; simp
      have st7 : S env nsN h₀ [k0, k1, some (.ref F.f), some (.ref Hh), k4, k5, some (.ref D)] (X ++ L0) s₀ s6 := eX ▸ st6
      clear eX hX hro mar st6 st5 st4 st3 st2 st1
      obtain ⟨M', hM'⟩ : ∃ M' : Lg, M' = (79, tabObj ps) :: (B + 3, o3) :: (B + 2, o2) :: (B + 1, o1) :: (Hh, listO hs nh) :: (Wt, listO ws nw) :: (As, listO as na) :: (z ++ T) := ⟨_, rfl⟩
      rw [← hM'] at hL0
      have mH : (Hh, listO hs nh) ∈ M' := hM' ▸ .tail _ (.tail _ (.tail _ (.tail _ (.head _))))
      have mA : (As, listO as na) ∈ M' := hM' ▸ .tail _ (.tail _ (.tail _ (.tail _ (.tail _ (.tail _ (.head _))))))
      have mo2 : (B + 2, o2) ∈ M' := hM' ▸ .tail _ (.tail _ (.head _))
      have mz : ∀ x ∈ z ++ T, x ∈ M' := fun x hx => hM' ▸ .tail _ (.tail _ (.tail _ (.tail _ (.tail _ (.tail _ (.tail _ hx))))))
      have st8 : S env nsN h₀ [k0, k1, some (.ref F.f), some (.ref Hh), k4, k5, some (.ref D)] (F.cells ++ (X ++ M')) s₀ s6 := by
        rw [← hL0] at st7
        exact st7.perm (List.perm_append_comm_assoc X F.cells M')
      have mzX : ∀ x ∈ z2 ++ T, x ∈ X ++ M' := fun x hx => (List.mem_append.mp hx).elim (fun h => List.mem_append_left _ (mz2 x h)) fun h => List.mem_append_right _ (mz x (List.mem_append_right _ h))
      have hpo := pres_ok hmenu hl5
      refine w_cons (w_if (w_not (w_plain (w_callE (w_global fn cx st8 (by k_is) le.kdue (by decide) (w_cwK cx (by k_is) (w_args (w_name 2 fn st8 rfl rfl (w_args (w_name 3 fn st8 rfl rfl (w_args (w_name 6 fn st8 rfl rfl (w_args0 ⟨st8.inK cx, w_callF ?_⟩)))))))))))))
      refine due_spec (d := 190) (u := 130) fn (cx.le (by exact Nat.le_of_ble_eq_true rfl) (by exact Nat.le_of_ble_eq_true rfl)) st8 H (List.mem_append_right _ mH) (vh.imp (CAt.imp fun x x hx => List.mem_append_right _ (mz _ hx))) (fun c hc => (oL.h c hc).ok) (by exact qfl fun x => qfa3 x hlh hn (by simp +arith only)) (List.mem_append_left _ mD) (hys.imp (WAt.mono1 mzX))
        (fun x hx => ⟨(hpo x hx).1, (hpo x hx).2, due_ok oL.h (by show h.length ≤ 500; exact qfl fun x => qfa3 x hlh hn (by simp +arith only)) x⟩) fun zz s9 st9 => ?_
      refine w_tbool (w_nil ?_)
      have rasked : Rd prog w env [(B + 2, o2)] "asked" (.ref As) := Rd.cell fn.kind le.kasked le.lasked (.head _) v2
      have mM : ∀ x ∈ M', x ∈ F.cells ++ (zz ++ (X ++ M')) := fun x hx => List.mem_append_right _ (List.mem_append_right _ (List.mem_append_right _ hx))
      refine w_cons (w_exprA le.hint (w_meth (w_rd rasked st9 (fun x hx => by rw [List.mem_singleton.mp hx]; exact mM _ mo2) (w_extend_meth st9 (mM _ mA) (w_cwBuiltin (w_args (w_comp (w_name 6 fn st9 rfl rfl ?_) (fun x hx hfr => ?_) (fun x => rfl) rfl (by decide))))))))
      · obtain ⟨W0, hW0⟩ : ∃ W0 : Lg, W0 = F.cells ++ (zz ++ (X ++ M')) := ⟨_, rfl⟩
        rw [← hW0] at st9 mM
        have mXX : ∀ x ∈ X, x ∈ W0 := fun x hx => hW0 ▸ List.mem_append_right _ (List.mem_append_right _ (List.mem_append_left _ hx))
        have mzW : ∀ x ∈ z2 ++ T, x ∈ W0 := fun x hx => (List.mem_append.mp hx).elim (fun h => mXX _ (mz2 x h)) fun h => mM _ (mz x (List.mem_append_right _ h))
        refine w_compName cx.hand fn.gl rfl rfl (fun C => rfl) (fun i ys2 l2 => l2 = W0 ∧ Vs (WAt (z2 ++ T)) ys2 (((pres way).take i).filter fun x => !decide (x ∈ ak))) st9 (mXX _ mD) ⟨rfl, .nil⟩ (by lia) (fun i ys2 l2 hJ => hJ.1 ▸ mXX _ mD) ?_ ?_
        · rintro cenv i v ys2 zf l' s10 E10 ⟨C, hcenv⟩ hv ⟨rfl, hys2⟩ rp st10
          refine W.gen fun QB hQB => ?_
          have hcw : cenv.cells.lookup ("asked" : Str) = some (B + 2) := by
            rw [hcenv]
            show List.lookup _ (cellsFrom _ _ (match env.cells.lookup ("asked" : Str) with | some c => [(("asked" : Str), c)] | none => [])) = _
            rw [le.lasked]; rfl
          have rwa : Rd prog w cenv [(B + 2, o2)] "asked" (.ref As) := by subst hcenv; exact Rd.up rfl rfl hcw (.head _) v2
          obtain ⟨y, hy, q2, xs2, rfl, mq2, hw2⟩ := hys.at hv
          have hyo := hpo y (List.mem_of_getElem? hy)
          refine w_tests1 (w_testcmp (w_rd rp st10 (fun x hx => List.mem_append_left _ hx) (w_rd rwa st10 (fun x hx => by rw [List.mem_singleton.mp hx]; exact List.mem_append_right _ (mM _ mo2)) ?_)))
          refine w_notin_ways (ways := ak) st10 (List.mem_append_right _ (mM _ mA)) (List.mem_append_right _ (mzW _ mq2)) hw2 (okw_menu hyo.1) (by show A.units + 66 < cLine; have := cx.units; exact qft fun x => qfa2 x this (by simp +arith only)) ?_ va.length (w_tbool (hQB _ _ ?_))
          · intro i3 v3 hv3
            obtain ⟨y3, hy3, q3, zs3, e3, hq3, hwv3⟩ := va.at hv3
            exact ⟨y3, hy3, q3, zs3, e3, List.mem_append_right _ (mM _ (mz _ hq3)), hwv3, okw_menu (oL.q y3 (List.mem_of_getElem? hy3)).1⟩
          · have et : (pres way).take (i + 1) = (pres way).take i ++ [y] := by rw [List.take_add_one, hy]; rfl
            by_cases hm : y ∈ ak
            · rw [decide_eq_true hm, if_neg (by decide)]
              refine ⟨_, st10, rfl, ?_⟩
              rw [et, List.filter_append, List.filter_cons_of_neg (by simp [hm]), List.filter_nil, List.append_nil]
              exact hys2
            · rw [decide_eq_false hm, if_pos (by decide)]
              refine w_rd rp st10 (fun x hx => List.mem_append_left _ hx) ⟨_, st10, rfl, ?_⟩
              rw [et, List.filter_append, List.filter_cons_of_pos (by simp [hm]), List.filter_nil]
              exact hys2.append (.cons ⟨q2, xs2, rfl, mq2, hw2⟩ .nil)
        · rintro ys2 k2 D2 C2 oC2 m2 l' s10 ⟨rfl, hys2⟩ hle2 hN2 st10
          refine RRn_done st10 hN2 fun s11 st11 => w_args0 ?_
          rw [hys.length, List.take_length] at hys2
          rw [hW0, hM'] at st11
          have hal := va.length
          refine w_extend (l' := fun o' => (D2, listO ys2 k2) :: (F.cells ++ (zz ++ (X ++ ((79, tabObj ps) :: (B + 3, o3) :: (B + 2, o2) :: (B + 1, o1) :: (Hh, listO hs nh) :: (Wt, listO ws nw) :: (As, o') :: (z ++ T)))))) st11 (fun o' => .tail (.app (.app (.app (.tail (.tail (.tail (.tail (.tail (.tail .head)))))))))) (.head _) (by lia) fun n' s12 st12 => ?_
          have pz := pmW (α := Addr × Obj) (D2, listO ys2 k2) F.cells zz X [(79, tabObj ps), (B + 3, o3), (B + 2, o2), (B + 1, o1), (Hh, listO hs nh), (Wt, listO ws nw), (As, listO (as ++ ys2) n')] z T
          have st13 := st12.perm pz
          refine w_nil (k' _ D _ ?_ st13)
          have exy : ∀ x, x ∈ z ++ T → x ∈ ((D2, listO ys2 k2) :: (zz ++ (X ++ z))) ++ T := fun x hx => .tail _ (mAss (List.mem_append_right _ (mAss (List.mem_append_right _ hx))))
          have exx : ∀ a' us', (a', tupO us') ∈ z ++ T → (a', tupO us') ∈ ((D2, listO ys2 k2) :: (zz ++ (X ++ z))) ++ T := fun a' us' hx => exy _ hx
          have ez2 : ∀ x, x ∈ z2 ++ T → x ∈ ((D2, listO ys2 k2) :: (zz ++ (X ++ z))) ++ T := fun x hx => (List.mem_append.mp hx).elim (fun h => .tail _ (mAss (List.mem_append_right _ (mAss (List.mem_append_left _ (mz2 x h)))))) fun h => List.mem_append_right _ h
          exact .mk F ((D2, listO ys2 k2) :: (zz ++ (X ++ z))) ps o3 o2 o1 Wt hs ws (as ++ ys2) nh nw n' rfl H (hP.imp (AtL.imp exx)) (hT.mono exy) v3 v2 v1 (vh.imp (CAt.imp exx)) (vw.imp (AtL.imp exx)) ((va.imp (WAt.mono1 exy)).append (hys2.imp (WAt.mono1 ez2)))
      · simp only [List.mem_cons, List.not_mem_nil, or_false] at hx
        rcases hx with rfl | rfl | rfl
        · cases hfr
        · cases hfr
        · rw [le.lasked]; rfl
  · simp only [List.mem_cons, List.not_mem_nil, or_false] at hx
    rcases hx with rfl | rfl | rfl
    · cases hfr
    · cases hfr
    · rw [le.lway]; rfl
end
end Mine.Internal
end
section
set_option tactic.hygienic false
open PySem PySem.W PySem.Calls PyProof.Rows
set_option maxRecDepth 100000
namespace Mine.Internal
theorem dummyLX3 : (PySem.Challenge.rw_aa0050_01 = PySem.Challenge.rw_aa0050_01 ∧ hkF = hkF) := by k_fill; exact ⟨rfl, rfl⟩
theorem MS.enter {prog : Program} {w : World} {B Hh As Ff : Addr} {T l : Lg} {h : List Cl} {wt : List (Way × Int)} {ak : List Way} {xw : Option Value} (i : Addr × Obj) (hM : MS prog w B Hh As Ff T h wt ak xw l) :
    ∃ l', (i :: l).Perm l' ∧ MS prog w B Hh As Ff (i :: T) h wt ak xw l' := by
  obtain ⟨F, z, ps, o3, o2, o1, Wt, hs, ws, as, nh, nw, na, hf, H, hP, hT, v3, v2, v1, vh, vw, va⟩ := hM
  have exy : ∀ x, x ∈ z ++ T → x ∈ z ++ (i :: T) := fun x hx => (List.mem_append.mp hx).elim (List.mem_append_left _) fun h => List.mem_append_right _ (.tail _ h)
  refine ⟨_, ?_, .mk F z ps o3 o2 o1 Wt hs ws as nh nw na hf H (hP.imp (AtL.imp fun x x => exy _)) (hT.mono exy) v3 v2 v1 (vh.imp (CAt.imp fun x x => exy _)) (vw.imp (AtL.imp fun x x => exy _)) (va.imp (WAt.mono1 exy))⟩
  have h1 : (i :: (z ++ T)).Perm (z ++ (i :: T)) := List.perm_middle.symm
  have p1 := pmX (α := Addr × Obj) [i] F.cells [(79, tabObj ps), (B + 3, o3), (B + 2, o2), (B + 1, o1), (Hh, listO hs nh), (Wt, listO ws nw), (As, listO as na)] (z ++ T)
  exact p1.trans ((h1.append_left _).append_left _)
theorem MS.leave {prog : Program} {w : World} {B Hh As Ff I t : Addr} {oI : Obj} {T l : Lg} {h : List Cl} {wt : List (Way × Int)} {ak : List Way} {xw : Option Value} (hc : oI.cls = .type "list_iterator") (hd : ∃ k : Int, oI.data = .fields #[.ref t, .int k 0]) (hM : MS prog w B Hh As Ff ((I, oI) :: T) h wt ak xw l) :
    ∃ l', l.Perm ((I, oI) :: l') ∧ MS prog w B Hh As Ff T h wt ak xw l' := by
  obtain ⟨F, z, ps, o3, o2, o1, Wt, hs, ws, as, nh, nw, na, hf, H, hP, hT, v3, v2, v1, vh, vw, va⟩ := hM
  have exx : ∀ a us, (a, tupO us) ∈ z ++ ((I, oI) :: T) → (a, tupO us) ∈ z ++ T := fun a us hx => by
    rcases List.mem_append.mp hx with hx | hx
    · exact List.mem_append_left _ hx
    · rcases List.mem_cons.mp hx with hx | hx
      · injection hx with _ e
        rw [← e] at hc
        exact absurd (Value.type.inj hc) (by decide)
      · exact List.mem_append_right _ hx
  have exc : ∀ c, CodeAt lamQ (z ++ ((I, oI) :: T)) c → CodeAt lamQ (z ++ T) c := by
    rintro c ⟨oc, vs, tk, h1, h2, h3⟩
    refine ⟨oc, vs, tk, ?_, h2, h3⟩
    rcases List.mem_append.mp h1 with hx | hx
    · exact List.mem_append_left _ hx
    · rcases List.mem_cons.mp hx with hx | hx
      · injection hx with _ e
        obtain ⟨k, hk⟩ := hd
        rw [← e, h2] at hk
        injection hk with hk
        rw [hk] at h3
        cases h3
      · exact List.mem_append_right _ hx
  refine ⟨_, ?_, .mk F z ps o3 o2 o1 Wt hs ws as nh nw na hf H (hP.imp (AtL.imp exx)) ?_ v3 v2 v1 (vh.imp (CAt.imp exx)) (vw.imp (AtL.imp exx)) (va.imp fun v x ⟨q, xs, e, h1, h2⟩ => ⟨q, xs, e, exx _ _ h1, h2⟩)⟩
  · have h1 : ((I, oI) :: (z ++ T)).Perm (z ++ ((I, oI) :: T)) := List.perm_middle.symm
    have p1 := pmX (α := Addr × Obj) [(I, oI)] F.cells [(79, tabObj ps), (B + 3, o3), (B + 2, o2), (B + 1, o1), (Hh, listO hs nh), (Wt, listO ws nw), (As, listO as na)] (z ++ T)
    exact (p1.trans ((h1.append_left _).append_left _)).symm
  · cases hT with
    | empty => exact .empty
    | full c1 c2 c3 a b c => exact .full c1 c2 c3 (exc _ a) (exc _ b) (exc _ c)
inductive MJ (prog : Program) (w : World) (B Hh As Ff D : Addr) (T : Lg) (k0 : Option Value) (row : List Cl) (h₀ : Heap) (i : Nat) : Heap → List (Option Value) → Lg → Prop
  | mk (k4 k5 k6 xw : Option Value) (l : Lg) : MS prog w B Hh As Ff T (runL (row.take i)).1 (runL (row.take i)).2.1 (runL (row.take i)).2.2 xw l → MJ prog w B Hh As Ff D T k0 row h₀ i h₀ [k0, some (.ref D), some (.ref Ff), some (.ref Hh), k4, k5, k6] l
section
variable {prog : Program} {w : World} {A : Around} {E : Value → Shared → Prop} {env : Env} {h₀ : Heap} {s₀ s : Shared}
  {p : Program} {loose : List Str} {mean : ExcName → Option Value} {mg mb : Str → Option Value} {B Hh As Ff D : Addr} {T l : Lg} {k0 k4 k5 k6 xw : Option Value} {ys : List Value} {kD : Nat} {row : List Cl} {Q : Flow → Shared → Prop}
theorem MS.mem {h : List Cl} {wt : List (Way × Int)} {ak : List Way} (hM : MS prog w B Hh As Ff T h wt ak xw l) : ∀ x ∈ T, x ∈ l := by
  obtain ⟨F, z, ps, o3, o2, o1, Wt, hs, ws, as, nh, nw, na, hf, H, hP, hT, v3, v2, v1, vh, vw, va⟩ := hM
  exact fun x hx => List.mem_append_right _ (.tail _ (.tail _ (.tail _ (.tail _ (.tail _ (.tail _ (.tail _ (List.mem_append_right _ hx))))))))
theorem loopM (fn : Fn env nsN) (he : ∃ q f c, env = envOfC q lawSc B f c) (hA : A.frames = some [env]) (cx : Cx (hkF w.params) p loose mean mg mb 200 300 A env h₀)
    (hD : (D, listO ys kD) ∈ T) (hrow : Vs (CAt T) ys row) (hrowok : ∀ c ∈ row, OkC c) (hrlen : row.length ≤ 65) (hM : MS prog w B Hh As Ff T [] [] [] xw l)
    (st : S env nsN h₀ [k0, some (.ref D), some (.ref Ff), some (.ref Hh), k4, k5, k6] l s₀ s)
    (k' : ∀ l' k4 k5 k6 xw s', MS prog w B Hh As Ff T (runL row).1 (runL row).2.1 (runL row).2.2 xw l' → S env nsN h₀ [k0, some (.ref D), some (.ref Ff), some (.ref Hh), k4, k5, k6] l' s₀ s' → W (model prog w) A (execs (lawB.drop 4) env) Q E s') :
    W (model prog w) A (execs (lawB.drop 3) env) Q E s := by
  have le : NEnv env B := by obtain ⟨q, f, c, rfl⟩ := he; exact nEnv q B f c
  refine w_cons (w_for (w_name 1 fn st rfl rfl ?_))
  refine w_forG cx.hand st (hM.mem _ hD) (MJ prog w B Hh As Ff D T k0 row h₀) (.mk k4 k5 k6 xw l hM) (fun i g vs' l' hJ => by obtain ⟨_, _, _, _, _, hM'⟩ := hJ; exact hM'.mem _ hD) ?_ ?_
  · intro i v g vs' l' I oI s1 E1 hvi hI hJ st1
    obtain ⟨k4, k5, k6, xw, _, hM1⟩ := hJ
    obtain ⟨c, hci, ac, qc, usc, tk1, tk2, rfl, mc1, mc2, hwc⟩ := hrow.at hvi
    have hok := hrowok c (List.mem_of_getElem? hci)
    obtain ⟨l2, p2, hM2⟩ := hM1.enter (I, oI)
    have st2 := st1.perm p2
    have hil : i < row.length := (List.getElem?_eq_some_iff.mp hci).1
    have hstep : runL (row.take (i + 1)) = stepL (runL (row.take i)) c := by
      unfold runL
      rw [List.take_add_one, hci, Option.toList_some, List.foldl_append]
      rfl
    have oL : OkL (runL (row.take i)) i := by
      have := okL_run (cs := row.take i) fun c hc => hrowok c (List.mem_of_mem_take hc)
      rwa [List.length_take, Nat.min_eq_left (by exact Nat.le_of_lt hil)] at this
    generalize runL (row.take i) = σ at oL hM2 hstep hM1
    obtain ⟨h, wt, ak⟩ := σ
    clear hM1 st1
    refine (w_unpack cx.hand st2 (hM2.mem _ (.tail _ mc1)) rfl rfl fun s3 st3 => ?_).out
    refine w_inorder (w_aname (w_store 4 fn st3 rfl (Nat.le_of_ble_eq_true rfl) fun s4 st4 => ?_))
    obtain ⟨F, z, ps, o3, o2, o1, Wt, hs, ws, as, nh, nw, na, rfl, H, hP, hT, v3, v2, v1, vh, vw, va⟩ := hM2
    refine w_inorder (w_aname (w_setcell (l' := fun o' => F.cells ++ ((79, tabObj ps) :: (B + 3, o') :: (B + 2, o2) :: (B + 1, o1) :: (Hh, listO hs nh) :: (Wt, listO ws nw) :: (As, listO as na) :: (z ++ ((I, oI) :: T)))) fn.gl st4 le.kway le.lway (fun o' => .app (.tail .head)) v3 fun o3' s5 v3' st5 => ?_))
    refine w_inorder (w_aname (w_store 5 fn st5 rfl (Nat.le_of_ble_eq_true rfl) fun s6 st6 => ?_))
    refine w_inorder0 ?_
    have hM6 : MS prog w B Hh As F.f ((I, oI) :: T) h wt ak (some (.ref qc)) _ := .mk F z ps o3' o2 o1 Wt hs ws as nh nw na rfl H hP hT v3' v2 v1 vh vw va
    have mq : (qc, tupO usc) ∈ (I, oI) :: T := .tail _ mc2
    refine W.out (kinds fn he hA cx hok oL (by exact qfl fun x => qfa3 x hil hrlen (by simp +arith only)) mq hwc hM6 st6 fun l7 s7 hM7 st7 => ?_)
    have oL2 := oL.step hok
    refine ends (n := i + 1) fn he cx hok.menu hok.len (ak := ak) ⟨oL2.h, oL2.w, oL.q, oL2.lh, by have := oL.lq; show ak.length ≤ 6 * (i + 1); have : ak.length ≤ 6 * i := oL.lq; exact Nat.le_trans this (Nat.le_add_right _ _)⟩ (by exact Nat.le_trans hil (Nat.le_succ_of_le hrlen)) mq hwc hM7 st7 fun l8 D8 s8 hM8 st8 => ?_
    obtain ⟨l9, p9, hM9⟩ := hM8.leave hI.1 hI.2
    refine ⟨rfl, h₀, _, l9, st8.perm p9, .mk _ _ _ (some (.ref qc)) l9 ?_⟩
    rw [hstep]
    exact hM9
  · rintro g vs' l' s1 ⟨k4, k5, k6, xw, _, hM1⟩ st1
    rw [hrow.length, List.take_length] at hM1
    exact k' _ _ _ _ _ _ hM1 st1
end
end Mine.Internal
end
section
set_option tactic.hygienic false
open PySem PySem.W PySem.Calls PyProof.Rows
set_option maxRecDepth 100000
namespace Mine.Internal
theorem dummyLX4 : (PySem.Challenge.rw_aa0050_01 = PySem.Challenge.rw_aa0050_01 ∧ hkF = hkF) := by k_fill; exact ⟨rfl, rfl⟩
theorem Vs.vals {At : Value → Way × Int → Prop} {us : List Value} {ps : List (Way × Int)} (r : Vs At us ps) : Vals At us ps := by
  induction r with
  | nil => exact .nil
  | cons a _ ih => exact .cons a ih
section
variable {prog : Program} {w : World} {A : Around} {E : Value → Shared → Prop} {env : Env} {ns : List Str} {vs : List (Option Value)} {h₀ : Heap} {s₀ s : Shared} {l : Lg}
open Classical in
theorem w_notin_pairs {t : Addr} {us : List Value} {n : Nat} {v : Value} {p : Way × Int} {ps : List (Way × Int)} {z : Lg} {Q : Value → Shared → Prop} (st : S env ns h₀ vs l s₀ s) (ht : (t, listO us n) ∈ l) (hz : ∀ c ∈ z, c ∈ l) (hv : AtL z v p) (hu : A.units + 66 < cLine) (hw : Vs (AtL z) us ps)
    (h : Q (.bool (!decide (p ∈ ps))) s) : W (model prog w) A (compareOp .NotIn v (.ref t)) Q E s := by
  have pv := st.at_pairs hz v p hv
  have okp : Okw p.1 := by obtain ⟨_, _, _, _, _, _, _, _, o, _⟩ := hv; exact o
  have key : ∀ x, x ∈ us.toArray → ∃ p', p' ∈ ps ∧ PairAt s.heap x p' := fun x hx => by
    obtain ⟨i, hi⟩ := List.mem_iff_getElem?.mp (by simpa using hx : x ∈ us)
    obtain ⟨p', hp', r⟩ := hw.at hi
    exact ⟨p', List.mem_of_getElem? hp', st.at_pairs hz _ _ r⟩
  have he : ∀ {x p'}, PairAt s.heap x p' → decide (PairAt s.heap x p) = decide (p' = p) := fun {x p'} r => by
    rw [Bool.eq_iff_iff, decide_eq_true_eq, decide_eq_true_eq]
    exact ⟨fun q => r.inj q, fun q => q ▸ r⟩
  refine .mk (SeqAt.notIn_listAt (fun x => decide (PairAt s.heap x p)) (st.list ht) (fun x hx => ?_) ?_)
  · obtain ⟨p', hp', r⟩ := key x hx
    have okx : Okw p'.1 := by obtain ⟨_, _, _, _, _, _, _, _, o, _⟩ := r; exact o
    rw [he r]
    have := SeqAt.eqAt_reads (pairD p') (pairD p) A.in1 s x v [] [] r.reads pv.reads (SeqAt.canLay_of_shaped (shaped_pair okx)) (SeqAt.canLay_of_shaped (shaped_pair okp)) (SeqAt.room_of_shaped (shaped_pair okx) (by show A.units + 1 + 64 < cLine; exact Nat.le_of_lt hu))
    rw [eqv_pair] at this
    exact this
  · have e2 : us.toArray.any (fun x => decide (PairAt s.heap x p)) = decide (p ∈ ps) := by
      rw [Bool.eq_iff_iff, Array.any_eq_true', decide_eq_true_eq]
      constructor
      · rintro ⟨x, hx, hex⟩
        obtain ⟨p', hp', r⟩ := key x hx
        rw [he r, decide_eq_true_eq] at hex
        exact hex ▸ hp'
      · intro hp
        obtain ⟨i, hi⟩ := List.mem_iff_getElem?.mp hp
        have hlt : i < us.length := by rw [hw.length]; exact (List.getElem?_eq_some_iff.mp hi).1
        obtain ⟨p', hp', r⟩ := hw.at (List.getElem?_eq_getElem hlt)
        rw [hi] at hp'
        cases hp'
        exact ⟨us[i], by simp, by rw [he (st.at_pairs hz _ _ r)]; simp⟩
    rw [e2]
    exact h
end
end Mine.Internal
end
section
set_option tactic.hygienic false
open PySem PySem.W PySem.Calls PyProof.Rows
set_option maxRecDepth 100000
namespace Mine.Internal
theorem dummyLX5 : (PySem.Challenge.rw_aa0050_01 = PySem.Challenge.rw_aa0050_01 ∧ hkF = hkF) := by k_fill; exact ⟨rfl, rfl⟩
theorem w_attrAny {prog : Program} {w : World} {A : Around} {E : Value → Shared → Prop} {s : Shared} {env : Env} {value : Expr} {attr : Str} {pos : Pos} {Q : Value → Shared → Prop} (h : W (model prog w) A (eval value env) (fun o s₁ => W (model prog w) A (getAttr o attr true) Q E s₁) E s)
    (he : autoParam (eval (.Attribute value attr pos) env = (do
      let o ← eval value env
      standAt pos.atName
      let r ← holding [o] (getAttr o attr true)
      letTemporaryGo value o r
      pure r)) tWur) : W (model prog w) A (eval (.Attribute value attr pos) env) Q E s := by
  simp only [W.eq] at h ⊢
  exact PyProof.Rows.Attribute_any_ h he
section
variable {prog : Program} {w : World} {A : Around} {E : Value → Shared → Prop} {env : Env} {h₀ : Heap} {s₀ s : Shared}
  {p : Program} {loose : List Str} {mean : ExcName → Option Value} {mg mb : Str → Option Value} {B Hh As Ff : Addr} {T l : Lg} {h : List Cl} {wt : List (Way × Int)} {ak : List Way} {k0 k1 k4 k5 k6 xw : Option Value} {n : Nat} {Q : Flow → Shared → Prop}
theorem vals_nil {At : Value → Way × Int → Prop} {us : List Value} {qs : List (Way × Int)} (v : Vals At us qs) (p : qs.Perm []) : us = [] ∧ qs = [] := by
  have e := p.eq_nil
  subst e
  cases v
  exact ⟨rfl, rfl⟩
set_option maxHeartbeats 4000000 in
theorem finale (fn : Fn env nsN) (he : ∃ q f c, env = envOfC q lawSc B f c) (cx : Cx (hkF w.params) p loose mean mg mb 200 300 A env h₀)
    (oL : OkL (h, wt, ak) n) (hn : n ≤ 66) (hw4 : wt.length ≤ 64) (hM : MS prog w B Hh As Ff T h wt ak xw l)
    (st : S env nsN h₀ [k0, k1, some (.ref Ff), some (.ref Hh), k4, k5, k6] l s₀ s)
    (k' : ∀ l' vs' s', S env nsN h₀ vs' l' s₀ s' → (∃ ps, s'.heap.get? 79 = some (tabObj ps)) → Q (.ret (.bool true)) s') :
    W (model prog w) A (execs (lawB.drop 4) env) Q E s := by
  have le : NEnv env B := by obtain ⟨q, f, c, rfl⟩ := he; exact nEnv q B f c
  have hsl : sizeLine = 2 ^ 24 := rfl
  obtain ⟨F, z, ps, o3, o2, o1, Wt, hs, ws, as, nh, nw, na, rfl, H, hP, hT, v3, v2, v1, vh, vw, va⟩ := hM
  have hlh : h.length + wt.length ≤ n := oL.lh
  have hlq : ak.length ≤ 6 * n := oL.lq
  have hwl := vw.length
  have hu80 : A.units + 80 < cLine := by have := cx.units; exact qft fun x => qfa2 x this (by simp +arith only)
  have hUP : ∀ q ∈ dd wt, UP q := fun q hq => by
    have o := oL.w q (mem_dd.mp hq)
    refine ⟨fun k hk => ?_, o.len, o.flag⟩
    have := o.menu k hk
    simpa only [LM, List.mem_cons, List.not_mem_nil, or_false] using this
  have hdn := dd_nodup wt
  have hdl : (dd wt).length ≤ 64 := by have := dd_len wt; exact Nat.le_trans this hw4
  obtain ⟨M', hM'⟩ : ∃ M' : Lg, M' = (79, tabObj ps) :: (B + 3, o3) :: (B + 2, o2) :: (B + 1, o1) :: (Hh, listO hs nh) :: (Wt, listO ws nw) :: (As, listO as na) :: (z ++ T) := ⟨_, rfl⟩
  rw [← hM'] at st
  obtain ⟨L0, hL0⟩ : ∃ L0 : Lg, L0 = F.cells ++ M' := ⟨_, rfl⟩
  have mM : ∀ x ∈ M', x ∈ L0 := fun x hx => hL0 ▸ List.mem_append_right _ hx
  have mF : ∀ x ∈ F.cells, x ∈ L0 := fun x hx => hL0 ▸ List.mem_append_left _ hx
  have mo1 : (B + 1, o1) ∈ L0 := mM _ (hM' ▸ .tail _ (.tail _ (.tail _ (.head _))))
  have mo2 : (B + 2, o2) ∈ M' := hM' ▸ .tail _ (.tail _ (.head _))
  have m79 : (79, tabObj ps) ∈ M' := hM' ▸ .head _
  have mH : (Hh, listO hs nh) ∈ M' := hM' ▸ .tail _ (.tail _ (.tail _ (.tail _ (.head _))))
  have mW : (Wt, listO ws nw) ∈ L0 := mM _ (hM' ▸ .tail _ (.tail _ (.tail _ (.tail _ (.tail _ (.head _))))))
  have mA : (As, listO as na) ∈ M' := hM' ▸ .tail _ (.tail _ (.tail _ (.tail _ (.tail _ (.tail _ (.head _))))))
  have mz : ∀ x ∈ z ++ T, x ∈ M' := fun x hx => hM' ▸ .tail _ (.tail _ (.tail _ (.tail _ (.tail _ (.tail _ (.tail _ hx))))))
  clear hM'
  rw [← hL0] at st
  have rwaits : Rd prog w env [(B + 1, o1)] "waits" (.ref Wt) := Rd.cell fn.kind le.kwaits le.lwaits (.head _) v1
  have rasked : Rd prog w env [(B + 2, o2)] "asked" (.ref As) := Rd.cell fn.kind le.kasked le.lasked (.head _) v2
  refine w_cons (w_if (w_testcmp (w_callE (w_builtin fn cx st (by k_is) boot_sorted (by decide) le.ksorted (by decide) (w_cwBuiltin (w_args (w_attr (w_name 2 fn st rfl rfl (w_pflags cx st H mF fun s1 st1 => w_args0 ?_)))))))))
  refine .mk (g_sorted_set cx.hand st1 hu80 (mF _ (.tail _ (.tail _ (.tail _ (.head _))))) (hP.imp (AtL.imp fun x x hx => mM _ (mz _ hx))) hUP hdn hdl fun out qs D1 c1 s2 hv1 hp1 ho1 st2 => ?_)
  refine w_callE (w_builtin fn cx st2 (by k_is) boot_sorted (by decide) le.ksorted (by decide) (w_cwBuiltin (w_args (w_comp (w_callE (w_builtin fn cx st2 (by k_is) boot_range (by decide) le.krange (by decide) (w_cwType (w_args (w_callE (w_builtin fn cx st2 (by k_is) boot_len (by decide) le.klen (by decide) (w_cwBuiltin (w_args (w_rd rwaits st2 (fun x hx => by rw [List.mem_singleton.mp hx]; exact .tail _ mo1) (w_args0 (w_lenlist st2 (.tail _ mW) (by lia) fun td s3 st3 => w_args0 ?_)))))))))))
    (fun x hx hfr => ?_) (fun x => rfl) rfl (by decide)))))
  · rw [hwl]
    refine w_range st3 fun ar t1 t2 s4 st4 => ?_
    obtain ⟨L2, hL2⟩ : ∃ L2 : Lg, L2 = (ar, { cls := .type "range", data := .fields #[.int 0 t1, .int wt.length td, .int 1 t2] }) :: (D1, listO out c1) :: L0 := ⟨_, rfl⟩
    have st4 : S env nsN h₀ [k0, k1, some (.ref F.f), some (.ref Hh), k4, k5, k6] L2 s₀ s4 := hL2 ▸ st4
    have m2 : ∀ x ∈ L0, x ∈ L2 := fun x hx => hL2 ▸ .tail _ (.tail _ hx)
    have mar : (ar, { cls := .type "range", data := .fields #[.int 0 t1, .int wt.length td, .int 1 t2] }) ∈ L2 := hL2 ▸ .head _
    refine w_compRange cx.hand fn.gl rfl rfl (fun C => rfl) (fun i ys l2 => ∃ z2, l2 = z2 ++ L2 ∧ Vs (AtL (z ++ T)) ys (dd (wt.take i))) st4 mar ⟨[], rfl, .nil⟩ (by exact Nat.le_trans hw4 (Nat.le_add_left _ _)) ?_ ?_
    · rintro cenv i tk ys zf l' s5 E5 ⟨C, hcenv⟩ hi ⟨z2, rfl, hys⟩ rk st5
      refine W.gen fun QB hQB => ?_
      have hcw : cenv.cells.lookup ("waits" : Str) = some (B + 1) := by
        rw [hcenv]
        show List.lookup _ (cellsFrom _ _ (match env.cells.lookup ("waits" : Str) with | some c => [(("waits" : Str), c)] | none => [])) = _
        rw [le.lwaits]; rfl
      have rwa : Rd prog w cenv [(B + 1, o1)] "waits" (.ref Wt) := by subst hcenv; exact Rd.up rfl rfl hcw (.head _) v1
      have mL : ∀ x ∈ L0, x ∈ zf ++ (z2 ++ L2) := fun x hx => List.mem_append_right _ (List.mem_append_right _ (m2 x hx))
      have ma : ∀ x ∈ [(B + 1, o1)], x ∈ zf ++ (z2 ++ L2) := fun x hx => by rw [List.mem_singleton.mp hx]; exact mL _ mo1
      obtain ⟨v, hv⟩ : ∃ v, ws[i]? = some v := ⟨_, List.getElem?_eq_getElem (by exact Nat.le_trans hi (qfg hwl))⟩
      obtain ⟨p0, hp0, hat⟩ := vw.at hv
      refine w_tests1 (w_testcmp (w_subE (w_rd rwa st5 ma (w_rd rk st5 (fun x hx => List.mem_append_left _ hx) (w_item_list st5 (mL _ mW) (by lia) (by lia) (by simpa using hv) ?_)))))
      refine w_subslice (w_rd rwa st5 ma (wpart_0 (wpart_e (w_rd rk st5 (fun x hx => List.mem_append_left _ hx) ?_))))
      refine w_slice_list st5 (mL _ mW) (.int _ _) (by exact Nat.le_of_lt (Nat.lt_of_lt_of_le hi (qfg hwl))) (by lia) fun b s6 st6 => ?_
      have vt : Vs (AtL (z ++ T)) (ws.take i) (wt.take i) := vw.take i
      refine w_notin_pairs st6 (.head _) (fun c hc => .tail _ (mL _ (mM _ (mz _ hc)))) hat (by exact qft fun x => qfa2 x hu80 (by simp +arith only)) vt (w_tbool (hQB _ _ ?_))
      have st7 := st6.perm (List.perm_middle (a := (b, listO (ws.take i) 0)) (l₁ := zf) (l₂ := z2 ++ L2)).symm
      have et : dd (wt.take (i + 1)) = addP (dd (wt.take i)) p0 := by rw [List.take_add_one, hp0, show (some p0).toList = [p0] from rfl, dd_snoc]
      by_cases hm : p0 ∈ wt.take i
      · rw [decide_eq_true hm, if_neg (by decide)]
        refine ⟨(b, listO (ws.take i) 0) :: (z2 ++ L2), st7, (b, listO (ws.take i) 0) :: z2, rfl, ?_⟩
        rw [et]; unfold addP; rw [if_pos (mem_dd.mpr hm)]
        exact hys
      · rw [decide_eq_false hm, if_pos (by decide)]
        have mL7 : ∀ x ∈ L0, x ∈ zf ++ ((b, listO (ws.take i) 0) :: (z2 ++ L2)) := fun x hx => List.mem_append_right _ (.tail _ (List.mem_append_right _ (m2 x hx)))
        refine w_subE (w_rd rwa st7 (fun x hx => by rw [List.mem_singleton.mp hx]; exact mL7 _ mo1) (w_rd rk st7 (fun x hx => List.mem_append_left _ hx) (w_item_list st7 (mL7 _ mW) (by lia) (by lia) (by simpa using hv) ?_)))
        refine ⟨(b, listO (ws.take i) 0) :: (z2 ++ L2), st7, (b, listO (ws.take i) 0) :: z2, rfl, ?_⟩
        rw [et]; unfold addP; rw [if_neg (fun q => hm (mem_dd.mp q))]
        exact hys.append (.cons hat .nil)
    · rintro ys k D C oC m l' s5 ⟨z2, rfl, hys⟩ hle hN st5
      refine RRn_done st5 hN fun s6 st6 => w_args0 ?_
      rw [List.take_length] at hys
      have mL : ∀ x ∈ L0, x ∈ (D, listO ys k) :: (z2 ++ L2) := fun x hx => .tail _ (List.mem_append_right _ (m2 x hx))
      refine .mk (g_sorted_list st6 hu80 (.head _) (hys.vals.imp (AtL.imp fun x x hx => mL _ (mM _ (mz _ hx)))) hUP hdn hdl fun out2 qs2 D3 c3 s7 hv2 hp2 ho2 st7 => ?_)
      have eqs : qs2 = qs := sorted_eq (hp2.trans hp1.symm) ho2 ho1
      subst eqs
      have mD1 : (D1, listO out c1) ∈ (D3, listO out2 c3) :: (D, listO ys k) :: (z2 ++ L2) := .tail _ (.tail _ (List.mem_append_right _ (hL2 ▸ .tail _ (.head _))))
      refine .mk (g_nepairs st7 mD1 (.head _) (by exact qft fun x => qfa2 x hu80 (by simp +arith only)) (hv1.imp fun v p r => st7.at_pairs (fun c hc => .tail _ (mL _ hc)) v p r) (hv2.imp fun v p r => st7.at_pairs (fun c hc => .tail _ hc) v p r) (w_tbool (w_nil ?_)))
      obtain ⟨X, hX⟩ : ∃ X : Lg, X = (D3, listO out2 c3) :: (D, listO ys k) :: (z2 ++ [(ar, { cls := .type "range", data := .fields #[.int 0 t1, .int wt.length td, .int 1 t2] }), (D1, listO out c1)]) := ⟨_, rfl⟩
      have eX : (D3, listO out2 c3) :: (D, listO ys k) :: (z2 ++ L2) = X ++ L0 := by rw [hX, hL2]; simp
      rw [eX] at st7
      clear eX hX mD1 mL st6 st5 st4 st3 st2 st1 mar hL2 m2
      refine w_cons (w_if (w_testcmp (w_callE (w_builtin fn cx st7 (by k_is) boot_sorted (by decide) le.ksorted (by decide) (w_cwBuiltin (w_args (w_attrAny (w_callE (w_global fn cx st7 (by k_is) le.kflags (by decide) (w_cwK0 cx st7 (by k_is) (flags_new (M := LM) (At := AtL []) (d := 190) (u := 250) fn (cx.le (by exact Nat.le_of_ble_eq_true rfl) (by exact Nat.le_of_ble_eq_true rfl)) st7 fun F2 s8 H2 hP2 st8 => ?_)))))))))))
      refine w_pflags cx st8 H2 (fun c hc => List.mem_append_left _ hc) fun s9 st9 => w_args0 ?_
      refine .mk (g_sorted_set cx.hand st9 hu80 (List.mem_append_left _ (.tail _ (.tail _ (.tail _ (.head _))))) (hP2.imp (AtL.imp (l := []) fun x x hx => absurd hx List.not_mem_nil)) (fun q hq => absurd hq List.not_mem_nil) List.nodup_nil (Nat.zero_le _) fun out3 qs3 D4 c4 s10 hv3 hp3 y st10 => ?_)
      obtain ⟨e1, e2⟩ := vals_nil hv3 hp3
      subst e1 e2
      refine w_listE (w_args0 (w_list st10 fun D5 s11 st11 => ?_))
      refine .mk (g_nepairs (ps := []) st11 (.tail _ (.head _)) (.head _) (by exact qft fun x => qfa2 x hu80 (by simp +arith only)) .nil .nil (w_tbool (w_nil ?_)))
      obtain ⟨Y, hY⟩ : ∃ Y : Lg, Y = (D5, listO [] 0) :: (D4, listO [] c4) :: (F2.cells ++ X) := ⟨_, rfl⟩
      have eY : (D5, listO [] 0) :: (D4, listO [] c4) :: (F2.cells ++ (X ++ L0)) = Y ++ (F.cells ++ M') := by rw [hY, hL0]; simp
      have st12 : S env nsN h₀ [k0, k1, some (.ref F.f), some (.ref Hh), k4, k5, k6] (Y ++ (F.cells ++ M')) s₀ s11 := eY ▸ st11
      have st13 := st12.perm (List.perm_append_comm_assoc Y F.cells M')
      have mYM : ∀ x ∈ M', x ∈ Y ++ M' := fun x hx => List.mem_append_right _ hx
      refine w_cons (w_ret (w_callE (w_global fn cx st13 (by k_is) le.kdue (by decide) (w_cwK cx (by k_is) (w_args (w_name 2 fn st13 rfl rfl (w_args (w_name 3 fn st13 rfl rfl (w_args (w_rd rasked st13 (fun x hx => by rw [List.mem_singleton.mp hx]; exact List.mem_append_right _ (mYM _ mo2)) (w_args0 ⟨st13.inK cx, w_callF ?_⟩)))))))))))
      exact due_spec (d := 190) (u := 130) fn (cx.le (by exact Nat.le_of_ble_eq_true rfl) (by exact Nat.le_of_ble_eq_true rfl)) st13 H (mYM _ mH) (vh.imp (CAt.imp fun x x hx => mYM _ (mz _ hx))) (fun c hc => (oL.h c hc).ok) (by exact qfl fun x => qfa3 x hlh hn (by simp +arith only)) (mYM _ mA) (va.imp (WAt.mono1 fun x hx => mYM _ (mz _ hx)))
        (fun x hx => ⟨(oL.q x hx).1, (oL.q x hx).2, due_ok oL.h (by show h.length ≤ 500; exact qfl fun x => qfa3 x hlh hn (by simp +arith only)) x⟩) fun zz s14 st14 => k' _ _ _ st14 ⟨ps, st14.at (List.mem_append_right _ (List.mem_append_right _ (mYM _ m79)))⟩
  · simp only [List.mem_cons, List.not_mem_nil, or_false] at hx
    rcases hx with rfl | rfl | rfl
    · cases hfr
    · cases hfr
    · rw [le.lwaits]; rfl
end
end Mine.Internal
end
section
set_option tactic.hygienic false
open PySem PySem.W PySem.Calls PyProof.Rows
set_option maxRecDepth 100000
namespace Mine.Internal
theorem nmOf_menu (r : Int) : nmOf r ∈ LM := by
  unfold nmOf
  split <;> simp [LM]
theorem wayN_menu (r : Int) : ∀ n, ∀ z ∈ wayN r n, z ∈ LM
  | 0, z, h => by cases h
  | n + 1, z, h => by
    unfold wayN at h
    rcases List.mem_append.mp h with h | h
    · exact wayN_menu r n z h
    · rw [List.mem_singleton] at h; subst h; exact nmOf_menu _
theorem wayN_len1 (r : Int) : ∀ n, (wayN r n).length = n
  | 0 => rfl
  | n + 1 => by unfold wayN; rw [List.length_append, wayN_len1 r n]; rfl
theorem callOf_ok (x : Int) : OkC (callOf x) := by
  have h3 := And.intro (Int.fmod_nonneg_of_pos (x.fdiv 12) (show (0 : Int) < 5 by decide)) (Int.fmod_lt_of_pos (x.fdiv 12) (show (0 : Int) < 5 by decide))
  have h2 := And.intro (Int.fmod_nonneg_of_pos (x.fdiv 6) (show (0 : Int) < 2 by decide)) (Int.fmod_lt_of_pos (x.fdiv 6) (show (0 : Int) < 2 by decide))
  have h5 := And.intro (Int.fmod_nonneg_of_pos x (show (0 : Int) < 6 by decide)) (Int.fmod_lt_of_pos x (show (0 : Int) < 6 by decide))
  refine ⟨?_, ?_, ?_, ?_, ?_⟩
  · show (x.fdiv 6).fmod 2 = 0 ∨ (x.fdiv 6).fmod 2 = 1
    exact oBit h2.1 h2.2
  · intro e
    have := congrArg List.length e
    unfold callOf at this
    rw [wayN_len1] at this
    simp at this
    lia
  · exact wayN_menu _ _
  · show (wayN _ _).length ≤ 5
    rw [wayN_len1]
    lia
  · exact h5
theorem hlen_step (σ : LS) (c : Cl) : σ.1.length ≤ (stepL σ c).1.length := by
  show σ.1.length ≤ (stepH σ.1 σ.2.1 c).length
  unfold stepH
  split
  · rw [List.length_append]; exact Nat.le_add_right _ _
  · split
    · exact Nat.le_refl _
    · split
      · rw [List.length_append]; exact Nat.le_add_right _ _
      · split
        · rw [List.length_append]; exact Nat.le_add_right _ _
        · exact Nat.le_refl _
theorem hlen_run : ∀ (cs : List Cl) (σ : LS), σ.1.length ≤ (cs.foldl stepL σ).1.length
  | [], _ => Nat.le_refl _
  | c :: cs, σ => Nat.le_trans (hlen_step σ c) (hlen_run cs _)
theorem waits_len {row : List Cl} {ks : List Int} (e : row = (12 :: 2 :: ks).map callOf) (hk : ks.length ≤ 63) (oL : OkL (runL row) row.length) : (runL row).2.1.length ≤ 64 := by
  have h1 : 1 ≤ (runL row).1.length := by
    rw [e]
    exact hlen_run ((2 :: ks).map callOf) (stepL ([], [], []) (callOf 12))
  have h2 := oL.lh
  have h3 : row.length = ks.length + 2 := by rw [e]; simp
  exact qfl fun x => qfa5 x h2 (Nat.le_of_eq h3) hk h1 (by simp +arith only)
end Mine.Internal
end
section
set_option tactic.hygienic false
open PySem PySem.W PySem.Calls PyProof.Rows
set_option maxRecDepth 100000
set_option maxHeartbeats 8000000
namespace Mine.Internal
theorem dummyLX : (PySem.Challenge.rw_aa0050_01 = PySem.Challenge.rw_aa0050_01 ∧ hkF = hkF) := by k_fill; exact ⟨rfl, rfl⟩
section
variable {prog : Program} {w : World} {A : Around} {E : Value → Shared → Prop} {env : Env} {h₀ : Heap} {s₀ s : Shared}
  {p : Program} {loose : List Str} {mean : ExcName → Option Value} {mg mb : Str → Option Value} {B sc : Addr} {us : List Value} {ks : List Int} {o3 o2 o1 : Obj} {Q : Flow → Shared → Prop}
theorem wholeLaw (fn : Fn env nsN) (he : ∃ q f c, env = envOfC q lawSc B f c) (hA : A.frames = some [env]) (cx : Cx (hkF w.params) p loose mean mg mb 200 300 A env h₀)
    (hI : IntsAre us ks) (hks : ks.length ≤ 63) (hL : h₀.IsList sc us.toArray) (v3 : CellV o3 none) (v2 : CellV o2 none) (v1 : CellV o1 none)
    (st : S env nsN h₀ [some (.ref sc), none, none, none, none, none, none] ((79, tabObj #[]) :: (B + 3, o3) :: (B + 2, o2) :: (B + 1, o1) :: []) s₀ s)
    (k' : ∀ l' vs' s', S env nsN h₀ vs' l' s₀ s' → (∃ ps, s'.heap.get? 79 = some (tabObj ps)) → Q (.ret (.bool true)) s') : W (model prog w) A (execs lawB env) Q E s := by
  have le : NEnv env B := by obtain ⟨q, f, c, rfl⟩ := he; exact nEnv q B f c
  have hsl : sizeLine = 2 ^ 24 := rfl
  have hul : us.length = ks.length := hI.length
  have hscl : ∀ l' vs' s', S env nsN h₀ vs' l' s₀ s' → s'.heap.IsList sc us.toArray := fun l' vs' s' st' => by
    obtain ⟨o, ho, r⟩ := hL
    exact ⟨o, st'.fr.keep _ _ ho, r⟩
  obtain ⟨CC, hCC⟩ : ∃ CC : Lg, CC = (79, tabObj #[]) :: (B + 3, o3) :: (B + 2, o2) :: (B + 1, o1) :: [] := ⟨_, rfl⟩
  rw [← hCC] at st
  refine w_cons (w_compAssign (w_binop (w_listE (w_args (w_int st fun ta s2 st2 => w_args (w_int st2 fun tb s3 st3 => w_args0 (w_list st3 fun a s4 st4 => ?_)))))) (by obtain ⟨q, f, c, rfl⟩ := he; rfl) ?_ (fun x => rfl) rfl (by decide))
  · refine w_name 0 fn st4 rfl rfl (w_addlist st4 (st4.list (.head _)) (hscl _ _ _ st4) (by simp; lia) fun c s5 st5 => ?_)
    have hI2 : IntsAre ([Value.int 12 ta, Value.int 2 tb] ++ us) (12 :: 2 :: ks) := .cons 12 ta (.cons 2 tb hI)
    refine w_compName cx.hand fn.gl rfl rfl (fun C => rfl) (fun i ys l2 => ∃ z, l2 = z ++ ((c, listO ([Value.int 12 ta, Value.int 2 tb] ++ us) 0) :: (a, listO [Value.int 12 ta, Value.int 2 tb] 0) :: CC) ∧ Vs (CAt z) ys (((12 :: 2 :: ks).take i).map callOf))
      st5 (.head _) ⟨[], rfl, .nil⟩ (by simp; exact qfl fun x => qfa3 x (Nat.le_of_eq hul) hks (by simp +arith only)) (fun i ys l' hJ => by obtain ⟨z, rfl, _⟩ := hJ; exact List.mem_append_right _ (.head _)) ?_ ?_
    · rintro cenv i v ys z2 l2 s6 E6 ⟨C, hcenv⟩ hv ⟨z, rfl, hys⟩ rx st6
      obtain ⟨k, t, rfl, hk⟩ := intsAre_at hI2 hv
      refine w_tests0 (ite_t rfl ?_)
      have kc : cenv.kindOf "_law_call" = some .globalImplicit := by rw [hcenv]; exact kind_other rfl rfl
      have glc : Gl cenv := by rw [hcenv]; exact fn.gl.comp rfl
      refine w_callE (w_cglobal glc cx st6 (by k_is) kc (by decide) (w_ccwK cx (by k_is) (w_args (w_rd rx st6 (fun x hx => List.mem_append_left _ hx) (w_args0 ⟨st6.inK cx, w_callF ?_⟩)))))
      refine call_spec (d := 199) (u := 297) fn cx st6 fun z3 v3 s7 st7 hca => ?_
      refine ⟨(z3 ++ z) ++ ((c, listO ([Value.int 12 ta, Value.int 2 tb] ++ us) 0) :: (a, listO [Value.int 12 ta, Value.int 2 tb] 0) :: CC), ?_, z3 ++ z, rfl, ?_⟩
      · have := List.perm_append_comm_assoc z3 z2 (z ++ ((c, listO ([Value.int 12 ta, Value.int 2 tb] ++ us) 0) :: (a, listO [Value.int 12 ta, Value.int 2 tb] 0) :: CC))
        exact st7.perm (by simpa using this)
      · have e : (12 :: 2 :: ks).take (i + 1) = (12 :: 2 :: ks).take i ++ [k] := by rw [List.take_add_one, hk]; rfl
        rw [e, List.map_append]
        exact Vs.append (hys.imp (CAt.imp fun a us h => List.mem_append_right _ h)) (.cons (CAt.imp (fun a us h => List.mem_append_left _ h) _ _ hca) .nil)
    · rintro ys k D C oC mC l2 s6 ⟨z, rfl, hys⟩ hle hN st6
      rw [show ([Value.int 12 ta, Value.int 2 tb] ++ us).length = (12 :: 2 :: ks).length from hI2.length, List.take_length] at hys
      refine RRu_done 1 fn st6 hN rfl (Nat.le_of_ble_eq_true rfl) fun s7 st7 => ?_
      obtain ⟨RB, hRB⟩ : ∃ RB : Lg, RB = (D, listO ys k) :: (z ++ [(c, listO ([Value.int 12 ta, Value.int 2 tb] ++ us) 0), (a, listO [Value.int 12 ta, Value.int 2 tb] 0)]) := ⟨_, rfl⟩
      have st8 : S env nsN h₀ [some (.ref sc), some (.ref D), none, none, none, none, none] ((79, tabObj #[]) :: (B + 3, o3) :: (B + 2, o2) :: (B + 1, o1) :: RB) s₀ s7 := by
        refine st7.perm ?_
        rw [hRB, hCC]
        have := List.perm_append_comm (l₁ := (D, listO ys k) :: (z ++ [(c, listO ([Value.int 12 ta, Value.int 2 tb] ++ us) 0), (a, listO [Value.int 12 ta, Value.int 2 tb] 0)])) (l₂ := [(79, tabObj #[]), (B + 3, o3), (B + 2, o2), (B + 1, o1)])
        simpa using this
      have hrow : Vs (CAt RB) ys ((12 :: 2 :: ks).map callOf) := hys.imp (CAt.imp fun a us h => by rw [hRB]; exact .tail _ (List.mem_append_left _ h))
      have hD : (D, listO ys k) ∈ RB := by rw [hRB]; exact .head _
      clear hys st7 hle hRB st6 st5 st4 st3 st2 hN
      obtain ⟨row, hrowe⟩ : ∃ row : List Cl, row = (12 :: 2 :: ks).map callOf := ⟨_, rfl⟩
      rw [← hrowe] at hrow
      have hrowok : ∀ c ∈ row, OkC c := fun c hc => by
        rw [hrowe] at hc
        obtain ⟨x, _, rfl⟩ := List.mem_map.mp hc
        exact callOf_ok x
      have hrl : row.length = ks.length + 2 := by rw [hrowe]; simp
      refine w_cons (w_assign 2 fn rfl (w_callE (w_global fn cx st8 (by k_is) le.kflags (by decide) (w_cwK0 cx st8 (by k_is) (flags_new (M := LM) (At := AtL []) (d := 190) (u := 250) fn (cx.le (by exact Nat.le_of_ble_eq_true rfl) (by exact Nat.le_of_ble_eq_true rfl)) st8 fun F s8 H hP st9 => ⟨_, _, st9, Nat.le_of_ble_eq_true rfl, fun s9 st10 => ?_⟩)))))
      refine w_cons (w_assignTup ?_ (by obtain ⟨q, f, c, rfl⟩ := he; rfl) (by obtain ⟨q, f, c, rfl⟩ := he; rfl))
      refine w_tupleE (w_args (w_listE (w_args0 (w_list st10 fun Hh s11 st11 => w_args (w_listE (w_args0 (w_list st11 fun Wt s12 st12 => w_args (w_listE (w_args0 (w_list st12 fun As s13 st13 => w_args0 (w_tuple st13 fun tp s14 st14 => ?_)))))))))))
      refine w_unpack cx.hand st14 (.head _) rfl rfl fun s15 st15 => ?_
      refine w_inorder (w_aname (w_store 3 fn st15 rfl (Nat.le_of_ble_eq_true rfl) fun s16 st16 => ?_))
      refine w_inorder (w_aname (w_setcell (l' := fun o' => (tp, tupO [.ref Hh, .ref Wt, .ref As]) :: (As, listO [] 0) :: (Wt, listO [] 0) :: (Hh, listO [] 0) :: (F.cells ++ ((79, tabObj #[]) :: (B + 3, o3) :: (B + 2, o2) :: (B + 1, o') :: RB))) fn.gl st16 le.kwaits le.lwaits (fun o' => .tail (.tail (.tail (.tail (.app (.tail (.tail (.tail .head)))))))) v1 fun o1' s17 v1' st17 => ?_))
      refine w_inorder (w_aname (w_setcell (l' := fun o' => (tp, tupO [.ref Hh, .ref Wt, .ref As]) :: (As, listO [] 0) :: (Wt, listO [] 0) :: (Hh, listO [] 0) :: (F.cells ++ ((79, tabObj #[]) :: (B + 3, o3) :: (B + 2, o') :: (B + 1, o1') :: RB))) fn.gl st17 le.kasked le.lasked (fun o' => .tail (.tail (.tail (.tail (.app (.tail (.tail .head))))))) v2 fun o2' s18 v2' st18 => ?_))
      refine w_inorder0 ?_
      have pq := pmX (α := Addr × Obj) [(tp, tupO [.ref Hh, .ref Wt, .ref As]), (As, listO [] 0), (Wt, listO [] 0), (Hh, listO [] 0)] F.cells [(79, tabObj #[]), (B + 3, o3), (B + 2, o2'), (B + 1, o1')] RB
      have pr : ([(tp, tupO [.ref Hh, .ref Wt, .ref As]), (As, listO [] 0), (Wt, listO [] 0), (Hh, listO [] 0)] ++ RB).Perm ([(Hh, listO [] 0), (Wt, listO [] 0), (As, listO [] 0), (tp, tupO [.ref Hh, .ref Wt, .ref As])] ++ RB) := (List.reverse_perm [(Hh, listO [] 0), (Wt, listO [] 0), (As, listO [] 0), (tp, tupO [.ref Hh, .ref Wt, .ref As])]).append_right RB
      have st19 := st18.perm (pq.trans ((pr.append_left _).append_left _))
      have hM : MS prog w B Hh As F.f ((tp, tupO [.ref Hh, .ref Wt, .ref As]) :: RB) [] [] [] none _ := .mk F [] #[] o3 o2' o1' Wt [] [] [] 0 0 0 rfl H (hP.imp (AtL.imp (l := []) fun x x hx => absurd hx List.not_mem_nil)) .empty v3 v2' v1' .nil .nil .nil
      refine loopM fn he hA cx (.tail _ hD) (hrow.imp (CAt.imp fun x x hx => .tail _ hx)) hrowok (by exact qfl fun x => qfa3 x (Nat.le_of_eq hrl) hks (by simp +arith only)) hM st19 fun l20 k4 k5 k6 xw s20 hM20 st20 => ?_
      have oL := okL_run hrowok
      exact finale fn he cx oL (by exact qfl fun x => qfa3 x (Nat.le_of_eq hrl) hks (by simp +arith only)) (waits_len hrowe hks oL) hM20 st20 fun l' vs' s' st' hg => k' l' vs' s' st' hg
  · intro x hx hfr
    simp only [List.mem_cons, List.not_mem_nil, or_false] at hx
    rcases hx with rfl | rfl | rfl <;> cases hfr
end
end Mine.Internal
end
section
set_option tactic.hygienic false
open PySem PySem.W PySem.Calls PyProof.Rows
set_option maxRecDepth 100000
set_option maxHeartbeats 8000000
namespace Mine.Internal
theorem dummyLY : (PySem.Challenge.rw_aa0050_01 = PySem.Challenge.rw_aa0050_01 ∧ hkF = hkF) := by k_fill; exact ⟨rfl, rfl⟩
theorem nd4 (a b : Nat) (h : a < b) : ([a, b + 3, b + 2, b + 1] : List Nat).Nodup := by
  simp only [List.nodup_cons, List.mem_cons, List.not_mem_nil, or_false, List.nodup_nil, not_false_eq_true, and_true]
  lia
set_option tactic.hygienic true in
theorem lawX : PySem.Challenge.rw_aa0050_01.Holds := hd1 (by
  w_strict (intro w0 s00 s10 mg0 mb0 G0 Y0
            have Y1 : (kmHook hkF hkA (fun x => by kernel_rfl) [79]).says w0 s10.heap := Y0
            clear Y0
            revert w0 s00 s10 mg0 mb0 G0 Y1
            k_go0
            rename_i W0 s0 s1 mg mb G Y fa o pm cd doc ho hcd hg X V T B TE TW ks hs hlay0 hL1 hr1 hl2 w7 w6 sc us w3 hL ra w1 r0 hI hr hc1 hc0 hD h1 tk1 o3 o2 o1 l3 l2 l1 C0 KX T2 K0 F N0 l0
            refine W.out ?_
            clear G Y ho hcd hT8 X V T B TE TW hT9 hs hlay0 hL1 hr1 hl2 hL ra w1 r0 hr hc0 hD C0 codeHd
            generalize he : envOfC _ _ _ fa _ = env1 at F l1 l2 l3 ⊢
            revert env1; refine hold ?_; intro env1 he F l1 l2 l3
            have hloc : env1.locals = s1.heap.objs.size := by rw [← he]; rfl
            have fn : Fn env1 nsN := by rw [← he]; exact fn_ofC (by rfl) (by decide) rfl _
            have hfr : Fr (ghostOf s1.heap [(83, 79)]) env1.locals h1 (locOf nsN [some (.ref sc), none, none, none, none, none, none]) := by
              rw [hloc]
              rw [locOf_first (ns := ["calls", "flags", "history", "kind", "flag", "here"]) (vs := [none, none, none, none, none, none]) (nones 6)]
              rw [← he] at F
              exact F
            have hbc : ∀ n : Str, n ≠ "script" → bindC env1.kindOf [("script", Value.ref sc)] (fun x => none) n = none := by
              intro n hn
              have : env1.kindOf "script" = some .local := by rw [← he]; rfl
              unfold bindC bindC
              rw [if_pos this]
            have v3 : CellV o3 none := l3.trans (congrArg Data.cell (hbc "way" (by decide)))
            have v2 : CellV o2 none := l2.trans (congrArg Data.cell (hbc "asked" (by decide)))
            have v1 : CellV o1 none := l1.trans (congrArg Data.cell (hbc "waits" (by decide)))
            clear l1 l2 l3 hbc F
            have hA : (callerA.deeper env1).frames = some [env1] := by show callerA.frames.map _ = _; rw [K0.stack]; rfl
            have cx : Cx (hkF W0.params) _ _ _ mg mb 200 300 (callerA.deeper env1) env1 (ghostOf s1.heap [(83, 79)]) :=
              ⟨⟨_, _, _, K0, hA⟩, KX, T2, by show callerA.depth + 1 + 200 < recursionLimit; decide +kernel, by show callerA.units + 3 + 300 < cLine; decide +kernel, rfl⟩
            have st : S env1 nsN (ghostOf s1.heap [(83, 79)]) [some (.ref sc), none, none, none, none, none, none]
                ((79, tabObj #[]) :: (s1.heap.objs.size + 3, o3) :: (s1.heap.objs.size + 2, o2) :: (s1.heap.objs.size + 1, o1) :: []) s1 ⟨h1, s1.gens, s1.drawn, tk1, s1.os⟩ :=
              ⟨rfl, hfr, by
                rw [hloc]
                intro p hp
                refine N0 p ?_
                rcases List.mem_cons.mp hp with rfl | hp
                · exact .tail _ (.tail _ (.tail _ (.head _)))
                · exact List.mem_append_left [(79, tabObj #[])] hp, by
                exact nd4 79 _ l0⟩
            refine wholeLaw fn ⟨_, _, _, he.symm⟩ hA cx hI (by lia) lifted v3 v2 v1 st fun l' vs' s' st' hgr => ?_
            have hsame := st'.same
            refine ⟨⟨.inl ⟨.bool true, .bool true, [], rfl, fun cls => rfl, .bool true, by wrow_post, fun x => ⟨.nil, fun a ha => absurd ha List.not_mem_nil⟩⟩, st'.fr.keep, ?_, ?_⟩, hgr, trivial⟩
            · rw [hsame]
            · rw [hsame]; exact hg))
end Mine.Internal
end
theorem PySem.Challenge.cw_aa0050_01_holds : PySem.Challenge.rw_aa0050_01.Holds :=
  Mine.Internal.lawX
