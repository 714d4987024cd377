import PyProof.Rows.All
import Wide.All
import OpenK.AllK
import Wide.FinOn
import KE.BitLaws
import Lean
import PySem.Challenge.RW_hg0003_02
open PySem PySem.W PyProof.Rows PySem.Calls
set_option Elab.async false
set_option linter.unusedSimpArgs false
set_option linter.unusedVariables false
local macro_rules | `(tactic| walk_at "binaryOp FloorDiv int int") => `(tactic| k_extra "fdiv")
local macro_rules | `(tactic| walk_at "binaryOp Mult ref int") => `(tactic| k_extra "mulr")
local macro_rules | `(tactic| walk_at "call ref cons nil") => `(tactic| k_extra "callr")
local macro_rules | `(tactic| walk_at "truthy ref") => `(tactic| k_extra "truthy")
local macro_rules | `(tactic| walk_at "call builtin:len cons nil") => `(tactic| k_extra "len")
local macro_rules | `(tactic| walk_at "call builtin:divmod cons nil") => `(tactic| k_extra "divmod")
local macro_rules | `(tactic| walk_at "newList nil") => `(tactic| k_extra "newlist")
local macro_rules | `(tactic| walk_at "binaryOp LShift int int") => `(tactic| k_extra "lsh")
local macro_rules | `(tactic| walk_at "binaryOp RShift int int") => `(tactic| k_extra "rsh")
local macro_rules | `(tactic| walk_at "binaryOp BitXor int int") => `(tactic| k_extra "xor")
local macro_rules | `(tactic| walk_at "binaryOp Mult int int") => `(tactic| k_extra "mul")
local macro_rules | `(tactic| walk_at "call type:reversed cons nil") => `(tactic| k_extra "rev")
local macro_rules | `(tactic| walk_at "call builtin:int.bit_length cons nil") => `(tactic| k_extra "bits")
local macro_rules | `(tactic| walk_at "call builtin:list.append cons nil") => `(tactic| k_extra "append")
local macro_rules | `(tactic| walk_at "call builtin:list.reverse cons nil") => `(tactic| k_extra "reverse")
local macro_rules | `(tactic| walk_at "exec For Tuple Call cons nil") => `(tactic| k_extra "items")
local macro_rules | `(tactic| walk_at "subscriptTail Name Constant ref int") => `(tactic| k_extra "item")
local macro_rules | `(tactic| walk_at "subscriptTail Name Slice ref ref") => `(tactic| k_extra "slice3")
local macro_rules | `(tactic| walk_at "exec While Compare cons nil") => `(tactic| k_extra "while")
local macro_rules | `(tactic| walk_at "call builtin:abs cons nil") => `(tactic| k_extra "abs")
local macro_rules | `(tactic| walk_at "subscriptTail BinOp") => `(tactic| k_extra "slice6")
local macro_rules | `(tactic| walk_at "subscriptTail") => `(tactic| k_extra "item")
local macro_rules | `(tactic| walk_at "subscriptTail Name Name ref int") => `(tactic| k_extra "item")
local macro_rules | `(tactic| walk_at "subscriptTail Name BinOp ref int") => `(tactic| k_extra "item")
local macro_rules | `(tactic| walk_at "subscriptTail Subscript Name Name Constant ref int") => `(tactic| k_extra "item")
local macro_rules | `(tactic| walk_at "subscriptTail Subscript Name Constant Constant ref int") => `(tactic| k_extra "item")
local macro_rules | `(tactic| walk_at "callWith ref nil nil") => `(tactic| k_extra "cw")
local macro_rules | `(tactic| walk_at "storeName ref") => `(tactic| k_extra "stc")
local macro_rules | `(tactic| walk_at "FinE cons") => `(tactic| k_extra "fine")
local macro_rules | `(tactic| walk_at "FinE") => `(tactic| k_extra "fine")
local macro_rules | `(tactic| walk_at "CompEnd ref") => `(tactic| k_extra "cend")
local macro_rules | `(tactic| walk_at "CompEnd") => `(tactic| k_extra "cend")
local macro_rules | `(tactic| walk_at "CompSrc") => `(tactic| k_extra "src")
local macro_rules | `(tactic| walk_at "subscriptTail Subscript Name Name Name ref int") => `(tactic| k_extra "item")
local macro_rules | `(tactic| walk_at "subscriptTail Subscript Name Name BinOp ref int") => `(tactic| k_extra "item")
local macro_rules | `(tactic| walk_at "subscriptTail Subscript Name Constant Name ref int") => `(tactic| k_extra "item")
local macro_rules | `(tactic| walk_at "ite") => `(tactic| k_extra "ite1")
local macro_rules | `(tactic| walk_at "CompEnd none") => `(tactic| k_extra "cend")
local macro_rules | `(tactic| walk_at "CompEnd int") => `(tactic| k_extra "cend")
local macro_rules | `(tactic| walk_at "execs nil") => `(tactic| k_extra "nil")
local macro_rules | `(tactic| walk_at "exec For Name Call cons nil") => `(tactic| k_extra "for")
local macro_rules | `(tactic| walk_at "pyIter ref") => `(tactic| k_extra "iter")
local macro_rules | `(tactic| walk_at "UnrEnd") => `(tactic| k_extra "unrend")
local macro_rules | `(tactic| walk_at "execs cons Assign cons") => `(tactic| k_extra "next")
local macro_rules | `(tactic| walk_at "execs cons If cons") => `(tactic| k_extra "next")
namespace Mine
def digs (x b : Int) : Nat → List Int
  | 0 => []
  | k + 1 => x % b :: digs (x / b) b k
def undigs (b : Int) : List Int → Int
  | [] => 0
  | d :: r => d + b * undigs b r
theorem digs_length (x b : Int) (k : Nat) : (digs x b k).length = k := by
  induction k generalizing x with
  | zero => rfl
  | succ k ih => simp [digs, ih]
theorem digs_one {x b : Int} (h0 : 0 ≤ x) (h1 : x < b) : digs x b 1 = [x] := by
  simp [digs, Int.emod_eq_of_lt h0 h1]
theorem digs_add (b : Int) (hb : 0 < b) (i j : Nat) : ∀ x : Int, digs x b (i + j) = digs (x % b ^ i) b i ++ digs (x / b ^ i) b j := by
  induction i with
  | zero => intro x; simp [digs]
  | succ i ih =>
    intro x
    rw [Nat.succ_add]
    show x % b :: digs (x / b) b (i + j) = (x % b ^ (i+1)) % b :: (digs ((x % b ^ (i+1)) / b) b i ++ digs (x / b ^ (i+1)) b j)
    rw [ih]
    have e1 : (x % b ^ (i+1)) % b = x % b := Int.emod_emod_of_dvd x ⟨b ^ i, by rw [Int.pow_succ]; exact Int.mul_comm _ _⟩
    have e2 : (x / b) / b ^ i = x / b ^ (i+1) := by
      rw [Int.pow_succ, Int.mul_comm, Int.ediv_ediv_of_nonneg (Int.le_of_lt hb)]
    have e3 : (x / b) % b ^ i = (x % b ^ (i+1)) / b := by
      have hp : 0 < b ^ i := Int.pow_pos hb
      have h1 := Int.mul_ediv_add_emod (x / b) (b ^ i)
      have h2 := Int.mul_ediv_add_emod x (b ^ (i+1))
      rw [e2] at h1
      have e4 : x % b ^ (i+1) = x - b * (b ^ i * (x / b ^ (i+1))) := by
        rw [← Int.mul_assoc, show b * b ^ i = b ^ (i+1) by rw [Int.pow_succ, Int.mul_comm]]; omega
      rw [e4, Int.sub_mul_ediv_left _ _ (Int.ne_of_gt hb)]
      omega
    rw [e1, e2, e3]
theorem undigs_append (b : Int) : ∀ (l r : List Int), undigs b (l ++ r) = undigs b l + b ^ l.length * undigs b r := by
  intro l
  induction l with
  | nil => intro r; simp [undigs]
  | cons d l ih =>
    intro r
    simp only [List.cons_append, undigs, ih, List.length_cons, Int.pow_succ]
    grind
theorem nat_low (m k : Nat) : m &&& (m / 2 ^ k * 2 ^ k) = m / 2 ^ k * 2 ^ k := by
  rw [← Nat.shiftRight_eq_div_pow, ← Nat.shiftLeft_eq]
  apply Nat.eq_of_testBit_eq
  intro i
  rw [Nat.testBit_and, Nat.testBit_shiftLeft, Nat.testBit_shiftRight]
  by_cases h : i ≥ k
  · simp [h, Nat.add_sub_of_le h]
  · simp [h]
theorem bitXor_low {x : Int} (h0 : 0 ≤ x) (k : Nat) : Builtin.bitXor x (x / 2 ^ k * 2 ^ k) = x % 2 ^ k := by
  have hp : (0 : Int) < 2 ^ k := Int.pow_pos (by decide)
  have hy : 0 ≤ x / 2 ^ k * 2 ^ k := Int.mul_nonneg (Int.ediv_nonneg h0 (Int.le_of_lt hp)) (Int.le_of_lt hp)
  rw [PyProof.Rows.bitXor_and]
  have e : Builtin.bitAnd x (x / 2 ^ k * 2 ^ k) = x / 2 ^ k * 2 ^ k := by
    unfold Builtin.bitAnd
    simp only [h0, hy, decide_true]
    obtain ⟨m, rfl⟩ := Int.eq_ofNat_of_zero_le h0
    have e1 : ((m : Int) / 2 ^ k * 2 ^ k) = ((m / 2 ^ k * 2 ^ k : Nat) : Int) := by push_cast; rfl
    rw [e1, Int.toNat_natCast, Int.toNat_natCast, nat_low]
  rw [e]
  have := Int.mul_ediv_add_emod x (2 ^ k)
  rw [Int.mul_comm] at this
  omega
theorem bits_pos {x : Int} (h : 1 ≤ x) : 1 ≤ (Builtin.Int.intBits x : Int) := by
  unfold Builtin.Int.intBits
  rw [if_neg (by simp; omega)]
  omega
theorem lt_bits {x : Int} (h : 0 ≤ x) : x < 2 ^ Builtin.Int.intBits x := by
  unfold Builtin.Int.intBits
  split
  · rename_i h'; have : x = 0 := by simpa using h'
    subst this; decide
  · obtain ⟨m, rfl⟩ := Int.eq_ofNat_of_zero_le h
    have := @Nat.lt_log2_self m
    rw [Int.natAbs_natCast]
    exact_mod_cast this
theorem bits_le {x : Int} {k : Nat} (h : 0 ≤ x) (hk : x < 2 ^ k) : Builtin.Int.intBits x ≤ k := by
  unfold Builtin.Int.intBits
  split
  · omega
  · rename_i h'
    obtain ⟨m, rfl⟩ := Int.eq_ofNat_of_zero_le h
    have hm : m ≠ 0 := by intro e; subst e; simp at h'
    rw [Int.natAbs_natCast]
    have : m < 2 ^ k := by exact_mod_cast hk
    have := (Nat.log2_lt hm).mpr this
    omega
theorem mul_box {a b A B : Int} (h1 : 0 ≤ a) (h2 : a ≤ A) (h3 : 0 ≤ b) (h4 : b ≤ B) : 0 ≤ a * b ∧ a * b ≤ A * B :=
  ⟨Int.mul_nonneg h1 h3, Int.mul_le_mul h2 h4 h3 (Int.le_trans h1 h2)⟩
theorem div_box {x : Int} (k : Nat) (hx : 0 ≤ x) : 0 ≤ x / 2 ^ k ∧ x / 2 ^ k ≤ x :=
  ⟨Int.ediv_nonneg hx (Int.le_of_lt (Int.pow_pos (by decide))), Int.ediv_le_self _ hx⟩
theorem pow_split {n d : Int} (hn : 0 ≤ n) (hd : 0 ≤ d) : (2 : Int) ^ (d * n).toNat = (2 ^ n.toNat) ^ d.toNat := by
  obtain ⟨m, rfl⟩ := Int.eq_ofNat_of_zero_le hn
  obtain ⟨e, rfl⟩ := Int.eq_ofNat_of_zero_le hd
  rw [← Int.natCast_mul, Int.toNat_natCast, Int.toNat_natCast, Int.toNat_natCast, ← Int.pow_mul, Nat.mul_comm]
theorem split_facts {x lo mid hi n shift upper lower : Int} (hn : 1 ≤ n) (h1 : lo < mid) (h2 : mid < hi) (hx0 : 0 ≤ x) (hx1 : x < (2 ^ n.toNat) ^ (hi - lo).toNat)
    (hs : shift = (mid - lo) * n) (hu : upper = x / 2 ^ shift.toNat) (hl : lower = Builtin.bitXor x (upper * 2 ^ shift.toNat)) :
    0 ≤ lower ∧ lower < (2 ^ n.toNat) ^ (mid - lo).toNat ∧ lower ≤ x ∧ 0 ≤ upper ∧ upper < (2 ^ n.toNat) ^ (hi - mid).toNat ∧ upper ≤ x ∧
      digs x (2 ^ n.toNat) (hi - lo).toNat = digs lower (2 ^ n.toNat) (mid - lo).toNat ++ digs upper (2 ^ n.toNat) (hi - mid).toNat := by
  have hp : (2 : Int) ^ shift.toNat = (2 ^ n.toNat) ^ (mid - lo).toNat := by rw [hs]; exact pow_split (by omega) (by omega)
  have hb : (0 : Int) < 2 ^ n.toNat := Int.pow_pos (by decide)
  have hpp : (0 : Int) < (2 ^ n.toNat) ^ (mid - lo).toNat := Int.pow_pos hb
  rw [hu, bitXor_low hx0] at hl
  rw [hp] at hu hl
  have e : (hi - lo).toNat = (mid - lo).toNat + (hi - mid).toNat := by omega
  have hx1' : x < (2 ^ n.toNat) ^ (mid - lo).toNat * (2 ^ n.toNat) ^ (hi - mid).toNat := by rw [← Int.pow_add, ← e]; exact hx1
  subst hu hl
  refine ⟨Int.emod_nonneg _ (Int.ne_of_gt hpp), Int.emod_lt_of_pos _ hpp, ?_, Int.ediv_nonneg hx0 (Int.le_of_lt hpp), ?_, Int.ediv_le_self _ hx0, ?_⟩
  · have := Int.mul_ediv_add_emod x ((2 ^ n.toNat) ^ (mid - lo).toNat); have := Int.mul_nonneg (Int.le_of_lt hpp) (Int.ediv_nonneg hx0 (Int.le_of_lt hpp)); omega
  · exact Int.ediv_lt_of_lt_mul hpp (by rw [Int.mul_comm]; exact hx1')
  · rw [e]; exact digs_add _ hb _ _ _
theorem patch2 {ys A B : List Int} {lo mid hi : Nat} (h1 : lo ≤ mid) (h2 : mid ≤ hi) (h3 : hi ≤ ys.length) (hA : A.length = mid - lo) :
    (ys.take lo ++ A ++ ys.drop mid).take mid ++ B ++ (ys.take lo ++ A ++ ys.drop mid).drop hi = ys.take lo ++ (A ++ B) ++ ys.drop hi := by
  have e1 : (ys.take lo ++ A).length = mid := by simp; omega
  rw [List.take_append_of_le_length (by omega), List.take_of_length_le (by omega), List.drop_append, List.drop_of_length_le (by omega), e1, List.drop_drop]
  simp
  congr 1
  omega
theorem patch1 {ys : List Int} {lo : Nat} {x : Int} (h : lo < ys.length) : ys.set lo x = ys.take lo ++ [x] ++ ys.drop (lo + 1) := by
  rw [List.set_eq_take_append_cons_drop, if_pos h]; simp
theorem leaf_list {x lo hi n : Int} {ys : List Int} (h : lo + 1 = hi) (h0 : 0 ≤ lo) (hh : hi ≤ ys.length) (hx0 : 0 ≤ x) (hx1 : x < (2 ^ n.toNat) ^ (hi - lo).toNat) :
    ys.take lo.toNat ++ digs x (2 ^ n.toNat) (hi - lo).toNat ++ ys.drop hi.toNat = ys.set lo.toNat x := by
  have e : (hi - lo).toNat = 1 := by omega
  rw [e] at hx1 ⊢
  rw [Int.pow_one] at hx1
  rw [digs_one hx0 hx1, patch1 (by omega), show hi.toNat = lo.toNat + 1 by omega]
theorem undigs_nonneg {b : Int} (hb : 0 ≤ b) : ∀ {l : List Int}, (∀ d ∈ l, 0 ≤ d) → 0 ≤ undigs b l
  | [], _ => Int.le_refl _
  | d :: r, h => by
    have h1 := h d (.head _)
    have h2 := undigs_nonneg hb (l := r) fun e he => h e (.tail _ he)
    have := Int.mul_nonneg hb h2
    show 0 ≤ d + b * undigs b r
    omega
def cut (ys : List Int) (lo hi : Int) : List Int := (ys.drop lo.toNat).take (hi - lo).toNat
theorem cut_split {ys : List Int} {lo mid hi : Int} (h0 : 0 ≤ lo) (h1 : lo ≤ mid) (h2 : mid ≤ hi) : cut ys lo hi = cut ys lo mid ++ cut ys mid hi := by
  unfold cut
  rw [show (hi - lo).toNat = (mid - lo).toNat + (hi - mid).toNat by omega, List.take_add, List.drop_drop]
  rw [show lo.toNat + (mid - lo).toNat = mid.toNat by omega]
theorem cut_length {ys : List Int} {lo hi : Int} (h0 : 0 ≤ lo) (h1 : lo ≤ hi) (h2 : hi ≤ ys.length) : (cut ys lo hi).length = (hi - lo).toNat := by
  unfold cut
  rw [List.length_take, List.length_drop]; omega
theorem cut_one {ys : List Int} {lo hi : Int} (h0 : 0 ≤ lo) (h1 : lo + 1 = hi) (h2 : hi ≤ ys.length) : cut ys lo hi = [ys.getD lo.toNat 0] := by
  unfold cut
  have h : lo.toNat < ys.length := by omega
  rw [show (hi - lo).toNat = 1 by omega, List.drop_eq_getElem_cons h, List.take_succ_cons, List.take_zero]
  simp [List.getD, h]
theorem cut_mem {ys : List Int} {lo hi : Int} {P : Int → Prop} (h : ∀ d ∈ ys, P d) : ∀ d ∈ cut ys lo hi, P d := fun d hd => h d (List.mem_of_mem_drop (List.mem_of_mem_take hd))
theorem cut_all {ys : List Int} {hi : Int} (h : hi = ys.length) : cut ys 0 hi = ys := by
  unfold cut
  rw [h]; simp
theorem val_split {ys : List Int} {n lo mid hi shift : Int} (hn : 1 ≤ n) (h0 : 0 ≤ lo) (h1 : lo < mid) (h2 : mid < hi) (h3 : hi ≤ ys.length) (hd : ∀ d ∈ ys, 0 ≤ d) (hs : shift = (mid - lo) * n) :
    0 ≤ undigs (2 ^ n.toNat) (cut ys lo mid) ∧ 0 ≤ undigs (2 ^ n.toNat) (cut ys mid hi) ∧ undigs (2 ^ n.toNat) (cut ys lo mid) ≤ undigs (2 ^ n.toNat) (cut ys lo hi) ∧ undigs (2 ^ n.toNat) (cut ys mid hi) ≤ undigs (2 ^ n.toNat) (cut ys lo hi) ∧
      undigs (2 ^ n.toNat) (cut ys mid hi) * 2 ^ shift.toNat + undigs (2 ^ n.toNat) (cut ys lo mid) = undigs (2 ^ n.toNat) (cut ys lo hi) := by
  have hp : (2 : Int) ^ shift.toNat = (2 ^ n.toNat) ^ (mid - lo).toNat := by rw [hs]; exact pow_split (by omega) (by omega)
  have hb : (0 : Int) < 2 ^ n.toNat := Int.pow_pos (by decide)
  have hpp : (0 : Int) < (2 ^ n.toNat) ^ (mid - lo).toNat := Int.pow_pos hb
  rw [hp]
  have a1 := undigs_nonneg (Int.le_of_lt hb) (cut_mem (lo := lo) (hi := mid) hd)
  have a2 := undigs_nonneg (Int.le_of_lt hb) (cut_mem (lo := mid) (hi := hi) hd)
  have e : undigs (2 ^ n.toNat) (cut ys lo hi) = undigs (2 ^ n.toNat) (cut ys lo mid) + (2 ^ n.toNat) ^ (mid - lo).toNat * undigs (2 ^ n.toNat) (cut ys mid hi) := by
    rw [cut_split h0 (Int.le_of_lt h1) (Int.le_of_lt h2), undigs_append, cut_length h0 (Int.le_of_lt h1) (by omega)]
  have a3 : undigs (2 ^ n.toNat) (cut ys mid hi) ≤ (2 ^ n.toNat) ^ (mid - lo).toNat * undigs (2 ^ n.toNat) (cut ys mid hi) := by
    have := Int.mul_le_mul_of_nonneg_right (show (1 : Int) ≤ (2 ^ n.toNat) ^ (mid - lo).toNat from hpp) a2
    omega
  rw [Int.mul_comm ((2 ^ n.toNat) ^ (mid - lo).toNat)] at e a3
  refine ⟨a1, a2, ?_, ?_, ?_⟩ <;> omega
theorem D_facts {x n D : Int} (hx0 : 1 ≤ x) (hx1 : x ≤ 1000) (hn : 1 ≤ n) (hD : D = ((Builtin.Int.intBits x : Int) + n - 1) / n) : 1 ≤ D ∧ D ≤ 10 ∧ x < (2 ^ n.toNat) ^ D.toNat := by
  have b1 := bits_pos hx0
  have b2 : Builtin.Int.intBits x ≤ 10 := bits_le (by omega) (by have : (2 : Int) ^ 10 = 1024 := by decide
                                                                 omega)
  have b3 := lt_bits (x := x) (by omega)
  have h1 : 1 ≤ D := by rw [hD]; exact Int.le_ediv_of_mul_le (by omega) (by omega)
  have h2 : D < 11 := by rw [hD]; exact Int.ediv_lt_of_lt_mul (by omega) (by omega)
  have h3 : (Builtin.Int.intBits x : Int) ≤ D * n := by
    have := Int.lt_ediv_add_one_mul_self ((Builtin.Int.intBits x : Int) + n - 1) (show 0 < n by omega)
    rw [← hD, Int.add_mul] at this
    omega
  refine ⟨h1, by omega, ?_⟩
  rw [← pow_split (by omega) (by omega)]
  refine Int.lt_of_lt_of_le b3 ?_
  exact_mod_cast Nat.pow_le_pow_right (by decide : 0 < 2) (show Builtin.Int.intBits x ≤ (D * n).toNat by omega)
def hval (B acc : Int) (ds : List Int) : Int := ds.foldl (fun a d => a * B + d) acc
theorem hval_nil (B acc : Int) : hval B acc [] = acc := rfl
theorem hval_cons (B acc d : Int) (ds : List Int) : hval B acc (d :: ds) = hval B (acc * B + d) ds := rfl
theorem hval_snoc (B acc d : Int) (ds : List Int) : hval B acc (ds ++ [d]) = hval B acc ds * B + d := by
  unfold hval; rw [List.foldl_append]; rfl
theorem hval_reverse (B : Int) : ∀ l : List Int, hval B 0 l.reverse = undigs B l
  | [] => rfl
  | d :: r => by rw [List.reverse_cons, hval_snoc, hval_reverse B r]; show _ = d + B * undigs B r; rw [Int.mul_comm, Int.add_comm]
theorem undigs_digs {B : Int} (hB : 0 < B) : ∀ (k : Nat) (x : Int), 0 ≤ x → x < B ^ k → undigs B (digs x B k) = x
  | 0, x, h0, h1 => by
    have : x < 1 := by simpa using h1
    show (0 : Int) = x
    omega
  | k + 1, x, h0, h1 => by
    have h2 : 0 ≤ x / B := Int.ediv_nonneg h0 (Int.le_of_lt hB)
    have h3 : x / B < B ^ k := Int.ediv_lt_of_lt_mul hB (by rw [← Int.pow_succ]; exact h1)
    show x % B + B * undigs B (digs (x / B) B k) = x
    rw [undigs_digs hB k _ h2 h3]
    have := Int.mul_ediv_add_emod x B
    omega
theorem digs_range {B : Int} (hB : 0 < B) : ∀ (k : Nat) (x : Int), ∀ d ∈ digs x B k, 0 ≤ d ∧ d < B
  | 0, _, _, h => nomatch h
  | k + 1, x, d, h => by
    rcases List.mem_cons.mp h with rfl | h
    · exact ⟨Int.emod_nonneg _ (Int.ne_of_gt hB), Int.emod_lt_of_pos _ hB⟩
    · exact digs_range hB k _ d h
structure DivInv (x b B : Int) (r : Int) (qs ds : List Int) (D : Nat) : Prop where
  r0 : 0 ≤ r
  r1 : r < b
  val : hval B (b * hval B 0 qs + r) ds = x
  rng : ∀ d ∈ ds, 0 ≤ d ∧ d < B
  qpos : ∀ q ∈ qs, 0 ≤ q
  len : qs.length + ds.length = D
theorem DivInv.start {x b B : Int} {D : Nat} (hB : 0 < B) (hb : 0 < b) (hx0 : 0 ≤ x) (hx1 : x < B ^ D) : DivInv x b B 0 [] (digs x B D).reverse D where
  r0 := Int.le_refl _
  r1 := hb
  val := by
    rw [show b * hval B 0 [] + 0 = 0 by rw [hval_nil]; simp, hval_reverse, undigs_digs hB D x hx0 hx1]
  rng := fun d hd => digs_range hB D x d (List.mem_reverse.mp hd)
  qpos := fun _ h => nomatch h
  len := by simp [digs_length]
theorem DivInv.step {x b B r d v : Int} {qs ds : List Int} {D : Nat} (h : DivInv x b B r qs (d :: ds) D) (hB : 0 < B) (hb : 0 < b) (hv : v = r * B + d) : DivInv x b B (v % b) (qs ++ [v / b]) ds D where
  r0 := Int.emod_nonneg _ (Int.ne_of_gt hb)
  r1 := Int.emod_lt_of_pos _ hb
  val := by
    have hd := h.val
    rw [hval_cons] at hd
    rw [hval_snoc, ← hd]
    congr 1
    have := Int.mul_ediv_add_emod v b
    have e : b * (hval B 0 qs * B + v / b) + v % b = b * hval B 0 qs * B + (b * (v / b) + v % b) := by grind
    rw [e, this, hv]
    grind
  rng := fun e he => h.rng e (.tail _ he)
  qpos := fun q hq => by
    rcases List.mem_append.mp hq with hq | hq
    · exact h.qpos q hq
    · rw [List.mem_singleton.mp hq]
      refine Int.ediv_nonneg ?_ (Int.le_of_lt hb)
      rw [hv]
      have := Int.mul_nonneg h.r0 (Int.le_of_lt hB)
      have := (h.rng d (.head _)).1
      omega
  len := by
    have := h.len
    simp only [List.length_append, List.length_cons, List.length_nil] at this ⊢
    omega
theorem DivInv.stop {x b B r : Int} {qs : List Int} {D : Nat} (h : DivInv x b B r qs [] D) (hb : 0 < b) : undigs B qs.reverse = x / b ∧ r = x % b ∧ (∀ d ∈ qs.reverse, 0 ≤ d) ∧ qs.reverse.length = D := by
  have e := h.val
  rw [hval_nil] at e
  have e1 : undigs B qs.reverse = hval B 0 qs := by rw [← hval_reverse, List.reverse_reverse]
  have h0 := h.r0
  have h1 := h.r1
  rw [e1]
  refine ⟨?_, ?_, fun d hd => h.qpos d (List.mem_reverse.mp hd), ?_⟩
  · rw [← e, Int.add_comm, Int.add_mul_ediv_left _ _ (Int.ne_of_gt hb), Int.ediv_eq_zero_of_lt h0 h1]; omega
  · rw [← e, Int.add_comm, Int.add_mul_emod_self_left, Int.emod_eq_of_lt h0 h1]
  · have := h.len; simpa using this
theorem pow_le_1024 {n : Int} (h : n ≤ 10) : (2 : Int) ^ n.toNat ≤ 1024 := by
  have h1 : (2 : Nat) ^ n.toNat ≤ 2 ^ 10 := Nat.pow_le_pow_right (by decide) (by omega)
  have h2 : (2 : Nat) ^ 10 = 1024 := by decide
  have h3 : ((2 ^ n.toNat : Nat) : Int) ≤ 1024 := by omega
  rw [Int.natCast_pow] at h3
  exact h3
theorem div_eq_fdiv {x b : Int} (hb : 0 < b) : x.fdiv b = x / b := Int.fdiv_eq_ediv_of_nonneg x (Int.le_of_lt hb)
end Mine
namespace Mine
section
variable {prog : Program} {w : World} {A : Around} {E : Value → Shared → Prop} {s : Shared} {a b : Int} {t u : Tok} {Q : Value → Shared → Prop}
theorem rshift_v (hb : 0 ≤ b) (h : ∀ v, v = a / 2 ^ b.toNat → Q (.int v s.toks) { s with toks := s.toks + 1 }) : wpAny (model prog w) A (binaryOp .RShift (.int a t) (.int b u)) Q E s :=
  rshift_int hb (h _ (Int.fdiv_eq_ediv_of_nonneg a (Int.le_of_lt (Int.pow_pos (by decide)))))
theorem rshift1_v (h : ∀ v, v = a / 2 → Q (.int v s.toks) { s with toks := s.toks + 1 }) : wpAny (model prog w) A (binaryOp .RShift (.int a t) (.int 1 u)) Q E s :=
  rshift_int (by decide) (h _ (by rw [show (2 : Int) ^ Int.toNat 1 = 2 by decide]; exact Int.fdiv_eq_ediv_of_nonneg a (by decide)))
theorem lshift_v (hb : 0 ≤ b) (hb2 : b ≤ 1000000) (ha : a.natAbs < 2 ^ 64) (h : ∀ v, v = a * 2 ^ b.toNat → Q (.int v s.toks) { s with toks := s.toks + 1 }) : wpAny (model prog w) A (binaryOp .LShift (.int a t) (.int b u)) Q E s :=
  lshift_int_small hb hb2 ha (h _ rfl)
theorem xor_v (h : ∀ v, v = Builtin.bitXor a b → Q (.int v s.toks) { s with toks := s.toks + 1 }) : wpAny (model prog w) A (binaryOp .BitXor (.int a t) (.int b u)) Q E s :=
  PyProof.Rows.xor_int (h _ rfl)
theorem fdiv_v (hb : 0 < b) (hb2 : b < 1000000000) (h : ∀ v, v = a / b → Q (.int v s.toks) { s with toks := s.toks + 1 }) : wpAny (model prog w) A (binaryOp .FloorDiv (.int a t) (.int b u)) Q E s :=
  floordiv_int (by omega) (h _ (Int.fdiv_eq_ediv_of_nonneg a (Int.le_of_lt hb))) (.inl (PyProof.noPylong_small (by omega)))
theorem mul_v (hm : -1000000000 ≤ a ∧ a ≤ 1000000000) (h : ∀ v, v = a * b → Q (.int v s.toks) { s with toks := s.toks + 1 }) : wpAny (model prog w) A (binaryOp .Mult (.int a t) (.int b u)) Q E s :=
  PyProof.Rows.mul_int (h _ rfl) (IntMulOk.of_left (PySem.intBits_le_64 (by omega) (by omega)))
theorem mul_r (hm : -1000000000 ≤ b ∧ b ≤ 1000000000) (h : ∀ v, v = a * b → Q (.int v s.toks) { s with toks := s.toks + 1 }) : wpAny (model prog w) A (binaryOp .Mult (.int a t) (.int b u)) Q E s :=
  PyProof.Rows.mul_int (h _ rfl) (IntMulOk.of_right (PySem.intBits_le_64 (by omega) (by omega)))
end
abbrev tup (vs : List Value) : Obj := { cls := .type "tuple", data := .seq vs.toArray }
def TabOk (qual : Str) (line col : Int) (news : List (Addr × Obj)) (ps : Array Value) : Prop :=
  ps = #[] ∨ ∃ c oc vs t, ps = #[rawInt line, rawInt col, .ref c] ∧ (c, oc) ∈ news ∧ oc.data = .fields vs ∧ vs[1]? = some (.str qual t)
section
variable {prog : Program} {w : World} {A : Around} {E : Value → Shared → Prop} {s : Shared} {h₀ : Heap} {L l : Addr} {news : List (Addr × Obj)} {vs : List Value} {ys : List Int} {kk : Nat}
theorem truthy_m {Q : Bool → Shared → Prop} (N : News h₀ L s.heap news) (hm : (l, listOf vs.toArray kk) ∈ news) (hi : IntsAre vs ys) (h1 : 1 ≤ ys.length) (h2 : ys.length ≤ 1000) (h : Q true { s with toks := s.toks + 1 + 1 }) : wpAny (model prog w) A (truthy (.ref l)) Q E s := by
  have e : vs.toArray.size = ys.length := by rw [List.size_toArray]; exact hi.length
  refine wpAny_truthy_list (News.isList N hm) (by omega) ?_
  have e2 : (!vs.toArray.isEmpty) = true := by
    have : vs ≠ [] := fun q => by rw [q] at e; simp at e; omega
    simp [this]
  rw [e2]; exact h
theorem len_m {Q : Value → Shared → Prop} (N : News h₀ L s.heap news) (hm : (l, listOf vs.toArray kk) ∈ news) (hi : IntsAre vs ys) (h2 : ys.length ≤ 1000) (h : Q (.int ys.length (s.toks + 1)) { s with toks := s.toks + 1 + 1 }) : wpAny (model prog w) A (call (.builtin "len") [.ref l]) Q E s := by
  have e : vs.toArray.size = ys.length := by rw [List.size_toArray]; exact hi.length
  exact PySem.Calls.call_len_list (News.isList N hm) (by omega) (by rw [e]; exact h)
end
theorem allLt_news {h₀ h : Heap} {L : Addr} {news : List (Addr × Obj)} (N : News h₀ L h news) : AllLt h.objs.size news := allLt_of fun q hq => Heap.lt_size (N q hq).1
section
variable {prog : Program} {w : World} {A : Around} {E : Value → Shared → Prop} {s : Shared} {h₀ : Heap} {L : Addr} {m : Str → Option Value} {news : List (Addr × Obj)} {Q : Value → Shared → Prop}
theorem divmod_v {a b : Int} {t u : Tok} (F : Fr h₀ L s.heap m) (N : News h₀ L s.heap news) (hb : 0 < b) (hb2 : b < 1000000000)
    (h : ∀ D h' tk t1 t2, Fr h₀ L h' m → News h₀ L h' ((D, tup [.int (a / b) t1, .int (a % b) t2]) :: news) → AllLt D news → Q (.ref D) { s with toks := tk, heap := h' }) :
    wpAny (model prog w) A (call (.builtin "divmod") [.int a t, .int b u]) Q E s := by
  refine divmod_N F N (by omega) (fun h' F' N' => ?_) (.inl (PyProof.noPylong_small (by omega)))
  rw [Int.fdiv_eq_ediv_of_nonneg a (by omega), Int.fmod_eq_emod_of_nonneg a (by omega)] at N'
  exact h _ h' _ _ _ F' N' (allLt_news N)
theorem newList_v {vs : List Value} (F : Fr h₀ L s.heap m) (N : News h₀ L s.heap news) (hz : vs.length ≤ 1000)
    (h : ∀ D h', Fr h₀ L h' m → News h₀ L h' ((D, listOf vs.toArray 0) :: news) → AllLt D news → Q (.ref D) { s with heap := h' }) : wpAny (model prog w) A (newList vs) Q E s :=
  newList_N F N (fun h' F' N' => h _ h' F' N' (allLt_news N)) (by rw [sizeLine_eq]; omega)
theorem newTuple_v {vs : List Value} (F : Fr h₀ L s.heap m) (N : News h₀ L s.heap news) (hz : vs.length ≤ 1000)
    (h : ∀ D h', Fr h₀ L h' m → News h₀ L h' ((D, tup vs) :: news) → AllLt D news → Q (.ref D) { s with heap := h' }) : wpAny (model prog w) A (newTuple vs) Q E s :=
  newTuple_N F N (fun h' F' N' => h _ h' F' N' (allLt_news N)) (by rw [sizeLine_eq]; omega)
end
theorem TabOk.mono {qual : Str} {line col : Int} {l l' : List (Addr × Obj)} {ps : Array Value} (h : TabOk qual line col l ps) (hs : ∀ q ∈ l, q ∈ l') : TabOk qual line col l' ps :=
  h.imp id fun ⟨c, oc, vs, t, a, b, d, e⟩ => ⟨c, oc, vs, t, a, hs _ b, d, e⟩
section
variable {prog : Program} {w : World} {A : Around} {E : Value → Shared → Prop} {h₀ : Heap} {env : Env} {x : Str} {body : List Stmt} {Q : Flow → Shared → Prop} {s : Shared} {I : Addr} {lp : Addr × Obj}
theorem revRest_ind (J : List Value → (Str → Option Value) → List (Addr × Obj) → Prop)
    (h0 : ∀ m news, J [] m news → ∀ h tk, Fr h₀ env.locals h m → News h₀ env.locals h news → Q .next { s with heap := h, toks := tk })
    (hs : ∀ v r m news, J (v :: r) m news → ∀ (it : Obj) h tk, it.cls = .type "list_reverseiterator" → Fr h₀ env.locals h (fun y => if y = x then some v else m y) → News h₀ env.locals h ((I, it) :: news) →
      wpAny (model prog w) A (execs body env) (UnrPost h₀ env.locals { s with heap := h, toks := tk } I it (fun m' n' => lp ∈ n' ∧ J r m' n') Q) E { s with heap := h, toks := tk }) :
    ∀ vs m news, J vs m news → RevRest prog w A E h₀ env x body Q s I lp vs m news := by
  intro vs
  induction vs with
  | nil => exact fun m news hj => RevRest.zero (h0 m news hj)
  | cons v r ih =>
    refine fun m news hj => RevRest.succ fun it h tk hc F N => ?_
    refine wpAny_mono (hs v r m news hj it h tk hc F N) (fun f s₂ hq => ?_) fun _ _ e => e
    cases f with
    | ret v => exact hq
    | brk => exact hq
    | next =>
      obtain ⟨h', tk', m', news', e, F', N', off, hl, hj'⟩ := hq
      exact ⟨h', tk', m', news', e, F', N', off, hl, ih m' news' hj'⟩
    | cont =>
      obtain ⟨h', tk', m', news', e, F', N', off, hl, hj'⟩ := hq
      exact ⟨h', tk', m', news', e, F', N', off, hl, ih m' news' hj'⟩
end
theorem offI_of_lt {I : Addr} {it : Obj} : ∀ {l : List (Addr × Obj)}, AllLt I l → OffI I it l
  | [], _ => trivial
  | _ :: _, h => ⟨.inl (Nat.ne_of_lt h.1), offI_of_lt h.2⟩
theorem canon1 {h₀ h : Heap} {L : Addr} {m : Str → Option Value} {x : Str} {v : Value} (F : Fr h₀ L h m) (hm : m x = some v) : Fr h₀ L h (fun y => if y = x then some v else m y) := by
  have e : (fun y => if y = x then some v else m y) = m := funext fun y => by
    by_cases h : y = x
    · rw [if_pos h, h, hm]
    · rw [if_neg h]
  rw [e]; exact F
section
variable {prog : Program} {w : World} {A : Around} {E : Value → Shared → Prop} {s : Shared}
theorem bits_v {Q : Value → Shared → Prop} {a : Int} {t : Tok} (h : ∀ v, v = (Builtin.Int.intBits a : Int) → Q (.int v s.toks) { s with toks := s.toks + 1 }) :
    wpAny (model prog w) A (call (.builtin "int.bit_length") [.int a t]) Q E s := call_int_bit_length (h _ rfl)
end
theorem mine_mem {q : Addr × Obj} {l : List (Addr × Obj)} (h : q ∈ l) : List.Mem q l := h
theorem drop3 {h₀ h : Heap} {L : Addr} {q1 q2 q3 : Addr × Obj} {l : List (Addr × Obj)} (N : News h₀ L h (q1 :: q2 :: q3 :: l)) : News h₀ L h (q1 :: q2 :: l) :=
  cb_drop N fun q hq => by
    simp only [List.mem_cons] at hq ⊢
    rcases hq with h | h | h <;> simp [h]
theorem drop_new {h₀ h : Heap} {L : Addr} {q1 q2 q3 q4 q5 q6 : Addr × Obj} {l : List (Addr × Obj)} (N : News h₀ L h (q1 :: q2 :: q3 :: q4 :: q5 :: q6 :: l)) : News h₀ L h (q2 :: q6 :: l) :=
  cb_drop N fun q hq => by
    simp only [List.mem_cons] at hq ⊢
    rcases hq with h | h | h <;> simp [h]
theorem drop_hit {h₀ h : Heap} {L : Addr} {q q1 q3 q4 q5 q6 : Addr × Obj} {l : List (Addr × Obj)} (N : News h₀ L h (q1 :: q3 :: q4 :: q5 :: q6 :: l)) (m : q ∈ l) : News h₀ L h (q :: q6 :: l) :=
  cb_drop N fun q' hq => by
    simp only [List.mem_cons] at hq ⊢
    rcases hq with h | h | h
    · subst h; simp [m]
    · simp [h]
    · simp [h]
theorem all_ne {b : Nat} {l : List (Addr × Obj)} (h : AllLt b l) : (∀ p ∈ l, p.1 ≠ b + 1) ∧ (∀ p ∈ l, p.1 ≠ b + 1 + 1) ∧ (∀ p ∈ l, p.1 ≠ b + 1 + 1 + 1) :=
  have k : ∀ p ∈ l, ∀ d : Nat, b < d → p.1 ≠ d := fun p hp d hd => Nat.ne_of_lt (Nat.lt_trans (ktn_ltOf h p hp) hd)
  ⟨fun p hp => k p hp _ (by omega), fun p hp => k p hp _ (by omega), fun p hp => k p hp _ (by omega)⟩
end Mine
namespace Mine
set_option maxRecDepth 100000 in
set_option maxHeartbeats 8000000 in
open_top hd for PySem.Challenge.rw_hg0003_02
end Mine
namespace Mine
local macro_rules | `(tactic| k_room) => `(tactic| ktr_room)
local macro_rules | `(tactic| k_units) => `(tactic| ktr_units)
local macro_rules | `(tactic| k_all) => `(tactic| assumption)
local macro_rules | `(tactic| k_mem) => `(tactic| (refine mine_mem ?_; with_reducible assumption))
section
variable {w : World} {p : Program} {loose : List Str} {mean : ExcName → Option Value} {mg mb : Str → Option Value} {dp un : Nat} {gd : Option (List Code)} {cn : Str} {csn : List (Str × NameKind)} {csg csc : Bool} {csm : List (Str × Const)} {a : Addr} {ccd : Value} {cl : List (Str × Addr)} {outer : List Env} {A₀ : Around} {base h₀ : Heap} {L : Addr} {m : Str → Option Value} {news : List (Addr × Obj)} {s : Shared} {Q E : Value → Shared → Prop}
set_option maxRecDepth 100000 in
set_option maxHeartbeats 8000000 in
theorem div2n1n_ok 
    {x b n : Int} {tx tb tn : Tok}
    (B : Below A₀ base outer h₀) (F : Fr h₀ L s.heap m) (X : (hd.heap_39 w.params).In h₀) (N : News h₀ L s.heap news) (T : Top p loose mean mg mb h₀)
    (hx0 : 0 ≤ x) (hx1 : x < 1000000000) (hb0 : 1 ≤ b) (hb1 : b ≤ 1000) (hn0 : 1 ≤ n)
    (hd : dp + 40 < recursionLimit) (hu : un + 400 < cLine)
    (hret : ∀ D h' tk' t1 t2, Fr h₀ L h' m → News h₀ L h' ((D, tup [.int (x / b) t1, .int (x % b) t2]) :: news) → AllLt D news → Q (.ref D) { s with heap := h', toks := tk' }) :
    wpAny (model PySem.Challenge.rw_hg0003_02.row.prog w) (ktrTop dp un gd cn ⟨.function, csn, csg, csc, csm⟩ L a ccd cl outer) (call (.ref 35) [.int x tx, .int b tb, .int n tn]) Q E s := by
  revert X; k_fill; intro X
  have hbits : Builtin.Int.intBits x ≤ 30 := bits_le hx0 (by have : (2 : Int) ^ 30 = 1073741824 := by decide
                                                             omega)
  w_top off
  k_with_none
  k_with "divmod" => k_dflt (refine' divmod_v ?F ?N ?a ?b ?_; (case F => k_asm); (case N => k_asm); (case a => omega); (case b => omega); intro D1 h1 tk1 t1 t2 F1 N1 l1)
  k_steps
  exact hret _ _ _ _ _ (by assumption) (by assumption) l1
end
end Mine
namespace Mine
local macro_rules | `(tactic| k_room) => `(tactic| ktr_room)
local macro_rules | `(tactic| k_units) => `(tactic| ktr_units)
local macro_rules | `(tactic| k_all) => `(tactic| assumption)
section
variable {w : World} {p : Program} {loose : List Str} {mean : ExcName → Option Value} {mg mb : Str → Option Value}
set_option maxRecDepth 100000 in
set_option maxHeartbeats 8000000 in
theorem inner2_ok {f c' la cA cI cN : Addr} {oc oA oI oN ofn : Obj} {vsc : Array Value} {qual nm : Str} {tq tn : Tok} {n : Int} {prm prm0 : Arguments} {body r0 : List Stmt} {sc sc0 : Scope} {doc pm ctv oc0 : Value} {od0 : Option Addr} {n0 q0 bind : Str} {tsc : Option Scope} {pos : Pos} {dV kV d0 pm0 cdv ct : Value} {an : Option Addr} {osl : Array (Option Value)} {news : List (Addr × Obj)} {vs : List Value} {ys : List Int} {hb : Heap} {kk : Nat}
    (h56 : (hd.heap_39 w.params).lookup 56 = some ⟨oc0, od0, .func (fnOf n0 q0 prm0 (.FunctionDef nm prm body [] none [] sc tsc bind pos :: r0) sc0 dV kV d0 pm0 an cdv ct), osl⟩)
    (hofn : ofn = fnMade nm qual prm body sc [(Str.ofString "n", cN), (Str.ofString "inner", cI), (Str.ofString "digits", cA)] doc pm c' ctv)
    (mf : (f, ofn) ∈ news) (mc : (c', oc) ∈ news) (mA : (cA, oA) ∈ news) (mI : (cI, oI) ∈ news) (mN : (cN, oN) ∈ news) (ml : (la, listOf vs.toArray kk) ∈ news)
    (dA : oA.data = .cell (some (.ref la))) (dI : oI.data = .cell (some (.ref f))) (dN : oN.data = .cell (some (.int n tn)))
    (dc : oc.data = .fields vsc) (dq : vsc[1]? = some (.str qual tq)) (hn0 : 1 ≤ n) (hn1 : n ≤ 64) (C0 : CodeHd hb 55 51)
    (hi1 : IntsAre vs ys) (hlen : ys.length ≤ 1000) (hdig : ∀ d ∈ ys, 0 ≤ d) :
    ∀ (k : Nat) {dp un : Nat} {gd : Option (List Code)} {cn : Str} {csn : List (Str × NameKind)} {csg csc : Bool} {csm : List (Str × Const)} {a : Addr} {ccd : Value} {cl : List (Str × Addr)} {outer : List Env} {A₀ : Around} {base h₀ : Heap} {L : Addr} {m : Str → Option Value} {s : Shared} {Q E : Value → Shared → Prop}
      {lo hi : Int} {tl th : Tok},
      Below A₀ base outer h₀ → Fr h₀ L s.heap m → (hd.heap_39 w.params).In h₀ → News h₀ L s.heap news → Top p loose mean mg mb h₀ →
      0 ≤ lo → lo < hi → hi ≤ ys.length → hi - lo ≤ k → undigs (2 ^ n.toNat) (cut ys lo hi) ≤ 1000000 →
      dp + k + 10 < recursionLimit → un + 8 * k + 80 < cLine →
      (∀ t h' tk', Fr h₀ L h' m → News h₀ L h' news → Q (.int (undigs (2 ^ n.toNat) (cut ys lo hi)) t) { s with heap := h', toks := tk' }) →
      wpAny (model PySem.Challenge.rw_hg0003_02.row.prog w) (ktrTop dp un gd cn ⟨.function, csn, csg, csc, csm⟩ L a ccd cl outer) (call (.ref f) [.int lo tl, .int hi th]) Q E s := by
  k_fill
  have e56 := h56.symm.trans (show (hd.heap_39 w.params).lookup 56 = some _ by k_is)
  cases e56
  intro k
  induction k with
  | zero => intros; omega
  | succ k ih =>
    intro dp un gd cn csn csg csc csm a ccd cl outer A₀ base h₀ L m s Q E lo hi tl th B F X N T hlo hlt hhi hk hv hd hu hret
    subst hofn
    w_top off
    k_with_none
    k_with "rsh" => k_dflt (with_reducible refine rshift1_v ?_; intro mid hmid; have hm1 : lo < mid := (by omega); have hm2 : mid < hi := (by omega))
    k_with "mul" => k_dflt (with_reducible refine mul_v ?hb ?_; (case hb => omega); intro shift hshift; have hbx := mul_box (a := mid - lo) (b := n) (A := 1000) (B := 64) (by omega) (by omega) (by omega) hn1; rw [← hshift] at hbx; have hsh : 0 ≤ shift := hbx.1; have hvs := val_split hn0 hlo hm1 hm2 hhi hdig hshift)
    k_with "lsh" => k_dflt (with_reducible refine lshift_v ?hb ?hc ?hd ?_; (case hb => exact hsh); (case hc => omega); (case hd => omega); intro up hup2)
    k_with "callr" => (have hl0 := hvs; first
      | (have hl1 := hup2; refine' ih (lo := lo) (hi := mid) ?k1 ?k2 ?k3 ?k4 ?k5 hlo hm1 ?k6 ?k7 ?k8 ?k9 ?k10 ?_; (case k1 => k_asm); (case k2 => k_asm); (case k3 => k_asm); (case k4 => k_asm); (case k5 => k_asm); (case k6 => omega); (case k7 => omega); (case k8 => omega); (case k9 => (try dsimp only [Around.deeper]); omega); (case k10 => (try dsimp only [Around.deeper]); omega); intro t3 h3 tk3 F3 N3; (try dsimp only))
      | (refine' ih (lo := mid) (hi := hi) ?k1 ?k2 ?k3 ?k4 ?k5 ?k11 hm2 ?k6 ?k7 ?k8 ?k9 ?k10 ?_; (case k1 => k_asm); (case k2 => k_asm); (case k3 => k_asm); (case k4 => k_asm); (case k5 => k_asm); (case k11 => omega); (case k6 => omega); (case k7 => omega); (case k8 => omega); (case k9 => (try dsimp only [Around.deeper]); omega); (case k10 => (try dsimp only [Around.deeper]); omega); intro t2 h2 tk2 F2 N2; (try dsimp only)))
    k_steps
    all_goals (first
      | (have e2 := hvs.2.2.2.2; rw [← hup2] at e2; rw [e2]; exact hret _ _ _ (by assumption) (by assumption))
      | (have e1 : ys.getD lo.toNat 0 = undigs (2 ^ n.toNat) (cut ys lo hi) := (by rw [cut_one hlo (by assumption) hhi]; simp [undigs]); rw [e1]; exact hret _ _ _ (by assumption) (by assumption)))
end
end Mine
namespace Mine
local macro_rules | `(tactic| k_room) => `(tactic| ktr_room)
local macro_rules | `(tactic| k_units) => `(tactic| ktr_units)
local macro_rules | `(tactic| k_all) => `(tactic| assumption)
section
variable {w : World} {p : Program} {loose : List Str} {mean : ExcName → Option Value} {mg mb : Str → Option Value}
set_option maxRecDepth 100000 in
set_option maxHeartbeats 8000000 in
theorem inner1_ok {f c' la cA cI cN : Addr} {oc oA oI oN ofn : Obj} {vsc : Array Value} {qual nm : Str} {tq tn : Tok} {n : Int} {prm prm0 : Arguments} {body r0 : List Stmt} {s0 : Stmt} {sc sc0 : Scope} {doc pm ctv oc0 : Value} {od0 : Option Addr} {n0 q0 bind : Str} {tsc : Option Scope} {pos : Pos} {dV kV d0 pm0 cdv ct : Value} {an : Option Addr} {osl : Array (Option Value)} {rest : List (Addr × Obj)}
    (h49 : (hd.heap_39 w.params).lookup 49 = some ⟨oc0, od0, .func (fnOf n0 q0 prm0 (s0 :: .FunctionDef nm prm body [] none [] sc tsc bind pos :: r0) sc0 dV kV d0 pm0 an cdv ct), osl⟩)
    (hofn : ofn = fnMade nm qual prm body sc [(Str.ofString "n", cN), (Str.ofString "inner", cI), (Str.ofString "a_digits", cA)] doc pm c' ctv)
    (dA : oA.data = .cell (some (.ref la))) (dI : oI.data = .cell (some (.ref f))) (dN : oN.data = .cell (some (.int n tn)))
    (dc : oc.data = .fields vsc) (dq : vsc[1]? = some (.str qual tq)) (hn0 : 1 ≤ n) (hn1 : n ≤ 64)
    (la1 : @Ne Nat la f) (la2 : @Ne Nat la c') (la3 : @Ne Nat la cA) (la4 : @Ne Nat la cI) (la5 : @Ne Nat la cN) (la6 : ∀ q ∈ rest, q.1 ≠ la) {hb : Heap} (C0 : CodeHd hb 48 44) :
    ∀ (k : Nat) {dp un : Nat} {gd : Option (List Code)} {cn : Str} {csn : List (Str × NameKind)} {csg csc : Bool} {csm : List (Str × Const)} {a : Addr} {ccd : Value} {cl : List (Str × Addr)} {outer : List Env} {A₀ : Around} {base h₀ : Heap} {L : Addr} {m : Str → Option Value} {s : Shared} {Q E : Value → Shared → Prop}
      {x lo hi : Int} {tx tl th : Tok} {vs : List Value} {ys : List Int},
      Below A₀ base outer h₀ → Fr h₀ L s.heap m → (hd.heap_39 w.params).In h₀ → News h₀ L s.heap ((la, listOf vs.toArray 0) :: (f, ofn) :: (c', oc) :: (cA, oA) :: (cI, oI) :: (cN, oN) :: rest) → Top p loose mean mg mb h₀ →
      IntsAre vs ys → 0 ≤ lo → lo < hi → hi ≤ ys.length → ys.length ≤ 1000 → hi - lo ≤ k → 0 ≤ x → x < (2 ^ n.toNat) ^ (hi - lo).toNat → x < 1000000 →
      dp + k + 10 < recursionLimit → un + 8 * k + 80 < cLine →
      (∀ vs' h' tk', Fr h₀ L h' m → News h₀ L h' ((la, listOf vs'.toArray 0) :: (f, ofn) :: (c', oc) :: (cA, oA) :: (cI, oI) :: (cN, oN) :: rest) → IntsAre vs' (ys.take lo.toNat ++ digs x (2 ^ n.toNat) (hi - lo).toNat ++ ys.drop hi.toNat) → Q .none { s with heap := h', toks := tk' }) →
      wpAny (model PySem.Challenge.rw_hg0003_02.row.prog w) (ktrTop dp un gd cn ⟨.function, csn, csg, csc, csm⟩ L a ccd cl outer) (call (.ref f) [.int x tx, .int lo tl, .int hi th]) Q E s := by
  k_fill
  have e49 := h49.symm.trans (show (hd.heap_39 w.params).lookup 49 = some _ by k_is)
  cases e49
  intro k
  induction k with
  | zero => intros; omega
  | succ k ih =>
    intro dp un gd cn csn csg csc csm a ccd cl outer A₀ base h₀ L m s Q E x lo hi tx tl th vs ys B F X N T hi1 hlo hlt hhi hlen hk hx0 hx1 hx2 hd hu hret
    subst hofn
    w_top off
    k_with_none
    k_with "rsh" => k_dflt (first | (with_reducible refine rshift1_v ?_; intro mid hmid; have hm1 : lo < mid := (by omega); have hm2 : mid < hi := (by omega)) | (with_reducible refine rshift_v ?hb ?_; (case hb => exact hsh); intro upper hupper; have hup := div_box shift.toNat hx0; rw [← hupper] at hup))
    k_with "mul" => k_dflt (with_reducible refine mul_v ?hb ?_; (case hb => omega); intro shift hshift; have hbx := mul_box (a := mid - lo) (b := n) (A := 1000) (B := 64) (by omega) (by omega) (by omega) hn1; rw [← hshift] at hbx; have hsh : 0 ≤ shift := hbx.1)
    k_with "lsh" => k_dflt (with_reducible refine lshift_v ?hb ?hc ?hd ?_; (case hb => exact hsh); (case hc => omega); (case hd => omega); intro up hup2)
    k_with "xor" => k_dflt (with_reducible refine xor_v ?_; intro lower hlower; rw [hup2] at hlower; obtain ⟨g1, g2, g3, g4, g5, g6, g7⟩ := split_facts hn0 hm1 hm2 hx0 hx1 hshift hupper hlower)
    k_with "callr" => (have hl0 := hlower; first
      | (refine' ih (x := upper) (lo := mid) (hi := hi) (vs := vs2) (ys := ys.take lo.toNat ++ digs lower (2 ^ n.toNat) (mid - lo).toNat ++ ys.drop mid.toNat) ?k1 ?k2 ?k3 ?k4 ?k5 hI2 (by omega) hm2 ?k6 ?k11 ?k7 g4 g5 ?k8 ?k9 ?k10 ?_; (case k1 => k_asm); (case k2 => k_asm); (case k3 => k_asm); (case k4 => k_asm); (case k5 => k_asm); (case k6 => omega); (case k11 => omega); (case k7 => omega); (case k8 => omega); (case k9 => (try dsimp only [Around.deeper]); omega); (case k10 => (try dsimp only [Around.deeper]); omega); intro vs3 h3 tk3 F3 N3 hI3; rw [patch2 (by omega) (by omega) (by omega) (by rw [digs_length]; omega), ← g7] at hI3; (try dsimp only))
      | (refine' ih (x := lower) (lo := lo) (hi := mid) (vs := vs) (ys := ys) ?k1 ?k2 ?k3 ?k4 ?k5 hi1 hlo hm1 ?k6 hlen ?k7 g1 g2 ?k8 ?k9 ?k10 ?_; (case k1 => k_asm); (case k2 => k_asm); (case k3 => k_asm); (case k4 => k_asm); (case k5 => k_asm); (case k6 => omega); (case k7 => omega); (case k8 => omega); (case k9 => (try dsimp only [Around.deeper]); omega); (case k10 => (try dsimp only [Around.deeper]); omega); intro vs2 h2 tk2 F2 N2 hI2; have hlen2 : (ys.take lo.toNat ++ digs lower (2 ^ n.toNat) (mid - lo).toNat ++ ys.drop mid.toNat).length = ys.length := (by simp only [List.length_append, List.length_take, List.length_drop, digs_length]; omega); (try dsimp only)))
    k_steps
    all_goals (first
      | exact hret vs3 _ _ (by assumption) (by assumption) hI3
      | (refine hret _ _ _ (by assumption) (by assumption) ?_; rw [leaf_list (by assumption) hlo hhi hx0 hx1]; assumption))
end
end Mine
namespace Mine
local macro_rules | `(tactic| k_room) => `(tactic| ktr_room)
local macro_rules | `(tactic| k_units) => `(tactic| ktr_units)
local macro_rules | `(tactic| k_all) => `(tactic| assumption)
section
variable {w : World} {p : Program} {loose : List Str} {mean : ExcName → Option Value} {mg mb : Str → Option Value} {dp un : Nat} {gd : Option (List Code)} {cn : Str} {csn : List (Str × NameKind)} {csg csc : Bool} {csm : List (Str × Const)} {a : Addr} {ccd : Value} {cl : List (Str × Addr)} {outer : List Env} {A₀ : Around} {base h₀ : Heap} {L : Addr} {m : Str → Option Value} {news : List (Addr × Obj)} {s : Shared} {Q E : Value → Shared → Prop}
theorem sub_of {P : Addr × Obj → Prop} {l : List (Addr × Obj)} {q : Addr × Obj} (h1 : P q) (h2 : ∀ x ∈ l, P x) : ∀ x ∈ q :: l, P x := List.forall_mem_cons.mpr ⟨h1, h2⟩
variable {f c' la cA cI cN l' : Addr} {oc oA oI oN ol ofn tab : Obj} {vsc : Array Value} {qual nm : Str} {tq tn : Tok} {n : Int} {prm prm0 : Arguments} {body r0 : List Stmt} {s0 : Stmt} {sc sc0 : Scope} {doc pm ctv oc0 : Value} {od0 : Option Addr} {n0 q0 bind : Str} {tsc : Option Scope} {pos : Pos} {dV kV d0 pm0 cdv ct : Value} {an : Option Addr} {osl : Array (Option Value)} {hb : Heap}
  {x D : Int} {n1 : Nat} {tx tl th : Tok} {vs : List Value} {ys : List Int}
theorem inner1_new
    (h49 : (hd.heap_39 w.params).lookup 49 = some ⟨oc0, od0, .func (fnOf n0 q0 prm0 (s0 :: .FunctionDef nm prm body [] none [] sc tsc bind pos :: r0) sc0 dV kV d0 pm0 an cdv ct), osl⟩)
    (B : Below A₀ base outer h₀) (F : Fr h₀ L s.heap m) (X : (hd.heap_39 w.params).In h₀) (T : Top p loose mean mg mb h₀)
    (N : News h₀ L s.heap ((f, fnMade nm qual prm body sc [(Str.ofString "n", cN), (Str.ofString "inner", cI), (Str.ofString "a_digits", cA)] doc pm c' ctv) :: (c', oc) :: (la, listOf vs.toArray 0) :: (l', ol) :: (cI, oI) :: (cA, oA) :: (cN, oN) :: (44, tab) :: news))
    (l1 : @LT.lt Nat _ l' la ∧ @LT.lt Nat _ cI la ∧ @LT.lt Nat _ cA la ∧ @LT.lt Nat _ cN la ∧ @LT.lt Nat _ 44 la ∧ AllLt la news)
    (l2 : @LT.lt Nat _ la c' ∧ @LT.lt Nat _ l' c' ∧ @LT.lt Nat _ cI c' ∧ @LT.lt Nat _ cA c' ∧ @LT.lt Nat _ cN c' ∧ @LT.lt Nat _ 44 c' ∧ AllLt c' news) (l3 : @LT.lt Nat _ c' f)
    (dA : oA.data = .cell (some (.ref la))) (dI : oI.data = .cell (some (.ref f))) (dN : oN.data = .cell (some (.int n tn)))
    (dc : oc.data = .fields vsc) (dq : vsc[1]? = some (.str qual tq)) (hn0 : 1 ≤ n) (hn1 : n ≤ 64) (C0 : CodeHd hb 48 44)
    (hi : IntsAre vs ys) (e1 : ys.length = n1) (hD1 : 1 ≤ D) (hD2 : D ≤ 10) (hD3 : x < (2 ^ n.toNat) ^ D.toNat) (e3 : 0 ≤ D → (n1 : Int) = ((0 + 1 : Nat) : Int) * D) (hx0 : 1 ≤ x) (hx1 : x ≤ 1000)
    (hd : dp + 30 < recursionLimit) (hu : un + 300 < cLine)
    (hret : ∀ vs' h' tk', Fr h₀ L h' m → News h₀ L h' ((la, listOf vs'.toArray 0) :: (c', oc) :: (cA, oA) :: (44, tab) :: news) → IntsAre vs' (digs x (2 ^ n.toNat) D.toNat) → Q .none { s with heap := h', toks := tk' }) :
    wpAny (model PySem.Challenge.rw_hg0003_02.row.prog w) (ktrTop dp un gd cn ⟨.function, csn, csg, csc, csm⟩ L a ccd cl outer) (call (.ref f) [.int x tx, .int 0 tl, .int n1 th]) Q E s := by
  have e4 : (n1 : Int) = D := by have := e3 (by omega); omega
  refine inner1_ok (doc := doc) (pm := pm) (ctv := ctv) (f := f) (la := la) (cA := cA) (cI := cI) (cN := cN) (oA := oA) (oI := oI) (oN := oN) (oc := oc) (c' := c') (vs := vs) (rest := (44, tab) :: news) (mean := mean) (loose := loose) (p := p) (mg := mg) (mb := mb) h49 rfl dA dI dN dc dq hn0 hn1 (by omega) (by omega) (by omega) (by omega) (by omega) ?_ C0 10 B F X
    (cb_drop N ?_) T hi (by omega) (by omega) (by omega) (by omega) (by omega) (by omega) (by rw [e4]; simpa using hD3) (by omega) (by omega) (by omega) ?_
  · exact sub_of (show @Ne Nat 44 la by omega) fun q hq => Nat.ne_of_lt (ktn_ltOf l1.2.2.2.2.2 q hq)
  · intro q hq
    simp only [List.mem_cons] at hq ⊢
    rcases hq with h | h | h | h | h | h | h | h <;> simp [h]
  · intro vs' h' tk' F' N' hi'
    refine hret vs' h' tk' F' (cb_drop N' ?_) ?_
    · intro q hq
      simp only [List.mem_cons] at hq ⊢
      rcases hq with h | h | h | h | h <;> simp [h]
    · have e5 : (n1 : Int).toNat = ys.length := by omega
      rw [e5, List.drop_length] at hi'
      simpa [e4] using hi'
theorem inner1_hit
    (h49 : (hd.heap_39 w.params).lookup 49 = some ⟨oc0, od0, .func (fnOf n0 q0 prm0 (s0 :: .FunctionDef nm prm body [] none [] sc tsc bind pos :: r0) sc0 dV kV d0 pm0 an cdv ct), osl⟩)
    (B : Below A₀ base outer h₀) (F : Fr h₀ L s.heap m) (X : (hd.heap_39 w.params).In h₀) (T : Top p loose mean mg mb h₀)
    (N : News h₀ L s.heap ((f, fnMade nm qual prm body sc [(Str.ofString "n", cN), (Str.ofString "inner", cI), (Str.ofString "a_digits", cA)] doc pm c' ctv) :: (la, listOf vs.toArray 0) :: (l', ol) :: (cI, oI) :: (cA, oA) :: (cN, oN) :: (44, tab) :: news))
    (l1 : @LT.lt Nat _ l' la ∧ @LT.lt Nat _ cI la ∧ @LT.lt Nat _ cA la ∧ @LT.lt Nat _ cN la ∧ @LT.lt Nat _ 44 la ∧ AllLt la news)
    (l2 : @LT.lt Nat _ la f ∧ @LT.lt Nat _ l' f ∧ @LT.lt Nat _ cI f ∧ @LT.lt Nat _ cA f ∧ @LT.lt Nat _ cN f ∧ @LT.lt Nat _ 44 f ∧ AllLt f news) (mc : (c', oc) ∈ news)
    (dA : oA.data = .cell (some (.ref la))) (dI : oI.data = .cell (some (.ref f))) (dN : oN.data = .cell (some (.int n tn)))
    (dc : oc.data = .fields vsc) (dq : vsc[1]? = some (.str qual tq)) (hn0 : 1 ≤ n) (hn1 : n ≤ 64) (C0 : CodeHd hb 48 44)
    (hi : IntsAre vs ys) (e1 : ys.length = n1) (hD1 : 1 ≤ D) (hD2 : D ≤ 10) (hD3 : x < (2 ^ n.toNat) ^ D.toNat) (e3 : 0 ≤ D → (n1 : Int) = ((0 + 1 : Nat) : Int) * D) (hx0 : 1 ≤ x) (hx1 : x ≤ 1000)
    (hd : dp + 30 < recursionLimit) (hu : un + 300 < cLine)
    (hret : ∀ vs' h' tk', Fr h₀ L h' m → News h₀ L h' ((la, listOf vs'.toArray 0) :: (c', oc) :: (cA, oA) :: (44, tab) :: news) → IntsAre vs' (digs x (2 ^ n.toNat) D.toNat) → Q .none { s with heap := h', toks := tk' }) :
    wpAny (model PySem.Challenge.rw_hg0003_02.row.prog w) (ktrTop dp un gd cn ⟨.function, csn, csg, csc, csm⟩ L a ccd cl outer) (call (.ref f) [.int x tx, .int 0 tl, .int n1 th]) Q E s := by
  have e4 : (n1 : Int) = D := by have := e3 (by omega); omega
  have hc : @LT.lt Nat _ c' la := ktn_ltOf l1.2.2.2.2.2 _ mc
  refine inner1_ok (doc := doc) (pm := pm) (ctv := ctv) (f := f) (la := la) (cA := cA) (cI := cI) (cN := cN) (oA := oA) (oI := oI) (oN := oN) (oc := oc) (c' := c') (vs := vs) (rest := (44, tab) :: news) (mean := mean) (loose := loose) (p := p) (mg := mg) (mb := mb) h49 rfl dA dI dN dc dq hn0 hn1 (by omega) (by omega) (by omega) (by omega) (by omega) ?_ C0 10 B F X
    (cb_drop N ?_) T hi (by omega) (by omega) (by omega) (by omega) (by omega) (by omega) (by rw [e4]; simpa using hD3) (by omega) (by omega) (by omega) ?_
  · exact sub_of (show @Ne Nat 44 la by omega) fun q hq => Nat.ne_of_lt (ktn_ltOf l1.2.2.2.2.2 q hq)
  · intro q hq
    simp only [List.mem_cons] at hq ⊢
    rcases hq with h | h | h | h | h | h | h | h
    all_goals first | (simp [h]; done) | (subst h; simp [mc])
  · intro vs' h' tk' F' N' hi'
    refine hret vs' h' tk' F' (cb_drop N' ?_) ?_
    · intro q hq
      simp only [List.mem_cons] at hq ⊢
      rcases hq with h | h | h | h | h <;> simp [h]
    · have e5 : (n1 : Int).toNat = ys.length := by omega
      rw [e5, List.drop_length] at hi'
      simpa [e4] using hi'
end
end Mine
namespace Mine
local macro_rules | `(tactic| k_room) => `(tactic| ktr_room)
local macro_rules | `(tactic| k_units) => `(tactic| ktr_units)
local macro_rules | `(tactic| k_all) => `(tactic| assumption)
section
variable {w : World} {p : Program} {loose : List Str} {mean : ExcName → Option Value} {mg mb : Str → Option Value} {dp un : Nat} {gd : Option (List Code)} {cn : Str} {csn : List (Str × NameKind)} {csg csc : Bool} {csm : List (Str × Const)} {a : Addr} {ccd : Value} {cl : List (Str × Addr)} {outer : List Env} {A₀ : Around} {base h₀ : Heap} {L : Addr} {m : Str → Option Value} {news : List (Addr × Obj)} {s : Shared} {Q E : Value → Shared → Prop}
set_option maxRecDepth 100000 in
set_option maxHeartbeats 8000000 in
theorem int2digits_ok 
    {x n DD : Int} {tx tn : Tok} {ps : Array Value} {ok : List (Addr × Obj)}
    (B : Below A₀ base outer h₀) (F : Fr h₀ L s.heap m) (X : (hd.heap_39 w.params).In h₀) (N : News h₀ L s.heap ((44, tabObj ps) :: news)) (T : Top p loose mean mg mb h₀)
    (C : CodeHd base 48 44)
    (hx0 : 1 ≤ x) (hx1 : x ≤ 1000) (hn0 : 1 ≤ n) (hn1 : n ≤ 64) (ha : ∀ q ∈ news, q.1 ≠ 44) (hps : TabOk (Str.ofString "_int2digits.<locals>.inner") 50 4 ok ps) (hok : ∀ q ∈ ok, q ∈ news)
    (hDD : DD = ((Builtin.Int.intBits x : Int) + n - 1) / n)
    (hd : dp + 40 < recursionLimit) (hu : un + 400 < cLine)
    (hret : ∀ D h' tk' vs' c oc vsc t ps', Fr h₀ L h' m → News h₀ L h' ((D, listOf vs'.toArray 0) :: (c, oc) :: (44, tabObj ps') :: news) → IntsAre vs' (digs x (2 ^ n.toNat) DD.toNat) →
      ps' = #[rawInt 50, rawInt 4, .ref c] → oc.data = .fields vsc → vsc[1]? = some (.str (Str.ofString "_int2digits.<locals>.inner") t) → ((c, oc) ∈ ok ∨ AllLt c ((44, tabObj #[]) :: news)) → @LT.lt Nat _ 44 D → AllLt D news → Q (.ref D) { s with heap := h', toks := tk' }) :
    wpAny (model PySem.Challenge.rw_hg0003_02.row.prog w) (ktrTop dp un gd cn ⟨.function, csn, csg, csc, csm⟩ L a ccd cl outer) (call (.ref 49) [.int x tx, .int n tn]) Q E s := by
  revert X; k_fill; intro X
  obtain ⟨hD1, hD2, hD3⟩ := D_facts hx0 hx1 hn0 hDD
  rcases hps with rfl | ⟨c, oc, vs, t, rfl, mc, hoc, hv⟩
  · skip
    w_top off
    k_with_none
    k_with "fdiv" => k_dflt (with_reducible refine fdiv_v ?hb ?hc ?_; (case hb => omega); (case hc => omega); intro D hD; obtain rfl : D = DD := hD.trans hDD.symm; have hD0 := hD1)
    k_with "callr" => (have g := hD0; clear g; k_dflt (refine' inner1_new ?h49 ?k1 ?k2 ?k3 ?k5 ?kN ?l1 ?l2 ?l3 ?dA ?dI ?dN ?dc ?dq hn0 hn1 C ?hi ?e1 hD1 hD2 hD3 ?e3 hx0 hx1 ?ld ?lu ?_; (case h49 => k_is); (case k1 => k_asm); (case k2 => k_asm); (case k3 => k_asm); (case k5 => k_asm); (case kN => k_asm); (case l1 => k_asm); (case l2 => k_asm); (case l3 => k_asm); (case dA => k_asm); (case dI => k_asm); (case dN => k_asm); (case dc => k_asm); (case dq => k_asm); (case hi => k_asm); (case e1 => k_asm); (case e3 => k_asm); (case ld => (try dsimp only [Around.deeper]); omega); (case lu => (try dsimp only [Around.deeper]); omega); intro vs2 h2 tk2 F2 N2 hI2; (try dsimp only)))
    walk1
    rename (44 < _ ∧ AllLt _ news) => l0
    obtain ⟨q1, q2, q3⟩ := all_ne l0.2
    k_with "execs nil" => (exfalso; omega)
    k_steps
    exact hret _ _ _ vs2 _ _ _ _ _ (by assumption) (drop3 (by assumption)) hI2 rfl (by assumption) (by assumption) (.inr ⟨by omega, (by assumption : _ ∧ _ ∧ _ ∧ _ ∧ _ ∧ _ ∧ AllLt _ news).2.2.2.2.2.2⟩) (by omega) (by assumption : _ ∧ _ ∧ _ ∧ _ ∧ _ ∧ AllLt _ news).2.2.2.2.2
  · skip
    w_top off
    k_with_none
    k_with "fdiv" => k_dflt (with_reducible refine fdiv_v ?hb ?hc ?_; (case hb => omega); (case hc => omega); intro D hD; obtain rfl : D = DD := hD.trans hDD.symm; have hD0 := hD1)
    k_with "callr" => (have g := hD0; clear g; k_dflt (refine' inner1_hit ?h49 ?k1 ?k2 ?k3 ?k5 ?kN ?l1 ?l2 (hok _ mc) ?dA ?dI ?dN ?dc ?dq hn0 hn1 C ?hi ?e1 hD1 hD2 hD3 ?e3 hx0 hx1 ?ld ?lu ?_; (case h49 => k_is); (case k1 => k_asm); (case k2 => k_asm); (case k3 => k_asm); (case k5 => k_asm); (case kN => k_asm); (case l1 => k_asm); (case l2 => k_asm); (case dA => k_asm); (case dI => k_asm); (case dN => k_asm); (case dc => k_asm); (case dq => k_asm); (case hi => k_asm); (case e1 => k_asm); (case e3 => k_asm); (case ld => (try dsimp only [Around.deeper]); omega); (case lu => (try dsimp only [Around.deeper]); omega); intro vs2 h2 tk2 F2 N2 hI2; (try dsimp only)))
    walk1
    rename (44 < _ ∧ AllLt _ news) => l0
    obtain ⟨q1, q2, q3⟩ := all_ne l0.2
    k_with "execs nil" => (exfalso; omega)
    k_steps
    exact hret _ _ _ vs2 _ _ _ _ _ (by assumption) (drop3 (by assumption)) hI2 rfl (by assumption) (by assumption) (.inl mc) (by omega) (by assumption : _ ∧ _ ∧ _ ∧ _ ∧ _ ∧ AllLt _ news).2.2.2.2.2
end
end Mine
namespace Mine
local macro_rules | `(tactic| k_room) => `(tactic| ktr_room)
local macro_rules | `(tactic| k_units) => `(tactic| ktr_units)
local macro_rules | `(tactic| k_all) => `(tactic| assumption)
local macro_rules | `(tactic| k_mem) => `(tactic| (refine mine_mem ?_; with_reducible assumption))
section
variable {w : World} {p : Program} {loose : List Str} {mean : ExcName → Option Value} {mg mb : Str → Option Value} {dp un : Nat} {gd : Option (List Code)} {cn : Str} {csn : List (Str × NameKind)} {csg csc : Bool} {csm : List (Str × Const)} {a : Addr} {ccd : Value} {cl : List (Str × Addr)} {outer : List Env} {A₀ : Around} {base h₀ : Heap} {L : Addr} {m : Str → Option Value} {news : List (Addr × Obj)} {s : Shared} {Q E : Value → Shared → Prop}
set_option maxRecDepth 100000 in
set_option maxHeartbeats 8000000 in
theorem digits2int_ok 
    {n : Int} {tn : Tok} {ps : Array Value} {ok : List (Addr × Obj)} {ld : Addr} {vs : List Value} {ys : List Int} {kk : Nat}
    (B : Below A₀ base outer h₀) (F : Fr h₀ L s.heap m) (X : (hd.heap_39 w.params).In h₀) (N : News h₀ L s.heap ((51, tabObj ps) :: news)) (T : Top p loose mean mg mb h₀)
    (C : CodeHd base 55 51) (ml : (ld, listOf vs.toArray kk) ∈ news) (hi1 : IntsAre vs ys) (hlen0 : 1 ≤ ys.length) (hlen : ys.length ≤ 10) (hdig : ∀ d ∈ ys, 0 ≤ d) (hval : undigs (2 ^ n.toNat) ys ≤ 1000000)
    (hn0 : 1 ≤ n) (hn1 : n ≤ 64) (ha : ∀ q ∈ news, q.1 ≠ 51) (hps : TabOk (Str.ofString "_digits2int.<locals>.inner") 65 4 ok ps) (hok : ∀ q ∈ ok, q ∈ news)
    (hd : dp + 40 < recursionLimit) (hu : un + 400 < cLine)
    (hret : ∀ h' tk' c oc vsc t t' ps', Fr h₀ L h' m → News h₀ L h' ((c, oc) :: (51, tabObj ps') :: news) →
      ps' = #[rawInt 65, rawInt 4, .ref c] → oc.data = .fields vsc → vsc[1]? = some (.str (Str.ofString "_digits2int.<locals>.inner") t) → ((c, oc) ∈ ok ∨ AllLt c ((51, tabObj #[]) :: news)) → Q (.int (undigs (2 ^ n.toNat) ys) t') { s with heap := h', toks := tk' }) :
    wpAny (model PySem.Challenge.rw_hg0003_02.row.prog w) (ktrTop dp un gd cn ⟨.function, csn, csg, csc, csm⟩ L a ccd cl outer) (call (.ref 56) [.ref ld, .int n tn]) Q E s := by
  revert X; k_fill; intro X
  rcases hps with rfl | ⟨c, oc, vsc, t, rfl, mc, hoc, hv⟩
  · skip
    w_top off
    k_with_none
    k_with "truthy" => k_dflt (refine' truthy_m (vs := vs) ?N ?m hi1 hlen0 ?h ?_; (case N => k_asm); (case m => k_mem); (case h => omega))
    k_with "len" => k_dflt (refine' len_m (vs := vs) ?N ?m hi1 ?h ?_; (case N => k_asm); (case m => k_mem); (case h => omega))
    k_with "callr" => (have g := l0; clear g; k_dflt (refine' inner2_ok ?h56 rfl ?mf ?mc ?mA ?mI ?mN (la := ld) (vs := vs) ?ml ?dA ?dI ?dN ?dc ?dq hn0 hn1 C hi1 ?hl hdig 10 ?k1 ?k2 ?k3 ?k4 ?k5 ?c1 ?c2 ?c3 ?c4 ?c5 ?ld ?lu ?_; (case h56 => k_is); (case k1 => k_asm); (case k2 => k_asm); (case k3 => k_asm); (case k4 => k_asm); (case k5 => k_asm); (case mf => k_mem); (case mc => k_mem); (case mA => k_mem); (case mI => k_mem); (case mN => k_mem); (case ml => k_mem); (case dA => k_asm); (case dI => k_asm); (case dN => k_asm); (case dc => k_asm); (case dq => k_asm); (case hl => omega); (case c1 => omega); (case c2 => omega); (case c3 => omega); (case c4 => omega); (case c5 => (rw [cut_all rfl]; exact hval)); (case ld => (try dsimp only [Around.deeper]); omega); (case lu => (try dsimp only [Around.deeper]); omega); intro t2 h2 tk2 F2 N2; rw [cut_all rfl]; (try dsimp only)))
    walk1
    rename (51 < _ ∧ AllLt _ news) => l0
    obtain ⟨q1, q2, q3⟩ := all_ne l0.2
    k_steps
    exact hret _ _ _ _ _ _ _ _ (by assumption) (drop_new (by assumption)) rfl (by assumption) (by assumption) (.inr ⟨by omega, (by assumption : _ ∧ _ ∧ _ ∧ _ ∧ AllLt _ news).2.2.2.2⟩)
  · skip
    w_top off
    k_with_none
    k_with "truthy" => k_dflt (refine' truthy_m (vs := vs) ?N ?m hi1 hlen0 ?h ?_; (case N => k_asm); (case m => k_mem); (case h => omega))
    k_with "len" => k_dflt (refine' len_m (vs := vs) ?N ?m hi1 ?h ?_; (case N => k_asm); (case m => k_mem); (case h => omega))
    k_with "callr" => (have g := l0; clear g; k_dflt (refine' inner2_ok ?h56 rfl ?mf ?mc ?mA ?mI ?mN (la := ld) (vs := vs) ?ml ?dA ?dI ?dN ?dc ?dq hn0 hn1 C hi1 ?hl hdig 10 ?k1 ?k2 ?k3 ?k4 ?k5 ?c1 ?c2 ?c3 ?c4 ?c5 ?ld ?lu ?_; (case h56 => k_is); (case k1 => k_asm); (case k2 => k_asm); (case k3 => k_asm); (case k4 => k_asm); (case k5 => k_asm); (case mf => k_mem); (case mc => exact List.mem_cons_of_mem _ (List.mem_cons_of_mem _ (List.mem_cons_of_mem _ (List.mem_cons_of_mem _ (List.mem_cons_of_mem _ (hok _ mc)))))); (case mA => k_mem); (case mI => k_mem); (case mN => k_mem); (case ml => k_mem); (case dA => k_asm); (case dI => k_asm); (case dN => k_asm); (case dc => k_asm); (case dq => k_asm); (case hl => omega); (case c1 => omega); (case c2 => omega); (case c3 => omega); (case c4 => omega); (case c5 => (rw [cut_all rfl]; exact hval)); (case ld => (try dsimp only [Around.deeper]); omega); (case lu => (try dsimp only [Around.deeper]); omega); intro t2 h2 tk2 F2 N2; rw [cut_all rfl]; (try dsimp only)))
    walk1
    rename (51 < _ ∧ AllLt _ news) => l0
    obtain ⟨q1, q2, q3⟩ := all_ne l0.2
    k_steps
    exact hret _ _ _ _ _ _ _ _ (by assumption) (drop_hit (by assumption) (hok _ mc)) rfl (by assumption) (by assumption) (.inl mc)
end
end Mine
namespace Mine
local macro_rules | `(tactic| k_room) => `(tactic| ktr_room)
local macro_rules | `(tactic| k_units) => `(tactic| ktr_units)
local macro_rules | `(tactic| k_all) => `(tactic| assumption)
local macro_rules | `(tactic| k_mem) => `(tactic| (refine mine_mem ?_; with_reducible assumption))
section
variable {w : World} {p : Program} {loose : List Str} {mean : ExcName → Option Value} {mg mb : Str → Option Value} {dp un : Nat} {gd : Option (List Code)} {cn : Str} {csn : List (Str × NameKind)} {csg csc : Bool} {csm : List (Str × Const)} {a : Addr} {ccd : Value} {cl : List (Str × Addr)} {outer : List Env} {A₀ : Around} {base h₀ : Heap} {L : Addr} {m : Str → Option Value} {news : List (Addr × Obj)} {s : Shared} {Q E : Value → Shared → Prop}
set_option maxRecDepth 100000 in
set_option maxHeartbeats 8000000 in
theorem divmod_pos_ok 
    {x b : Int} {tx tb : Tok} {ps1 ps2 : Array Value}
    (B : Below A₀ base outer h₀) (F : Fr h₀ L s.heap m) (X : (hd.heap_39 w.params).In h₀) (N : News h₀ L s.heap ((44, tabObj ps1) :: (51, tabObj ps2) :: news)) (T : Top p loose mean mg mb h₀)
    (C1 : CodeHd base 48 44) (C2 : CodeHd base 55 51) (ha1 : ∀ q ∈ news, q.1 ≠ 44) (ha2 : ∀ q ∈ news, q.1 ≠ 51)
    (hp1 : TabOk (Str.ofString "_int2digits.<locals>.inner") 50 4 news ps1) (hp2 : TabOk (Str.ofString "_digits2int.<locals>.inner") 65 4 news ps2)
    (hx0 : 1 ≤ x) (hx1 : x ≤ 1000) (hb0 : 1 ≤ b) (hb1 : b ≤ 1000)
    (hd : dp + 60 < recursionLimit) (hu : un + 600 < cLine)
    (hret : ∀ D h' tk' t1 t2 q1 q2 ps1' ps2', Fr h₀ L h' m → News h₀ L h' ((D, tup [.int (x / b) t1, .int (x % b) t2]) :: (44, tabObj ps1') :: (51, tabObj ps2') :: q1 :: q2 :: news) →
      TabOk (Str.ofString "_int2digits.<locals>.inner") 50 4 (q1 :: q2 :: news) ps1' → TabOk (Str.ofString "_digits2int.<locals>.inner") 65 4 (q1 :: q2 :: news) ps2' → (∀ q ∈ q1 :: q2 :: news, q.1 ≠ 44) → (∀ q ∈ q1 :: q2 :: news, q.1 ≠ 51) →
      AllLt D ((44, tabObj ps1') :: (51, tabObj ps2') :: q1 :: q2 :: news) → Q (.ref D) { s with heap := h', toks := tk' }) :
    wpAny (model PySem.Challenge.rw_hg0003_02.row.prog w) (ktrTop dp un gd cn ⟨.function, csn, csg, csc, csm⟩ L a ccd cl outer) (call (.ref 63) [.int x tx, .int b tb]) Q E s := by
  revert X; k_fill; intro X
  have hbits : Builtin.Int.intBits b ≤ 10 := bits_le (by omega) (by have : (2 : Int) ^ 10 = 1024 := by decide
                                                                    omega)
  have hbits1 := bits_pos hb0
  w_top off
  k_with_none
  k_with "bits" => k_dflt (with_reducible refine bits_v ?_; intro n hn; have hn0 : 1 ≤ n := (by omega); have hn1 : n ≤ 10 := (by omega))
  k_with "newlist" => k_dflt (refine' newList_v ?F ?N ?z ?_; (case F => k_asm); (case N => k_asm); (case z => decide); intro ql h4 F4 N4 l4)
  k_with "rev" => k_dflt (refine' krv_reversed (vs := dv) ?F ?N ?l ?_; (case F => k_asm); (case N => k_asm); (case l => exact News.isList (by assumption) (by k_mem)); intro it0 h5 F5 N5 l5)
  k_with "callr" => first
    | ((with_reducible show wpAny _ _ (call (Value.ref 49) _) _ _ _); k_dflt (refine' int2digits_ok (ok := news) ?k1 ?k2 ?k3 ?k4 ?k5 C1 hx0 hx1 hn0 ?n1 ?a1 hp1 ?ho rfl ?ld ?lu ?_; (case k1 => k_asm); (case k2 => k_asm); (case k3 => k_asm); (case k4 => k_asm); (case k5 => k_asm); (case n1 => omega); (case a1 => exact List.forall_mem_cons.mpr ⟨(show (51 : Nat) ≠ 44 by decide), ha1⟩); (case ho => exact fun q hq => List.mem_cons_of_mem _ hq); (case ld => (try dsimp only [Around.deeper]); omega); (case lu => (try dsimp only [Around.deeper]); omega); intro da h2 tk2 dv c1 oc1 vsc1 tc1 ps1' F2 N2 hI2 e1 d1 q1 nc1 lda0 lda; (try dsimp only)))
  k_steps
  have hBB : (0 : Int) < 2 ^ n.toNat := Int.pow_pos (by decide)
  have hBle : (2 : Int) ^ n.toNat ≤ 1024 := pow_le_1024 hn1
  obtain ⟨hD1, hD2, hD3⟩ := D_facts hx0 hx1 hn0 rfl
  have l4' := l4
  simp only [AllLt] at l4'
  have qn : ∀ q ∈ news, q.1 ≠ ql := fun q hq => Nat.ne_of_lt (ktn_ltOf l4'.2.2.2.2 q hq)
  have l5' := allLt_of l5
  simp only [AllLt] at l5'
  have lda1 := lda.1
  have c44 : @Ne Nat c1 44 := nc1.elim (fun h => ha1 _ h) fun h => Nat.ne_of_gt h.1
  have c51 : @Ne Nat c1 51 := nc1.elim (fun h => ha2 _ h) fun h => Nat.ne_of_gt h.2.1
  refine iter_revUnr (lo := listOf dv.toArray 0) (vs := dv) rfl (by assumption) N5 (offI_of_lt (allLt_of l5)) (by k_mem) rfl rfl ?_
  refine revRest_ind (fun vs' m' n' => ∃ r tr tn tb qs vals ds kk, IntsAre vs' ds ∧ m' (Str.ofString "r") = some (.int r tr) ∧ m' (Str.ofString "n") = some (.int n tn) ∧ m' (Str.ofString "b") = some (.int b tb) ∧ m' (Str.ofString "q_digits") = some (.ref ql) ∧
    n' = (ql, listOf vals.toArray kk) :: (da, listOf dv.toArray 0) :: (c1, oc1) :: (44, tabObj ps1') :: (51, tabObj ps2) :: news ∧ IntsAre vals qs ∧ DivInv x b (2 ^ n.toNat) r qs ds (((Builtin.Int.intBits x : Int) + n - 1) / n).toNat) ?h0 ?hs _ _ _ ?hi
  case hi => exact ⟨0, _, _, _, [], [], _, 0, IntsAre.reverse hI2, rfl, rfl, rfl, rfl, rfl, .nil, DivInv.start hBB (by omega) (by omega) hD3⟩
  case hs =>
    rintro v r m' n' ⟨r0, tr, tn, tb, qs, vals, ds, kk, hds, hmr, hmn, hmb, hmq, rfl, hq, hJ⟩ it h6 tk6 hit F6 N6
    cases hds with
    | cons d td hds' =>
    rename_i ns
    have F7 := canon1 (x := Str.ofString "q_digits") (v := .ref ql) F6 hmq
    have F8 := canon1 (x := Str.ofString "b") (v := .int b tb) F7 hmb
    have F9 := canon1 (x := Str.ofString "n") (v := .int n tn) F8 hmn
    have F10 := canon1 (x := Str.ofString "r") (v := .int r0 tr) F9 hmr
    clear F6 F7 F8 F9
    have hr0 := hJ.r0
    have hr1 := hJ.r1
    have hd0 := hJ.rng d (.head _)
    have hlen := hJ.len
    simp only [List.length_cons] at hlen
    k_with "append" => k_dflt (refine' append_K (its := vals.toArray) (n := kk) ?F ?N ?U ?_ ?z; (case F => k_asm); (case N => k_asm); (case U => k_upd); (case z => (rw [sizeLine_eq, List.size_toArray, hq.length]; omega)); intro h8 F8 N8; rw [List.push_toArray] at N8)
    k_with "lsh" => k_dflt (with_reducible refine lshift_v ?hb ?hc ?hd ?_; (case hb => omega); (case hc => omega); (case hd => omega); intro up hup; have hupb := mul_box (a := r0) (b := 2 ^ n.toNat) (A := 1000) (B := 1024) hr0 (by omega) (by omega) hBle; rw [← hup] at hupb)
    k_with "callr" => ((with_reducible show wpAny _ _ (call (Value.ref 35) _) _ _ _); k_dflt (refine' div2n1n_ok ?k1 ?k2 ?k3 ?k4 ?k5 ?x0 ?x1 hb0 hb1 hn0 ?ld ?lu ?_; (case k1 => k_asm); (case k2 => k_asm); (case k3 => k_asm); (case k4 => k_asm); (case k5 => k_asm); (case x0 => omega); (case x1 => omega); (case ld => (try dsimp only [Around.deeper]); omega); (case lu => (try dsimp only [Around.deeper]); omega); intro D1 h7 tk7 t71 t72 F7 N7 l7; simp only [AllLt] at l7; (try dsimp only)))
    k_steps
    have l5b : AllLt it0 ((ql, listOf (vals ++ [Value.int ((up + d) / b) t71]).toArray (kk + 1)) :: (da, listOf dv.toArray 0) :: (c1, oc1) :: (44, tabObj ps1') :: (51, tabObj ps2) :: news) := l5'
    have off : ∀ q ∈ (ql, listOf (vals ++ [Value.int ((up + d) / b) t71]).toArray (kk + 1)) :: (da, listOf dv.toArray 0) :: (c1, oc1) :: (44, tabObj ps1') :: (51, tabObj ps2) :: news, q.1 ≠ it0 := fun q hq => Nat.ne_of_lt (ktn_ltOf l5b q hq)
    refine UnrEnd.intro F8 N8 ((ql, listOf (vals ++ [Value.int ((up + d) / b) t71]).toArray (kk + 1)) :: (da, listOf dv.toArray 0) :: (c1, oc1) :: (44, tabObj ps1') :: (51, tabObj ps2) :: news) (fun q hq => List.mem_cons_of_mem _ hq)
      off ⟨.tail _ (.head _), (up + d) % b, t72, tn, tb, qs ++ [(up + d) / b], _, ns, kk + 1, hds', rfl, rfl, rfl, rfl, rfl, hq.append (.cons _ _ .nil), hJ.step hBB (by omega) (by rw [hup])⟩
  case h0 =>
    rintro m' n' ⟨r0, tr, tn, tb, qs, vals, ds, kk, hds, hmr, hmn, hmb, hmq, rfl, hq, hJ⟩ h6 tk6 F6 N6
    cases hds
    obtain ⟨e3, rfl, e5, e6⟩ := hJ.stop (by omega)
    have F7 := canon1 (x := Str.ofString "q_digits") (v := .ref ql) F6 hmq
    have F8 := canon1 (x := Str.ofString "b") (v := .int b tb) F7 hmb
    have F9 := canon1 (x := Str.ofString "n") (v := .int n tn) F8 hmn
    have F10 := canon1 (x := Str.ofString "r") (v := .int (x % b) tr) F9 hmr
    clear F6 F7 F8 F9
    have hv : undigs (2 ^ n.toNat) qs.reverse ≤ 1000000 := by
      rw [e3]
      have := Int.ediv_le_self (a := x) b (by omega)
      omega
    k_with "reverse" => k_dflt (refine' reverse_head_ints (its := vals.toArray) (n := kk) ?F ?N ?rvA hq ?_ ?z; (case F => k_asm); (case N => k_asm); (case rvA => exact fun q hq => Nat.ne_of_lt (ktn_ltOf l4 q hq)); (case z => (rw [sizeLine_eq]; simp only [List.length_reverse] at e6; omega)); intro h8 F8 N8 hq8)
    k_with "callr" => ((with_reducible show wpAny _ _ (call (Value.ref 56) _) _ _ _); k_dflt (refine' digits2int_ok (ok := news) (kk := kk) (vs := vals.reverse) (ps := ps2) (news := (ql, listOf vals.reverse.toArray kk) :: (da, listOf dv.toArray 0) :: (c1, oc1) :: (44, tabObj ps1') :: news) ?k1 ?k2 ?k3 ?k4 ?k5 C2 (.head _) hq8 ?y1 ?y2 e5 hv hn0 ?y3 ?a1 hp2 ?ho ?ld ?lu ?_; (case k1 => k_asm); (case k2 => k_asm); (case k3 => k_asm); (case k4 => (refine cb_drop (by assumption) ?_; intro q hq; simp only [List.mem_cons] at hq ⊢; rcases hq with h | h | h | h | h | h <;> simp [h])); (case k5 => k_asm); (case y1 => omega); (case y2 => omega); (case y3 => omega); (case a1 => exact List.forall_mem_cons.mpr ⟨Nat.ne_of_gt l4'.2.2.2.1, List.forall_mem_cons.mpr ⟨Nat.ne_of_gt lda1, List.forall_mem_cons.mpr ⟨c51, List.forall_mem_cons.mpr ⟨(show (44 : Nat) ≠ 51 by decide), ha2⟩⟩⟩⟩); (case ho => exact fun q hq => List.mem_cons_of_mem _ (List.mem_cons_of_mem _ (List.mem_cons_of_mem _ (List.mem_cons_of_mem _ hq)))); (case ld => (try dsimp only [Around.deeper]); omega); (case lu => (try dsimp only [Around.deeper]); omega); intro h9 tk9 c2 oc2 vsc2 t9 t9' ps2' F9 N9 e9 d9 q9 nc9; rw [e3]; (try dsimp only)))
    show wpAny _ _ _ _ _ _
    k_steps
    have l9 := (by assumption : _ ∧ _ ∧ _ ∧ _ ∧ _ ∧ _ ∧ AllLt _ news)
    have d44 : @Ne Nat c2 44 := nc9.elim (fun h => ha1 _ h) fun h => Nat.ne_of_gt h.2.2.2.2.1
    have d51 : @Ne Nat c2 51 := nc9.elim (fun h => ha2 _ h) fun h => Nat.ne_of_gt h.1
    refine hret _ _ _ t9' tr (c1, oc1) (c2, oc2) ps1' ps2' (by assumption) (cb_drop (by assumption) ?_) (.inr ⟨c1, oc1, vsc1, tc1, e1, .head _, d1, q1⟩) (.inr ⟨c2, oc2, vsc2, t9, e9, .tail _ (.head _), d9, q9⟩)
      (List.forall_mem_cons.mpr ⟨c44, List.forall_mem_cons.mpr ⟨d44, ha1⟩⟩) (List.forall_mem_cons.mpr ⟨c51, List.forall_mem_cons.mpr ⟨d51, ha2⟩⟩) ⟨l9.2.2.2.2.2.1, l9.2.1, l9.2.2.2.2.1, l9.1, l9.2.2.2.2.2.2⟩
    intro q hq
    simp only [List.mem_cons] at hq ⊢
    rcases hq with h | h | h | h | h | h <;> simp [h]
end
end Mine
namespace Mine
local macro_rules | `(tactic| k_room) => `(tactic| ktr_room)
local macro_rules | `(tactic| k_units) => `(tactic| ktr_units)
local macro_rules | `(tactic| k_all) => `(tactic| assumption)
local macro_rules | `(tactic| k_mem) => `(tactic| (refine mine_mem ?_; with_reducible assumption))
section
variable {w : World} {p : Program} {loose : List Str} {mean : ExcName → Option Value} {mg mb : Str → Option Value} {dp un : Nat} {gd : Option (List Code)} {cn : Str} {csn : List (Str × NameKind)} {csg csc : Bool} {csm : List (Str × Const)} {a : Addr} {ccd : Value} {cl : List (Str × Addr)} {outer : List Env} {A₀ : Around} {base h₀ : Heap} {L : Addr} {m : Str → Option Value} {news : List (Addr × Obj)} {s : Shared} {Q E : Value → Shared → Prop}
set_option maxRecDepth 100000 in
set_option maxHeartbeats 8000000 in
theorem int_divmod_ok 
    {x b : Int} {tx tb : Tok} {ps1 ps2 : Array Value}
    (B : Below A₀ base outer h₀) (F : Fr h₀ L s.heap m) (X : (hd.heap_39 w.params).In h₀) (N : News h₀ L s.heap ((44, tabObj ps1) :: (51, tabObj ps2) :: news)) (T : Top p loose mean mg mb h₀)
    (C1 : CodeHd base 48 44) (C2 : CodeHd base 55 51) (ha1 : ∀ q ∈ news, q.1 ≠ 44) (ha2 : ∀ q ∈ news, q.1 ≠ 51)
    (hp1 : TabOk (Str.ofString "_int2digits.<locals>.inner") 50 4 news ps1) (hp2 : TabOk (Str.ofString "_digits2int.<locals>.inner") 65 4 news ps2)
    (hx0 : 1 ≤ x) (hx1 : x ≤ 1000) (hb0 : 1 ≤ b) (hb1 : b ≤ 1000)
    (hd : dp + 80 < recursionLimit) (hu : un + 700 < cLine)
    (hret : ∀ D h' tk' t1 t2 q1 q2 ps1' ps2', Fr h₀ L h' m → News h₀ L h' ((D, tup [.int (x / b) t1, .int (x % b) t2]) :: (44, tabObj ps1') :: (51, tabObj ps2') :: q1 :: q2 :: news) →
      TabOk (Str.ofString "_int2digits.<locals>.inner") 50 4 (q1 :: q2 :: news) ps1' → TabOk (Str.ofString "_digits2int.<locals>.inner") 65 4 (q1 :: q2 :: news) ps2' → (∀ q ∈ q1 :: q2 :: news, q.1 ≠ 44) → (∀ q ∈ q1 :: q2 :: news, q.1 ≠ 51) →
      AllLt D ((44, tabObj ps1') :: (51, tabObj ps2') :: q1 :: q2 :: news) → Q (.ref D) { s with heap := h', toks := tk' }) :
    wpAny (model PySem.Challenge.rw_hg0003_02.row.prog w) (ktrTop dp un gd cn ⟨.function, csn, csg, csc, csm⟩ L a ccd cl outer) (call (.ref 70) [.int x tx, .int b tb]) Q E s := by
  revert X; k_fill; intro X
  w_top off
  k_with_none
  k_with "callr" => ((with_reducible show wpAny _ _ (call (Value.ref 63) _) _ _ _); k_dflt (refine' divmod_pos_ok ?k1 ?k2 ?k3 ?k4 ?k5 C1 C2 ha1 ha2 hp1 hp2 hx0 hx1 hb0 hb1 ?ld ?lu ?_; (case k1 => k_asm); (case k2 => k_asm); (case k3 => k_asm); (case k4 => k_asm); (case k5 => k_asm); (case ld => (try dsimp only [Around.deeper]); omega); (case lu => (try dsimp only [Around.deeper]); omega); intro D9 h9 tk9 t91 t92 q91 q92 ps91 ps92 F9 N9 p91 p92 a91 a92 l9; (try dsimp only)))
  k_steps
  all_goals first | (exfalso; omega) | exact hret _ _ _ _ _ _ _ _ _ (by assumption) (by assumption) p91 p92 a91 a92 l9
end
end Mine
namespace Mine
section
variable {prog : Program} {w : World} {A : Around} {E : Value → Shared → Prop} {s : Shared} {h₀ : Heap} {L : Addr} {m : Str → Option Value} {news : List (Addr × Obj)}
theorem first3_applied {sl : Addr} {u : Tok} {Q : Int × Int × Nat → Shared → Prop} (hs : s.heap.IsSliceOf sl .none (.int 3 u) .none) (h : Q ((0 : Int), 1, 3) s) :
    wpAny (model prog w) A (Builtin.Slice.sliceApplied (.ref sl) (pure (5 : Int))) Q E s := by
  obtain ⟨os, hos, hcs, hds⟩ := id hs
  unfold Builtin.Slice.sliceApplied Builtin.Slice.sliceFields
  refine wpAny_bind (wpAny_bind (wpAny_field hos hds (x := .none) rfl (wpAny_bind (wpAny_field hos hds (x := .int 3 u) rfl (wpAny_bind (wpAny_field hos hds (x := .none) rfl (wpAny_pure ?_)))))))
  refine wpAny_bind (slicePart_none ?_)
  show wpAny _ _ (if ((1 : Int) == 0) = true then _ else _) _ _ s
  rw [if_neg (by decide)]
  refine wpAny_bind (slicePart_none (wpAny_bind (slicePart_int (wpAny_bind (wpAny_pure ?_)))))
  exact wpAny_pure h
theorem first3_get {t sl : Addr} {u : Tok} {v0 v1 v2 v3 v4 : Value} {Q : Value → Shared → Prop} (ht : IsTup s.heap t #[v0, v1, v2, v3, v4]) (hs : s.heap.IsSliceOf sl .none (.int 3 u) .none)
    (h : Q (.ref s.heap.objs.size) { s with heap := s.heap.push (tup [v0, v1, v2]) }) : wpAny (model prog w) A (getItem (.ref t) (.ref sl)) Q E s := by
  obtain ⟨os, hos, hcs, hds⟩ := id hs
  have hTs : s.TypeIs (.ref sl) "slice" := ⟨os, hos, hcs⟩
  unfold getItem
  try with_reducible refine wpAny_holding ?_
  first | refine wpAny_bind (wpAny_pure ?_) | skip
  refine wpAny_bind (wpAny_sequenceKey ht.typeIs (by decide) ?_)
  refine wpAny_bind (wpAny_callSpecial?_slot (name := Str.ofString "__getitem__") ht.typeIs slot_tuple_getitem
    (wpAny_call_entry slot_tuple_getitem ht.typeIs entry_tuple_getitem ?_ (args_tuple_getitem _ _)))
  show wpAny _ _ (Builtin.Tuple.tupleItemsOf (.ref t) >>= _) _ _ s
  refine wpAny_bind (tupleItemsOf_ ht ?_)
  refine wpAny_bind (wpAny_typeOf hTs ?_)
  rw [if_pos (by decide)]
  refine wpAny_bind (first3_applied hs ?_)
  show wpAny _ _ (if ((0 : Int) == 0 && (1 : Int) == 1 && (3 : Nat) == 5) = true then _ else _) _ _ s
  rw [if_neg (by decide)]
  have hdrop : sizeOk (.seq [v0, v1, v2].toArray) := by
    show [v0, v1, v2].toArray.size ≤ sizeLine
    rw [sizeLine_eq]; simp
  first
    | exact wpAny_bind (m := Builtin.Tuple.tupleExact _) (wpAny_newObj_type (wpAny_pure ⟨_, rfl, wpAny_pure h⟩) hdrop)
    | exact wpAny_bind (m := Builtin.Tuple.tupleExact _) (wpAny_newObj_type (wpAny_bind (wpAny_pure (wpAny_pure ⟨_, rfl, wpAny_pure h⟩))) hdrop)
    | exact wpAny_bind (wpAny_bind (m := Builtin.Tuple.tupleExact _) (wpAny_newObj_type (wpAny_pure (wpAny_pure ⟨_, rfl, wpAny_pure h⟩)) hdrop))
    | exact wpAny_bind (wpAny_bind (m := Builtin.Tuple.tupleExact _) (wpAny_newObj_type (wpAny_pure ⟨_, rfl, wpAny_pure h⟩) hdrop))
theorem first3 {value slice : Expr} {t : Addr} {u : Tok} {v0 v1 v2 v3 v4 : Value} {Q : Value → Shared → Prop}
    (F : Fr h₀ L s.heap m) (N : News h₀ L s.heap news) (hm : (t, tup [v0, v1, v2, v3, v4]) ∈ news)
    (h : ∀ D h', Fr h₀ L h' m → News h₀ L h' ((D, tup [v0, v1, v2]) :: news) → AllLt D news → Q (.ref D) { s with heap := h' })
    (hs : subscripted slice false (.ref t) (.ref s.heap.objs.size) = operate [.ref s.heap.objs.size, .ref t] (getItem (.ref t) (.ref s.heap.objs.size)))
    (hg : ∀ r, letTemporaryGo value (.ref t) r = pure ()) :
    wpAny (model prog w) A (subscriptTail value slice (.ref t) (.ref s.heap.objs.size)) Q E { s with heap := s.heap.push { cls := .type "slice", data := .fields #[.none, .int 3 u, .none] } } := by
  have ht : IsTup s.heap t #[v0, v1, v2, v3, v4] := ⟨_, (N _ hm).1, rfl, _, rfl⟩
  have ht' : IsTup (s.heap.push { cls := .type "slice", data := .fields #[.none, .int 3 u, .none] }) t #[v0, v1, v2, v3, v4] := ht.keeps fun _ _ e => Heap.get?_push_of_some _ e
  refine subscriptTail_ops (s := { s with heap := s.heap.push { cls := .type "slice", data := .fields #[.none, .int 3 u, .none] } }) ht'.typeIs slot_tuple_getitem.lookup
    (first3_get ht' (Heap.IsSliceOf.new ..) ?_) hs hg
  have N1 := News.push (F.push { cls := .type "slice", data := .fields #[.none, .int 3 u, .none] }) (N.grown fun _ _ e => Heap.get?_push_of_some _ e) (tup [v0, v1, v2])
  rw [Heap.size_push] at N1
  show Q (.ref (s.heap.push _).objs.size) _
  rw [Heap.size_push]
  exact h _ _ ((F.push _).push _) N1 (allLt_of fun q hq => Nat.lt_succ_of_lt (Heap.lt_size (N q hq).1))
end
end Mine
namespace Mine
local macro_rules | `(tactic| k_room) => `(tactic| ktr_room)
local macro_rules | `(tactic| k_units) => `(tactic| ktr_units)
local macro_rules | `(tactic| k_all) => `(tactic| assumption)
local macro_rules | `(tactic| k_mem) => `(tactic| (refine mine_mem ?_; with_reducible assumption))
section
variable {w : World} {p : Program} {loose : List Str} {mean : ExcName → Option Value} {mg mb : Str → Option Value} {dp un : Nat} {gd : Option (List Code)} {cn : Str} {csn : List (Str × NameKind)} {csg csc : Bool} {csm : List (Str × Const)} {a : Addr} {ccd : Value} {cl : List (Str × Addr)} {outer : List Env} {A₀ : Around} {base h₀ : Heap} {L : Addr} {m : Str → Option Value} {news : List (Addr × Obj)} {s : Shared} {Q E : Value → Shared → Prop}
theorem drop34 {h₀ h : Heap} {L : Addr} {q1 q2 q3 q4 : Addr × Obj} {l : List (Addr × Obj)} (N : News h₀ L h (q1 :: q2 :: q3 :: q4 :: l)) : News h₀ L h (q1 :: q2 :: l) :=
  cb_drop N fun q hq => by
    simp only [List.mem_cons] at hq ⊢
    rcases hq with h | h | h <;> simp [h]
def Emp (prog : Program) (w : World) (d : Addr) (o : Obj) : Prop := (d == sysModules) = false ∧ Obj.IsDictOf (PySem.strKind prog w) o [] ∧ Obj.IsDictOf (intKind prog w) o []
set_option maxRecDepth 100000 in
set_option maxHeartbeats 8000000 in
theorem add_callers_ok {d1 d2 : Addr} {o1 o2 : Obj}
    (B : Below A₀ base outer h₀) (F : Fr h₀ L s.heap m) (X : (hd.heap_39 w.params).In h₀) (N : News h₀ L s.heap ((d1, o1) :: (d2, o2) :: news)) (T : Top p loose mean mg mb h₀)
    (n1 : (d1 == sysModules) = false) (n2 : (d2 == sysModules) = false) (s1 : Obj.IsDictOf (PySem.strKind PySem.Challenge.rw_hg0003_02.row.prog w) o1 []) (s2 : Obj.IsDictOf (PySem.strKind PySem.Challenge.rw_hg0003_02.row.prog w) o2 []) (i1 : Obj.IsDictOf (intKind PySem.Challenge.rw_hg0003_02.row.prog w) o1 []) (i2 : Obj.IsDictOf (intKind PySem.Challenge.rw_hg0003_02.row.prog w) o2 [])
    (f1 : PyProof.V.FlatPairs PyData.str [] []) (f2 : PyProof.V.FlatPairs PyData.int [] [])
    (hd : dp + 40 < recursionLimit) (hu : un + 400 < cLine)
    (hret : ∀ D o h' tk', Fr h₀ L h' m → News h₀ L h' ((D, o) :: (d1, o1) :: (d2, o2) :: news) → Emp PySem.Challenge.rw_hg0003_02.row.prog w D o → AllLt D news → Q (.ref D) { s with heap := h', toks := tk' }) :
    wpAny (model PySem.Challenge.rw_hg0003_02.row.prog w) (ktrTop dp un gd cn ⟨.function, csn, csg, csc, csm⟩ L a ccd cl outer) (call (.ref 28) [.ref d1, .ref d2]) Q E s := by
  revert X; k_fill; intro X
  w_top off
  k_with_none
  k_with "items" => ((rename Fr _ _ _ _ => lF'); (rename News _ _ _ _ => lN'); with_unfolding_all ((refine' For_turns lF' ?_); (refine MethodCall_ ?_); (refine ld lF' (by rfl) ?_); (refine getMethod_tab (knd := PySem.strKind _ _) (enc := PyData.str) PySem.F.slot_dict_items PySem.F.type_dict_items (by k_tabat) ?_); (refine callWith_method0 ?_); (refine call_items_tab (knd := PySem.strKind _ _) (enc := PyData.str) (by k_tabat) lF' lN' ?_); intro h' o' hv' F' N'; (replace N' := kti_tail N'); (refine kti_items (knd := PySem.strKind _ _) (enc := PyData.str) (xs := []) (by rfl) F' N' hv' (by k_tabat) (by k_mem) (fun _ _ h => Value.isStrOf_shape h) (by rfl) ?_)); clear lF' lN'; intro i' l1; clear l1)
  k_steps
  exact hret _ _ _ _ (by assumption) (by assumption) ⟨by assumption, by assumption, by assumption⟩ (by assumption : _ ∧ _ ∧ AllLt _ news).2.2
set_option maxRecDepth 100000 in
set_option maxHeartbeats 8000000 in
theorem add_stats_ok {a1 a2 d1 d2 : Addr} {o1 o2 : Obj} {x0 x1 x2 x3 y0 y1 y2 y3 : Int} {t0 t1 t2 t3 u0 u1 u2 u3 : Tok}
    (B : Below A₀ base outer h₀) (F : Fr h₀ L s.heap m) (X : (hd.heap_39 w.params).In h₀) (N : News h₀ L s.heap news) (T : Top p loose mean mg mb h₀)
    (m1 : (a1, tup [.int x0 t0, .int x1 t1, .int x2 t2, .int x3 t3, .ref d1]) ∈ news) (m2 : (a2, tup [.int y0 u0, .int y1 u1, .int y2 u2, .int y3 u3, .ref d2]) ∈ news)
    (m3 : (d1, o1) ∈ news) (m4 : (d2, o2) ∈ news) (e1 : Emp PySem.Challenge.rw_hg0003_02.row.prog w d1 o1) (e2 : Emp PySem.Challenge.rw_hg0003_02.row.prog w d2 o2)
    (hd : dp + 60 < recursionLimit) (hu : un + 500 < cLine)
    (hret : ∀ D Dd od h' tk' v0 v1 v2 v3, Fr h₀ L h' m → News h₀ L h' ((D, tup [.int (y0 + x0) v0, .int (y1 + x1) v1, .int (y2 + x2) v2, .int (y3 + x3) v3, .ref Dd]) :: (Dd, od) :: news) → Emp PySem.Challenge.rw_hg0003_02.row.prog w Dd od → AllLt D ((Dd, od) :: news) → AllLt Dd news → Q (.ref D) { s with heap := h', toks := tk' }) :
    wpAny (model PySem.Challenge.rw_hg0003_02.row.prog w) (ktrTop dp un gd cn ⟨.function, csn, csg, csc, csm⟩ L a ccd cl outer) (call (.ref 21) [.ref a1, .ref a2]) Q E s := by
  revert X; k_fill; intro X
  w_top off
  k_with_none
  k_with "callr" => ((with_reducible show wpAny _ _ (call (Value.ref 28) _) _ _ _); k_dflt (refine' add_callers_ok (news := news) ?k1 ?k2 ?k3 ?k4 ?k5 e1.1 e2.1 e1.2.1 e2.2.1 e1.2.2 e2.2.2 .nil .nil ?ld ?lu ?_; (case k1 => k_asm); (case k2 => k_asm); (case k3 => k_asm); (case k4 => exact cb_drop (by assumption) (List.forall_mem_cons.mpr ⟨m3, List.forall_mem_cons.mpr ⟨m4, fun _ h => h⟩⟩)); (case k5 => k_asm); (case ld => (try dsimp only [Around.deeper]); omega); (case lu => (try dsimp only [Around.deeper]); omega); intro Dd od h9 tk9 F9 N9 E9 l9; (try dsimp only)))
  k_steps
  have l1 := (by assumption : _ ∧ _ ∧ _ ∧ AllLt _ news)
  exact hret _ _ _ _ _ _ _ _ _ (by assumption) (drop34 (by assumption)) E9 ⟨l1.1, l1.2.2.2⟩ l9
end
end Mine
namespace Mine
theorem drop_pre {h₀ h : Heap} {L : Addr} {q1 : Addr × Obj} {l : List (Addr × Obj)} (pre : List (Addr × Obj)) (N : News h₀ L h (q1 :: (pre ++ l))) : News h₀ L h (q1 :: l) :=
  cb_drop N fun q hq => by
    simp only [List.mem_cons, List.mem_append] at hq ⊢
    rcases hq with h | h <;> simp [h]
abbrev Big (x : Int) : Prop := -1000000 ≤ x ∧ x ≤ 1000000
local macro_rules | `(tactic| k_room) => `(tactic| ktr_room)
local macro_rules | `(tactic| k_units) => `(tactic| ktr_units)
local macro_rules | `(tactic| k_all) => `(tactic| assumption)
local macro_rules | `(tactic| k_mem) => `(tactic| (refine mine_mem ?_; with_reducible assumption))
section
variable {w : World} {p : Program} {loose : List Str} {mean : ExcName → Option Value} {mg mb : Str → Option Value} {dp un : Nat} {gd : Option (List Code)} {cn : Str} {csn : List (Str × NameKind)} {csg csc : Bool} {csm : List (Str × Const)} {a : Addr} {ccd : Value} {cl : List (Str × Addr)} {outer : List Env} {A₀ : Around} {base h₀ : Heap} {L : Addr} {m : Str → Option Value} {news : List (Addr × Obj)} {s : Shared} {Q E : Value → Shared → Prop}
set_option maxRecDepth 100000 in
set_option maxHeartbeats 8000000 in
theorem law_sum_ok {a1 a2 : Addr} {c d x0 x1 x2 y0 y1 y2 : Int} {tc td t0 t1 t2 u0 u1 u2 : Tok}
    (B : Below A₀ base outer h₀) (F : Fr h₀ L s.heap m) (X : (hd.heap_39 w.params).In h₀) (N : News h₀ L s.heap news) (T : Top p loose mean mg mb h₀)
    (m1 : (a1, tup [.int x0 t0, .int x1 t1, .int x2 t2]) ∈ news) (m2 : (a2, tup [.int y0 u0, .int y1 u1, .int y2 u2]) ∈ news)
    (bc : Big c) (bd : Big d)
    (hd : dp + 80 < recursionLimit) (hu : un + 600 < cLine)
    (hret : ∀ D h' tk' v0 v1 v2, Fr h₀ L h' m → News h₀ L h' ((D, tup [.int (d * y0 + c * x0) v0, .int (d * y1 + c * x1) v1, .int (d * y2 + c * x2) v2]) :: news) → AllLt D news → Q (.ref D) { s with heap := h', toks := tk' }) :
    wpAny (model PySem.Challenge.rw_hg0003_02.row.prog w) (ktrTop dp un gd cn ⟨.function, csn, csg, csc, csm⟩ L a ccd cl outer) (call (.ref 77) [.int c tc, .ref a1, .int d td, .ref a2]) Q E s := by
  revert X; k_fill; intro X
  w_top off
  k_with_none
  k_with "item" => ((with_reducible show wpAny _ _ (subscriptTail _ _ (Value.ref _) (Value.int _ _)) _ _ _); k_dflt (refine' kim_tup ?itN ?itm ?itc ?itd ?itlo ?ithi ?itj ?itx ?_ ?its; (case itN => k_asm); (case itm => k_mem); (case itc => exact rfl); (case itd => exact rfl); (case itlo => decide); (case ithi => decide); (case itj => exact rfl); (case itx => exact rfl); (case its => with_unfolding_all rfl)))
  k_with "callr" => ((with_reducible show wpAny _ _ (call (Value.ref 21) _) _ _ _); k_dflt (refine' add_stats_ok ?k1 ?k2 ?k3 ?k4 ?k5 ?m1 ?m2 ?m3 ?m4 ?e1 ?e2 ?ld ?lu ?_; (case k1 => k_asm); (case k2 => k_asm); (case k3 => k_asm); (case k4 => k_asm); (case k5 => k_asm); (case m1 => k_mem); (case m2 => k_mem); (case m3 => k_mem); (case m4 => k_mem); (case e1 => exact ⟨by assumption, by assumption, by assumption⟩); (case e2 => exact ⟨by assumption, by assumption, by assumption⟩); (case ld => (try dsimp only [Around.deeper]); omega); (case lu => (try dsimp only [Around.deeper]); omega); intro D9 Dd9 od9 h9 tk9 v0 v1 v2 v3 F9 N9 E9 l9 l9b; simp only [AllLt] at l9 l9b; (try dsimp only)))
  k_with "slice3" => k_dflt (refine' first3 (s := ⟨_, _, _, _, _⟩) ?slF ?slN ?slm ?_ ?sls ?slg; (case slF => k_asm); (case slN => k_asm); (case slm => k_mem); (case sls => with_unfolding_all rfl); (case slg => (intro _; with_unfolding_all rfl)); intro D7 h7 F7 N7 l7)
  k_steps
  exact hret _ _ _ v0 v1 v2 (by assumption) (drop_pre [_, _, _, _, _, _] (by assumption)) l7.2.2.2.2.2.2
set_option maxRecDepth 100000 in
set_option maxHeartbeats 8000000 in
theorem across_ok {a1 a2 : Addr} {x0 x1 x2 y0 y1 y2 : Int} {t0 t1 t2 u0 u1 u2 : Tok}
    (B : Below A₀ base outer h₀) (F : Fr h₀ L s.heap m) (X : (hd.heap_39 w.params).In h₀) (N : News h₀ L s.heap news) (T : Top p loose mean mg mb h₀)
    (m1 : (a1, tup [.int x0 t0, .int x1 t1, .int x2 t2]) ∈ news) (m2 : (a2, tup [.int y0 u0, .int y1 u1, .int y2 u2]) ∈ news)
    (bx0 : Big x0) (bx1 : Big x1) (bx2 : Big x2)
    (hd : dp + 10 < recursionLimit) (hu : un + 80 < cLine)
    (hret : ∀ D h' tk' v0 v1 v2, Fr h₀ L h' m → News h₀ L h' ((D, tup [.int (x1 * y2 - x2 * y1) v0, .int (x2 * y0 - x0 * y2) v1, .int (x0 * y1 - x1 * y0) v2]) :: news) → AllLt D news → Q (.ref D) { s with heap := h', toks := tk' }) :
    wpAny (model PySem.Challenge.rw_hg0003_02.row.prog w) (ktrTop dp un gd cn ⟨.function, csn, csg, csc, csm⟩ L a ccd cl outer) (call (.ref 84) [.ref a1, .ref a2]) Q E s := by
  revert X; k_fill; intro X
  w_top off
  k_with_none
  k_with "item" => ((with_reducible show wpAny _ _ (subscriptTail _ _ (Value.ref _) (Value.int _ _)) _ _ _); k_dflt (refine' kim_tup ?itN ?itm ?itc ?itd ?itlo ?ithi ?itj ?itx ?_ ?its; (case itN => k_asm); (case itm => k_mem); (case itc => exact rfl); (case itd => exact rfl); (case itlo => decide); (case ithi => decide); (case itj => exact rfl); (case itx => exact rfl); (case its => with_unfolding_all rfl)))
  k_steps
  exact hret _ _ _ _ _ _ (by assumption) (by assumption) (allLt_of (by assumption))
set_option maxRecDepth 100000 in
set_option maxHeartbeats 8000000 in
theorem signed_ok {a1 a2 a3 : Addr} {x0 x1 x2 y0 y1 y2 z0 z1 z2 : Int} {t0 t1 t2 u0 u1 u2 v0 v1 v2 : Tok}
    (B : Below A₀ base outer h₀) (F : Fr h₀ L s.heap m) (X : (hd.heap_39 w.params).In h₀) (N : News h₀ L s.heap news) (T : Top p loose mean mg mb h₀)
    (m1 : (a1, tup [.int x0 t0, .int x1 t1, .int x2 t2]) ∈ news) (m2 : (a2, tup [.int y0 u0, .int y1 u1, .int y2 u2]) ∈ news) (m3 : (a3, tup [.int z0 v0, .int z1 v1, .int z2 v2]) ∈ news)
    (bx0 : Big x0) (bx1 : Big x1) (bx2 : Big x2) (bz0 : Big z0) (bz1 : Big z1) (bz2 : Big z2)
    (hd : dp + 20 < recursionLimit) (hu : un + 160 < cLine)
    (hret : ∀ h' tk' t, Fr h₀ L h' m → News h₀ L h' news → Q (.int ((x1 * y2 - x2 * y1) * z0 + (x2 * y0 - x0 * y2) * z1 + (x0 * y1 - x1 * y0) * z2) t) { s with heap := h', toks := tk' }) :
    wpAny (model PySem.Challenge.rw_hg0003_02.row.prog w) (ktrTop dp un gd cn ⟨.function, csn, csg, csc, csm⟩ L a ccd cl outer) (call (.ref 91) [.ref a1, .ref a2, .ref a3]) Q E s := by
  revert X; k_fill; intro X
  w_top off
  k_with_none
  k_with "item" => ((with_reducible show wpAny _ _ (subscriptTail _ _ (Value.ref _) (Value.int _ _)) _ _ _); k_dflt (refine' kim_tup ?itN ?itm ?itc ?itd ?itlo ?ithi ?itj ?itx ?_ ?its; (case itN => k_asm); (case itm => k_mem); (case itc => exact rfl); (case itd => exact rfl); (case itlo => decide); (case ithi => decide); (case itj => exact rfl); (case itx => exact rfl); (case its => with_unfolding_all rfl)))
  k_with "callr" => ((with_reducible show wpAny _ _ (call (Value.ref 84) _) _ _ _); k_dflt (refine' across_ok ?k1 ?k2 ?k3 ?k4 ?k5 m1 m2 bx0 bx1 bx2 ?ld ?lu ?_; (case k1 => k_asm); (case k2 => k_asm); (case k3 => k_asm); (case k4 => k_asm); (case k5 => k_asm); (case ld => (try dsimp only [Around.deeper]); omega); (case lu => (try dsimp only [Around.deeper]); omega); intro D9 h9 tk9 w0 w1 w2 F9 N9 l9; (try dsimp only)))
  k_steps
  exact hret _ _ _ (by assumption) (kti_tail (by assumption))
end
end Mine
namespace Mine
theorem div_cross {a x y : Int} (ha : 0 < a) (hx : a ∣ x) (hy : a ∣ y) (hx0 : 1 ≤ x) : x / a * y = y / a * x ∧ 1 ≤ x / a ∧ x / a ≤ x := by
  obtain ⟨u, rfl⟩ := hx
  obtain ⟨v, rfl⟩ := hy
  rw [Int.mul_ediv_cancel_left _ (Int.ne_of_gt ha), Int.mul_ediv_cancel_left _ (Int.ne_of_gt ha)]
  refine ⟨by grind, ?_, ?_⟩
  · rcases Int.lt_or_le u 1 with h | h
    · have := Int.mul_le_mul_of_nonneg_left (show u ≤ 0 by omega) (Int.le_of_lt ha)
      omega
    · exact h
  · have h1 : 0 ≤ u := by
      rcases Int.lt_or_le u 0 with h | h
      · have := Int.mul_le_mul_of_nonneg_left (show u ≤ 0 by omega) (Int.le_of_lt ha)
        omega
      · exact h
    have := Int.mul_le_mul_of_nonneg_right (show 1 ≤ a by omega) h1
    omega
section
variable {prog : Program} {w : World} {A : Around} {E : Value → Shared → Prop} {s : Shared}
theorem abs_v {Q : Value → Shared → Prop} {a : Int} {t : Tok} (h0 : 0 ≤ a) (h : ∀ u tk, Q (.int a u) { s with toks := tk }) : wpAny (model prog w) A (call (.builtin "abs") [.int a t]) Q E s :=
  call_abs_int fun u tk => by rw [if_neg (by omega)]; exact h u tk
end
theorem drop_two {h₀ h : Heap} {L : Addr} {q1 q4 q5 : Addr × Obj} {l : List (Addr × Obj)} (pre mid : List (Addr × Obj)) (N : News h₀ L h (q1 :: (pre ++ (q4 :: q5 :: (mid ++ l))))) : News h₀ L h (q1 :: q4 :: q5 :: l) :=
  cb_drop N fun q hq => by
    simp only [List.mem_cons, List.mem_append] at hq ⊢
    rcases hq with h | h | h | h <;> simp [h]
theorem gcd_turn {a b x y : Int} (ha : 0 < a) (hb : 0 < b) (h : ∀ d : Int, d ∣ a → d ∣ b → d ∣ x ∧ d ∣ y) : 0 ≤ a.fmod b ∧ a.fmod b < b ∧ ∀ d : Int, d ∣ b → d ∣ a.fmod b → d ∣ x ∧ d ∣ y := by
  rw [Int.fmod_eq_emod_of_nonneg a (Int.le_of_lt hb)]
  refine ⟨Int.emod_nonneg _ (Int.ne_of_gt hb), Int.emod_lt_of_pos _ hb, fun d h1 h2 => h d ?_ h1⟩
  have e := Int.mul_ediv_add_emod a b
  rw [← e]
  exact Int.dvd_add (Int.dvd_mul_of_dvd_left h1) h2
theorem drop_tabs {h₀ h : Heap} {L : Addr} {q1 q4 q5 : Addr × Obj} {l : List (Addr × Obj)} (pre : List (Addr × Obj)) (N : News h₀ L h (q1 :: (pre ++ (q4 :: q5 :: l)))) : News h₀ L h (q1 :: q4 :: q5 :: l) :=
  cb_drop N fun q hq => by
    simp only [List.mem_cons, List.mem_append] at hq ⊢
    rcases hq with h | h | h | h <;> simp [h]
local macro_rules | `(tactic| k_room) => `(tactic| ktr_room)
local macro_rules | `(tactic| k_units) => `(tactic| ktr_units)
local macro_rules | `(tactic| k_all) => `(tactic| assumption)
local macro_rules | `(tactic| k_mem) => `(tactic| (refine mine_mem ?_; with_reducible assumption))
section
variable {w : World} {p : Program} {loose : List Str} {mean : ExcName → Option Value} {mg mb : Str → Option Value} {dp un : Nat} {gd : Option (List Code)} {cn : Str} {csn : List (Str × NameKind)} {csg csc : Bool} {csm : List (Str × Const)} {a : Addr} {ccd : Value} {cl : List (Str × Addr)} {outer : List Env} {A₀ : Around} {base h₀ : Heap} {L : Addr} {m : Str → Option Value} {news : List (Addr × Obj)} {s : Shared} {Q E : Value → Shared → Prop}
set_option maxRecDepth 100000 in
set_option maxHeartbeats 8000000 in
theorem struck_ok {x y : Int} {tx ty : Tok} {ps1 ps2 : Array Value}
    (B : Below A₀ base outer h₀) (F : Fr h₀ L s.heap m) (X : (hd.heap_39 w.params).In h₀) (N : News h₀ L s.heap ((44, tabObj ps1) :: (51, tabObj ps2) :: news)) (T : Top p loose mean mg mb h₀)
    (C1 : CodeHd base 48 44) (C2 : CodeHd base 55 51) (ha1 : ∀ q ∈ news, q.1 ≠ 44) (ha2 : ∀ q ∈ news, q.1 ≠ 51)
    (hp1 : TabOk (Str.ofString "_int2digits.<locals>.inner") 50 4 news ps1) (hp2 : TabOk (Str.ofString "_digits2int.<locals>.inner") 65 4 news ps2)
    (hx0 : 1 ≤ x) (hx1 : x ≤ 1000) (hy0 : 1 ≤ y) (hy1 : y ≤ 1000)
    (hd : dp + 100 < recursionLimit) (hu : un + 800 < cLine)
    (hret : ∀ D h' tk' t1 t2 u v ps1' ps2', Fr h₀ L h' m → News h₀ L h' ((D, tup [.int u t1, .int v t2]) :: (44, tabObj ps1') :: (51, tabObj ps2') :: news) → u * y = v * x → 1 ≤ u → u ≤ x → 1 ≤ v → v ≤ y →
      AllLt D news → @LT.lt Nat _ 44 D → @LT.lt Nat _ 51 D → Q (.ref D) { s with heap := h', toks := tk' }) :
    wpAny (model PySem.Challenge.rw_hg0003_02.row.prog w) (ktrTop dp un gd cn ⟨.function, csn, csg, csc, csm⟩ L a ccd cl outer) (call (.ref 98) [.int x tx, .int y ty]) Q E s := by
  revert X; k_fill; intro X
  w_top off
  k_with_none
  k_with "item" => ((with_reducible show wpAny _ _ (subscriptTail _ _ (Value.ref _) (Value.int _ _)) _ _ _); k_dflt (refine' kim_tup ?itN ?itm ?itc ?itd ?itlo ?ithi ?itj ?itx ?_ ?its; (case itN => k_asm); (case itm => k_mem); (case itc => exact rfl); (case itd => exact rfl); (case itlo => decide); (case ithi => decide); (case itj => exact rfl); (case itx => exact rfl); (case its => with_unfolding_all rfl)))
  k_with "abs" => k_dflt (with_reducible refine abs_v ?abh ?_; (case abh => omega); intro u9 tk9)
  k_with "while" => ((rename Fr _ _ _ _ => lF'); (rename News _ _ _ _ => lN'); (with_unfolding_all (refine' While_inv2 (fun n' m' news' => ∃ a b ta tb, m' (Str.ofString "a") = some (.int a ta) ∧ m' (Str.ofString "b") = some (.int b tb) ∧ m' (Str.ofString "one") = some (.int x tx) ∧ m' (Str.ofString "other") = some (.int y ty) ∧ news' = (44, tabObj ps1) :: (51, tabObj ps2) :: news ∧ 0 < a ∧ a ≤ 1000 ∧ 0 ≤ b ∧ b ≤ 1000 ∧ (∀ d : Int, d ∣ a → d ∣ b → d ∣ x ∧ d ∣ y) ∧ n' = b.toNat) (n₀ := y.toNat) lF' (kti_tail lN') ?whJ ?whT ?whE)); (case whJ => exact ⟨x, y, _, _, rfl, rfl, rfl, rfl, rfl, by omega, hx1, by omega, hy1, fun d h1 h2 => ⟨h1, h2⟩, rfl⟩); (case whE => first | passes_own | with_unfolding_all passes_own); rintro nn m₁ news₁ h₁ tk₁ F₁ N₁ ⟨a, b, ta, tb, hma, hmb, hmo, hmt, rfl, ha0, ha3, hb0, hb3, hdv, hnn⟩; have F2 := canon1 (x := Str.ofString "other") (v := .int y ty) F₁ hmt; have F3 := canon1 (x := Str.ofString "one") (v := .int x tx) F2 hmo; have F4 := canon1 (x := Str.ofString "b") (v := .int b tb) F3 hmb; have F5 := canon1 (x := Str.ofString "a") (v := .int a ta) F4 hma; clear F₁ F2 F3 F4 lF' lN')
  k_with "callr" => first
    | (have g := l9; clear g; (with_reducible show wpAny _ _ (call (Value.ref 70) _) _ _ _); k_dflt (refine' int_divmod_ok (ps1 := ps91) (ps2 := ps92) (news := (D9, tup [.int (x / a) t91, .int 0 t92]) :: q91 :: q92 :: news) ?k1 ?k2 ?k3 ?k4 ?k5 C1 C2 ?a1 ?a2 ?p1 ?p2 hy0 hy1 ?b0 ha3 ?ld ?lu ?_; (case k1 => k_asm); (case k2 => k_asm); (case k3 => k_asm); (case k4 => (refine cb_drop (by assumption) ?_; intro q hq; simp only [List.mem_cons] at hq ⊢; rcases hq with h | h | h | h | h | h <;> simp [h])); (case k5 => k_asm); (case a1 => exact List.forall_mem_cons.mpr ⟨Nat.ne_of_gt l9.1, a91⟩); (case a2 => exact List.forall_mem_cons.mpr ⟨Nat.ne_of_gt l9.2.1, a92⟩); (case p1 => exact p91.mono fun q hq => List.mem_cons_of_mem _ hq); (case p2 => exact p92.mono fun q hq => List.mem_cons_of_mem _ hq); (case b0 => omega); (case ld => (try dsimp only [Around.deeper]); omega); (case lu => (try dsimp only [Around.deeper]); omega); intro D8 h8 tk8 t81 t82 q81 q82 ps81 ps82 F8 N8 p81 p82 a81 a82 l8; rw [hzy] at N8; (try dsimp only)))
    | ((with_reducible show wpAny _ _ (call (Value.ref 70) _) _ _ _); have hbz : b = 0 := (by omega); have hg := hdv a (Int.dvd_refl a) (by rw [hbz]; exact Int.dvd_zero a); have hzx : x % a = 0 := Int.emod_eq_zero_of_dvd hg.1; have hzy : y % a = 0 := Int.emod_eq_zero_of_dvd hg.2; k_dflt (refine' int_divmod_ok (ps1 := ps1) (ps2 := ps2) ?k1 ?k2 ?k3 ?k4 ?k5 C1 C2 ha1 ha2 hp1 hp2 hx0 hx1 ?b0 ha3 ?ld ?lu ?_; (case k1 => k_asm); (case k2 => k_asm); (case k3 => k_asm); (case k4 => k_asm); (case k5 => k_asm); (case b0 => omega); (case ld => (try dsimp only [Around.deeper]); omega); (case lu => (try dsimp only [Around.deeper]); omega); intro D9 h9 tk9 t91 t92 q91 q92 ps91 ps92 F9 N9 p91 p92 a91 a92 l9; rw [hzx] at N9; (try dsimp only)))
  k_steps
  · obtain ⟨g1, g2, g3⟩ := gcd_turn ha0 (by omega) hdv
    unfold WhileStep2
    dsimp only
    exact ⟨_, _, _, _, (a.fmod b).toNat, rfl, by assumption, kti_tail (by assumption), by omega, b, a.fmod b, _, _, rfl, rfl, rfl, rfl, rfl, by omega, hb3, g1, by omega, g3, rfl⟩
  · have l1 := (by assumption : _ ∧ _ ∧ _ ∧ _ ∧ _ ∧ _ ∧ _ ∧ _ ∧ _ ∧ AllLt _ news)
    obtain ⟨e1, e2, e3⟩ := div_cross ha0 hg.1 hg.2 hx0
    obtain ⟨e4, e5, e6⟩ := div_cross ha0 hg.2 hg.1 hy0
    exact hret _ _ _ t91 t81 (x / a) (y / a) ps81 ps82 (by assumption) (drop_two [_, _] [_, _, _, _, _] (by assumption)) e1 e2 e3 e5 e6 l1.2.2.2.2.2.2.2.2.2 l1.2.2.1 l1.2.2.2.1
end
end Mine
namespace Mine
theorem six {ys : List Value} {f : Int → Int} {ms : List Int} {k : Int} (hl : ms.length = 6) (hf : ∀ n, 1 ≤ f n ∧ f n ≤ k) (h : IntsAre ys (ms.map f)) :
    ∃ n0 n1 n2 n3 n4 n5 t0 t1 t2 t3 t4 t5, ys = [.int n0 t0, .int n1 t1, .int n2 t2, .int n3 t3, .int n4 t4, .int n5 t5] ∧ (1 ≤ n0 ∧ n0 ≤ k) ∧ (1 ≤ n1 ∧ n1 ≤ k) ∧ (1 ≤ n2 ∧ n2 ≤ k) ∧ (1 ≤ n3 ∧ n3 ≤ k) ∧ (1 ≤ n4 ∧ n4 ≤ k) ∧ (1 ≤ n5 ∧ n5 ≤ k) := by
  match ms, hl with
  | [a, b, c, d, e, g], _ =>
    cases h with
    | cons _ t0 h => cases h with
      | cons _ t1 h => cases h with
        | cons _ t2 h => cases h with
          | cons _ t3 h => cases h with
            | cons _ t4 h => cases h with
              | cons _ t5 h =>
                cases h
                exact ⟨_, _, _, _, _, _, t0, t1, t2, t3, t4, t5, rfl, hf a, hf b, hf c, hf d, hf e, hf g⟩
theorem six_len (ns : List Int) : (List.take 6 (ns ++ (List.replicate 6 [0]).flatten)).length = 6 := by
  rw [List.length_take, List.length_append]
  have : (List.replicate 6 [(0 : Int)]).flatten.length = 6 := by decide
  omega
theorem fmod_range (n : Int) (k : Int) (hk : 0 < k) : 1 ≤ 1 + n.fmod k ∧ 1 + n.fmod k ≤ k := by
  rw [Int.fmod_eq_emod_of_nonneg n (Int.le_of_lt hk)]
  have := Int.emod_nonneg n (Int.ne_of_gt hk)
  have := Int.emod_lt_of_pos n hk
  omega
theorem big_sg (x : Int) {n : Int} (h : 1 ≤ n ∧ n ≤ 6) : Big ((1 - 2 * x.fmod 2) * n) := by
  have h1 := fmod_range x 2 (by decide)
  have h2 : x.fmod 2 = 0 ∨ x.fmod 2 = 1 := by omega
  rcases h2 with h2 | h2 <;> rw [h2] <;> exact ⟨by omega, by omega⟩
theorem cend_new {h₀ : Heap} {L I C D D9 : Addr} {m : Str → Option Value} {s₁ : Shared} {oI oC oD o9 : Obj} {S : List (Addr × Obj) → Prop} {rest : Value → List (Addr × Obj) → Prop} {h' : Heap} {tk : Nat} {old : List (Addr × Obj)}
    (F : Fr h₀ L h' m) (N : News h₀ L h' ((D9, o9) :: (I, oI) :: (C, oC) :: (D, oD) :: old)) (l : AllLt D9 ((I, oI) :: (C, oC) :: (D, oD) :: old)) (off : LCg.Off3 I C D old) (hS : S ((D9, o9) :: old)) (r : rest (.ref D9) ((D9, o9) :: old)) :
    LCg.CompEnd h₀ L m s₁ I oI C oC D oD S rest (.ref D9) { s₁ with heap := h', toks := tk } :=
  LCg.CompEnd.intro F N ((D9, o9) :: old) (by
    intro p hp
    simp only [List.mem_cons] at hp ⊢
    rcases hp with h | h | h | h | h <;> simp [h]) ⟨⟨Nat.ne_of_gt l.1, Nat.ne_of_gt l.2.1, Nat.ne_of_gt l.2.2.1⟩, off⟩ hS r
theorem ite_self {a b : Prop} {n : Int} (h : b) : if (n != n) = true then a else b := by rw [if_neg (by simp)]; exact h
theorem cend_same {h₀ : Heap} {L I C D : Addr} {m : Str → Option Value} {s₁ : Shared} {oI oC oD : Obj} {S : List (Addr × Obj) → Prop} {rest : Value → List (Addr × Obj) → Prop} {h' : Heap} {tk : Nat} {old : List (Addr × Obj)} {y : Value}
    (F : Fr h₀ L h' m) (N : News h₀ L h' ((I, oI) :: (C, oC) :: (D, oD) :: old)) (off : LCg.Off3 I C D old) (hS : S old) (r : rest y old) :
    LCg.CompEnd h₀ L m s₁ I oI C oC D oD S rest y { s₁ with heap := h', toks := tk } :=
  LCg.CompEnd.intro F N old (fun _ hp => hp) off hS r
theorem seq_ne {a : Addr} {c : Value} {d : Option Addr} {e : Array (Option Value)} {its : Array Value} {n : Nat} : ((a, (⟨c, d, .seq its n, e⟩ : Obj)) : Addr × Obj).2.data ≠ .cell none := fun h => nomatch h
theorem fields_ne {a : Addr} {c : Value} {d : Option Addr} {e : Array (Option Value)} {its : Array Value} : ((a, (⟨c, d, .fields its, e⟩ : Obj)) : Addr × Obj).2.data ≠ .cell none := fun h => nomatch h
theorem cell_ne {a : Addr} {o : Obj} {v : Value} (d : o.data = .cell (some v)) : ((a, o) : Addr × Obj).2.data ≠ .cell none := fun h => by
  have h' : o.data = .cell none := h
  rw [d] at h'; cases h'
def lawRest (k : Nat) : List Stmt := match PySem.Challenge.rw_hg0003_02.prog.main.body.drop 16 with
  | .FunctionDef _ _ b _ _ _ _ _ _ _ :: _ => b.drop k
  | _ => []
def lawScope : Scope := match PySem.Challenge.rw_hg0003_02.prog.main.body.drop 16 with
  | .FunctionDef _ _ _ _ _ _ sc _ _ _ :: _ => sc
  | _ => ⟨.function, [], false, false, []⟩
theorem set_unset {h₀ h : Heap} {L c : Addr} {o : Obj} {news rest : List (Addr × Obj)} (N : News h₀ L h news) (hc : (c, o) ∈ news) (hd : o.data = .cell none) (hr : ∀ q ∈ rest, q ∈ news ∧ q.2.data ≠ .cell none) :
    News h₀ L h ((c, o) :: rest) ∧ UpdF c o ((c, o) :: rest) (fun o' => (c, o') :: rest) := by
  refine ⟨cb_drop N fun q hq => ?_, .head fun q hq e => ?_⟩
  · rcases List.mem_cons.mp hq with rfl | hq
    · exact hc
    · exact (hr q hq).1
  · have h1 := (N _ (hr q hq).1).1
    rw [e, (N _ hc).1] at h1
    exact (hr q hq).2 ((Option.some.inj h1) ▸ hd)
theorem set_unset4 {h₀ h : Heap} {L c : Addr} {o : Obj} {q1 q2 q3 q4 : Addr × Obj} {rest : List (Addr × Obj)} (N : News h₀ L h (q1 :: q2 :: q3 :: q4 :: (c, o) :: rest)) (hd : o.data = .cell none)
    (h1 : q1.2.data ≠ .cell none) (h2 : q2.2.data ≠ .cell none) (h3 : q3.2.data ≠ .cell none) (h4 : q4.2.data ≠ .cell none) (hr : ∀ q ∈ rest, q.2.data ≠ .cell none) :
    News h₀ L h ((c, o) :: q1 :: q2 :: q3 :: q4 :: rest) ∧ UpdF c o ((c, o) :: q1 :: q2 :: q3 :: q4 :: rest) (fun o' => (c, o') :: q1 :: q2 :: q3 :: q4 :: rest) :=
  set_unset N (by simp) hd fun q hq => by
    simp only [List.mem_cons] at hq ⊢
    rcases hq with rfl | rfl | rfl | rfl | hq
    · exact ⟨by simp, h1⟩
    · exact ⟨by simp, h2⟩
    · exact ⟨by simp, h3⟩
    · exact ⟨by simp, h4⟩
    · exact ⟨by simp [hq], hr q hq⟩
section
variable {w : World} {p : Program} {loose : List Str} {mean : ExcName → Option Value} {mg mb : Str → Option Value} {dp un : Nat} {gd : Option (List Code)} {cn : Str} {csn : List (Str × NameKind)} {csg csc : Bool} {csm : List (Str × Const)} {a : Addr} {ccd : Value} {cl : List (Str × Addr)} {outer : List Env} {A₀ : Around} {base h₀ : Heap} {L : Addr} {m : Str → Option Value} {news : List (Addr × Obj)} {s : Shared} {Q E : Value → Shared → Prop}
theorem signed_v {a1 a2 a3 : Addr} {x0 x1 x2 y0 y1 y2 z0 z1 z2 : Int} {t0 t1 t2 u0 u1 u2 v0 v1 v2 : Tok}
    (B : Below A₀ base outer h₀) (F : Fr h₀ L s.heap m) (X : (hd.heap_39 w.params).In h₀) (N : News h₀ L s.heap news) (T : Top p loose mean mg mb h₀)
    (m1 : (a1, tup [.int x0 t0, .int x1 t1, .int x2 t2]) ∈ news) (m2 : (a2, tup [.int y0 u0, .int y1 u1, .int y2 u2]) ∈ news) (m3 : (a3, tup [.int z0 v0, .int z1 v1, .int z2 v2]) ∈ news)
    (bx0 : Big x0) (bx1 : Big x1) (bx2 : Big x2) (bz0 : Big z0) (bz1 : Big z1) (bz2 : Big z2)
    (hd : dp + 20 < recursionLimit) (hu : un + 160 < cLine)
    (hret : ∀ h' tk' t v, v = (x1 * y2 - x2 * y1) * z0 + (x2 * y0 - x0 * y2) * z1 + (x0 * y1 - x1 * y0) * z2 → Fr h₀ L h' m → News h₀ L h' news → Q (.int v t) { s with heap := h', toks := tk' }) :
    wpAny (model PySem.Challenge.rw_hg0003_02.row.prog w) (ktrTop dp un gd cn ⟨.function, csn, csg, csc, csm⟩ L a ccd cl outer) (call (.ref 91) [.ref a1, .ref a2, .ref a3]) Q E s :=
  signed_ok B F X N T m1 m2 m3 bx0 bx1 bx2 bz0 bz1 bz2 hd hu fun h' tk' t F' N' => hret h' tk' t _ rfl F' N'
end
theorem ite_zero {x y z : Int} {a b : Prop} (e : x = y - z) (h : b) : if ((x == 0) != (y == z)) = true then a else b := by
  have : (x == 0) = (y == z) := by
    rw [Bool.eq_iff_iff, beq_iff_eq, beq_iff_eq, e]; omega
  rw [this, if_neg (by simp)]; exact h
theorem ite_eq {x y : Int} {a b : Prop} (e : x = y) (h : b) : if (x != y) = true then a else b := by
  rw [e, if_neg (by simp)]; exact h
theorem tab_ne {h₀ h : Heap} {L P : Addr} {ps : Array Value} {all rest : List (Addr × Obj)} (N : News h₀ L h all) (hP : (P, tabObj ps) ∈ all) (hs : ∀ q ∈ rest, q ∈ all) (hr : ∀ q ∈ rest, ∀ ps, q.2.data ≠ .fields ps) : ∀ q ∈ rest, q.1 ≠ P := fun q hq e => by
  have h1 := (N _ (hs q hq)).1
  rw [e, (N _ hP).1] at h1
  exact hr q hq ps ((Option.some.inj h1) ▸ rfl)
theorem seq_nt {a : Addr} {c : Value} {d : Option Addr} {e : Array (Option Value)} {its : Array Value} {n : Nat} : ∀ ps, ((a, (⟨c, d, .seq its n, e⟩ : Obj)) : Addr × Obj).2.data ≠ .fields ps := fun _ h => nomatch h
theorem cell_nt {a : Addr} {o : Obj} {v : Option Value} (d : o.data = .cell v) : ∀ ps, ((a, o) : Addr × Obj).2.data ≠ .fields ps := fun ps h => by
  have h' : o.data = .fields ps := h
  rw [d] at h'; cases h'
theorem big_mul {a b : Int} (ha : 1 ≤ a ∧ a ≤ 6) (hb : 1 ≤ b ∧ b ≤ 6) : 1 ≤ a * b ∧ a * b ≤ 36 := by
  have h1 := Int.mul_le_mul ha.1 hb.1 (by decide) (by omega)
  have h2 := Int.mul_le_mul ha.2 hb.2 (by omega) (by decide)
  omega
theorem sub_init {α : Type} (l r : List α) : ∀ q ∈ l, q ∈ l ++ r := fun _ h => List.mem_append_left _ h
theorem sub_init2 {α : Type} (l : List α) (a b : α) : ∀ q ∈ a :: b :: l, q ∈ l ++ [b, a] := fun q h => by
  simp only [List.mem_cons, List.mem_append, List.not_mem_nil, or_false] at h ⊢
  rcases h with h | h | h <;> simp [h]
theorem news_mid {h₀ h : Heap} {L : Addr} {q1 q2 q3 : Addr × Obj} {l : List (Addr × Obj)} (N : News h₀ L h (q1 :: q2 :: q3 :: l)) : News h₀ L h (q1 :: l) := cb_drop N fun q hq => by
  rcases List.mem_cons.mp hq with h | h
  · simp [h]
  · simp [h]
theorem gen_toks {α : Type} {M : Model} {A : Around} {T : Sem α} {Q : α → Shared → Prop} {E : Value → Shared → Prop} {h g d o} {X : Nat} (hh : ∀ tk, wpAny M A T Q E ⟨h, g, d, tk, o⟩) : wpAny M A T Q E ⟨h, g, d, X, o⟩ := hh X
theorem sig1 {n0 n1 n2 n3 tu tv : Int} (h : tu * (n0 * n2) = tv * (n1 * n3)) : (-n1 * -n3 - n0 * 0) * -tv + (n0 * n2 - 0 * -n3) * tu + (0 * 0 - -n1 * n2) * 0 = 0 := by grind
theorem sig2 {n0 n1 n2 n3 tu tv : Int} (h : tu * (n0 * n2) = tv * (n1 * n3)) : (n0 * n2 - n1 * 0) * -tu + (n1 * n3 - 0 * n2) * tv + (0 * 0 - n0 * n3) * 0 = 0 := by grind
theorem sig3a {n0 n1 n2 : Int} : (0 * n2 - 0 * n1) * n0 + (0 * 0 - 1 * n2) * n1 + (1 * n1 - 0 * 0) * n2 = 0 := by grind
theorem sig3b {n0 n1 n2 : Int} : (1 * n2 - 0 * 0) * n0 + (0 * n0 - 0 * n2) * n1 + (0 * 0 - 1 * n0) * n2 = 0 := by grind
theorem sig3c {n0 n1 n2 : Int} : (0 * 0 - 1 * n1) * n0 + (1 * n0 - 0 * 0) * n1 + (0 * n1 - 0 * n0) * n2 = 0 := by grind
theorem unr_end {h₀ : Heap} {L I : Addr} {it : Obj} {rest : (Str → Option Value) → List (Addr × Obj) → Prop} {s₁ : Shared} {h' : Heap} {tk : Nat} {m' : Str → Option Value} {all : List (Addr × Obj)} {ps : Array Value} (news' : List (Addr × Obj)) (F : Fr h₀ L h' m') (N : News h₀ L h' all)
    (hI : (I, it) ∈ all) (hit : it.data = .fields ps) (sub : ∀ p ∈ news', p ∈ all) (off : ∀ p ∈ news', ∀ ps, p.2.data ≠ .fields ps) (r : rest m' news') : UnrEnd h₀ L s₁ I it rest { s₁ with heap := h', toks := tk } :=
  UnrEnd.intro F N news' (fun p hp => by
    rcases List.mem_cons.mp hp with rfl | hp
    · exact hI
    · exact sub p hp) (fun p hp e => by
    have h1 := (N _ (sub p hp)).1
    have h2 := (N _ hI).1
    rw [e] at h1
    exact off p hp ps ((Option.some.inj (h1.symm.trans h2)) ▸ hit)) r
theorem sub_tail {h₀ h : Heap} {L : Addr} {l : List (Addr × Obj)} (pre post : List (Addr × Obj)) (N : News h₀ L h (pre ++ (l ++ post))) : News h₀ L h l := cb_drop N fun q hq => by
  simp [hq]
theorem unr_end3 {h₀ : Heap} {L I : Addr} {it : Obj} {rest : (Str → Option Value) → List (Addr × Obj) → Prop} {s₁ : Shared} {h' : Heap} {tk : Nat} {m' : Str → Option Value} {q1 q2 : Addr × Obj} {news' : List (Addr × Obj)} {ps : Array Value} (F : Fr h₀ L h' m') (N : News h₀ L h' (q1 :: q2 :: (I, it) :: news'))
    (hit : it.data = .fields ps) (off : ∀ p ∈ news', ∀ ps, p.2.data ≠ .fields ps) (r : rest m' news') : UnrEnd h₀ L s₁ I it rest { s₁ with heap := h', toks := tk } :=
  unr_end news' F N (by simp) hit (fun p hp => by simp [hp]) off r
theorem pick14 {h₀ h : Heap} {L : Addr} {q1 q2 q3 q4 q5 q6 q7 q8 q9 q10 q11 q12 q13 q14 q15 q16 q17 q18 : Addr × Obj} (N : News h₀ L h [q1, q2, q3, q4, q5, q6, q7, q8, q9, q10, q11, q12, q13, q14, q15, q16, q17, q18]) :
    News h₀ L h [q14, q15, q16, q10, q13, q12, q11, q5, q1, q4, q3, q2, q17, q18] := cb_drop N fun q hq => by
  simp only [List.mem_cons, List.not_mem_nil, or_false] at hq ⊢
  rcases hq with h | h | h | h | h | h | h | h | h | h | h | h | h | h <;> simp [h]
theorem sg6 (x : Int) {n : Int} (h : 1 ≤ n ∧ n ≤ 6) : -6 ≤ (1 - 2 * x.fmod 2) * n ∧ (1 - 2 * x.fmod 2) * n ≤ 6 := by
  have h1 := fmod_range x 2 (by decide)
  have h2 : x.fmod 2 = 0 ∨ x.fmod 2 = 1 := by omega
  rcases h2 with h2 | h2 <;> rw [h2] <;> constructor <;> omega
theorem cut12 {h₀ h : Heap} {L : Addr} {t1 t2 : Addr × Obj} (pre mid l post : List (Addr × Obj)) (N : News h₀ L h (pre ++ (t1 :: t2 :: (mid ++ (l ++ post))))) : News h₀ L h (t1 :: t2 :: l) := cb_drop N fun q hq => by
  rcases List.mem_cons.mp hq with h | hq
  · simp [h]
  · rcases List.mem_cons.mp hq with h | hq
    · simp [h]
    · simp [hq]
theorem seq_it {a : Addr} {c : Value} {d : Option Addr} {e : Array (Option Value)} {its : Array Value} {n : Nat} {x y : Int} : ((a, (⟨c, d, .seq its n, e⟩ : Obj)) : Addr × Obj).2 ≠ itR x y := fun h => nomatch (congrArg Obj.data h : Data.seq its n = Data.fields _)
theorem tab_it {a : Addr} {ps : Array Value} {x y : Int} : ((a, tabObj ps) : Addr × Obj).2 ≠ itR x y := fun h => nomatch (congrArg Obj.cls h : Value.none = Value.type _)
theorem cell_it {a : Addr} {o : Obj} {v : Option Value} {x y : Int} (d : o.data = .cell v) : ((a, o) : Addr × Obj).2 ≠ itR x y := fun h => by
  have h' : o.data = (itR x y).data := congrArg Obj.data h
  rw [d] at h'; cases h'
theorem unr_end4 {h₀ : Heap} {L I : Addr} {x y : Int} {rest : (Str → Option Value) → List (Addr × Obj) → Prop} {s₁ : Shared} {h' : Heap} {tk : Nat} {m' : Str → Option Value} {q1 q2 : Addr × Obj} {news' : List (Addr × Obj)} (F : Fr h₀ L h' m') (N : News h₀ L h' (q1 :: q2 :: (I, itR x y) :: news'))
    (off : ∀ p ∈ news', p.2 ≠ itR x y) (r : rest m' news') : UnrEnd h₀ L s₁ I (itR x y) rest { s₁ with heap := h', toks := tk } :=
  UnrEnd.intro F N news' (fun p hp => by
    rcases List.mem_cons.mp hp with rfl | hp
    · simp
    · simp [hp]) (fun p hp e => by
    have h1 := (N p (by simp [hp])).1
    have h2 := (N (I, itR x y) (by simp)).1
    rw [e] at h1
    exact off p hp (Option.some.inj (h1.symm.trans h2))) r
end Mine
namespace Mine
local macro_rules | `(tactic| k_room) => `(tactic| ktr_room)
local macro_rules | `(tactic| k_units) => `(tactic| ktr_units)
local macro_rules | `(tactic| k_mem) => `(tactic| (refine mine_mem ?_; with_reducible assumption))
local macro_rules | `(tactic| k_ne) => `(tactic| (refine neN ?_; (try dsimp only); first | (with_reducible assumption) | (with_reducible exact Ne.symm (by assumption)) | (with_reducible exact Nat.ne_of_gt (by assumption)) | (with_reducible exact Nat.ne_of_lt (by assumption))))
section
variable {w : World} {p : Program} {loose : List Str} {mean : ExcName → Option Value} {mg mb : Str → Option Value} {dp un : Nat} {gd : Option (List Code)} {a : Addr} {ccd : Value} {outer : List Env} {A₀ : Around} {base h₀ : Heap} {L : Addr} {m : Str → Option Value} {s : Shared} {Q : Flow → Shared → Prop} {E : Value → Shared → Prop}
set_option maxRecDepth 100000 in
set_option maxHeartbeats 8000000 in
theorem w16 {sc : Scope} {body : List Stmt} {c1 aC C0 C1 C2 aN : Addr} {t0 t1 t2 t3 t4 t5 t6 t7 t8 t9 t10 t11 t12 t13 t14 : Tok} {o1 : Obj} {c2 c3 : Addr} {n0 n1 n2 n3 n4 n5 : Int}  {ps1 ps2 : Array Value}
    (hsc : sc = lawScope) (hbody : body = lawRest 16)
    (B : Below A₀ base outer h₀) (F : Fr h₀ L s.heap (fun y => if y = Str.ofString "numbers" then some (.ref aN) else m y)) (X : (hd.heap_39 w.params).In h₀) (T : Top p loose mean mg mb h₀)
    (N : News h₀ L s.heap [(44, tabObj ps1), (51, tabObj ps2), (c1, o1), (aC, W.listOf #[.ref C0, .ref C1, .ref C2] 0), (C0, tup [.int 1 t0, .int 0 t1, .int 0 t2]), (C1, tup [.int 0 t3, .int 1 t4, .int 0 t5]), (C2, tup [.int 0 t6, .int 0 t7, .int 1 t8]), (aN, LCg.lst [.int n0 t9, .int n1 t10, .int n2 t11, .int n3 t12, .int n4 t13, .int n5 t14])])
    (d1 : o1.data = .cell (some (.ref aC)))
    (hn0 : 1 ≤ n0 ∧ n0 ≤ 6) (hn1 : 1 ≤ n1 ∧ n1 ≤ 6) (hn2 : 1 ≤ n2 ∧ n2 ≤ 6)
    (hd : dp + 200 < recursionLimit) (hu : un + 2000 < cLine)
    (hE : PassesOwn (model PySem.Challenge.rw_hg0003_02.row.prog w) (ktrTop dp un gd (Str.ofString "law") sc L a ccd [(Str.ofString "points", c3), (Str.ofString "pairs", c2), (Str.ofString "corners", c1)] outer) (envX (Str.ofString "law") sc L a ccd [(Str.ofString "points", c3), (Str.ofString "pairs", c2), (Str.ofString "corners", c1)]) E)
    (hret : ∀ m' news' qs1 qs2 h' tk', Fr h₀ L h' m' → News h₀ L h' news' → (44, tabObj qs1) ∈ news' → (51, tabObj qs2) ∈ news' → Q (.ret (.bool true)) { s with heap := h', toks := tk' }) :
    wpAny (model PySem.Challenge.rw_hg0003_02.row.prog w) (ktrTop dp un gd (Str.ofString "law") sc L a ccd [(Str.ofString "points", c3), (Str.ofString "pairs", c2), (Str.ofString "corners", c1)] outer) (execs body (envX (Str.ofString "law") sc L a ccd [(Str.ofString "points", c3), (Str.ofString "pairs", c2), (Str.ofString "corners", c1)])) Q E s := by
  conv at hsc => rhs; whnf
  conv at hbody => rhs; whnf
  subst hsc hbody
  revert X; k_fill; intro X
  w_top off
  k_with_none
  k_with "nil" => ((with_reducible refine gen_toks ?_); intro tk9; refine wpAny_execs_nil ?_; dsimp only)
  k_with "item" => ((with_reducible show wpAny _ _ (subscriptTail _ _ (Value.ref _) (Value.int _ _)) _ _ _); k_dflt ((refine kba_turn (value' := PySem.Expr.Name (PySem.Str.ofString "_") ⟨0, 0, 0, 0⟩) (fun _ => rfl) ?_); first | (refine' kim_tup ?itN ?itm ?itc ?itd ?itlo ?ithi ?itj ?itx ?_ ?its; (case itN => k_asm); (case itm => k_mem); (case itc => exact rfl); (case itd => exact rfl); (case itlo => decide); (case ithi => decide); (case itj => exact rfl); (case itx => exact rfl); (case its => with_unfolding_all rfl)) | (refine' kim_list ?itN ?itm ?itc ?itd ?itlo ?ithi ?itx ?_ ?its; (case itN => k_asm); (case itm => k_mem); (case itc => exact rfl); (case itd => exact rfl); (case itlo => decide); (case ithi => decide); (case itx => exact rfl); (case its => with_unfolding_all rfl))))
  k_with "cw" => (k_here; k_dflt (first | (refine' callWith_K ?kq1 ?kq2 ?_; (case kq1 => k_asm); (case kq2 => k_is); k_whole) | (refine' callWith_K0 ?kq1 ?kq2 ?_; (case kq1 => k_in); (case kq2 => k_is); k_whole)))
  k_with "callr" => first
    | ((with_reducible show wpAny _ _ (call (Value.ref 77) _) _ _ _); k_dflt (refine' law_sum_ok ?k1 ?k2 ?k3 ?k4 ?k5 ?m1 ?m2 ?e1 ?e2 ?ld ?lu ?_; (case k2 => k_asm); (case k1 => k_asm); (case k3 => k_asm); (case k4 => k_asm); (case k5 => k_asm); (case m1 => k_mem); (case m2 => k_mem); (case e1 => exact ⟨by omega, by omega⟩); (case e2 => exact ⟨by omega, by omega⟩); (case ld => ((try dsimp only [Around.deeper]); omega)); (case lu => ((try dsimp only [Around.deeper]); omega)); intro D9 h9 tk9 v0 v1 v2 F9 N9 l9; (simp only [Int.mul_zero, Int.zero_mul, Int.mul_one, Int.one_mul, Int.zero_add, Int.add_zero, Int.zero_sub, Int.sub_zero, Int.sub_self, Int.add_left_neg] at N9); (try dsimp only)))
    | ((with_reducible show wpAny _ _ (call (Value.ref 84) _) _ _ _); k_dflt (refine' across_ok ?k1 ?k2 ?k3 ?k4 ?k5 ?m1 ?m2 ?e1 ?e2 ?e3 ?ld ?lu ?_; (case k2 => k_asm); (case k1 => k_asm); (case k3 => k_asm); (case k4 => k_asm); (case k5 => k_asm); (case m1 => k_mem); (case m2 => k_mem); (case e1 => exact ⟨by omega, by omega⟩); (case e2 => exact ⟨by omega, by omega⟩); (case e3 => exact ⟨by omega, by omega⟩); (case ld => ((try dsimp only [Around.deeper]); omega)); (case lu => ((try dsimp only [Around.deeper]); omega)); intro D9 h9 tk9 v0 v1 v2 F9 N9 l9; (simp only [Int.mul_zero, Int.zero_mul, Int.mul_one, Int.one_mul, Int.zero_add, Int.add_zero, Int.zero_sub, Int.sub_zero, Int.sub_self, Int.add_left_neg] at N9); (try dsimp only)))
    | ((with_reducible show wpAny _ _ (call (Value.ref 91) _) _ _ _); k_dflt (refine' signed_v ?k1 ?k2 ?k3 ?k4 ?k5 ?m1 ?m2 ?m3 ?e1 ?e2 ?e3 ?e4 ?e5 ?e6 ?ld ?lu ?_; (case k2 => k_asm); (case k1 => k_asm); (case k3 => k_asm); (case k4 => k_asm); (case k5 => k_asm); (case m1 => k_mem); (case m2 => k_mem); (case m3 => k_mem); (case e1 => exact ⟨by omega, by omega⟩); (case e2 => exact ⟨by omega, by omega⟩); (case e3 => exact ⟨by omega, by omega⟩); (case e4 => exact ⟨by omega, by omega⟩); (case e5 => exact ⟨by omega, by omega⟩); (case e6 => exact ⟨by omega, by omega⟩); (case ld => ((try dsimp only [Around.deeper]); omega)); (case lu => ((try dsimp only [Around.deeper]); omega)); intro h9 tk9 v0 sv9 hsv9 F9 N9; (try dsimp only)))
  k_with "for" => (k_here; (rename Fr _ _ _ _ => lF'); (with_unfolding_all refine' For_invVF lF' ?k1 ?k2 ?_ ?k4 hE; (case k1 => exact rfl); (case k2 => exact rfl); (case k4 => intro _; rfl); k_whole))
  k_with "iter" => ((with_reducible show wpAny _ _ (pyIter (Value.ref _)) (fun it s₂ => LoopAtV _ _ _ _ _ _ _ _ _ it s₂) _ _); (rename Fr _ _ _ _ => lF'); (rename News _ _ _ _ => lN'); (with_unfolding_all refine iter_rangeUnr (n := 3) (by rfl) (by assumption) (by first | decide | rfl) (by first | decide | rfl) lF' lN' ?_); clear lF' lN'; intro i' l1; clear l1)
  k_with "unrend" => ((rename Fr _ _ _ _ => lF'); (rename News _ _ _ _ => lN'); k_dflt (refine unr_end4 lF' lN' ?off ?_; (case off => (repeat (first | exact List.forall_mem_nil _ | refine List.forall_mem_cons.mpr ⟨by (first | (with_reducible exact cell_it d1) | exact seq_it | exact tab_it), ?_⟩)))))
  k_with "ite1" => ((with_reducible show (if ((_ : Int) != _) = true then _ else _)); with_reducible (first | refine ite_eq (hsv9.trans sig3a) ?_ | refine ite_eq (hsv9.trans sig3b) ?_ | refine ite_eq (hsv9.trans sig3c) ?_))
  k_steps
  all_goals first | k_data | ((rename Fr _ _ _ _ => lF'); (rename News _ _ _ _ => lN'); exact hret _ _ _ _ _ _ lF' lN' (by k_mem) (by k_mem))
end
end Mine
namespace Mine
local macro_rules | `(tactic| k_room) => `(tactic| ktr_room)
local macro_rules | `(tactic| k_units) => `(tactic| ktr_units)
local macro_rules | `(tactic| k_mem) => `(tactic| (refine mine_mem ?_; with_reducible assumption))
local macro_rules | `(tactic| k_ne) => `(tactic| (refine neN ?_; (try dsimp only); first | (with_reducible assumption) | (with_reducible exact Ne.symm (by assumption)) | (with_reducible exact Nat.ne_of_gt (by assumption)) | (with_reducible exact Nat.ne_of_lt (by assumption))))
section
variable {w : World} {p : Program} {loose : List Str} {mean : ExcName → Option Value} {mg mb : Str → Option Value} {dp un : Nat} {gd : Option (List Code)} {a : Addr} {ccd : Value} {outer : List Env} {A₀ : Around} {base h₀ : Heap} {L : Addr} {m : Str → Option Value} {s : Shared} {Q : Flow → Shared → Prop} {E : Value → Shared → Prop}
set_option maxRecDepth 100000 in
set_option maxHeartbeats 8000000 in
theorem w12 {sc : Scope} {body : List Stmt} {aT aL L2 L1 L0 c3 aQ Q2 Q1 Q0 c2 c1 aC C0 C1 C2 aN aP P0 P1 P2 : Addr} {t0 t1 t2 t3 t4 t5 t6 t7 t8 t9 t10 t11 t12 t13 t14 t15 t16 t17 t18 t19 t20 t21 t22 t23 t24 t25 t26 t27 t28 t29 t30 t31 t32 t33 t34 t35 t36 t37 t38 t39 t40 : Tok} {o1 o2 o3 : Obj} {n0 n1 n2 n3 n4 n5 p4 : Int}  {tu tv : Int} {ps1 ps2 : Array Value}
    (hsc : sc = lawScope) (hbody : body = lawRest 12)
    (B : Below A₀ base outer h₀) (F : Fr h₀ L s.heap (fun y => if y = Str.ofString "told" then some (.ref aT) else if y = Str.ofString "lines" then some (.ref aL) else if y = Str.ofString "numbers" then some (.ref aN) else m y)) (X : (hd.heap_39 w.params).In h₀) (T : Top p loose mean mg mb h₀)
    (N : News h₀ L s.heap [(aT, tup [.int tu t39, .int tv t40]), (44, tabObj ps1), (51, tabObj ps2), (aL, LCg.lst [.ref L0, .ref L1, .ref L2]), (L2, tup [.int (-n5) t0, .int p4 t1, .int 0 t2]), (L1, tup [.int n2 t3, .int 0 t4, .int (-n3) t5]), (L0, tup [.int 0 t6, .int (-n1) t7, .int n0 t8]), (c3, o3), (aQ, LCg.lst [.ref Q0, .ref Q1, .ref Q2]), (Q2, tup [.int p4 t9, .int n5 t10, .int 0 t11]), (Q1, tup [.int n3 t12, .int 0 t13, .int n2 t14]), (Q0, tup [.int 0 t15, .int n0 t16, .int n1 t17]), (c2, o2), (c1, o1), (aC, W.listOf #[.ref C0, .ref C1, .ref C2] 0), (C0, tup [.int 1 t18, .int 0 t19, .int 0 t20]), (C1, tup [.int 0 t21, .int 1 t22, .int 0 t23]), (C2, tup [.int 0 t24, .int 0 t25, .int 1 t26]), (aN, LCg.lst [.int n0 t27, .int n1 t28, .int n2 t29, .int n3 t30, .int n4 t31, .int n5 t32]), (aP, W.listOf #[.ref P0, .ref P1, .ref P2] 0), (P0, tup [.int n0 t33, .int n1 t34]), (P1, tup [.int n2 t35, .int n3 t36]), (P2, tup [.int p4 t37, .int n5 t38])])
    (d1 : o1.data = .cell (some (.ref aC))) (d2 : o2.data = .cell (some (.ref aP))) (d3 : o3.data = .cell (some (.ref aQ)))
    (hn0 : 1 ≤ n0 ∧ n0 ≤ 6) (hn1 : 1 ≤ n1 ∧ n1 ≤ 6) (hn2 : 1 ≤ n2 ∧ n2 ≤ 6) (hn3 : 1 ≤ n3 ∧ n3 ≤ 6) (hn4 : -6 ≤ p4 ∧ p4 ≤ 6) (hn5 : 1 ≤ n5 ∧ n5 ≤ 6)
    (htu : 1 ≤ tu ∧ tu ≤ 1000) (htv : 1 ≤ tv ∧ tv ≤ 1000) (htt : tu * (n0 * n2) = tv * (n1 * n3))
    (hd : dp + 200 < recursionLimit) (hu : un + 2000 < cLine)
    (hE : PassesOwn (model PySem.Challenge.rw_hg0003_02.row.prog w) (ktrTop dp un gd (Str.ofString "law") sc L a ccd [(Str.ofString "points", c3), (Str.ofString "pairs", c2), (Str.ofString "corners", c1)] outer) (envX (Str.ofString "law") sc L a ccd [(Str.ofString "points", c3), (Str.ofString "pairs", c2), (Str.ofString "corners", c1)]) E)
    (hret : ∀ m' news' qs1 qs2 h' tk', Fr h₀ L h' m' → News h₀ L h' news' → (44, tabObj qs1) ∈ news' → (51, tabObj qs2) ∈ news' → Q (.ret (.bool true)) { s with heap := h', toks := tk' }) :
    wpAny (model PySem.Challenge.rw_hg0003_02.row.prog w) (ktrTop dp un gd (Str.ofString "law") sc L a ccd [(Str.ofString "points", c3), (Str.ofString "pairs", c2), (Str.ofString "corners", c1)] outer) (execs body (envX (Str.ofString "law") sc L a ccd [(Str.ofString "points", c3), (Str.ofString "pairs", c2), (Str.ofString "corners", c1)])) Q E s := by
  conv at hsc => rhs; whnf
  conv at hbody => rhs; whnf
  subst hsc hbody
  revert X; k_fill; intro X
  w_top off
  k_with_none
  k_with "nil" => ((with_reducible refine gen_toks ?_); intro tk9; refine wpAny_execs_nil ?_; dsimp only)
  k_with "item" => ((with_reducible show wpAny _ _ (subscriptTail _ _ (Value.ref _) (Value.int _ _)) _ _ _); k_dflt ((refine kba_turn (value' := PySem.Expr.Name (PySem.Str.ofString "_") ⟨0, 0, 0, 0⟩) (fun _ => rfl) ?_); first | (refine' kim_tup ?itN ?itm ?itc ?itd ?itlo ?ithi ?itj ?itx ?_ ?its; (case itN => k_asm); (case itm => k_mem); (case itc => exact rfl); (case itd => exact rfl); (case itlo => decide); (case ithi => decide); (case itj => exact rfl); (case itx => exact rfl); (case its => with_unfolding_all rfl)) | (refine' kim_list ?itN ?itm ?itc ?itd ?itlo ?ithi ?itx ?_ ?its; (case itN => k_asm); (case itm => k_mem); (case itc => exact rfl); (case itd => exact rfl); (case itlo => decide); (case ithi => decide); (case itx => exact rfl); (case its => with_unfolding_all rfl))))
  k_with "cw" => (k_here; k_dflt (first | (refine' callWith_K ?kq1 ?kq2 ?_; (case kq1 => k_asm); (case kq2 => k_is); k_whole) | (refine' callWith_K0 ?kq1 ?kq2 ?_; (case kq1 => k_in); (case kq2 => k_is); k_whole)))
  k_with "callr" => first
    | ((with_reducible show wpAny _ _ (call (Value.ref 77) _) _ _ _); k_dflt (refine' law_sum_ok ?k1 ?k2 ?k3 ?k4 ?k5 ?m1 ?m2 ?e1 ?e2 ?ld ?lu ?_; (case k2 => k_asm); (case k1 => k_asm); (case k3 => k_asm); (case k4 => k_asm); (case k5 => k_asm); (case m1 => k_mem); (case m2 => k_mem); (case e1 => exact ⟨by omega, by omega⟩); (case e2 => exact ⟨by omega, by omega⟩); (case ld => ((try dsimp only [Around.deeper]); omega)); (case lu => ((try dsimp only [Around.deeper]); omega)); intro D9 h9 tk9 v0 v1 v2 F9 N9 l9; (simp only [Int.mul_zero, Int.zero_mul, Int.mul_one, Int.one_mul, Int.zero_add, Int.add_zero, Int.zero_sub, Int.sub_zero, Int.sub_self, Int.add_left_neg] at N9); (try dsimp only)))
    | ((with_reducible show wpAny _ _ (call (Value.ref 84) _) _ _ _); k_dflt (refine' across_ok ?k1 ?k2 ?k3 ?k4 ?k5 ?m1 ?m2 ?e1 ?e2 ?e3 ?ld ?lu ?_; (case k2 => k_asm); (case k1 => k_asm); (case k3 => k_asm); (case k4 => k_asm); (case k5 => k_asm); (case m1 => k_mem); (case m2 => k_mem); (case e1 => exact ⟨by omega, by omega⟩); (case e2 => exact ⟨by omega, by omega⟩); (case e3 => exact ⟨by omega, by omega⟩); (case ld => ((try dsimp only [Around.deeper]); omega)); (case lu => ((try dsimp only [Around.deeper]); omega)); intro D9 h9 tk9 v0 v1 v2 F9 N9 l9; (simp only [Int.mul_zero, Int.zero_mul, Int.mul_one, Int.one_mul, Int.zero_add, Int.add_zero, Int.zero_sub, Int.sub_zero, Int.sub_self, Int.add_left_neg] at N9); (try dsimp only)))
    | ((with_reducible show wpAny _ _ (call (Value.ref 91) _) _ _ _); k_dflt (refine' signed_v ?k1 ?k2 ?k3 ?k4 ?k5 ?m1 ?m2 ?m3 ?e1 ?e2 ?e3 ?e4 ?e5 ?e6 ?ld ?lu ?_; (case k2 => k_asm); (case k1 => k_asm); (case k3 => k_asm); (case k4 => k_asm); (case k5 => k_asm); (case m1 => k_mem); (case m2 => k_mem); (case m3 => k_mem); (case e1 => exact ⟨by omega, by omega⟩); (case e2 => exact ⟨by omega, by omega⟩); (case e3 => exact ⟨by omega, by omega⟩); (case e4 => exact ⟨by omega, by omega⟩); (case e5 => exact ⟨by omega, by omega⟩); (case e6 => exact ⟨by omega, by omega⟩); (case ld => ((try dsimp only [Around.deeper]); omega)); (case lu => ((try dsimp only [Around.deeper]); omega)); intro h9 tk9 v0 sv9 hsv9 F9 N9; (try dsimp only)))
  k_with "ite1" => ((with_reducible show (if ((_ : Int) != _) = true then _ else _)); with_reducible (first | refine ite_eq (hsv9.trans (sig1 htt)) ?_ | refine ite_eq (hsv9.trans (sig2 htt)) ?_))
  k_with "next" => ((with_reducible show wpAny _ _ (execs (Stmt.Assign [Expr.Name (Str.ofString "weights") _] _ _ :: _) _) _ _ _); (rename Fr _ _ _ _ => lF'); (rename News _ _ _ _ => lN'); refine' w16 ?nx1 ?nx2 B ?nxF X T ?nxN d1 hn0 hn1 hn2 hd hu hE hret; (case nx1 => rfl); (case nx2 => rfl); (case nxF => exact canon1 lF' rfl); (case nxN => exact cut12 [_, _, _, _] [_, _, _, _, _, _, _, _, _, _] [_, _, _, _, _, _] [_, _, _, _] lN'))
  k_steps
  all_goals (try k_data)
end
end Mine
namespace Mine
local macro_rules | `(tactic| k_room) => `(tactic| ktr_room)
local macro_rules | `(tactic| k_units) => `(tactic| ktr_units)
local macro_rules | `(tactic| k_mem) => `(tactic| (refine mine_mem ?_; with_reducible assumption))
local macro_rules | `(tactic| k_ne) => `(tactic| (refine neN ?_; (try dsimp only); first | (with_reducible assumption) | (with_reducible exact Ne.symm (by assumption)) | (with_reducible exact Nat.ne_of_gt (by assumption)) | (with_reducible exact Nat.ne_of_lt (by assumption))))
section
variable {w : World} {p : Program} {loose : List Str} {mean : ExcName → Option Value} {mg mb : Str → Option Value} {dp un : Nat} {gd : Option (List Code)} {a : Addr} {ccd : Value} {outer : List Env} {A₀ : Around} {base h₀ : Heap} {L : Addr} {m : Str → Option Value} {s : Shared} {Q : Flow → Shared → Prop} {E : Value → Shared → Prop}
set_option maxRecDepth 100000 in
set_option maxHeartbeats 8000000 in
theorem w10 {sc : Scope} {body : List Stmt} {aL L2 L1 L0 c3 aQ Q2 Q1 Q0 c2 c1 aC C0 C1 C2 aN aP P0 P1 P2 : Addr} {t0 t1 t2 t3 t4 t5 t6 t7 t8 t9 t10 t11 t12 t13 t14 t15 t16 t17 t18 t19 t20 t21 t22 t23 t24 t25 t26 t27 t28 t29 t30 t31 t32 t33 t34 t35 t36 t37 t38 : Tok} {o1 o2 o3 : Obj} {n0 n1 n2 n3 n4 n5 p4 : Int} 
    (hsc : sc = lawScope) (hbody : body = lawRest 10) (HC1 : CodeHd base 48 44) (HC2 : CodeHd base 55 51)
    (B : Below A₀ base outer h₀) (F : Fr h₀ L s.heap (fun y => if y = Str.ofString "lines" then some (.ref aL) else if y = Str.ofString "numbers" then some (.ref aN) else m y)) (X : (hd.heap_39 w.params).In h₀) (T : Top p loose mean mg mb h₀)
    (N : News h₀ L s.heap [(aL, LCg.lst [.ref L0, .ref L1, .ref L2]), (L2, tup [.int (-n5) t0, .int p4 t1, .int 0 t2]), (L1, tup [.int n2 t3, .int 0 t4, .int (-n3) t5]), (L0, tup [.int 0 t6, .int (-n1) t7, .int n0 t8]), (c3, o3), (aQ, LCg.lst [.ref Q0, .ref Q1, .ref Q2]), (Q2, tup [.int p4 t9, .int n5 t10, .int 0 t11]), (Q1, tup [.int n3 t12, .int 0 t13, .int n2 t14]), (Q0, tup [.int 0 t15, .int n0 t16, .int n1 t17]), (c2, o2), (c1, o1), (aC, W.listOf #[.ref C0, .ref C1, .ref C2] 0), (C0, tup [.int 1 t18, .int 0 t19, .int 0 t20]), (C1, tup [.int 0 t21, .int 1 t22, .int 0 t23]), (C2, tup [.int 0 t24, .int 0 t25, .int 1 t26]), (aN, LCg.lst [.int n0 t27, .int n1 t28, .int n2 t29, .int n3 t30, .int n4 t31, .int n5 t32]), (aP, W.listOf #[.ref P0, .ref P1, .ref P2] 0), (P0, tup [.int n0 t33, .int n1 t34]), (P1, tup [.int n2 t35, .int n3 t36]), (P2, tup [.int p4 t37, .int n5 t38]), (51, tabObj #[]), (44, tabObj #[])])
    (d1 : o1.data = .cell (some (.ref aC))) (d2 : o2.data = .cell (some (.ref aP))) (d3 : o3.data = .cell (some (.ref aQ)))
    (hn0 : 1 ≤ n0 ∧ n0 ≤ 6) (hn1 : 1 ≤ n1 ∧ n1 ≤ 6) (hn2 : 1 ≤ n2 ∧ n2 ≤ 6) (hn3 : 1 ≤ n3 ∧ n3 ≤ 6) (hn4 : -6 ≤ p4 ∧ p4 ≤ 6) (hn5 : 1 ≤ n5 ∧ n5 ≤ 6)
    (hd : dp + 200 < recursionLimit) (hu : un + 2000 < cLine)
    (hE : PassesOwn (model PySem.Challenge.rw_hg0003_02.row.prog w) (ktrTop dp un gd (Str.ofString "law") sc L a ccd [(Str.ofString "points", c3), (Str.ofString "pairs", c2), (Str.ofString "corners", c1)] outer) (envX (Str.ofString "law") sc L a ccd [(Str.ofString "points", c3), (Str.ofString "pairs", c2), (Str.ofString "corners", c1)]) E)
    (hret : ∀ m' news' qs1 qs2 h' tk', Fr h₀ L h' m' → News h₀ L h' news' → (44, tabObj qs1) ∈ news' → (51, tabObj qs2) ∈ news' → Q (.ret (.bool true)) { s with heap := h', toks := tk' }) :
    wpAny (model PySem.Challenge.rw_hg0003_02.row.prog w) (ktrTop dp un gd (Str.ofString "law") sc L a ccd [(Str.ofString "points", c3), (Str.ofString "pairs", c2), (Str.ofString "corners", c1)] outer) (execs body (envX (Str.ofString "law") sc L a ccd [(Str.ofString "points", c3), (Str.ofString "pairs", c2), (Str.ofString "corners", c1)])) Q E s := by
  conv at hsc => rhs; whnf
  conv at hbody => rhs; whnf
  subst hsc hbody
  revert X; k_fill; intro X
  w_top off
  k_with_none
  k_with "nil" => ((with_reducible refine gen_toks ?_); intro tk9; refine wpAny_execs_nil ?_; dsimp only)
  have hp13 := big_mul hn1 hn3
  have hp02 := big_mul hn0 hn2
  have hnt : ∀ q ∈ [(aL, LCg.lst [.ref L0, .ref L1, .ref L2]), (L2, tup [.int (-n5) t0, .int p4 t1, .int 0 t2]), (L1, tup [.int n2 t3, .int 0 t4, .int (-n3) t5]), (L0, tup [.int 0 t6, .int (-n1) t7, .int n0 t8]), (c3, o3), (aQ, LCg.lst [.ref Q0, .ref Q1, .ref Q2]), (Q2, tup [.int p4 t9, .int n5 t10, .int 0 t11]), (Q1, tup [.int n3 t12, .int 0 t13, .int n2 t14]), (Q0, tup [.int 0 t15, .int n0 t16, .int n1 t17]), (c2, o2), (c1, o1), (aC, W.listOf #[.ref C0, .ref C1, .ref C2] 0), (C0, tup [.int 1 t18, .int 0 t19, .int 0 t20]), (C1, tup [.int 0 t21, .int 1 t22, .int 0 t23]), (C2, tup [.int 0 t24, .int 0 t25, .int 1 t26]), (aN, LCg.lst [.int n0 t27, .int n1 t28, .int n2 t29, .int n3 t30, .int n4 t31, .int n5 t32]), (aP, W.listOf #[.ref P0, .ref P1, .ref P2] 0), (P0, tup [.int n0 t33, .int n1 t34]), (P1, tup [.int n2 t35, .int n3 t36]), (P2, tup [.int p4 t37, .int n5 t38])], ∀ ps, q.2.data ≠ .fields ps := by
    repeat (first | exact List.forall_mem_nil _ | refine List.forall_mem_cons.mpr ⟨by (first | (with_reducible exact cell_nt d1) | (with_reducible exact cell_nt d2) | (with_reducible exact cell_nt d3) | exact seq_nt), ?_⟩)
  have hsub : ∀ q ∈ [(aL, LCg.lst [.ref L0, .ref L1, .ref L2]), (L2, tup [.int (-n5) t0, .int p4 t1, .int 0 t2]), (L1, tup [.int n2 t3, .int 0 t4, .int (-n3) t5]), (L0, tup [.int 0 t6, .int (-n1) t7, .int n0 t8]), (c3, o3), (aQ, LCg.lst [.ref Q0, .ref Q1, .ref Q2]), (Q2, tup [.int p4 t9, .int n5 t10, .int 0 t11]), (Q1, tup [.int n3 t12, .int 0 t13, .int n2 t14]), (Q0, tup [.int 0 t15, .int n0 t16, .int n1 t17]), (c2, o2), (c1, o1), (aC, W.listOf #[.ref C0, .ref C1, .ref C2] 0), (C0, tup [.int 1 t18, .int 0 t19, .int 0 t20]), (C1, tup [.int 0 t21, .int 1 t22, .int 0 t23]), (C2, tup [.int 0 t24, .int 0 t25, .int 1 t26]), (aN, LCg.lst [.int n0 t27, .int n1 t28, .int n2 t29, .int n3 t30, .int n4 t31, .int n5 t32]), (aP, W.listOf #[.ref P0, .ref P1, .ref P2] 0), (P0, tup [.int n0 t33, .int n1 t34]), (P1, tup [.int n2 t35, .int n3 t36]), (P2, tup [.int p4 t37, .int n5 t38])], q ∈ [(aL, LCg.lst [.ref L0, .ref L1, .ref L2]), (L2, tup [.int (-n5) t0, .int p4 t1, .int 0 t2]), (L1, tup [.int n2 t3, .int 0 t4, .int (-n3) t5]), (L0, tup [.int 0 t6, .int (-n1) t7, .int n0 t8]), (c3, o3), (aQ, LCg.lst [.ref Q0, .ref Q1, .ref Q2]), (Q2, tup [.int p4 t9, .int n5 t10, .int 0 t11]), (Q1, tup [.int n3 t12, .int 0 t13, .int n2 t14]), (Q0, tup [.int 0 t15, .int n0 t16, .int n1 t17]), (c2, o2), (c1, o1), (aC, W.listOf #[.ref C0, .ref C1, .ref C2] 0), (C0, tup [.int 1 t18, .int 0 t19, .int 0 t20]), (C1, tup [.int 0 t21, .int 1 t22, .int 0 t23]), (C2, tup [.int 0 t24, .int 0 t25, .int 1 t26]), (aN, LCg.lst [.int n0 t27, .int n1 t28, .int n2 t29, .int n3 t30, .int n4 t31, .int n5 t32]), (aP, W.listOf #[.ref P0, .ref P1, .ref P2] 0), (P0, tup [.int n0 t33, .int n1 t34]), (P1, tup [.int n2 t35, .int n3 t36]), (P2, tup [.int p4 t37, .int n5 t38]), (51, tabObj #[]), (44, tabObj #[])] := sub_init _ _
  have hord : ∀ q ∈ (44, tabObj #[]) :: (51, tabObj #[]) :: [(aL, LCg.lst [.ref L0, .ref L1, .ref L2]), (L2, tup [.int (-n5) t0, .int p4 t1, .int 0 t2]), (L1, tup [.int n2 t3, .int 0 t4, .int (-n3) t5]), (L0, tup [.int 0 t6, .int (-n1) t7, .int n0 t8]), (c3, o3), (aQ, LCg.lst [.ref Q0, .ref Q1, .ref Q2]), (Q2, tup [.int p4 t9, .int n5 t10, .int 0 t11]), (Q1, tup [.int n3 t12, .int 0 t13, .int n2 t14]), (Q0, tup [.int 0 t15, .int n0 t16, .int n1 t17]), (c2, o2), (c1, o1), (aC, W.listOf #[.ref C0, .ref C1, .ref C2] 0), (C0, tup [.int 1 t18, .int 0 t19, .int 0 t20]), (C1, tup [.int 0 t21, .int 1 t22, .int 0 t23]), (C2, tup [.int 0 t24, .int 0 t25, .int 1 t26]), (aN, LCg.lst [.int n0 t27, .int n1 t28, .int n2 t29, .int n3 t30, .int n4 t31, .int n5 t32]), (aP, W.listOf #[.ref P0, .ref P1, .ref P2] 0), (P0, tup [.int n0 t33, .int n1 t34]), (P1, tup [.int n2 t35, .int n3 t36]), (P2, tup [.int p4 t37, .int n5 t38])], q ∈ [(aL, LCg.lst [.ref L0, .ref L1, .ref L2]), (L2, tup [.int (-n5) t0, .int p4 t1, .int 0 t2]), (L1, tup [.int n2 t3, .int 0 t4, .int (-n3) t5]), (L0, tup [.int 0 t6, .int (-n1) t7, .int n0 t8]), (c3, o3), (aQ, LCg.lst [.ref Q0, .ref Q1, .ref Q2]), (Q2, tup [.int p4 t9, .int n5 t10, .int 0 t11]), (Q1, tup [.int n3 t12, .int 0 t13, .int n2 t14]), (Q0, tup [.int 0 t15, .int n0 t16, .int n1 t17]), (c2, o2), (c1, o1), (aC, W.listOf #[.ref C0, .ref C1, .ref C2] 0), (C0, tup [.int 1 t18, .int 0 t19, .int 0 t20]), (C1, tup [.int 0 t21, .int 1 t22, .int 0 t23]), (C2, tup [.int 0 t24, .int 0 t25, .int 1 t26]), (aN, LCg.lst [.int n0 t27, .int n1 t28, .int n2 t29, .int n3 t30, .int n4 t31, .int n5 t32]), (aP, W.listOf #[.ref P0, .ref P1, .ref P2] 0), (P0, tup [.int n0 t33, .int n1 t34]), (P1, tup [.int n2 t35, .int n3 t36]), (P2, tup [.int p4 t37, .int n5 t38]), (51, tabObj #[]), (44, tabObj #[])] := sub_init2 _ _ _
  k_with "item" => ((with_reducible show wpAny _ _ (subscriptTail _ _ (Value.ref _) (Value.int _ _)) _ _ _); k_dflt ((refine kba_turn (value' := PySem.Expr.Name (PySem.Str.ofString "_") ⟨0, 0, 0, 0⟩) (fun _ => rfl) ?_); first | (refine' kim_tup ?itN ?itm ?itc ?itd ?itlo ?ithi ?itj ?itx ?_ ?its; (case itN => k_asm); (case itm => k_mem); (case itc => exact rfl); (case itd => exact rfl); (case itlo => decide); (case ithi => decide); (case itj => exact rfl); (case itx => exact rfl); (case its => with_unfolding_all rfl)) | (refine' kim_list ?itN ?itm ?itc ?itd ?itlo ?ithi ?itx ?_ ?its; (case itN => k_asm); (case itm => k_mem); (case itc => exact rfl); (case itd => exact rfl); (case itlo => decide); (case ithi => decide); (case itx => exact rfl); (case its => with_unfolding_all rfl))))
  k_with "cw" => (k_here; k_dflt (first | (refine' callWith_K ?kq1 ?kq2 ?_; (case kq1 => k_asm); (case kq2 => k_is); k_whole) | (refine' callWith_K0 ?kq1 ?kq2 ?_; (case kq1 => k_in); (case kq2 => k_is); k_whole)))
  k_with "callr" => ((with_reducible show wpAny _ _ (call (Value.ref 98) _) _ _ _); (rename News _ _ _ _ => lN'); k_dflt (refine' struck_ok (news := [(aL, LCg.lst [.ref L0, .ref L1, .ref L2]), (L2, tup [.int (-n5) t0, .int p4 t1, .int 0 t2]), (L1, tup [.int n2 t3, .int 0 t4, .int (-n3) t5]), (L0, tup [.int 0 t6, .int (-n1) t7, .int n0 t8]), (c3, o3), (aQ, LCg.lst [.ref Q0, .ref Q1, .ref Q2]), (Q2, tup [.int p4 t9, .int n5 t10, .int 0 t11]), (Q1, tup [.int n3 t12, .int 0 t13, .int n2 t14]), (Q0, tup [.int 0 t15, .int n0 t16, .int n1 t17]), (c2, o2), (c1, o1), (aC, W.listOf #[.ref C0, .ref C1, .ref C2] 0), (C0, tup [.int 1 t18, .int 0 t19, .int 0 t20]), (C1, tup [.int 0 t21, .int 1 t22, .int 0 t23]), (C2, tup [.int 0 t24, .int 0 t25, .int 1 t26]), (aN, LCg.lst [.int n0 t27, .int n1 t28, .int n2 t29, .int n3 t30, .int n4 t31, .int n5 t32]), (aP, W.listOf #[.ref P0, .ref P1, .ref P2] 0), (P0, tup [.int n0 t33, .int n1 t34]), (P1, tup [.int n2 t35, .int n3 t36]), (P2, tup [.int p4 t37, .int n5 t38])]) ?k1 ?k2 ?k3 ?k4 ?k5 HC1 HC2 ?ha1 ?ha2 (.inl rfl) (.inl rfl) ?x0 ?x1 ?y0 ?y1 ?ld ?lu ?_; (case k2 => k_asm); (case k1 => k_asm); (case k3 => k_asm); (case k4 => exact cb_drop lN' hord); (case k5 => k_asm); (case ha1 => exact tab_ne lN' (hord _ List.mem_cons_self) hsub hnt); (case ha2 => exact tab_ne lN' (hord _ (List.mem_cons_of_mem _ List.mem_cons_self)) hsub hnt); (case x0 => omega); (case x1 => omega); (case y0 => omega); (case y1 => omega); (case ld => ((try dsimp only [Around.deeper]); omega)); (case lu => ((try dsimp only [Around.deeper]); omega)); intro D9 h9 tk9 t91 t92 tu tv ps91 ps92 F9 N9 htt htu0 htu1 htv0 htv1 l9 l44 l51; (try dsimp only)))
  k_with "ite1" => ((with_reducible show (if ((_ : Int) != _) = true then _ else _)); with_reducible refine ite_eq ((Int.mul_assoc _ _ _).trans (htt.trans (Int.mul_assoc _ _ _).symm)) ?_)
  k_with "next" => ((rename Fr _ _ _ _ => lF'); have htu9 : tu ≤ 1000 := (by omega); have htv9 : tv ≤ 1000 := (by omega); refine' w12 ?nx1 ?nx2 B ?nxF X T ?nxN d1 d2 d3 hn0 hn1 hn2 hn3 hn4 hn5 ⟨htu0, htu9⟩ ⟨htv0, htv9⟩ htt hd hu hE hret; (case nx1 => rfl); (case nx2 => rfl); (case nxF => exact lF'); (case nxN => exact (by with_reducible assumption)))
  k_steps
  all_goals (try k_data)
end
end Mine
namespace Mine
local macro_rules | `(tactic| k_room) => `(tactic| ktr_room)
local macro_rules | `(tactic| k_units) => `(tactic| ktr_units)
local macro_rules | `(tactic| k_mem) => `(tactic| (refine mine_mem ?_; with_reducible assumption))
local macro_rules | `(tactic| k_ne) => `(tactic| (refine neN ?_; (try dsimp only); first | (with_reducible assumption) | (with_reducible exact Ne.symm (by assumption)) | (with_reducible exact Nat.ne_of_gt (by assumption)) | (with_reducible exact Nat.ne_of_lt (by assumption))))
section
variable {w : World} {p : Program} {loose : List Str} {mean : ExcName → Option Value} {mg mb : Str → Option Value} {dp un : Nat} {gd : Option (List Code)} {a : Addr} {ccd : Value} {outer : List Env} {A₀ : Around} {base h₀ : Heap} {L : Addr} {m : Str → Option Value} {s : Shared} {Q : Flow → Shared → Prop} {E : Value → Shared → Prop}
set_option maxRecDepth 100000 in
set_option maxHeartbeats 8000000 in
theorem w7 {sc : Scope} {body : List Stmt} {aL L2 L1 L0 c3 aQ Q2 Q1 Q0 c2 c1 aC C0 C1 C2 aN aP P0 P1 P2 : Addr} {t0 t1 t2 t3 t4 t5 t6 t7 t8 t9 t10 t11 t12 t13 t14 t15 t16 t17 t18 t19 t20 t21 t22 t23 t24 t25 t26 t27 t28 t29 t30 t31 t32 t33 t34 t35 t36 t37 t38 : Tok} {o1 o2 o3 : Obj} {n0 n1 n2 n3 n4 n5 p4 : Int} 
    (hsc : sc = lawScope) (hbody : body = lawRest 7) (HC1 : CodeHd base 48 44) (HC2 : CodeHd base 55 51)
    (B : Below A₀ base outer h₀) (F : Fr h₀ L s.heap (fun y => if y = Str.ofString "lines" then some (.ref aL) else if y = Str.ofString "numbers" then some (.ref aN) else m y)) (X : (hd.heap_39 w.params).In h₀) (T : Top p loose mean mg mb h₀)
    (N : News h₀ L s.heap [(aL, LCg.lst [.ref L0, .ref L1, .ref L2]), (L2, tup [.int (-n5) t0, .int p4 t1, .int 0 t2]), (L1, tup [.int n2 t3, .int 0 t4, .int (-n3) t5]), (L0, tup [.int 0 t6, .int (-n1) t7, .int n0 t8]), (c3, o3), (aQ, LCg.lst [.ref Q0, .ref Q1, .ref Q2]), (Q2, tup [.int p4 t9, .int n5 t10, .int 0 t11]), (Q1, tup [.int n3 t12, .int 0 t13, .int n2 t14]), (Q0, tup [.int 0 t15, .int n0 t16, .int n1 t17]), (c2, o2), (c1, o1), (aC, W.listOf #[.ref C0, .ref C1, .ref C2] 0), (C0, tup [.int 1 t18, .int 0 t19, .int 0 t20]), (C1, tup [.int 0 t21, .int 1 t22, .int 0 t23]), (C2, tup [.int 0 t24, .int 0 t25, .int 1 t26]), (aN, LCg.lst [.int n0 t27, .int n1 t28, .int n2 t29, .int n3 t30, .int n4 t31, .int n5 t32]), (aP, W.listOf #[.ref P0, .ref P1, .ref P2] 0), (P0, tup [.int n0 t33, .int n1 t34]), (P1, tup [.int n2 t35, .int n3 t36]), (P2, tup [.int p4 t37, .int n5 t38]), (51, tabObj #[]), (44, tabObj #[])])
    (d1 : o1.data = .cell (some (.ref aC))) (d2 : o2.data = .cell (some (.ref aP))) (d3 : o3.data = .cell (some (.ref aQ)))
    (hn0 : 1 ≤ n0 ∧ n0 ≤ 6) (hn1 : 1 ≤ n1 ∧ n1 ≤ 6) (hn2 : 1 ≤ n2 ∧ n2 ≤ 6) (hn3 : 1 ≤ n3 ∧ n3 ≤ 6) (hn4 : -6 ≤ p4 ∧ p4 ≤ 6) (hn5 : 1 ≤ n5 ∧ n5 ≤ 6)
    (hd : dp + 200 < recursionLimit) (hu : un + 2000 < cLine)
    (hE : PassesOwn (model PySem.Challenge.rw_hg0003_02.row.prog w) (ktrTop dp un gd (Str.ofString "law") sc L a ccd [(Str.ofString "points", c3), (Str.ofString "pairs", c2), (Str.ofString "corners", c1)] outer) (envX (Str.ofString "law") sc L a ccd [(Str.ofString "points", c3), (Str.ofString "pairs", c2), (Str.ofString "corners", c1)]) E)
    (hret : ∀ m' news' qs1 qs2 h' tk', Fr h₀ L h' m' → News h₀ L h' news' → (44, tabObj qs1) ∈ news' → (51, tabObj qs2) ∈ news' → Q (.ret (.bool true)) { s with heap := h', toks := tk' }) :
    wpAny (model PySem.Challenge.rw_hg0003_02.row.prog w) (ktrTop dp un gd (Str.ofString "law") sc L a ccd [(Str.ofString "points", c3), (Str.ofString "pairs", c2), (Str.ofString "corners", c1)] outer) (execs body (envX (Str.ofString "law") sc L a ccd [(Str.ofString "points", c3), (Str.ofString "pairs", c2), (Str.ofString "corners", c1)])) Q E s := by
  conv at hsc => rhs; whnf
  conv at hbody => rhs; whnf
  subst hsc hbody
  revert X; k_fill; intro X
  w_top off
  k_with_none
  k_with "nil" => ((with_reducible refine gen_toks ?_); intro tk9; refine wpAny_execs_nil ?_; dsimp only)
  k_with "item" => ((with_reducible show wpAny _ _ (subscriptTail _ _ (Value.ref _) (Value.int _ _)) _ _ _); k_dflt ((refine kba_turn (value' := PySem.Expr.Name (PySem.Str.ofString "_") ⟨0, 0, 0, 0⟩) (fun _ => rfl) ?_); first | (refine' kim_tup ?itN ?itm ?itc ?itd ?itlo ?ithi ?itj ?itx ?_ ?its; (case itN => k_asm); (case itm => k_mem); (case itc => exact rfl); (case itd => exact rfl); (case itlo => decide); (case ithi => decide); (case itj => exact rfl); (case itx => exact rfl); (case its => with_unfolding_all rfl)) | (refine' kim_list ?itN ?itm ?itc ?itd ?itlo ?ithi ?itx ?_ ?its; (case itN => k_asm); (case itm => k_mem); (case itc => exact rfl); (case itd => exact rfl); (case itlo => decide); (case ithi => decide); (case itx => exact rfl); (case its => with_unfolding_all rfl))))
  k_with "cw" => (k_here; k_dflt (first | (refine' callWith_K ?kq1 ?kq2 ?_; (case kq1 => k_asm); (case kq2 => k_is); k_whole) | (refine' callWith_K0 ?kq1 ?kq2 ?_; (case kq1 => k_in); (case kq2 => k_is); k_whole)))
  k_with "callr" => ((with_reducible show wpAny _ _ (call (Value.ref 91) _) _ _ _); k_dflt (refine' signed_v ?k1 ?k2 ?k3 ?k4 ?k5 ?m1 ?m2 ?m3 ?e1 ?e2 ?e3 ?e4 ?e5 ?e6 ?ld ?lu ?_; (case k2 => k_asm); (case k1 => k_asm); (case k3 => k_asm); (case k4 => k_asm); (case k5 => k_asm); (case m1 => k_mem); (case m2 => k_mem); (case m3 => k_mem); (case e1 => exact ⟨by omega, by omega⟩); (case e2 => exact ⟨by omega, by omega⟩); (case e3 => exact ⟨by omega, by omega⟩); (case e4 => exact ⟨by omega, by omega⟩); (case e5 => exact ⟨by omega, by omega⟩); (case e6 => exact ⟨by omega, by omega⟩); (case ld => ((try dsimp only [Around.deeper]); omega)); (case lu => ((try dsimp only [Around.deeper]); omega)); intro h9 tk9 v0 sv9 hsv9 F9 N9; (try dsimp only)))
  k_with "ite1" => ((with_reducible show (if ((_ : Bool) != _) = true then _ else _)); with_reducible refine ite_zero (by rw [hsv9]; grind) ?_)
  k_with "next" => ((rename Fr _ _ _ _ => lF'); refine' w10 ?nx1 ?nx2 HC1 HC2 B ?nxF X T ?nxN d1 d2 d3 hn0 hn1 hn2 hn3 hn4 hn5 hd hu hE hret; (case nx1 => rfl); (case nx2 => rfl); (case nxF => exact canon1 (canon1 lF' rfl) rfl); (case nxN => exact kti_tail (by with_reducible assumption)))
  k_steps
  all_goals (try k_data)
end
end Mine
namespace Mine
local macro_rules | `(tactic| k_room) => `(tactic| ktr_room)
local macro_rules | `(tactic| k_units) => `(tactic| ktr_units)
local macro_rules | `(tactic| k_mem) => `(tactic| (refine mine_mem ?_; with_reducible assumption))
local macro_rules | `(tactic| k_ne) => `(tactic| (refine neN ?_; (try dsimp only); first | (with_reducible assumption) | (with_reducible exact Ne.symm (by assumption)) | (with_reducible exact Nat.ne_of_gt (by assumption)) | (with_reducible exact Nat.ne_of_lt (by assumption))))
section
variable {w : World} {p : Program} {loose : List Str} {mean : ExcName → Option Value} {mg mb : Str → Option Value} {dp un : Nat} {gd : Option (List Code)} {a : Addr} {ccd : Value} {outer : List Env} {A₀ : Around} {base h₀ : Heap} {L : Addr} {m : Str → Option Value} {s : Shared} {Q : Flow → Shared → Prop} {E : Value → Shared → Prop}
set_option maxRecDepth 100000 in
set_option maxHeartbeats 8000000 in
theorem w6 {sc : Scope} {body : List Stmt} {c3 aQ Q2 Q1 Q0 c2 c1 aC C0 C1 C2 aN aP P0 P1 P2 : Addr} {t0 t1 t2 t3 t4 t5 t6 t7 t8 t9 t10 t11 t12 t13 t14 t15 t16 t17 t18 t19 t20 t21 t22 t23 t24 t25 t26 t27 t28 t29 : Tok} {o1 o2 o3 : Obj} {n0 n1 n2 n3 n4 n5 p4 : Int} 
    (hsc : sc = lawScope) (hbody : body = lawRest 6) (HC1 : CodeHd base 48 44) (HC2 : CodeHd base 55 51)
    (B : Below A₀ base outer h₀) (F : Fr h₀ L s.heap (fun y => if y = Str.ofString "numbers" then some (.ref aN) else m y)) (X : (hd.heap_39 w.params).In h₀) (T : Top p loose mean mg mb h₀)
    (N : News h₀ L s.heap [(c3, o3), (aQ, LCg.lst [.ref Q0, .ref Q1, .ref Q2]), (Q2, tup [.int p4 t0, .int n5 t1, .int 0 t2]), (Q1, tup [.int n3 t3, .int 0 t4, .int n2 t5]), (Q0, tup [.int 0 t6, .int n0 t7, .int n1 t8]), (c2, o2), (c1, o1), (aC, W.listOf #[.ref C0, .ref C1, .ref C2] 0), (C0, tup [.int 1 t9, .int 0 t10, .int 0 t11]), (C1, tup [.int 0 t12, .int 1 t13, .int 0 t14]), (C2, tup [.int 0 t15, .int 0 t16, .int 1 t17]), (aN, LCg.lst [.int n0 t18, .int n1 t19, .int n2 t20, .int n3 t21, .int n4 t22, .int n5 t23]), (aP, W.listOf #[.ref P0, .ref P1, .ref P2] 0), (P0, tup [.int n0 t24, .int n1 t25]), (P1, tup [.int n2 t26, .int n3 t27]), (P2, tup [.int p4 t28, .int n5 t29]), (51, tabObj #[]), (44, tabObj #[])])
    (d1 : o1.data = .cell (some (.ref aC))) (d2 : o2.data = .cell (some (.ref aP))) (d3 : o3.data = .cell (some (.ref aQ)))
    (hn0 : 1 ≤ n0 ∧ n0 ≤ 6) (hn1 : 1 ≤ n1 ∧ n1 ≤ 6) (hn2 : 1 ≤ n2 ∧ n2 ≤ 6) (hn3 : 1 ≤ n3 ∧ n3 ≤ 6) (hn4 : -6 ≤ p4 ∧ p4 ≤ 6) (hn5 : 1 ≤ n5 ∧ n5 ≤ 6)
    (hd : dp + 200 < recursionLimit) (hu : un + 2000 < cLine)
    (hE : PassesOwn (model PySem.Challenge.rw_hg0003_02.row.prog w) (ktrTop dp un gd (Str.ofString "law") sc L a ccd [(Str.ofString "points", c3), (Str.ofString "pairs", c2), (Str.ofString "corners", c1)] outer) (envX (Str.ofString "law") sc L a ccd [(Str.ofString "points", c3), (Str.ofString "pairs", c2), (Str.ofString "corners", c1)]) E)
    (hret : ∀ m' news' qs1 qs2 h' tk', Fr h₀ L h' m' → News h₀ L h' news' → (44, tabObj qs1) ∈ news' → (51, tabObj qs2) ∈ news' → Q (.ret (.bool true)) { s with heap := h', toks := tk' }) :
    wpAny (model PySem.Challenge.rw_hg0003_02.row.prog w) (ktrTop dp un gd (Str.ofString "law") sc L a ccd [(Str.ofString "points", c3), (Str.ofString "pairs", c2), (Str.ofString "corners", c1)] outer) (execs body (envX (Str.ofString "law") sc L a ccd [(Str.ofString "points", c3), (Str.ofString "pairs", c2), (Str.ofString "corners", c1)])) Q E s := by
  conv at hsc => rhs; whnf
  conv at hbody => rhs; whnf
  subst hsc hbody
  revert X; k_fill; intro X
  w_top off
  k_with_none
  k_with "nil" => ((with_reducible refine gen_toks ?_); intro tk9; refine wpAny_execs_nil ?_; dsimp only)
  k_with "item" => ((with_reducible show wpAny _ _ (subscriptTail _ _ (Value.ref _) (Value.int _ _)) _ _ _); k_dflt ((refine kba_turn (value' := PySem.Expr.Name (PySem.Str.ofString "_") ⟨0, 0, 0, 0⟩) (fun _ => rfl) ?_); first | (refine' kim_tup ?itN ?itm ?itc ?itd ?itlo ?ithi ?itj ?itx ?_ ?its; (case itN => k_asm); (case itm => k_mem); (case itc => exact rfl); (case itd => exact rfl); (case itlo => decide); (case ithi => decide); (case itj => exact rfl); (case itx => exact rfl); (case its => with_unfolding_all rfl)) | (refine' kim_list ?itN ?itm ?itc ?itd ?itlo ?ithi ?itx ?_ ?its; (case itN => k_asm); (case itm => k_mem); (case itc => exact rfl); (case itd => exact rfl); (case itlo => decide); (case ithi => decide); (case itx => exact rfl); (case its => with_unfolding_all rfl))))
  k_with "cw" => (k_here; k_dflt (first | (refine' callWith_K ?kq1 ?kq2 ?_; (case kq1 => k_asm); (case kq2 => k_is); k_whole) | (refine' callWith_K0 ?kq1 ?kq2 ?_; (case kq1 => k_in); (case kq2 => k_is); k_whole)))
  k_with "ite1" => (with_reducible refine ite_self ?_)
  k_with "src" => (k_here; k_dflt (refine LCg.CompSrc.range (by rfl) (by k_asm) (by k_asm) (by assumption) (by first | decide | rfl) (by first | rfl | decide) (by first | size_fits | exact Nat.le_of_ble_eq_true rfl) ?_; intro g'; lcg_lit))
  k_with "callr" => ((with_reducible show wpAny _ _ (call (Value.ref 84) _) _ _ _); k_dflt (refine' across_ok ?k1 ?k2 ?k3 ?k4 ?k5 ?m1 ?m2 ?e1 ?e2 ?e3 ?ld ?lu ?_; (case k2 => k_asm); (case k1 => k_asm); (case k3 => k_asm); (case k4 => k_asm); (case k5 => k_asm); (case m1 => k_mem); (case m2 => k_mem); (case e1 => exact ⟨by omega, by omega⟩); (case e2 => exact ⟨by omega, by omega⟩); (case e3 => exact ⟨by omega, by omega⟩); (case ld => ((try dsimp only [Around.deeper]); omega)); (case lu => ((try dsimp only [Around.deeper]); omega)); intro D9 h9 tk9 v0 v1 v2 F9 N9 l9; (simp only [Int.mul_zero, Int.zero_mul, Int.mul_one, Int.one_mul, Int.zero_add, Int.add_zero, Int.zero_sub, Int.sub_zero, Int.sub_self, Int.add_left_neg] at N9); (try dsimp only)))
  k_with "fine" => ((unfold LCg.FinE); intro D8 h8 tk8 F8 N8 o8; (try simp only [List.nil_append, List.cons_append] at N8); (try dsimp only))
  k_with "cend" => (k_dflt (first | (refine cend_new (by with_reducible assumption) (by with_reducible assumption) (by with_reducible assumption) ?ceo trivial ?_; (case ceo => (simp only [LCg.Off3, and_true]; with_reducible assumption))) | (refine cend_same (by with_reducible assumption) (by with_reducible assumption) ?ceo trivial ?_; (case ceo => (simp only [LCg.Off3, and_true]; with_reducible assumption)))))
  k_with "next" => (refine' w7 ?nx1 ?nx2 HC1 HC2 B ?nxF X T ?nxN d1 d2 d3 hn0 hn1 hn2 hn3 hn4 hn5 hd hu hE hret; (case nx1 => rfl); (case nx2 => rfl); (case nxF => with_reducible assumption); (case nxN => exact (by with_reducible assumption)))
  k_steps
  all_goals (try k_data)
end
end Mine
namespace Mine
local macro_rules | `(tactic| k_room) => `(tactic| ktr_room)
local macro_rules | `(tactic| k_units) => `(tactic| ktr_units)
local macro_rules | `(tactic| k_mem) => `(tactic| (refine mine_mem ?_; with_reducible assumption))
local macro_rules | `(tactic| k_ne) => `(tactic| (refine neN ?_; (try dsimp only); first | (with_reducible assumption) | (with_reducible exact Ne.symm (by assumption)) | (with_reducible exact Nat.ne_of_gt (by assumption)) | (with_reducible exact Nat.ne_of_lt (by assumption))))
section
variable {w : World} {p : Program} {loose : List Str} {mean : ExcName → Option Value} {mg mb : Str → Option Value} {dp un : Nat} {gd : Option (List Code)} {a : Addr} {ccd : Value} {outer : List Env} {A₀ : Around} {base h₀ : Heap} {L : Addr} {m : Str → Option Value} {s : Shared} {Q : Flow → Shared → Prop} {E : Value → Shared → Prop}
set_option maxRecDepth 100000 in
set_option maxHeartbeats 8000000 in
theorem w5 {sc : Scope} {body : List Stmt} {c3 aQ Q2 Q1 Q0 c2 c1 aC C0 C1 C2 aN aP P0 P1 P2 : Addr} {t0 t1 t2 t3 t4 t5 t6 t7 t8 t9 t10 t11 t12 t13 t14 t15 t16 t17 t18 t19 t20 t21 t22 t23 t24 t25 t26 t27 t28 t29 : Tok} {o1 o2 o3 : Obj} {n0 n1 n2 n3 n4 n5 p4 : Int} 
    (hsc : sc = lawScope) (hbody : body = lawRest 5) (HC1 : CodeHd base 48 44) (HC2 : CodeHd base 55 51)
    (B : Below A₀ base outer h₀) (F : Fr h₀ L s.heap (fun y => if y = Str.ofString "numbers" then some (.ref aN) else m y)) (X : (hd.heap_39 w.params).In h₀) (T : Top p loose mean mg mb h₀)
    (N : News h₀ L s.heap [(c3, o3), (aQ, LCg.lst [.ref Q0, .ref Q1, .ref Q2]), (Q2, tup [.int p4 t0, .int n5 t1, .int 0 t2]), (Q1, tup [.int n3 t3, .int 0 t4, .int n2 t5]), (Q0, tup [.int 0 t6, .int n0 t7, .int n1 t8]), (c2, o2), (c1, o1), (aC, W.listOf #[.ref C0, .ref C1, .ref C2] 0), (C0, tup [.int 1 t9, .int 0 t10, .int 0 t11]), (C1, tup [.int 0 t12, .int 1 t13, .int 0 t14]), (C2, tup [.int 0 t15, .int 0 t16, .int 1 t17]), (aN, LCg.lst [.int n0 t18, .int n1 t19, .int n2 t20, .int n3 t21, .int n4 t22, .int n5 t23]), (aP, W.listOf #[.ref P0, .ref P1, .ref P2] 0), (P0, tup [.int n0 t24, .int n1 t25]), (P1, tup [.int n2 t26, .int n3 t27]), (P2, tup [.int p4 t28, .int n5 t29]), (51, tabObj #[]), (44, tabObj #[])])
    (d1 : o1.data = .cell (some (.ref aC))) (d2 : o2.data = .cell (some (.ref aP))) (d3 : o3.data = .cell (some (.ref aQ)))
    (hn0 : 1 ≤ n0 ∧ n0 ≤ 6) (hn1 : 1 ≤ n1 ∧ n1 ≤ 6) (hn2 : 1 ≤ n2 ∧ n2 ≤ 6) (hn3 : 1 ≤ n3 ∧ n3 ≤ 6) (hn4 : -6 ≤ p4 ∧ p4 ≤ 6) (hn5 : 1 ≤ n5 ∧ n5 ≤ 6)
    (hd : dp + 200 < recursionLimit) (hu : un + 2000 < cLine)
    (hE : PassesOwn (model PySem.Challenge.rw_hg0003_02.row.prog w) (ktrTop dp un gd (Str.ofString "law") sc L a ccd [(Str.ofString "points", c3), (Str.ofString "pairs", c2), (Str.ofString "corners", c1)] outer) (envX (Str.ofString "law") sc L a ccd [(Str.ofString "points", c3), (Str.ofString "pairs", c2), (Str.ofString "corners", c1)]) E)
    (hret : ∀ m' news' qs1 qs2 h' tk', Fr h₀ L h' m' → News h₀ L h' news' → (44, tabObj qs1) ∈ news' → (51, tabObj qs2) ∈ news' → Q (.ret (.bool true)) { s with heap := h', toks := tk' }) :
    wpAny (model PySem.Challenge.rw_hg0003_02.row.prog w) (ktrTop dp un gd (Str.ofString "law") sc L a ccd [(Str.ofString "points", c3), (Str.ofString "pairs", c2), (Str.ofString "corners", c1)] outer) (execs body (envX (Str.ofString "law") sc L a ccd [(Str.ofString "points", c3), (Str.ofString "pairs", c2), (Str.ofString "corners", c1)])) Q E s := by
  conv at hsc => rhs; whnf
  conv at hbody => rhs; whnf
  subst hsc hbody
  revert X; k_fill; intro X
  w_top off
  k_with_none
  k_with "nil" => ((with_reducible refine gen_toks ?_); intro tk9; refine wpAny_execs_nil ?_; dsimp only)
  k_with "item" => ((with_reducible show wpAny _ _ (subscriptTail _ _ (Value.ref _) (Value.int _ _)) _ _ _); k_dflt ((refine kba_turn (value' := PySem.Expr.Name (PySem.Str.ofString "_") ⟨0, 0, 0, 0⟩) (fun _ => rfl) ?_); first | (refine' kim_tup ?itN ?itm ?itc ?itd ?itlo ?ithi ?itj ?itx ?_ ?its; (case itN => k_asm); (case itm => k_mem); (case itc => exact rfl); (case itd => exact rfl); (case itlo => decide); (case ithi => decide); (case itj => exact rfl); (case itx => exact rfl); (case its => with_unfolding_all rfl)) | (refine' kim_list ?itN ?itm ?itc ?itd ?itlo ?ithi ?itx ?_ ?its; (case itN => k_asm); (case itm => k_mem); (case itc => exact rfl); (case itd => exact rfl); (case itlo => decide); (case ithi => decide); (case itx => exact rfl); (case its => with_unfolding_all rfl))))
  k_with "cw" => (k_here; k_dflt (first | (refine' callWith_K ?kq1 ?kq2 ?_; (case kq1 => k_asm); (case kq2 => k_is); k_whole) | (refine' callWith_K0 ?kq1 ?kq2 ?_; (case kq1 => k_in); (case kq2 => k_is); k_whole)))
  k_with "ite1" => (with_reducible refine ite_self ?_)
  k_with "src" => (k_here; k_dflt (refine LCg.CompSrc.range (by rfl) (by k_asm) (by k_asm) (by assumption) (by first | decide | rfl) (by first | rfl | decide) (by first | size_fits | exact Nat.le_of_ble_eq_true rfl) ?_; intro g'; lcg_lit))
  k_with "fine" => ((unfold LCg.FinE); intro D8 h8 tk8 F8 N8 o8; (try simp only [List.nil_append, List.cons_append] at N8); (try dsimp only))
  k_with "cend" => (k_dflt (first | (refine cend_new (by with_reducible assumption) (by with_reducible assumption) (by with_reducible assumption) ?ceo trivial ?_; (case ceo => (simp only [LCg.Off3, and_true]; with_reducible assumption))) | (refine cend_same (by with_reducible assumption) (by with_reducible assumption) ?ceo trivial ?_; (case ceo => (simp only [LCg.Off3, and_true]; with_reducible assumption)))))
  k_with "next" => (refine' w6 ?nx1 ?nx2 HC1 HC2 B ?nxF X T ?nxN d1 d2 d3 hn0 hn1 hn2 hn3 hn4 hn5 hd hu hE hret; (case nx1 => rfl); (case nx2 => rfl); (case nxF => with_reducible assumption); (case nxN => exact kti_tail (kti_tail (by with_reducible assumption))))
  k_steps
  all_goals (try k_data)
end
end Mine
namespace Mine
local macro_rules | `(tactic| k_room) => `(tactic| ktr_room)
local macro_rules | `(tactic| k_units) => `(tactic| ktr_units)
local macro_rules | `(tactic| k_mem) => `(tactic| (refine mine_mem ?_; with_reducible assumption))
local macro_rules | `(tactic| k_ne) => `(tactic| (refine neN ?_; (try dsimp only); first | (with_reducible assumption) | (with_reducible exact Ne.symm (by assumption)) | (with_reducible exact Nat.ne_of_gt (by assumption)) | (with_reducible exact Nat.ne_of_lt (by assumption))))
section
variable {w : World} {p : Program} {loose : List Str} {mean : ExcName → Option Value} {mg mb : Str → Option Value} {dp un : Nat} {gd : Option (List Code)} {a : Addr} {ccd : Value} {outer : List Env} {A₀ : Around} {base h₀ : Heap} {L : Addr} {m : Str → Option Value} {s : Shared} {Q : Flow → Shared → Prop} {E : Value → Shared → Prop}
set_option maxRecDepth 100000 in
set_option maxHeartbeats 8000000 in
theorem w4 {sc : Scope} {body : List Stmt} {c3 c2 c1 aC C0 C1 C2 aN aP P0 P1 P2 : Addr} {t0 t1 t2 t3 t4 t5 t6 t7 t8 t9 t10 t11 t12 t13 t14 t15 t16 t17 t18 t19 t20 : Tok} {o1 o2 o3 : Obj} {n0 n1 n2 n3 n4 n5 p4 : Int} 
    (hsc : sc = lawScope) (hbody : body = lawRest 4) (HC1 : CodeHd base 48 44) (HC2 : CodeHd base 55 51)
    (B : Below A₀ base outer h₀) (F : Fr h₀ L s.heap (fun y => if y = Str.ofString "numbers" then some (.ref aN) else m y)) (X : (hd.heap_39 w.params).In h₀) (T : Top p loose mean mg mb h₀)
    (N : News h₀ L s.heap [(c3, o3), (c2, o2), (c1, o1), (aC, W.listOf #[.ref C0, .ref C1, .ref C2] 0), (C0, tup [.int 1 t0, .int 0 t1, .int 0 t2]), (C1, tup [.int 0 t3, .int 1 t4, .int 0 t5]), (C2, tup [.int 0 t6, .int 0 t7, .int 1 t8]), (aN, LCg.lst [.int n0 t9, .int n1 t10, .int n2 t11, .int n3 t12, .int n4 t13, .int n5 t14]), (aP, W.listOf #[.ref P0, .ref P1, .ref P2] 0), (P0, tup [.int n0 t15, .int n1 t16]), (P1, tup [.int n2 t17, .int n3 t18]), (P2, tup [.int p4 t19, .int n5 t20]), (51, tabObj #[]), (44, tabObj #[])])
    (d1 : o1.data = .cell (some (.ref aC))) (d2 : o2.data = .cell (some (.ref aP))) (d3 : o3.data = .cell (none))
    (hn0 : 1 ≤ n0 ∧ n0 ≤ 6) (hn1 : 1 ≤ n1 ∧ n1 ≤ 6) (hn2 : 1 ≤ n2 ∧ n2 ≤ 6) (hn3 : 1 ≤ n3 ∧ n3 ≤ 6) (hn4 : -6 ≤ p4 ∧ p4 ≤ 6) (hn5 : 1 ≤ n5 ∧ n5 ≤ 6)
    (hd : dp + 200 < recursionLimit) (hu : un + 2000 < cLine)
    (hE : PassesOwn (model PySem.Challenge.rw_hg0003_02.row.prog w) (ktrTop dp un gd (Str.ofString "law") sc L a ccd [(Str.ofString "points", c3), (Str.ofString "pairs", c2), (Str.ofString "corners", c1)] outer) (envX (Str.ofString "law") sc L a ccd [(Str.ofString "points", c3), (Str.ofString "pairs", c2), (Str.ofString "corners", c1)]) E)
    (hret : ∀ m' news' qs1 qs2 h' tk', Fr h₀ L h' m' → News h₀ L h' news' → (44, tabObj qs1) ∈ news' → (51, tabObj qs2) ∈ news' → Q (.ret (.bool true)) { s with heap := h', toks := tk' }) :
    wpAny (model PySem.Challenge.rw_hg0003_02.row.prog w) (ktrTop dp un gd (Str.ofString "law") sc L a ccd [(Str.ofString "points", c3), (Str.ofString "pairs", c2), (Str.ofString "corners", c1)] outer) (execs body (envX (Str.ofString "law") sc L a ccd [(Str.ofString "points", c3), (Str.ofString "pairs", c2), (Str.ofString "corners", c1)])) Q E s := by
  conv at hsc => rhs; whnf
  conv at hbody => rhs; whnf
  subst hsc hbody
  revert X; k_fill; intro X
  w_top off
  k_with_none
  k_with "nil" => ((with_reducible refine gen_toks ?_); intro tk9; refine wpAny_execs_nil ?_; dsimp only)
  have hrest : ∀ q ∈ [(c2, o2), (c1, o1), (aC, W.listOf #[.ref C0, .ref C1, .ref C2] 0), (C0, tup [.int 1 t0, .int 0 t1, .int 0 t2]), (C1, tup [.int 0 t3, .int 1 t4, .int 0 t5]), (C2, tup [.int 0 t6, .int 0 t7, .int 1 t8]), (aN, LCg.lst [.int n0 t9, .int n1 t10, .int n2 t11, .int n3 t12, .int n4 t13, .int n5 t14]), (aP, W.listOf #[.ref P0, .ref P1, .ref P2] 0), (P0, tup [.int n0 t15, .int n1 t16]), (P1, tup [.int n2 t17, .int n3 t18]), (P2, tup [.int p4 t19, .int n5 t20]), (51, tabObj #[]), (44, tabObj #[])], q.2.data ≠ .cell none := by
    repeat (first | exact List.forall_mem_nil _ | refine List.forall_mem_cons.mpr ⟨by (first | (with_reducible exact cell_ne d1) | (with_reducible exact cell_ne d2) | exact seq_ne | exact fields_ne), ?_⟩)
  k_with "item" => ((with_reducible show wpAny _ _ (subscriptTail _ _ (Value.ref _) (Value.int _ _)) _ _ _); k_dflt ((refine kba_turn (value' := PySem.Expr.Name (PySem.Str.ofString "_") ⟨0, 0, 0, 0⟩) (fun _ => rfl) ?_); first | (refine' kim_tup ?itN ?itm ?itc ?itd ?itlo ?ithi ?itj ?itx ?_ ?its; (case itN => k_asm); (case itm => k_mem); (case itc => exact rfl); (case itd => exact rfl); (case itlo => decide); (case ithi => decide); (case itj => exact rfl); (case itx => exact rfl); (case its => with_unfolding_all rfl)) | (refine' kim_list ?itN ?itm ?itc ?itd ?itlo ?ithi ?itx ?_ ?its; (case itN => k_asm); (case itm => k_mem); (case itc => exact rfl); (case itd => exact rfl); (case itlo => decide); (case ithi => decide); (case itx => exact rfl); (case its => with_unfolding_all rfl))))
  k_with "cw" => (k_here; k_dflt (first | (refine' callWith_K ?kq1 ?kq2 ?_; (case kq1 => k_asm); (case kq2 => k_is); k_whole) | (refine' callWith_K0 ?kq1 ?kq2 ?_; (case kq1 => k_in); (case kq2 => k_is); k_whole)))
  k_with "src" => (k_here; k_dflt (refine LCg.CompSrc.range (by rfl) (by k_asm) (by k_asm) (by assumption) (by first | decide | rfl) (by first | rfl | decide) (by first | size_fits | exact Nat.le_of_ble_eq_true rfl) ?_; intro g'; lcg_lit))
  k_with "callr" => ((with_reducible show wpAny _ _ (call (Value.ref 77) _) _ _ _); k_dflt (refine' law_sum_ok ?k1 ?k2 ?k3 ?k4 ?k5 ?m1 ?m2 ?e1 ?e2 ?ld ?lu ?_; (case k2 => k_asm); (case k1 => k_asm); (case k3 => k_asm); (case k4 => k_asm); (case k5 => k_asm); (case m1 => k_mem); (case m2 => k_mem); (case e1 => exact ⟨by omega, by omega⟩); (case e2 => exact ⟨by omega, by omega⟩); (case ld => ((try dsimp only [Around.deeper]); omega)); (case lu => ((try dsimp only [Around.deeper]); omega)); intro D9 h9 tk9 v0 v1 v2 F9 N9 l9; (simp only [Int.mul_zero, Int.zero_mul, Int.mul_one, Int.one_mul, Int.zero_add, Int.add_zero, Int.zero_sub, Int.sub_zero, Int.sub_self, Int.add_left_neg] at N9); (try dsimp only)))
  k_with "fine" => ((unfold LCg.FinE); intro D8 h8 tk8 F8 N8 o8; (try simp only [List.nil_append, List.cons_append] at N8); (try dsimp only))
  k_with "cend" => (k_dflt (first | (refine cend_new (by with_reducible assumption) (by with_reducible assumption) (by with_reducible assumption) ?ceo trivial ?_; (case ceo => (simp only [LCg.Off3, and_true]; with_reducible assumption))) | (refine cend_same (by with_reducible assumption) (by with_reducible assumption) ?ceo trivial ?_; (case ceo => (simp only [LCg.Off3, and_true]; with_reducible assumption)))))
  k_with "stc" => (k_dflt (obtain ⟨N7, U7⟩ := set_unset4 N8 d3 seq_ne seq_ne seq_ne seq_ne hrest; refine' storeX_C F8 N7 ?stc U7 d3 ?_ ?sta ?stb; (case sta => rfl); (case stb => rfl); (case stc => rfl); intro h' o' F7' N7' d7'; (try dsimp only at N7')))
  k_with "next" => (refine' w5 ?nx1 ?nx2 HC1 HC2 B F7' X T N7' d1 d2 d7' hn0 hn1 hn2 hn3 hn4 hn5 hd hu hE hret; (case nx1 => rfl); (case nx2 => rfl))
  k_steps
  all_goals (try k_data)
end
end Mine
namespace Mine
local macro_rules | `(tactic| k_room) => `(tactic| ktr_room)
local macro_rules | `(tactic| k_units) => `(tactic| ktr_units)
local macro_rules | `(tactic| k_mem) => `(tactic| (refine mine_mem ?_; with_reducible assumption))
local macro_rules | `(tactic| k_ne) => `(tactic| (refine neN ?_; (try dsimp only); first | (with_reducible assumption) | (with_reducible exact Ne.symm (by assumption)) | (with_reducible exact Nat.ne_of_gt (by assumption)) | (with_reducible exact Nat.ne_of_lt (by assumption))))
set_option maxRecDepth 100000 in
set_option maxHeartbeats 8000000 in
theorem walk : PySem.Challenge.rw_hg0003_02.Holds := hd (by
  k_with_none
  k_with "slice6" => (k_here; k_dflt (refine kba_turn (value' := PySem.Expr.Name (PySem.Str.ofString "_") ⟨0, 0, 0, 0⟩) (fun _ => rfl) ?_))
  k_with "exec Assign cons BinOp" => (rename (IntsAre _ (List.map _ (List.take _ _))) => hI8; obtain ⟨n0, n1, n2, n3, n4, n5, nt0, nt1, nt2, nt3, nt4, nt5, rfl, hn0, hn1, hn2, hn3, hn4, hn5⟩ := six (six_len _) (fun n => fmod_range n 6 (by decide)) hI8; clear hI8)
  k_with "item" => ((with_reducible show wpAny _ _ (subscriptTail _ _ (Value.ref _) (Value.int _ _)) _ _ _); k_dflt ((refine kba_turn (value' := PySem.Expr.Name (PySem.Str.ofString "_") ⟨0, 0, 0, 0⟩) (fun _ => rfl) ?_); first | (refine' kim_tup ?itN ?itm ?itc ?itd ?itlo ?ithi ?itj ?itx ?_ ?its; (case itN => k_asm); (case itm => k_mem); (case itc => exact rfl); (case itd => exact rfl); (case itlo => decide); (case ithi => decide); (case itj => exact rfl); (case itx => exact rfl); (case its => with_unfolding_all rfl)) | (refine' kim_list ?itN ?itm ?itc ?itd ?itlo ?ithi ?itx ?_ ?its; (case itN => k_asm); (case itm => k_mem); (case itc => exact rfl); (case itd => exact rfl); (case itlo => decide); (case ithi => decide); (case itx => exact rfl); (case its => with_unfolding_all rfl))))
  k_with "cw" => (k_here; k_dflt (first | (refine' callWith_K ?kq1 ?kq2 ?_; (case kq1 => k_asm); (case kq2 => k_is); k_whole) | (refine' callWith_K0 ?kq1 ?kq2 ?_; (case kq1 => k_in); (case kq2 => k_is); k_whole)))
  k_with "stc" => (k_here; (have hz9 := hn0); (repeat ((rename (@LT.lt Nat _ _ _) ∧ _ => zz9); (have hq9 := And.left zz9); (replace zz9 := And.right zz9))); k_dflt (refine' storeX_C ?stF ?stN ?stc ?stU ?std ?_ ?sta ?stb; (case sta => rfl); (case stb => rfl); (case stF => k_asm); (case stN => k_asm); (case stc => rfl); (case stU => k_updF); (case std => k_asm); k_whole; intro h' o' F' N' d'; (try dsimp only at N'); (try k_sweep)))
  k_with "next" => ((with_reducible show wpAny _ _ (execs (Stmt.Assign [Expr.Name (Str.ofString "points") _] _ _ :: _) _) _ _ _); (rename Fr _ _ _ _ => lF'); (rename News _ _ _ _ => lN'); k_dflt (refine' w4 ?nx1 ?nx2 ?nxC ?nxD ?nxB ?nxF ?nxX ?nxT (pick14 lN') ?nd1 ?nd2 ?nd3 hn0 hn1 hn2 hn3 (sg6 _ hn4) hn5 ?nhd ?nhu ?nhE ?_; (case nx1 => rfl); (case nx2 => rfl); (case nxC => assumption); (case nxD => assumption); (case nxB => first | k_asm | exact below_at (by k_asm)); (case nxF => exact canon1 lF' rfl); (case nxX => k_asm); (case nxT => k_asm); (case nd1 => assumption); (case nd2 => assumption); (case nd3 => assumption); (case nhd => (show callerA.depth + 1 + 200 < recursionLimit; decide)); (case nhu => (first | decide | k_room | ktr_units)); (case nhE => first | passes_own | with_unfolding_all passes_own)); intro m9 news9 qs1 qs2 h9 tk9 F9 N9 m44 m51; (try dsimp only))
  k_go0
  (all_goals try k_fold)
  k_steps
  (all_goals (try k_data))
  all_goals w_report)
end Mine
theorem PySem.Challenge.cw_hg0003_02_holds : PySem.Challenge.rw_hg0003_02.Holds :=
  Mine.walk
