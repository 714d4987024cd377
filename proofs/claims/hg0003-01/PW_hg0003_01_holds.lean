import PyProof.Rows.All
import Wide.All
import OpenK.AllK
import Wide.FinOn
import KE.BitLaws
import Lean
import PySem.Challenge.RW_hg0003_01
open PySem PySem.W PyProof.Rows PySem.Calls
set_option Elab.async false
set_option linter.unusedSimpArgs false
set_option linter.unusedVariables false
local macro_rules | `(tactic| walk_at $s:str) => `(tactic| k_extra $s)
namespace Mine
open PySem
def digs (x b : Int) : Nat → List Int
  | 0 => []
  | k + 1 => x % b :: digs (x / b) b k
def undigs (b : Int) : List Int → Int
  | [] => 0
  | d :: r => d + b * undigs b r
theorem digs_length (x b : Int) (k : Nat) : (digs x b k).length = k := by
  induction k generalizing x with
  | zero => rfl
  | succ k ih => simp [digs, ih]
theorem digs_one {x b : Int} (h0 : 0 ≤ x) (h1 : x < b) : digs x b 1 = [x] := by
  simp [digs, Int.emod_eq_of_lt h0 h1]
theorem digs_add (b : Int) (hb : 0 < b) (i j : Nat) : ∀ x : Int, digs x b (i + j) = digs (x % b ^ i) b i ++ digs (x / b ^ i) b j := by
  induction i with
  | zero => intro x; simp [digs]
  | succ i ih =>
    intro x
    rw [Nat.succ_add]
    show x % b :: digs (x / b) b (i + j) = (x % b ^ (i+1)) % b :: (digs ((x % b ^ (i+1)) / b) b i ++ digs (x / b ^ (i+1)) b j)
    rw [ih]
    have e1 : (x % b ^ (i+1)) % b = x % b := Int.emod_emod_of_dvd x ⟨b ^ i, by rw [Int.pow_succ]; exact Int.mul_comm _ _⟩
    have e2 : (x / b) / b ^ i = x / b ^ (i+1) := by
      rw [Int.pow_succ, Int.mul_comm, Int.ediv_ediv_of_nonneg (Int.le_of_lt hb)]
    have e3 : (x / b) % b ^ i = (x % b ^ (i+1)) / b := by
      have hp : 0 < b ^ i := Int.pow_pos hb
      have h1 := Int.mul_ediv_add_emod (x / b) (b ^ i)
      have h2 := Int.mul_ediv_add_emod x (b ^ (i+1))
      rw [e2] at h1
      have e4 : x % b ^ (i+1) = x - b * (b ^ i * (x / b ^ (i+1))) := by
        rw [← Int.mul_assoc, show b * b ^ i = b ^ (i+1) by rw [Int.pow_succ, Int.mul_comm]]; omega
      rw [e4, Int.sub_mul_ediv_left _ _ (Int.ne_of_gt hb)]
      omega
    rw [e1, e2, e3]
theorem undigs_append (b : Int) : ∀ (l r : List Int), undigs b (l ++ r) = undigs b l + b ^ l.length * undigs b r := by
  intro l
  induction l with
  | nil => intro r; simp [undigs]
  | cons d l ih =>
    intro r
    simp only [List.cons_append, undigs, ih, List.length_cons, Int.pow_succ]
    grind
theorem nat_low (m k : Nat) : m &&& (m / 2 ^ k * 2 ^ k) = m / 2 ^ k * 2 ^ k := by
  rw [← Nat.shiftRight_eq_div_pow, ← Nat.shiftLeft_eq]
  apply Nat.eq_of_testBit_eq
  intro i
  rw [Nat.testBit_and, Nat.testBit_shiftLeft, Nat.testBit_shiftRight]
  by_cases h : i ≥ k
  · simp [h, Nat.add_sub_of_le h]
  · simp [h]
theorem bitXor_low {x : Int} (h0 : 0 ≤ x) (k : Nat) : Builtin.bitXor x (x / 2 ^ k * 2 ^ k) = x % 2 ^ k := by
  have hp : (0 : Int) < 2 ^ k := Int.pow_pos (by decide)
  have hy : 0 ≤ x / 2 ^ k * 2 ^ k := Int.mul_nonneg (Int.ediv_nonneg h0 (Int.le_of_lt hp)) (Int.le_of_lt hp)
  rw [PyProof.Rows.bitXor_and]
  have e : Builtin.bitAnd x (x / 2 ^ k * 2 ^ k) = x / 2 ^ k * 2 ^ k := by
    unfold Builtin.bitAnd
    simp only [h0, hy, decide_true]
    obtain ⟨m, rfl⟩ := Int.eq_ofNat_of_zero_le h0
    have e1 : ((m : Int) / 2 ^ k * 2 ^ k) = ((m / 2 ^ k * 2 ^ k : Nat) : Int) := by push_cast; rfl
    rw [e1, Int.toNat_natCast, Int.toNat_natCast, nat_low]
  rw [e]
  have := Int.mul_ediv_add_emod x (2 ^ k)
  rw [Int.mul_comm] at this
  omega
theorem bits_pos {x : Int} (h : 1 ≤ x) : 1 ≤ (Builtin.Int.intBits x : Int) := by
  unfold Builtin.Int.intBits
  rw [if_neg (by simp; omega)]
  omega
theorem lt_bits {x : Int} (h : 0 ≤ x) : x < 2 ^ Builtin.Int.intBits x := by
  unfold Builtin.Int.intBits
  split
  · rename_i h'; have : x = 0 := by simpa using h'
    subst this; decide
  · obtain ⟨m, rfl⟩ := Int.eq_ofNat_of_zero_le h
    have := @Nat.lt_log2_self m
    rw [Int.natAbs_natCast]
    exact_mod_cast this
theorem bits_le {x : Int} {k : Nat} (h : 0 ≤ x) (hk : x < 2 ^ k) : Builtin.Int.intBits x ≤ k := by
  unfold Builtin.Int.intBits
  split
  · omega
  · rename_i h'
    obtain ⟨m, rfl⟩ := Int.eq_ofNat_of_zero_le h
    have hm : m ≠ 0 := by intro e; subst e; simp at h'
    rw [Int.natAbs_natCast]
    have : m < 2 ^ k := by exact_mod_cast hk
    have := (Nat.log2_lt hm).mpr this
    omega
theorem mul_box {a b A B : Int} (h1 : 0 ≤ a) (h2 : a ≤ A) (h3 : 0 ≤ b) (h4 : b ≤ B) : 0 ≤ a * b ∧ a * b ≤ A * B :=
  ⟨Int.mul_nonneg h1 h3, Int.mul_le_mul h2 h4 h3 (Int.le_trans h1 h2)⟩
theorem div_box {x : Int} (k : Nat) (hx : 0 ≤ x) : 0 ≤ x / 2 ^ k ∧ x / 2 ^ k ≤ x :=
  ⟨Int.ediv_nonneg hx (Int.le_of_lt (Int.pow_pos (by decide))), Int.ediv_le_self _ hx⟩
theorem pow_split {n d : Int} (hn : 0 ≤ n) (hd : 0 ≤ d) : (2 : Int) ^ (d * n).toNat = (2 ^ n.toNat) ^ d.toNat := by
  obtain ⟨m, rfl⟩ := Int.eq_ofNat_of_zero_le hn
  obtain ⟨e, rfl⟩ := Int.eq_ofNat_of_zero_le hd
  rw [← Int.natCast_mul, Int.toNat_natCast, Int.toNat_natCast, Int.toNat_natCast, ← Int.pow_mul, Nat.mul_comm]
theorem split_facts {x lo mid hi n shift upper lower : Int} (hn : 1 ≤ n) (h1 : lo < mid) (h2 : mid < hi) (hx0 : 0 ≤ x) (hx1 : x < (2 ^ n.toNat) ^ (hi - lo).toNat)
    (hs : shift = (mid - lo) * n) (hu : upper = x / 2 ^ shift.toNat) (hl : lower = Builtin.bitXor x (upper * 2 ^ shift.toNat)) :
    0 ≤ lower ∧ lower < (2 ^ n.toNat) ^ (mid - lo).toNat ∧ lower ≤ x ∧ 0 ≤ upper ∧ upper < (2 ^ n.toNat) ^ (hi - mid).toNat ∧ upper ≤ x ∧
      digs x (2 ^ n.toNat) (hi - lo).toNat = digs lower (2 ^ n.toNat) (mid - lo).toNat ++ digs upper (2 ^ n.toNat) (hi - mid).toNat := by
  have hp : (2 : Int) ^ shift.toNat = (2 ^ n.toNat) ^ (mid - lo).toNat := by rw [hs]; exact pow_split (by omega) (by omega)
  have hb : (0 : Int) < 2 ^ n.toNat := Int.pow_pos (by decide)
  have hpp : (0 : Int) < (2 ^ n.toNat) ^ (mid - lo).toNat := Int.pow_pos hb
  rw [hu, bitXor_low hx0] at hl
  rw [hp] at hu hl
  have e : (hi - lo).toNat = (mid - lo).toNat + (hi - mid).toNat := by omega
  have hx1' : x < (2 ^ n.toNat) ^ (mid - lo).toNat * (2 ^ n.toNat) ^ (hi - mid).toNat := by rw [← Int.pow_add, ← e]; exact hx1
  subst hu hl
  refine ⟨Int.emod_nonneg _ (Int.ne_of_gt hpp), Int.emod_lt_of_pos _ hpp, ?_, Int.ediv_nonneg hx0 (Int.le_of_lt hpp), ?_, Int.ediv_le_self _ hx0, ?_⟩
  · have := Int.mul_ediv_add_emod x ((2 ^ n.toNat) ^ (mid - lo).toNat); have := Int.mul_nonneg (Int.le_of_lt hpp) (Int.ediv_nonneg hx0 (Int.le_of_lt hpp)); omega
  · exact Int.ediv_lt_of_lt_mul hpp (by rw [Int.mul_comm]; exact hx1')
  · rw [e]; exact digs_add _ hb _ _ _
theorem patch2 {ys A B : List Int} {lo mid hi : Nat} (h1 : lo ≤ mid) (h2 : mid ≤ hi) (h3 : hi ≤ ys.length) (hA : A.length = mid - lo) :
    (ys.take lo ++ A ++ ys.drop mid).take mid ++ B ++ (ys.take lo ++ A ++ ys.drop mid).drop hi = ys.take lo ++ (A ++ B) ++ ys.drop hi := by
  have e1 : (ys.take lo ++ A).length = mid := by simp; omega
  rw [List.take_append_of_le_length (by omega), List.take_of_length_le (by omega), List.drop_append, List.drop_of_length_le (by omega), e1, List.drop_drop]
  simp
  congr 1
  omega
theorem patch1 {ys : List Int} {lo : Nat} {x : Int} (h : lo < ys.length) : ys.set lo x = ys.take lo ++ [x] ++ ys.drop (lo + 1) := by
  rw [List.set_eq_take_append_cons_drop, if_pos h]; simp
theorem leaf_list {x lo hi n : Int} {ys : List Int} (h : lo + 1 = hi) (h0 : 0 ≤ lo) (hh : hi ≤ ys.length) (hx0 : 0 ≤ x) (hx1 : x < (2 ^ n.toNat) ^ (hi - lo).toNat) :
    ys.take lo.toNat ++ digs x (2 ^ n.toNat) (hi - lo).toNat ++ ys.drop hi.toNat = ys.set lo.toNat x := by
  have e : (hi - lo).toNat = 1 := by omega
  rw [e] at hx1 ⊢
  rw [Int.pow_one] at hx1
  rw [digs_one hx0 hx1, patch1 (by omega), show hi.toNat = lo.toNat + 1 by omega]
theorem undigs_nonneg {b : Int} (hb : 0 ≤ b) : ∀ {l : List Int}, (∀ d ∈ l, 0 ≤ d) → 0 ≤ undigs b l
  | [], _ => Int.le_refl _
  | d :: r, h => by
    have h1 := h d (.head _)
    have h2 := undigs_nonneg hb (l := r) fun e he => h e (.tail _ he)
    have := Int.mul_nonneg hb h2
    show 0 ≤ d + b * undigs b r
    omega
def cut (ys : List Int) (lo hi : Int) : List Int := (ys.drop lo.toNat).take (hi - lo).toNat
theorem cut_split {ys : List Int} {lo mid hi : Int} (h0 : 0 ≤ lo) (h1 : lo ≤ mid) (h2 : mid ≤ hi) : cut ys lo hi = cut ys lo mid ++ cut ys mid hi := by
  unfold cut
  rw [show (hi - lo).toNat = (mid - lo).toNat + (hi - mid).toNat by omega, List.take_add, List.drop_drop]
  rw [show lo.toNat + (mid - lo).toNat = mid.toNat by omega]
theorem cut_length {ys : List Int} {lo hi : Int} (h0 : 0 ≤ lo) (h1 : lo ≤ hi) (h2 : hi ≤ ys.length) : (cut ys lo hi).length = (hi - lo).toNat := by
  unfold cut
  rw [List.length_take, List.length_drop]; omega
theorem cut_one {ys : List Int} {lo hi : Int} (h0 : 0 ≤ lo) (h1 : lo + 1 = hi) (h2 : hi ≤ ys.length) : cut ys lo hi = [ys.getD lo.toNat 0] := by
  unfold cut
  have h : lo.toNat < ys.length := by omega
  rw [show (hi - lo).toNat = 1 by omega, List.drop_eq_getElem_cons h, List.take_succ_cons, List.take_zero]
  simp [List.getD, h]
theorem cut_mem {ys : List Int} {lo hi : Int} {P : Int → Prop} (h : ∀ d ∈ ys, P d) : ∀ d ∈ cut ys lo hi, P d := fun d hd => h d (List.mem_of_mem_drop (List.mem_of_mem_take hd))
theorem cut_all {ys : List Int} {hi : Int} (h : hi = ys.length) : cut ys 0 hi = ys := by
  unfold cut
  rw [h]; simp
theorem val_split {ys : List Int} {n lo mid hi shift : Int} (hn : 1 ≤ n) (h0 : 0 ≤ lo) (h1 : lo < mid) (h2 : mid < hi) (h3 : hi ≤ ys.length) (hd : ∀ d ∈ ys, 0 ≤ d) (hs : shift = (mid - lo) * n) :
    0 ≤ undigs (2 ^ n.toNat) (cut ys lo mid) ∧ 0 ≤ undigs (2 ^ n.toNat) (cut ys mid hi) ∧ undigs (2 ^ n.toNat) (cut ys lo mid) ≤ undigs (2 ^ n.toNat) (cut ys lo hi) ∧ undigs (2 ^ n.toNat) (cut ys mid hi) ≤ undigs (2 ^ n.toNat) (cut ys lo hi) ∧
      undigs (2 ^ n.toNat) (cut ys mid hi) * 2 ^ shift.toNat + undigs (2 ^ n.toNat) (cut ys lo mid) = undigs (2 ^ n.toNat) (cut ys lo hi) := by
  have hp : (2 : Int) ^ shift.toNat = (2 ^ n.toNat) ^ (mid - lo).toNat := by rw [hs]; exact pow_split (by omega) (by omega)
  have hb : (0 : Int) < 2 ^ n.toNat := Int.pow_pos (by decide)
  have hpp : (0 : Int) < (2 ^ n.toNat) ^ (mid - lo).toNat := Int.pow_pos hb
  rw [hp]
  have a1 := undigs_nonneg (Int.le_of_lt hb) (cut_mem (lo := lo) (hi := mid) hd)
  have a2 := undigs_nonneg (Int.le_of_lt hb) (cut_mem (lo := mid) (hi := hi) hd)
  have e : undigs (2 ^ n.toNat) (cut ys lo hi) = undigs (2 ^ n.toNat) (cut ys lo mid) + (2 ^ n.toNat) ^ (mid - lo).toNat * undigs (2 ^ n.toNat) (cut ys mid hi) := by
    rw [cut_split h0 (Int.le_of_lt h1) (Int.le_of_lt h2), undigs_append, cut_length h0 (Int.le_of_lt h1) (by omega)]
  have a3 : undigs (2 ^ n.toNat) (cut ys mid hi) ≤ (2 ^ n.toNat) ^ (mid - lo).toNat * undigs (2 ^ n.toNat) (cut ys mid hi) := by
    have := Int.mul_le_mul_of_nonneg_right (show (1 : Int) ≤ (2 ^ n.toNat) ^ (mid - lo).toNat from hpp) a2
    omega
  rw [Int.mul_comm ((2 ^ n.toNat) ^ (mid - lo).toNat)] at e a3
  refine ⟨a1, a2, ?_, ?_, ?_⟩ <;> omega
theorem D_facts {x n D : Int} (hx0 : 1 ≤ x) (hx1 : x ≤ 1000) (hn : 1 ≤ n) (hD : D = ((Builtin.Int.intBits x : Int) + n - 1) / n) : 1 ≤ D ∧ D ≤ 10 ∧ x < (2 ^ n.toNat) ^ D.toNat := by
  have b1 := bits_pos hx0
  have b2 : Builtin.Int.intBits x ≤ 10 := bits_le (by omega) (by have : (2 : Int) ^ 10 = 1024 := by decide
                                                                 omega)
  have b3 := lt_bits (x := x) (by omega)
  have h1 : 1 ≤ D := by rw [hD]; exact Int.le_ediv_of_mul_le (by omega) (by omega)
  have h2 : D < 11 := by rw [hD]; exact Int.ediv_lt_of_lt_mul (by omega) (by omega)
  have h3 : (Builtin.Int.intBits x : Int) ≤ D * n := by
    have := Int.lt_ediv_add_one_mul_self ((Builtin.Int.intBits x : Int) + n - 1) (show 0 < n by omega)
    rw [← hD, Int.add_mul] at this
    omega
  refine ⟨h1, by omega, ?_⟩
  rw [← pow_split (by omega) (by omega)]
  refine Int.lt_of_lt_of_le b3 ?_
  exact_mod_cast Nat.pow_le_pow_right (by decide : 0 < 2) (show Builtin.Int.intBits x ≤ (D * n).toNat by omega)
def hval (B acc : Int) (ds : List Int) : Int := ds.foldl (fun a d => a * B + d) acc
theorem hval_nil (B acc : Int) : hval B acc [] = acc := rfl
theorem hval_cons (B acc d : Int) (ds : List Int) : hval B acc (d :: ds) = hval B (acc * B + d) ds := rfl
theorem hval_snoc (B acc d : Int) (ds : List Int) : hval B acc (ds ++ [d]) = hval B acc ds * B + d := by
  unfold hval; rw [List.foldl_append]; rfl
theorem hval_reverse (B : Int) : ∀ l : List Int, hval B 0 l.reverse = undigs B l
  | [] => rfl
  | d :: r => by rw [List.reverse_cons, hval_snoc, hval_reverse B r]; show _ = d + B * undigs B r; rw [Int.mul_comm, Int.add_comm]
theorem undigs_digs {B : Int} (hB : 0 < B) : ∀ (k : Nat) (x : Int), 0 ≤ x → x < B ^ k → undigs B (digs x B k) = x
  | 0, x, h0, h1 => by
    have : x < 1 := by simpa using h1
    show (0 : Int) = x
    omega
  | k + 1, x, h0, h1 => by
    have h2 : 0 ≤ x / B := Int.ediv_nonneg h0 (Int.le_of_lt hB)
    have h3 : x / B < B ^ k := Int.ediv_lt_of_lt_mul hB (by rw [← Int.pow_succ]; exact h1)
    show x % B + B * undigs B (digs (x / B) B k) = x
    rw [undigs_digs hB k _ h2 h3]
    have := Int.mul_ediv_add_emod x B
    omega
theorem digs_range {B : Int} (hB : 0 < B) : ∀ (k : Nat) (x : Int), ∀ d ∈ digs x B k, 0 ≤ d ∧ d < B
  | 0, _, _, h => nomatch h
  | k + 1, x, d, h => by
    rcases List.mem_cons.mp h with rfl | h
    · exact ⟨Int.emod_nonneg _ (Int.ne_of_gt hB), Int.emod_lt_of_pos _ hB⟩
    · exact digs_range hB k _ d h
structure DivInv (x b B : Int) (r : Int) (qs ds : List Int) (D : Nat) : Prop where
  r0 : 0 ≤ r
  r1 : r < b
  val : hval B (b * hval B 0 qs + r) ds = x
  rng : ∀ d ∈ ds, 0 ≤ d ∧ d < B
  qpos : ∀ q ∈ qs, 0 ≤ q
  len : qs.length + ds.length = D
theorem DivInv.start {x b B : Int} {D : Nat} (hB : 0 < B) (hb : 0 < b) (hx0 : 0 ≤ x) (hx1 : x < B ^ D) : DivInv x b B 0 [] (digs x B D).reverse D where
  r0 := Int.le_refl _
  r1 := hb
  val := by
    rw [show b * hval B 0 [] + 0 = 0 by rw [hval_nil]; simp, hval_reverse, undigs_digs hB D x hx0 hx1]
  rng := fun d hd => digs_range hB D x d (List.mem_reverse.mp hd)
  qpos := fun _ h => nomatch h
  len := by simp [digs_length]
theorem DivInv.step {x b B r d v : Int} {qs ds : List Int} {D : Nat} (h : DivInv x b B r qs (d :: ds) D) (hB : 0 < B) (hb : 0 < b) (hv : v = r * B + d) : DivInv x b B (v % b) (qs ++ [v / b]) ds D where
  r0 := Int.emod_nonneg _ (Int.ne_of_gt hb)
  r1 := Int.emod_lt_of_pos _ hb
  val := by
    have hd := h.val
    rw [hval_cons] at hd
    rw [hval_snoc, ← hd]
    congr 1
    have := Int.mul_ediv_add_emod v b
    have e : b * (hval B 0 qs * B + v / b) + v % b = b * hval B 0 qs * B + (b * (v / b) + v % b) := by grind
    rw [e, this, hv]
    grind
  rng := fun e he => h.rng e (.tail _ he)
  qpos := fun q hq => by
    rcases List.mem_append.mp hq with hq | hq
    · exact h.qpos q hq
    · rw [List.mem_singleton.mp hq]
      refine Int.ediv_nonneg ?_ (Int.le_of_lt hb)
      rw [hv]
      have := Int.mul_nonneg h.r0 (Int.le_of_lt hB)
      have := (h.rng d (.head _)).1
      omega
  len := by
    have := h.len
    simp only [List.length_append, List.length_cons, List.length_nil] at this ⊢
    omega
theorem DivInv.stop {x b B r : Int} {qs : List Int} {D : Nat} (h : DivInv x b B r qs [] D) (hb : 0 < b) : undigs B qs.reverse = x / b ∧ r = x % b ∧ (∀ d ∈ qs.reverse, 0 ≤ d) ∧ qs.reverse.length = D := by
  have e := h.val
  rw [hval_nil] at e
  have e1 : undigs B qs.reverse = hval B 0 qs := by rw [← hval_reverse, List.reverse_reverse]
  have h0 := h.r0
  have h1 := h.r1
  rw [e1]
  refine ⟨?_, ?_, fun d hd => h.qpos d (List.mem_reverse.mp hd), ?_⟩
  · rw [← e, Int.add_comm, Int.add_mul_ediv_left _ _ (Int.ne_of_gt hb), Int.ediv_eq_zero_of_lt h0 h1]; omega
  · rw [← e, Int.add_comm, Int.add_mul_emod_self_left, Int.emod_eq_of_lt h0 h1]
  · have := h.len; simpa using this
theorem pow_le_1024 {n : Int} (h : n ≤ 10) : (2 : Int) ^ n.toNat ≤ 1024 := by
  have h1 : (2 : Nat) ^ n.toNat ≤ 2 ^ 10 := Nat.pow_le_pow_right (by decide) (by omega)
  have h2 : (2 : Nat) ^ 10 = 1024 := by decide
  have h3 : ((2 ^ n.toNat : Nat) : Int) ≤ 1024 := by omega
  rw [Int.natCast_pow] at h3
  exact h3
end Mine
namespace Mine
section
variable {prog : Program} {w : World} {A : Around} {E : Value → Shared → Prop} {s : Shared} {a b : Int} {t u : Tok} {Q : Value → Shared → Prop}
theorem rshift_v (hb : 0 ≤ b) (h : ∀ v, v = a / 2 ^ b.toNat → Q (.int v s.toks) { s with toks := s.toks + 1 }) : wpAny (model prog w) A (binaryOp .RShift (.int a t) (.int b u)) Q E s :=
  rshift_int hb (h _ (Int.fdiv_eq_ediv_of_nonneg a (Int.le_of_lt (Int.pow_pos (by decide)))))
theorem rshift1_v (h : ∀ v, v = a / 2 → Q (.int v s.toks) { s with toks := s.toks + 1 }) : wpAny (model prog w) A (binaryOp .RShift (.int a t) (.int 1 u)) Q E s :=
  rshift_int (by decide) (h _ (by rw [show (2 : Int) ^ Int.toNat 1 = 2 by decide]; exact Int.fdiv_eq_ediv_of_nonneg a (by decide)))
theorem lshift_v (hb : 0 ≤ b) (hb2 : b ≤ 1000000) (ha : a.natAbs < 2 ^ 64) (h : ∀ v, v = a * 2 ^ b.toNat → Q (.int v s.toks) { s with toks := s.toks + 1 }) : wpAny (model prog w) A (binaryOp .LShift (.int a t) (.int b u)) Q E s :=
  lshift_int_small hb hb2 ha (h _ rfl)
theorem xor_v (h : ∀ v, v = Builtin.bitXor a b → Q (.int v s.toks) { s with toks := s.toks + 1 }) : wpAny (model prog w) A (binaryOp .BitXor (.int a t) (.int b u)) Q E s :=
  PyProof.Rows.xor_int (h _ rfl)
theorem fdiv_v (hb : 0 < b) (hb2 : b < 1000000000) (h : ∀ v, v = a / b → Q (.int v s.toks) { s with toks := s.toks + 1 }) : wpAny (model prog w) A (binaryOp .FloorDiv (.int a t) (.int b u)) Q E s :=
  floordiv_int (by omega) (h _ (Int.fdiv_eq_ediv_of_nonneg a (Int.le_of_lt hb))) (.inl (PyProof.noPylong_small (by omega)))
theorem mul_v (hm : -1000000000 ≤ a ∧ a ≤ 1000000000) (h : ∀ v, v = a * b → Q (.int v s.toks) { s with toks := s.toks + 1 }) : wpAny (model prog w) A (binaryOp .Mult (.int a t) (.int b u)) Q E s :=
  PyProof.Rows.mul_int (h _ rfl) (IntMulOk.of_left (PySem.intBits_le_64 (by omega) (by omega)))
theorem mul_r (hm : -1000000000 ≤ b ∧ b ≤ 1000000000) (h : ∀ v, v = a * b → Q (.int v s.toks) { s with toks := s.toks + 1 }) : wpAny (model prog w) A (binaryOp .Mult (.int a t) (.int b u)) Q E s :=
  PyProof.Rows.mul_int (h _ rfl) (IntMulOk.of_right (PySem.intBits_le_64 (by omega) (by omega)))
end
abbrev tup (vs : List Value) : Obj := { cls := .type "tuple", data := .seq vs.toArray }
def TabOk (qual : Str) (line col : Int) (news : List (Addr × Obj)) (ps : Array Value) : Prop :=
  ps = #[] ∨ ∃ c oc vs t, ps = #[rawInt line, rawInt col, .ref c] ∧ (c, oc) ∈ news ∧ oc.data = .fields vs ∧ vs[1]? = some (.str qual t)
section
variable {prog : Program} {w : World} {A : Around} {E : Value → Shared → Prop} {s : Shared} {h₀ : Heap} {L l : Addr} {news : List (Addr × Obj)} {vs : List Value} {ys : List Int} {kk : Nat}
theorem truthy_m {Q : Bool → Shared → Prop} (N : News h₀ L s.heap news) (hm : (l, listOf vs.toArray kk) ∈ news) (hi : IntsAre vs ys) (h1 : 1 ≤ ys.length) (h2 : ys.length ≤ 1000) (h : Q true { s with toks := s.toks + 1 + 1 }) : wpAny (model prog w) A (truthy (.ref l)) Q E s := by
  have e : vs.toArray.size = ys.length := by rw [List.size_toArray]; exact hi.length
  refine wpAny_truthy_list (News.isList N hm) (by omega) ?_
  have e2 : (!vs.toArray.isEmpty) = true := by
    have : vs ≠ [] := fun q => by rw [q] at e; simp at e; omega
    simp [this]
  rw [e2]; exact h
theorem len_m {Q : Value → Shared → Prop} (N : News h₀ L s.heap news) (hm : (l, listOf vs.toArray kk) ∈ news) (hi : IntsAre vs ys) (h2 : ys.length ≤ 1000) (h : Q (.int ys.length (s.toks + 1)) { s with toks := s.toks + 1 + 1 }) : wpAny (model prog w) A (call (.builtin "len") [.ref l]) Q E s := by
  have e : vs.toArray.size = ys.length := by rw [List.size_toArray]; exact hi.length
  exact PySem.Calls.call_len_list (News.isList N hm) (by omega) (by rw [e]; exact h)
end
theorem allLt_news {h₀ h : Heap} {L : Addr} {news : List (Addr × Obj)} (N : News h₀ L h news) : AllLt h.objs.size news := allLt_of fun q hq => Heap.lt_size (N q hq).1
section
variable {prog : Program} {w : World} {A : Around} {E : Value → Shared → Prop} {s : Shared} {h₀ : Heap} {L : Addr} {m : Str → Option Value} {news : List (Addr × Obj)} {Q : Value → Shared → Prop}
theorem divmod_v {a b : Int} {t u : Tok} (F : Fr h₀ L s.heap m) (N : News h₀ L s.heap news) (hb : 0 < b) (hb2 : b < 1000000000)
    (h : ∀ D h' tk t1 t2, Fr h₀ L h' m → News h₀ L h' ((D, tup [.int (a / b) t1, .int (a % b) t2]) :: news) → AllLt D news → Q (.ref D) { s with toks := tk, heap := h' }) :
    wpAny (model prog w) A (call (.builtin "divmod") [.int a t, .int b u]) Q E s := by
  refine divmod_N F N (by omega) (fun h' F' N' => ?_) (.inl (PyProof.noPylong_small (by omega)))
  rw [Int.fdiv_eq_ediv_of_nonneg a (by omega), Int.fmod_eq_emod_of_nonneg a (by omega)] at N'
  exact h _ h' _ _ _ F' N' (allLt_news N)
theorem newList_v {vs : List Value} (F : Fr h₀ L s.heap m) (N : News h₀ L s.heap news) (hz : vs.length ≤ 1000)
    (h : ∀ D h', Fr h₀ L h' m → News h₀ L h' ((D, listOf vs.toArray 0) :: news) → AllLt D news → Q (.ref D) { s with heap := h' }) : wpAny (model prog w) A (newList vs) Q E s :=
  newList_N F N (fun h' F' N' => h _ h' F' N' (allLt_news N)) (by rw [sizeLine_eq]; omega)
end
theorem TabOk.mono {qual : Str} {line col : Int} {l l' : List (Addr × Obj)} {ps : Array Value} (h : TabOk qual line col l ps) (hs : ∀ q ∈ l, q ∈ l') : TabOk qual line col l' ps :=
  h.imp id fun ⟨c, oc, vs, t, a, b, d, e⟩ => ⟨c, oc, vs, t, a, hs _ b, d, e⟩
section
variable {prog : Program} {w : World} {A : Around} {E : Value → Shared → Prop} {h₀ : Heap} {env : Env} {x : Str} {body : List Stmt} {Q : Flow → Shared → Prop} {s : Shared} {I : Addr} {lp : Addr × Obj}
theorem revRest_ind (J : List Value → (Str → Option Value) → List (Addr × Obj) → Prop)
    (h0 : ∀ m news, J [] m news → ∀ h tk, Fr h₀ env.locals h m → News h₀ env.locals h news → Q .next { s with heap := h, toks := tk })
    (hs : ∀ v r m news, J (v :: r) m news → ∀ (it : Obj) h tk, it.cls = .type "list_reverseiterator" → Fr h₀ env.locals h (fun y => if y = x then some v else m y) → News h₀ env.locals h ((I, it) :: news) →
      wpAny (model prog w) A (execs body env) (UnrPost h₀ env.locals { s with heap := h, toks := tk } I it (fun m' n' => lp ∈ n' ∧ J r m' n') Q) E { s with heap := h, toks := tk }) :
    ∀ vs m news, J vs m news → RevRest prog w A E h₀ env x body Q s I lp vs m news := by
  intro vs
  induction vs with
  | nil => exact fun m news hj => RevRest.zero (h0 m news hj)
  | cons v r ih =>
    refine fun m news hj => RevRest.succ fun it h tk hc F N => ?_
    refine wpAny_mono (hs v r m news hj it h tk hc F N) (fun f s₂ hq => ?_) fun _ _ e => e
    cases f with
    | ret v => exact hq
    | brk => exact hq
    | next =>
      obtain ⟨h', tk', m', news', e, F', N', off, hl, hj'⟩ := hq
      exact ⟨h', tk', m', news', e, F', N', off, hl, ih m' news' hj'⟩
    | cont =>
      obtain ⟨h', tk', m', news', e, F', N', off, hl, hj'⟩ := hq
      exact ⟨h', tk', m', news', e, F', N', off, hl, ih m' news' hj'⟩
end
theorem offI_of_lt {I : Addr} {it : Obj} : ∀ {l : List (Addr × Obj)}, AllLt I l → OffI I it l
  | [], _ => trivial
  | _ :: _, h => ⟨.inl (Nat.ne_of_lt h.1), offI_of_lt h.2⟩
theorem canon1 {h₀ h : Heap} {L : Addr} {m : Str → Option Value} {x : Str} {v : Value} (F : Fr h₀ L h m) (hm : m x = some v) : Fr h₀ L h (fun y => if y = x then some v else m y) := by
  have e : (fun y => if y = x then some v else m y) = m := funext fun y => by
    by_cases h : y = x
    · rw [if_pos h, h, hm]
    · rw [if_neg h]
  rw [e]; exact F
section
variable {prog : Program} {w : World} {A : Around} {E : Value → Shared → Prop} {s : Shared}
theorem bits_v {Q : Value → Shared → Prop} {a : Int} {t : Tok} (h : ∀ v, v = (Builtin.Int.intBits a : Int) → Q (.int v s.toks) { s with toks := s.toks + 1 }) :
    wpAny (model prog w) A (call (.builtin "int.bit_length") [.int a t]) Q E s := call_int_bit_length (h _ rfl)
end
theorem mine_mem {q : Addr × Obj} {l : List (Addr × Obj)} (h : q ∈ l) : List.Mem q l := h
theorem drop3 {h₀ h : Heap} {L : Addr} {q1 q2 q3 : Addr × Obj} {l : List (Addr × Obj)} (N : News h₀ L h (q1 :: q2 :: q3 :: l)) : News h₀ L h (q1 :: q2 :: l) :=
  cb_drop N fun q hq => by
    simp only [List.mem_cons] at hq ⊢
    rcases hq with h | h | h <;> simp [h]
theorem drop_new {h₀ h : Heap} {L : Addr} {q1 q2 q3 q4 q5 q6 : Addr × Obj} {l : List (Addr × Obj)} (N : News h₀ L h (q1 :: q2 :: q3 :: q4 :: q5 :: q6 :: l)) : News h₀ L h (q2 :: q6 :: l) :=
  cb_drop N fun q hq => by
    simp only [List.mem_cons] at hq ⊢
    rcases hq with h | h | h <;> simp [h]
theorem drop_hit {h₀ h : Heap} {L : Addr} {q q1 q3 q4 q5 q6 : Addr × Obj} {l : List (Addr × Obj)} (N : News h₀ L h (q1 :: q3 :: q4 :: q5 :: q6 :: l)) (m : q ∈ l) : News h₀ L h (q :: q6 :: l) :=
  cb_drop N fun q' hq => by
    simp only [List.mem_cons] at hq ⊢
    rcases hq with h | h | h
    · subst h; simp [m]
    · simp [h]
    · simp [h]
theorem all_ne {b : Nat} {l : List (Addr × Obj)} (h : AllLt b l) : (∀ p ∈ l, p.1 ≠ b + 1) ∧ (∀ p ∈ l, p.1 ≠ b + 1 + 1) ∧ (∀ p ∈ l, p.1 ≠ b + 1 + 1 + 1) :=
  have k : ∀ p ∈ l, ∀ d : Nat, b < d → p.1 ≠ d := fun p hp d hd => Nat.ne_of_lt (Nat.lt_trans (ktn_ltOf h p hp) hd)
  ⟨fun p hp => k p hp _ (by omega), fun p hp => k p hp _ (by omega), fun p hp => k p hp _ (by omega)⟩
end Mine
local macro_rules | `(tactic| k_room) => `(tactic| ktr_room)
local macro_rules | `(tactic| k_units) => `(tactic| ktr_units)
local macro_rules | `(tactic| k_all) => `(tactic| assumption)
local macro_rules | `(tactic| k_mem) => `(tactic| (refine Mine.mine_mem ?_; with_reducible assumption))
local macro_rules | `(tactic| k_ne) => `(tactic| (refine neN ?_; (try dsimp only); first | (with_reducible assumption) | (with_reducible exact Ne.symm (by assumption)) | (with_reducible exact Nat.ne_of_gt (by assumption)) | (with_reducible exact Nat.ne_of_lt (by assumption))))
namespace Mine
set_option maxRecDepth 100000 in
set_option maxHeartbeats 8000000 in
open_top hd for PySem.Challenge.rw_hg0003_01
end Mine
namespace Mine
section
variable {w : World} {p : Program} {loose : List Str} {mean : ExcName → Option Value} {mg mb : Str → Option Value} {dp un : Nat} {gd : Option (List Code)} {cn : Str} {csn : List (Str × NameKind)} {csg csc : Bool} {csm : List (Str × Const)} {a : Addr} {ccd : Value} {cl : List (Str × Addr)} {outer : List Env} {A₀ : Around} {base h₀ : Heap} {L : Addr} {m : Str → Option Value} {news : List (Addr × Obj)} {s : Shared} {Q E : Value → Shared → Prop}
set_option maxRecDepth 100000 in
set_option maxHeartbeats 8000000 in
theorem div2n1n_ok 
    {x b n : Int} {tx tb tn : Tok}
    (B : Below A₀ base outer h₀) (F : Fr h₀ L s.heap m) (X : (hd.heap_39 w.params).In h₀) (N : News h₀ L s.heap news) (T : Top p loose mean mg mb h₀)
    (hx0 : 0 ≤ x) (hx1 : x < 1000000000) (hb0 : 1 ≤ b) (hb1 : b ≤ 1000) (hn0 : 1 ≤ n)
    (hd : dp + 40 < recursionLimit) (hu : un + 400 < cLine)
    (hret : ∀ D h' tk' t1 t2, Fr h₀ L h' m → News h₀ L h' ((D, tup [.int (x / b) t1, .int (x % b) t2]) :: news) → AllLt D news → Q (.ref D) { s with heap := h', toks := tk' }) :
    wpAny (model PySem.Challenge.rw_hg0003_01.row.prog w) (ktrTop dp un gd cn ⟨.function, csn, csg, csc, csm⟩ L a ccd cl outer) (call (.ref 35) [.int x tx, .int b tb, .int n tn]) Q E s := by
  revert X; k_fill; intro X
  have hbits : Builtin.Int.intBits x ≤ 30 := bits_le hx0 (by have : (2 : Int) ^ 30 = 1073741824 := by decide
                                                             omega)
  w_top off
  k_with_none
  k_with "call builtin:divmod cons nil" => k_dflt (refine' divmod_v ?F ?N ?a ?b ?_; (case F => k_asm); (case N => k_asm); (case a => omega); (case b => omega); intro D1 h1 tk1 t1 t2 F1 N1 l1)
  k_steps
  exact hret _ _ _ _ _ (by assumption) (by assumption) l1
end
end Mine
namespace Mine
section
variable {w : World} {p : Program} {loose : List Str} {mean : ExcName → Option Value} {mg mb : Str → Option Value}
set_option maxRecDepth 100000 in
set_option maxHeartbeats 8000000 in
theorem inner2_ok {f c' la cA cI cN : Addr} {oc oA oI oN ofn : Obj} {vsc : Array Value} {qual nm : Str} {tq tn : Tok} {n : Int} {prm prm0 : Arguments} {body r0 : List Stmt} {sc sc0 : Scope} {doc pm ctv oc0 : Value} {od0 : Option Addr} {n0 q0 bind : Str} {tsc : Option Scope} {pos : Pos} {dV kV d0 pm0 cdv ct : Value} {an : Option Addr} {osl : Array (Option Value)} {news : List (Addr × Obj)} {vs : List Value} {ys : List Int} {hb : Heap} {kk : Nat}
    (h56 : (hd.heap_39 w.params).lookup 56 = some ⟨oc0, od0, .func (fnOf n0 q0 prm0 (.FunctionDef nm prm body [] none [] sc tsc bind pos :: r0) sc0 dV kV d0 pm0 an cdv ct), osl⟩)
    (hofn : ofn = fnMade nm qual prm body sc [(Str.ofString "n", cN), (Str.ofString "inner", cI), (Str.ofString "digits", cA)] doc pm c' ctv)
    (mf : (f, ofn) ∈ news) (mc : (c', oc) ∈ news) (mA : (cA, oA) ∈ news) (mI : (cI, oI) ∈ news) (mN : (cN, oN) ∈ news) (ml : (la, listOf vs.toArray kk) ∈ news)
    (dA : oA.data = .cell (some (.ref la))) (dI : oI.data = .cell (some (.ref f))) (dN : oN.data = .cell (some (.int n tn)))
    (dc : oc.data = .fields vsc) (dq : vsc[1]? = some (.str qual tq)) (hn0 : 1 ≤ n) (hn1 : n ≤ 64) (C0 : CodeHd hb 55 51)
    (hi1 : IntsAre vs ys) (hlen : ys.length ≤ 1000) (hdig : ∀ d ∈ ys, 0 ≤ d) :
    ∀ (k : Nat) {dp un : Nat} {gd : Option (List Code)} {cn : Str} {csn : List (Str × NameKind)} {csg csc : Bool} {csm : List (Str × Const)} {a : Addr} {ccd : Value} {cl : List (Str × Addr)} {outer : List Env} {A₀ : Around} {base h₀ : Heap} {L : Addr} {m : Str → Option Value} {s : Shared} {Q E : Value → Shared → Prop}
      {lo hi : Int} {tl th : Tok},
      Below A₀ base outer h₀ → Fr h₀ L s.heap m → (hd.heap_39 w.params).In h₀ → News h₀ L s.heap news → Top p loose mean mg mb h₀ →
      0 ≤ lo → lo < hi → hi ≤ ys.length → hi - lo ≤ k → undigs (2 ^ n.toNat) (cut ys lo hi) ≤ 1000000 →
      dp + k + 10 < recursionLimit → un + 8 * k + 80 < cLine →
      (∀ t h' tk', Fr h₀ L h' m → News h₀ L h' news → Q (.int (undigs (2 ^ n.toNat) (cut ys lo hi)) t) { s with heap := h', toks := tk' }) →
      wpAny (model PySem.Challenge.rw_hg0003_01.row.prog w) (ktrTop dp un gd cn ⟨.function, csn, csg, csc, csm⟩ L a ccd cl outer) (call (.ref f) [.int lo tl, .int hi th]) Q E s := by
  k_fill
  have e56 := h56.symm.trans (show (hd.heap_39 w.params).lookup 56 = some _ by k_is)
  cases e56
  intro k
  induction k with
  | zero => intros; omega
  | succ k ih =>
    intro dp un gd cn csn csg csc csm a ccd cl outer A₀ base h₀ L m s Q E lo hi tl th B F X N T hlo hlt hhi hk hv hd hu hret
    subst hofn
    w_top off
    k_with_none
    k_with "binaryOp RShift int int" => k_dflt (with_reducible refine rshift1_v ?_; intro mid hmid; have hm1 : lo < mid := (by omega); have hm2 : mid < hi := (by omega))
    k_with "binaryOp Mult int int" => k_dflt (with_reducible refine mul_v ?hb ?_; (case hb => omega); intro shift hshift; have hbx := mul_box (a := mid - lo) (b := n) (A := 1000) (B := 64) (by omega) (by omega) (by omega) hn1; rw [← hshift] at hbx; have hsh : 0 ≤ shift := hbx.1; have hvs := val_split hn0 hlo hm1 hm2 hhi hdig hshift)
    k_with "binaryOp LShift int int" => k_dflt (with_reducible refine lshift_v ?hb ?hc ?hd ?_; (case hb => exact hsh); (case hc => omega); (case hd => omega); intro up hup2)
    k_with "call ref cons nil" => (have hl0 := hvs; first
      | (have hl1 := hup2; refine' ih (lo := lo) (hi := mid) ?k1 ?k2 ?k3 ?k4 ?k5 hlo hm1 ?k6 ?k7 ?k8 ?k9 ?k10 ?_; (case k1 => k_asm); (case k2 => k_asm); (case k3 => k_asm); (case k4 => k_asm); (case k5 => k_asm); (case k6 => omega); (case k7 => omega); (case k8 => omega); (case k9 => (try dsimp only [Around.deeper]); omega); (case k10 => (try dsimp only [Around.deeper]); omega); intro t3 h3 tk3 F3 N3; (try dsimp only))
      | (refine' ih (lo := mid) (hi := hi) ?k1 ?k2 ?k3 ?k4 ?k5 ?k11 hm2 ?k6 ?k7 ?k8 ?k9 ?k10 ?_; (case k1 => k_asm); (case k2 => k_asm); (case k3 => k_asm); (case k4 => k_asm); (case k5 => k_asm); (case k11 => omega); (case k6 => omega); (case k7 => omega); (case k8 => omega); (case k9 => (try dsimp only [Around.deeper]); omega); (case k10 => (try dsimp only [Around.deeper]); omega); intro t2 h2 tk2 F2 N2; (try dsimp only)))
    k_steps
    all_goals (first
      | (have e2 := hvs.2.2.2.2; rw [← hup2] at e2; rw [e2]; exact hret _ _ _ (by assumption) (by assumption))
      | (have e1 : ys.getD lo.toNat 0 = undigs (2 ^ n.toNat) (cut ys lo hi) := (by rw [cut_one hlo (by assumption) hhi]; simp [undigs]); rw [e1]; exact hret _ _ _ (by assumption) (by assumption)))
end
end Mine
namespace Mine
section
variable {w : World} {p : Program} {loose : List Str} {mean : ExcName → Option Value} {mg mb : Str → Option Value}
set_option maxRecDepth 100000 in
set_option maxHeartbeats 8000000 in
theorem inner1_ok {f c' la cA cI cN : Addr} {oc oA oI oN ofn : Obj} {vsc : Array Value} {qual nm : Str} {tq tn : Tok} {n : Int} {prm prm0 : Arguments} {body r0 : List Stmt} {s0 : Stmt} {sc sc0 : Scope} {doc pm ctv oc0 : Value} {od0 : Option Addr} {n0 q0 bind : Str} {tsc : Option Scope} {pos : Pos} {dV kV d0 pm0 cdv ct : Value} {an : Option Addr} {osl : Array (Option Value)} {rest : List (Addr × Obj)}
    (h49 : (hd.heap_39 w.params).lookup 49 = some ⟨oc0, od0, .func (fnOf n0 q0 prm0 (s0 :: .FunctionDef nm prm body [] none [] sc tsc bind pos :: r0) sc0 dV kV d0 pm0 an cdv ct), osl⟩)
    (hofn : ofn = fnMade nm qual prm body sc [(Str.ofString "n", cN), (Str.ofString "inner", cI), (Str.ofString "a_digits", cA)] doc pm c' ctv)
    (dA : oA.data = .cell (some (.ref la))) (dI : oI.data = .cell (some (.ref f))) (dN : oN.data = .cell (some (.int n tn)))
    (dc : oc.data = .fields vsc) (dq : vsc[1]? = some (.str qual tq)) (hn0 : 1 ≤ n) (hn1 : n ≤ 64)
    (la1 : @Ne Nat la f) (la2 : @Ne Nat la c') (la3 : @Ne Nat la cA) (la4 : @Ne Nat la cI) (la5 : @Ne Nat la cN) (la6 : ∀ q ∈ rest, q.1 ≠ la) {hb : Heap} (C0 : CodeHd hb 48 44) :
    ∀ (k : Nat) {dp un : Nat} {gd : Option (List Code)} {cn : Str} {csn : List (Str × NameKind)} {csg csc : Bool} {csm : List (Str × Const)} {a : Addr} {ccd : Value} {cl : List (Str × Addr)} {outer : List Env} {A₀ : Around} {base h₀ : Heap} {L : Addr} {m : Str → Option Value} {s : Shared} {Q E : Value → Shared → Prop}
      {x lo hi : Int} {tx tl th : Tok} {vs : List Value} {ys : List Int},
      Below A₀ base outer h₀ → Fr h₀ L s.heap m → (hd.heap_39 w.params).In h₀ → News h₀ L s.heap ((la, listOf vs.toArray 0) :: (f, ofn) :: (c', oc) :: (cA, oA) :: (cI, oI) :: (cN, oN) :: rest) → Top p loose mean mg mb h₀ →
      IntsAre vs ys → 0 ≤ lo → lo < hi → hi ≤ ys.length → ys.length ≤ 1000 → hi - lo ≤ k → 0 ≤ x → x < (2 ^ n.toNat) ^ (hi - lo).toNat → x < 1000000 →
      dp + k + 10 < recursionLimit → un + 8 * k + 80 < cLine →
      (∀ vs' h' tk', Fr h₀ L h' m → News h₀ L h' ((la, listOf vs'.toArray 0) :: (f, ofn) :: (c', oc) :: (cA, oA) :: (cI, oI) :: (cN, oN) :: rest) → IntsAre vs' (ys.take lo.toNat ++ digs x (2 ^ n.toNat) (hi - lo).toNat ++ ys.drop hi.toNat) → Q .none { s with heap := h', toks := tk' }) →
      wpAny (model PySem.Challenge.rw_hg0003_01.row.prog w) (ktrTop dp un gd cn ⟨.function, csn, csg, csc, csm⟩ L a ccd cl outer) (call (.ref f) [.int x tx, .int lo tl, .int hi th]) Q E s := by
  k_fill
  have e49 := h49.symm.trans (show (hd.heap_39 w.params).lookup 49 = some _ by k_is)
  cases e49
  intro k
  induction k with
  | zero => intros; omega
  | succ k ih =>
    intro dp un gd cn csn csg csc csm a ccd cl outer A₀ base h₀ L m s Q E x lo hi tx tl th vs ys B F X N T hi1 hlo hlt hhi hlen hk hx0 hx1 hx2 hd hu hret
    subst hofn
    w_top off
    k_with_none
    k_with "binaryOp RShift int int" => k_dflt (first | (with_reducible refine rshift1_v ?_; intro mid hmid; have hm1 : lo < mid := (by omega); have hm2 : mid < hi := (by omega)) | (with_reducible refine rshift_v ?hb ?_; (case hb => exact hsh); intro upper hupper; have hup := div_box shift.toNat hx0; rw [← hupper] at hup))
    k_with "binaryOp Mult int int" => k_dflt (with_reducible refine mul_v ?hb ?_; (case hb => omega); intro shift hshift; have hbx := mul_box (a := mid - lo) (b := n) (A := 1000) (B := 64) (by omega) (by omega) (by omega) hn1; rw [← hshift] at hbx; have hsh : 0 ≤ shift := hbx.1)
    k_with "binaryOp LShift int int" => k_dflt (with_reducible refine lshift_v ?hb ?hc ?hd ?_; (case hb => exact hsh); (case hc => omega); (case hd => omega); intro up hup2)
    k_with "binaryOp BitXor int int" => k_dflt (with_reducible refine xor_v ?_; intro lower hlower; rw [hup2] at hlower; obtain ⟨g1, g2, g3, g4, g5, g6, g7⟩ := split_facts hn0 hm1 hm2 hx0 hx1 hshift hupper hlower)
    k_with "call ref cons nil" => (have hl0 := hlower; first
      | (refine' ih (x := upper) (lo := mid) (hi := hi) (vs := vs2) (ys := ys.take lo.toNat ++ digs lower (2 ^ n.toNat) (mid - lo).toNat ++ ys.drop mid.toNat) ?k1 ?k2 ?k3 ?k4 ?k5 hI2 (by omega) hm2 ?k6 ?k11 ?k7 g4 g5 ?k8 ?k9 ?k10 ?_; (case k1 => k_asm); (case k2 => k_asm); (case k3 => k_asm); (case k4 => k_asm); (case k5 => k_asm); (case k6 => omega); (case k11 => omega); (case k7 => omega); (case k8 => omega); (case k9 => (try dsimp only [Around.deeper]); omega); (case k10 => (try dsimp only [Around.deeper]); omega); intro vs3 h3 tk3 F3 N3 hI3; rw [patch2 (by omega) (by omega) (by omega) (by rw [digs_length]; omega), ← g7] at hI3; (try dsimp only))
      | (refine' ih (x := lower) (lo := lo) (hi := mid) (vs := vs) (ys := ys) ?k1 ?k2 ?k3 ?k4 ?k5 hi1 hlo hm1 ?k6 hlen ?k7 g1 g2 ?k8 ?k9 ?k10 ?_; (case k1 => k_asm); (case k2 => k_asm); (case k3 => k_asm); (case k4 => k_asm); (case k5 => k_asm); (case k6 => omega); (case k7 => omega); (case k8 => omega); (case k9 => (try dsimp only [Around.deeper]); omega); (case k10 => (try dsimp only [Around.deeper]); omega); intro vs2 h2 tk2 F2 N2 hI2; have hlen2 : (ys.take lo.toNat ++ digs lower (2 ^ n.toNat) (mid - lo).toNat ++ ys.drop mid.toNat).length = ys.length := (by simp only [List.length_append, List.length_take, List.length_drop, digs_length]; omega); (try dsimp only)))
    k_steps
    all_goals (first
      | exact hret vs3 _ _ (by assumption) (by assumption) hI3
      | (refine hret _ _ _ (by assumption) (by assumption) ?_; rw [leaf_list (by assumption) hlo hhi hx0 hx1]; assumption))
end
end Mine
namespace Mine
section
variable {w : World} {p : Program} {loose : List Str} {mean : ExcName → Option Value} {mg mb : Str → Option Value} {dp un : Nat} {gd : Option (List Code)} {cn : Str} {csn : List (Str × NameKind)} {csg csc : Bool} {csm : List (Str × Const)} {a : Addr} {ccd : Value} {cl : List (Str × Addr)} {outer : List Env} {A₀ : Around} {base h₀ : Heap} {L : Addr} {m : Str → Option Value} {news : List (Addr × Obj)} {s : Shared} {Q E : Value → Shared → Prop}
theorem sub_of {P : Addr × Obj → Prop} {l : List (Addr × Obj)} {q : Addr × Obj} (h1 : P q) (h2 : ∀ x ∈ l, P x) : ∀ x ∈ q :: l, P x := List.forall_mem_cons.mpr ⟨h1, h2⟩
variable {f c' la cA cI cN l' : Addr} {oc oA oI oN ol ofn tab : Obj} {vsc : Array Value} {qual nm : Str} {tq tn : Tok} {n : Int} {prm prm0 : Arguments} {body r0 : List Stmt} {s0 : Stmt} {sc sc0 : Scope} {doc pm ctv oc0 : Value} {od0 : Option Addr} {n0 q0 bind : Str} {tsc : Option Scope} {pos : Pos} {dV kV d0 pm0 cdv ct : Value} {an : Option Addr} {osl : Array (Option Value)} {hb : Heap}
  {x D : Int} {n1 : Nat} {tx tl th : Tok} {vs : List Value} {ys : List Int}
theorem inner1_new
    (h49 : (hd.heap_39 w.params).lookup 49 = some ⟨oc0, od0, .func (fnOf n0 q0 prm0 (s0 :: .FunctionDef nm prm body [] none [] sc tsc bind pos :: r0) sc0 dV kV d0 pm0 an cdv ct), osl⟩)
    (B : Below A₀ base outer h₀) (F : Fr h₀ L s.heap m) (X : (hd.heap_39 w.params).In h₀) (T : Top p loose mean mg mb h₀)
    (N : News h₀ L s.heap ((f, fnMade nm qual prm body sc [(Str.ofString "n", cN), (Str.ofString "inner", cI), (Str.ofString "a_digits", cA)] doc pm c' ctv) :: (c', oc) :: (la, listOf vs.toArray 0) :: (l', ol) :: (cI, oI) :: (cA, oA) :: (cN, oN) :: (44, tab) :: news))
    (l1 : @LT.lt Nat _ l' la ∧ @LT.lt Nat _ cI la ∧ @LT.lt Nat _ cA la ∧ @LT.lt Nat _ cN la ∧ @LT.lt Nat _ 44 la ∧ AllLt la news)
    (l2 : @LT.lt Nat _ la c' ∧ @LT.lt Nat _ l' c' ∧ @LT.lt Nat _ cI c' ∧ @LT.lt Nat _ cA c' ∧ @LT.lt Nat _ cN c' ∧ @LT.lt Nat _ 44 c' ∧ AllLt c' news) (l3 : @LT.lt Nat _ c' f)
    (dA : oA.data = .cell (some (.ref la))) (dI : oI.data = .cell (some (.ref f))) (dN : oN.data = .cell (some (.int n tn)))
    (dc : oc.data = .fields vsc) (dq : vsc[1]? = some (.str qual tq)) (hn0 : 1 ≤ n) (hn1 : n ≤ 64) (C0 : CodeHd hb 48 44)
    (hi : IntsAre vs ys) (e1 : ys.length = n1) (hD1 : 1 ≤ D) (hD2 : D ≤ 10) (hD3 : x < (2 ^ n.toNat) ^ D.toNat) (e3 : 0 ≤ D → (n1 : Int) = ((0 + 1 : Nat) : Int) * D) (hx0 : 1 ≤ x) (hx1 : x ≤ 1000)
    (hd : dp + 30 < recursionLimit) (hu : un + 300 < cLine)
    (hret : ∀ vs' h' tk', Fr h₀ L h' m → News h₀ L h' ((la, listOf vs'.toArray 0) :: (c', oc) :: (cA, oA) :: (44, tab) :: news) → IntsAre vs' (digs x (2 ^ n.toNat) D.toNat) → Q .none { s with heap := h', toks := tk' }) :
    wpAny (model PySem.Challenge.rw_hg0003_01.row.prog w) (ktrTop dp un gd cn ⟨.function, csn, csg, csc, csm⟩ L a ccd cl outer) (call (.ref f) [.int x tx, .int 0 tl, .int n1 th]) Q E s := by
  have e4 : (n1 : Int) = D := by have := e3 (by omega); omega
  refine inner1_ok (doc := doc) (pm := pm) (ctv := ctv) (f := f) (la := la) (cA := cA) (cI := cI) (cN := cN) (oA := oA) (oI := oI) (oN := oN) (oc := oc) (c' := c') (vs := vs) (rest := (44, tab) :: news) (mean := mean) (loose := loose) (p := p) (mg := mg) (mb := mb) h49 rfl dA dI dN dc dq hn0 hn1 (by omega) (by omega) (by omega) (by omega) (by omega) ?_ C0 10 B F X
    (cb_drop N ?_) T hi (by omega) (by omega) (by omega) (by omega) (by omega) (by omega) (by rw [e4]; simpa using hD3) (by omega) (by omega) (by omega) ?_
  · exact sub_of (show @Ne Nat 44 la by omega) fun q hq => Nat.ne_of_lt (ktn_ltOf l1.2.2.2.2.2 q hq)
  · intro q hq
    simp only [List.mem_cons] at hq ⊢
    rcases hq with h | h | h | h | h | h | h | h <;> simp [h]
  · intro vs' h' tk' F' N' hi'
    refine hret vs' h' tk' F' (cb_drop N' ?_) ?_
    · intro q hq
      simp only [List.mem_cons] at hq ⊢
      rcases hq with h | h | h | h | h <;> simp [h]
    · have e5 : (n1 : Int).toNat = ys.length := by omega
      rw [e5, List.drop_length] at hi'
      simpa [e4] using hi'
theorem inner1_hit
    (h49 : (hd.heap_39 w.params).lookup 49 = some ⟨oc0, od0, .func (fnOf n0 q0 prm0 (s0 :: .FunctionDef nm prm body [] none [] sc tsc bind pos :: r0) sc0 dV kV d0 pm0 an cdv ct), osl⟩)
    (B : Below A₀ base outer h₀) (F : Fr h₀ L s.heap m) (X : (hd.heap_39 w.params).In h₀) (T : Top p loose mean mg mb h₀)
    (N : News h₀ L s.heap ((f, fnMade nm qual prm body sc [(Str.ofString "n", cN), (Str.ofString "inner", cI), (Str.ofString "a_digits", cA)] doc pm c' ctv) :: (la, listOf vs.toArray 0) :: (l', ol) :: (cI, oI) :: (cA, oA) :: (cN, oN) :: (44, tab) :: news))
    (l1 : @LT.lt Nat _ l' la ∧ @LT.lt Nat _ cI la ∧ @LT.lt Nat _ cA la ∧ @LT.lt Nat _ cN la ∧ @LT.lt Nat _ 44 la ∧ AllLt la news)
    (l2 : @LT.lt Nat _ la f ∧ @LT.lt Nat _ l' f ∧ @LT.lt Nat _ cI f ∧ @LT.lt Nat _ cA f ∧ @LT.lt Nat _ cN f ∧ @LT.lt Nat _ 44 f ∧ AllLt f news) (mc : (c', oc) ∈ news)
    (dA : oA.data = .cell (some (.ref la))) (dI : oI.data = .cell (some (.ref f))) (dN : oN.data = .cell (some (.int n tn)))
    (dc : oc.data = .fields vsc) (dq : vsc[1]? = some (.str qual tq)) (hn0 : 1 ≤ n) (hn1 : n ≤ 64) (C0 : CodeHd hb 48 44)
    (hi : IntsAre vs ys) (e1 : ys.length = n1) (hD1 : 1 ≤ D) (hD2 : D ≤ 10) (hD3 : x < (2 ^ n.toNat) ^ D.toNat) (e3 : 0 ≤ D → (n1 : Int) = ((0 + 1 : Nat) : Int) * D) (hx0 : 1 ≤ x) (hx1 : x ≤ 1000)
    (hd : dp + 30 < recursionLimit) (hu : un + 300 < cLine)
    (hret : ∀ vs' h' tk', Fr h₀ L h' m → News h₀ L h' ((la, listOf vs'.toArray 0) :: (c', oc) :: (cA, oA) :: (44, tab) :: news) → IntsAre vs' (digs x (2 ^ n.toNat) D.toNat) → Q .none { s with heap := h', toks := tk' }) :
    wpAny (model PySem.Challenge.rw_hg0003_01.row.prog w) (ktrTop dp un gd cn ⟨.function, csn, csg, csc, csm⟩ L a ccd cl outer) (call (.ref f) [.int x tx, .int 0 tl, .int n1 th]) Q E s := by
  have e4 : (n1 : Int) = D := by have := e3 (by omega); omega
  have hc : @LT.lt Nat _ c' la := ktn_ltOf l1.2.2.2.2.2 _ mc
  refine inner1_ok (doc := doc) (pm := pm) (ctv := ctv) (f := f) (la := la) (cA := cA) (cI := cI) (cN := cN) (oA := oA) (oI := oI) (oN := oN) (oc := oc) (c' := c') (vs := vs) (rest := (44, tab) :: news) (mean := mean) (loose := loose) (p := p) (mg := mg) (mb := mb) h49 rfl dA dI dN dc dq hn0 hn1 (by omega) (by omega) (by omega) (by omega) (by omega) ?_ C0 10 B F X
    (cb_drop N ?_) T hi (by omega) (by omega) (by omega) (by omega) (by omega) (by omega) (by rw [e4]; simpa using hD3) (by omega) (by omega) (by omega) ?_
  · exact sub_of (show @Ne Nat 44 la by omega) fun q hq => Nat.ne_of_lt (ktn_ltOf l1.2.2.2.2.2 q hq)
  · intro q hq
    simp only [List.mem_cons] at hq ⊢
    rcases hq with h | h | h | h | h | h | h | h
    all_goals first | (simp [h]; done) | (subst h; simp [mc])
  · intro vs' h' tk' F' N' hi'
    refine hret vs' h' tk' F' (cb_drop N' ?_) ?_
    · intro q hq
      simp only [List.mem_cons] at hq ⊢
      rcases hq with h | h | h | h | h <;> simp [h]
    · have e5 : (n1 : Int).toNat = ys.length := by omega
      rw [e5, List.drop_length] at hi'
      simpa [e4] using hi'
end
end Mine
namespace Mine
section
variable {w : World} {p : Program} {loose : List Str} {mean : ExcName → Option Value} {mg mb : Str → Option Value} {dp un : Nat} {gd : Option (List Code)} {cn : Str} {csn : List (Str × NameKind)} {csg csc : Bool} {csm : List (Str × Const)} {a : Addr} {ccd : Value} {cl : List (Str × Addr)} {outer : List Env} {A₀ : Around} {base h₀ : Heap} {L : Addr} {m : Str → Option Value} {news : List (Addr × Obj)} {s : Shared} {Q E : Value → Shared → Prop}
set_option maxRecDepth 100000 in
set_option maxHeartbeats 8000000 in
theorem int2digits_ok 
    {x n DD : Int} {tx tn : Tok} {ps : Array Value} {ok : List (Addr × Obj)}
    (B : Below A₀ base outer h₀) (F : Fr h₀ L s.heap m) (X : (hd.heap_39 w.params).In h₀) (N : News h₀ L s.heap ((44, tabObj ps) :: news)) (T : Top p loose mean mg mb h₀)
    (C : CodeHd base 48 44)
    (hx0 : 1 ≤ x) (hx1 : x ≤ 1000) (hn0 : 1 ≤ n) (hn1 : n ≤ 64) (ha : ∀ q ∈ news, q.1 ≠ 44) (hps : TabOk (Str.ofString "_int2digits.<locals>.inner") 50 4 ok ps) (hok : ∀ q ∈ ok, q ∈ news)
    (hDD : DD = ((Builtin.Int.intBits x : Int) + n - 1) / n)
    (hd : dp + 40 < recursionLimit) (hu : un + 400 < cLine)
    (hret : ∀ D h' tk' vs' c oc vsc t ps', Fr h₀ L h' m → News h₀ L h' ((D, listOf vs'.toArray 0) :: (c, oc) :: (44, tabObj ps') :: news) → IntsAre vs' (digs x (2 ^ n.toNat) DD.toNat) →
      ps' = #[rawInt 50, rawInt 4, .ref c] → oc.data = .fields vsc → vsc[1]? = some (.str (Str.ofString "_int2digits.<locals>.inner") t) → ((c, oc) ∈ ok ∨ AllLt c ((44, tabObj #[]) :: news)) → @LT.lt Nat _ 44 D → AllLt D news → Q (.ref D) { s with heap := h', toks := tk' }) :
    wpAny (model PySem.Challenge.rw_hg0003_01.row.prog w) (ktrTop dp un gd cn ⟨.function, csn, csg, csc, csm⟩ L a ccd cl outer) (call (.ref 49) [.int x tx, .int n tn]) Q E s := by
  revert X; k_fill; intro X
  obtain ⟨hD1, hD2, hD3⟩ := D_facts hx0 hx1 hn0 hDD
  rcases hps with rfl | ⟨c, oc, vs, t, rfl, mc, hoc, hv⟩
  · skip
    w_top off
    k_with_none
    k_with "binaryOp FloorDiv int int" => k_dflt (with_reducible refine fdiv_v ?hb ?hc ?_; (case hb => omega); (case hc => omega); intro D hD; obtain rfl : D = DD := hD.trans hDD.symm; have hD0 := hD1)
    k_with "call ref cons nil" => (have g := hD0; clear g; k_dflt (refine' inner1_new ?h49 ?k1 ?k2 ?k3 ?k5 ?kN ?l1 ?l2 ?l3 ?dA ?dI ?dN ?dc ?dq hn0 hn1 C ?hi ?e1 hD1 hD2 hD3 ?e3 hx0 hx1 ?ld ?lu ?_; (case h49 => k_is); (case k1 => k_asm); (case k2 => k_asm); (case k3 => k_asm); (case k5 => k_asm); (case kN => k_asm); (case l1 => k_asm); (case l2 => k_asm); (case l3 => k_asm); (case dA => k_asm); (case dI => k_asm); (case dN => k_asm); (case dc => k_asm); (case dq => k_asm); (case hi => k_asm); (case e1 => k_asm); (case e3 => k_asm); (case ld => (try dsimp only [Around.deeper]); omega); (case lu => (try dsimp only [Around.deeper]); omega); intro vs2 h2 tk2 F2 N2 hI2; (try dsimp only)))
    walk1
    rename (44 < _ ∧ AllLt _ news) => l0
    obtain ⟨q1, q2, q3⟩ := all_ne l0.2
    k_with "execs nil" => (exfalso; omega)
    k_steps
    exact hret _ _ _ vs2 _ _ _ _ _ (by assumption) (drop3 (by assumption)) hI2 rfl (by assumption) (by assumption) (.inr ⟨by omega, (by assumption : _ ∧ _ ∧ _ ∧ _ ∧ _ ∧ _ ∧ AllLt _ news).2.2.2.2.2.2⟩) (by omega) (by assumption : _ ∧ _ ∧ _ ∧ _ ∧ _ ∧ AllLt _ news).2.2.2.2.2
  · skip
    w_top off
    k_with_none
    k_with "binaryOp FloorDiv int int" => k_dflt (with_reducible refine fdiv_v ?hb ?hc ?_; (case hb => omega); (case hc => omega); intro D hD; obtain rfl : D = DD := hD.trans hDD.symm; have hD0 := hD1)
    k_with "call ref cons nil" => (have g := hD0; clear g; k_dflt (refine' inner1_hit ?h49 ?k1 ?k2 ?k3 ?k5 ?kN ?l1 ?l2 (hok _ mc) ?dA ?dI ?dN ?dc ?dq hn0 hn1 C ?hi ?e1 hD1 hD2 hD3 ?e3 hx0 hx1 ?ld ?lu ?_; (case h49 => k_is); (case k1 => k_asm); (case k2 => k_asm); (case k3 => k_asm); (case k5 => k_asm); (case kN => k_asm); (case l1 => k_asm); (case l2 => k_asm); (case dA => k_asm); (case dI => k_asm); (case dN => k_asm); (case dc => k_asm); (case dq => k_asm); (case hi => k_asm); (case e1 => k_asm); (case e3 => k_asm); (case ld => (try dsimp only [Around.deeper]); omega); (case lu => (try dsimp only [Around.deeper]); omega); intro vs2 h2 tk2 F2 N2 hI2; (try dsimp only)))
    walk1
    rename (44 < _ ∧ AllLt _ news) => l0
    obtain ⟨q1, q2, q3⟩ := all_ne l0.2
    k_with "execs nil" => (exfalso; omega)
    k_steps
    exact hret _ _ _ vs2 _ _ _ _ _ (by assumption) (drop3 (by assumption)) hI2 rfl (by assumption) (by assumption) (.inl mc) (by omega) (by assumption : _ ∧ _ ∧ _ ∧ _ ∧ _ ∧ AllLt _ news).2.2.2.2.2
end
end Mine
namespace Mine
section
variable {w : World} {p : Program} {loose : List Str} {mean : ExcName → Option Value} {mg mb : Str → Option Value} {dp un : Nat} {gd : Option (List Code)} {cn : Str} {csn : List (Str × NameKind)} {csg csc : Bool} {csm : List (Str × Const)} {a : Addr} {ccd : Value} {cl : List (Str × Addr)} {outer : List Env} {A₀ : Around} {base h₀ : Heap} {L : Addr} {m : Str → Option Value} {news : List (Addr × Obj)} {s : Shared} {Q E : Value → Shared → Prop}
set_option maxRecDepth 100000 in
set_option maxHeartbeats 8000000 in
theorem digits2int_ok 
    {n : Int} {tn : Tok} {ps : Array Value} {ok : List (Addr × Obj)} {ld : Addr} {vs : List Value} {ys : List Int} {kk : Nat}
    (B : Below A₀ base outer h₀) (F : Fr h₀ L s.heap m) (X : (hd.heap_39 w.params).In h₀) (N : News h₀ L s.heap ((51, tabObj ps) :: news)) (T : Top p loose mean mg mb h₀)
    (C : CodeHd base 55 51) (ml : (ld, listOf vs.toArray kk) ∈ news) (hi1 : IntsAre vs ys) (hlen0 : 1 ≤ ys.length) (hlen : ys.length ≤ 10) (hdig : ∀ d ∈ ys, 0 ≤ d) (hval : undigs (2 ^ n.toNat) ys ≤ 1000000)
    (hn0 : 1 ≤ n) (hn1 : n ≤ 64) (ha : ∀ q ∈ news, q.1 ≠ 51) (hps : TabOk (Str.ofString "_digits2int.<locals>.inner") 65 4 ok ps) (hok : ∀ q ∈ ok, q ∈ news)
    (hd : dp + 40 < recursionLimit) (hu : un + 400 < cLine)
    (hret : ∀ h' tk' c oc vsc t t' ps', Fr h₀ L h' m → News h₀ L h' ((c, oc) :: (51, tabObj ps') :: news) →
      ps' = #[rawInt 65, rawInt 4, .ref c] → oc.data = .fields vsc → vsc[1]? = some (.str (Str.ofString "_digits2int.<locals>.inner") t) → ((c, oc) ∈ ok ∨ AllLt c ((51, tabObj #[]) :: news)) → Q (.int (undigs (2 ^ n.toNat) ys) t') { s with heap := h', toks := tk' }) :
    wpAny (model PySem.Challenge.rw_hg0003_01.row.prog w) (ktrTop dp un gd cn ⟨.function, csn, csg, csc, csm⟩ L a ccd cl outer) (call (.ref 56) [.ref ld, .int n tn]) Q E s := by
  revert X; k_fill; intro X
  rcases hps with rfl | ⟨c, oc, vsc, t, rfl, mc, hoc, hv⟩
  · skip
    w_top off
    k_with_none
    k_with "truthy ref" => k_dflt (refine' truthy_m (vs := vs) ?N ?m hi1 hlen0 ?h ?_; (case N => k_asm); (case m => k_mem); (case h => omega))
    k_with "call builtin:len cons nil" => k_dflt (refine' len_m (vs := vs) ?N ?m hi1 ?h ?_; (case N => k_asm); (case m => k_mem); (case h => omega))
    k_with "call ref cons nil" => (have g := l0; clear g; k_dflt (refine' inner2_ok ?h56 rfl ?mf ?mc ?mA ?mI ?mN (la := ld) (vs := vs) ?ml ?dA ?dI ?dN ?dc ?dq hn0 hn1 C hi1 ?hl hdig 10 ?k1 ?k2 ?k3 ?k4 ?k5 ?c1 ?c2 ?c3 ?c4 ?c5 ?ld ?lu ?_; (case h56 => k_is); (case k1 => k_asm); (case k2 => k_asm); (case k3 => k_asm); (case k4 => k_asm); (case k5 => k_asm); (case mf => k_mem); (case mc => k_mem); (case mA => k_mem); (case mI => k_mem); (case mN => k_mem); (case ml => k_mem); (case dA => k_asm); (case dI => k_asm); (case dN => k_asm); (case dc => k_asm); (case dq => k_asm); (case hl => omega); (case c1 => omega); (case c2 => omega); (case c3 => omega); (case c4 => omega); (case c5 => (rw [cut_all rfl]; exact hval)); (case ld => (try dsimp only [Around.deeper]); omega); (case lu => (try dsimp only [Around.deeper]); omega); intro t2 h2 tk2 F2 N2; rw [cut_all rfl]; (try dsimp only)))
    walk1
    rename (51 < _ ∧ AllLt _ news) => l0
    obtain ⟨q1, q2, q3⟩ := all_ne l0.2
    k_steps
    exact hret _ _ _ _ _ _ _ _ (by assumption) (drop_new (by assumption)) rfl (by assumption) (by assumption) (.inr ⟨by omega, (by assumption : _ ∧ _ ∧ _ ∧ _ ∧ AllLt _ news).2.2.2.2⟩)
  · skip
    w_top off
    k_with_none
    k_with "truthy ref" => k_dflt (refine' truthy_m (vs := vs) ?N ?m hi1 hlen0 ?h ?_; (case N => k_asm); (case m => k_mem); (case h => omega))
    k_with "call builtin:len cons nil" => k_dflt (refine' len_m (vs := vs) ?N ?m hi1 ?h ?_; (case N => k_asm); (case m => k_mem); (case h => omega))
    k_with "call ref cons nil" => (have g := l0; clear g; k_dflt (refine' inner2_ok ?h56 rfl ?mf ?mc ?mA ?mI ?mN (la := ld) (vs := vs) ?ml ?dA ?dI ?dN ?dc ?dq hn0 hn1 C hi1 ?hl hdig 10 ?k1 ?k2 ?k3 ?k4 ?k5 ?c1 ?c2 ?c3 ?c4 ?c5 ?ld ?lu ?_; (case h56 => k_is); (case k1 => k_asm); (case k2 => k_asm); (case k3 => k_asm); (case k4 => k_asm); (case k5 => k_asm); (case mf => k_mem); (case mc => exact List.mem_cons_of_mem _ (List.mem_cons_of_mem _ (List.mem_cons_of_mem _ (List.mem_cons_of_mem _ (List.mem_cons_of_mem _ (hok _ mc)))))); (case mA => k_mem); (case mI => k_mem); (case mN => k_mem); (case ml => k_mem); (case dA => k_asm); (case dI => k_asm); (case dN => k_asm); (case dc => k_asm); (case dq => k_asm); (case hl => omega); (case c1 => omega); (case c2 => omega); (case c3 => omega); (case c4 => omega); (case c5 => (rw [cut_all rfl]; exact hval)); (case ld => (try dsimp only [Around.deeper]); omega); (case lu => (try dsimp only [Around.deeper]); omega); intro t2 h2 tk2 F2 N2; rw [cut_all rfl]; (try dsimp only)))
    walk1
    rename (51 < _ ∧ AllLt _ news) => l0
    obtain ⟨q1, q2, q3⟩ := all_ne l0.2
    k_steps
    exact hret _ _ _ _ _ _ _ _ (by assumption) (drop_hit (by assumption) (hok _ mc)) rfl (by assumption) (by assumption) (.inl mc)
end
end Mine
namespace Mine
section
variable {w : World} {p : Program} {loose : List Str} {mean : ExcName → Option Value} {mg mb : Str → Option Value} {dp un : Nat} {gd : Option (List Code)} {cn : Str} {csn : List (Str × NameKind)} {csg csc : Bool} {csm : List (Str × Const)} {a : Addr} {ccd : Value} {cl : List (Str × Addr)} {outer : List Env} {A₀ : Around} {base h₀ : Heap} {L : Addr} {m : Str → Option Value} {news : List (Addr × Obj)} {s : Shared} {Q E : Value → Shared → Prop}
set_option maxRecDepth 100000 in
set_option maxHeartbeats 8000000 in
theorem divmod_pos_ok 
    {x b : Int} {tx tb : Tok} {ps1 ps2 : Array Value}
    (B : Below A₀ base outer h₀) (F : Fr h₀ L s.heap m) (X : (hd.heap_39 w.params).In h₀) (N : News h₀ L s.heap ((44, tabObj ps1) :: (51, tabObj ps2) :: news)) (T : Top p loose mean mg mb h₀)
    (C1 : CodeHd base 48 44) (C2 : CodeHd base 55 51) (ha1 : ∀ q ∈ news, q.1 ≠ 44) (ha2 : ∀ q ∈ news, q.1 ≠ 51)
    (hp1 : TabOk (Str.ofString "_int2digits.<locals>.inner") 50 4 news ps1) (hp2 : TabOk (Str.ofString "_digits2int.<locals>.inner") 65 4 news ps2)
    (hx0 : 1 ≤ x) (hx1 : x ≤ 1000) (hb0 : 1 ≤ b) (hb1 : b ≤ 1000)
    (hd : dp + 60 < recursionLimit) (hu : un + 600 < cLine)
    (hret : ∀ D h' tk' t1 t2 q1 q2 ps1' ps2', Fr h₀ L h' m → News h₀ L h' ((D, tup [.int (x / b) t1, .int (x % b) t2]) :: (44, tabObj ps1') :: (51, tabObj ps2') :: q1 :: q2 :: news) →
      TabOk (Str.ofString "_int2digits.<locals>.inner") 50 4 (q1 :: q2 :: news) ps1' → TabOk (Str.ofString "_digits2int.<locals>.inner") 65 4 (q1 :: q2 :: news) ps2' → (∀ q ∈ q1 :: q2 :: news, q.1 ≠ 44) → (∀ q ∈ q1 :: q2 :: news, q.1 ≠ 51) →
      AllLt D ((44, tabObj ps1') :: (51, tabObj ps2') :: q1 :: q2 :: news) → Q (.ref D) { s with heap := h', toks := tk' }) :
    wpAny (model PySem.Challenge.rw_hg0003_01.row.prog w) (ktrTop dp un gd cn ⟨.function, csn, csg, csc, csm⟩ L a ccd cl outer) (call (.ref 63) [.int x tx, .int b tb]) Q E s := by
  revert X; k_fill; intro X
  have hbits : Builtin.Int.intBits b ≤ 10 := bits_le (by omega) (by have : (2 : Int) ^ 10 = 1024 := by decide
                                                                    omega)
  have hbits1 := bits_pos hb0
  w_top off
  k_with_none
  k_with "call builtin:int.bit_length cons nil" => k_dflt (with_reducible refine bits_v ?_; intro n hn; have hn0 : 1 ≤ n := (by omega); have hn1 : n ≤ 10 := (by omega))
  k_with "newList nil" => k_dflt (refine' newList_v ?F ?N ?z ?_; (case F => k_asm); (case N => k_asm); (case z => decide); intro ql h4 F4 N4 l4)
  k_with "call type:reversed cons nil" => k_dflt (refine' krv_reversed (vs := dv) ?F ?N ?l ?_; (case F => k_asm); (case N => k_asm); (case l => exact News.isList (by assumption) (by k_mem)); intro it0 h5 F5 N5 l5)
  k_with "call ref cons nil" => first
    | ((with_reducible show wpAny _ _ (call (Value.ref 49) _) _ _ _); k_dflt (refine' int2digits_ok (ok := news) ?k1 ?k2 ?k3 ?k4 ?k5 C1 hx0 hx1 hn0 ?n1 ?a1 hp1 ?ho rfl ?ld ?lu ?_; (case k1 => k_asm); (case k2 => k_asm); (case k3 => k_asm); (case k4 => k_asm); (case k5 => k_asm); (case n1 => omega); (case a1 => exact List.forall_mem_cons.mpr ⟨(show (51 : Nat) ≠ 44 by decide), ha1⟩); (case ho => exact fun q hq => List.mem_cons_of_mem _ hq); (case ld => (try dsimp only [Around.deeper]); omega); (case lu => (try dsimp only [Around.deeper]); omega); intro da h2 tk2 dv c1 oc1 vsc1 tc1 ps1' F2 N2 hI2 e1 d1 q1 nc1 lda0 lda; (try dsimp only)))
  k_steps
  have hBB : (0 : Int) < 2 ^ n.toNat := Int.pow_pos (by decide)
  have hBle : (2 : Int) ^ n.toNat ≤ 1024 := pow_le_1024 hn1
  obtain ⟨hD1, hD2, hD3⟩ := D_facts hx0 hx1 hn0 rfl
  have l4' := l4
  simp only [AllLt] at l4'
  have qn : ∀ q ∈ news, q.1 ≠ ql := fun q hq => Nat.ne_of_lt (ktn_ltOf l4'.2.2.2.2 q hq)
  have l5' := allLt_of l5
  simp only [AllLt] at l5'
  have lda1 := lda.1
  have c44 : @Ne Nat c1 44 := nc1.elim (fun h => ha1 _ h) fun h => Nat.ne_of_gt h.1
  have c51 : @Ne Nat c1 51 := nc1.elim (fun h => ha2 _ h) fun h => Nat.ne_of_gt h.2.1
  refine iter_revUnr (lo := listOf dv.toArray 0) (vs := dv) rfl (by assumption) N5 (offI_of_lt (allLt_of l5)) (by k_mem) rfl rfl ?_
  refine revRest_ind (fun vs' m' n' => ∃ r tr tn tb qs vals ds kk, IntsAre vs' ds ∧ m' (Str.ofString "r") = some (.int r tr) ∧ m' (Str.ofString "n") = some (.int n tn) ∧ m' (Str.ofString "b") = some (.int b tb) ∧ m' (Str.ofString "q_digits") = some (.ref ql) ∧
    n' = (ql, listOf vals.toArray kk) :: (da, listOf dv.toArray 0) :: (c1, oc1) :: (44, tabObj ps1') :: (51, tabObj ps2) :: news ∧ IntsAre vals qs ∧ DivInv x b (2 ^ n.toNat) r qs ds (((Builtin.Int.intBits x : Int) + n - 1) / n).toNat) ?h0 ?hs _ _ _ ?hi
  case hi => exact ⟨0, _, _, _, [], [], _, 0, IntsAre.reverse hI2, rfl, rfl, rfl, rfl, rfl, .nil, DivInv.start hBB (by omega) (by omega) hD3⟩
  case hs =>
    rintro v r m' n' ⟨r0, tr, tn, tb, qs, vals, ds, kk, hds, hmr, hmn, hmb, hmq, rfl, hq, hJ⟩ it h6 tk6 hit F6 N6
    cases hds with
    | cons d td hds' =>
    rename_i ns
    have F7 := canon1 (x := Str.ofString "q_digits") (v := .ref ql) F6 hmq
    have F8 := canon1 (x := Str.ofString "b") (v := .int b tb) F7 hmb
    have F9 := canon1 (x := Str.ofString "n") (v := .int n tn) F8 hmn
    have F10 := canon1 (x := Str.ofString "r") (v := .int r0 tr) F9 hmr
    clear F6 F7 F8 F9
    have hr0 := hJ.r0
    have hr1 := hJ.r1
    have hd0 := hJ.rng d (.head _)
    have hlen := hJ.len
    simp only [List.length_cons] at hlen
    k_with "call builtin:list.append cons nil" => k_dflt (refine' append_K (its := vals.toArray) (n := kk) ?F ?N ?U ?_ ?z; (case F => k_asm); (case N => k_asm); (case U => k_upd); (case z => (rw [sizeLine_eq, List.size_toArray, hq.length]; omega)); intro h8 F8 N8; rw [List.push_toArray] at N8)
    k_with "binaryOp LShift int int" => k_dflt (with_reducible refine lshift_v ?hb ?hc ?hd ?_; (case hb => omega); (case hc => omega); (case hd => omega); intro up hup; have hupb := mul_box (a := r0) (b := 2 ^ n.toNat) (A := 1000) (B := 1024) hr0 (by omega) (by omega) hBle; rw [← hup] at hupb)
    k_with "call ref cons nil" => ((with_reducible show wpAny _ _ (call (Value.ref 35) _) _ _ _); k_dflt (refine' div2n1n_ok ?k1 ?k2 ?k3 ?k4 ?k5 ?x0 ?x1 hb0 hb1 hn0 ?ld ?lu ?_; (case k1 => k_asm); (case k2 => k_asm); (case k3 => k_asm); (case k4 => k_asm); (case k5 => k_asm); (case x0 => omega); (case x1 => omega); (case ld => (try dsimp only [Around.deeper]); omega); (case lu => (try dsimp only [Around.deeper]); omega); intro D1 h7 tk7 t71 t72 F7 N7 l7; simp only [AllLt] at l7; (try dsimp only)))
    k_steps
    have l5b : AllLt it0 ((ql, listOf (vals ++ [Value.int ((up + d) / b) t71]).toArray (kk + 1)) :: (da, listOf dv.toArray 0) :: (c1, oc1) :: (44, tabObj ps1') :: (51, tabObj ps2) :: news) := l5'
    have off : ∀ q ∈ (ql, listOf (vals ++ [Value.int ((up + d) / b) t71]).toArray (kk + 1)) :: (da, listOf dv.toArray 0) :: (c1, oc1) :: (44, tabObj ps1') :: (51, tabObj ps2) :: news, q.1 ≠ it0 := fun q hq => Nat.ne_of_lt (ktn_ltOf l5b q hq)
    refine UnrEnd.intro F8 N8 ((ql, listOf (vals ++ [Value.int ((up + d) / b) t71]).toArray (kk + 1)) :: (da, listOf dv.toArray 0) :: (c1, oc1) :: (44, tabObj ps1') :: (51, tabObj ps2) :: news) (fun q hq => List.mem_cons_of_mem _ hq)
      off ⟨.tail _ (.head _), (up + d) % b, t72, tn, tb, qs ++ [(up + d) / b], _, ns, kk + 1, hds', rfl, rfl, rfl, rfl, rfl, hq.append (.cons _ _ .nil), hJ.step hBB (by omega) (by rw [hup])⟩
  case h0 =>
    rintro m' n' ⟨r0, tr, tn, tb, qs, vals, ds, kk, hds, hmr, hmn, hmb, hmq, rfl, hq, hJ⟩ h6 tk6 F6 N6
    cases hds
    obtain ⟨e3, rfl, e5, e6⟩ := hJ.stop (by omega)
    have F7 := canon1 (x := Str.ofString "q_digits") (v := .ref ql) F6 hmq
    have F8 := canon1 (x := Str.ofString "b") (v := .int b tb) F7 hmb
    have F9 := canon1 (x := Str.ofString "n") (v := .int n tn) F8 hmn
    have F10 := canon1 (x := Str.ofString "r") (v := .int (x % b) tr) F9 hmr
    clear F6 F7 F8 F9
    have hv : undigs (2 ^ n.toNat) qs.reverse ≤ 1000000 := by
      rw [e3]
      have := Int.ediv_le_self (a := x) b (by omega)
      omega
    k_with "call builtin:list.reverse cons nil" => k_dflt (refine' reverse_head_ints (its := vals.toArray) (n := kk) ?F ?N ?rvA hq ?_ ?z; (case F => k_asm); (case N => k_asm); (case rvA => exact fun q hq => Nat.ne_of_lt (ktn_ltOf l4 q hq)); (case z => (rw [sizeLine_eq]; simp only [List.length_reverse] at e6; omega)); intro h8 F8 N8 hq8)
    k_with "call ref cons nil" => ((with_reducible show wpAny _ _ (call (Value.ref 56) _) _ _ _); k_dflt (refine' digits2int_ok (ok := news) (kk := kk) (vs := vals.reverse) (ps := ps2) (news := (ql, listOf vals.reverse.toArray kk) :: (da, listOf dv.toArray 0) :: (c1, oc1) :: (44, tabObj ps1') :: news) ?k1 ?k2 ?k3 ?k4 ?k5 C2 (.head _) hq8 ?y1 ?y2 e5 hv hn0 ?y3 ?a1 hp2 ?ho ?ld ?lu ?_; (case k1 => k_asm); (case k2 => k_asm); (case k3 => k_asm); (case k4 => (refine cb_drop (by assumption) ?_; intro q hq; simp only [List.mem_cons] at hq ⊢; rcases hq with h | h | h | h | h | h <;> simp [h])); (case k5 => k_asm); (case y1 => omega); (case y2 => omega); (case y3 => omega); (case a1 => exact List.forall_mem_cons.mpr ⟨Nat.ne_of_gt l4'.2.2.2.1, List.forall_mem_cons.mpr ⟨Nat.ne_of_gt lda1, List.forall_mem_cons.mpr ⟨c51, List.forall_mem_cons.mpr ⟨(show (44 : Nat) ≠ 51 by decide), ha2⟩⟩⟩⟩); (case ho => exact fun q hq => List.mem_cons_of_mem _ (List.mem_cons_of_mem _ (List.mem_cons_of_mem _ (List.mem_cons_of_mem _ hq)))); (case ld => (try dsimp only [Around.deeper]); omega); (case lu => (try dsimp only [Around.deeper]); omega); intro h9 tk9 c2 oc2 vsc2 t9 t9' ps2' F9 N9 e9 d9 q9 nc9; rw [e3]; (try dsimp only)))
    show wpAny _ _ _ _ _ _
    k_steps
    have l9 := (by assumption : _ ∧ _ ∧ _ ∧ _ ∧ _ ∧ _ ∧ AllLt _ news)
    have d44 : @Ne Nat c2 44 := nc9.elim (fun h => ha1 _ h) fun h => Nat.ne_of_gt h.2.2.2.2.1
    have d51 : @Ne Nat c2 51 := nc9.elim (fun h => ha2 _ h) fun h => Nat.ne_of_gt h.1
    refine hret _ _ _ t9' tr (c1, oc1) (c2, oc2) ps1' ps2' (by assumption) (cb_drop (by assumption) ?_) (.inr ⟨c1, oc1, vsc1, tc1, e1, .head _, d1, q1⟩) (.inr ⟨c2, oc2, vsc2, t9, e9, .tail _ (.head _), d9, q9⟩)
      (List.forall_mem_cons.mpr ⟨c44, List.forall_mem_cons.mpr ⟨d44, ha1⟩⟩) (List.forall_mem_cons.mpr ⟨c51, List.forall_mem_cons.mpr ⟨d51, ha2⟩⟩) ⟨l9.2.2.2.2.2.1, l9.2.1, l9.2.2.2.2.1, l9.1, l9.2.2.2.2.2.2⟩
    intro q hq
    simp only [List.mem_cons] at hq ⊢
    rcases hq with h | h | h | h | h | h <;> simp [h]
end
end Mine
namespace Mine
section
variable {w : World} {p : Program} {loose : List Str} {mean : ExcName → Option Value} {mg mb : Str → Option Value} {dp un : Nat} {gd : Option (List Code)} {cn : Str} {csn : List (Str × NameKind)} {csg csc : Bool} {csm : List (Str × Const)} {a : Addr} {ccd : Value} {cl : List (Str × Addr)} {outer : List Env} {A₀ : Around} {base h₀ : Heap} {L : Addr} {m : Str → Option Value} {news : List (Addr × Obj)} {s : Shared} {Q E : Value → Shared → Prop}
set_option maxRecDepth 100000 in
set_option maxHeartbeats 8000000 in
theorem int_divmod_ok 
    {x b : Int} {tx tb : Tok} {ps1 ps2 : Array Value}
    (B : Below A₀ base outer h₀) (F : Fr h₀ L s.heap m) (X : (hd.heap_39 w.params).In h₀) (N : News h₀ L s.heap ((44, tabObj ps1) :: (51, tabObj ps2) :: news)) (T : Top p loose mean mg mb h₀)
    (C1 : CodeHd base 48 44) (C2 : CodeHd base 55 51) (ha1 : ∀ q ∈ news, q.1 ≠ 44) (ha2 : ∀ q ∈ news, q.1 ≠ 51)
    (hp1 : TabOk (Str.ofString "_int2digits.<locals>.inner") 50 4 news ps1) (hp2 : TabOk (Str.ofString "_digits2int.<locals>.inner") 65 4 news ps2)
    (hx0 : 1 ≤ x) (hx1 : x ≤ 1000) (hb0 : 1 ≤ b) (hb1 : b ≤ 1000)
    (hd : dp + 80 < recursionLimit) (hu : un + 700 < cLine)
    (hret : ∀ D h' tk' t1 t2 q1 q2 ps1' ps2', Fr h₀ L h' m → News h₀ L h' ((D, tup [.int (x / b) t1, .int (x % b) t2]) :: (44, tabObj ps1') :: (51, tabObj ps2') :: q1 :: q2 :: news) →
      TabOk (Str.ofString "_int2digits.<locals>.inner") 50 4 (q1 :: q2 :: news) ps1' → TabOk (Str.ofString "_digits2int.<locals>.inner") 65 4 (q1 :: q2 :: news) ps2' → (∀ q ∈ q1 :: q2 :: news, q.1 ≠ 44) → (∀ q ∈ q1 :: q2 :: news, q.1 ≠ 51) →
      AllLt D ((44, tabObj ps1') :: (51, tabObj ps2') :: q1 :: q2 :: news) → Q (.ref D) { s with heap := h', toks := tk' }) :
    wpAny (model PySem.Challenge.rw_hg0003_01.row.prog w) (ktrTop dp un gd cn ⟨.function, csn, csg, csc, csm⟩ L a ccd cl outer) (call (.ref 70) [.int x tx, .int b tb]) Q E s := by
  revert X; k_fill; intro X
  w_top off
  k_with_none
  k_with "call ref cons nil" => ((with_reducible show wpAny _ _ (call (Value.ref 63) _) _ _ _); k_dflt (refine' divmod_pos_ok ?k1 ?k2 ?k3 ?k4 ?k5 C1 C2 ha1 ha2 hp1 hp2 hx0 hx1 hb0 hb1 ?ld ?lu ?_; (case k1 => k_asm); (case k2 => k_asm); (case k3 => k_asm); (case k4 => k_asm); (case k5 => k_asm); (case ld => (try dsimp only [Around.deeper]); omega); (case lu => (try dsimp only [Around.deeper]); omega); intro D9 h9 tk9 t91 t92 q91 q92 ps91 ps92 F9 N9 p91 p92 a91 a92 l9; (try dsimp only)))
  k_steps
  all_goals first | (exfalso; omega) | exact hret _ _ _ _ _ _ _ _ _ (by assumption) (by assumption) p91 p92 a91 a92 l9
end
end Mine
namespace Mine
section
variable {w : World} {p : Program} {loose : List Str} {mean : ExcName → Option Value} {mg mb : Str → Option Value} {dp un : Nat} {gd : Option (List Code)} {cn : Str} {csn : List (Str × NameKind)} {csg csc : Bool} {csm : List (Str × Const)} {a : Addr} {ccd : Value} {cl : List (Str × Addr)} {outer : List Env} {A₀ : Around} {base h₀ : Heap} {L : Addr} {m : Str → Option Value} {news : List (Addr × Obj)} {s : Shared} {Q E : Value → Shared → Prop}
theorem drop34 {h₀ h : Heap} {L : Addr} {q1 q2 q3 q4 : Addr × Obj} {l : List (Addr × Obj)} (N : News h₀ L h (q1 :: q2 :: q3 :: q4 :: l)) : News h₀ L h (q1 :: q2 :: l) :=
  cb_drop N fun q hq => by
    simp only [List.mem_cons] at hq ⊢
    rcases hq with h | h | h <;> simp [h]
def Emp (prog : Program) (w : World) (d : Addr) (o : Obj) : Prop := (d == sysModules) = false ∧ Obj.IsDictOf (PySem.strKind prog w) o [] ∧ Obj.IsDictOf (intKind prog w) o []
set_option maxRecDepth 100000 in
set_option maxHeartbeats 8000000 in
theorem add_callers_ok {d1 d2 : Addr} {o1 o2 : Obj}
    (B : Below A₀ base outer h₀) (F : Fr h₀ L s.heap m) (X : (hd.heap_39 w.params).In h₀) (N : News h₀ L s.heap ((d1, o1) :: (d2, o2) :: news)) (T : Top p loose mean mg mb h₀)
    (n1 : (d1 == sysModules) = false) (n2 : (d2 == sysModules) = false) (s1 : Obj.IsDictOf (PySem.strKind PySem.Challenge.rw_hg0003_01.row.prog w) o1 []) (s2 : Obj.IsDictOf (PySem.strKind PySem.Challenge.rw_hg0003_01.row.prog w) o2 []) (i1 : Obj.IsDictOf (intKind PySem.Challenge.rw_hg0003_01.row.prog w) o1 []) (i2 : Obj.IsDictOf (intKind PySem.Challenge.rw_hg0003_01.row.prog w) o2 [])
    (f1 : PyProof.V.FlatPairs PyData.str [] []) (f2 : PyProof.V.FlatPairs PyData.int [] [])
    (hd : dp + 40 < recursionLimit) (hu : un + 400 < cLine)
    (hret : ∀ D o h' tk', Fr h₀ L h' m → News h₀ L h' ((D, o) :: (d1, o1) :: (d2, o2) :: news) → Emp PySem.Challenge.rw_hg0003_01.row.prog w D o → AllLt D news → Q (.ref D) { s with heap := h', toks := tk' }) :
    wpAny (model PySem.Challenge.rw_hg0003_01.row.prog w) (ktrTop dp un gd cn ⟨.function, csn, csg, csc, csm⟩ L a ccd cl outer) (call (.ref 28) [.ref d1, .ref d2]) Q E s := by
  revert X; k_fill; intro X
  w_top off
  k_with_none
  k_with "exec For Tuple Call cons nil" => ((rename Fr _ _ _ _ => lF'); (rename News _ _ _ _ => lN'); with_unfolding_all ((refine' For_turns lF' ?_); (refine MethodCall_ ?_); (refine ld lF' (by rfl) ?_); (refine getMethod_tab (knd := PySem.strKind _ _) (enc := PyData.str) PySem.F.slot_dict_items PySem.F.type_dict_items (by k_tabat) ?_); (refine callWith_method0 ?_); (refine call_items_tab (knd := PySem.strKind _ _) (enc := PyData.str) (by k_tabat) lF' lN' ?_); intro h' o' hv' F' N'; (replace N' := kti_tail N'); (refine kti_items (knd := PySem.strKind _ _) (enc := PyData.str) (xs := []) (by rfl) F' N' hv' (by k_tabat) (by k_mem) (fun _ _ h => Value.isStrOf_shape h) (by rfl) ?_)); clear lF' lN'; intro i' l1; clear l1)
  k_steps
  exact hret _ _ _ _ (by assumption) (by assumption) ⟨by assumption, by assumption, by assumption⟩ (by assumption : _ ∧ _ ∧ AllLt _ news).2.2
set_option maxRecDepth 100000 in
set_option maxHeartbeats 8000000 in
theorem add_stats_ok {a1 a2 d1 d2 : Addr} {o1 o2 : Obj} {x0 x1 x2 x3 y0 y1 y2 y3 : Int} {t0 t1 t2 t3 u0 u1 u2 u3 : Tok}
    (B : Below A₀ base outer h₀) (F : Fr h₀ L s.heap m) (X : (hd.heap_39 w.params).In h₀) (N : News h₀ L s.heap news) (T : Top p loose mean mg mb h₀)
    (m1 : (a1, tup [.int x0 t0, .int x1 t1, .int x2 t2, .int x3 t3, .ref d1]) ∈ news) (m2 : (a2, tup [.int y0 u0, .int y1 u1, .int y2 u2, .int y3 u3, .ref d2]) ∈ news)
    (m3 : (d1, o1) ∈ news) (m4 : (d2, o2) ∈ news) (e1 : Emp PySem.Challenge.rw_hg0003_01.row.prog w d1 o1) (e2 : Emp PySem.Challenge.rw_hg0003_01.row.prog w d2 o2)
    (hd : dp + 60 < recursionLimit) (hu : un + 500 < cLine)
    (hret : ∀ D Dd od h' tk' v0 v1 v2 v3, Fr h₀ L h' m → News h₀ L h' ((D, tup [.int (y0 + x0) v0, .int (y1 + x1) v1, .int (y2 + x2) v2, .int (y3 + x3) v3, .ref Dd]) :: (Dd, od) :: news) → Emp PySem.Challenge.rw_hg0003_01.row.prog w Dd od → AllLt D ((Dd, od) :: news) → AllLt Dd news → Q (.ref D) { s with heap := h', toks := tk' }) :
    wpAny (model PySem.Challenge.rw_hg0003_01.row.prog w) (ktrTop dp un gd cn ⟨.function, csn, csg, csc, csm⟩ L a ccd cl outer) (call (.ref 21) [.ref a1, .ref a2]) Q E s := by
  revert X; k_fill; intro X
  w_top off
  k_with_none
  k_with "call ref cons nil" => ((with_reducible show wpAny _ _ (call (Value.ref 28) _) _ _ _); k_dflt (refine' add_callers_ok (news := news) ?k1 ?k2 ?k3 ?k4 ?k5 e1.1 e2.1 e1.2.1 e2.2.1 e1.2.2 e2.2.2 .nil .nil ?ld ?lu ?_; (case k1 => k_asm); (case k2 => k_asm); (case k3 => k_asm); (case k4 => exact cb_drop (by assumption) (List.forall_mem_cons.mpr ⟨m3, List.forall_mem_cons.mpr ⟨m4, fun _ h => h⟩⟩)); (case k5 => k_asm); (case ld => (try dsimp only [Around.deeper]); omega); (case lu => (try dsimp only [Around.deeper]); omega); intro Dd od h9 tk9 F9 N9 E9 l9; (try dsimp only)))
  k_steps
  have l1 := (by assumption : _ ∧ _ ∧ _ ∧ AllLt _ news)
  exact hret _ _ _ _ _ _ _ _ _ (by assumption) (drop34 (by assumption)) E9 ⟨l1.1, l1.2.2.2⟩ l9
end
end Mine
namespace Mine
theorem ints_cons {ys : List Value} {x : Int} {xs : List Int} (h : IntsAre ys (x :: xs)) : ∃ t zs, ys = .int x t :: zs ∧ IntsAre zs xs := by
  cases h with
  | cons _ t h => exact ⟨t, _, rfl, h⟩
theorem ints_nil {ys : List Value} (h : IntsAre ys []) : ys = [] := by
  cases h; rfl
theorem six6 {ys : List Value} {a b c d e g : Int} (h : IntsAre ys [a, b, c, d, e, g]) : ∃ t0 t1 t2 t3 t4 t5, ys = [.int a t0, .int b t1, .int c t2, .int d t3, .int e t4, .int g t5] :=
  let ⟨t0, _, e0, h⟩ := ints_cons h
  let ⟨t1, _, e1, h⟩ := ints_cons h
  let ⟨t2, _, e2, h⟩ := ints_cons h
  let ⟨t3, _, e3, h⟩ := ints_cons h
  let ⟨t4, _, e4, h⟩ := ints_cons h
  let ⟨t5, _, e5, h⟩ := ints_cons h
  ⟨t0, t1, t2, t3, t4, t5, by rw [e0, e1, e2, e3, e4, e5, ints_nil h]⟩
theorem six {ys : List Value} {f : Int → Int} {ms : List Int} {k : Int} (hl : ms.length = 6) (hf : ∀ n, 1 ≤ f n ∧ f n ≤ k) (h : IntsAre ys (ms.map f)) :
    ∃ n0 n1 n2 n3 n4 n5 t0 t1 t2 t3 t4 t5, ys = [.int n0 t0, .int n1 t1, .int n2 t2, .int n3 t3, .int n4 t4, .int n5 t5] ∧ (1 ≤ n0 ∧ n0 ≤ k) ∧ (1 ≤ n1 ∧ n1 ≤ k) ∧ (1 ≤ n2 ∧ n2 ≤ k) ∧ (1 ≤ n3 ∧ n3 ≤ k) ∧ (1 ≤ n4 ∧ n4 ≤ k) ∧ (1 ≤ n5 ∧ n5 ≤ k) := by
  match ms, hl with
  | [a, b, c, d, e, g], _ =>
    obtain ⟨t0, t1, t2, t3, t4, t5, he⟩ := six6 h
    exact ⟨_, _, _, _, _, _, t0, t1, t2, t3, t4, t5, he, hf a, hf b, hf c, hf d, hf e, hf g⟩
theorem six_len (ns : List Int) : (List.take 6 (ns ++ (List.replicate 6 [0]).flatten)).length = 6 := by
  rw [List.length_take, List.length_append]
  have : (List.replicate 6 [(0 : Int)]).flatten.length = 6 := by decide
  omega
theorem fmod_range (n : Int) (k : Int) (hk : 0 < k) : 1 ≤ 1 + n.fmod k ∧ 1 + n.fmod k ≤ k := by
  rw [Int.fmod_eq_emod_of_nonneg n (Int.le_of_lt hk)]
  have := Int.emod_nonneg n (Int.ne_of_gt hk)
  have := Int.emod_lt_of_pos n hk
  omega
theorem cend_new {h₀ : Heap} {L I C D D9 : Addr} {m : Str → Option Value} {s₁ : Shared} {oI oC oD o9 : Obj} {S : List (Addr × Obj) → Prop} {rest : Value → List (Addr × Obj) → Prop} {h' : Heap} {tk : Nat} {old : List (Addr × Obj)}
    (F : Fr h₀ L h' m) (N : News h₀ L h' ((D9, o9) :: (I, oI) :: (C, oC) :: (D, oD) :: old)) (l : AllLt D9 ((I, oI) :: (C, oC) :: (D, oD) :: old)) (off : LCg.Off3 I C D old) (hS : S ((D9, o9) :: old)) (r : rest (.ref D9) ((D9, o9) :: old)) :
    LCg.CompEnd h₀ L m s₁ I oI C oC D oD S rest (.ref D9) { s₁ with heap := h', toks := tk } :=
  LCg.CompEnd.intro F N ((D9, o9) :: old) (by
    intro p hp
    simp only [List.mem_cons] at hp ⊢
    rcases hp with h | h | h | h | h <;> simp [h]) ⟨⟨Nat.ne_of_gt l.1, Nat.ne_of_gt l.2.1, Nat.ne_of_gt l.2.2.1⟩, off⟩ hS r
theorem ite_self {a b : Prop} {n : Int} (h : b) : if (n != n) = true then a else b := by rw [if_neg (by simp)]; exact h
theorem cend_same {h₀ : Heap} {L I C D : Addr} {m : Str → Option Value} {s₁ : Shared} {oI oC oD : Obj} {S : List (Addr × Obj) → Prop} {rest : Value → List (Addr × Obj) → Prop} {h' : Heap} {tk : Nat} {old : List (Addr × Obj)} {y : Value}
    (F : Fr h₀ L h' m) (N : News h₀ L h' ((I, oI) :: (C, oC) :: (D, oD) :: old)) (off : LCg.Off3 I C D old) (hS : S old) (r : rest y old) :
    LCg.CompEnd h₀ L m s₁ I oI C oC D oD S rest y { s₁ with heap := h', toks := tk } :=
  LCg.CompEnd.intro F N old (fun _ hp => hp) off hS r
def lawRest (k : Nat) : List Stmt := match PySem.Challenge.rw_hg0003_01.prog.main.body.drop 15 with
  | .FunctionDef _ _ b _ _ _ _ _ _ _ :: _ => b.drop k
  | _ => []
def lawScope : Scope := match PySem.Challenge.rw_hg0003_01.prog.main.body.drop 15 with
  | .FunctionDef _ _ _ _ _ _ sc _ _ _ :: _ => sc
  | _ => ⟨.function, [], false, false, []⟩
theorem news_mid {h₀ h : Heap} {L : Addr} {q1 q2 q3 : Addr × Obj} {l : List (Addr × Obj)} (N : News h₀ L h (q1 :: q2 :: q3 :: l)) : News h₀ L h (q1 :: l) := cb_drop N fun q hq => by
  rcases List.mem_cons.mp hq with h | h
  · simp [h]
  · simp [h]
theorem gen_toks {α : Type} {M : Model} {A : Around} {T : Sem α} {Q : α → Shared → Prop} {E : Value → Shared → Prop} {h g d o} {X : Nat} (hh : ∀ tk, wpAny M A T Q E ⟨h, g, d, tk, o⟩) : wpAny M A T Q E ⟨h, g, d, X, o⟩ := hh X
abbrev Big (x : Int) : Prop := -1000000 ≤ x ∧ x ≤ 1000000
theorem mul_rw {prog : Program} {w : World} {A : Around} {E : Value → Shared → Prop} {s : Shared} {a b : Int} {t u : Tok} {Q : Value → Shared → Prop} (hb : Big b) (h : Q (.int (a * b) s.toks) { s with toks := s.toks + 1 }) :
    wpAny (model prog w) A (binaryOp .Mult (.int a t) (.int b u)) Q E s := mul_r ⟨by omega, by omega⟩ fun v hv => hv ▸ h
theorem all_ne1 {b : Addr} {l : List (Addr × Obj)} (h : ∀ p ∈ l, p.1 < b) : ∀ p ∈ l, p.1 ≠ b + 1 := fun p hp e => by
  have h1 : @LT.lt Nat _ p.1 b := h p hp
  have h2 : @Eq Nat p.1 (b + 1) := e
  omega
theorem lt_ne {b : Addr} {l : List (Addr × Obj)} (h : ∀ p ∈ l, p.1 < b) : ∀ p ∈ l, p.1 ≠ b := fun p hp => Nat.ne_of_lt (h p hp)
theorem drop_2 {h₀ h : Heap} {L : Addr} {q1 q2 : Addr × Obj} {l : List (Addr × Obj)} (N : News h₀ L h (q1 :: q2 :: l)) : News h₀ L h (q1 :: l) := cb_drop N fun q hq => by
  rcases List.mem_cons.mp hq with h | h <;> simp [h]
theorem gcd_turn {a b x y : Int} (ha : 0 < a) (hb : 0 < b) (h : ∀ d : Int, d ∣ a → d ∣ b → d ∣ x ∧ d ∣ y) : 0 ≤ a.fmod b ∧ a.fmod b < b ∧ ∀ d : Int, d ∣ b → d ∣ a.fmod b → d ∣ x ∧ d ∣ y := by
  rw [Int.fmod_eq_emod_of_nonneg a (Int.le_of_lt hb)]
  refine ⟨Int.emod_nonneg _ (Int.ne_of_gt hb), Int.emod_lt_of_pos _ hb, fun d h1 h2 => h d ?_ h1⟩
  have e := Int.mul_ediv_add_emod a b
  rw [← e]
  exact Int.dvd_add (Int.dvd_mul_of_dvd_left h1) h2
def defAt (i : Nat) : List Stmt × Scope := match PySem.Challenge.rw_hg0003_01.prog.main.body.drop i with
  | .FunctionDef _ _ b _ _ _ sc _ _ _ :: _ => (b, sc)
  | _ => ([], ⟨.function, [], false, false, []⟩)
def gcdStmt : Stmt := match (defAt 13).1 with
  | _ :: .For _ _ (_ :: w :: _) _ _ :: _ => w
  | _ => .Pass ⟨0, 0, 0, 0⟩
theorem unrw_endS {h₀ : Heap} {L I c : Addr} {oI o o' : Obj} {R : (Str → Option Value) → List (Addr × Obj) → Prop} {s₁ : Shared} {h' : Heap} {tk : Nat} {m' : Str → Option Value} {q1 keep : Addr × Obj} {rest : List (Addr × Obj)}
    (F : Fr h₀ L h' m') (N : News h₀ L h' (q1 :: (I, oI) :: (c, o') :: rest)) (off : ∀ p ∈ (c, o) :: rest, p.1 ≠ I) (hk : List.Mem keep rest) (r : R m' ((c, o') :: rest)) : UnrEndW h₀ L s₁ [(I, oI)] (fun m' n' => SubL [keep] n' ∧ R m' n') { s₁ with heap := h', toks := tk } := by
  have hk' : keep ∈ rest := hk
  refine ⟨h', tk, m', (c, o') :: rest, rfl, F, fun p hp => N p ?_, fun p hp q hq => ?_, ⟨⟨by simp [hk'], trivial⟩, r⟩⟩
  · simp only [List.cons_append, List.nil_append, List.mem_cons] at hp ⊢
    rcases hp with h | h | h <;> simp [h]
  · rw [List.mem_singleton.mp hq]
    rcases List.mem_cons.mp hp with rfl | hp
    · exact off (c, o) (by simp)
    · exact off p (by simp [hp])
theorem all_ne2 {b : Addr} {o1 o2 : Obj} {l : List (Addr × Obj)} (h : @LT.lt Nat _ 44 b ∧ @LT.lt Nat _ 51 b ∧ AllLt b l) : ∀ p ∈ (44, o1) :: (51, o2) :: l, p.1 ≠ b + 1 :=
  all_ne1 (l := (44, o1) :: (51, o2) :: l) (ktn_ltOf (l := (44, o1) :: (51, o2) :: l) h)
theorem stat0 {n0 n1 n2 n3 n4 n5 d0 d1 d2 ww T0 T1 T2 : Int} (h0 : d0 + n0 + n1 = ww) (h1 : n2 + d1 + n3 = ww) (h2 : n4 + n5 + d2 = ww) (e0 : T0 = n2 * n4 + n3 * n4 + n2 * n5) (e1 : T1 = n0 * n5 + n1 * n5 + n0 * n4) (e2 : T2 = n1 * n3 + n0 * n3 + n1 * n2) :
    T0 * d0 + T1 * n2 + T2 * n4 = ww * T0 ∧ T0 * n0 + T1 * d1 + T2 * n5 = ww * T1 ∧ T0 * n1 + T1 * n3 + T2 * d2 = ww * T2 := by
  subst e0 e1 e2 h0
  obtain rfl : d1 = d0 + n0 + n1 - n2 - n3 := by omega
  obtain rfl : d2 = d0 + n0 + n1 - n4 - n5 := by omega
  refine ⟨?_, ?_, ?_⟩ <;> grind
theorem mul4 {a b : Int} (ha : 1 ≤ a ∧ a ≤ 4) (hb : 1 ≤ b ∧ b ≤ 4) : 1 ≤ a * b ∧ a * b ≤ 16 := by
  have h1 := Int.mul_le_mul ha.1 hb.1 (by decide) (by omega)
  have h2 := Int.mul_le_mul ha.2 hb.2 (by omega) (by decide)
  omega
theorem tbound {a b c d e f T : Int} (ha : 1 ≤ a ∧ a ≤ 4) (hb : 1 ≤ b ∧ b ≤ 4) (hc : 1 ≤ c ∧ c ≤ 4) (hd : 1 ≤ d ∧ d ≤ 4) (he : 1 ≤ e ∧ e ≤ 4) (hf : 1 ≤ f ∧ f ≤ 4) (h : T = a * b + c * d + e * f) : 1 ≤ T ∧ T ≤ 1000 := by
  have h1 := mul4 ha hb
  have h2 := mul4 hc hd
  have h3 := mul4 he hf
  omega
end Mine
namespace Mine
open PySem PySem.W PyProof.Rows PySem.Spec PySem.Calls
theorem cellsFrom_zero : ∀ (names : List (Str × NameKind)) (n : Nat) (acc : List (Str × Addr)), names.filter (·.2 == .cell) = [] → cellsFrom n names acc = acc
  | [], _, _, _ => rfl
  | (y, k) :: r, n, acc, h => by
    unfold cellsFrom
    cases hk : (k == NameKind.cell) with
    | true => simp [List.filter_cons, hk] at h
    | false => simp only [List.filter_cons, hk] at h; simpa using cellsFrom_zero r n acc (by simpa using h)
theorem cellsFrom_one {x : Str} : ∀ (names : List (Str × NameKind)) (n : Nat) (acc : List (Str × Addr)), names.filter (·.2 == .cell) = [(x, .cell)] → cellsFrom n names acc = (x, n) :: acc
  | [], _, _, h => by simp at h
  | (y, k) :: r, n, acc, h => by
    unfold cellsFrom
    cases hk : (k == NameKind.cell) with
    | true =>
      simp only [List.filter_cons, hk, if_true, List.cons.injEq, Prod.mk.injEq] at h
      rw [if_pos rfl, cellsFrom_zero r _ _ h.2, h.1.1]
    | false =>
      simp only [List.filter_cons, hk] at h
      simpa using cellsFrom_one r n acc (by simpa using h)
theorem pushCells_zero : ∀ (names : List (Str × NameKind)) (h : Heap), names.filter (·.2 == .cell) = [] → pushCells h names = h
  | [], _, _ => rfl
  | (y, k) :: r, hh, h => by
    unfold pushCells
    cases hk : (k == NameKind.cell) with
    | true => simp [List.filter_cons, hk] at h
    | false => simp only [List.filter_cons, hk] at h; simpa using pushCells_zero r hh (by simpa using h)
theorem pushCells_one {x : Str} : ∀ (names : List (Str × NameKind)) (h : Heap), names.filter (·.2 == .cell) = [(x, .cell)] → pushCells h names = h.push { cls := .type "cell", data := .cell none }
  | [], _, h => by simp at h
  | (y, k) :: r, hh, h => by
    unfold pushCells
    cases hk : (k == NameKind.cell) with
    | true =>
      simp only [List.filter_cons, hk, if_true, List.cons.injEq, Prod.mk.injEq] at h
      rw [if_pos rfl, pushCells_zero r _ h.2]
    | false =>
      simp only [List.filter_cons, hk] at h
      simpa using pushCells_one r hh (by simpa using h)
theorem lookup_relabel_cell {env : Env} : ∀ {names : List (Str × NameKind)} {x : Str}, names.lookup x = some .cell →
    (names.map fun (n, k) => if (k == NameKind.free && env.scope.kind == .function && env.kindOf n == some .cell) then (n, NameKind.cell) else (n, k)).lookup x = some .cell
  | [], _, h => by simp at h
  | (n, k) :: r, x, h => by
    have ih := @lookup_relabel_cell env r x
    show List.lookup x ((if (k == NameKind.free && env.scope.kind == .function && env.kindOf n == some .cell) = true then (n, NameKind.cell) else (n, k)) :: _) = _
    cases hx : x == n with
    | true =>
      simp only [List.lookup_cons, hx] at h
      cases h
      simp [List.lookup_cons, hx]
    | false =>
      simp only [List.lookup_cons, hx] at h
      split <;> (simp only [List.lookup_cons, hx]; exact ih h)
section
variable {M : Model} {A : Around} {E : Value → Shared → Prop} {s : Shared} {env : Env}
theorem newEnv_cell {scope : Scope} {cl : List (Str × Addr)} {x : Str} {Q : Env → Shared → Prop} (hc : scope.names.filter (·.2 == .cell) = [(x, .cell)])
    (h : Q { scope := scope, locals := s.heap.objs.size, globals := env.globals, cells := (x, s.heap.objs.size + 1) :: cl, qual := env.qual, func := none, code := env.code, frame := env.frame, builtins := env.builtins }
      { s with heap := (s.heap.push { cls := .type "dict", data := .dict #[] }).push { cls := .type "cell", data := .cell none } }) :
    wpAny M A (newFunctionEnv scope env.globals cl [] env.qual none .none (some env)) Q E s := by
  simp only [newFunctionEnv, Option.isSome_some, if_true]
  refine wpAny_bind (wpAny_alloc ?_)
  refine wpAny_bind (wpAny_layCells _ (fun name kind cells => by cases hkc : kind == NameKind.cell <;> simp [hkc]) _ _ _ _ ?_)
  rw [cellsFrom_one _ _ _ hc, pushCells_one _ _ hc]
  rw [show ({ s with heap := s.heap.push { cls := .type "dict", data := .dict #[] } } : Shared).heap.objs.size = s.heap.objs.size + 1 from Heap.size_push ..]
  refine wpAny_bind ?_
  rw [List.forIn_nil]
  exact wpAny_pure (wpAny_pure h)
end
end Mine
namespace Mine
open PySem PySem.W PyProof.Rows PySem.Spec PySem.Calls PyProof.Rows.LCg
def EndC (h₀ : Heap) (L : Addr) (m : Str → Option Value) (s₁ : Shared) (its : List (Addr × Obj)) (rest : Value → List (Addr × Obj) → Prop) (y : Value) (s₂ : Shared) : Prop :=
  ∃ h' tk news', s₂ = { s₁ with heap := h', toks := tk } ∧ Fr h₀ L h' m ∧ News h₀ L h' (its ++ news') ∧ (∀ p ∈ news', ∀ q ∈ its, p.1 ≠ q.1) ∧ rest y news'
def RestC (prog : Program) (w : World) (A : Around) (h₀ : Heap) (L : Addr) (m : Str → Option Value) (env : Env) (elt : Expr) (x : Str) (scope : Scope) (cl : List (Str × Addr)) (s : Shared) (a : Int) (Fin : List Value → List (Addr × Obj) → Prop) : Nat → Nat → List Value → List (Addr × Obj) → Prop
  | 0, _, ys, news => Fin ys news
  | k + 1, i, ys, news => ∀ t K oK I oI C oC D h tk (E' : Value → Shared → Prop), oK.data = .cell (some (.int (a + (i : Int)) t)) → Fr h₀ L h m → News h₀ L h ((K, oK) :: (I, oI) :: (C, oC) :: (D, lst ys) :: news) →
      (∀ p ∈ news, p.1 ≠ K ∧ p.1 ≠ I ∧ p.1 ≠ C ∧ p.1 ≠ D) →
      wpAny (model prog w) A (eval elt (compEnvC scope ((x, K) :: cl) C env)) (EndC h₀ L m { s with heap := h, toks := tk } [(K, oK), (I, oI), (C, oC), (D, lst ys)] (fun y news' => RestC prog w A h₀ L m env elt x scope cl s a Fin k (i + 1) (ys ++ [y]) news')) E' { s with heap := h, toks := tk }
section
variable {prog : Program} {w : World} {A : Around} {E : Value → Shared → Prop} {s : Shared} {h₀ : Heap} {L : Addr} {m : Str → Option Value} {env : Env}
theorem block_C {elt iter : Expr} {x : Str} {px : Pos} {scope : Scope} {cl : List (Str × Addr)} {pos : Pos} {s₂ : Shared} {I : Addr} {n : Nat} {a : Int} {news : List (Addr × Obj)} {Fin : List Value → List (Addr × Obj) → Prop} {RR : Value → Addr → Result → Shared → Prop}
    (hh : A.handled = none) (hsz : n ≤ sizeLine) (hcl : scope.names.filter (·.2 == .cell) = [(x, .cell)]) (hkind : scope.kind = .function) (hx : scope.names.lookup x = some .cell)
    (hst : IsRangeIter s₂.heap I (a + (0 : Nat) * 1) ((n : Int) - (0 : Nat)) 1) (hI : I < s₂.heap.objs.size)
    (F : Fr h₀ L s₂.heap m) (N : News h₀ L s₂.heap news) (hIL : L ≠ I) (hI₀ : h₀.get? I = none) (off : ∀ p ∈ news, p.1 ≠ I)
    (R : RestC prog w A h₀ L m env elt x scope cl s₂ a Fin n 0 [] news)
    (hRR : ∀ D C h tk m' ys news', Fr h₀ L h m → News h₀ L h ((D, lst ys) :: news') → (∀ p ∈ news', p.1 ≠ D) → h.Ns C m' → h₀.get? C = none → C ≠ L → C ≠ D → (∀ p ∈ news', p.1 ≠ C) → Fin ys news' → RR (.ref D) C (.ok .next) { s₂ with heap := h, toks := tk }) :
    wpAny (model prog w) A (newList []) (fun acc s₃ => wpAny (model prog w) A (newFunctionEnv scope env.globals cl [] env.qual none .none (some env)) (fun cenv s₄ =>
      codeAny (model prog w) A (.compStart (.ListComp elt [⟨.Name x px, iter, [], 0⟩] scope pos) 0 (.ref I) acc { cenv with scope := relabel scope env }) (RR acc cenv.locals) s₄) E s₃) E s₂ := by
  refine wpAny_newObj_type (newEnv_cell hcl ?_)
  dsimp only
  have W := range_walks (prog := prog) (w := w) (I := I) hh a n
  -- the four new addresses
  obtain ⟨D, hD⟩ : ∃ D, D = s₂.heap.objs.size := ⟨_, rfl⟩
  obtain ⟨C, hC⟩ : ∃ C, C = D + 1 := ⟨_, rfl⟩
  obtain ⟨K, hK⟩ : ∃ K, K = C + 1 := ⟨_, rfl⟩
  have sz1 : (s₂.heap.push { cls := .type "list", dict := none, data := .seq ([] : List Value).toArray }).objs.size = C := by rw [Heap.size_push, hC, hD]
  generalize hH1 : s₂.heap.push { cls := .type "list", dict := none, data := .seq ([] : List Value).toArray } = H1 at sz1 ⊢
  have sz2 : (H1.push { cls := .type "dict", data := .dict #[] }).objs.size = K := by rw [Heap.size_push, sz1, hK]
  generalize hH2 : H1.push { cls := .type "dict", data := .dict #[] } = H2 at sz2 ⊢
  generalize hH3 : H2.push { cls := .type "cell", data := .cell none } = H3
  rw [sz1, ← hD, ← hK]
  have up1 : ∀ b o, s₂.heap.get? b = some o → H1.get? b = some o := fun b o e => hH1 ▸ Heap.get?_push_of_some _ e
  have up2 : ∀ b o, H1.get? b = some o → H2.get? b = some o := fun b o e => hH2 ▸ Heap.get?_push_of_some _ e
  have up3 : ∀ b o, H2.get? b = some o → H3.get? b = some o := fun b o e => hH3 ▸ Heap.get?_push_of_some _ e
  have old : ∀ b o, s₂.heap.get? b = some o → H3.get? b = some o := fun b o e => up3 _ _ (up2 _ _ (up1 _ _ e))
  have hDg : H3.get? D = some (lst []) := up3 _ _ (up2 _ _ (by rw [← hH1, hD]; exact Heap.get?_push_size _ rfl))
  have hCn : H3.Ns C fun _ => none := (show H2.Ns C fun _ => none from by rw [← hH2, ← sz1]; exact Heap.Ns.new H1 (.type "dict")).keeps up3
  have hKc : H3.IsCell K none := ⟨{ cls := .type "cell", data := .cell none }, by rw [← hH3, ← sz2]; exact Heap.get?_push_size _ rfl, rfl⟩
  have fresh₀ : ∀ b, s₂.heap.objs.size ≤ b → h₀.get? b = none := fun b hb => by
    cases e : h₀.get? b with
    | none => rfl
    | some o' => exact absurd (Heap.lt_size (F.keep b o' e)) (Nat.not_lt.mpr hb)
  have hLlt : @LT.lt Nat _ L s₂.heap.objs.size := F.ns.lt
  have hI' : @LT.lt Nat _ I s₂.heap.objs.size := hI
  have eD : @Eq Nat D s₂.heap.objs.size := hD
  have eC : @Eq Nat C (D + 1) := hC
  have eK : @Eq Nat K (C + 1) := hK
  have hD₀ : h₀.get? D = none := fresh₀ _ (Nat.le_of_eq eD.symm)
  have hC₀ : h₀.get? C = none := fresh₀ _ (by show @LE.le Nat _ _ _; omega)
  have hK₀ : h₀.get? K = none := fresh₀ _ (by show @LE.le Nat _ _ _; omega)
  have nDL : D ≠ L := by show @Ne Nat _ _; omega
  have nCL : C ≠ L := by show @Ne Nat _ _; omega
  have nKL : K ≠ L := by show @Ne Nat _ _; omega
  have nID : I ≠ D := by show @Ne Nat _ _; omega
  have nIC : I ≠ C := by show @Ne Nat _ _; omega
  have nIK : I ≠ K := by show @Ne Nat _ _; omega
  have nDC : D ≠ C := by show @Ne Nat _ _; omega
  have nDK : D ≠ K := by show @Ne Nat _ _; omega
  have nCK : C ≠ K := by show @Ne Nat _ _; omega
  have low : ∀ p ∈ news, @LT.lt Nat _ p.1 s₂.heap.objs.size := fun p hp => Heap.lt_size (N p hp).1
  have off₀ : ∀ p ∈ news, p.1 ≠ K ∧ p.1 ≠ I ∧ p.1 ≠ C ∧ p.1 ≠ D := fun p hp => by
    have := low p hp
    exact ⟨by show @Ne Nat _ _; omega, off p hp, by show @Ne Nat _ _; omega, by show @Ne Nat _ _; omega⟩
  have loop : ∀ s₃ : Shared, s₃ = { s₂ with heap := H3 } →
      codeAny (model prog w) A (.compLoop (.ListComp elt [⟨.Name x px, iter, [], 0⟩] scope pos) 0 (.ref I) (.ref D) (compEnvC scope ((x, K) :: cl) C env)) (RR (.ref D) C) s₃ := by
    rintro s₃ rfl
    refine codeAny_compLoop_tests
      (fun k s' => ∃ h' tk i ys m' vK news', s' = { s₂ with heap := h', toks := tk } ∧ i ≤ n ∧ k = n + 1 - i ∧ ys.length = i ∧ IsRangeIter h' I (a + (i : Nat) * 1) ((n : Int) - (i : Nat)) 1 ∧ Fr h₀ L h' m ∧ h'.Ns C m' ∧ h'.IsCell K vK ∧
        News h₀ L h' ((D, lst ys) :: news') ∧ (∀ p ∈ news', p.1 ≠ K ∧ p.1 ≠ I ∧ p.1 ≠ C ∧ p.1 ≠ D) ∧ RestC prog w A h₀ L m env elt x scope cl s₂ a Fin (n - i) i ys news') ?_ (n + 1)
      ⟨H3, _, 0, [], _, none, news, rfl, Nat.zero_le _, rfl, rfl, W.frame _ _ _ hst fun b _ o e => old b o e, F.keeps old, hCn, hKc, fun p hp => ?_, off₀, R⟩
    · rintro k s' ⟨h', tk, i, ys, m', vK, news', rfl, hi, rfl, hyl, hst', F', hn', hc', N', off', R'⟩
      have ND := N' (D, lst ys) List.mem_cons_self
      by_cases hlt : i < n
      · obtain ⟨j, hj⟩ : ∃ j, n - i = j + 1 := ⟨n - i - 1, by omega⟩
        rw [hj] at R'
        refine W.item i _ _ _ hlt hst' fun v h₂ tk₂ hPv hst₂ hk₂ => ?_
        obtain ⟨t, rfl⟩ := hPv
        have k₂ : ∀ b o, b ≠ I → h'.get? b = some o → h₂.get? b = some o := fun b o hb e => hk₂ b o (by simpa using hb) e
        refine wpAny_assign_Name (wpAny_storeName_cell (c := K) (v₀ := vK) hkind (lookup_relabel_cell hx) (by simp [compEnvC]) (by obtain ⟨oK, eK', dK⟩ := hc'; exact ⟨oK, k₂ _ _ (Ne.symm nIK) eK', dK⟩) fun h₃ hc₃ hs₃ => ?_)
        refine wpAny_tests_nil ?_
        simp only [if_true]
        have k₃ : ∀ b o, b ≠ I → b ≠ K → h'.get? b = some o → h₃.get? b = some o := fun b o h1 h2 e => hs₃.extBut b o h2 (k₂ b o h1 e)
        have hst₃ : IsRangeIter h₃ I (a + ((i + 1 : Nat) : Nat) * 1) ((n : Int) - ((i + 1 : Nat) : Nat)) 1 := W.frame _ _ _ hst₂ fun b hb o e => hs₃.extBut b o (by rw [List.mem_singleton.mp hb]; exact nIK) e
        obtain ⟨oI, heI⟩ : ∃ o, h₃.get? I = some o := ⟨_, hst₃⟩
        obtain ⟨oK, heK, dK⟩ := hc₃
        obtain ⟨oC, heC, hoC⟩ := ns_obj (hn'.at' fun o e => k₃ _ o (Ne.symm nIC) nCK e)
        have F₃ : Fr h₀ L h₃ m := (fr_but F' hk₂ hIL hI₀).change hs₃ nKL hK₀
        have N₃ : News h₀ L h₃ ((K, oK) :: (I, oI) :: (C, oC) :: (D, lst ys) :: news') := fun p hp => by
          rcases List.mem_cons.mp hp with rfl | hp
          · exact ⟨heK, nKL, hK₀⟩
          rcases List.mem_cons.mp hp with rfl | hp
          · exact ⟨heI, Ne.symm hIL, hI₀⟩
          rcases List.mem_cons.mp hp with rfl | hp
          · exact ⟨heC, nCL, hC₀⟩
          rcases List.mem_cons.mp hp with rfl | hp
          · exact ⟨k₃ _ _ (Ne.symm nID) nDK ND.1, ND.2⟩
          · have z := N' p (List.mem_cons_of_mem _ hp)
            exact ⟨k₃ _ _ (off' p hp).2.1 (off' p hp).1 z.1, z.2⟩
        refine wpAny_mono (R' t K oK I oI C oC D h₃ _ _ dK F₃ N₃ off') (fun y s₄ h₄ => ?_) fun _ _ e => e
        obtain ⟨h₄, tk₄, news₄, rfl, F₄, N₄, off₄, R₄⟩ := h₄
        have zK := (N₄ (K, oK) (by simp)).1
        have zI := (N₄ (I, oI) (by simp)).1
        have zC := (N₄ (C, oC) (by simp)).1
        have zD := (N₄ (D, lst ys) (by simp)).1
        have N₄' : News h₀ L h₄ news₄ := fun p hp => N₄ p (List.mem_append_right _ hp)
        have o₄ : ∀ p ∈ news₄, p.1 ≠ K ∧ p.1 ≠ I ∧ p.1 ≠ C ∧ p.1 ≠ D := fun p hp => ⟨off₄ p hp (K, oK) (by simp), off₄ p hp (I, oI) (by simp), off₄ p hp (C, oC) (by simp), off₄ p hp (D, lst ys) (by simp)⟩
        have hst₄ : IsRangeIter h₄ I (a + ((i + 1 : Nat) : Nat) * 1) ((n : Int) - ((i + 1 : Nat) : Nat)) 1 := by
          show h₄.get? I = some _
          rw [zI, ← heI]; exact hst₃
        refine append_at (hsz := by show ys.toArray.size ≤ sizeLine; rw [List.size_toArray, hyl]; exact Nat.le_trans hi hsz) zD fun h₅ hs₅ hD₅ => ?_
        refine ⟨n + 1 - (i + 1), by omega, h₅, tk₄, i + 1, ys ++ [y], _, _, news₄, rfl, hlt, rfl, by rw [List.length_append, List.length_singleton, hyl], ?_, F₄.change hs₅ nDL hD₀,
          (hoC.ns zC).sameBut hs₅ (Ne.symm nDC), ⟨oK, hs₅.extBut _ _ (Ne.symm nDK) zK, dK⟩, fun p hp => ?_, o₄, ?_⟩
        · exact W.frame _ _ _ hst₄ fun b hb o e => hs₅.extBut b o (by rw [List.mem_singleton.mp hb]; exact nID) e
        · rcases List.mem_cons.mp hp with rfl | hp
          · exact ⟨hD₅.trans (congrArg some (lst_snoc ys y)), nDL, hD₀⟩
          · exact ⟨hs₅.extBut _ _ (o₄ p hp).2.2.2 (N₄' p hp).1, (N₄' p hp).2⟩
        · rw [show n - (i + 1) = j by omega]
          exact R₄
      · obtain rfl : i = n := Nat.le_antisymm hi (Nat.not_lt.mp hlt)
        rw [Nat.sub_self] at R'
        refine W.done _ _ _ hst' fun h₂ tk₂ hk₂ => ?_
        have k₂ : ∀ b o, b ≠ I → h'.get? b = some o → h₂.get? b = some o := fun b o hb e => hk₂ b o (by simpa using hb) e
        exact hRR D C h₂ tk₂ _ ys news' (fr_but F' hk₂ hIL hI₀) (news_but N' hk₂ fun p hp => by
          rcases List.mem_cons.mp hp with rfl | hp
          · exact Ne.symm nID
          · exact (off' p hp).2.1) (fun p hp => (off' p hp).2.2.2) (hn'.at' fun o e => k₂ _ o (Ne.symm nIC) e) hC₀ nCL (Ne.symm nDC) (fun p hp => (off' p hp).2.2.1) R'
    · rcases List.mem_cons.mp hp with rfl | hp
      · exact ⟨hDg, nDL, hD₀⟩
      · exact ⟨old _ _ (N p hp).1, (N p hp).2⟩
  exact codeAny_compStart_list (loop _ rfl) (W.self 0 _ _ _ (W.frame _ _ _ hst fun b _ o e => old b o e) (loop _ rfl))
def SrcC (prog : Program) (w : World) (A : Around) (h₀ : Heap) (L : Addr) (m : Str → Option Value) (env : Env) (elt : Expr) (x : Str) (scope : Scope) (cl : List (Str × Addr)) (Fin : Shared → List Value → List (Addr × Obj) → Prop) (xv : Value) (s₁ : Shared) : Prop :=
  ∃ r a b t u v n news, xv = .ref r ∧ A.handled = none ∧ Fr h₀ L s₁.heap m ∧ News h₀ L s₁.heap news ∧ IsRange s₁.heap r a b 1 t u v ∧ Builtin.Range.small a b 1 = true ∧ Builtin.Range.rangeSize a b 1 = ((n : Nat) : Int) ∧ n ≤ sizeLine ∧
    ∀ g, RestC prog w A h₀ L m env elt x scope cl { s₁ with heap := g } a (Fin { s₁ with heap := g }) n 0 [] news
def FinC (h₀ : Heap) (L : Addr) (m : Str → Option Value) (Q : Value → Shared → Prop) (s : Shared) (ys : List Value) (news : List (Addr × Obj)) : Prop :=
  ∀ D h tk, Fr h₀ L h m → News h₀ L h ((D, lst ys) :: news) → (∀ p ∈ news, p.1 ≠ D) → Q (.ref D) { s with heap := h, toks := tk }
theorem listComp_C {elt iter : Expr} {x : Str} {px : Pos} {scope : Scope} {cl : List (Str × Addr)} {pos : Pos} {Q : Value → Shared → Prop} (_F : Fr h₀ L s.heap m)
    (hclos : closureFor scope env = pure cl) (hcl : scope.names.filter (·.2 == .cell) = [(x, .cell)]) (hkind : scope.kind = .function)
    (hnames : ∀ y ∈ scope.names, y.2 = .local → scope.names.lookup y.1 = some .local) (hx : scope.names.lookup x = some .cell)
    (h : wpAny (model prog w) A (eval iter env) (SrcC prog w A h₀ L m env elt x scope cl (FinC h₀ L m Q)) E s)
    (hs : ∀ x, foldedSetIterable iter env x = pure x) :
    wpAny (model prog w) A (eval (.ListComp elt [⟨.Name x px, iter, [], 0⟩] scope pos) env) Q E s := by
  rw [eval_ListComp]
  refine wpAny_comprehension_free (use := none) rfl hs hclos hkind hnames (wpAny_mono h (fun xv s₁ h₁ => ?_) fun _ _ e => e)
  obtain ⟨r, a, b, t, u, v, n, news, rfl, hh, F, N, hr, hsm, hn, hsz, R⟩ := h₁
  refine wpAny_pyIter_range hr hsm ?_
  refine block_C hh hsz hcl hkind hx (by show IsRangeIter _ _ _ _ _; rw [hn]; simpa using Heap.get?_push_size _ rfl) ?_ (F.keeps fun _ _ e => Heap.get?_push_of_some _ e) (N.grown fun _ _ e => Heap.get?_push_of_some _ e) (Nat.ne_of_lt F.ns.lt) (next_is_new F) (fun p hp => Nat.ne_of_lt (Heap.lt_size (N p hp).1)) (R _) ?_
  · show s₁.heap.objs.size < (s₁.heap.push _).objs.size
    rw [Heap.size_push]; exact Nat.lt_succ_self _
  · intro D C h tk m' ys news' F' N' oD hn' hC₀ hCL hCD offC fin
    refine ⟨m', hn', fun h'' hs'' => fin D h'' tk (F'.change hs'' hCL hC₀) (fun p hp => ?_) oD⟩
    refine ⟨hs''.extBut _ _ ?_ (N' p hp).1, (N' p hp).2⟩
    rcases List.mem_cons.mp hp with rfl | hp
    · exact Ne.symm hCD
    · exact offC p hp
theorem SrcC.range {elt : Expr} {x : Str} {scope : Scope} {cl : List (Str × Addr)} {Fin : Shared → List Value → List (Addr × Obj) → Prop} {r : Addr} {a b : Int} {t u v : Tok} {n : Nat} {news : List (Addr × Obj)} {s₁ : Shared}
    (hh : A.handled = none) (F : Fr h₀ L s₁.heap m) (N : News h₀ L s₁.heap news) (hr : IsRange s₁.heap r a b 1 t u v) (hsm : Builtin.Range.small a b 1 = true) (hn : Builtin.Range.rangeSize a b 1 = ((n : Nat) : Int)) (hsz : n ≤ sizeLine)
    (h : ∀ g, RestC prog w A h₀ L m env elt x scope cl { s₁ with heap := g } a (Fin { s₁ with heap := g }) n 0 [] news) :
    SrcC prog w A h₀ L m env elt x scope cl Fin (.ref r) s₁ := ⟨r, a, b, t, u, v, n, news, rfl, hh, F, N, hr, hsm, hn, hsz, h⟩
theorem RestC.zero {elt : Expr} {x : Str} {scope : Scope} {cl : List (Str × Addr)} {a : Int} {Fin : List Value → List (Addr × Obj) → Prop} {i : Nat} {ys : List Value} {news : List (Addr × Obj)} (h : Fin ys news) :
    RestC prog w A h₀ L m env elt x scope cl s a Fin 0 i ys news := h
theorem RestC.succ {elt : Expr} {x : Str} {scope : Scope} {cl : List (Str × Addr)} {a : Int} {Fin : List Value → List (Addr × Obj) → Prop} {k i : Nat} {ys : List Value} {news : List (Addr × Obj)}
    (h : ∀ t K oK I oI C oC D h tk (E' : Value → Shared → Prop), oK.data = .cell (some (.int (a + (i : Int)) t)) → Fr h₀ L h m → News h₀ L h ((K, oK) :: (I, oI) :: (C, oC) :: (D, lst ys) :: news) →
      (∀ p ∈ news, p.1 ≠ K ∧ p.1 ≠ I ∧ p.1 ≠ C ∧ p.1 ≠ D) →
      wpAny (model prog w) A (eval elt (compEnvC scope ((x, K) :: cl) C env)) (EndC h₀ L m { s with heap := h, toks := tk } [(K, oK), (I, oI), (C, oC), (D, lst ys)] (fun y news' => RestC prog w A h₀ L m env elt x scope cl s a Fin k (i + 1) (ys ++ [y]) news')) E' { s with heap := h, toks := tk }) :
    RestC prog w A h₀ L m env elt x scope cl s a Fin (k + 1) i ys news := h
theorem endc_drop {q : Addr × Obj} {K I C D : Addr} {oK oI oC oD : Obj} {news' : List (Addr × Obj)} {rest : Value → List (Addr × Obj) → Prop} {y : Value} {h' : Heap} {tk : Nat} (F : Fr h₀ L h' m) (N : News h₀ L h' (q :: (K, oK) :: (I, oI) :: (C, oC) :: (D, oD) :: news'))
    (off : ∀ p ∈ news', p.1 ≠ K ∧ p.1 ≠ I ∧ p.1 ≠ C ∧ p.1 ≠ D) (r : rest y news') : EndC h₀ L m s [(K, oK), (I, oI), (C, oC), (D, oD)] rest y { s with heap := h', toks := tk } :=
  ⟨h', tk, news', rfl, F, fun p hp => N p (List.mem_cons_of_mem _ hp), fun p hp q hq => by
    have := off p hp
    simp only [List.mem_cons, List.not_mem_nil, or_false] at hq
    rcases hq with rfl | rfl | rfl | rfl
    · exact this.1
    · exact this.2.1
    · exact this.2.2.1
    · exact this.2.2.2, r⟩
theorem endc_keep {q : Addr × Obj} {K I C D : Addr} {oK oI oC oD : Obj} {news' : List (Addr × Obj)} {rest : Value → List (Addr × Obj) → Prop} {y : Value} {h' : Heap} {tk : Nat} (F : Fr h₀ L h' m) (N : News h₀ L h' (q :: (K, oK) :: (I, oI) :: (C, oC) :: (D, oD) :: news'))
    (off : ∀ p ∈ news', p.1 ≠ K ∧ p.1 ≠ I ∧ p.1 ≠ C ∧ p.1 ≠ D) (oq : Off1 q.1 ((K, oK) :: (I, oI) :: (C, oC) :: (D, oD) :: news')) (r : rest y (q :: news')) : EndC h₀ L m s [(K, oK), (I, oI), (C, oC), (D, oD)] rest y { s with heap := h', toks := tk } :=
  ⟨h', tk, q :: news', rfl, F, fun p hp => N p (by
    simp only [List.mem_append, List.mem_cons, List.not_mem_nil, or_false] at hp ⊢
    rcases hp with (h | h | h | h) | h | h <;> simp [h]), fun p hp q' hq => by
    simp only [List.mem_cons, List.not_mem_nil, or_false] at hq
    rcases List.mem_cons.mp hp with rfl | hp
    · rcases hq with rfl | rfl | rfl | rfl
      · exact Ne.symm oq.1
      · exact Ne.symm oq.2.1
      · exact Ne.symm oq.2.2.1
      · exact Ne.symm oq.2.2.2.1
    · have := off p hp
      rcases hq with rfl | rfl | rfl | rfl
      · exact this.1
      · exact this.2.1
      · exact this.2.2.1
      · exact this.2.2.2, r⟩
end
end Mine
namespace Mine
open PySem PySem.W PyProof.Rows PySem.Spec PySem.Calls PyProof.Rows.LCg
def RestF (prog : Program) (w : World) (A : Around) (E : Value → Shared → Prop) (h₀ : Heap) (env : Env) (target : Expr) (body : List Stmt) (Q : Flow → Shared → Prop) (s : Shared) (I : Addr) (a : Int) (n : Nat) : Nat → Nat → (Str → Option Value) → List (Addr × Obj) → Prop
  | 0, _, m, news => ∀ h tk, Fr h₀ env.locals h m → News h₀ env.locals h news → Q .next { s with heap := h, toks := tk }
  | k + 1, i, m, news => ∀ t h tk, Fr h₀ env.locals h m → News h₀ env.locals h ((I, itR (a + ((i + 1 : Nat) : Int)) ((n : Int) - ((i + 1 : Nat) : Int))) :: news) →
      wpAny (model prog w) A (assign target env (.int (a + (i : Int)) t)) (fun _ s₂ => wpAny (model prog w) A (execs body env)
        (UnrPost h₀ env.locals { s with heap := h, toks := tk } I (itR (a + ((i + 1 : Nat) : Int)) ((n : Int) - ((i + 1 : Nat) : Int))) (RestF prog w A E h₀ env target body Q s I a n k (i + 1)) Q) E s₂) E { s with heap := h, toks := tk }
section
variable {prog : Program} {w : World} {A : Around} {E : Value → Shared → Prop} {s : Shared} {env : Env} {h₀ : Heap} {body : List Stmt} {Q : Flow → Shared → Prop}
theorem iter_rangeF {x : Str} {px : Pos} {r : Addr} {a b : Int} {t u v : Tok} {n : Nat} {m₀ : Str → Option Value} {news : List (Addr × Obj)}
    (hh : A.handled = none) (hr : IsRange s.heap r a b 1 t u v) (hsm : Builtin.Range.small a b 1 = true) (hn : Builtin.Range.rangeSize a b 1 = (n : Int)) (F : Fr h₀ env.locals s.heap m₀) (N : News h₀ env.locals s.heap news)
    (rest₀ : ∀ I : Addr, (∀ p ∈ news, p.1 < I) → RestF prog w A E h₀ env (.Name x px) body Q s I a n n 0 m₀ news) :
    wpAny (model prog w) A (pyIter (.ref r)) (fun it s₂ => TurnsAt prog w A h₀ env (.Name x px) body Q E it s₂) E s := by
  refine wpAny_pyIter_range hr hsm ?_
  obtain ⟨I, hI⟩ : ∃ I, I = s.heap.objs.size := ⟨_, rfl⟩
  have rest := rest₀ I fun p hp => hI ▸ Heap.lt_size (N p hp).1
  have W := range_walks (prog := prog) (w := w) (I := I) hh a n
  rw [← hI]
  have new := hI ▸ next_is_new F
  refine ⟨I, [I], [I], n, _, _, _, m₀, news, fun i m' n' => RestF prog w A E h₀ env (.Name x px) body Q s I a n (n - i) i m' n', rfl, KTurns.ofWalks W fun i v s Q E _ q => wpAny_pure q, ?_, ?_, ?_, ?_, ?_, ?_, ?_, ?_, ?_⟩
  · intro h
    exact absurd F.ns.lt ((List.mem_singleton.mp h).trans hI ▸ Nat.lt_irrefl _)
  · intro b hb
    rw [List.mem_singleton.mp hb]; exact new
  · intro p hp h
    exact absurd (Heap.lt_size (N p hp).1) ((List.mem_singleton.mp h).trans hI ▸ Nat.lt_irrefl _)
  · show IsRangeIter _ _ _ _ _
    rw [hn, hI]; simpa using Heap.get?_push_size _ rfl
  · exact F.push _
  · exact N.grown fun _ _ e => Heap.get?_push_of_some _ e
  · exact rest
  · rintro i v m₁ news₁ h₁ tk₁ own hi ⟨t', rfl⟩ hJ hoff hown hget hall hst F₁ N₁
    have hit : h₁.get? I = some (itR (a + ((i + 1 : Nat) : Int)) ((n : Int) - ((i + 1 : Nat) : Int))) := by
      have q : IsRangeIter h₁ I (a + ((i + 1 : Nat) : Int) * 1) ((n : Int) - ((i + 1 : Nat) : Int)) 1 := hst
      rw [Int.mul_one] at q; exact q
    have mem := hall I (by simp) new _ hit
    obtain ⟨j, hj⟩ : ∃ j, n - i = j + 1 := ⟨n - i - 1, by omega⟩
    have hj' : n - (i + 1) = j := by omega
    have hJ' : RestF prog w A E h₀ env (.Name x px) body Q s I a n (j + 1) i m₁ news₁ := by rw [← hj]; exact hJ
    refine wpAny_mono (hJ' t' h₁ tk₁ F₁ fun p hp => ?_) (fun _ s₂ h₂ => wpAny_mono h₂ (fun f s₃ h₃ => ?_) fun _ _ e => e) fun _ _ e => e
    · rcases List.mem_cons.mp hp with rfl | hp
      · exact N₁ _ (List.mem_append_left _ mem)
      · exact N₁ _ (List.mem_append_right _ hp)
    · have fin : UnrEnd h₀ env.locals { s with heap := h₁, toks := tk₁ } I (itR (a + ((i + 1 : Nat) : Int)) ((n : Int) - ((i + 1 : Nat) : Int))) (RestF prog w A E h₀ env (.Name x px) body Q s I a n j (i + 1)) s₃ →
          LoopStepU h₀ env.locals [I] own (fun m' n' => RestF prog w A E h₀ env (.Name x px) body Q s I a n (n - (i + 1)) (i + 1) m' n') { s with heap := h₁, toks := tk₁ } .next s₃ := by
        rintro ⟨h', tk, m', news', e, F', N', ho, r⟩
        refine ⟨rfl, h', tk, m', news', e, F', fun p hp => ?_, fun p hp h => ho p hp (List.mem_singleton.mp h), by rw [hj']; exact r⟩
        rcases List.mem_append.mp hp with hp | hp
        · have e1 : p.1 = I := List.mem_singleton.mp (hown p hp)
          have e2 := hget p hp
          rw [e1, hit] at e2
          have e3 : p = (I, itR (a + ((i + 1 : Nat) : Int)) ((n : Int) - ((i + 1 : Nat) : Int))) := Prod.ext e1 (Option.some.inj e2).symm
          rw [e3]; exact N' _ List.mem_cons_self
        · exact N' _ (List.mem_cons_of_mem _ hp)
      cases f with
      | ret v => exact h₃
      | brk => exact h₃
      | next => exact fin h₃
      | cont => exact fin h₃
  · rintro h' tk m' news' F' N' _ hJ
    have hJ' : RestF prog w A E h₀ env (.Name x px) body Q s I a n 0 n m' news' := by
      have q : RestF prog w A E h₀ env (.Name x px) body Q s I a n (n - n) n m' news' := hJ
      rw [Nat.sub_self] at q; exact q
    exact hJ' h' tk F' N'
theorem RestF.zero {target : Expr} {I : Addr} {a : Int} {n i : Nat} {m : Str → Option Value} {news : List (Addr × Obj)} (h : ∀ h tk, Fr h₀ env.locals h m → News h₀ env.locals h news → Q .next { s with heap := h, toks := tk }) :
    RestF prog w A E h₀ env target body Q s I a n 0 i m news := h
theorem RestF.succ {target : Expr} {I : Addr} {a : Int} {n k i : Nat} {m : Str → Option Value} {news : List (Addr × Obj)}
    (h : ∀ t h tk, Fr h₀ env.locals h m → News h₀ env.locals h ((I, itR (a + ((i + 1 : Nat) : Int)) ((n : Int) - ((i + 1 : Nat) : Int))) :: news) →
      wpAny (model prog w) A (assign target env (.int (a + (i : Int)) t)) (fun _ s₂ => wpAny (model prog w) A (execs body env)
        (UnrPost h₀ env.locals { s with heap := h, toks := tk } I (itR (a + ((i + 1 : Nat) : Int)) ((n : Int) - ((i + 1 : Nat) : Int))) (RestF prog w A E h₀ env target body Q s I a n k (i + 1)) Q) E s₂) E { s with heap := h, toks := tk }) :
    RestF prog w A E h₀ env target body Q s I a n (k + 1) i m news := h
end
end Mine
namespace Mine
open PySem PySem.W PyProof.Rows PySem.Spec PySem.Calls PyProof.Rows.LCg
def RestL (prog : Program) (w : World) (A : Around) (h₀ : Heap) (L : Addr) (m : Str → Option Value) (env : Env) (elt : Expr) (x : Str) (scope : Scope) (cl : List (Str × Addr)) (s : Shared) (ax : Addr) (lo : Obj) (Fin : List Value → List (Addr × Obj) → Prop) : List Value → List Value → List (Addr × Obj) → Prop
  | [], ys, news => Fin ys news
  | v :: r, ys, news => ∀ I oI C oC D m₂ j h tk (E' : Value → Shared → Prop), oI.data = .fields #[.ref ax, .int j 0] → NsObj oC m₂ → m₂ x = some v → Fr h₀ L h m → News h₀ L h ((I, oI) :: (C, oC) :: (D, lst ys) :: news) → (∀ p ∈ news, p.1 ≠ I ∧ p.1 ≠ C ∧ p.1 ≠ D) → (I ≠ C ∧ I ≠ D ∧ C ≠ D) →
      wpAny (model prog w) A (eval elt (compEnvC scope cl C env)) (EndC h₀ L m { s with heap := h, toks := tk } [(I, oI), (C, oC), (D, lst ys)] (fun y news' => (ax, lo) ∈ news' ∧ RestL prog w A h₀ L m env elt x scope cl s ax lo Fin r (ys ++ [y]) news')) E' { s with heap := h, toks := tk }
section
variable {prog : Program} {w : World} {A : Around} {E : Value → Shared → Prop} {s : Shared} {h₀ : Heap} {L : Addr} {m : Str → Option Value} {env : Env}
theorem block_L {elt iter : Expr} {x : Str} {px : Pos} {scope : Scope} {cl : List (Str × Addr)} {pos : Pos} {s₂ : Shared} {I ax : Addr} {lo : Obj} {vs : List Value} {kk : Nat} {news : List (Addr × Obj)} {Fin : List Value → List (Addr × Obj) → Prop} {RR : Value → Addr → Result → Shared → Prop}
    (hh : A.handled = none) (hsz : vs.length ≤ sizeLine) (hcl : ∀ y ∈ scope.names, y.2 ≠ .cell) (hkind : scope.kind = .function) (hx : scope.names.lookup x = some .local)
    (hst : s₂.heap.IsListIter I ax 0) (hlc : lo.cls = .type "list") (hld : lo.data = .seq vs.toArray kk) (hm : (ax, lo) ∈ news) (hI : I < s₂.heap.objs.size)
    (F : Fr h₀ L s₂.heap m) (N : News h₀ L s₂.heap news) (hIL : L ≠ I) (hI₀ : h₀.get? I = none) (off : ∀ p ∈ news, p.1 ≠ I)
    (R : RestL prog w A h₀ L m env elt x scope cl s₂ ax lo Fin vs [] news)
    (hRR : ∀ D C h tk m' ys news', Fr h₀ L h m → News h₀ L h ((D, lst ys) :: news') → (∀ p ∈ news', p.1 ≠ D) → h.Ns C m' → h₀.get? C = none → C ≠ L → C ≠ D → (∀ p ∈ news', p.1 ≠ C) → Fin ys news' → RR (.ref D) C (.ok .next) { s₂ with heap := h, toks := tk }) :
    wpAny (model prog w) A (newList []) (fun acc s₃ => wpAny (model prog w) A (newFunctionEnv scope env.globals cl [] env.qual none .none (some env)) (fun cenv s₄ =>
      codeAny (model prog w) A (.compStart (.ListComp elt [⟨.Name x px, iter, [], 0⟩] scope pos) 0 (.ref I) acc { cenv with scope := relabel scope env }) (RR acc cenv.locals) s₄) E s₃) E s₂ := by
  refine wpAny_newObj_type (wpAny_newFunctionEnv hcl (by intro y hy; simp at hy) (fun H3 hCn hsb => ?_) hkind)
  dsimp only at hCn hsb ⊢
  have lax : @LT.lt Nat _ ax s₂.heap.objs.size := Heap.lt_size (N _ hm).1
  have W := Walks.list (prog := prog) (w := w) hh I ax (off _ hm) vs.toArray
  have wl : vs.toArray.size = vs.length := by simp
  rw [wl] at W
  obtain ⟨D, hD⟩ : ∃ D, D = s₂.heap.objs.size := ⟨_, rfl⟩
  obtain ⟨C, hC⟩ : ∃ C, C = D + 1 := ⟨_, rfl⟩
  have sz1 : (s₂.heap.push { cls := .type "list", dict := none, data := .seq ([] : List Value).toArray }).objs.size = C := by rw [Heap.size_push, hC, hD]
  generalize hH1 : s₂.heap.push { cls := .type "list", dict := none, data := .seq ([] : List Value).toArray } = H1 at sz1 hCn hsb ⊢
  rw [sz1] at hCn hsb
  rw [sz1, ← hD]
  have hI' : @LT.lt Nat _ I s₂.heap.objs.size := hI
  have hLlt : @LT.lt Nat _ L s₂.heap.objs.size := F.ns.lt
  have eD : @Eq Nat D s₂.heap.objs.size := hD
  have eC : @Eq Nat C (D + 1) := hC
  have up : ∀ b o, b ≠ C → H1.get? b = some o → H3.get? b = some o := fun b o e1 e => hsb.extBut b o e1 (Heap.get?_push_of_some _ e)
  have old : ∀ b o, s₂.heap.get? b = some o → H3.get? b = some o := fun b o e => by
    have hb : @LT.lt Nat _ b s₂.heap.objs.size := Heap.lt_size e
    have hbC : @Ne Nat b C := by omega
    exact up b o hbC (hH1 ▸ Heap.get?_push_of_some _ e)
  have hDg : H3.get? D = some (lst []) := up _ _ (by show @Ne Nat _ _; omega) (by rw [← hH1, hD]; exact Heap.get?_push_size _ rfl)
  have fresh₀ : ∀ b, s₂.heap.objs.size ≤ b → h₀.get? b = none := fun b hb => by
    cases e : h₀.get? b with
    | none => rfl
    | some o' => exact absurd (Heap.lt_size (F.keep b o' e)) (Nat.not_lt.mpr hb)
  have hD₀ : h₀.get? D = none := fresh₀ _ (Nat.le_of_eq eD.symm)
  have hC₀ : h₀.get? C = none := fresh₀ _ (by show @LE.le Nat _ _ _; omega)
  have nDL : D ≠ L := by show @Ne Nat _ _; omega
  have nCL : C ≠ L := by show @Ne Nat _ _; omega
  have nID : I ≠ D := by show @Ne Nat _ _; omega
  have nIC : I ≠ C := by show @Ne Nat _ _; omega
  have nDC : D ≠ C := by show @Ne Nat _ _; omega
  have low : ∀ p ∈ news, @LT.lt Nat _ p.1 s₂.heap.objs.size := fun p hp => Heap.lt_size (N p hp).1
  have off₀ : ∀ p ∈ news, p.1 ≠ I ∧ p.1 ≠ C ∧ p.1 ≠ D := fun p hp => by
    have := low p hp
    exact ⟨off p hp, by show @Ne Nat _ _; omega, by show @Ne Nat _ _; omega⟩
  have isl : ∀ {h : Heap}, h.get? ax = some lo → h.IsList ax vs.toArray := fun e => ⟨lo, e, hlc, kk, hld⟩
  have fin : ∀ {i : Nat} {h h' : Heap}, (h.IsListIter I ax i ∧ h.IsList ax vs.toArray) → (∀ b, b = I ∨ b = ax → ∀ o, h.get? b = some o → h'.get? b = some o) → (h'.IsListIter I ax i ∧ h'.IsList ax vs.toArray) := fun st hk =>
    W.frame _ _ _ st fun b hb o e => hk b (by simpa using hb) o e
  have loop : ∀ s₃ : Shared, s₃ = { s₂ with heap := H3, toks := s₂.toks + ([] : List (Str × Value)).length } →
      codeAny (model prog w) A (.compLoop (.ListComp elt [⟨.Name x px, iter, [], 0⟩] scope pos) 0 (.ref I) (.ref D) (compEnvC scope cl C env)) (RR (.ref D) C) s₃ := by
    rintro s₃ rfl
    refine codeAny_compLoop_tests
      (fun k s' => ∃ h' tk i ys m' news', s' = { s₂ with heap := h', toks := tk } ∧ i ≤ vs.length ∧ k = vs.length + 1 - i ∧ ys.length = i ∧ (h'.IsListIter I ax i ∧ h'.IsList ax vs.toArray) ∧ Fr h₀ L h' m ∧ h'.Ns C m' ∧
        News h₀ L h' ((D, lst ys) :: news') ∧ (∀ p ∈ news', p.1 ≠ I ∧ p.1 ≠ C ∧ p.1 ≠ D) ∧ (ax, lo) ∈ news' ∧ RestL prog w A h₀ L m env elt x scope cl s₂ ax lo Fin (vs.drop i) ys news') ?_ (vs.length + 1)
      ⟨H3, _, 0, [], _, news, rfl, Nat.zero_le _, rfl, rfl, fin ⟨hst, isl (N _ hm).1⟩ fun b _ o e => old b o e, F.keeps old, hCn, fun p hp => ?_, off₀, hm, R⟩
    · rintro k s' ⟨h', tk, i, ys, m', news', rfl, hi, rfl, hyl, hst', F', hn', N', off', hm', R'⟩
      have ND := N' (D, lst ys) List.mem_cons_self
      have oax := off' _ hm'
      by_cases hlt : i < vs.length
      · refine W.item i _ _ _ hlt hst' fun v h₂ tk₂ hPv hst₂ hk₂ => ?_
        have k₂ : ∀ b o, b ≠ I → h'.get? b = some o → h₂.get? b = some o := fun b o hb e => hk₂ b o (by simpa using hb) e
        have hdr : vs.drop i = v :: vs.drop (i + 1) := by
          have hv : vs[i]? = some v := by simpa using hPv
          rw [List.drop_eq_getElem_cons hlt]
          congr 1
          exact Option.some.inj ((List.getElem?_eq_getElem hlt).symm.trans hv)
        rw [hdr] at R'
        refine wpAny_assign_Name (wpAny_storeName_local (lookup_relabel_local hx) (hn'.at' fun o e => k₂ _ o (Ne.symm nIC) e) (fun h₃ hn₃ hs₃ => ?_) (by simp [compEnvC, relabel, hkind]))
        refine wpAny_tests_nil ?_
        simp only [if_true]
        have k₃ : ∀ b o, b ≠ I → b ≠ C → h'.get? b = some o → h₃.get? b = some o := fun b o h1 h2 e => hs₃.extBut b o h2 (k₂ b o h1 e)
        have hst₃ := fin hst₂ (h' := h₃) fun b hb o e => hs₃.extBut b o (by rcases hb with rfl | rfl; exact nIC; exact oax.2.1) e
        obtain ⟨oI, heI, hcI, hdI⟩ := hst₃.1
        obtain ⟨oC, heC, hoC⟩ := ns_obj hn₃
        have F₃ : Fr h₀ L h₃ m := (fr_but F' hk₂ hIL hI₀).change hs₃ nCL hC₀
        have N₃ : News h₀ L h₃ ((I, oI) :: (C, oC) :: (D, lst ys) :: news') := fun p hp => by
          rcases List.mem_cons.mp hp with rfl | hp
          · exact ⟨heI, Ne.symm hIL, hI₀⟩
          rcases List.mem_cons.mp hp with rfl | hp
          · exact ⟨heC, nCL, hC₀⟩
          rcases List.mem_cons.mp hp with rfl | hp
          · exact ⟨k₃ _ _ (Ne.symm nID) nDC ND.1, ND.2⟩
          · have z := N' p (List.mem_cons_of_mem _ hp)
            exact ⟨k₃ _ _ (off' p hp).1 (off' p hp).2.1 z.1, z.2⟩
        refine wpAny_mono (R' I oI C oC D _ _ h₃ _ _ hdI hoC (by simp) F₃ N₃ off' ⟨nIC, nID, Ne.symm nDC⟩) (fun y s₄ h₄ => ?_) fun _ _ e => e
        obtain ⟨h₄, tk₄, news₄, rfl, F₄, N₄, off₄, hm₄, R₄⟩ := h₄
        have zI := (N₄ (I, oI) (by simp)).1
        have zC := (N₄ (C, oC) (by simp)).1
        have zD := (N₄ (D, lst ys) (by simp)).1
        have N₄' : News h₀ L h₄ news₄ := fun p hp => N₄ p (List.mem_append_right _ hp)
        have o₄ : ∀ p ∈ news₄, p.1 ≠ I ∧ p.1 ≠ C ∧ p.1 ≠ D := fun p hp => ⟨off₄ p hp (I, oI) (by simp), off₄ p hp (C, oC) (by simp), off₄ p hp (D, lst ys) (by simp)⟩
        have hst₄ : h₄.IsListIter I ax (i + 1) ∧ h₄.IsList ax vs.toArray := ⟨⟨oI, zI, hcI, hdI⟩, isl (N₄' _ hm₄).1⟩
        refine append_at (hsz := by show ys.toArray.size ≤ sizeLine; rw [List.size_toArray, hyl]; exact Nat.le_trans hi hsz) zD fun h₅ hs₅ hD₅ => ?_
        refine ⟨vs.length + 1 - (i + 1), by omega, h₅, tk₄, i + 1, ys ++ [y], _, news₄, rfl, hlt, rfl, by rw [List.length_append, List.length_singleton, hyl], ?_, F₄.change hs₅ nDL hD₀,
          (hoC.ns zC).sameBut hs₅ (Ne.symm nDC), fun p hp => ?_, o₄, hm₄, R₄⟩
        · exact fin hst₄ fun b hb o e => hs₅.extBut b o (by rcases hb with rfl | rfl; exact nID; exact (o₄ _ hm₄).2.2) e
        · rcases List.mem_cons.mp hp with rfl | hp
          · exact ⟨hD₅.trans (congrArg some (lst_snoc ys y)), nDL, hD₀⟩
          · exact ⟨hs₅.extBut _ _ (o₄ p hp).2.2 (N₄' p hp).1, (N₄' p hp).2⟩
      · obtain rfl : i = vs.length := Nat.le_antisymm hi (Nat.not_lt.mp hlt)
        rw [List.drop_length] at R'
        refine W.done _ _ _ hst' fun h₂ tk₂ hk₂ => ?_
        have k₂ : ∀ b o, b ≠ I → h'.get? b = some o → h₂.get? b = some o := fun b o hb e => hk₂ b o (by simpa using hb) e
        exact hRR D C h₂ tk₂ _ ys news' (fr_but F' hk₂ hIL hI₀) (news_but N' hk₂ fun p hp => by
          rcases List.mem_cons.mp hp with rfl | hp
          · exact Ne.symm nID
          · exact (off' p hp).1) (fun p hp => (off' p hp).2.2) (hn'.at' fun o e => k₂ _ o (Ne.symm nIC) e) hC₀ nCL (Ne.symm nDC) (fun p hp => (off' p hp).2.1) R'
    · rcases List.mem_cons.mp hp with rfl | hp
      · exact ⟨hDg, nDL, hD₀⟩
      · exact ⟨old _ _ (N p hp).1, (N p hp).2⟩
  have ew : ∀ s' : Shared, codeAny (model prog w) A (.compLoop (.ListComp elt [⟨.Name x px, iter, [], 0⟩] scope pos) 0 (.ref I) (.ref D) (compEnvC scope cl C env)) (RR (.ref D) C) s' →
      codeAny (model prog w) A (.compLoop (.ListComp elt [⟨.Name x px, iter, [], 0⟩] scope pos) 0 (.ref I) (.ref D) (compEnvC scope cl C env)) (RR (.ref D) C) s' := fun _ h => h
  exact codeAny_compStart_list (loop _ rfl) (W.self 0 _ _ _ (fin ⟨hst, isl (N _ hm).1⟩ fun b _ o e => old b o e) (loop _ rfl))
def SrcL' (prog : Program) (w : World) (A : Around) (h₀ : Heap) (L : Addr) (m : Str → Option Value) (env : Env) (elt : Expr) (x : Str) (scope : Scope) (cl : List (Str × Addr)) (Fin : Shared → List Value → List (Addr × Obj) → Prop) (xv : Value) (s₁ : Shared) : Prop :=
  ∃ ax lo vs kk news, xv = .ref ax ∧ A.handled = none ∧ Fr h₀ L s₁.heap m ∧ News h₀ L s₁.heap news ∧ (ax, lo) ∈ news ∧ lo.cls = .type "list" ∧ lo.data = .seq (List.toArray vs) kk ∧ vs.length ≤ sizeLine ∧
    ∀ g, RestL prog w A h₀ L m env elt x scope cl { s₁ with heap := g } ax lo (Fin { s₁ with heap := g }) vs [] news
end
end Mine
namespace Mine
open PySem PySem.W PyProof.Rows PySem.Spec PySem.Calls PyProof.Rows.LCg
section
variable {prog : Program} {w : World} {A : Around} {E : Value → Shared → Prop} {s : Shared} {h₀ : Heap} {L : Addr} {m : Str → Option Value} {env : Env}
def FinAs (h₀ : Heap) (L : Addr) (m : Str → Option Value) (y : Str) (Q : Flow → Shared → Prop) (s : Shared) (ys : List Value) (news : List (Addr × Obj)) : Prop :=
  ∀ D h tk, Fr h₀ L h (fun z => if z = y then some (.ref D) else m z) → News h₀ L h ((D, lst ys) :: news) → (∀ p ∈ news, p.1 ≠ D) → Q .next { s with heap := h, toks := tk }
theorem asg_end {y : Str} {py : Pos} {Q : Flow → Shared → Prop} {D C : Addr} {h : Heap} {tk : Nat} {m' : Str → Option Value} {ys : List Value} {news' : List (Addr × Obj)} {s₂ : Shared}
    (hy : env.kindOf y = some .local) (hp : (env.scope.kind == .class || (env.scope.kind == .module && env.locals != env.globals)) = false)
    (F' : Fr h₀ env.locals h m) (N' : News h₀ env.locals h ((D, lst ys) :: news')) (oD : ∀ p ∈ news', p.1 ≠ D) (hn : h.Ns C m') (hC₀ : h₀.get? C = none) (hCL : C ≠ env.locals) (hCD : C ≠ D) (offC : ∀ p ∈ news', p.1 ≠ C) (fin : FinAs h₀ env.locals m y Q s₂ ys news') :
    wpAny (model prog w) A (assign (.Name y py) env (.ref D)) (fun _ s'' => ∃ m'', s''.heap.Ns C m'' ∧ ∀ h', Heap.SameBut C s''.heap h' → Q .next { s'' with heap := h' }) E { s₂ with heap := h, toks := tk } := by
  refine wpAny_assign_Name (wpAny_storeName_local hy F'.ns (fun h₂ hn₂ hs₂ => ?_) hp)
  have hL₀ : h₀.get? env.locals = none := Heap.get?_none_of_le F'.above
  have F₂ : Fr h₀ env.locals h₂ (fun z => if z = y then some (.ref D) else m z) := ⟨hn₂, fun b o e => hs₂.extBut b o (fun q => by rw [q, hL₀] at e; cases e) (F'.keep b o e), F'.above⟩
  refine ⟨m', hn.sameBut hs₂ hCL, fun h'' hs'' => fin D h'' _ (F₂.change hs'' hCL hC₀) (fun p hp => ?_) oD⟩
  have z : h₂.get? p.1 = some p.2 := hs₂.extBut _ _ (N' p hp).2.1 (N' p hp).1
  refine ⟨hs''.extBut _ _ ?_ z, (N' p hp).2⟩
  rcases List.mem_cons.mp hp with rfl | hp
  · exact Ne.symm hCD
  · exact offC p hp
theorem asgComp_C {elt iter : Expr} {x y : Str} {px py : Pos} {scope : Scope} {cl : List (Str × Addr)} {pos spos : Pos} {Q : Flow → Shared → Prop} (_F : Fr h₀ env.locals s.heap m)
    (hsw : swapsWith (.ListComp elt [⟨.Name x px, iter, [], 0⟩] scope pos) (some (.Name y py)) spos.line env = pure true)
    (hclos : closureFor scope env = pure cl) (hcl : scope.names.filter (·.2 == .cell) = [(x, .cell)]) (hkind : scope.kind = .function)
    (hnames : ∀ z ∈ scope.names, z.2 = .local → scope.names.lookup z.1 = some .local) (hx : scope.names.lookup x = some .cell)
    (hy : env.kindOf y = some .local) (hp : (env.scope.kind == .class || (env.scope.kind == .module && env.locals != env.globals)) = false)
    (h : wpAny (model prog w) A (eval iter env) (SrcC prog w A h₀ env.locals m env elt x scope cl (FinAs h₀ env.locals m y Q)) E s)
    (hs : ∀ x, foldedSetIterable iter env x = pure x) :
    wpAny (model prog w) A (exec (.Assign [.Name y py] (.ListComp elt [⟨.Name x px, iter, [], 0⟩] scope pos) spos) env) Q E s := by
  rw [exec_Assign_Name_used _ _ _ _ hsw]
  refine wpAny_bind (wpAny_standAt (wpAny_bind ?_))
  show wpAny _ A (do let _ ← comprehension (.ListComp elt [⟨.Name x px, iter, [], 0⟩] scope pos) scope env _ (newList []) false (eval iter env) (some (assign (.Name y py) env))) _ _ s
  refine wpAny_bind (wpAny_mono (wpAny_comprehension_free (use := some (assign (.Name y py) env)) (Q := fun _ s' => Q .next s') rfl hs hclos hkind hnames
    (wpAny_mono h (fun xv s₁ h₁ => ?_) fun _ _ e => e)) (fun _ s' hq => wpAny_pure (wpAny_pure hq)) fun _ _ e => e)
  obtain ⟨r, a, b, t, u, v, n, news, rfl, hh, F, N, hr, hsm, hn, hsz, R⟩ := h₁
  refine wpAny_pyIter_range hr hsm ?_
  refine block_C hh hsz hcl hkind hx (by show IsRangeIter _ _ _ _ _; rw [hn]; simpa using Heap.get?_push_size _ rfl) ?_ (F.keeps fun _ _ e => Heap.get?_push_of_some _ e) (N.grown fun _ _ e => Heap.get?_push_of_some _ e) (Nat.ne_of_lt F.ns.lt) (next_is_new F) (fun p hp => Nat.ne_of_lt (Heap.lt_size (N p hp).1)) (R _) ?_
  · show s₁.heap.objs.size < (s₁.heap.push _).objs.size
    rw [Heap.size_push]; exact Nat.lt_succ_self _
  · intro D C h tk m' ys news' F' N' oD hn' hC₀ hCL hCD offC fin
    exact asg_end hy hp F' N' oD hn' hC₀ hCL hCD offC fin
theorem asgComp_L {elt iter : Expr} {x y : Str} {px py : Pos} {scope : Scope} {cl : List (Str × Addr)} {pos spos : Pos} {Q : Flow → Shared → Prop} (_F : Fr h₀ env.locals s.heap m)
    (hsw : swapsWith (.ListComp elt [⟨.Name x px, iter, [], 0⟩] scope pos) (some (.Name y py)) spos.line env = pure true)
    (hclos : closureFor scope env = pure cl) (hcl : ∀ z ∈ scope.names, z.2 ≠ .cell) (hkind : scope.kind = .function)
    (hnames : ∀ z ∈ scope.names, z.2 = .local → scope.names.lookup z.1 = some .local) (hx : scope.names.lookup x = some .local)
    (hy : env.kindOf y = some .local) (hp : (env.scope.kind == .class || (env.scope.kind == .module && env.locals != env.globals)) = false)
    (h : wpAny (model prog w) A (eval iter env) (SrcL' prog w A h₀ env.locals m env elt x scope cl (FinAs h₀ env.locals m y Q)) E s)
    (hs : ∀ x, foldedSetIterable iter env x = pure x) :
    wpAny (model prog w) A (exec (.Assign [.Name y py] (.ListComp elt [⟨.Name x px, iter, [], 0⟩] scope pos) spos) env) Q E s := by
  rw [exec_Assign_Name_used _ _ _ _ hsw]
  refine wpAny_bind (wpAny_standAt (wpAny_bind ?_))
  show wpAny _ A (do let _ ← comprehension (.ListComp elt [⟨.Name x px, iter, [], 0⟩] scope pos) scope env _ (newList []) false (eval iter env) (some (assign (.Name y py) env))) _ _ s
  refine wpAny_bind (wpAny_mono (wpAny_comprehension_free (use := some (assign (.Name y py) env)) (Q := fun _ s' => Q .next s') rfl hs hclos hkind hnames
    (wpAny_mono h (fun xv s₁ h₁ => ?_) fun _ _ e => e)) (fun _ s' hq => wpAny_pure (wpAny_pure hq)) fun _ _ e => e)
  obtain ⟨ax, lo, vs, kk, news, rfl, hh, F, N, hm, hlc, hld, hsz, R⟩ := h₁
  refine wpAny_pyIter_list ⟨lo, (N _ hm).1, hlc, kk, hld⟩ ?_
  refine block_L hh hsz hcl hkind hx ⟨_, Heap.get?_push_size _ rfl, rfl, rfl⟩ hlc hld hm ?_ (F.keeps fun _ _ e => Heap.get?_push_of_some _ e) (N.grown fun _ _ e => Heap.get?_push_of_some _ e) (Nat.ne_of_lt F.ns.lt) (next_is_new F) (fun p hp => Nat.ne_of_lt (Heap.lt_size (N p hp).1)) (R _) ?_
  · show s₁.heap.objs.size < (s₁.heap.push _).objs.size
    rw [Heap.size_push]; exact Nat.lt_succ_self _
  · intro D C h tk m' ys news' F' N' oD hn' hC₀ hCL hCD offC fin
    exact asg_end hy hp F' N' oD hn' hC₀ hCL hCD offC fin
theorem SrcL'.mk {elt : Expr} {x : Str} {scope : Scope} {cl : List (Str × Addr)} {Fin : Shared → List Value → List (Addr × Obj) → Prop} {ax : Addr} {lo : Obj} {vs : List Value} {kk : Nat} {news : List (Addr × Obj)} {s₁ : Shared}
    (hh : A.handled = none) (F : Fr h₀ L s₁.heap m) (N : News h₀ L s₁.heap news) (hm : (ax, lo) ∈ news) (hlc : lo.cls = .type "list") (hld : lo.data = .seq vs.toArray kk) (hsz : vs.length ≤ sizeLine)
    (h : ∀ g, RestL prog w A h₀ L m env elt x scope cl { s₁ with heap := g } ax lo (Fin { s₁ with heap := g }) vs [] news) :
    SrcL' prog w A h₀ L m env elt x scope cl Fin (.ref ax) s₁ := ⟨ax, lo, vs, kk, news, rfl, hh, F, N, hm, hlc, hld, hsz, h⟩
theorem RestL.zero {elt : Expr} {x : Str} {scope : Scope} {cl : List (Str × Addr)} {ax : Addr} {lo : Obj} {Fin : List Value → List (Addr × Obj) → Prop} {ys : List Value} {news : List (Addr × Obj)} (h : Fin ys news) :
    RestL prog w A h₀ L m env elt x scope cl s ax lo Fin [] ys news := h
theorem RestL.succ {elt : Expr} {x : Str} {scope : Scope} {cl : List (Str × Addr)} {ax : Addr} {lo : Obj} {Fin : List Value → List (Addr × Obj) → Prop} {v : Value} {r ys : List Value} {news : List (Addr × Obj)}
    (h : ∀ I oI C oC D m₂ j h tk (E' : Value → Shared → Prop), oI.data = .fields #[.ref ax, .int j 0] → NsObj oC m₂ → m₂ x = some v → Fr h₀ L h m → News h₀ L h ((I, oI) :: (C, oC) :: (D, lst ys) :: news) → (∀ p ∈ news, p.1 ≠ I ∧ p.1 ≠ C ∧ p.1 ≠ D) → (I ≠ C ∧ I ≠ D ∧ C ≠ D) →
      wpAny (model prog w) A (eval elt (compEnvC scope cl C env)) (EndC h₀ L m { s with heap := h, toks := tk } [(I, oI), (C, oC), (D, lst ys)] (fun y news' => (ax, lo) ∈ news' ∧ RestL prog w A h₀ L m env elt x scope cl s ax lo Fin r (ys ++ [y]) news')) E' { s with heap := h, toks := tk }) :
    RestL prog w A h₀ L m env elt x scope cl s ax lo Fin (v :: r) ys news := h
end
end Mine
namespace Mine
open PySem PySem.W PyProof.Rows PySem.Spec PySem.Calls PyProof.Rows.LCg
section
variable {prog : Program} {w : World} {A : Around} {E : Value → Shared → Prop} {s : Shared} {h₀ : Heap} {L : Addr} {m : Str → Option Value} {env : Env}
def PairNo (prog : Program) (w : World) (A : Around) (h₀ : Heap) (L : Addr) (m : Str → Option Value) (env : Env) (ct : Expr) (x y : Str) (scope : Scope) (cl : List (Str × Addr)) (s₁ : Shared) (news : List (Addr × Obj)) (v : Value) : Prop :=
  ∃ T ot v₁ v₂ nt, v = .ref T ∧ (T, ot) ∈ news ∧ ot.cls = .type "tuple" ∧ ot.data = .seq #[v₁, v₂] nt ∧
    ∀ I oI C oC D m₂ g tk (E' : Value → Shared → Prop), NsObj oC m₂ → m₂ x = some v₁ → m₂ y = some v₂ → Fr h₀ L g m → News h₀ L g ((I, oI) :: (C, oC) :: (D, lst []) :: news) →
      wpAny (model prog w) A (isTrue ct (compEnvC scope cl C env) (eval ct (compEnvC scope cl C env))) (fun ok s' => ok = false ∧ ∃ g' tk', s' = { s₁ with heap := g', toks := tk' } ∧ Fr h₀ L g' m ∧ News h₀ L g' ((I, oI) :: (C, oC) :: (D, lst []) :: news)) E' { s₁ with heap := g, toks := tk }
theorem block_N {elt iter ct : Expr} {x y : Str} {px py tp : Pos} {tk1} {scope : Scope} {cl : List (Str × Addr)} {pos : Pos} {s₂ : Shared} {I ax : Addr} {lo : Obj} {vs : List Value} {kk : Nat} {news : List (Addr × Obj)} {RR : Value → Addr → Result → Shared → Prop}
    (hh : A.handled = none) (hcl : ∀ y ∈ scope.names, y.2 ≠ .cell) (hkind : scope.kind = .function) (hx : scope.names.lookup x = some .local) (hy : scope.names.lookup y = some .local) (hxy : x ≠ y)
    (hst : s₂.heap.IsListIter I ax 0) (hlc : lo.cls = .type "list") (hld : lo.data = .seq vs.toArray kk) (hm : (ax, lo) ∈ news) (hI : I < s₂.heap.objs.size)
    (F : Fr h₀ L s₂.heap m) (N : News h₀ L s₂.heap news) (hIL : L ≠ I) (hI₀ : h₀.get? I = none) (off : ∀ p ∈ news, p.1 ≠ I)
    (R : ∀ v ∈ vs, PairNo prog w A h₀ L m env ct x y scope cl s₂ news v)
    (hRR : ∀ D C h tk m', Fr h₀ L h m → News h₀ L h ((D, lst []) :: news) → (∀ p ∈ news, p.1 ≠ D) → h.Ns C m' → h₀.get? C = none → C ≠ L → C ≠ D → (∀ p ∈ news, p.1 ≠ C) → RR (.ref D) C (.ok .next) { s₂ with heap := h, toks := tk }) :
    wpAny (model prog w) A (newList []) (fun acc s₃ => wpAny (model prog w) A (newFunctionEnv scope env.globals cl [] env.qual none .none (some env)) (fun cenv s₄ =>
      codeAny (model prog w) A (.compStart (.ListComp elt [⟨.Tuple [.Name x px, .Name y py] tk1 tp, iter, [ct], 0⟩] scope pos) 0 (.ref I) acc { cenv with scope := relabel scope env }) (RR acc cenv.locals) s₄) E s₃) E s₂ := by
  refine wpAny_newObj_type (wpAny_newFunctionEnv hcl (by intro y hy; simp at hy) (fun H3 hCn hsb => ?_) hkind)
  dsimp only at hCn hsb ⊢
  have lax : @LT.lt Nat _ ax s₂.heap.objs.size := Heap.lt_size (N _ hm).1
  have W := Walks.list (prog := prog) (w := w) hh I ax (off _ hm) vs.toArray
  have wl : vs.toArray.size = vs.length := by simp
  rw [wl] at W
  obtain ⟨D, hD⟩ : ∃ D, D = s₂.heap.objs.size := ⟨_, rfl⟩
  obtain ⟨C, hC⟩ : ∃ C, C = D + 1 := ⟨_, rfl⟩
  have sz1 : (s₂.heap.push { cls := .type "list", dict := none, data := .seq ([] : List Value).toArray }).objs.size = C := by rw [Heap.size_push, hC, hD]
  generalize hH1 : s₂.heap.push { cls := .type "list", dict := none, data := .seq ([] : List Value).toArray } = H1 at sz1 hCn hsb ⊢
  rw [sz1] at hCn hsb
  rw [sz1, ← hD]
  have hI' : @LT.lt Nat _ I s₂.heap.objs.size := hI
  have hLlt : @LT.lt Nat _ L s₂.heap.objs.size := F.ns.lt
  have eD : @Eq Nat D s₂.heap.objs.size := hD
  have eC : @Eq Nat C (D + 1) := hC
  have up : ∀ b o, b ≠ C → H1.get? b = some o → H3.get? b = some o := fun b o e1 e => hsb.extBut b o e1 (Heap.get?_push_of_some _ e)
  have old : ∀ b o, s₂.heap.get? b = some o → H3.get? b = some o := fun b o e => by
    have hb : @LT.lt Nat _ b s₂.heap.objs.size := Heap.lt_size e
    have hbC : @Ne Nat b C := by omega
    exact up b o hbC (hH1 ▸ Heap.get?_push_of_some _ e)
  have nDC : D ≠ C := by show @Ne Nat _ _; omega
  have hDg : H3.get? D = some (lst []) := up _ _ nDC (by rw [← hH1, hD]; exact Heap.get?_push_size _ rfl)
  have fresh₀ : ∀ b, s₂.heap.objs.size ≤ b → h₀.get? b = none := fun b hb => by
    cases e : h₀.get? b with
    | none => rfl
    | some o' => exact absurd (Heap.lt_size (F.keep b o' e)) (Nat.not_lt.mpr hb)
  have hD₀ : h₀.get? D = none := fresh₀ _ (Nat.le_of_eq eD.symm)
  have hC₀ : h₀.get? C = none := fresh₀ _ (by show @LE.le Nat _ _ _; omega)
  have nDL : D ≠ L := by show @Ne Nat _ _; omega
  have nCL : C ≠ L := by show @Ne Nat _ _; omega
  have nID : I ≠ D := by show @Ne Nat _ _; omega
  have nIC : I ≠ C := by show @Ne Nat _ _; omega
  have low : ∀ p ∈ news, @LT.lt Nat _ p.1 s₂.heap.objs.size := fun p hp => Heap.lt_size (N p hp).1
  have off₀ : ∀ p ∈ news, p.1 ≠ I ∧ p.1 ≠ C ∧ p.1 ≠ D := fun p hp => by
    have := low p hp
    exact ⟨off p hp, by show @Ne Nat _ _; omega, by show @Ne Nat _ _; omega⟩
  have oax := off₀ _ hm
  have isl : ∀ {h : Heap}, h.get? ax = some lo → h.IsList ax vs.toArray := fun e => ⟨lo, e, hlc, kk, hld⟩
  have fin : ∀ {i : Nat} {h h' : Heap}, (h.IsListIter I ax i ∧ h.IsList ax vs.toArray) → (∀ b, b = I ∨ b = ax → ∀ o, h.get? b = some o → h'.get? b = some o) → (h'.IsListIter I ax i ∧ h'.IsList ax vs.toArray) := fun st hk =>
    W.frame _ _ _ st fun b hb o e => hk b (by simpa using hb) o e
  have loop : ∀ s₃ : Shared, s₃ = { s₂ with heap := H3, toks := s₂.toks + ([] : List (Str × Value)).length } →
      codeAny (model prog w) A (.compLoop (.ListComp elt [⟨.Tuple [.Name x px, .Name y py] tk1 tp, iter, [ct], 0⟩] scope pos) 0 (.ref I) (.ref D) (compEnvC scope cl C env)) (RR (.ref D) C) s₃ := by
    rintro s₃ rfl
    refine kct_loop
      (fun k s' => ∃ h' tk i m', s' = { s₂ with heap := h', toks := tk } ∧ i ≤ vs.length ∧ k = vs.length + 1 - i ∧ (h'.IsListIter I ax i ∧ h'.IsList ax vs.toArray) ∧ Fr h₀ L h' m ∧ h'.Ns C m' ∧
        News h₀ L h' ((D, lst []) :: news)) ?_ (vs.length + 1)
      ⟨H3, _, 0, _, rfl, Nat.zero_le _, rfl, fin ⟨hst, isl (N _ hm).1⟩ fun b _ o e => old b o e, F.keeps old, hCn, fun p hp => ?_⟩
    · rintro k s' ⟨h', tk, i, m', rfl, hi, rfl, hst', F', hn', N'⟩
      have ND := N' (D, lst []) List.mem_cons_self
      by_cases hlt : i < vs.length
      · refine W.item i _ _ _ hlt hst' fun v h₂ tk₂ hPv hst₂ hk₂ => ?_
        have k₂ : ∀ b o, b ≠ I → h'.get? b = some o → h₂.get? b = some o := fun b o hb e => hk₂ b o (by simpa using hb) e
        have hv : vs[i]? = some v := by simpa using hPv
        obtain ⟨T, ot, v₁, v₂, nt, rfl, hT, hTc, hTd, hR⟩ := R v (List.mem_of_getElem? hv)
        refine letGo_listiter hst₂.1 ?_
        have gT : h₂.get? T = some ot := k₂ _ _ (off₀ _ hT).1 (N' _ (List.mem_cons_of_mem _ hT)).1
        refine kcp_assign hh ⟨ot, gT, hTc, nt, hTd⟩ (lookup_relabel_local hx) (lookup_relabel_local hy) (by simp [compEnvC, relabel, hkind]) (hn'.at' fun o e => k₂ _ o (Ne.symm nIC) e) fun h₃ tk₃ hn₃ hk₃ => ?_
        have k₃ : ∀ b o, b ≠ I → b ≠ C → h'.get? b = some o → h₃.get? b = some o := fun b o h1 h2 e => hk₃ b o h2 (k₂ b o h1 e)
        have hst₃ := fin hst₂ (h' := h₃) fun b hb o e => hk₃ b o (by rcases hb with rfl | rfl; exact nIC; exact oax.2.1) e
        obtain ⟨oI, heI, hcI, hdI⟩ := hst₃.1
        obtain ⟨oC, heC, hoC⟩ := ns_obj hn₃
        have F₃ : Fr h₀ L h₃ m := fr_but (fr_but F' hk₂ hIL hI₀) (I := C) (fun b o hb e => hk₃ b o (fun h => hb (List.mem_singleton.mpr h)) e) (Ne.symm nCL) hC₀
        have N₃ : News h₀ L h₃ ((I, oI) :: (C, oC) :: (D, lst []) :: news) := fun p hp => by
          rcases List.mem_cons.mp hp with rfl | hp
          · exact ⟨heI, Ne.symm hIL, hI₀⟩
          rcases List.mem_cons.mp hp with rfl | hp
          · exact ⟨heC, nCL, hC₀⟩
          rcases List.mem_cons.mp hp with rfl | hp
          · exact ⟨k₃ _ _ (Ne.symm nID) nDC ND.1, ND.2⟩
          · have z := N' p (List.mem_cons_of_mem _ hp)
            exact ⟨k₃ _ _ (off₀ p hp).1 (off₀ p hp).2.1 z.1, z.2⟩
        refine wpAny_mono (hR I oI C oC D _ h₃ _ _ hoC (by simp [hxy]) (by simp) F₃ N₃) (fun ok s₄ h₄ => ?_) fun _ _ e => e
        obtain ⟨rfl, h₄, tk₄, rfl, F₄, N₄⟩ := h₄
        simp only [Bool.false_eq_true, if_false]
        have zI := (N₄ (I, oI) (by simp)).1
        have zC := (N₄ (C, oC) (by simp)).1
        exact ⟨vs.length + 1 - (i + 1), by omega, h₄, tk₄, i + 1, _, rfl, hlt, rfl, ⟨⟨oI, zI, hcI, hdI⟩, isl (N₄ (ax, lo) (by simp [hm])).1⟩, F₄, hoC.ns zC, fun p hp => N₄ p (List.mem_cons_of_mem _ (List.mem_cons_of_mem _ hp))⟩
      · obtain rfl : i = vs.length := Nat.le_antisymm hi (Nat.not_lt.mp hlt)
        refine W.done _ _ _ hst' fun h₂ tk₂ hk₂ => ?_
        have k₂ : ∀ b o, b ≠ I → h'.get? b = some o → h₂.get? b = some o := fun b o hb e => hk₂ b o (by simpa using hb) e
        exact hRR D C h₂ tk₂ _ (fr_but F' hk₂ hIL hI₀) (news_but N' hk₂ fun p hp => by
          rcases List.mem_cons.mp hp with rfl | hp
          · exact Ne.symm nID
          · exact (off₀ p hp).1) (fun p hp => (off₀ p hp).2.2) (hn'.at' fun o e => k₂ _ o (Ne.symm nIC) e) hC₀ nCL (Ne.symm nDC) (fun p hp => (off₀ p hp).2.1)
    · rcases List.mem_cons.mp hp with rfl | hp
      · exact ⟨hDg, nDL, hD₀⟩
      · exact ⟨old _ _ (N p hp).1, (N p hp).2⟩
  exact codeAny_compStart_list (loop _ rfl) (W.self 0 _ _ _ (fin ⟨hst, isl (N _ hm).1⟩ fun b _ o e => old b o e) (loop _ rfl))
def SrcN (prog : Program) (w : World) (A : Around) (h₀ : Heap) (L : Addr) (m : Str → Option Value) (env : Env) (ct : Expr) (x y : Str) (scope : Scope) (cl : List (Str × Addr)) (Q : Value → Shared → Prop) (xv : Value) (s₁ : Shared) : Prop :=
  ∃ ax lo vs kk news, xv = .ref ax ∧ A.handled = none ∧ Fr h₀ L s₁.heap m ∧ News h₀ L s₁.heap news ∧ (ax, lo) ∈ news ∧ lo.cls = .type "list" ∧ lo.data = .seq (List.toArray vs) kk ∧
    (∀ g, ∀ v ∈ vs, PairNo prog w A h₀ L m env ct x y scope cl { s₁ with heap := g } news v) ∧ ∀ D h tk, Fr h₀ L h m → News h₀ L h ((D, lst []) :: news) → (∀ p ∈ news, p.1 ≠ D) → Q (.ref D) { s₁ with heap := h, toks := tk }
theorem listComp_N {elt iter ct : Expr} {x y : Str} {px py tp : Pos} {tk1} {scope : Scope} {cl : List (Str × Addr)} {pos : Pos} {Q : Value → Shared → Prop} (_F : Fr h₀ L s.heap m)
    (hclos : closureFor scope env = pure cl) (hcl : ∀ y ∈ scope.names, y.2 ≠ .cell) (hkind : scope.kind = .function)
    (hnames : ∀ y ∈ scope.names, y.2 = .local → scope.names.lookup y.1 = some .local) (hx : scope.names.lookup x = some .local) (hy : scope.names.lookup y = some .local) (hxy : x ≠ y)
    (h : wpAny (model prog w) A (eval iter env) (SrcN prog w A h₀ L m env ct x y scope cl Q) E s)
    (hs : ∀ x, foldedSetIterable iter env x = pure x) :
    wpAny (model prog w) A (eval (.ListComp elt [⟨.Tuple [.Name x px, .Name y py] tk1 tp, iter, [ct], 0⟩] scope pos) env) Q E s := by
  rw [eval_ListComp]
  refine wpAny_comprehension_free (use := none) rfl hs hclos hkind hnames (wpAny_mono h (fun xv s₁ h₁ => ?_) fun _ _ e => e)
  obtain ⟨ax, lo, vs, kk, news, rfl, hh, F, N, hm, hlc, hld, R, fin⟩ := h₁
  refine wpAny_pyIter_list ⟨lo, (N _ hm).1, hlc, kk, hld⟩ ?_
  refine block_N hh hcl hkind hx hy hxy ⟨_, Heap.get?_push_size _ rfl, rfl, rfl⟩ hlc hld hm ?_ (F.keeps fun _ _ e => Heap.get?_push_of_some _ e) (N.grown fun _ _ e => Heap.get?_push_of_some _ e) (Nat.ne_of_lt F.ns.lt) (next_is_new F) (fun p hp => Nat.ne_of_lt (Heap.lt_size (N p hp).1)) (R _) ?_
  · show s₁.heap.objs.size < (s₁.heap.push _).objs.size
    rw [Heap.size_push]; exact Nat.lt_succ_self _
  · intro D C h tk m' F' N' oD hn' hC₀ hCL hCD offC
    refine ⟨m', hn', fun h'' hs'' => fin D h'' tk (F'.change hs'' hCL hC₀) (fun p hp => ?_) oD⟩
    refine ⟨hs''.extBut _ _ ?_ (N' p hp).1, (N' p hp).2⟩
    rcases List.mem_cons.mp hp with rfl | hp
    · exact Ne.symm hCD
    · exact offC p hp
def TestNo (h₀ : Heap) (L : Addr) (m : Str → Option Value) (s₁ : Shared) (news : List (Addr × Obj)) (ok : Bool) (s' : Shared) : Prop := ok = false ∧ ∃ g' tk', s' = { s₁ with heap := g', toks := tk' } ∧ Fr h₀ L g' m ∧ News h₀ L g' news
theorem srcN3 {ct : Expr} {x y : Str} {scope : Scope} {cl : List (Str × Addr)} {Q : Value → Shared → Prop} {ax T1 T2 T3 : Addr} {a1 a2 a3 : Value} {t1 t2 t3 : Tok} {news : List (Addr × Obj)} {s₁ : Shared}
    (hh : A.handled = none) (F : Fr h₀ L s₁.heap m) (N : News h₀ L s₁.heap news) (hm : (ax, lst [.ref T1, .ref T2, .ref T3]) ∈ news)
    (m1 : (T1, ({ cls := .type "tuple", data := .seq [a1, .int 0 t1].toArray } : Obj)) ∈ news) (m2 : (T2, ({ cls := .type "tuple", data := .seq [a2, .int 0 t2].toArray } : Obj)) ∈ news) (m3 : (T3, ({ cls := .type "tuple", data := .seq [a3, .int 0 t3].toArray } : Obj)) ∈ news)
    (h : ∀ u t I oI C oC D m₂ g tk (E' : Value → Shared → Prop), NsObj oC m₂ → m₂ x = some u → m₂ y = some (.int 0 t) → Fr h₀ L g m → News h₀ L g ((I, oI) :: (C, oC) :: (D, lst []) :: news) →
      wpAny (model prog w) A (isTrue ct (compEnvC scope cl C env) (eval ct (compEnvC scope cl C env))) (TestNo h₀ L m s₁ ((I, oI) :: (C, oC) :: (D, lst []) :: news)) E' { s₁ with heap := g, toks := tk })
    (hQ : ∀ D h tk, Fr h₀ L h m → News h₀ L h ((D, lst []) :: news) → (∀ p ∈ news, p.1 ≠ D) → Q (.ref D) { s₁ with heap := h, toks := tk }) : SrcN prog w A h₀ L m env ct x y scope cl Q (.ref ax) s₁ := by
  refine ⟨ax, lst [.ref T1, .ref T2, .ref T3], [.ref T1, .ref T2, .ref T3], 3, news, rfl, hh, F, N, hm, rfl, rfl, fun g v hv => ?_, hQ⟩
  simp only [List.mem_cons, List.not_mem_nil, or_false] at hv
  rcases hv with rfl | rfl | rfl
  · exact ⟨T1, _, a1, .int 0 t1, 0, rfl, m1, rfl, rfl, fun I oI C oC D m₂ g tk E' q1 q2 q3 q4 q5 => h a1 t1 I oI C oC D m₂ g tk E' q1 q2 q3 q4 q5⟩
  · exact ⟨T2, _, a2, .int 0 t2, 0, rfl, m2, rfl, rfl, fun I oI C oC D m₂ g tk E' q1 q2 q3 q4 q5 => h a2 t2 I oI C oC D m₂ g tk E' q1 q2 q3 q4 q5⟩
  · exact ⟨T3, _, a3, .int 0 t3, 0, rfl, m3, rfl, rfl, fun I oI C oC D m₂ g tk E' q1 q2 q3 q4 q5 => h a3 t3 I oI C oC D m₂ g tk E' q1 q2 q3 q4 q5⟩
end
end Mine
namespace Mine
abbrev lawCl (c1 c2 c3 c4 c5 c6 c7 : Addr) : List (Str × Addr) := [(Str.ofString "scale", c7), (Str.ofString "start", c6), (Str.ofString "first", c5), (Str.ofString "total", c4), (Str.ofString "told", c3), (Str.ofString "whole", c2), (Str.ofString "ways", c1)]
theorem stat1 {n0 n1 n2 n3 n4 n5 d0 d1 d2 ww T0 T1 T2 g U0 U1 U2 : Int} (h : T0 * d0 + T1 * n2 + T2 * n4 = ww * T0 ∧ T0 * n0 + T1 * d1 + T2 * n5 = ww * T1 ∧ T0 * n1 + T1 * n3 + T2 * d2 = ww * T2) (e0 : T0 = g * U0) (e1 : T1 = g * U1) (e2 : T2 = g * U2) (hg : 1 ≤ g) :
    U0 * d0 + U1 * n2 + U2 * n4 = ww * U0 ∧ U0 * n0 + U1 * d1 + U2 * n5 = ww * U1 ∧ U0 * n1 + U1 * n3 + U2 * d2 = ww * U2 := by
  subst e0 e1 e2
  have hz : g ≠ 0 := by omega
  obtain ⟨h0, h1, h2⟩ := h
  refine ⟨Int.eq_of_mul_eq_mul_left hz ?_, Int.eq_of_mul_eq_mul_left hz ?_, Int.eq_of_mul_eq_mul_left hz ?_⟩
  · grind
  · grind
  · grind
theorem ubound {T g U : Int} (h : T = g * U) (hg : 1 ≤ g) (hT : 1 ≤ T ∧ T ≤ 1000) : 1 ≤ U ∧ U ≤ 1000 := by
  have h1 : 1 ≤ U := by
    rcases Int.lt_or_le U 1 with h' | h'
    · have := Int.mul_le_mul_of_nonneg_left (show U ≤ 0 by omega) (show 0 ≤ g by omega)
      omega
    · exact h'
  have := Int.mul_le_mul_of_nonneg_right hg (show 0 ≤ U by omega)
  omega
theorem addr_ne {a : Addr} {l : List (Addr × Obj)} (h : ∀ p ∈ l, p.1 ≠ a) : ∀ x ∈ l.map (·.1), @Ne Nat x a := fun x hx => by
  obtain ⟨p, hp, rfl⟩ := List.mem_map.mp hx
  exact h p hp
end Mine
namespace Mine
def ab (x : Int) : Int := if x < 0 then -x else x
theorem ab_nonneg (x : Int) : 0 ≤ ab x := by unfold ab; split <;> omega
theorem ab_pm (x : Int) : x ≤ ab x ∧ -x ≤ ab x := by unfold ab; split <;> omega
theorem ab_le {x y : Int} (h1 : x ≤ y) (h2 : -x ≤ y) : ab x ≤ y := by unfold ab; split <;> omega
theorem ab_mul (d : Int) {k : Int} (hk : 0 ≤ k) : d * k ≤ ab d * k ∧ -(d * k) ≤ ab d * k := by
  have h1 := Int.mul_le_mul_of_nonneg_right (ab_pm d).1 hk
  have h2 := Int.mul_le_mul_of_nonneg_right (ab_pm d).2 hk
  rw [Int.neg_mul] at h2
  exact ⟨h1, h2⟩
theorem col {d0 d1 d2 a b c : Int} (hs : d0 + d1 + d2 = 0) (ha : 1 ≤ a) (hb : 1 ≤ b) (hc : 1 ≤ c) : ab (d0 * a + d1 * b + d2 * c) ≤ ab d0 * (a - 1) + ab d1 * (b - 1) + ab d2 * (c - 1) := by
  have e : d0 * a + d1 * b + d2 * c = d0 * (a - 1) + d1 * (b - 1) + d2 * (c - 1) := by grind
  have h0 := ab_mul d0 (Int.sub_nonneg.mpr ha)
  have h1 := ab_mul d1 (Int.sub_nonneg.mpr hb)
  have h2 := ab_mul d2 (Int.sub_nonneg.mpr hc)
  rw [e]
  exact ab_le (by omega) (by omega)
theorem fin_near {a p w : Int} (h1 : a ≤ w * p - 3 * p) (h2 : 0 ≤ p) : ¬ (a > w * p) ∧ ¬ (a = w * p ∧ p > 0) := by
  generalize w * p = q at *
  omega
theorem nearer {d0 d1 d2 a0 b0 c0 a1 b1 c1 a2 b2 c2 ww after apart : Int} (hs : d0 + d1 + d2 = 0) (ha0 : 1 ≤ a0) (hb0 : 1 ≤ b0) (hc0 : 1 ≤ c0) (ha1 : 1 ≤ a1) (hb1 : 1 ≤ b1) (hc1 : 1 ≤ c1) (ha2 : 1 ≤ a2) (hb2 : 1 ≤ b2) (hc2 : 1 ≤ c2)
    (r0 : a0 + a1 + a2 = ww) (r1 : b0 + b1 + b2 = ww) (r2 : c0 + c1 + c2 = ww)
    (hap : apart = ab d0 + ab d1 + ab d2) (haf : after = ab (d0 * a0 + d1 * b0 + d2 * c0) + ab (d0 * a1 + d1 * b1 + d2 * c1) + ab (d0 * a2 + d1 * b2 + d2 * c2)) :
    ¬ (after > ww * apart) ∧ ¬ (after = ww * apart ∧ apart > 0) := by
  have k0 := col hs ha0 hb0 hc0
  have k1 := col hs ha1 hb1 hc1
  have k2 := col hs ha2 hb2 hc2
  have n0 := ab_nonneg d0
  have n1 := ab_nonneg d1
  have n2 := ab_nonneg d2
  have e : ab d0 * (a0 - 1) + ab d1 * (b0 - 1) + ab d2 * (c0 - 1) + (ab d0 * (a1 - 1) + ab d1 * (b1 - 1) + ab d2 * (c1 - 1)) + (ab d0 * (a2 - 1) + ab d1 * (b2 - 1) + ab d2 * (c2 - 1)) = ww * apart - 3 * apart := by
    subst r0 hap
    obtain rfl : b2 = a0 + a1 + a2 - b0 - b1 := by omega
    obtain rfl : c2 = a0 + a1 + a2 - c0 - c1 := by omega
    grind
  have h1 : after ≤ ww * apart - 3 * apart := by
    rw [haf, ← e]; exact Int.add_le_add (Int.add_le_add k0 k1) k2
  have h2 : 0 ≤ apart := by
    rw [hap]; exact Int.add_nonneg (Int.add_nonneg n0 n1) n2
  exact fin_near h1 h2
end Mine
namespace Mine
theorem ite_no {c a b : Prop} [Decidable c] (hc : ¬ c) (h : b) : if decide c = true then a else b := by rw [if_neg (by simpa using hc)]; exact h
theorem turn_dev {x0 x1 x2 a b c U0 U1 U2 u sv ww y : Int} (e : y = x0 * a + x1 * b + x2 * c) (st : U0 * a + U1 * b + U2 * c = ww * u) :
    y - sv * ww * u = (x0 - sv * U0) * a + (x1 - sv * U1) * b + (x2 - sv * U2) * c := by
  subst e
  have h : sv * ww * u = sv * (U0 * a + U1 * b + U2 * c) := by rw [st, Int.mul_assoc]
  rw [h]; grind
theorem dev_sum {d0 d1 d2 g0 n0 n1 n2 g1 n3 n4 n5 g2 ww : Int} (h : d0 + d1 + d2 = 0) (hs0 : g0 + n0 + n1 = ww) (hs1 : n2 + g1 + n3 = ww) (hs2 : n4 + n5 + g2 = ww) :
    (d0 * g0 + d1 * n2 + d2 * n4) + (d0 * n0 + d1 * g1 + d2 * n5) + (d0 * n1 + d1 * n3 + d2 * g2) = 0 := by
  have e : (d0 * g0 + d1 * n2 + d2 * n4) + (d0 * n0 + d1 * g1 + d2 * n5) + (d0 * n1 + d1 * n3 + d2 * g2) = d0 * (g0 + n0 + n1) + d1 * (n2 + g1 + n3) + d2 * (n4 + n5 + g2) := by grind
  rw [e, hs0, hs1, hs2, ← Int.add_mul, ← Int.add_mul, h, Int.zero_mul]
theorem turn_near {x0 x1 x2 g0 n0 n1 n2 g1 n3 n4 n5 g2 U0 U1 U2 sv ww ap y0 y1 y2 : Int} (e0 : y0 = x0 * g0 + x1 * n2 + x2 * n4) (e1 : y1 = x0 * n0 + x1 * g1 + x2 * n5) (e2 : y2 = x0 * n1 + x1 * n3 + x2 * g2)
    (st : U0 * g0 + U1 * n2 + U2 * n4 = ww * U0 ∧ U0 * n0 + U1 * g1 + U2 * n5 = ww * U1 ∧ U0 * n1 + U1 * n3 + U2 * g2 = ww * U2)
    (hsum : (x0 - sv * U0) + (x1 - sv * U1) + (x2 - sv * U2) = 0) (hap : ap = ab (x0 - sv * U0) + ab (x1 - sv * U1) + ab (x2 - sv * U2))
    (hs0 : g0 + n0 + n1 = ww) (hs1 : n2 + g1 + n3 = ww) (hs2 : n4 + n5 + g2 = ww)
    (hn0 : 1 ≤ n0) (hn1 : 1 ≤ n1) (hn2 : 1 ≤ n2) (hn3 : 1 ≤ n3) (hn4 : 1 ≤ n4) (hn5 : 1 ≤ n5) (hg0 : 1 ≤ g0) (hg1 : 1 ≤ g1) (hg2 : 1 ≤ g2) :
    ¬ (ww * ap < (if y0 - sv * ww * U0 < 0 then -(y0 - sv * ww * U0) else y0 - sv * ww * U0) + ((if y1 - sv * ww * U1 < 0 then -(y1 - sv * ww * U1) else y1 - sv * ww * U1) + ((if y2 - sv * ww * U2 < 0 then -(y2 - sv * ww * U2) else y2 - sv * ww * U2) + 0))) ∧
    ((if y0 - sv * ww * U0 < 0 then -(y0 - sv * ww * U0) else y0 - sv * ww * U0) + ((if y1 - sv * ww * U1 < 0 then -(y1 - sv * ww * U1) else y1 - sv * ww * U1) + ((if y2 - sv * ww * U2 < 0 then -(y2 - sv * ww * U2) else y2 - sv * ww * U2) + 0)) = ww * ap → ¬ 0 < ap) ∧
    (y0 - sv * ww * U0) + (y1 - sv * ww * U1) + (y2 - sv * ww * U2) = 0 ∧
    (if y0 - sv * ww * U0 < 0 then -(y0 - sv * ww * U0) else y0 - sv * ww * U0) + ((if y1 - sv * ww * U1 < 0 then -(y1 - sv * ww * U1) else y1 - sv * ww * U1) + ((if y2 - sv * ww * U2 < 0 then -(y2 - sv * ww * U2) else y2 - sv * ww * U2) + 0)) = ab (y0 - sv * ww * U0) + ab (y1 - sv * ww * U1) + ab (y2 - sv * ww * U2) := by
  have q0 := turn_dev (sv := sv) e0 st.1
  have q1 := turn_dev (sv := sv) e1 st.2.1
  have q2 := turn_dev (sv := sv) e2 st.2.2
  have h := nearer hsum hg0 hn2 hn4 hn0 hg1 hn5 hn1 hn3 hg2 hs0 hs1 hs2 hap rfl
  rw [← q0, ← q1, ← q2] at h
  have e : (if y0 - sv * ww * U0 < 0 then -(y0 - sv * ww * U0) else y0 - sv * ww * U0) + ((if y1 - sv * ww * U1 < 0 then -(y1 - sv * ww * U1) else y1 - sv * ww * U1) + ((if y2 - sv * ww * U2 < 0 then -(y2 - sv * ww * U2) else y2 - sv * ww * U2) + 0)) = ab (y0 - sv * ww * U0) + ab (y1 - sv * ww * U1) + ab (y2 - sv * ww * U2) := by
    unfold ab; rw [Int.add_zero, Int.add_assoc]
  rw [e]
  refine ⟨h.1, fun he hp => h.2 ⟨he, hp⟩, ?_, rfl⟩
  rw [q0, q1, q2]
  exact dev_sum hsum hs0 hs1 hs2
theorem room9 {a b c k : Nat} (h : a + b < c) (hk : k ≤ b) : a + k < c := Nat.lt_of_le_of_lt (Nat.add_le_add_left hk a) h
theorem roomk {a b c j k : Nat} (h : a + b < c) (hk : j + k ≤ b) : a + j + k < c := Nat.lt_of_le_of_lt (Nat.add_assoc a j k ▸ Nat.add_le_add_left hk a) h
theorem big4 {n : Int} (h : 1 ≤ n ∧ n ≤ 4) : Big n := ⟨by omega, by omega⟩
theorem big9 {g a b ww : Int} (h : 1 ≤ g) (ha : 1 ≤ a) (hb : 1 ≤ b) (hs : g + a + b = ww) (hw : ww ≤ 9) : Big g := ⟨by omega, by omega⟩
theorem bigs {n0 n1 n2 n3 n4 n5 g0 g1 g2 ww : Int} (hn0 : 1 ≤ n0 ∧ n0 ≤ 4) (hn1 : 1 ≤ n1 ∧ n1 ≤ 4) (hn2 : 1 ≤ n2 ∧ n2 ≤ 4) (hn3 : 1 ≤ n3 ∧ n3 ≤ 4) (hn4 : 1 ≤ n4 ∧ n4 ≤ 4) (hn5 : 1 ≤ n5 ∧ n5 ≤ 4) (hg0 : 1 ≤ g0) (hg1 : 1 ≤ g1) (hg2 : 1 ≤ g2) (hs0 : g0 + n0 + n1 = ww) (hs1 : n2 + g1 + n3 = ww) (hs2 : n4 + n5 + g2 = ww) (hw9 : ww ≤ 9) :
    Big g0 ∧ Big g1 ∧ Big g2 ∧ Big n0 ∧ Big n1 ∧ Big n2 ∧ Big n3 ∧ Big n4 ∧ Big n5 :=
  ⟨big9 hg0 hn0.1 hn1.1 hs0 hw9, big9 hg1 hn2.1 hn3.1 (by omega) hw9, big9 hg2 hn4.1 hn5.1 (by omega) hw9, big4 hn0, big4 hn1, big4 hn2, big4 hn3, big4 hn4, big4 hn5⟩
theorem bigU {T g U : Int} (h : T = g * U) (hg : 1 ≤ g) (hT : 1 ≤ T ∧ T ≤ 1000) : Big U := by
  have := ubound h hg hT
  exact ⟨by omega, by omega⟩
theorem bigT {T : Int} (hT : 1 ≤ T ∧ T ≤ 1000) : Big T := ⟨by omega, by omega⟩
theorem start9 {h₀ h : Heap} {L D : Addr} {t0 t1 t2 : Tok} {l : List (Addr × Obj)} {f tt U0 U1 U2 : Int}
    (N : News h₀ L h ((D, LCg.lst [.int (tt * if ((0 : Int) + ((0 : Nat) : Int) == f) = true then 1 else 0) t0, .int (tt * if ((0 : Int) + ((0 + 1 : Nat) : Int) == f) = true then 1 else 0) t1, .int (tt * if ((0 : Int) + ((0 + 1 + 1 : Nat) : Int) == f) = true then 1 else 0) t2]) :: l))
    (hf : f = 0 ∨ f = 1 ∨ f = 2) (htt : tt = U0 + U1 + U2) :
    ∃ x0 x1 x2, News h₀ L h ((D, LCg.lst [.int x0 t0, .int x1 t1, .int x2 t2]) :: l) ∧ (x0 - 1 * U0) + (x1 - 1 * U1) + (x2 - 1 * U2) = 0 := by
  refine ⟨_, _, _, N, ?_⟩
  rcases hf with rfl | rfl | rfl <;> simp <;> omega
theorem apart9 {x0 x1 x2 U0 U1 U2 : Int} : (if x0 - U0 < 0 then -(x0 - U0) else x0 - U0) + ((if x1 - U1 < 0 then -(x1 - U1) else x1 - U1) + ((if x2 - U2 < 0 then -(x2 - U2) else x2 - U2) + 0)) = ab (x0 - 1 * U0) + ab (x1 - 1 * U1) + ab (x2 - 1 * U2) := by
  unfold ab; rw [Int.one_mul, Int.one_mul, Int.one_mul, Int.add_zero, Int.add_assoc]
theorem off_at {l : List (Addr × Obj)} {I : Addr} (h : ∀ x ∈ l.map (·.1), @Ne Nat x I) : ∀ p ∈ l, p.1 ≠ I := fun p hp => h p.1 (List.mem_map.mpr ⟨p, hp, rfl⟩)
theorem v2f1 {x M : Int} (h : x ≤ M) : 1 ≤ M + 1 - x := by omega
theorem v2fin {n0 n1 n2 n3 n4 n5 M : Int} (hM : M = 0 + (n0 + (n1 + 0)) ∨ M = n2 + (0 + (n3 + 0)) ∨ M = n4 + (n5 + (0 + 0))) (hb : 0 + (n0 + (n1 + 0)) ≤ M ∧ n2 + (0 + (n3 + 0)) ≤ M ∧ n4 + (n5 + (0 + 0)) ≤ M)
    (hn0 : 1 ≤ n0 ∧ n0 ≤ 4) (hn1 : 1 ≤ n1 ∧ n1 ≤ 4) (hn2 : 1 ≤ n2 ∧ n2 ≤ 4) (hn3 : 1 ≤ n3 ∧ n3 ≤ 4) (hn4 : 1 ≤ n4 ∧ n4 ≤ 4) (hn5 : 1 ≤ n5 ∧ n5 ≤ 4) :
    1 ≤ M + 1 - (0 + (n0 + (n1 + 0))) ∧ 1 ≤ M + 1 - (n2 + (0 + (n3 + 0))) ∧ 1 ≤ M + 1 - (n4 + (n5 + (0 + 0))) ∧ (M + 1 - (0 + (n0 + (n1 + 0)))) + n0 + n1 = M + 1 ∧ n2 + (M + 1 - (n2 + (0 + (n3 + 0)))) + n3 = M + 1 ∧ n4 + n5 + (M + 1 - (n4 + (n5 + (0 + 0)))) = M + 1 ∧ M + 1 ≤ 9 := by
  have hM9 : M ≤ 8 := by
    clear hb; rcases hM with h | h | h <;> omega
  clear hM
  obtain ⟨b0, b1, b2⟩ := hb
  exact ⟨v2f1 b0, v2f1 b1, v2f1 b2, by clear b0 b1 b2 hM9; omega, by clear b0 b1 b2 hM9; omega, by clear b0 b1 b2 hM9; omega, Int.add_le_add_right hM9 1⟩
end Mine
namespace Mine
def stepParts : Expr × Scope × Scope := match (defAt 14).1 with
  | .Return (some (.ListComp (.Call _ [.ListComp e _ s2 _] _ _) _ s1 _)) _ :: _ => (e, s2, s1)
  | _ => (.Name (Str.ofString "_") ⟨0, 0, 0, 0⟩, ⟨.function, [], false, false, []⟩, ⟨.function, [], false, false, []⟩)
theorem lt63 {x : Int} (h : x ≤ 2) : x < 2 ^ 63 := by omega
section
variable {w : World} {p : Program} {loose : List Str} {mean : ExcName → Option Value} {mg mb : Str → Option Value} {dp un : Nat} {gd : Option (List Code)} {a : Addr} {ccd : Value} {cl : List (Str × Addr)} {outer : List Env} {A₀ : Around} {base h₀ : Heap} {L : Addr} {m : Str → Option Value} {news : List (Addr × Obj)} {s : Shared} {Q E : Value → Shared → Prop}
set_option maxRecDepth 100000 in
set_option maxHeartbeats 8000000 in
theorem step_elt {e : Expr} {sc s1 s2 : Scope} {K co cw C1 C2 aO aW Ra : Addr} {oK oo ow oC2 oO oW oA : Obj} {lO lW lA : List Value} {kO kW kA : Nat} {m2 : Str → Option Value} {k j x y : Int} {tk tj tx ty : Tok}
    (he : e = stepParts.1) (h2 : s2 = stepParts.2.1) (h1 : s1 = stepParts.2.2) (hsc : sc = (defAt 14).2)
    (B : Below A₀ base outer h₀) (F : Fr h₀ L s.heap m) (X : (hd.heap_39 w.params).In h₀) (N : News h₀ L s.heap news) (T : Top p loose mean mg mb h₀)
    (mC : (C2, oC2) ∈ news) (hC : LCg.NsObj oC2 m2) (hx : m2 (Str.ofString "one") = some (.int k tk)) (mK : (K, oK) ∈ news) (dK : oK.data = .cell (some (.int j tj)))
    (mo : (co, oo) ∈ news) (do9 : oo.data = .cell (some (.ref aO))) (mw : (cw, ow) ∈ news) (dw : ow.data = .cell (some (.ref aW)))
    (mO : (aO, oO) ∈ news) (mW : (aW, oW) ∈ news) (mA : (Ra, oA) ∈ news)
    (cO : oO.cls = .type "list") (dO : oO.data = .seq lO.toArray kO) (cW : oW.cls = .type "list") (dW : oW.data = .seq lW.toArray kW) (cA : oA.cls = .type "list") (dA : oA.data = .seq lA.toArray kA)
    (hk : 0 ≤ k ∧ k ≤ 2) (hj : 0 ≤ j ∧ j ≤ 2) (vO : lO[k.toNat]? = some (.int x tx)) (vW : lW[k.toNat]? = some (.ref Ra)) (vA : lA[j.toNat]? = some (.int y ty)) (by9 : Big y)
    (hd : dp + 10 < recursionLimit) (hu : un + 100 < cLine)
    (hret : ∀ h' tk' v, Fr h₀ L h' m → News h₀ L h' news → Q (.int (x * y) v) { s with heap := h', toks := tk' }) :
    wpAny (model PySem.Challenge.rw_hg0003_01.row.prog w) (ktrTop dp un gd (Str.ofString "_law_step") sc L a ccd cl outer) (eval e (compEnvC s2 [(Str.ofString "ways", cw), (Str.ofString "other", K), (Str.ofString "often", co)] C2 (compEnvC s1 [(Str.ofString "other", K), (Str.ofString "ways", cw), (Str.ofString "often", co)] C1 (envX (Str.ofString "_law_step") sc L a ccd cl)))) Q E s := by
  conv at he => rhs; whnf
  conv at h2 => rhs; whnf
  conv at h1 => rhs; whnf
  conv at hsc => rhs; whnf
  subst he h2 h1 hsc
  revert X; k_fill; intro X
  w_top off
  k_with_none
  k_with "execs nil" => ((with_reducible refine gen_toks ?_); intro tk9; refine wpAny_execs_nil ?_; dsimp only)
  k_with "subscriptTail Name Constant ref int" => ((with_reducible show wpAny _ _ (subscriptTail _ _ (Value.ref _) (Value.int _ _)) _ _ _); k_dflt ((refine kba_turn (value' := PySem.Expr.Name (PySem.Str.ofString "_") ⟨0, 0, 0, 0⟩) (fun _ => rfl) ?_); (refine' kim_list ?itN ?itm ?itc ?itd ?itlo ?ithi ?itx ?_ ?its; (case itN => k_asm); (case itm => k_mem); (case itc => assumption); (case itd => assumption); (case itlo => first | exact hk.1 | exact hj.1); (case ithi => first | exact lt63 hk.2 | exact lt63 hj.2); (case itx => assumption); (case its => with_unfolding_all rfl))))
  k_with "subscriptTail" => ((with_reducible show wpAny _ _ (subscriptTail _ _ (Value.ref _) (Value.int _ _)) _ _ _); k_dflt ((refine kba_turn (value' := PySem.Expr.Name (PySem.Str.ofString "_") ⟨0, 0, 0, 0⟩) (fun _ => rfl) ?_); (refine' kim_list ?itN ?itm ?itc ?itd ?itlo ?ithi ?itx ?_ ?its; (case itN => k_asm); (case itm => k_mem); (case itc => assumption); (case itd => assumption); (case itlo => first | exact hk.1 | exact hj.1); (case ithi => first | exact lt63 hk.2 | exact lt63 hj.2); (case itx => assumption); (case its => with_unfolding_all rfl))))
  k_with "subscriptTail Name Name ref int" => ((with_reducible show wpAny _ _ (subscriptTail _ _ (Value.ref _) (Value.int _ _)) _ _ _); k_dflt ((refine kba_turn (value' := PySem.Expr.Name (PySem.Str.ofString "_") ⟨0, 0, 0, 0⟩) (fun _ => rfl) ?_); (refine' kim_list ?itN ?itm ?itc ?itd ?itlo ?ithi ?itx ?_ ?its; (case itN => k_asm); (case itm => k_mem); (case itc => assumption); (case itd => assumption); (case itlo => first | exact hk.1 | exact hj.1); (case ithi => first | exact lt63 hk.2 | exact lt63 hj.2); (case itx => assumption); (case its => with_unfolding_all rfl))))
  k_with "subscriptTail Name BinOp ref int" => ((with_reducible show wpAny _ _ (subscriptTail _ _ (Value.ref _) (Value.int _ _)) _ _ _); k_dflt ((refine kba_turn (value' := PySem.Expr.Name (PySem.Str.ofString "_") ⟨0, 0, 0, 0⟩) (fun _ => rfl) ?_); (refine' kim_list ?itN ?itm ?itc ?itd ?itlo ?ithi ?itx ?_ ?its; (case itN => k_asm); (case itm => k_mem); (case itc => assumption); (case itd => assumption); (case itlo => first | exact hk.1 | exact hj.1); (case ithi => first | exact lt63 hk.2 | exact lt63 hj.2); (case itx => assumption); (case its => with_unfolding_all rfl))))
  k_with "subscriptTail Subscript Name Name Constant ref int" => ((with_reducible show wpAny _ _ (subscriptTail _ _ (Value.ref _) (Value.int _ _)) _ _ _); k_dflt ((refine kba_turn (value' := PySem.Expr.Name (PySem.Str.ofString "_") ⟨0, 0, 0, 0⟩) (fun _ => rfl) ?_); (refine' kim_list ?itN ?itm ?itc ?itd ?itlo ?ithi ?itx ?_ ?its; (case itN => k_asm); (case itm => k_mem); (case itc => assumption); (case itd => assumption); (case itlo => first | exact hk.1 | exact hj.1); (case ithi => first | exact lt63 hk.2 | exact lt63 hj.2); (case itx => assumption); (case its => with_unfolding_all rfl))))
  k_with "subscriptTail Subscript Name Constant Constant ref int" => ((with_reducible show wpAny _ _ (subscriptTail _ _ (Value.ref _) (Value.int _ _)) _ _ _); k_dflt ((refine kba_turn (value' := PySem.Expr.Name (PySem.Str.ofString "_") ⟨0, 0, 0, 0⟩) (fun _ => rfl) ?_); (refine' kim_list ?itN ?itm ?itc ?itd ?itlo ?ithi ?itx ?_ ?its; (case itN => k_asm); (case itm => k_mem); (case itc => assumption); (case itd => assumption); (case itlo => first | exact hk.1 | exact hj.1); (case ithi => first | exact lt63 hk.2 | exact lt63 hj.2); (case itx => assumption); (case its => with_unfolding_all rfl))))
  k_with "subscriptTail Subscript Name Name Name ref int" => ((with_reducible show wpAny _ _ (subscriptTail _ _ (Value.ref _) (Value.int _ _)) _ _ _); k_dflt ((refine kba_turn (value' := PySem.Expr.Name (PySem.Str.ofString "_") ⟨0, 0, 0, 0⟩) (fun _ => rfl) ?_); (refine' kim_list ?itN ?itm ?itc ?itd ?itlo ?ithi ?itx ?_ ?its; (case itN => k_asm); (case itm => k_mem); (case itc => assumption); (case itd => assumption); (case itlo => first | exact hk.1 | exact hj.1); (case ithi => first | exact lt63 hk.2 | exact lt63 hj.2); (case itx => assumption); (case its => with_unfolding_all rfl))))
  k_with "subscriptTail Subscript Name Name BinOp ref int" => ((with_reducible show wpAny _ _ (subscriptTail _ _ (Value.ref _) (Value.int _ _)) _ _ _); k_dflt ((refine kba_turn (value' := PySem.Expr.Name (PySem.Str.ofString "_") ⟨0, 0, 0, 0⟩) (fun _ => rfl) ?_); (refine' kim_list ?itN ?itm ?itc ?itd ?itlo ?ithi ?itx ?_ ?its; (case itN => k_asm); (case itm => k_mem); (case itc => assumption); (case itd => assumption); (case itlo => first | exact hk.1 | exact hj.1); (case ithi => first | exact lt63 hk.2 | exact lt63 hj.2); (case itx => assumption); (case its => with_unfolding_all rfl))))
  k_with "subscriptTail Subscript Name Constant Name ref int" => ((with_reducible show wpAny _ _ (subscriptTail _ _ (Value.ref _) (Value.int _ _)) _ _ _); k_dflt ((refine kba_turn (value' := PySem.Expr.Name (PySem.Str.ofString "_") ⟨0, 0, 0, 0⟩) (fun _ => rfl) ?_); (refine' kim_list ?itN ?itm ?itc ?itd ?itlo ?ithi ?itx ?_ ?its; (case itN => k_asm); (case itm => k_mem); (case itc => assumption); (case itd => assumption); (case itlo => first | exact hk.1 | exact hj.1); (case ithi => first | exact lt63 hk.2 | exact lt63 hj.2); (case itx => assumption); (case its => with_unfolding_all rfl))))
  k_with "binaryOp Mult int int" => (k_dflt (with_reducible refine mul_rw (by with_reducible assumption) ?_))
  k_steps
  all_goals first | k_data | ((rename Fr _ _ _ _ => lF'); (rename News _ _ _ _ => lN'); exact hret _ _ _ lF' lN')
end
end Mine
namespace Mine
def stepRow : Expr × Scope := match (defAt 14).1 with
  | .Return (some (.ListComp e _ s1 _)) _ :: _ => (e, s1)
  | _ => (.Name (Str.ofString "_") ⟨0, 0, 0, 0⟩, ⟨.function, [], false, false, []⟩)
theorem endc_plain {s : Shared} {h₀ : Heap} {L : Addr} {m : Str → Option Value} {K I C D : Addr} {oK oI oC oD : Obj} {news' : List (Addr × Obj)} {rest : Value → List (Addr × Obj) → Prop} {y : Value} {h' : Heap} {tk : Nat} (F : Fr h₀ L h' m) (N : News h₀ L h' ((K, oK) :: (I, oI) :: (C, oC) :: (D, oD) :: news'))
    (off : ∀ p ∈ news', p.1 ≠ K ∧ p.1 ≠ I ∧ p.1 ≠ C ∧ p.1 ≠ D) (r : rest y news') : EndC h₀ L m s [(K, oK), (I, oI), (C, oC), (D, oD)] rest y { s with heap := h', toks := tk } :=
  ⟨h', tk, news', rfl, F, N, fun p hp q hq => by
    have := off p hp
    simp only [List.mem_cons, List.not_mem_nil, or_false] at hq
    rcases hq with rfl | rfl | rfl | rfl
    · exact this.1
    · exact this.2.1
    · exact this.2.2.1
    · exact this.2.2.2, r⟩
section
variable {w : World} {p : Program} {loose : List Str} {mean : ExcName → Option Value} {mg mb : Str → Option Value} {dp un : Nat} {gd : Option (List Code)} {a : Addr} {ccd : Value} {cl : List (Str × Addr)} {outer : List Env} {A₀ : Around} {base h₀ : Heap} {L : Addr} {m : Str → Option Value} {news : List (Addr × Obj)} {s : Shared} {Q E : Value → Shared → Prop}
set_option maxRecDepth 100000 in
set_option maxHeartbeats 8000000 in
theorem step_row {e : Expr} {sc s1 : Scope} {K co cw C1 aO aW R0 R1 R2 : Addr} {oK oo ow oO oW o0 o1 o2 : Obj} {l0 l1 l2 : List Value} {kO kW k0 k1 k2 : Nat} {j x0 x1 x2 y0 y1 y2 : Int} {tj tx0 tx1 tx2 ty0 ty1 ty2 : Tok}
    (he : e = stepRow.1) (h1 : s1 = stepRow.2) (hsc : sc = (defAt 14).2)
    (B : Below A₀ base outer h₀) (F : Fr h₀ L s.heap m) (X : (hd.heap_39 w.params).In h₀) (N : News h₀ L s.heap news) (T : Top p loose mean mg mb h₀)
    (mK : (K, oK) ∈ news) (dK : oK.data = .cell (some (.int j tj)))
    (mo : (co, oo) ∈ news) (do9 : oo.data = .cell (some (.ref aO))) (mw : (cw, ow) ∈ news) (dw : ow.data = .cell (some (.ref aW)))
    (mO : (aO, oO) ∈ news) (mW : (aW, oW) ∈ news) (m0 : (R0, o0) ∈ news) (m1 : (R1, o1) ∈ news) (m2 : (R2, o2) ∈ news)
    (cO : oO.cls = .type "list") (dO : oO.data = .seq [.int x0 tx0, .int x1 tx1, .int x2 tx2].toArray kO) (cW : oW.cls = .type "list") (dW : oW.data = .seq [.ref R0, .ref R1, .ref R2].toArray kW)
    (c0 : o0.cls = .type "list") (d0 : o0.data = .seq l0.toArray k0) (c1 : o1.cls = .type "list") (d1 : o1.data = .seq l1.toArray k1) (c2 : o2.cls = .type "list") (d2 : o2.data = .seq l2.toArray k2)
    (hj : 0 ≤ j ∧ j ≤ 2) (v0 : l0[j.toNat]? = some (.int y0 ty0)) (v1 : l1[j.toNat]? = some (.int y1 ty1)) (v2 : l2[j.toNat]? = some (.int y2 ty2)) (b0 : Big y0) (b1 : Big y1) (b2 : Big y2)
    (hd : dp + 20 < recursionLimit) (hu : un + 200 < cLine)
    (hret : ∀ h' tk' v, Fr h₀ L h' m → News h₀ L h' news → Q (.int (x0 * y0 + (x1 * y1 + (x2 * y2 + 0))) v) { s with heap := h', toks := tk' }) :
    wpAny (model PySem.Challenge.rw_hg0003_01.row.prog w) (ktrTop dp un gd (Str.ofString "_law_step") sc L a ccd cl outer) (eval e (compEnvC s1 [(Str.ofString "other", K), (Str.ofString "ways", cw), (Str.ofString "often", co)] C1 (envX (Str.ofString "_law_step") sc L a ccd cl))) Q E s := by
  conv at he => rhs; whnf
  conv at h1 => rhs; whnf
  conv at hsc => rhs; whnf
  subst he h1 hsc
  revert X; k_fill; intro X
  w_top off
  k_with_none
  k_with "execs nil" => ((with_reducible refine gen_toks ?_); intro tk9; refine wpAny_execs_nil ?_; dsimp only)
  k_with "eval BinOp Subscript Mult Subscript" => ((rename Fr _ _ _ _ => lF'); (rename News _ _ _ _ => lN'); k_dflt (first | (refine' step_elt  rfl rfl rfl rfl ?k1 lF' ?k3 lN' ?k5 ?mC ?hC ?hx ?mK dK ?mo do9 ?mw dw ?mO ?mW ?mA cO dO cW dW c0 d0 ?hk hj ?vO ?vW v0 b0 (room9 hd (Nat.le_of_ble_eq_true rfl)) (room9 hu (Nat.le_of_ble_eq_true rfl)) ?_; (case mC => k_mem); (case hC => assumption); (case hx => assumption); (case hk => exact ⟨by decide, by decide⟩); (case vO => rfl); (case vW => rfl); (case k1 => k_asm); (case k3 => k_asm); (case k5 => k_asm); (case mK => k_mem); (case mo => k_mem); (case mw => k_mem); (case mO => k_mem); (case mW => k_mem); (case mA => k_mem)) | (refine' step_elt  rfl rfl rfl rfl ?k1 lF' ?k3 lN' ?k5 ?mC ?hC ?hx ?mK dK ?mo do9 ?mw dw ?mO ?mW ?mA cO dO cW dW c1 d1 ?hk hj ?vO ?vW v1 b1 (room9 hd (Nat.le_of_ble_eq_true rfl)) (room9 hu (Nat.le_of_ble_eq_true rfl)) ?_; (case mC => k_mem); (case hC => assumption); (case hx => assumption); (case hk => exact ⟨by decide, by decide⟩); (case vO => rfl); (case vW => rfl); (case k1 => k_asm); (case k3 => k_asm); (case k5 => k_asm); (case mK => k_mem); (case mo => k_mem); (case mw => k_mem); (case mO => k_mem); (case mW => k_mem); (case mA => k_mem)) | (refine' step_elt  rfl rfl rfl rfl ?k1 lF' ?k3 lN' ?k5 ?mC ?hC ?hx ?mK dK ?mo do9 ?mw dw ?mO ?mW ?mA cO dO cW dW c2 d2 ?hk hj ?vO ?vW v2 b2 (room9 hd (Nat.le_of_ble_eq_true rfl)) (room9 hu (Nat.le_of_ble_eq_true rfl)) ?_; (case mC => k_mem); (case hC => assumption); (case hx => assumption); (case hk => exact ⟨by decide, by decide⟩); (case vO => rfl); (case vW => rfl); (case k1 => k_asm); (case k3 => k_asm); (case k5 => k_asm); (case mK => k_mem); (case mo => k_mem); (case mw => k_mem); (case mO => k_mem); (case mW => k_mem); (case mA => k_mem))); clear lF' lN'; intro h5 tk5 v5 F5 N5; (try dsimp only))
  k_with "CompSrc" => (k_here; k_dflt (refine LCg.CompSrc.range (by rfl) (by k_asm) (by k_asm) (by assumption) (by first | decide | rfl) (by first | rfl | decide) (by first | size_fits | exact Nat.le_of_ble_eq_true rfl) ?_; intro g'; lcg_lit))
  k_with "FinE cons" => ((unfold LCg.FinE); intro D8 h8 tk8 F8 N8 o8; (try simp only [List.nil_append, List.cons_append] at N8); (try dsimp only))
  k_with "FinE" => ((unfold LCg.FinE); intro D8 h8 tk8 F8 N8 o8; (try simp only [List.nil_append, List.cons_append] at N8); (try dsimp only))
  k_with "CompEnd ref" => (k_dflt (refine cend_same (by with_reducible assumption) (by with_reducible assumption) ?ceo trivial ?_; (case ceo => first | (with_reducible assumption) | (simp only [LCg.Off3, and_true]; with_reducible assumption))))
  k_with "CompEnd" => (k_dflt (refine cend_same (by with_reducible assumption) (by with_reducible assumption) ?ceo trivial ?_; (case ceo => first | (with_reducible assumption) | (simp only [LCg.Off3, and_true]; with_reducible assumption))))
  k_with "CompEnd none" => (k_dflt (refine cend_same (by with_reducible assumption) (by with_reducible assumption) ?ceo trivial ?_; (case ceo => first | (with_reducible assumption) | (simp only [LCg.Off3, and_true]; with_reducible assumption))))
  k_with "CompEnd int" => (k_dflt (refine cend_same (by with_reducible assumption) (by with_reducible assumption) ?ceo trivial ?_; (case ceo => first | (with_reducible assumption) | (simp only [LCg.Off3, and_true]; with_reducible assumption))))
  k_steps
  all_goals first | k_data | ((rename Fr _ _ _ _ => lF'); (rename News _ _ _ _ => lN'); exact hret _ _ _ lF' (kti_tail lN'))
end
end Mine
namespace Mine
section
variable {w : World} {p : Program} {loose : List Str} {mean : ExcName → Option Value} {mg mb : Str → Option Value} {dp un : Nat} {gd : Option (List Code)} {cn : Str} {csn : List (Str × NameKind)} {csg csc : Bool} {csm : List (Str × Const)} {a : Addr} {ccd : Value} {cl : List (Str × Addr)} {outer : List Env} {A₀ : Around} {base h₀ : Heap} {L : Addr} {m : Str → Option Value} {news : List (Addr × Obj)} {s : Shared} {Q E : Value → Shared → Prop}
set_option maxRecDepth 100000 in
set_option maxHeartbeats 8000000 in
theorem step_ok {aO aW R0 R1 R2 : Addr} {x0 x1 x2 w00 w01 w02 w10 w11 w12 w20 w21 w22 : Int} {t0 t1 t2 r00 r01 r02 r10 r11 r12 r20 r21 r22 : Tok} {kO kW k0 k1 k2 : Nat}
    (B : Below A₀ base outer h₀) (F : Fr h₀ L s.heap m) (X : (hd.heap_39 w.params).In h₀) (N : News h₀ L s.heap news) (T : Top p loose mean mg mb h₀)
    (mO : (aO, W.listOf #[.int x0 t0, .int x1 t1, .int x2 t2] kO) ∈ news) (mW : (aW, W.listOf #[.ref R0, .ref R1, .ref R2] kW) ∈ news)
    (mr0 : (R0, W.listOf #[.int w00 r00, .int w01 r01, .int w02 r02] k0) ∈ news)
    (mr1 : (R1, W.listOf #[.int w10 r10, .int w11 r11, .int w12 r12] k1) ∈ news)
    (mr2 : (R2, W.listOf #[.int w20 r20, .int w21 r21, .int w22 r22] k2) ∈ news)
    (b00 : Big w00) (b01 : Big w01) (b02 : Big w02) (b10 : Big w10) (b11 : Big w11) (b12 : Big w12) (b20 : Big w20) (b21 : Big w21) (b22 : Big w22)
    (hd : dp + 60 < recursionLimit) (hu : un + 600 < cLine)
    (hret : ∀ D h' tk' y0 y1 y2 v0 v1 v2, y0 = x0 * w00 + x1 * w10 + x2 * w20 → y1 = x0 * w01 + x1 * w11 + x2 * w21 → y2 = x0 * w02 + x1 * w12 + x2 * w22 → Fr h₀ L h' m → News h₀ L h' ((D, LCg.lst [.int y0 v0, .int y1 v1, .int y2 v2]) :: news) → (∀ p ∈ news, p.1 ≠ D) → Q (.ref D) { s with heap := h', toks := tk' }) :
    wpAny (model PySem.Challenge.rw_hg0003_01.row.prog w) (ktrTop dp un gd cn ⟨.function, csn, csg, csc, csm⟩ L a ccd cl outer) (call (.ref 85) [.ref aO, .ref aW]) Q E s := by
  revert X; k_fill; intro X
  w_top off
  k_with_none
  k_with "execs nil" => ((with_reducible refine gen_toks ?_); intro tk9; refine wpAny_execs_nil ?_; dsimp only)
  k_with "subscriptTail Name Constant ref int" => ((with_reducible show wpAny _ _ (subscriptTail _ _ (Value.ref _) (Value.int _ _)) _ _ _); k_dflt ((refine kba_turn (value' := PySem.Expr.Name (PySem.Str.ofString "_") ⟨0, 0, 0, 0⟩) (fun _ => rfl) ?_); first | (refine' kim_tup ?itN ?itm ?itc ?itd ?itlo ?ithi ?itj ?itx ?_ ?its; (case itN => k_asm); (case itm => k_mem); (case itc => exact rfl); (case itd => exact rfl); (case itlo => decide); (case ithi => decide); (case itj => exact rfl); (case itx => exact rfl); (case its => with_unfolding_all rfl)) | (refine' kim_list ?itN ?itm ?itc ?itd ?itlo ?ithi ?itx ?_ ?its; (case itN => k_asm); (case itm => k_mem); (case itc => exact rfl); (case itd => exact rfl); (case itlo => decide); (case ithi => decide); (case itx => exact rfl); (case its => with_unfolding_all rfl))))
  k_with "subscriptTail" => ((with_reducible show wpAny _ _ (subscriptTail _ _ (Value.ref _) (Value.int _ _)) _ _ _); k_dflt ((refine kba_turn (value' := PySem.Expr.Name (PySem.Str.ofString "_") ⟨0, 0, 0, 0⟩) (fun _ => rfl) ?_); first | (refine' kim_tup ?itN ?itm ?itc ?itd ?itlo ?ithi ?itj ?itx ?_ ?its; (case itN => k_asm); (case itm => k_mem); (case itc => exact rfl); (case itd => exact rfl); (case itlo => decide); (case ithi => decide); (case itj => exact rfl); (case itx => exact rfl); (case its => with_unfolding_all rfl)) | (refine' kim_list ?itN ?itm ?itc ?itd ?itlo ?ithi ?itx ?_ ?its; (case itN => k_asm); (case itm => k_mem); (case itc => exact rfl); (case itd => exact rfl); (case itlo => decide); (case ithi => decide); (case itx => exact rfl); (case its => with_unfolding_all rfl))))
  k_with "subscriptTail Name Name ref int" => ((with_reducible show wpAny _ _ (subscriptTail _ _ (Value.ref _) (Value.int _ _)) _ _ _); k_dflt ((refine kba_turn (value' := PySem.Expr.Name (PySem.Str.ofString "_") ⟨0, 0, 0, 0⟩) (fun _ => rfl) ?_); first | (refine' kim_tup ?itN ?itm ?itc ?itd ?itlo ?ithi ?itj ?itx ?_ ?its; (case itN => k_asm); (case itm => k_mem); (case itc => exact rfl); (case itd => exact rfl); (case itlo => decide); (case ithi => decide); (case itj => exact rfl); (case itx => exact rfl); (case its => with_unfolding_all rfl)) | (refine' kim_list ?itN ?itm ?itc ?itd ?itlo ?ithi ?itx ?_ ?its; (case itN => k_asm); (case itm => k_mem); (case itc => exact rfl); (case itd => exact rfl); (case itlo => decide); (case ithi => decide); (case itx => exact rfl); (case its => with_unfolding_all rfl))))
  k_with "subscriptTail Name BinOp ref int" => ((with_reducible show wpAny _ _ (subscriptTail _ _ (Value.ref _) (Value.int _ _)) _ _ _); k_dflt ((refine kba_turn (value' := PySem.Expr.Name (PySem.Str.ofString "_") ⟨0, 0, 0, 0⟩) (fun _ => rfl) ?_); first | (refine' kim_tup ?itN ?itm ?itc ?itd ?itlo ?ithi ?itj ?itx ?_ ?its; (case itN => k_asm); (case itm => k_mem); (case itc => exact rfl); (case itd => exact rfl); (case itlo => decide); (case ithi => decide); (case itj => exact rfl); (case itx => exact rfl); (case its => with_unfolding_all rfl)) | (refine' kim_list ?itN ?itm ?itc ?itd ?itlo ?ithi ?itx ?_ ?its; (case itN => k_asm); (case itm => k_mem); (case itc => exact rfl); (case itd => exact rfl); (case itlo => decide); (case ithi => decide); (case itx => exact rfl); (case its => with_unfolding_all rfl))))
  k_with "subscriptTail Subscript Name Name Constant ref int" => ((with_reducible show wpAny _ _ (subscriptTail _ _ (Value.ref _) (Value.int _ _)) _ _ _); k_dflt ((refine kba_turn (value' := PySem.Expr.Name (PySem.Str.ofString "_") ⟨0, 0, 0, 0⟩) (fun _ => rfl) ?_); first | (refine' kim_tup ?itN ?itm ?itc ?itd ?itlo ?ithi ?itj ?itx ?_ ?its; (case itN => k_asm); (case itm => k_mem); (case itc => exact rfl); (case itd => exact rfl); (case itlo => decide); (case ithi => decide); (case itj => exact rfl); (case itx => exact rfl); (case its => with_unfolding_all rfl)) | (refine' kim_list ?itN ?itm ?itc ?itd ?itlo ?ithi ?itx ?_ ?its; (case itN => k_asm); (case itm => k_mem); (case itc => exact rfl); (case itd => exact rfl); (case itlo => decide); (case ithi => decide); (case itx => exact rfl); (case its => with_unfolding_all rfl))))
  k_with "subscriptTail Subscript Name Constant Constant ref int" => ((with_reducible show wpAny _ _ (subscriptTail _ _ (Value.ref _) (Value.int _ _)) _ _ _); k_dflt ((refine kba_turn (value' := PySem.Expr.Name (PySem.Str.ofString "_") ⟨0, 0, 0, 0⟩) (fun _ => rfl) ?_); first | (refine' kim_tup ?itN ?itm ?itc ?itd ?itlo ?ithi ?itj ?itx ?_ ?its; (case itN => k_asm); (case itm => k_mem); (case itc => exact rfl); (case itd => exact rfl); (case itlo => decide); (case ithi => decide); (case itj => exact rfl); (case itx => exact rfl); (case its => with_unfolding_all rfl)) | (refine' kim_list ?itN ?itm ?itc ?itd ?itlo ?ithi ?itx ?_ ?its; (case itN => k_asm); (case itm => k_mem); (case itc => exact rfl); (case itd => exact rfl); (case itlo => decide); (case ithi => decide); (case itx => exact rfl); (case its => with_unfolding_all rfl))))
  k_with "subscriptTail Subscript Name Name Name ref int" => ((with_reducible show wpAny _ _ (subscriptTail _ _ (Value.ref _) (Value.int _ _)) _ _ _); k_dflt ((refine kba_turn (value' := PySem.Expr.Name (PySem.Str.ofString "_") ⟨0, 0, 0, 0⟩) (fun _ => rfl) ?_); first | (refine' kim_tup ?itN ?itm ?itc ?itd ?itlo ?ithi ?itj ?itx ?_ ?its; (case itN => k_asm); (case itm => k_mem); (case itc => exact rfl); (case itd => exact rfl); (case itlo => decide); (case ithi => decide); (case itj => exact rfl); (case itx => exact rfl); (case its => with_unfolding_all rfl)) | (refine' kim_list ?itN ?itm ?itc ?itd ?itlo ?ithi ?itx ?_ ?its; (case itN => k_asm); (case itm => k_mem); (case itc => exact rfl); (case itd => exact rfl); (case itlo => decide); (case ithi => decide); (case itx => exact rfl); (case its => with_unfolding_all rfl))))
  k_with "subscriptTail Subscript Name Name BinOp ref int" => ((with_reducible show wpAny _ _ (subscriptTail _ _ (Value.ref _) (Value.int _ _)) _ _ _); k_dflt ((refine kba_turn (value' := PySem.Expr.Name (PySem.Str.ofString "_") ⟨0, 0, 0, 0⟩) (fun _ => rfl) ?_); first | (refine' kim_tup ?itN ?itm ?itc ?itd ?itlo ?ithi ?itj ?itx ?_ ?its; (case itN => k_asm); (case itm => k_mem); (case itc => exact rfl); (case itd => exact rfl); (case itlo => decide); (case ithi => decide); (case itj => exact rfl); (case itx => exact rfl); (case its => with_unfolding_all rfl)) | (refine' kim_list ?itN ?itm ?itc ?itd ?itlo ?ithi ?itx ?_ ?its; (case itN => k_asm); (case itm => k_mem); (case itc => exact rfl); (case itd => exact rfl); (case itlo => decide); (case ithi => decide); (case itx => exact rfl); (case its => with_unfolding_all rfl))))
  k_with "subscriptTail Subscript Name Constant Name ref int" => ((with_reducible show wpAny _ _ (subscriptTail _ _ (Value.ref _) (Value.int _ _)) _ _ _); k_dflt ((refine kba_turn (value' := PySem.Expr.Name (PySem.Str.ofString "_") ⟨0, 0, 0, 0⟩) (fun _ => rfl) ?_); first | (refine' kim_tup ?itN ?itm ?itc ?itd ?itlo ?ithi ?itj ?itx ?_ ?its; (case itN => k_asm); (case itm => k_mem); (case itc => exact rfl); (case itd => exact rfl); (case itlo => decide); (case ithi => decide); (case itj => exact rfl); (case itx => exact rfl); (case its => with_unfolding_all rfl)) | (refine' kim_list ?itN ?itm ?itc ?itd ?itlo ?ithi ?itx ?_ ?its; (case itN => k_asm); (case itm => k_mem); (case itc => exact rfl); (case itd => exact rfl); (case itlo => decide); (case ithi => decide); (case itx => exact rfl); (case its => with_unfolding_all rfl))))
  k_with "callWith ref nil nil" => (k_here; k_dflt (first | (refine' callWith_K ?kq1 ?kq2 ?_; (case kq1 => k_asm); (case kq2 => k_is); k_whole) | (refine' callWith_K0 ?kq1 ?kq2 ?_; (case kq1 => k_in); (case kq2 => k_is); k_whole)))
  k_with "eval ListComp Call cons" => (k_dflt (refine' listComp_C ?lcfr ?lcF ?lcK ?lcQ ?lcN ?lcX ?_ ?lcS; (case lcfr => k_asm); (case lcK => with_unfolding_all rfl); (case lcX => with_unfolding_all rfl); (case lcF => with_unfolding_all rfl); (case lcQ => with_unfolding_all rfl); (case lcN => with_unfolding_all decide); (case lcS => (intro _; with_unfolding_all rfl))))
  k_with "eval ListComp ListComp cons" => (k_dflt (refine' listComp_C ?lcfr ?lcF ?lcK ?lcQ ?lcN ?lcX ?_ ?lcS; (case lcfr => k_asm); (case lcK => with_unfolding_all rfl); (case lcX => with_unfolding_all rfl); (case lcF => with_unfolding_all rfl); (case lcQ => with_unfolding_all rfl); (case lcN => with_unfolding_all decide); (case lcS => (intro _; with_unfolding_all rfl))))
  k_with "SrcC" => (k_dflt (refine SrcC.range (by rfl) (by k_asm) (by k_asm) (by assumption) (by first | decide | rfl) (by first | rfl | decide) (by first | size_fits | exact Nat.le_of_ble_eq_true rfl) ?_; intro g9))
  k_with "RestC" => (k_dflt (first | (refine RestC.succ ?_; intro t9 K9 oK9 I9 oI9 C9 oC9 D9 h9 tk9 E9 dK9 F9 N9 off9; (try dsimp only)) | refine RestC.zero ?_))
  k_with "FinC" => (k_dflt ((unfold FinC); intro D8 h8 tk8 F8 N8 o8; (try simp only [List.nil_append, List.cons_append] at N8); (try dsimp only)))
  k_with "EndC" => (k_dflt (refine endc_drop (by with_reducible assumption) (by with_reducible assumption) (by with_reducible assumption) ?_))
  k_with "eval Call Name cons nil" => ((with_reducible show wpAny _ _ (eval (Expr.Call (Expr.Name (Str.ofString "sum") _) _ _ _) _) _ _ _); (rename Fr _ _ _ _ => lF'); (rename News _ _ _ _ => lN'); k_dflt (refine' step_row rfl rfl rfl ?k1 lF' ?k3 lN' ?k5 ?mK ?dK ?mo ?do9 ?mw ?dw ?mO ?mW ?m0 ?m1 ?m2 ?cO ?dO ?cW ?dW ?c0 ?d0 ?c1 ?d1 ?c2 ?d2 ?hj ?v0 ?v1 ?v2 ?b0 ?b1 ?b2 (roomk hd (Nat.le_of_ble_eq_true rfl)) (roomk hu (Nat.le_of_ble_eq_true rfl)) ?_; (case k1 => k_asm); (case k3 => k_asm); (case k5 => k_asm); (case mK => exact List.mem_cons_self); (case dK => assumption); (case mo => k_mem); (case do9 => (refine' Eq.trans ?e1 ?e2; (case e1 => assumption); (case e2 => rfl))); (case mw => k_mem); (case dw => (refine' Eq.trans ?e1 ?e2; (case e1 => assumption); (case e2 => rfl))); (case mO => k_mem); (case cO => rfl); (case dO => rfl); (case mW => k_mem); (case cW => rfl); (case dW => rfl); (case m0 => k_mem); (case c0 => rfl); (case d0 => rfl); (case m1 => k_mem); (case c1 => rfl); (case d1 => rfl); (case m2 => k_mem); (case c2 => rfl); (case d2 => rfl); (case hj => exact ⟨by decide, by decide⟩); (case v0 => rfl); (case v1 => rfl); (case v2 => rfl); (case b0 => assumption); (case b1 => assumption); (case b2 => assumption)); clear lF' lN'; intro h5 tk5 v5 F5 N5; (try dsimp only))
  k_with "eval ListComp IfExp cons" => ((with_reducible show wpAny _ _ (eval (Expr.Call (Expr.Name (Str.ofString "sum") _) _ _ _) _) _ _ _); (rename Fr _ _ _ _ => lF'); (rename News _ _ _ _ => lN'); k_dflt (refine' step_row rfl rfl rfl ?k1 lF' ?k3 lN' ?k5 ?mK ?dK ?mo ?do9 ?mw ?dw ?mO ?mW ?m0 ?m1 ?m2 ?cO ?dO ?cW ?dW ?c0 ?d0 ?c1 ?d1 ?c2 ?d2 ?hj ?v0 ?v1 ?v2 ?b0 ?b1 ?b2 (roomk hd (Nat.le_of_ble_eq_true rfl)) (roomk hu (Nat.le_of_ble_eq_true rfl)) ?_; (case k1 => k_asm); (case k3 => k_asm); (case k5 => k_asm); (case mK => exact List.mem_cons_self); (case dK => assumption); (case mo => k_mem); (case do9 => (refine' Eq.trans ?e1 ?e2; (case e1 => assumption); (case e2 => rfl))); (case mw => k_mem); (case dw => (refine' Eq.trans ?e1 ?e2; (case e1 => assumption); (case e2 => rfl))); (case mO => k_mem); (case cO => rfl); (case dO => rfl); (case mW => k_mem); (case cW => rfl); (case dW => rfl); (case m0 => k_mem); (case c0 => rfl); (case d0 => rfl); (case m1 => k_mem); (case c1 => rfl); (case d1 => rfl); (case m2 => k_mem); (case c2 => rfl); (case d2 => rfl); (case hj => exact ⟨by decide, by decide⟩); (case v0 => rfl); (case v1 => rfl); (case v2 => rfl); (case b0 => assumption); (case b1 => assumption); (case b2 => assumption)); clear lF' lN'; intro h5 tk5 v5 F5 N5; (try dsimp only))
  k_with "eval ListComp Subscript cons" => ((with_reducible show wpAny _ _ (eval (Expr.Call (Expr.Name (Str.ofString "sum") _) _ _ _) _) _ _ _); (rename Fr _ _ _ _ => lF'); (rename News _ _ _ _ => lN'); k_dflt (refine' step_row rfl rfl rfl ?k1 lF' ?k3 lN' ?k5 ?mK ?dK ?mo ?do9 ?mw ?dw ?mO ?mW ?m0 ?m1 ?m2 ?cO ?dO ?cW ?dW ?c0 ?d0 ?c1 ?d1 ?c2 ?d2 ?hj ?v0 ?v1 ?v2 ?b0 ?b1 ?b2 (roomk hd (Nat.le_of_ble_eq_true rfl)) (roomk hu (Nat.le_of_ble_eq_true rfl)) ?_; (case k1 => k_asm); (case k3 => k_asm); (case k5 => k_asm); (case mK => exact List.mem_cons_self); (case dK => assumption); (case mo => k_mem); (case do9 => (refine' Eq.trans ?e1 ?e2; (case e1 => assumption); (case e2 => rfl))); (case mw => k_mem); (case dw => (refine' Eq.trans ?e1 ?e2; (case e1 => assumption); (case e2 => rfl))); (case mO => k_mem); (case cO => rfl); (case dO => rfl); (case mW => k_mem); (case cW => rfl); (case dW => rfl); (case m0 => k_mem); (case c0 => rfl); (case d0 => rfl); (case m1 => k_mem); (case c1 => rfl); (case d1 => rfl); (case m2 => k_mem); (case c2 => rfl); (case d2 => rfl); (case hj => exact ⟨by decide, by decide⟩); (case v0 => rfl); (case v1 => rfl); (case v2 => rfl); (case b0 => assumption); (case b1 => assumption); (case b2 => assumption)); clear lF' lN'; intro h5 tk5 v5 F5 N5; (try dsimp only))
  k_with "EndC" => (k_dflt (refine endc_plain (by with_reducible assumption) (by with_reducible assumption) (by with_reducible assumption) ?_))
  k_with "binaryOp Mult int int" => (k_dflt (with_reducible refine mul_rw (by with_reducible assumption) ?_))
  k_with "CompSrc" => (k_here; k_dflt (refine LCg.CompSrc.range (by rfl) (by k_asm) (by k_asm) (by assumption) (by first | decide | rfl) (by first | rfl | decide) (by first | size_fits | exact Nat.le_of_ble_eq_true rfl) ?_; intro g'; lcg_lit))
  k_with "ite" => (with_reducible refine ite_self ?_)
  k_with "FinE cons" => ((unfold LCg.FinE); intro D8 h8 tk8 F8 N8 o8; (try simp only [List.nil_append, List.cons_append] at N8); (try dsimp only))
  k_with "FinE" => ((unfold LCg.FinE); intro D8 h8 tk8 F8 N8 o8; (try simp only [List.nil_append, List.cons_append] at N8); (try dsimp only))
  k_with "CompEnd ref" => (k_dflt (first | (refine cend_new (by with_reducible assumption) (by with_reducible assumption) (by with_reducible assumption) ?ceo trivial ?_; (case ceo => (simp only [LCg.Off3, and_true]; with_reducible assumption))) | (refine cend_same (by with_reducible assumption) (by with_reducible assumption) ?ceo trivial ?_; (case ceo => (simp only [LCg.Off3, and_true]; with_reducible assumption)))))
  k_with "CompEnd" => (k_dflt (first | (refine cend_new (by with_reducible assumption) (by with_reducible assumption) (by with_reducible assumption) ?ceo trivial ?_; (case ceo => (simp only [LCg.Off3, and_true]; with_reducible assumption))) | (refine cend_same (by with_reducible assumption) (by with_reducible assumption) ?ceo trivial ?_; (case ceo => (simp only [LCg.Off3, and_true]; with_reducible assumption)))))
  k_with "CompEnd none" => (k_dflt (first | (refine cend_new (by with_reducible assumption) (by with_reducible assumption) (by with_reducible assumption) ?ceo trivial ?_; (case ceo => (simp only [LCg.Off3, and_true]; with_reducible assumption))) | (refine cend_same (by with_reducible assumption) (by with_reducible assumption) ?ceo trivial ?_; (case ceo => (simp only [LCg.Off3, and_true]; with_reducible assumption)))))
  k_with "CompEnd int" => (k_dflt (first | (refine cend_new (by with_reducible assumption) (by with_reducible assumption) (by with_reducible assumption) ?ceo trivial ?_; (case ceo => (simp only [LCg.Off3, and_true]; with_reducible assumption))) | (refine cend_same (by with_reducible assumption) (by with_reducible assumption) ?ceo trivial ?_; (case ceo => (simp only [LCg.Off3, and_true]; with_reducible assumption)))))
  k_steps
  all_goals first | k_data | (refine' hret _ _ _ _ _ _ _ _ _ ?e1 ?e2 ?e3 ?eF ?eN ?eO; (case eF => assumption); (case eN => exact news_mid (by assumption)); (case eO => exact fun p hp => o8 p (List.mem_cons_of_mem _ (List.mem_cons_of_mem _ hp))); (case e1 => simp only [Int.add_assoc, Int.add_zero]); (case e2 => simp only [Int.add_assoc, Int.add_zero]); (case e3 => simp only [Int.add_assoc, Int.add_zero]))
end
end Mine
namespace Mine
theorem drop_34 {h₀ h : Heap} {L : Addr} {q1 q2 q3 q4 : Addr × Obj} {l : List (Addr × Obj)} (N : News h₀ L h (q1 :: q2 :: q3 :: q4 :: l)) : News h₀ L h (q1 :: q2 :: l) := cb_drop N (List.forall_mem_cons.mpr ⟨List.mem_cons_self, (List.forall_mem_cons.mpr ⟨(List.mem_cons_of_mem _ List.mem_cons_self), (fun _ hq => (List.mem_cons_of_mem _ (List.mem_cons_of_mem _ (List.mem_cons_of_mem _ (List.mem_cons_of_mem _ hq)))))⟩)⟩)
def treesFor : List Stmt := match (defAt 12).1 with
  | _ :: .For _ _ b _ _ :: _ => b
  | _ => []
def othersStmt : Stmt := match treesFor with
  | s :: _ => s
  | _ => .Pass ⟨0, 0, 0, 0⟩
def pairBody : List Stmt := match treesFor with
  | _ :: _ :: .For _ _ b _ _ :: _ => b
  | _ => []
section
variable {w : World} {p : Program} {loose : List Str} {mean : ExcName → Option Value} {mg mb : Str → Option Value} {dp un : Nat} {gd : Option (List Code)} {a : Addr} {ccd : Value} {cl : List (Str × Addr)} {outer : List Env} {A₀ : Around} {base h₀ : Heap} {L : Addr} {m : Str → Option Value} {news : List (Addr × Obj)} {s : Shared} {Q : Flow → Shared → Prop} {E : Value → Shared → Prop}
set_option maxRecDepth 100000 in
set_option maxHeartbeats 8000000 in
theorem pair_ok {sc : Scope} {body : List Stmt} {aW Ra Rb D d : Addr} {oW oA oB od : Obj} {lW lA lB : List Value} {kW kA kB : Nat} {o q f g x y z0 z1 : Int} {to tq tf tg tx ty t0 t1 t2 t3 : Tok} {vf : Value} (hbody : body = pairBody) (hsc : sc = (defAt 12).2)
    (B : Below A₀ base outer h₀) (F : Fr h₀ L s.heap m) (X : (hd.heap_39 w.params).In h₀) (N : News h₀ L s.heap news) (T : Top p loose mean mg mb h₀)
    (h1 : m (Str.ofString "ways") = some (.ref aW)) (h2 : m (Str.ofString "one") = some (.int o to)) (h3 : m (Str.ofString "other") = some (.int q tq)) (h4 : m (Str.ofString "first") = some (.int f tf)) (h5 : m (Str.ofString "second") = some (.int g tg)) (h6 : m (Str.ofString "whole") = some (.ref D)) (h7 : m (Str.ofString "found") = some vf)
    (mW : (aW, oW) ∈ news) (mA : (Ra, oA) ∈ news) (mB : (Rb, oB) ∈ news) (mD : (D, tup [.int z0 t0, .int z1 t1, .int 0 t2, .int 0 t3, .ref d]) ∈ news) (md : (d, od) ∈ news) (hem : Emp PySem.Challenge.rw_hg0003_01.row.prog w d od)
    (cW : oW.cls = .type "list") (dW : oW.data = .seq lW.toArray kW) (cA : oA.cls = .type "list") (dA : oA.data = .seq lA.toArray kA) (cB : oB.cls = .type "list") (dB : oB.data = .seq lB.toArray kB)
    (ho : 0 ≤ o ∧ o ≤ 2) (hq : 0 ≤ q ∧ q ≤ 2) (hf : 0 ≤ f ∧ f ≤ 2) (hg : 0 ≤ g ∧ g ≤ 2)
    (vA : lW[o.toNat]? = some (.ref Ra)) (vB : lW[q.toNat]? = some (.ref Rb)) (vx : lA[f.toNat]? = some (.int x tx)) (vy : lB[g.toNat]? = some (.int y ty)) (by9 : Big y)
    (hd : dp + 70 < recursionLimit) (hu : un + 700 < cLine) (hE : PassesOwn (model PySem.Challenge.rw_hg0003_01.row.prog w) (ktrTop dp un gd (Str.ofString "_law_trees") sc L a ccd cl outer) (envX (Str.ofString "_law_trees") sc L a ccd cl) E)
    (hret : ∀ m' D' Dd od' h' tk' v0 v1 v2 v3, Fr h₀ L h' m' → m' (Str.ofString "ways") = some (.ref aW) → m' (Str.ofString "one") = some (.int o to) → m' (Str.ofString "other") = some (.int q tq) → m' (Str.ofString "whole") = some (.ref D') → m' (Str.ofString "found") = some vf → News h₀ L h' ((D', tup [.int (x * y + z0) v0, .int (1 + z1) v1, .int 0 v2, .int 0 v3, .ref Dd]) :: (Dd, od') :: news) → Emp PySem.Challenge.rw_hg0003_01.row.prog w Dd od' → AllLt D' ((Dd, od') :: news) → AllLt Dd news → Q .next { s with heap := h', toks := tk' }) :
    wpAny (model PySem.Challenge.rw_hg0003_01.row.prog w) (ktrTop dp un gd (Str.ofString "_law_trees") sc L a ccd cl outer) (execs body (envX (Str.ofString "_law_trees") sc L a ccd cl)) Q E s := by
  conv at hbody => rhs; whnf
  conv at hsc => rhs; whnf
  subst hbody hsc
  revert X; k_fill; intro X
  w_top off
  k_with_none
  k_with "execs nil" => ((with_reducible refine gen_toks ?_); intro tk9; refine wpAny_execs_nil ?_; dsimp only)
  have F1 := canon1 (canon1 (canon1 (canon1 (canon1 (canon1 (canon1 F h7) (v := .ref D) ((if_neg (by decide)).trans h6)) (v := .int g tg) ((if_neg (by decide)).trans ((if_neg (by decide)).trans h5))) (v := .int f tf) ((if_neg (by decide)).trans ((if_neg (by decide)).trans ((if_neg (by decide)).trans h4)))) (v := .int q tq) ((if_neg (by decide)).trans ((if_neg (by decide)).trans ((if_neg (by decide)).trans ((if_neg (by decide)).trans h3))))) (v := .int o to) ((if_neg (by decide)).trans ((if_neg (by decide)).trans ((if_neg (by decide)).trans ((if_neg (by decide)).trans ((if_neg (by decide)).trans h2)))))) (v := .ref aW) ((if_neg (by decide)).trans ((if_neg (by decide)).trans ((if_neg (by decide)).trans ((if_neg (by decide)).trans ((if_neg (by decide)).trans ((if_neg (by decide)).trans h1))))))
  clear F
  k_with "subscriptTail Name Constant ref int" => ((with_reducible show wpAny _ _ (subscriptTail _ _ (Value.ref _) (Value.int _ _)) _ _ _); k_dflt ((refine kba_turn (value' := PySem.Expr.Name (PySem.Str.ofString "_") ⟨0, 0, 0, 0⟩) (fun _ => rfl) ?_); (refine' kim_list ?itN ?itm ?itc ?itd ?itlo ?ithi ?itx ?_ ?its; (case itN => k_asm); (case itm => k_mem); (case itc => assumption); (case itd => assumption); (case itlo => omega); (case ithi => omega); (case itx => assumption); (case its => with_unfolding_all rfl))))
  k_with "subscriptTail" => ((with_reducible show wpAny _ _ (subscriptTail _ _ (Value.ref _) (Value.int _ _)) _ _ _); k_dflt ((refine kba_turn (value' := PySem.Expr.Name (PySem.Str.ofString "_") ⟨0, 0, 0, 0⟩) (fun _ => rfl) ?_); (refine' kim_list ?itN ?itm ?itc ?itd ?itlo ?ithi ?itx ?_ ?its; (case itN => k_asm); (case itm => k_mem); (case itc => assumption); (case itd => assumption); (case itlo => omega); (case ithi => omega); (case itx => assumption); (case its => with_unfolding_all rfl))))
  k_with "subscriptTail Name Name ref int" => ((with_reducible show wpAny _ _ (subscriptTail _ _ (Value.ref _) (Value.int _ _)) _ _ _); k_dflt ((refine kba_turn (value' := PySem.Expr.Name (PySem.Str.ofString "_") ⟨0, 0, 0, 0⟩) (fun _ => rfl) ?_); (refine' kim_list ?itN ?itm ?itc ?itd ?itlo ?ithi ?itx ?_ ?its; (case itN => k_asm); (case itm => k_mem); (case itc => assumption); (case itd => assumption); (case itlo => omega); (case ithi => omega); (case itx => assumption); (case its => with_unfolding_all rfl))))
  k_with "subscriptTail Name BinOp ref int" => ((with_reducible show wpAny _ _ (subscriptTail _ _ (Value.ref _) (Value.int _ _)) _ _ _); k_dflt ((refine kba_turn (value' := PySem.Expr.Name (PySem.Str.ofString "_") ⟨0, 0, 0, 0⟩) (fun _ => rfl) ?_); (refine' kim_list ?itN ?itm ?itc ?itd ?itlo ?ithi ?itx ?_ ?its; (case itN => k_asm); (case itm => k_mem); (case itc => assumption); (case itd => assumption); (case itlo => omega); (case ithi => omega); (case itx => assumption); (case its => with_unfolding_all rfl))))
  k_with "subscriptTail Subscript Name Name Constant ref int" => ((with_reducible show wpAny _ _ (subscriptTail _ _ (Value.ref _) (Value.int _ _)) _ _ _); k_dflt ((refine kba_turn (value' := PySem.Expr.Name (PySem.Str.ofString "_") ⟨0, 0, 0, 0⟩) (fun _ => rfl) ?_); (refine' kim_list ?itN ?itm ?itc ?itd ?itlo ?ithi ?itx ?_ ?its; (case itN => k_asm); (case itm => k_mem); (case itc => assumption); (case itd => assumption); (case itlo => omega); (case ithi => omega); (case itx => assumption); (case its => with_unfolding_all rfl))))
  k_with "subscriptTail Subscript Name Constant Constant ref int" => ((with_reducible show wpAny _ _ (subscriptTail _ _ (Value.ref _) (Value.int _ _)) _ _ _); k_dflt ((refine kba_turn (value' := PySem.Expr.Name (PySem.Str.ofString "_") ⟨0, 0, 0, 0⟩) (fun _ => rfl) ?_); (refine' kim_list ?itN ?itm ?itc ?itd ?itlo ?ithi ?itx ?_ ?its; (case itN => k_asm); (case itm => k_mem); (case itc => assumption); (case itd => assumption); (case itlo => omega); (case ithi => omega); (case itx => assumption); (case its => with_unfolding_all rfl))))
  k_with "subscriptTail Subscript Name Name Name ref int" => ((with_reducible show wpAny _ _ (subscriptTail _ _ (Value.ref _) (Value.int _ _)) _ _ _); k_dflt ((refine kba_turn (value' := PySem.Expr.Name (PySem.Str.ofString "_") ⟨0, 0, 0, 0⟩) (fun _ => rfl) ?_); (refine' kim_list ?itN ?itm ?itc ?itd ?itlo ?ithi ?itx ?_ ?its; (case itN => k_asm); (case itm => k_mem); (case itc => assumption); (case itd => assumption); (case itlo => omega); (case ithi => omega); (case itx => assumption); (case its => with_unfolding_all rfl))))
  k_with "subscriptTail Subscript Name Name BinOp ref int" => ((with_reducible show wpAny _ _ (subscriptTail _ _ (Value.ref _) (Value.int _ _)) _ _ _); k_dflt ((refine kba_turn (value' := PySem.Expr.Name (PySem.Str.ofString "_") ⟨0, 0, 0, 0⟩) (fun _ => rfl) ?_); (refine' kim_list ?itN ?itm ?itc ?itd ?itlo ?ithi ?itx ?_ ?its; (case itN => k_asm); (case itm => k_mem); (case itc => assumption); (case itd => assumption); (case itlo => omega); (case ithi => omega); (case itx => assumption); (case its => with_unfolding_all rfl))))
  k_with "subscriptTail Subscript Name Constant Name ref int" => ((with_reducible show wpAny _ _ (subscriptTail _ _ (Value.ref _) (Value.int _ _)) _ _ _); k_dflt ((refine kba_turn (value' := PySem.Expr.Name (PySem.Str.ofString "_") ⟨0, 0, 0, 0⟩) (fun _ => rfl) ?_); (refine' kim_list ?itN ?itm ?itc ?itd ?itlo ?ithi ?itx ?_ ?its; (case itN => k_asm); (case itm => k_mem); (case itc => assumption); (case itd => assumption); (case itlo => omega); (case ithi => omega); (case itx => assumption); (case its => with_unfolding_all rfl))))
  k_with "callWith ref nil nil" => (k_here; k_dflt (first | (refine' callWith_K ?kq1 ?kq2 ?_; (case kq1 => k_asm); (case kq2 => k_is); k_whole) | (refine' callWith_K0 ?kq1 ?kq2 ?_; (case kq1 => k_in); (case kq2 => k_is); k_whole)))
  k_with "call ref cons nil" => ((with_reducible show wpAny _ _ (call (Value.ref 21) _) _ _ _); k_dflt (refine' add_stats_ok ?k1 ?k2 ?k3 ?k4 ?k5 ?m1 ?m2 ?m3 ?m4 ?e1 ?e2 ?ld ?lu ?_; (case k1 => k_asm); (case k2 => k_asm); (case k3 => k_asm); (case k4 => k_asm); (case k5 => k_asm); (case m1 => k_mem); (case m2 => k_mem); (case m3 => k_mem); (case m4 => k_mem); (case e1 => first | assumption | exact ⟨by assumption, by assumption, by assumption⟩); (case e2 => first | exact ⟨by assumption, by assumption, by assumption⟩ | assumption); (case ld => (try dsimp only [Around.deeper]); omega); (case lu => (try dsimp only [Around.deeper]); omega); intro D9 Dd9 od9 h9 tk9 v0 v1 v2 v3 F9 N9 E9 l9 l9b; (simp only [Int.add_zero] at N9); (try dsimp only)))
  k_with "binaryOp Mult int int" => (k_dflt (with_reducible refine mul_rw (by with_reducible assumption) ?_))
  k_steps
  all_goals first | k_data | ((rename Fr _ _ _ _ => lF'); (rename News _ _ _ _ => lN'); refine hret _ _ _ _ _ _ _ _ _ _ lF' rfl rfl rfl rfl rfl (drop_34 lN') E9 ⟨l9.1, l9.2.2.2⟩ l9b.2.2)
end
end Mine
namespace Mine
section
variable {w : World} {p : Program} {loose : List Str} {mean : ExcName → Option Value} {mg mb : Str → Option Value} {dp un : Nat} {gd : Option (List Code)} {a : Addr} {ccd : Value} {outer : List Env} {A₀ : Around} {base h₀ : Heap} {L : Addr} {m : Str → Option Value} {news : List (Addr × Obj)} {s : Shared} {Q : Flow → Shared → Prop} {E : Value → Shared → Prop}
set_option maxRecDepth 100000 in
set_option maxHeartbeats 8000000 in
theorem others_ok {sc : Scope} {st : Stmt} {c aW : Addr} {oc : Obj} {r o q : Int} {tr : Tok} {vf : Value} (hst : st = othersStmt) (hsc : sc = (defAt 12).2)
    (B : Below A₀ base outer h₀) (F : Fr h₀ L s.heap m) (X : (hd.heap_39 w.params).In h₀) (N : News h₀ L s.heap news) (T : Top p loose mean mg mb h₀)
    (h1 : m (Str.ofString "ways") = some (.ref aW)) (h7 : m (Str.ofString "found") = some vf)
    (mC : (c, oc) ∈ news) (dC : oc.data = .cell (some (.int r tr))) (hr : (r = 0 ∧ o = 1 ∧ q = 2) ∨ (r = 1 ∧ o = 0 ∧ q = 2) ∨ (r = 2 ∧ o = 0 ∧ q = 1))
    (hd : dp + 70 < recursionLimit) (hu : un + 700 < cLine) (hE : PassesOwn (model PySem.Challenge.rw_hg0003_01.row.prog w) (ktrTop dp un gd (Str.ofString "_law_trees") sc L a ccd [(Str.ofString "root", c)] outer) (envX (Str.ofString "_law_trees") sc L a ccd [(Str.ofString "root", c)]) E)
    (hret : ∀ m' h' tk' to tq, Fr h₀ L h' m' → m' (Str.ofString "ways") = some (.ref aW) → m' (Str.ofString "found") = some vf → m' (Str.ofString "one") = some (.int o to) → m' (Str.ofString "other") = some (.int q tq) → News h₀ L h' news → Q .next { s with heap := h', toks := tk' }) :
    wpAny (model PySem.Challenge.rw_hg0003_01.row.prog w) (ktrTop dp un gd (Str.ofString "_law_trees") sc L a ccd [(Str.ofString "root", c)] outer) (exec st (envX (Str.ofString "_law_trees") sc L a ccd [(Str.ofString "root", c)])) Q E s := by
  conv at hst => rhs; whnf
  conv at hsc => rhs; whnf
  subst hst hsc
  revert X; k_fill; intro X
  w_top off
  k_with_none
  k_with "execs nil" => ((with_reducible refine gen_toks ?_); intro tk9; refine wpAny_execs_nil ?_; dsimp only)
  have F1 := canon1 (canon1 F h7) (v := .ref aW) ((if_neg (by decide)).trans h1)
  clear F
  rcases hr with ⟨rfl, rfl, rfl⟩ | ⟨rfl, rfl, rfl⟩ | ⟨rfl, rfl, rfl⟩
  k_with "subscriptTail Name Constant ref int" => ((with_reducible show wpAny _ _ (subscriptTail _ _ (Value.ref _) (Value.int _ _)) _ _ _); k_dflt ((refine kba_turn (value' := PySem.Expr.Name (PySem.Str.ofString "_") ⟨0, 0, 0, 0⟩) (fun _ => rfl) ?_); first | (refine' kim_tup ?itN ?itm ?itc ?itd ?itlo ?ithi ?itj ?itx ?_ ?its; (case itN => k_asm); (case itm => k_mem); (case itc => exact rfl); (case itd => exact rfl); (case itlo => decide); (case ithi => decide); (case itj => exact rfl); (case itx => exact rfl); (case its => with_unfolding_all rfl)) | (refine' kim_list ?itN ?itm ?itc ?itd ?itlo ?ithi ?itx ?_ ?its; (case itN => k_asm); (case itm => k_mem); (case itc => exact rfl); (case itd => exact rfl); (case itlo => decide); (case ithi => decide); (case itx => exact rfl); (case its => with_unfolding_all rfl))))
  k_with "subscriptTail" => ((with_reducible show wpAny _ _ (subscriptTail _ _ (Value.ref _) (Value.int _ _)) _ _ _); k_dflt ((refine kba_turn (value' := PySem.Expr.Name (PySem.Str.ofString "_") ⟨0, 0, 0, 0⟩) (fun _ => rfl) ?_); first | (refine' kim_tup ?itN ?itm ?itc ?itd ?itlo ?ithi ?itj ?itx ?_ ?its; (case itN => k_asm); (case itm => k_mem); (case itc => exact rfl); (case itd => exact rfl); (case itlo => decide); (case ithi => decide); (case itj => exact rfl); (case itx => exact rfl); (case its => with_unfolding_all rfl)) | (refine' kim_list ?itN ?itm ?itc ?itd ?itlo ?ithi ?itx ?_ ?its; (case itN => k_asm); (case itm => k_mem); (case itc => exact rfl); (case itd => exact rfl); (case itlo => decide); (case ithi => decide); (case itx => exact rfl); (case its => with_unfolding_all rfl))))
  k_with "subscriptTail Name Name ref int" => ((with_reducible show wpAny _ _ (subscriptTail _ _ (Value.ref _) (Value.int _ _)) _ _ _); k_dflt ((refine kba_turn (value' := PySem.Expr.Name (PySem.Str.ofString "_") ⟨0, 0, 0, 0⟩) (fun _ => rfl) ?_); first | (refine' kim_tup ?itN ?itm ?itc ?itd ?itlo ?ithi ?itj ?itx ?_ ?its; (case itN => k_asm); (case itm => k_mem); (case itc => exact rfl); (case itd => exact rfl); (case itlo => decide); (case ithi => decide); (case itj => exact rfl); (case itx => exact rfl); (case its => with_unfolding_all rfl)) | (refine' kim_list ?itN ?itm ?itc ?itd ?itlo ?ithi ?itx ?_ ?its; (case itN => k_asm); (case itm => k_mem); (case itc => exact rfl); (case itd => exact rfl); (case itlo => decide); (case ithi => decide); (case itx => exact rfl); (case its => with_unfolding_all rfl))))
  k_with "subscriptTail Name BinOp ref int" => ((with_reducible show wpAny _ _ (subscriptTail _ _ (Value.ref _) (Value.int _ _)) _ _ _); k_dflt ((refine kba_turn (value' := PySem.Expr.Name (PySem.Str.ofString "_") ⟨0, 0, 0, 0⟩) (fun _ => rfl) ?_); first | (refine' kim_tup ?itN ?itm ?itc ?itd ?itlo ?ithi ?itj ?itx ?_ ?its; (case itN => k_asm); (case itm => k_mem); (case itc => exact rfl); (case itd => exact rfl); (case itlo => decide); (case ithi => decide); (case itj => exact rfl); (case itx => exact rfl); (case its => with_unfolding_all rfl)) | (refine' kim_list ?itN ?itm ?itc ?itd ?itlo ?ithi ?itx ?_ ?its; (case itN => k_asm); (case itm => k_mem); (case itc => exact rfl); (case itd => exact rfl); (case itlo => decide); (case ithi => decide); (case itx => exact rfl); (case its => with_unfolding_all rfl))))
  k_with "subscriptTail Subscript Name Name Constant ref int" => ((with_reducible show wpAny _ _ (subscriptTail _ _ (Value.ref _) (Value.int _ _)) _ _ _); k_dflt ((refine kba_turn (value' := PySem.Expr.Name (PySem.Str.ofString "_") ⟨0, 0, 0, 0⟩) (fun _ => rfl) ?_); first | (refine' kim_tup ?itN ?itm ?itc ?itd ?itlo ?ithi ?itj ?itx ?_ ?its; (case itN => k_asm); (case itm => k_mem); (case itc => exact rfl); (case itd => exact rfl); (case itlo => decide); (case ithi => decide); (case itj => exact rfl); (case itx => exact rfl); (case its => with_unfolding_all rfl)) | (refine' kim_list ?itN ?itm ?itc ?itd ?itlo ?ithi ?itx ?_ ?its; (case itN => k_asm); (case itm => k_mem); (case itc => exact rfl); (case itd => exact rfl); (case itlo => decide); (case ithi => decide); (case itx => exact rfl); (case its => with_unfolding_all rfl))))
  k_with "subscriptTail Subscript Name Constant Constant ref int" => ((with_reducible show wpAny _ _ (subscriptTail _ _ (Value.ref _) (Value.int _ _)) _ _ _); k_dflt ((refine kba_turn (value' := PySem.Expr.Name (PySem.Str.ofString "_") ⟨0, 0, 0, 0⟩) (fun _ => rfl) ?_); first | (refine' kim_tup ?itN ?itm ?itc ?itd ?itlo ?ithi ?itj ?itx ?_ ?its; (case itN => k_asm); (case itm => k_mem); (case itc => exact rfl); (case itd => exact rfl); (case itlo => decide); (case ithi => decide); (case itj => exact rfl); (case itx => exact rfl); (case its => with_unfolding_all rfl)) | (refine' kim_list ?itN ?itm ?itc ?itd ?itlo ?ithi ?itx ?_ ?its; (case itN => k_asm); (case itm => k_mem); (case itc => exact rfl); (case itd => exact rfl); (case itlo => decide); (case ithi => decide); (case itx => exact rfl); (case its => with_unfolding_all rfl))))
  k_with "subscriptTail Subscript Name Name Name ref int" => ((with_reducible show wpAny _ _ (subscriptTail _ _ (Value.ref _) (Value.int _ _)) _ _ _); k_dflt ((refine kba_turn (value' := PySem.Expr.Name (PySem.Str.ofString "_") ⟨0, 0, 0, 0⟩) (fun _ => rfl) ?_); first | (refine' kim_tup ?itN ?itm ?itc ?itd ?itlo ?ithi ?itj ?itx ?_ ?its; (case itN => k_asm); (case itm => k_mem); (case itc => exact rfl); (case itd => exact rfl); (case itlo => decide); (case ithi => decide); (case itj => exact rfl); (case itx => exact rfl); (case its => with_unfolding_all rfl)) | (refine' kim_list ?itN ?itm ?itc ?itd ?itlo ?ithi ?itx ?_ ?its; (case itN => k_asm); (case itm => k_mem); (case itc => exact rfl); (case itd => exact rfl); (case itlo => decide); (case ithi => decide); (case itx => exact rfl); (case its => with_unfolding_all rfl))))
  k_with "subscriptTail Subscript Name Name BinOp ref int" => ((with_reducible show wpAny _ _ (subscriptTail _ _ (Value.ref _) (Value.int _ _)) _ _ _); k_dflt ((refine kba_turn (value' := PySem.Expr.Name (PySem.Str.ofString "_") ⟨0, 0, 0, 0⟩) (fun _ => rfl) ?_); first | (refine' kim_tup ?itN ?itm ?itc ?itd ?itlo ?ithi ?itj ?itx ?_ ?its; (case itN => k_asm); (case itm => k_mem); (case itc => exact rfl); (case itd => exact rfl); (case itlo => decide); (case ithi => decide); (case itj => exact rfl); (case itx => exact rfl); (case its => with_unfolding_all rfl)) | (refine' kim_list ?itN ?itm ?itc ?itd ?itlo ?ithi ?itx ?_ ?its; (case itN => k_asm); (case itm => k_mem); (case itc => exact rfl); (case itd => exact rfl); (case itlo => decide); (case ithi => decide); (case itx => exact rfl); (case its => with_unfolding_all rfl))))
  k_with "subscriptTail Subscript Name Constant Name ref int" => ((with_reducible show wpAny _ _ (subscriptTail _ _ (Value.ref _) (Value.int _ _)) _ _ _); k_dflt ((refine kba_turn (value' := PySem.Expr.Name (PySem.Str.ofString "_") ⟨0, 0, 0, 0⟩) (fun _ => rfl) ?_); first | (refine' kim_tup ?itN ?itm ?itc ?itd ?itlo ?ithi ?itj ?itx ?_ ?its; (case itN => k_asm); (case itm => k_mem); (case itc => exact rfl); (case itd => exact rfl); (case itlo => decide); (case ithi => decide); (case itj => exact rfl); (case itx => exact rfl); (case its => with_unfolding_all rfl)) | (refine' kim_list ?itN ?itm ?itc ?itd ?itlo ?ithi ?itx ?_ ?its; (case itN => k_asm); (case itm => k_mem); (case itc => exact rfl); (case itd => exact rfl); (case itlo => decide); (case ithi => decide); (case itx => exact rfl); (case its => with_unfolding_all rfl))))
  k_with "callWith ref nil nil" => (k_here; k_dflt (first | (refine' callWith_K ?kq1 ?kq2 ?_; (case kq1 => k_asm); (case kq2 => k_is); k_whole) | (refine' callWith_K0 ?kq1 ?kq2 ?_; (case kq1 => k_in); (case kq2 => k_is); k_whole)))
  k_with "CompSrc" => (k_here; k_dflt (refine LCg.CompSrc.range (by rfl) (by k_asm) (by k_asm) (by assumption) (by first | decide | rfl) (by first | rfl | decide) (by first | size_fits | exact Nat.le_of_ble_eq_true rfl) ?_; intro g'; lcg_lit))
  k_with "ite" => (with_reducible refine ite_self ?_)
  k_with "FinE cons" => ((unfold LCg.FinE); intro D8 h8 tk8 F8 N8 o8; (try simp only [List.nil_append, List.cons_append] at N8); (try dsimp only))
  k_with "FinE" => ((unfold LCg.FinE); intro D8 h8 tk8 F8 N8 o8; (try simp only [List.nil_append, List.cons_append] at N8); (try dsimp only))
  k_with "CompEnd ref" => (k_dflt (first | (refine cend_new (by with_reducible assumption) (by with_reducible assumption) (by with_reducible assumption) ?ceo trivial ?_; (case ceo => first | (with_reducible assumption) | (simp only [LCg.Off3, and_true]; with_reducible assumption))) | (refine cend_same (by with_reducible assumption) (by with_reducible assumption) ?ceo trivial ?_; (case ceo => first | (with_reducible assumption) | (simp only [LCg.Off3, and_true]; with_reducible assumption))) | (refine cend_same (by with_reducible assumption) (by with_reducible assumption) ?ceo ?ceS ?_; (case ceo => first | (with_reducible assumption) | (simp only [LCg.Off3, and_true]; with_reducible assumption)); (case ceS => (refine' Or.inr ⟨_, ?ca, ?cb, _, ?cc⟩; (case ca => k_mem); (case cb => rfl); (case cc => rfl))))))
  k_with "CompEnd" => (k_dflt (first | (refine cend_new (by with_reducible assumption) (by with_reducible assumption) (by with_reducible assumption) ?ceo trivial ?_; (case ceo => first | (with_reducible assumption) | (simp only [LCg.Off3, and_true]; with_reducible assumption))) | (refine cend_same (by with_reducible assumption) (by with_reducible assumption) ?ceo trivial ?_; (case ceo => first | (with_reducible assumption) | (simp only [LCg.Off3, and_true]; with_reducible assumption))) | (refine cend_same (by with_reducible assumption) (by with_reducible assumption) ?ceo ?ceS ?_; (case ceo => first | (with_reducible assumption) | (simp only [LCg.Off3, and_true]; with_reducible assumption)); (case ceS => (refine' Or.inr ⟨_, ?ca, ?cb, _, ?cc⟩; (case ca => k_mem); (case cb => rfl); (case cc => rfl))))))
  k_with "CompEnd none" => (k_dflt (first | (refine cend_new (by with_reducible assumption) (by with_reducible assumption) (by with_reducible assumption) ?ceo trivial ?_; (case ceo => first | (with_reducible assumption) | (simp only [LCg.Off3, and_true]; with_reducible assumption))) | (refine cend_same (by with_reducible assumption) (by with_reducible assumption) ?ceo trivial ?_; (case ceo => first | (with_reducible assumption) | (simp only [LCg.Off3, and_true]; with_reducible assumption))) | (refine cend_same (by with_reducible assumption) (by with_reducible assumption) ?ceo ?ceS ?_; (case ceo => first | (with_reducible assumption) | (simp only [LCg.Off3, and_true]; with_reducible assumption)); (case ceS => (refine' Or.inr ⟨_, ?ca, ?cb, _, ?cc⟩; (case ca => k_mem); (case cb => rfl); (case cc => rfl))))))
  k_with "CompEnd int" => (k_dflt (first | (refine cend_new (by with_reducible assumption) (by with_reducible assumption) (by with_reducible assumption) ?ceo trivial ?_; (case ceo => first | (with_reducible assumption) | (simp only [LCg.Off3, and_true]; with_reducible assumption))) | (refine cend_same (by with_reducible assumption) (by with_reducible assumption) ?ceo trivial ?_; (case ceo => first | (with_reducible assumption) | (simp only [LCg.Off3, and_true]; with_reducible assumption))) | (refine cend_same (by with_reducible assumption) (by with_reducible assumption) ?ceo ?ceS ?_; (case ceo => first | (with_reducible assumption) | (simp only [LCg.Off3, and_true]; with_reducible assumption)); (case ceS => (refine' Or.inr ⟨_, ?ca, ?cb, _, ?cc⟩; (case ca => k_mem); (case cb => rfl); (case cc => rfl))))))
  k_steps
  all_goals first | k_data | ((rename Fr _ _ _ _ => lF'); (rename News _ _ _ _ => lN'); refine hret _ _ _ _ _ lF' rfl rfl rfl rfl (kti_tail lN'))
end
end Mine
namespace Mine
theorem append_U {prog : Program} {w : World} {A : Around} {E : Value → Shared → Prop} {s : Shared} {h₀ : Heap} {L l c : Addr} {o : Obj} {m : Str → Option Value} {news : List (Addr × Obj)} {xs : List Value} {x : Value} {Q : Value → Shared → Prop} (G : List (Addr × Obj))
    (F : Fr h₀ L s.heap m) (N : News h₀ L s.heap (G ++ ((l, LCg.lst xs) :: (c, o) :: news))) (h2 : @Ne Nat c l) (h3 : ∀ p ∈ news, p.1 ≠ l) (hsz : xs.length ≤ 1000)
    (h : ∀ h', Fr h₀ L h' m → News h₀ L h' ((l, LCg.lst (xs ++ [x])) :: (c, o) :: news) → Q .none { s with heap := h' }) :
    wpAny (model prog w) A (call (.builtin "list.append") [.ref l, x]) Q E s := by
  have N' : News h₀ L s.heap ((l, LCg.lst xs) :: (c, o) :: news) := fun p hp => N p (List.mem_append_right _ hp)
  have zl := N' (l, LCg.lst xs) (by simp)
  refine append_at (hsz := by rw [List.size_toArray, sizeLine_eq]; omega) zl.1 fun h' hs hl => h h' (F.change hs zl.2.1 zl.2.2) fun p hp => ?_
  have keep : ∀ q ∈ (l, LCg.lst xs) :: (c, o) :: news, q.1 ≠ l → h'.get? q.1 = some q.2 ∧ q.1 ≠ L ∧ h₀.get? q.1 = none := fun q hq e => ⟨hs.extBut _ _ e (N' q hq).1, (N' q hq).2⟩
  rcases List.mem_cons.mp hp with rfl | hp
  · exact ⟨hl.trans (congrArg some (LCg.lst_snoc xs x)), zl.2⟩
  rcases List.mem_cons.mp hp with rfl | hp
  · exact keep _ (by simp) h2
  · exact keep _ (by simp [hp]) (h3 p hp)
theorem unrw_end2 {h₀ : Heap} {L I : Addr} {oI : Obj} {R : (Str → Option Value) → List (Addr × Obj) → Prop} {s₁ : Shared} {h' : Heap} {tk : Nat} {m' : Str → Option Value} {q1 q2 keep : Addr × Obj} {rest : List (Addr × Obj)}
    (F : Fr h₀ L h' m') (N : News h₀ L h' (q1 :: q2 :: (I, oI) :: rest)) (l1 : AllLt q1.1 (q2 :: (I, oI) :: rest)) (l2 : AllLt q2.1 ((I, oI) :: rest)) (off : ∀ p ∈ rest, p.1 ≠ I) (hk : List.Mem keep rest)
    (r : (∀ p ∈ q1 :: q2 :: rest, p.1 ≠ I) → R m' (q1 :: q2 :: rest)) : UnrEndW h₀ L s₁ [(I, oI)] (fun m' n' => SubL [keep] n' ∧ R m' n') { s₁ with heap := h', toks := tk } := by
  have hoff : ∀ p ∈ q1 :: q2 :: rest, p.1 ≠ I := List.forall_mem_cons.mpr ⟨Nat.ne_of_gt l1.2.1, List.forall_mem_cons.mpr ⟨Nat.ne_of_gt l2.1, off⟩⟩
  have hk' : keep ∈ rest := hk
  refine ⟨h', tk, m', q1 :: q2 :: rest, rfl, F, fun p hp => N p ?_, fun p hp q hq => ?_, ⟨⟨by simp [hk'], trivial⟩, r hoff⟩⟩
  · simp only [List.cons_append, List.nil_append, List.mem_cons] at hp ⊢
    rcases hp with h | h | h | h <;> simp [h]
  · rw [List.mem_singleton.mp hq]; exact hoff p hp
section
variable {w : World} {p : Program} {loose : List Str} {mean : ExcName → Option Value} {mg mb : Str → Option Value} {dp un : Nat} {gd : Option (List Code)} {a : Addr} {ccd : Value} {outer : List Env} {A₀ : Around} {base h₀ : Heap} {L : Addr} {m : Str → Option Value} {news : List (Addr × Obj)} {s : Shared} {Q : Flow → Shared → Prop} {E : Value → Shared → Prop}
set_option maxRecDepth 100000 in
set_option maxHeartbeats 8000000 in
theorem root_ok {sc : Scope} {body : List Stmt} {c l aW Ra Rb : Addr} {oc oW oA oB : Obj} {lW lA lB xs : List Value} {kW kA kB : Nat} {r o q x1 x2 y1 y3 : Int} {tr tx1 tx2 ty1 ty3 : Tok} (hbody : body = treesFor) (hsc : sc = (defAt 12).2)
    (B : Below A₀ base outer h₀) (F : Fr h₀ L s.heap m) (X : (hd.heap_39 w.params).In h₀) (N : News h₀ L s.heap ((l, LCg.lst xs) :: (c, oc) :: news)) (T : Top p loose mean mg mb h₀)
    (h1 : m (Str.ofString "ways") = some (.ref aW)) (h7 : m (Str.ofString "found") = some (.ref l))
    (dC : oc.data = .cell (some (.int r tr))) (hr : (r = 0 ∧ o = 1 ∧ q = 2) ∨ (r = 1 ∧ o = 0 ∧ q = 2) ∨ (r = 2 ∧ o = 0 ∧ q = 1))
    (mW : (aW, oW) ∈ news) (mA : (Ra, oA) ∈ news) (mB : (Rb, oB) ∈ news)
    (cW : oW.cls = .type "list") (dW : oW.data = .seq lW.toArray kW) (cA : oA.cls = .type "list") (dA : oA.data = .seq lA.toArray kA) (cB : oB.cls = .type "list") (dB : oB.data = .seq lB.toArray kB)
    (vA : lW[o.toNat]? = some (.ref Ra)) (vB : lW[q.toNat]? = some (.ref Rb)) (vx1 : lA[r.toNat]? = some (.int x1 tx1)) (vx2 : lA[q.toNat]? = some (.int x2 tx2)) (vy1 : lB[r.toNat]? = some (.int y1 ty1)) (vy3 : lB[o.toNat]? = some (.int y3 ty3)) (b1 : Big y1) (b3 : Big y3)
    (hlc : @Ne Nat c l) (hln : ∀ p ∈ news, p.1 ≠ l) (hxs : xs.length ≤ 1000)
    (hd : dp + 80 < recursionLimit) (hu : un + 800 < cLine) (hE : PassesOwn (model PySem.Challenge.rw_hg0003_01.row.prog w) (ktrTop dp un gd (Str.ofString "_law_trees") sc L a ccd [(Str.ofString "root", c)] outer) (envX (Str.ofString "_law_trees") sc L a ccd [(Str.ofString "root", c)]) E)
    (hret : ∀ m' h' tk' t', Fr h₀ L h' m' → m' (Str.ofString "ways") = some (.ref aW) → m' (Str.ofString "found") = some (.ref l) → News h₀ L h' ((l, LCg.lst (xs ++ [.int (x1 * y3 + (x2 * y1 + (x1 * y1 + 0))) t'])) :: (c, oc) :: news) → Q .next { s with heap := h', toks := tk' }) :
    wpAny (model PySem.Challenge.rw_hg0003_01.row.prog w) (ktrTop dp un gd (Str.ofString "_law_trees") sc L a ccd [(Str.ofString "root", c)] outer) (execs body (envX (Str.ofString "_law_trees") sc L a ccd [(Str.ofString "root", c)])) Q E s := by
  conv at hbody => rhs; whnf
  conv at hsc => rhs; whnf
  subst hbody hsc
  revert X; k_fill; intro X
  w_top off
  k_with_none
  k_with "execs nil" => ((with_reducible refine gen_toks ?_); intro tk9; refine wpAny_execs_nil ?_; dsimp only)
  have hr0 : (0 ≤ r ∧ r ≤ 2) ∧ (0 ≤ o ∧ o ≤ 2) ∧ 0 ≤ q ∧ q ≤ 2 := by
    rcases hr with ⟨rfl, rfl, rfl⟩ | ⟨rfl, rfl, rfl⟩ | ⟨rfl, rfl, rfl⟩ <;> decide
  have F1 := canon1 (canon1 F h7) (v := .ref aW) ((if_neg (by decide)).trans h1)
  clear F
  k_with "subscriptTail Name Constant ref int" => ((with_reducible show wpAny _ _ (subscriptTail _ _ (Value.ref _) (Value.int _ _)) _ _ _); k_dflt ((refine kba_turn (value' := PySem.Expr.Name (PySem.Str.ofString "_") ⟨0, 0, 0, 0⟩) (fun _ => rfl) ?_); first | (refine' kim_tup ?itN ?itm ?itc ?itd ?itlo ?ithi ?itj ?itx ?_ ?its; (case itN => k_asm); (case itm => k_mem); (case itc => exact rfl); (case itd => exact rfl); (case itlo => decide); (case ithi => decide); (case itj => exact rfl); (case itx => exact rfl); (case its => with_unfolding_all rfl)) | (refine' kim_list ?itN ?itm ?itc ?itd ?itlo ?ithi ?itx ?_ ?its; (case itN => k_asm); (case itm => k_mem); (case itc => exact rfl); (case itd => exact rfl); (case itlo => decide); (case ithi => decide); (case itx => exact rfl); (case its => with_unfolding_all rfl))))
  k_with "subscriptTail" => ((with_reducible show wpAny _ _ (subscriptTail _ _ (Value.ref _) (Value.int _ _)) _ _ _); k_dflt ((refine kba_turn (value' := PySem.Expr.Name (PySem.Str.ofString "_") ⟨0, 0, 0, 0⟩) (fun _ => rfl) ?_); first | (refine' kim_tup ?itN ?itm ?itc ?itd ?itlo ?ithi ?itj ?itx ?_ ?its; (case itN => k_asm); (case itm => k_mem); (case itc => exact rfl); (case itd => exact rfl); (case itlo => decide); (case ithi => decide); (case itj => exact rfl); (case itx => exact rfl); (case its => with_unfolding_all rfl)) | (refine' kim_list ?itN ?itm ?itc ?itd ?itlo ?ithi ?itx ?_ ?its; (case itN => k_asm); (case itm => k_mem); (case itc => exact rfl); (case itd => exact rfl); (case itlo => decide); (case ithi => decide); (case itx => exact rfl); (case its => with_unfolding_all rfl))))
  k_with "subscriptTail Name Name ref int" => ((with_reducible show wpAny _ _ (subscriptTail _ _ (Value.ref _) (Value.int _ _)) _ _ _); k_dflt ((refine kba_turn (value' := PySem.Expr.Name (PySem.Str.ofString "_") ⟨0, 0, 0, 0⟩) (fun _ => rfl) ?_); first | (refine' kim_tup ?itN ?itm ?itc ?itd ?itlo ?ithi ?itj ?itx ?_ ?its; (case itN => k_asm); (case itm => k_mem); (case itc => exact rfl); (case itd => exact rfl); (case itlo => decide); (case ithi => decide); (case itj => exact rfl); (case itx => exact rfl); (case its => with_unfolding_all rfl)) | (refine' kim_list ?itN ?itm ?itc ?itd ?itlo ?ithi ?itx ?_ ?its; (case itN => k_asm); (case itm => k_mem); (case itc => exact rfl); (case itd => exact rfl); (case itlo => decide); (case ithi => decide); (case itx => exact rfl); (case its => with_unfolding_all rfl))))
  k_with "subscriptTail Name BinOp ref int" => ((with_reducible show wpAny _ _ (subscriptTail _ _ (Value.ref _) (Value.int _ _)) _ _ _); k_dflt ((refine kba_turn (value' := PySem.Expr.Name (PySem.Str.ofString "_") ⟨0, 0, 0, 0⟩) (fun _ => rfl) ?_); first | (refine' kim_tup ?itN ?itm ?itc ?itd ?itlo ?ithi ?itj ?itx ?_ ?its; (case itN => k_asm); (case itm => k_mem); (case itc => exact rfl); (case itd => exact rfl); (case itlo => decide); (case ithi => decide); (case itj => exact rfl); (case itx => exact rfl); (case its => with_unfolding_all rfl)) | (refine' kim_list ?itN ?itm ?itc ?itd ?itlo ?ithi ?itx ?_ ?its; (case itN => k_asm); (case itm => k_mem); (case itc => exact rfl); (case itd => exact rfl); (case itlo => decide); (case ithi => decide); (case itx => exact rfl); (case its => with_unfolding_all rfl))))
  k_with "subscriptTail Subscript Name Name Constant ref int" => ((with_reducible show wpAny _ _ (subscriptTail _ _ (Value.ref _) (Value.int _ _)) _ _ _); k_dflt ((refine kba_turn (value' := PySem.Expr.Name (PySem.Str.ofString "_") ⟨0, 0, 0, 0⟩) (fun _ => rfl) ?_); first | (refine' kim_tup ?itN ?itm ?itc ?itd ?itlo ?ithi ?itj ?itx ?_ ?its; (case itN => k_asm); (case itm => k_mem); (case itc => exact rfl); (case itd => exact rfl); (case itlo => decide); (case ithi => decide); (case itj => exact rfl); (case itx => exact rfl); (case its => with_unfolding_all rfl)) | (refine' kim_list ?itN ?itm ?itc ?itd ?itlo ?ithi ?itx ?_ ?its; (case itN => k_asm); (case itm => k_mem); (case itc => exact rfl); (case itd => exact rfl); (case itlo => decide); (case ithi => decide); (case itx => exact rfl); (case its => with_unfolding_all rfl))))
  k_with "subscriptTail Subscript Name Constant Constant ref int" => ((with_reducible show wpAny _ _ (subscriptTail _ _ (Value.ref _) (Value.int _ _)) _ _ _); k_dflt ((refine kba_turn (value' := PySem.Expr.Name (PySem.Str.ofString "_") ⟨0, 0, 0, 0⟩) (fun _ => rfl) ?_); first | (refine' kim_tup ?itN ?itm ?itc ?itd ?itlo ?ithi ?itj ?itx ?_ ?its; (case itN => k_asm); (case itm => k_mem); (case itc => exact rfl); (case itd => exact rfl); (case itlo => decide); (case ithi => decide); (case itj => exact rfl); (case itx => exact rfl); (case its => with_unfolding_all rfl)) | (refine' kim_list ?itN ?itm ?itc ?itd ?itlo ?ithi ?itx ?_ ?its; (case itN => k_asm); (case itm => k_mem); (case itc => exact rfl); (case itd => exact rfl); (case itlo => decide); (case ithi => decide); (case itx => exact rfl); (case its => with_unfolding_all rfl))))
  k_with "subscriptTail Subscript Name Name Name ref int" => ((with_reducible show wpAny _ _ (subscriptTail _ _ (Value.ref _) (Value.int _ _)) _ _ _); k_dflt ((refine kba_turn (value' := PySem.Expr.Name (PySem.Str.ofString "_") ⟨0, 0, 0, 0⟩) (fun _ => rfl) ?_); first | (refine' kim_tup ?itN ?itm ?itc ?itd ?itlo ?ithi ?itj ?itx ?_ ?its; (case itN => k_asm); (case itm => k_mem); (case itc => exact rfl); (case itd => exact rfl); (case itlo => decide); (case ithi => decide); (case itj => exact rfl); (case itx => exact rfl); (case its => with_unfolding_all rfl)) | (refine' kim_list ?itN ?itm ?itc ?itd ?itlo ?ithi ?itx ?_ ?its; (case itN => k_asm); (case itm => k_mem); (case itc => exact rfl); (case itd => exact rfl); (case itlo => decide); (case ithi => decide); (case itx => exact rfl); (case its => with_unfolding_all rfl))))
  k_with "subscriptTail Subscript Name Name BinOp ref int" => ((with_reducible show wpAny _ _ (subscriptTail _ _ (Value.ref _) (Value.int _ _)) _ _ _); k_dflt ((refine kba_turn (value' := PySem.Expr.Name (PySem.Str.ofString "_") ⟨0, 0, 0, 0⟩) (fun _ => rfl) ?_); first | (refine' kim_tup ?itN ?itm ?itc ?itd ?itlo ?ithi ?itj ?itx ?_ ?its; (case itN => k_asm); (case itm => k_mem); (case itc => exact rfl); (case itd => exact rfl); (case itlo => decide); (case ithi => decide); (case itj => exact rfl); (case itx => exact rfl); (case its => with_unfolding_all rfl)) | (refine' kim_list ?itN ?itm ?itc ?itd ?itlo ?ithi ?itx ?_ ?its; (case itN => k_asm); (case itm => k_mem); (case itc => exact rfl); (case itd => exact rfl); (case itlo => decide); (case ithi => decide); (case itx => exact rfl); (case its => with_unfolding_all rfl))))
  k_with "subscriptTail Subscript Name Constant Name ref int" => ((with_reducible show wpAny _ _ (subscriptTail _ _ (Value.ref _) (Value.int _ _)) _ _ _); k_dflt ((refine kba_turn (value' := PySem.Expr.Name (PySem.Str.ofString "_") ⟨0, 0, 0, 0⟩) (fun _ => rfl) ?_); first | (refine' kim_tup ?itN ?itm ?itc ?itd ?itlo ?ithi ?itj ?itx ?_ ?its; (case itN => k_asm); (case itm => k_mem); (case itc => exact rfl); (case itd => exact rfl); (case itlo => decide); (case ithi => decide); (case itj => exact rfl); (case itx => exact rfl); (case its => with_unfolding_all rfl)) | (refine' kim_list ?itN ?itm ?itc ?itd ?itlo ?ithi ?itx ?_ ?its; (case itN => k_asm); (case itm => k_mem); (case itc => exact rfl); (case itd => exact rfl); (case itlo => decide); (case ithi => decide); (case itx => exact rfl); (case its => with_unfolding_all rfl))))
  k_with "callWith ref nil nil" => (k_here; k_dflt (first | (refine' callWith_K ?kq1 ?kq2 ?_; (case kq1 => k_asm); (case kq2 => k_is); k_whole) | (refine' callWith_K0 ?kq1 ?kq2 ?_; (case kq1 => k_in); (case kq2 => k_is); k_whole)))
  k_with "exec Assign cons ListComp" => ((rename Fr _ _ _ _ => lF'); (rename News _ _ _ _ => lN'); k_dflt (refine' others_ok rfl rfl ?k1 lF' ?k3 lN' ?k5 ?o1 ?o7 (List.mem_cons_of_mem _ List.mem_cons_self) dC hr ?ld ?lu hE ?_; (case k1 => k_asm); (case k3 => k_asm); (case k5 => k_asm); (case o1 => rfl); (case o7 => rfl); (case ld => exact room9 hd (Nat.le_of_ble_eq_true rfl)); (case lu => exact room9 hu (Nat.le_of_ble_eq_true rfl))); intro m5 h5 tk5 to5 tq5 F5 w5 f5 a5 b5 N5; clear lF' lN'; have F6 := canon1 (canon1 (canon1 (canon1 F5 f5) (v := .ref aW) ((if_neg (by decide)).trans w5)) (v := .int o to5) ((if_neg (by decide)).trans ((if_neg (by decide)).trans a5))) (v := .int q tq5) ((if_neg (by decide)).trans ((if_neg (by decide)).trans ((if_neg (by decide)).trans b5))); clear F5; (try dsimp only))
  k_with "execs cons Assign nil" => ((rename Fr _ _ _ _ => lF'); (rename News _ _ _ _ => lN'); k_dflt (refine' pair_ok rfl rfl ?k1 lF' ?k3 lN' ?k5 rfl rfl rfl rfl rfl rfl rfl ?pW ?pA ?pB ?pD ?pd ?pe cW dW cA dA cB dB ?po ?pq ?pf ?pg vA vB ?vx ?vy ?vb ?ld ?lu hE ?_; (case k1 => k_asm); (case k3 => k_asm); (case k5 => k_asm); (case pW => k_mem); (case pA => k_mem); (case pB => k_mem); (case pD => k_mem); (case pd => k_mem); (case pe => first | assumption | exact ⟨by assumption, by assumption, by assumption⟩); (case po => exact hr0.2.1); (case pq => exact hr0.2.2); (case pf => first | exact hr0.1 | exact hr0.2.2); (case pg => first | exact hr0.1 | exact hr0.2.1); (case vx => first | exact vx1 | exact vx2); (case vy => first | exact vy1 | exact vy3); (case vb => assumption); (case ld => exact room9 hd (Nat.le_of_ble_eq_true rfl)); (case lu => exact room9 hu (Nat.le_of_ble_eq_true rfl))); intro m5 D9 Dd9 od9 h5 tk5 u50 u51 u52 u53 F5 w5 a5 b5 c5 f5 N5 E9 l9 l9b; clear lF' lN'; have F6 := canon1 (canon1 (canon1 (canon1 (canon1 F5 f5) (v := .ref aW) ((if_neg (by decide)).trans w5)) (v := .int o to5) ((if_neg (by decide)).trans ((if_neg (by decide)).trans a5))) (v := .int q tq5) ((if_neg (by decide)).trans ((if_neg (by decide)).trans ((if_neg (by decide)).trans b5)))) (v := .ref D9) ((if_neg (by decide)).trans ((if_neg (by decide)).trans ((if_neg (by decide)).trans ((if_neg (by decide)).trans c5)))); clear F5; (try dsimp only))
  k_with "UnrEndW" => ((rename Fr _ _ _ _ => lF'); (rename News _ _ _ _ => lN'); k_dflt (refine unrw_end2 lF' lN' l9 l9b off7 (by k_mem) ?_; intro off7))
  k_with "call builtin:list.append cons nil" => ((rename Fr _ _ _ _ => lF'); (rename News _ _ _ _ => lN'); k_dflt (refine append_U [_, _, _, _, _, _, _, _, _, _, _, _] lF' lN' hlc hln (by omega) ?_; intro h6 F6 N6; (try simp only [List.nil_append, List.cons_append] at N6)); clear lF' lN')
  k_with "exec For Name Call cons nil" => (k_here; (rename Fr _ _ _ _ => lF'); (with_unfolding_all refine' For_turns lF' ?_ ?k4 ?kE; (case k4 => (intro _; rfl)); (case kE => first | assumption | passes_own | with_unfolding_all passes_own); k_whole))
  k_with "exec For Name Name cons nil" => (k_here; (rename Fr _ _ _ _ => lF'); (with_unfolding_all refine' For_turns lF' ?_ ?k4 ?kE; (case k4 => (intro _; rfl)); (case kE => first | assumption | passes_own | with_unfolding_all passes_own); k_whole))
  k_with "pyIter ref" => ((with_reducible show wpAny _ _ (pyIter (Value.ref _)) (fun it s₂ => TurnsAt _ _ _ _ _ _ _ _ _ it s₂) _ _); (rename Fr _ _ _ _ => lF'); (rename News _ _ _ _ => lN'); (first | (with_unfolding_all refine iter_rangeF (n := 3) (by rfl) (by assumption) (by first | decide | rfl) (by first | decide | rfl) lF' lN' ?_) | (with_unfolding_all refine iter_rangeF (n := 4) (by rfl) (by assumption) (by first | decide | rfl) (by first | decide | rfl) lF' lN' ?_) | (with_unfolding_all refine' iter_listTurns (vs := [.ref _, .ref _, .ref _]) ?ih lF' lN' ?im ?ic ?id ?_; (case im => exact List.mem_cons_self); (case ih => rfl); (case ic => rfl); (case id => rfl)) | (with_unfolding_all refine' iter_listTurns (vs := [.int _ _, .int _ _, .int _ _]) ?ih lF' lN' ?im ?ic ?id ?_; (case im => k_mem); (case ih => rfl); (case ic => rfl); (case id => rfl))); clear lF' lN'; intro I7 l7; have off7 := lt_ne l7; (try k_lt l7))
  k_with "RestF" => (k_dflt (first | ((first | (have hh9 := hout; clear hh9) | (have hout := l7; have offO := off7)); refine RestF.succ ?_; intro t7 h7 tk7 F7 N7; (try dsimp only)) | (refine RestF.zero ?_; intro h7 tk7 F7 N7; (try dsimp only))))
  k_with "CompSrc" => (k_here; k_dflt (refine LCg.CompSrc.range (by rfl) (by k_asm) (by k_asm) (by assumption) (by first | decide | rfl) (by first | rfl | decide) (by first | size_fits | exact Nat.le_of_ble_eq_true rfl) ?_; intro g'; lcg_lit))
  k_with "ite" => (with_reducible refine ite_self ?_)
  k_steps
  all_goals first | k_data | ((rename Fr _ _ _ _ => lF'); (rename News _ _ _ _ => lN'); refine hret _ _ _ _ lF' rfl rfl lN')
end
end Mine
namespace Mine
theorem unr_endV {h₀ : Heap} {L I l c : Addr} {it f f' o o' : Obj} {R : (Str → Option Value) → List (Addr × Obj) → Prop} {s₁ : Shared} {h' : Heap} {tk : Nat} {m' : Str → Option Value} {news : List (Addr × Obj)}
    (F : Fr h₀ L h' m') (N : News h₀ L h' ((l, f') :: (c, o') :: (I, it) :: news)) (off : ∀ p ∈ (l, f) :: (c, o) :: news, p.1 ≠ I) (r : R m' ((l, f') :: (c, o') :: news)) : UnrEnd h₀ L s₁ I it R { s₁ with heap := h', toks := tk } :=
  UnrEnd.intro F N ((l, f') :: (c, o') :: news) (fun p hp => by
    simp only [List.mem_cons] at hp ⊢
    rcases hp with h | h | h | h <;> simp [h]) (fun p hp => by
    rcases List.mem_cons.mp hp with rfl | hp
    · exact off (l, f) (by simp)
    · rcases List.mem_cons.mp hp with rfl | hp
      · exact off (c, o) (by simp)
      · exact off p (by simp [hp])) r
theorem rev4 (a b c : Int) : c + (b + (a + 0)) = a + b + c := by omega
theorem swap_3 {h₀ h : Heap} {L : Addr} {q1 q2 q3 : Addr × Obj} {l : List (Addr × Obj)} (N : News h₀ L h (q1 :: q2 :: q3 :: l)) : News h₀ L h (q2 :: q3 :: q1 :: l) := cb_drop N (List.forall_mem_cons.mpr ⟨(List.mem_cons_of_mem _ List.mem_cons_self), (List.forall_mem_cons.mpr ⟨(List.mem_cons_of_mem _ (List.mem_cons_of_mem _ List.mem_cons_self)), (List.forall_mem_cons.mpr ⟨List.mem_cons_self, (fun _ hq => (List.mem_cons_of_mem _ (List.mem_cons_of_mem _ (List.mem_cons_of_mem _ hq))))⟩)⟩)⟩)
section
variable {w : World} {p : Program} {loose : List Str} {mean : ExcName → Option Value} {mg mb : Str → Option Value} {dp un : Nat} {gd : Option (List Code)} {cn : Str} {csn : List (Str × NameKind)} {csg csc : Bool} {csm : List (Str × Const)} {a : Addr} {ccd : Value} {cl : List (Str × Addr)} {outer : List Env} {A₀ : Around} {base h₀ : Heap} {L : Addr} {m : Str → Option Value} {news : List (Addr × Obj)} {s : Shared} {Q E : Value → Shared → Prop}
set_option maxRecDepth 100000 in
set_option maxHeartbeats 8000000 in
theorem trees_ok {aW R0 R1 R2 : Addr} {w00 w01 w02 w10 w11 w12 w20 w21 w22 : Int} {r00 r01 r02 r10 r11 r12 r20 r21 r22 : Tok} {kW k0 k1 k2 : Nat}
    (B : Below A₀ base outer h₀) (F : Fr h₀ L s.heap m) (X : (hd.heap_39 w.params).In h₀) (N : News h₀ L s.heap news) (T : Top p loose mean mg mb h₀)
    (mW : (aW, W.listOf #[.ref R0, .ref R1, .ref R2] kW) ∈ news)
    (mr0 : (R0, W.listOf #[.int w00 r00, .int w01 r01, .int w02 r02] k0) ∈ news)
    (mr1 : (R1, W.listOf #[.int w10 r10, .int w11 r11, .int w12 r12] k1) ∈ news)
    (mr2 : (R2, W.listOf #[.int w20 r20, .int w21 r21, .int w22 r22] k2) ∈ news)
    (b00 : Big w00) (b01 : Big w01) (b02 : Big w02) (b10 : Big w10) (b11 : Big w11) (b12 : Big w12) (b20 : Big w20) (b21 : Big w21) (b22 : Big w22)
    (hd : dp + 90 < recursionLimit) (hu : un + 900 < cLine)
    (hret : ∀ D h' tk' y0 y1 y2 v0 v1 v2, y0 = w10 * w20 + w12 * w20 + w10 * w21 → y1 = w01 * w21 + w02 * w21 + w01 * w20 → y2 = w02 * w12 + w01 * w12 + w02 * w10 → Fr h₀ L h' m → News h₀ L h' ((D, LCg.lst [.int y0 v0, .int y1 v1, .int y2 v2]) :: news) → (∀ p ∈ news, p.1 ≠ D) → Q (.ref D) { s with heap := h', toks := tk' }) :
    wpAny (model PySem.Challenge.rw_hg0003_01.row.prog w) (ktrTop dp un gd cn ⟨.function, csn, csg, csc, csm⟩ L a ccd cl outer) (call (.ref 75) [.ref aW]) Q E s := by
  revert X; k_fill; intro X
  w_top off
  k_with_none
  k_with "execs nil" => ((with_reducible refine gen_toks ?_); intro tk9; refine wpAny_execs_nil ?_; dsimp only)
  k_with "subscriptTail Name Constant ref int" => ((with_reducible show wpAny _ _ (subscriptTail _ _ (Value.ref _) (Value.int _ _)) _ _ _); k_dflt ((refine kba_turn (value' := PySem.Expr.Name (PySem.Str.ofString "_") ⟨0, 0, 0, 0⟩) (fun _ => rfl) ?_); first | (refine' kim_tup ?itN ?itm ?itc ?itd ?itlo ?ithi ?itj ?itx ?_ ?its; (case itN => k_asm); (case itm => k_mem); (case itc => exact rfl); (case itd => exact rfl); (case itlo => decide); (case ithi => decide); (case itj => exact rfl); (case itx => exact rfl); (case its => with_unfolding_all rfl)) | (refine' kim_list ?itN ?itm ?itc ?itd ?itlo ?ithi ?itx ?_ ?its; (case itN => k_asm); (case itm => k_mem); (case itc => exact rfl); (case itd => exact rfl); (case itlo => decide); (case ithi => decide); (case itx => exact rfl); (case its => with_unfolding_all rfl))))
  k_with "subscriptTail" => ((with_reducible show wpAny _ _ (subscriptTail _ _ (Value.ref _) (Value.int _ _)) _ _ _); k_dflt ((refine kba_turn (value' := PySem.Expr.Name (PySem.Str.ofString "_") ⟨0, 0, 0, 0⟩) (fun _ => rfl) ?_); first | (refine' kim_tup ?itN ?itm ?itc ?itd ?itlo ?ithi ?itj ?itx ?_ ?its; (case itN => k_asm); (case itm => k_mem); (case itc => exact rfl); (case itd => exact rfl); (case itlo => decide); (case ithi => decide); (case itj => exact rfl); (case itx => exact rfl); (case its => with_unfolding_all rfl)) | (refine' kim_list ?itN ?itm ?itc ?itd ?itlo ?ithi ?itx ?_ ?its; (case itN => k_asm); (case itm => k_mem); (case itc => exact rfl); (case itd => exact rfl); (case itlo => decide); (case ithi => decide); (case itx => exact rfl); (case its => with_unfolding_all rfl))))
  k_with "subscriptTail Name Name ref int" => ((with_reducible show wpAny _ _ (subscriptTail _ _ (Value.ref _) (Value.int _ _)) _ _ _); k_dflt ((refine kba_turn (value' := PySem.Expr.Name (PySem.Str.ofString "_") ⟨0, 0, 0, 0⟩) (fun _ => rfl) ?_); first | (refine' kim_tup ?itN ?itm ?itc ?itd ?itlo ?ithi ?itj ?itx ?_ ?its; (case itN => k_asm); (case itm => k_mem); (case itc => exact rfl); (case itd => exact rfl); (case itlo => decide); (case ithi => decide); (case itj => exact rfl); (case itx => exact rfl); (case its => with_unfolding_all rfl)) | (refine' kim_list ?itN ?itm ?itc ?itd ?itlo ?ithi ?itx ?_ ?its; (case itN => k_asm); (case itm => k_mem); (case itc => exact rfl); (case itd => exact rfl); (case itlo => decide); (case ithi => decide); (case itx => exact rfl); (case its => with_unfolding_all rfl))))
  k_with "subscriptTail Name BinOp ref int" => ((with_reducible show wpAny _ _ (subscriptTail _ _ (Value.ref _) (Value.int _ _)) _ _ _); k_dflt ((refine kba_turn (value' := PySem.Expr.Name (PySem.Str.ofString "_") ⟨0, 0, 0, 0⟩) (fun _ => rfl) ?_); first | (refine' kim_tup ?itN ?itm ?itc ?itd ?itlo ?ithi ?itj ?itx ?_ ?its; (case itN => k_asm); (case itm => k_mem); (case itc => exact rfl); (case itd => exact rfl); (case itlo => decide); (case ithi => decide); (case itj => exact rfl); (case itx => exact rfl); (case its => with_unfolding_all rfl)) | (refine' kim_list ?itN ?itm ?itc ?itd ?itlo ?ithi ?itx ?_ ?its; (case itN => k_asm); (case itm => k_mem); (case itc => exact rfl); (case itd => exact rfl); (case itlo => decide); (case ithi => decide); (case itx => exact rfl); (case its => with_unfolding_all rfl))))
  k_with "subscriptTail Subscript Name Name Constant ref int" => ((with_reducible show wpAny _ _ (subscriptTail _ _ (Value.ref _) (Value.int _ _)) _ _ _); k_dflt ((refine kba_turn (value' := PySem.Expr.Name (PySem.Str.ofString "_") ⟨0, 0, 0, 0⟩) (fun _ => rfl) ?_); first | (refine' kim_tup ?itN ?itm ?itc ?itd ?itlo ?ithi ?itj ?itx ?_ ?its; (case itN => k_asm); (case itm => k_mem); (case itc => exact rfl); (case itd => exact rfl); (case itlo => decide); (case ithi => decide); (case itj => exact rfl); (case itx => exact rfl); (case its => with_unfolding_all rfl)) | (refine' kim_list ?itN ?itm ?itc ?itd ?itlo ?ithi ?itx ?_ ?its; (case itN => k_asm); (case itm => k_mem); (case itc => exact rfl); (case itd => exact rfl); (case itlo => decide); (case ithi => decide); (case itx => exact rfl); (case its => with_unfolding_all rfl))))
  k_with "subscriptTail Subscript Name Constant Constant ref int" => ((with_reducible show wpAny _ _ (subscriptTail _ _ (Value.ref _) (Value.int _ _)) _ _ _); k_dflt ((refine kba_turn (value' := PySem.Expr.Name (PySem.Str.ofString "_") ⟨0, 0, 0, 0⟩) (fun _ => rfl) ?_); first | (refine' kim_tup ?itN ?itm ?itc ?itd ?itlo ?ithi ?itj ?itx ?_ ?its; (case itN => k_asm); (case itm => k_mem); (case itc => exact rfl); (case itd => exact rfl); (case itlo => decide); (case ithi => decide); (case itj => exact rfl); (case itx => exact rfl); (case its => with_unfolding_all rfl)) | (refine' kim_list ?itN ?itm ?itc ?itd ?itlo ?ithi ?itx ?_ ?its; (case itN => k_asm); (case itm => k_mem); (case itc => exact rfl); (case itd => exact rfl); (case itlo => decide); (case ithi => decide); (case itx => exact rfl); (case its => with_unfolding_all rfl))))
  k_with "subscriptTail Subscript Name Name Name ref int" => ((with_reducible show wpAny _ _ (subscriptTail _ _ (Value.ref _) (Value.int _ _)) _ _ _); k_dflt ((refine kba_turn (value' := PySem.Expr.Name (PySem.Str.ofString "_") ⟨0, 0, 0, 0⟩) (fun _ => rfl) ?_); first | (refine' kim_tup ?itN ?itm ?itc ?itd ?itlo ?ithi ?itj ?itx ?_ ?its; (case itN => k_asm); (case itm => k_mem); (case itc => exact rfl); (case itd => exact rfl); (case itlo => decide); (case ithi => decide); (case itj => exact rfl); (case itx => exact rfl); (case its => with_unfolding_all rfl)) | (refine' kim_list ?itN ?itm ?itc ?itd ?itlo ?ithi ?itx ?_ ?its; (case itN => k_asm); (case itm => k_mem); (case itc => exact rfl); (case itd => exact rfl); (case itlo => decide); (case ithi => decide); (case itx => exact rfl); (case its => with_unfolding_all rfl))))
  k_with "subscriptTail Subscript Name Name BinOp ref int" => ((with_reducible show wpAny _ _ (subscriptTail _ _ (Value.ref _) (Value.int _ _)) _ _ _); k_dflt ((refine kba_turn (value' := PySem.Expr.Name (PySem.Str.ofString "_") ⟨0, 0, 0, 0⟩) (fun _ => rfl) ?_); first | (refine' kim_tup ?itN ?itm ?itc ?itd ?itlo ?ithi ?itj ?itx ?_ ?its; (case itN => k_asm); (case itm => k_mem); (case itc => exact rfl); (case itd => exact rfl); (case itlo => decide); (case ithi => decide); (case itj => exact rfl); (case itx => exact rfl); (case its => with_unfolding_all rfl)) | (refine' kim_list ?itN ?itm ?itc ?itd ?itlo ?ithi ?itx ?_ ?its; (case itN => k_asm); (case itm => k_mem); (case itc => exact rfl); (case itd => exact rfl); (case itlo => decide); (case ithi => decide); (case itx => exact rfl); (case its => with_unfolding_all rfl))))
  k_with "subscriptTail Subscript Name Constant Name ref int" => ((with_reducible show wpAny _ _ (subscriptTail _ _ (Value.ref _) (Value.int _ _)) _ _ _); k_dflt ((refine kba_turn (value' := PySem.Expr.Name (PySem.Str.ofString "_") ⟨0, 0, 0, 0⟩) (fun _ => rfl) ?_); first | (refine' kim_tup ?itN ?itm ?itc ?itd ?itlo ?ithi ?itj ?itx ?_ ?its; (case itN => k_asm); (case itm => k_mem); (case itc => exact rfl); (case itd => exact rfl); (case itlo => decide); (case ithi => decide); (case itj => exact rfl); (case itx => exact rfl); (case its => with_unfolding_all rfl)) | (refine' kim_list ?itN ?itm ?itc ?itd ?itlo ?ithi ?itx ?_ ?its; (case itN => k_asm); (case itm => k_mem); (case itc => exact rfl); (case itd => exact rfl); (case itlo => decide); (case ithi => decide); (case itx => exact rfl); (case its => with_unfolding_all rfl))))
  k_with "callWith ref nil nil" => (k_here; k_dflt (first | (refine' callWith_K ?kq1 ?kq2 ?_; (case kq1 => k_asm); (case kq2 => k_is); k_whole) | (refine' callWith_K0 ?kq1 ?kq2 ?_; (case kq1 => k_in); (case kq2 => k_is); k_whole)))
  k_with "execs cons Assign cons" => ((rename Fr _ _ _ _ => lF'); (rename News _ _ _ _ => lN'); (rename _ ∧ AllLt _ news => lF9); k_dflt (first | (refine' root_ok (r := 0) (o := 1) (q := 2) rfl rfl ?k1 lF' ?k3 (swap_3 lN') ?k5 ?o1 ?o7 ?oC (.inl ⟨rfl, rfl, rfl⟩) (List.mem_cons_of_mem _ mW) (List.mem_cons_of_mem _ mr1) (List.mem_cons_of_mem _ mr2) rfl rfl rfl rfl rfl rfl ?vA ?vB ?vx1 ?vx2 ?vy1 ?vy3 ?b1 ?b3 (Nat.ne_of_lt lF9.1) (List.forall_mem_cons.mpr ⟨(offO _ List.mem_cons_self).symm, fun p hp => Nat.ne_of_lt (ktn_ltOf lF9.2 p hp)⟩) ?xs ?ld ?lu ?pe ?_; (case oC => assumption); (case k1 => k_asm); (case k3 => k_asm); (case k5 => k_asm); (case o1 => rfl); (case o7 => rfl); (case vA => rfl); (case vB => rfl); (case vx1 => rfl); (case vx2 => rfl); (case vy1 => rfl); (case vy3 => rfl); (case b1 => assumption); (case b3 => assumption); (case xs => exact Nat.le_of_ble_eq_true rfl); (case ld => first | exact roomk hd (Nat.le_of_ble_eq_true rfl) | ((try dsimp only [Around.deeper]); omega)); (case lu => first | exact roomk hu (Nat.le_of_ble_eq_true rfl) | ((try dsimp only [Around.deeper]); omega)); (case pe => first | assumption | passes_own | with_unfolding_all passes_own)) | (refine' root_ok (r := 1) (o := 0) (q := 2) rfl rfl ?k1 lF' ?k3 (swap_3 lN') ?k5 ?o1 ?o7 ?oC (.inr (.inl ⟨rfl, rfl, rfl⟩)) (List.mem_cons_of_mem _ mW) (List.mem_cons_of_mem _ mr0) (List.mem_cons_of_mem _ mr2) rfl rfl rfl rfl rfl rfl ?vA ?vB ?vx1 ?vx2 ?vy1 ?vy3 ?b1 ?b3 (Nat.ne_of_lt lF9.1) (List.forall_mem_cons.mpr ⟨(offO _ List.mem_cons_self).symm, fun p hp => Nat.ne_of_lt (ktn_ltOf lF9.2 p hp)⟩) ?xs ?ld ?lu ?pe ?_; (case oC => assumption); (case k1 => k_asm); (case k3 => k_asm); (case k5 => k_asm); (case o1 => rfl); (case o7 => rfl); (case vA => rfl); (case vB => rfl); (case vx1 => rfl); (case vx2 => rfl); (case vy1 => rfl); (case vy3 => rfl); (case b1 => assumption); (case b3 => assumption); (case xs => exact Nat.le_of_ble_eq_true rfl); (case ld => first | exact roomk hd (Nat.le_of_ble_eq_true rfl) | ((try dsimp only [Around.deeper]); omega)); (case lu => first | exact roomk hu (Nat.le_of_ble_eq_true rfl) | ((try dsimp only [Around.deeper]); omega)); (case pe => first | assumption | passes_own | with_unfolding_all passes_own)) | (refine' root_ok (r := 2) (o := 0) (q := 1) rfl rfl ?k1 lF' ?k3 (swap_3 lN') ?k5 ?o1 ?o7 ?oC (.inr (.inr ⟨rfl, rfl, rfl⟩)) (List.mem_cons_of_mem _ mW) (List.mem_cons_of_mem _ mr0) (List.mem_cons_of_mem _ mr1) rfl rfl rfl rfl rfl rfl ?vA ?vB ?vx1 ?vx2 ?vy1 ?vy3 ?b1 ?b3 (Nat.ne_of_lt lF9.1) (List.forall_mem_cons.mpr ⟨(offO _ List.mem_cons_self).symm, fun p hp => Nat.ne_of_lt (ktn_ltOf lF9.2 p hp)⟩) ?xs ?ld ?lu ?pe ?_; (case oC => assumption); (case k1 => k_asm); (case k3 => k_asm); (case k5 => k_asm); (case o1 => rfl); (case o7 => rfl); (case vA => rfl); (case vB => rfl); (case vx1 => rfl); (case vx2 => rfl); (case vy1 => rfl); (case vy3 => rfl); (case b1 => assumption); (case b3 => assumption); (case xs => exact Nat.le_of_ble_eq_true rfl); (case ld => first | exact roomk hd (Nat.le_of_ble_eq_true rfl) | ((try dsimp only [Around.deeper]); omega)); (case lu => first | exact roomk hu (Nat.le_of_ble_eq_true rfl) | ((try dsimp only [Around.deeper]); omega)); (case pe => first | assumption | passes_own | with_unfolding_all passes_own))); intro m5 h5 tk5 t5 F5 w5 f5 N5; clear lF' lN'; have F6 := canon1 (canon1 F5 f5) (v := .ref aW) ((if_neg (by decide)).trans w5); clear F5; (try simp only [List.nil_append, List.cons_append] at N5); (try dsimp only))
  k_with "execs cons For cons" => ((rename Fr _ _ _ _ => lF'); (rename News _ _ _ _ => lN'); (rename _ ∧ AllLt _ news => lF9); k_dflt (first | (refine' root_ok (r := 0) (o := 1) (q := 2) rfl rfl ?k1 lF' ?k3 (swap_3 lN') ?k5 ?o1 ?o7 ?oC (.inl ⟨rfl, rfl, rfl⟩) (List.mem_cons_of_mem _ mW) (List.mem_cons_of_mem _ mr1) (List.mem_cons_of_mem _ mr2) rfl rfl rfl rfl rfl rfl ?vA ?vB ?vx1 ?vx2 ?vy1 ?vy3 ?b1 ?b3 (Nat.ne_of_lt lF9.1) (List.forall_mem_cons.mpr ⟨(offO _ List.mem_cons_self).symm, fun p hp => Nat.ne_of_lt (ktn_ltOf lF9.2 p hp)⟩) ?xs ?ld ?lu ?pe ?_; (case oC => assumption); (case k1 => k_asm); (case k3 => k_asm); (case k5 => k_asm); (case o1 => rfl); (case o7 => rfl); (case vA => rfl); (case vB => rfl); (case vx1 => rfl); (case vx2 => rfl); (case vy1 => rfl); (case vy3 => rfl); (case b1 => assumption); (case b3 => assumption); (case xs => exact Nat.le_of_ble_eq_true rfl); (case ld => first | exact roomk hd (Nat.le_of_ble_eq_true rfl) | ((try dsimp only [Around.deeper]); omega)); (case lu => first | exact roomk hu (Nat.le_of_ble_eq_true rfl) | ((try dsimp only [Around.deeper]); omega)); (case pe => first | assumption | passes_own | with_unfolding_all passes_own)) | (refine' root_ok (r := 1) (o := 0) (q := 2) rfl rfl ?k1 lF' ?k3 (swap_3 lN') ?k5 ?o1 ?o7 ?oC (.inr (.inl ⟨rfl, rfl, rfl⟩)) (List.mem_cons_of_mem _ mW) (List.mem_cons_of_mem _ mr0) (List.mem_cons_of_mem _ mr2) rfl rfl rfl rfl rfl rfl ?vA ?vB ?vx1 ?vx2 ?vy1 ?vy3 ?b1 ?b3 (Nat.ne_of_lt lF9.1) (List.forall_mem_cons.mpr ⟨(offO _ List.mem_cons_self).symm, fun p hp => Nat.ne_of_lt (ktn_ltOf lF9.2 p hp)⟩) ?xs ?ld ?lu ?pe ?_; (case oC => assumption); (case k1 => k_asm); (case k3 => k_asm); (case k5 => k_asm); (case o1 => rfl); (case o7 => rfl); (case vA => rfl); (case vB => rfl); (case vx1 => rfl); (case vx2 => rfl); (case vy1 => rfl); (case vy3 => rfl); (case b1 => assumption); (case b3 => assumption); (case xs => exact Nat.le_of_ble_eq_true rfl); (case ld => first | exact roomk hd (Nat.le_of_ble_eq_true rfl) | ((try dsimp only [Around.deeper]); omega)); (case lu => first | exact roomk hu (Nat.le_of_ble_eq_true rfl) | ((try dsimp only [Around.deeper]); omega)); (case pe => first | assumption | passes_own | with_unfolding_all passes_own)) | (refine' root_ok (r := 2) (o := 0) (q := 1) rfl rfl ?k1 lF' ?k3 (swap_3 lN') ?k5 ?o1 ?o7 ?oC (.inr (.inr ⟨rfl, rfl, rfl⟩)) (List.mem_cons_of_mem _ mW) (List.mem_cons_of_mem _ mr0) (List.mem_cons_of_mem _ mr1) rfl rfl rfl rfl rfl rfl ?vA ?vB ?vx1 ?vx2 ?vy1 ?vy3 ?b1 ?b3 (Nat.ne_of_lt lF9.1) (List.forall_mem_cons.mpr ⟨(offO _ List.mem_cons_self).symm, fun p hp => Nat.ne_of_lt (ktn_ltOf lF9.2 p hp)⟩) ?xs ?ld ?lu ?pe ?_; (case oC => assumption); (case k1 => k_asm); (case k3 => k_asm); (case k5 => k_asm); (case o1 => rfl); (case o7 => rfl); (case vA => rfl); (case vB => rfl); (case vx1 => rfl); (case vx2 => rfl); (case vy1 => rfl); (case vy3 => rfl); (case b1 => assumption); (case b3 => assumption); (case xs => exact Nat.le_of_ble_eq_true rfl); (case ld => first | exact roomk hd (Nat.le_of_ble_eq_true rfl) | ((try dsimp only [Around.deeper]); omega)); (case lu => first | exact roomk hu (Nat.le_of_ble_eq_true rfl) | ((try dsimp only [Around.deeper]); omega)); (case pe => first | assumption | passes_own | with_unfolding_all passes_own))); intro m5 h5 tk5 t5 F5 w5 f5 N5; clear lF' lN'; have F6 := canon1 (canon1 F5 f5) (v := .ref aW) ((if_neg (by decide)).trans w5); clear F5; (try simp only [List.nil_append, List.cons_append] at N5); (try dsimp only))
  k_with "UnrEnd" => ((rename Fr _ _ _ _ => lF'); (rename News _ _ _ _ => lN'); k_dflt (refine unr_endV lF' lN' offO ?_))
  k_with "exec For Name Call cons nil" => (k_here; (rename Fr _ _ _ _ => lF'); (with_unfolding_all refine' For_turns lF' ?_ ?k4 ?kE; (case k4 => (intro _; rfl)); (case kE => first | assumption | passes_own | with_unfolding_all passes_own); k_whole))
  k_with "exec For Name Name cons nil" => (k_here; (rename Fr _ _ _ _ => lF'); (with_unfolding_all refine' For_turns lF' ?_ ?k4 ?kE; (case k4 => (intro _; rfl)); (case kE => first | assumption | passes_own | with_unfolding_all passes_own); k_whole))
  k_with "pyIter ref" => ((with_reducible show wpAny _ _ (pyIter (Value.ref _)) (fun it s₂ => TurnsAt _ _ _ _ _ _ _ _ _ it s₂) _ _); (rename Fr _ _ _ _ => lF'); (rename News _ _ _ _ => lN'); (first | (with_unfolding_all refine iter_rangeF (n := 3) (by rfl) (by assumption) (by first | decide | rfl) (by first | decide | rfl) lF' lN' ?_) | (with_unfolding_all refine iter_rangeF (n := 4) (by rfl) (by assumption) (by first | decide | rfl) (by first | decide | rfl) lF' lN' ?_) | (with_unfolding_all refine' iter_listTurns (vs := [.ref _, .ref _, .ref _]) ?ih lF' lN' ?im ?ic ?id ?_; (case im => exact List.mem_cons_self); (case ih => rfl); (case ic => rfl); (case id => rfl)) | (with_unfolding_all refine' iter_listTurns (vs := [.int _ _, .int _ _, .int _ _]) ?ih lF' lN' ?im ?ic ?id ?_; (case im => k_mem); (case ih => rfl); (case ic => rfl); (case id => rfl))); clear lF' lN'; intro I7 l7; have off7 := lt_ne l7; (try k_lt l7))
  k_with "RestF" => (k_dflt (first | ((first | (have hh9 := hout; clear hh9) | (have hout := l7; have offO := off7)); refine RestF.succ ?_; intro t7 h7 tk7 F7 N7; (try dsimp only)) | (refine RestF.zero ?_; intro h7 tk7 F7 N7; (try dsimp only))))
  k_with "storeName int" => (k_here; (first | (rename (∀ p ∈ news, _ < _) => ln9) | (rename (∀ p ∈ _ :: _ :: news, _ < _) => ln9)); (have hall9 := all_ne1 ln9); k_dflt (refine' storeX_C ?stF ?stN ?stc ?stU ?std ?_ ?sta ?stb; (case sta => rfl); (case stb => rfl); (case stF => k_asm); (case stN => k_asm); (case stc => rfl); (case stU => k_updF); (case std => k_asm); k_whole; intro h' o' F' N' d'; (try dsimp only at N'); (try k_sweep)); clear hall9)
  k_with "storeName ref" => (k_here; (first | (rename (∀ p ∈ news, _ < _) => ln9) | (rename (∀ p ∈ _ :: _ :: news, _ < _) => ln9)); (have hall9 := all_ne1 ln9); k_dflt (refine' storeX_C ?stF ?stN ?stc ?stU ?std ?_ ?sta ?stb; (case sta => rfl); (case stb => rfl); (case stF => k_asm); (case stN => k_asm); (case stc => rfl); (case stU => k_updF); (case std => k_asm); k_whole; intro h' o' F' N' d'; (try dsimp only at N'); (try k_sweep)); clear hall9)
  k_with "CompSrc" => (k_here; k_dflt (refine LCg.CompSrc.range (by rfl) (by k_asm) (by k_asm) (by assumption) (by first | decide | rfl) (by first | rfl | decide) (by first | size_fits | exact Nat.le_of_ble_eq_true rfl) ?_; intro g'; lcg_lit))
  k_with "ite" => (with_reducible refine ite_self ?_)
  k_steps
  all_goals first | k_data | ((rename _ ∧ AllLt _ news => lF9); refine' hret _ _ _ _ _ _ _ _ _ ?e1 ?e2 ?e3 ?eF ?eN ?eO; (case eF => assumption); (case eN => exact drop_2 (by assumption)); (case eO => exact fun p hp => Nat.ne_of_lt (ktn_ltOf lF9.2 p hp)); (case e1 => exact rev4 _ _ _); (case e2 => exact rev4 _ _ _); (case e3 => exact rev4 _ _ _))
end
end Mine
namespace Mine
section
variable {w : World} {p : Program} {loose : List Str} {mean : ExcName → Option Value} {mg mb : Str → Option Value} {dp un : Nat} {gd : Option (List Code)} {a : Addr} {ccd : Value} {cl : List (Str × Addr)} {outer : List Env} {A₀ : Around} {base h₀ : Heap} {L : Addr} {m : Str → Option Value} {news : List (Addr × Obj)} {s : Shared} {Q : Flow → Shared → Prop} {E : Value → Shared → Prop}
set_option maxRecDepth 100000 in
set_option maxHeartbeats 8000000 in
theorem gcd_while {st : Stmt} {sc : Scope} {a0 b0 : Int} {ta tb : Tok} (hst : st = gcdStmt) (hsc : sc = (defAt 13).2)
    (B : Below A₀ base outer h₀) (F : Fr h₀ L s.heap m) (X : (hd.heap_39 w.params).In h₀) (N : News h₀ L s.heap news) (T : Top p loose mean mg mb h₀)
    (h1 : m (Str.ofString "one") = some (.int a0 ta)) (h2 : m (Str.ofString "other") = some (.int b0 tb)) (ha : 1 ≤ a0 ∧ a0 ≤ 1000) (hb : 0 ≤ b0 ∧ b0 ≤ 1000)
    (hd : dp + 10 < recursionLimit) (hu : un + 100 < cLine) (hE : PassesOwn (model PySem.Challenge.rw_hg0003_01.row.prog w) (ktrTop dp un gd (Str.ofString "_law_struck") sc L a ccd cl outer) (envX (Str.ofString "_law_struck") sc L a ccd cl) E)
    (hnext : ∀ m' h' tk' g tg, Fr h₀ L h' m' → News h₀ L h' news → (∀ y, y ≠ Str.ofString "one" → y ≠ Str.ofString "other" → m' y = m y) → m' (Str.ofString "one") = some (.int g tg) → 1 ≤ g → g ≤ 1000 → (∀ d : Int, d ∣ g → d ∣ a0 ∧ d ∣ b0) → Q .next { s with heap := h', toks := tk' }) :
    wpAny (model PySem.Challenge.rw_hg0003_01.row.prog w) (ktrTop dp un gd (Str.ofString "_law_struck") sc L a ccd cl outer) (exec st (envX (Str.ofString "_law_struck") sc L a ccd cl)) Q E s := by
  conv at hst => rhs; whnf
  conv at hsc => rhs; whnf
  subst hst hsc
  revert X; k_fill; intro X
  w_top off
  k_with_none
  k_with "execs nil" => ((with_reducible refine gen_toks ?_); intro tk9; refine wpAny_execs_nil ?_; dsimp only)
  with_unfolding_all refine' While_inv2 (fun n' m' news' => ∃ a' b' ta' tb', m' (Str.ofString "one") = some (.int a' ta') ∧ m' (Str.ofString "other") = some (.int b' tb') ∧ (∀ y, y ≠ Str.ofString "one" → y ≠ Str.ofString "other" → m' y = m y) ∧ news' = news ∧ 1 ≤ a' ∧ a' ≤ 1000 ∧ 0 ≤ b' ∧ b' ≤ 1000 ∧ (∀ d : Int, d ∣ a' → d ∣ b' → d ∣ a0 ∧ d ∣ b0) ∧ n' = b'.toNat) (n₀ := b0.toNat) F N ?whJ ?whT hE
  case whJ => exact ⟨a0, b0, ta, tb, h1, h2, fun _ _ _ => rfl, rfl, ha.1, ha.2, hb.1, hb.2, fun d e1 e2 => ⟨e1, e2⟩, rfl⟩
  clear F N
  rintro nn m₁ news₁ h₁ tk₁ F₁ N₁ ⟨a', b', ta', tb', hma, hmb, hmo, rfl, ha0, ha3, hb0, hb3, hdv, hnn⟩
  have F2 := canon1 (x := Str.ofString "other") (v := .int b' tb') F₁ hmb
  have F3 := canon1 (x := Str.ofString "one") (v := .int a' ta') F2 hma
  clear F₁ F2
  k_steps
  · obtain ⟨g1, g2, g3⟩ := gcd_turn (by omega) (by omega) hdv
    unfold WhileStep2
    dsimp only
    refine ⟨_, _, _, _, (a'.fmod b').toNat, rfl, by assumption, kti_tail (by assumption), by omega, b', a'.fmod b', _, _, rfl, rfl, fun y e1 e2 => ?_, rfl, by omega, hb3, g1, by omega, g3, rfl⟩
    simp only [if_neg e1, if_neg e2]
    exact hmo y e1 e2
  · have hz : b' = 0 := by omega
    exact hnext _ _ _ a' _ F3 (by assumption) (fun y e1 e2 => by simp only [if_neg e1, if_neg e2]; exact hmo y e1 e2) rfl ha0 ha3 (fun d hd' => hdv d hd' (by rw [hz]; exact Int.dvd_zero d))
end
end Mine
namespace Mine
theorem tab_pick {qual : Str} {line col : Int} {l : List (Addr × Obj)} {ps : Array Value} (h : TabOk qual line col l ps) :
    ∃ e : List (Addr × Obj), (∀ q ∈ e, q ∈ l ∧ ∃ vs t, q.2.data = .fields vs ∧ vs[1]? = some (.str qual t)) ∧ ∀ l', (∀ q ∈ e, q ∈ l') → TabOk qual line col l' ps := by
  rcases h with h | ⟨c, oc, vs, t, h1, h2, h3, h4⟩
  · exact ⟨[], (fun _ h => by simp at h), fun _ _ => .inl h⟩
  · refine ⟨[(c, oc)], fun q hq => ?_, fun l' hl => .inr ⟨c, oc, vs, t, h1, hl _ (by simp), h3, h4⟩⟩
    rw [List.mem_singleton.mp hq]
    exact ⟨h2, vs, t, h3, h4⟩
section
variable {w : World} {p : Program} {loose : List Str} {mean : ExcName → Option Value} {mg mb : Str → Option Value} {dp un : Nat} {gd : Option (List Code)} {cn : Str} {csn : List (Str × NameKind)} {csg csc : Bool} {csm : List (Str × Const)} {a : Addr} {ccd : Value} {cl : List (Str × Addr)} {outer : List Env} {A₀ : Around} {base h₀ : Heap} {L : Addr} {m : Str → Option Value} {s : Shared} {Q E : Value → Shared → Prop}
theorem divmod_turn {x g : Int} {tx tg : Tok} {ps1 ps2 : Array Value} {I C D ax : Addr} {oI oC : Obj} {ys : List Value} {j : Int} {m₂ : Str → Option Value} {bs : List (Addr × Obj)}
    (B : Below A₀ base outer h₀) (F : Fr h₀ L s.heap m) (X : (hd.heap_39 w.params).In h₀) (T : Top p loose mean mg mb h₀)
    (N : News h₀ L s.heap ((I, oI) :: (C, oC) :: (D, LCg.lst ys) :: (44, tabObj ps1) :: (51, tabObj ps2) :: bs))
    (dI : oI.data = .fields #[.ref ax, .int j 0]) (hC : LCg.NsObj oC m₂) (off : ∀ p ∈ (44, tabObj ps1) :: (51, tabObj ps2) :: bs, p.1 ≠ I ∧ p.1 ≠ C ∧ p.1 ≠ D)
    (C1 : CodeHd base 48 44) (C2 : CodeHd base 55 51) (ha1 : ∀ q ∈ bs, q.1 ≠ 44) (ha2 : ∀ q ∈ bs, q.1 ≠ 51)
    (hp1 : TabOk (Str.ofString "_int2digits.<locals>.inner") 50 4 bs ps1) (hp2 : TabOk (Str.ofString "_digits2int.<locals>.inner") 65 4 bs ps2)
    (hx : 1 ≤ x ∧ x ≤ 1000) (hg : 1 ≤ g ∧ g ≤ 1000) (hgx : g ∣ x)
    (hd : dp + 80 < recursionLimit) (hu : un + 700 < cLine)
    (hret : ∀ D9 h' tk' t1 t2 bs' ps1' ps2', Fr h₀ L h' m → News h₀ L h' ((I, oI) :: (C, oC) :: (D, LCg.lst ys) :: (44, tabObj ps1') :: (51, tabObj ps2') :: bs') → (∀ p ∈ (44, tabObj ps1') :: (51, tabObj ps2') :: bs', p.1 ≠ I ∧ p.1 ≠ C ∧ p.1 ≠ D) →
      (∀ q ∈ bs', q.1 ≠ 44) → (∀ q ∈ bs', q.1 ≠ 51) → TabOk (Str.ofString "_int2digits.<locals>.inner") 50 4 bs' ps1' → TabOk (Str.ofString "_digits2int.<locals>.inner") 65 4 bs' ps2' →
      (D9, tup [.int (x / g) t1, .int 0 t2]) ∈ bs' → (∀ q ∈ bs, q ∈ bs') → Q (.ref D9) { s with heap := h', toks := tk' }) :
    wpAny (model PySem.Challenge.rw_hg0003_01.row.prog w) (ktrTop dp un gd cn ⟨.function, csn, csg, csc, csm⟩ L a ccd cl outer) (call (.ref 70) [.int x tx, .int g tg]) Q E s := by
  have o44 := off (44, tabObj ps1) (by simp)
  have o51 := off (51, tabObj ps2) (by simp)
  refine int_divmod_ok (news := (I, oI) :: (C, oC) :: (D, LCg.lst ys) :: bs) B F X (cb_drop N fun q hq => ?_) T C1 C2 ?_ ?_ (hp1.mono fun q hq => by simp [hq]) (hp2.mono fun q hq => by simp [hq]) hx.1 hx.2 hg.1 hg.2 hd hu (fun D9 h' tk' t1 t2 q1 q2 ps1' ps2' F' N' p1 p2 a1 a2 l => ?_)
  · simp only [List.mem_cons] at hq ⊢
    rcases hq with h | h | h | h | h | h <;> simp [h]
  · refine List.forall_mem_cons.mpr ⟨Ne.symm o44.1, List.forall_mem_cons.mpr ⟨Ne.symm o44.2.1, List.forall_mem_cons.mpr ⟨Ne.symm o44.2.2, ha1⟩⟩⟩
  · refine List.forall_mem_cons.mpr ⟨Ne.symm o51.1, List.forall_mem_cons.mpr ⟨Ne.symm o51.2.1, List.forall_mem_cons.mpr ⟨Ne.symm o51.2.2, ha2⟩⟩⟩
  rw [Int.emod_eq_zero_of_dvd hgx] at N'
  obtain ⟨e1, k1, z1⟩ := tab_pick p1
  obtain ⟨e2, k2, z2⟩ := tab_pick p2
  have gI := (N' (I, oI) (by simp)).1
  have gC := (N' (C, oC) (by simp)).1
  have gD := (N' (D, LCg.lst ys) (by simp)).1
  have key : ∀ q : Addr × Obj, q ∈ q1 :: q2 :: (I, oI) :: (C, oC) :: (D, LCg.lst ys) :: bs → (∃ vs qual t, q.2.data = .fields vs ∧ vs[1]? = some (.str qual t)) → q.1 ≠ I ∧ q.1 ≠ C ∧ q.1 ≠ D := fun q hq ⟨vs, qual, t, d, v1⟩ => by
    have gq : h'.get? q.1 = some q.2 := (N' q (List.mem_cons_of_mem _ (List.mem_cons_of_mem _ (List.mem_cons_of_mem _ hq)))).1
    refine ⟨fun e => ?_, fun e => ?_, fun e => ?_⟩
    · rw [e, gI] at gq
      rw [← Option.some.inj gq, dI] at d
      injection d with d
      rw [← d] at v1
      simp at v1
    · rw [e, gC] at gq
      obtain ⟨es, ep, dd, _⟩ := hC
      rw [← Option.some.inj gq, dd] at d
      cases d
    · rw [e, gD] at gq
      rw [← Option.some.inj gq] at d
      cases d
  have lall := ktn_ltOf l
  refine hret D9 h' tk' t1 t2 (e1 ++ (e2 ++ ((D9, tup [.int (x / g) t1, .int 0 t2]) :: bs))) ps1' ps2' F' (cb_drop N' fun q hq => ?_) ?_ ?_ ?_ (z1 _ fun q hq => by simp [hq]) (z2 _ fun q hq => by simp [hq]) (by simp) (fun q hq => by simp [hq])
  · simp only [List.mem_cons, List.mem_append] at hq
    rcases hq with h | h | h | h | h | h | h | h | h
    · simp [h]
    · simp [h]
    · simp [h]
    · simp [h]
    · simp [h]
    · exact List.mem_cons_of_mem _ (List.mem_cons_of_mem _ (List.mem_cons_of_mem _ (k1 q h).1))
    · exact List.mem_cons_of_mem _ (List.mem_cons_of_mem _ (List.mem_cons_of_mem _ (k2 q h).1))
    · simp [h]
    · simp [h]
  · intro q hq
    simp only [List.mem_cons, List.mem_append] at hq
    rcases hq with h | h | h | h | h | h
    · rw [h]; exact o44
    · rw [h]; exact o51
    · obtain ⟨m1, vs, t, d, v⟩ := k1 q h
      exact key q m1 ⟨vs, _, t, d, v⟩
    · obtain ⟨m1, vs, t, d, v⟩ := k2 q h
      exact key q m1 ⟨vs, _, t, d, v⟩
    · rw [h]
      exact ⟨Nat.ne_of_gt (lall (I, oI) (by simp)), Nat.ne_of_gt (lall (C, oC) (by simp)), Nat.ne_of_gt (lall (D, LCg.lst ys) (by simp))⟩
    · exact off q (by simp [h])
  · intro q hq
    simp only [List.mem_cons, List.mem_append] at hq
    rcases hq with h | h | h | h
    · exact a1 q (k1 q h).1
    · exact a1 q (k2 q h).1
    · rw [h]; exact Nat.ne_of_gt l.1
    · exact ha1 q h
  · intro q hq
    simp only [List.mem_cons, List.mem_append] at hq
    rcases hq with h | h | h | h
    · exact a2 q (k1 q h).1
    · exact a2 q (k2 q h).1
    · rw [h]; exact Nat.ne_of_gt l.2.1
    · exact ha2 q h
theorem endl {I C D ax : Addr} {oI oC oD lo : Obj} {news' : List (Addr × Obj)} {R : Value → List (Addr × Obj) → Prop} {y : Value} {h' : Heap} {tk : Nat} (F : Fr h₀ L h' m) (N : News h₀ L h' ((I, oI) :: (C, oC) :: (D, oD) :: news'))
    (off : ∀ p ∈ news', p.1 ≠ I ∧ p.1 ≠ C ∧ p.1 ≠ D) (hm : (ax, lo) ∈ news') (r : R y news') : EndC h₀ L m s [(I, oI), (C, oC), (D, oD)] (fun y news' => (ax, lo) ∈ news' ∧ R y news') y { s with heap := h', toks := tk } :=
  ⟨h', tk, news', rfl, F, N, fun p hp q hq => by
    have := off p hp
    simp only [List.mem_cons, List.not_mem_nil, or_false] at hq
    rcases hq with rfl | rfl | rfl
    · exact this.1
    · exact this.2.1
    · exact this.2.2, hm, r⟩
theorem prep {c aN b : Addr} {o' lo : Obj} {h : Heap} {ps1 ps2 : Array Value} {news : List (Addr × Obj)} (N : News h₀ L h ((c, o') :: (44, tabObj ps1) :: (51, tabObj ps2) :: news)) (hb : @LT.lt Nat _ 44 b ∧ @LT.lt Nat _ 51 b ∧ AllLt b news) (hc : c = b + 1)
    (ha1 : ∀ q ∈ news, q.1 ≠ 44) (ha2 : ∀ q ∈ news, q.1 ≠ 51) (hp1 : TabOk (Str.ofString "_int2digits.<locals>.inner") 50 4 news ps1) (hp2 : TabOk (Str.ofString "_digits2int.<locals>.inner") 65 4 news ps2) (mN : (aN, lo) ∈ news) :
    ∃ bs, News h₀ L h ((44, tabObj ps1) :: (51, tabObj ps2) :: bs) ∧ (c, o') ∈ bs ∧ (aN, lo) ∈ bs ∧ (∀ q ∈ bs, q.1 ≠ 44) ∧ (∀ q ∈ bs, q.1 ≠ 51) ∧ TabOk (Str.ofString "_int2digits.<locals>.inner") 50 4 bs ps1 ∧ TabOk (Str.ofString "_digits2int.<locals>.inner") 65 4 bs ps2 ∧ ∀ q ∈ news, q ∈ bs := by
  refine ⟨(c, o') :: news, cb_drop N fun q hq => ?_, List.mem_cons_self, List.mem_cons_of_mem _ mN, List.forall_mem_cons.mpr ⟨?_, ha1⟩, List.forall_mem_cons.mpr ⟨?_, ha2⟩, hp1.mono fun _ h => List.mem_cons_of_mem _ h, hp2.mono fun _ h => List.mem_cons_of_mem _ h, fun _ h => List.mem_cons_of_mem _ h⟩
  · simp only [List.mem_cons] at hq ⊢
    rcases hq with h | h | h | h <;> simp [h]
  · rw [hc]; exact Nat.ne_of_gt (Nat.lt_succ_of_lt hb.1)
  · rw [hc]; exact Nat.ne_of_gt (Nat.lt_succ_of_lt hb.2.1)
theorem struck_news {h : Heap} {d q2 q3 q4 t1 t2 : Addr × Obj} {bs news : List (Addr × Obj)} (N : News h₀ L h (d :: q2 :: q3 :: q4 :: t1 :: t2 :: bs)) (hs : ∀ q ∈ news, q ∈ bs) : News h₀ L h (d :: t1 :: t2 :: news) := cb_drop N fun q hq => by
  simp only [List.mem_cons] at hq ⊢
  rcases hq with h | h | h | h
  · simp [h]
  · simp [h]
  · simp [h]
  · simp [hs q h]
theorem off1_mem {D : Addr} : ∀ {l : List (Addr × Obj)}, LCg.Off1 D l → ∀ p ∈ l, p.1 ≠ D
  | [], _, _, h => by simp at h
  | _ :: _, x, p, h => by
    rcases List.mem_cons.mp h with rfl | h
    · exact x.1
    · exact off1_mem x.2 p h
end
end Mine
namespace Mine
section
variable {w : World} {p : Program} {loose : List Str} {mean : ExcName → Option Value} {mg mb : Str → Option Value} {dp un : Nat} {gd : Option (List Code)} {cn : Str} {csn : List (Str × NameKind)} {csg csc : Bool} {csm : List (Str × Const)} {a : Addr} {ccd : Value} {cl : List (Str × Addr)} {outer : List Env} {A₀ : Around} {base h₀ : Heap} {L : Addr} {m : Str → Option Value} {news : List (Addr × Obj)} {s : Shared} {Q E : Value → Shared → Prop}
set_option maxRecDepth 100000 in
set_option maxHeartbeats 8000000 in
theorem struck_ok {aN : Addr} {x y z : Int} {tx ty tz : Tok} {kN : Nat} {ps1 ps2 : Array Value}
    (B : Below A₀ base outer h₀) (F : Fr h₀ L s.heap m) (X : (hd.heap_39 w.params).In h₀) (N : News h₀ L s.heap ((44, tabObj ps1) :: (51, tabObj ps2) :: news)) (T : Top p loose mean mg mb h₀)
    (HC1 : CodeHd base 48 44) (HC2 : CodeHd base 55 51) (ha1 : ∀ q ∈ news, q.1 ≠ 44) (ha2 : ∀ q ∈ news, q.1 ≠ 51)
    (hp1 : TabOk (Str.ofString "_int2digits.<locals>.inner") 50 4 news ps1) (hp2 : TabOk (Str.ofString "_digits2int.<locals>.inner") 65 4 news ps2)
    (mN : (aN, W.listOf #[.int x tx, .int y ty, .int z tz] kN) ∈ news)
    (hx : 1 ≤ x ∧ x ≤ 1000) (hy : 1 ≤ y ∧ y ≤ 1000) (hz : 1 ≤ z ∧ z ≤ 1000)
    (hd : dp + 120 < recursionLimit) (hu : un + 1000 < cLine)
    (hret : ∀ D h' tk' u v r g t1 t2 t3 ps1' ps2', x = g * u → y = g * v → z = g * r → 1 ≤ g → g ≤ 1000 → Fr h₀ L h' m → News h₀ L h' ((D, LCg.lst [.int u t1, .int v t2, .int r t3]) :: (44, tabObj ps1') :: (51, tabObj ps2') :: news) → (∀ p ∈ news, p.1 ≠ D) → Q (.ref D) { s with heap := h', toks := tk' }) :
    wpAny (model PySem.Challenge.rw_hg0003_01.row.prog w) (ktrTop dp un gd cn ⟨.function, csn, csg, csc, csm⟩ L a ccd cl outer) (call (.ref 80) [.ref aN]) Q E s := by
  revert X; k_fill; intro X
  w_top off
  k_with_none
  k_with "execs nil" => ((with_reducible refine gen_toks ?_); intro tk9; refine wpAny_execs_nil ?_; dsimp only)
  k_with "subscriptTail Name Constant ref int" => ((with_reducible show wpAny _ _ (subscriptTail _ _ (Value.ref _) (Value.int _ _)) _ _ _); k_dflt ((refine kba_turn (value' := PySem.Expr.Name (PySem.Str.ofString "_") ⟨0, 0, 0, 0⟩) (fun _ => rfl) ?_); first | (refine' kim_tup ?itN ?itm ?itc ?itd ?itlo ?ithi ?itj ?itx ?_ ?its; (case itN => k_asm); (case itm => k_mem); (case itc => exact rfl); (case itd => exact rfl); (case itlo => decide); (case ithi => decide); (case itj => exact rfl); (case itx => exact rfl); (case its => with_unfolding_all rfl)) | (refine' kim_list ?itN ?itm ?itc ?itd ?itlo ?ithi ?itx ?_ ?its; (case itN => k_asm); (case itm => k_mem); (case itc => exact rfl); (case itd => exact rfl); (case itlo => decide); (case ithi => decide); (case itx => exact rfl); (case its => with_unfolding_all rfl))))
  k_with "subscriptTail" => ((with_reducible show wpAny _ _ (subscriptTail _ _ (Value.ref _) (Value.int _ _)) _ _ _); k_dflt ((refine kba_turn (value' := PySem.Expr.Name (PySem.Str.ofString "_") ⟨0, 0, 0, 0⟩) (fun _ => rfl) ?_); first | (refine' kim_tup ?itN ?itm ?itc ?itd ?itlo ?ithi ?itj ?itx ?_ ?its; (case itN => k_asm); (case itm => k_mem); (case itc => exact rfl); (case itd => exact rfl); (case itlo => decide); (case ithi => decide); (case itj => exact rfl); (case itx => exact rfl); (case its => with_unfolding_all rfl)) | (refine' kim_list ?itN ?itm ?itc ?itd ?itlo ?ithi ?itx ?_ ?its; (case itN => k_asm); (case itm => k_mem); (case itc => exact rfl); (case itd => exact rfl); (case itlo => decide); (case ithi => decide); (case itx => exact rfl); (case its => with_unfolding_all rfl))))
  k_with "subscriptTail Name Name ref int" => ((with_reducible show wpAny _ _ (subscriptTail _ _ (Value.ref _) (Value.int _ _)) _ _ _); k_dflt ((refine kba_turn (value' := PySem.Expr.Name (PySem.Str.ofString "_") ⟨0, 0, 0, 0⟩) (fun _ => rfl) ?_); first | (refine' kim_tup ?itN ?itm ?itc ?itd ?itlo ?ithi ?itj ?itx ?_ ?its; (case itN => k_asm); (case itm => k_mem); (case itc => exact rfl); (case itd => exact rfl); (case itlo => decide); (case ithi => decide); (case itj => exact rfl); (case itx => exact rfl); (case its => with_unfolding_all rfl)) | (refine' kim_list ?itN ?itm ?itc ?itd ?itlo ?ithi ?itx ?_ ?its; (case itN => k_asm); (case itm => k_mem); (case itc => exact rfl); (case itd => exact rfl); (case itlo => decide); (case ithi => decide); (case itx => exact rfl); (case its => with_unfolding_all rfl))))
  k_with "subscriptTail Name BinOp ref int" => ((with_reducible show wpAny _ _ (subscriptTail _ _ (Value.ref _) (Value.int _ _)) _ _ _); k_dflt ((refine kba_turn (value' := PySem.Expr.Name (PySem.Str.ofString "_") ⟨0, 0, 0, 0⟩) (fun _ => rfl) ?_); first | (refine' kim_tup ?itN ?itm ?itc ?itd ?itlo ?ithi ?itj ?itx ?_ ?its; (case itN => k_asm); (case itm => k_mem); (case itc => exact rfl); (case itd => exact rfl); (case itlo => decide); (case ithi => decide); (case itj => exact rfl); (case itx => exact rfl); (case its => with_unfolding_all rfl)) | (refine' kim_list ?itN ?itm ?itc ?itd ?itlo ?ithi ?itx ?_ ?its; (case itN => k_asm); (case itm => k_mem); (case itc => exact rfl); (case itd => exact rfl); (case itlo => decide); (case ithi => decide); (case itx => exact rfl); (case its => with_unfolding_all rfl))))
  k_with "subscriptTail Subscript Name Name Constant ref int" => ((with_reducible show wpAny _ _ (subscriptTail _ _ (Value.ref _) (Value.int _ _)) _ _ _); k_dflt ((refine kba_turn (value' := PySem.Expr.Name (PySem.Str.ofString "_") ⟨0, 0, 0, 0⟩) (fun _ => rfl) ?_); first | (refine' kim_tup ?itN ?itm ?itc ?itd ?itlo ?ithi ?itj ?itx ?_ ?its; (case itN => k_asm); (case itm => k_mem); (case itc => exact rfl); (case itd => exact rfl); (case itlo => decide); (case ithi => decide); (case itj => exact rfl); (case itx => exact rfl); (case its => with_unfolding_all rfl)) | (refine' kim_list ?itN ?itm ?itc ?itd ?itlo ?ithi ?itx ?_ ?its; (case itN => k_asm); (case itm => k_mem); (case itc => exact rfl); (case itd => exact rfl); (case itlo => decide); (case ithi => decide); (case itx => exact rfl); (case its => with_unfolding_all rfl))))
  k_with "subscriptTail Subscript Name Constant Constant ref int" => ((with_reducible show wpAny _ _ (subscriptTail _ _ (Value.ref _) (Value.int _ _)) _ _ _); k_dflt ((refine kba_turn (value' := PySem.Expr.Name (PySem.Str.ofString "_") ⟨0, 0, 0, 0⟩) (fun _ => rfl) ?_); first | (refine' kim_tup ?itN ?itm ?itc ?itd ?itlo ?ithi ?itj ?itx ?_ ?its; (case itN => k_asm); (case itm => k_mem); (case itc => exact rfl); (case itd => exact rfl); (case itlo => decide); (case ithi => decide); (case itj => exact rfl); (case itx => exact rfl); (case its => with_unfolding_all rfl)) | (refine' kim_list ?itN ?itm ?itc ?itd ?itlo ?ithi ?itx ?_ ?its; (case itN => k_asm); (case itm => k_mem); (case itc => exact rfl); (case itd => exact rfl); (case itlo => decide); (case ithi => decide); (case itx => exact rfl); (case its => with_unfolding_all rfl))))
  k_with "subscriptTail Subscript Name Name Name ref int" => ((with_reducible show wpAny _ _ (subscriptTail _ _ (Value.ref _) (Value.int _ _)) _ _ _); k_dflt ((refine kba_turn (value' := PySem.Expr.Name (PySem.Str.ofString "_") ⟨0, 0, 0, 0⟩) (fun _ => rfl) ?_); first | (refine' kim_tup ?itN ?itm ?itc ?itd ?itlo ?ithi ?itj ?itx ?_ ?its; (case itN => k_asm); (case itm => k_mem); (case itc => exact rfl); (case itd => exact rfl); (case itlo => decide); (case ithi => decide); (case itj => exact rfl); (case itx => exact rfl); (case its => with_unfolding_all rfl)) | (refine' kim_list ?itN ?itm ?itc ?itd ?itlo ?ithi ?itx ?_ ?its; (case itN => k_asm); (case itm => k_mem); (case itc => exact rfl); (case itd => exact rfl); (case itlo => decide); (case ithi => decide); (case itx => exact rfl); (case its => with_unfolding_all rfl))))
  k_with "subscriptTail Subscript Name Name BinOp ref int" => ((with_reducible show wpAny _ _ (subscriptTail _ _ (Value.ref _) (Value.int _ _)) _ _ _); k_dflt ((refine kba_turn (value' := PySem.Expr.Name (PySem.Str.ofString "_") ⟨0, 0, 0, 0⟩) (fun _ => rfl) ?_); first | (refine' kim_tup ?itN ?itm ?itc ?itd ?itlo ?ithi ?itj ?itx ?_ ?its; (case itN => k_asm); (case itm => k_mem); (case itc => exact rfl); (case itd => exact rfl); (case itlo => decide); (case ithi => decide); (case itj => exact rfl); (case itx => exact rfl); (case its => with_unfolding_all rfl)) | (refine' kim_list ?itN ?itm ?itc ?itd ?itlo ?ithi ?itx ?_ ?its; (case itN => k_asm); (case itm => k_mem); (case itc => exact rfl); (case itd => exact rfl); (case itlo => decide); (case ithi => decide); (case itx => exact rfl); (case its => with_unfolding_all rfl))))
  k_with "subscriptTail Subscript Name Constant Name ref int" => ((with_reducible show wpAny _ _ (subscriptTail _ _ (Value.ref _) (Value.int _ _)) _ _ _); k_dflt ((refine kba_turn (value' := PySem.Expr.Name (PySem.Str.ofString "_") ⟨0, 0, 0, 0⟩) (fun _ => rfl) ?_); first | (refine' kim_tup ?itN ?itm ?itc ?itd ?itlo ?ithi ?itj ?itx ?_ ?its; (case itN => k_asm); (case itm => k_mem); (case itc => exact rfl); (case itd => exact rfl); (case itlo => decide); (case ithi => decide); (case itj => exact rfl); (case itx => exact rfl); (case its => with_unfolding_all rfl)) | (refine' kim_list ?itN ?itm ?itc ?itd ?itlo ?ithi ?itx ?_ ?its; (case itN => k_asm); (case itm => k_mem); (case itc => exact rfl); (case itd => exact rfl); (case itlo => decide); (case ithi => decide); (case itx => exact rfl); (case its => with_unfolding_all rfl))))
  k_with "callWith ref nil nil" => (k_here; k_dflt (first | (refine' callWith_K ?kq1 ?kq2 ?_; (case kq1 => k_asm); (case kq2 => k_is); k_whole) | (refine' callWith_K0 ?kq1 ?kq2 ?_; (case kq1 => k_in); (case kq2 => k_is); k_whole)))
  k_with "exec For Name Call cons nil" => (k_here; (rename Fr _ _ _ _ => lF'); (with_unfolding_all refine' For_turns lF' ?_ ?k4 ?kE; (case k4 => (intro _; rfl)); (case kE => first | assumption | passes_own | with_unfolding_all passes_own); k_whole))
  k_with "exec For Name Name cons nil" => (k_here; (rename Fr _ _ _ _ => lF'); (with_unfolding_all refine' For_turns lF' ?_ ?k4 ?kE; (case k4 => (intro _; rfl)); (case kE => first | assumption | passes_own | with_unfolding_all passes_own); k_whole))
  k_with "pyIter ref" => ((with_reducible show wpAny _ _ (pyIter (Value.ref _)) (fun it s₂ => TurnsAt _ _ _ _ _ _ _ _ _ it s₂) _ _); (rename Fr _ _ _ _ => lF'); (rename News _ _ _ _ => lN'); (first | (with_unfolding_all refine iter_rangeF (n := 3) (by rfl) (by assumption) (by first | decide | rfl) (by first | decide | rfl) lF' lN' ?_) | (with_unfolding_all refine iter_rangeF (n := 4) (by rfl) (by assumption) (by first | decide | rfl) (by first | decide | rfl) lF' lN' ?_) | (with_unfolding_all refine' iter_listTurns (vs := [.ref _, .ref _, .ref _]) ?ih lF' lN' ?im ?ic ?id ?_; (case im => exact List.mem_cons_self); (case ih => rfl); (case ic => rfl); (case id => rfl)) | (with_unfolding_all refine' iter_listTurns (vs := [.int _ _, .int _ _, .int _ _]) ?ih lF' lN' ?im ?ic ?id ?_; (case im => k_mem); (case ih => rfl); (case ic => rfl); (case id => rfl))); clear lF' lN'; intro I7 l7; have off7 := lt_ne l7; (try k_lt l7))
  k_with "RestF" => (k_dflt (first | ((first | (have hh9 := hout; clear hh9) | (have hout := l7; have offO := off7)); refine RestF.succ ?_; intro t7 h7 tk7 F7 N7; (try dsimp only)) | (refine RestF.zero ?_; intro h7 tk7 F7 N7; (try dsimp only))))
  k_with "storeName int" => (k_here; (rename _ ∧ _ ∧ AllLt _ news => ln9); (have hall9 := all_ne2 (o1 := tabObj ps1) (o2 := tabObj ps2) ln9); k_dflt (refine' storeX_C ?stF ?stN ?stc ?stU ?std ?_ ?sta ?stb; (case sta => rfl); (case stb => rfl); (case stF => k_asm); (case stN => k_asm); (case stc => rfl); (case stU => k_updF); (case std => k_asm); k_whole; intro h' o' F' N' d'; (try dsimp only at N'); (try k_sweep)); clear hall9)
  k_with "storeName ref" => (k_here; (rename _ ∧ _ ∧ AllLt _ news => ln9); (have hall9 := all_ne2 (o1 := tabObj ps1) (o2 := tabObj ps2) ln9); k_dflt (refine' storeX_C ?stF ?stN ?stc ?stU ?std ?_ ?sta ?stb; (case sta => rfl); (case stb => rfl); (case stF => k_asm); (case stN => k_asm); (case stc => rfl); (case stU => k_updF); (case std => k_asm); k_whole; intro h' o' F' N' d'; (try dsimp only at N'); (try k_sweep)); clear hall9)
  k_with "eval ListComp Name cons" => (k_dflt (first | ((with_reducible show wpAny _ _ (eval (Expr.ListComp _ [⟨_, _, [_], _⟩] _ _) _) _ _ _); refine' listComp_N ?lcfr ?lcF ?lcK ?lcQ ?lcN ?lcX ?lcY ?lcZ ?_ ?lcS; (case lcK => with_unfolding_all decide); (case lcX => with_unfolding_all rfl); (case lcY => with_unfolding_all rfl); (case lcZ => decide); (case lcfr => k_asm); (case lcF => with_unfolding_all rfl); (case lcQ => with_unfolding_all rfl); (case lcN => with_unfolding_all decide); (case lcS => (intro _; with_unfolding_all rfl))) | (refine LCp.ListComp_P (F₀ := by k_asm) (by with_unfolding_all rfl) (by decide) (by rfl) (by decide) (by rfl) (by rfl) (by decide) ?_)))
  k_with "SrcN" => ((rename Fr _ _ _ _ => lF'); (rename News _ _ _ _ => lN'); k_dflt (refine' srcN3 ?s1 lF' lN' List.mem_cons_self ?s2 ?s3 ?s4 ?p1 ?p2; (case s1 => rfl); (case s2 => exact List.mem_cons_of_mem _ (List.mem_cons_of_mem _ (List.mem_cons_of_mem _ mt1))); (case s3 => exact List.mem_cons_of_mem _ (List.mem_cons_of_mem _ (List.mem_cons_of_mem _ mt2))); (case s4 => exact List.mem_cons_of_mem _ (List.mem_cons_of_mem _ (List.mem_cons_of_mem _ mt3))); (case' p1 => (clear lF' lN'; intro u8 t8 I8 oI8 C8 oC8 D8b m8 g8 tk8 E8 hC8 hx8 hy8 F8 N8; (try dsimp only))); (case' p2 => (clear lF' lN'; intro D8b h8 tk8 F8 N8 o8b; (try dsimp only)))))
  k_with "exec Assign cons ListComp" => (k_dflt (first | (refine' asgComp_L ?lcfr ?lcW ?lcF ?lcK ?lcQ ?lcN ?lcX ?lcY ?lcP ?_ ?lcS; (case lcK => with_unfolding_all decide); (case lcX => with_unfolding_all rfl); (case lcY => with_unfolding_all rfl); (case lcP => with_unfolding_all rfl); (case lcfr => k_asm); (case lcW => with_unfolding_all rfl); (case lcF => with_unfolding_all rfl); (case lcQ => with_unfolding_all rfl); (case lcN => with_unfolding_all decide); (case lcS => (intro _; with_unfolding_all rfl)))))
  k_with "SrcL'" => ((rename Fr _ _ _ _ => lF'); (rename News _ _ _ _ => lN'); (rename _ ∧ _ ∧ AllLt _ news => ln9); obtain ⟨bs8, N8, mc8, mN8, ha18, ha28, hp18, hp28, hs8⟩ := prep lN' ln9 rfl ha1 ha2 hp1 hp2 mN; k_dflt (refine SrcL'.mk (vs := [.int _ _, .int _ _, .int _ _]) (by rfl) lF' N8 (List.mem_cons_of_mem _ (List.mem_cons_of_mem _ mN8)) (by rfl) (by rfl) (Nat.le_of_ble_eq_true rfl) ?_; intro g8); clear lN')
  k_with "RestL" => (k_dflt (first | (refine RestL.succ ?_; intro I9 oI9 C9 oC9 D9 m9 j9 h9 tk9 E9 dI9 hC9 hx9 F9 N9 off9 ne9; (try dsimp only)) | refine RestL.zero ?_))
  k_with "call ref cons nil" => ((with_reducible show wpAny _ _ (call (Value.ref 70) _) _ _ _); k_dflt (refine' divmod_turn ?k1 ?k2 ?k3 ?k4 ?kN dI9 hC9 off9 HC1 HC2 ha18 ha28 hp18 hp28 ?x0 ⟨gg1, gg2⟩ ?gx ?ld ?lu ?_; (case k1 => k_asm); (case k2 => k_asm); (case k3 => k_asm); (case k4 => k_asm); (case kN => k_asm); (case x0 => first | exact hx | exact hy | exact hz); (case gx => first | exact (gdv3 _ (gdv2 _ (gdv1 _ (Int.dvd_refl _)).2).2).1 | exact (gdv2 _ (gdv1 _ (Int.dvd_refl _)).2).1 | exact (gdv1 _ (Int.dvd_refl _)).1); (case ld => first | exact roomk hd (Nat.le_of_ble_eq_true rfl) | ((try dsimp only [Around.deeper]); omega)); (case lu => first | exact roomk hu (Nat.le_of_ble_eq_true rfl) | ((try dsimp only [Around.deeper]); omega)); intro Dt8 h8 tk8 t81 t82 bs9 ps81 ps82 F8 N8 off8 ha18 ha28 hp18 hp28 mD8 hsub8; have mc8 := hsub8 _ mc8; have mN8 := hsub8 _ mN8; have hs8 := fun q hq => hsub8 q (hs8 q hq); (first | (have mt2 := hsub8 _ mt2; have mt1 := hsub8 _ mt1; have mt3 := mD8) | (have mt1 := hsub8 _ mt1; have mt2 := mD8) | have mt1 := mD8); (try dsimp only)))
  k_with "EndC" => (k_dflt (refine endl F8 N8 off8 (List.mem_cons_of_mem _ (List.mem_cons_of_mem _ mN8)) ?_))
  k_with "FinAs" => (k_dflt ((unfold FinAs); intro D8 h8 tk8 F8 N8 o8; (try simp only [List.nil_append, List.cons_append] at N8); (try dsimp only)))
  k_with "UnrEndW" => ((rename Fr _ _ _ _ => lF'); (rename News _ _ _ _ => lN'); k_dflt (refine unrw_endS lF' lN' off7 (by k_mem) ?_))
  k_with "exec While Compare cons nil" => ((rename Fr _ _ _ _ => lF'); (rename News _ _ _ _ => lN'); k_dflt (refine' gcd_while ?w1 ?w2 ?w3 lF' ?w4 lN' ?w5 ?w6 ?w7 ?w8 ?w9 ?wa ?wb ?wE ?_; (case w1 => rfl); (case w2 => rfl); (case w3 => k_asm); (case w4 => k_asm); (case w5 => k_asm); (case w6 => rfl); (case w7 => rfl); (case w8 => first | exact hx | exact hy | exact hz); (case w9 => exact ⟨by omega, by omega⟩); (case wa => first | exact roomk hd (Nat.le_of_ble_eq_true rfl) | ((try dsimp only [Around.deeper]); omega)); (case wb => first | exact roomk hu (Nat.le_of_ble_eq_true rfl) | ((try dsimp only [Around.deeper]); omega)); (case wE => first | passes_own | with_unfolding_all passes_own)); clear lF' lN'; intro m5 h5 tk5 gg tg5 F5 N5 mo5 e5 gg1 gg2 gdv; (first | (have gdv3 := gdv2; have gdv2 := gdv1; have gdv1 := gdv) | (have gdv2 := gdv1; have gdv1 := gdv) | have gdv1 := gdv); have F6 := canon1 (x := Str.ofString "numbers") (v := .ref aN) (canon1 F5 e5) ((if_neg (by decide)).trans ((mo5 _ (by decide) (by decide)).trans rfl)); clear F5)
  k_with "eval ListComp Call cons" => (k_dflt (refine' listComp_C ?lcfr ?lcF ?lcK ?lcQ ?lcN ?lcX ?_ ?lcS; (case lcfr => k_asm); (case lcK => with_unfolding_all rfl); (case lcX => with_unfolding_all rfl); (case lcF => with_unfolding_all rfl); (case lcQ => with_unfolding_all rfl); (case lcN => with_unfolding_all decide); (case lcS => (intro _; with_unfolding_all rfl))))
  k_with "eval ListComp ListComp cons" => (k_dflt (refine' listComp_C ?lcfr ?lcF ?lcK ?lcQ ?lcN ?lcX ?_ ?lcS; (case lcfr => k_asm); (case lcK => with_unfolding_all rfl); (case lcX => with_unfolding_all rfl); (case lcF => with_unfolding_all rfl); (case lcQ => with_unfolding_all rfl); (case lcN => with_unfolding_all decide); (case lcS => (intro _; with_unfolding_all rfl))))
  k_with "SrcC" => (k_dflt (refine SrcC.range (by rfl) (by k_asm) (by k_asm) (by assumption) (by first | decide | rfl) (by first | rfl | decide) (by first | size_fits | exact Nat.le_of_ble_eq_true rfl) ?_; intro g9))
  k_with "RestC" => (k_dflt (first | (refine RestC.succ ?_; intro t9 K9 oK9 I9 oI9 C9 oC9 D9 h9 tk9 E9 dK9 F9 N9 off9; (try dsimp only)) | refine RestC.zero ?_))
  k_with "FinC" => (k_dflt ((unfold FinC); intro D8 h8 tk8 F8 N8 o8; (try simp only [List.nil_append, List.cons_append] at N8); (try dsimp only)))
  k_with "EndC" => (k_dflt (refine endc_drop (by with_reducible assumption) (by with_reducible assumption) (by with_reducible assumption) ?_))
  k_with "binaryOp Mult int int" => (k_dflt (with_reducible refine mul_rw (by with_reducible assumption) ?_))
  k_with "CompSrc" => (k_here; k_dflt (refine LCg.CompSrc.range (by rfl) (by k_asm) (by k_asm) (by assumption) (by first | decide | rfl) (by first | rfl | decide) (by first | size_fits | exact Nat.le_of_ble_eq_true rfl) ?_; intro g'; lcg_lit))
  k_with "ite" => (with_reducible refine ite_self ?_)
  k_with "FinE cons" => ((unfold LCg.FinE); intro D8 h8 tk8 F8 N8 o8; (try simp only [List.nil_append, List.cons_append] at N8); (try dsimp only))
  k_with "FinE" => ((unfold LCg.FinE); intro D8 h8 tk8 F8 N8 o8; (try simp only [List.nil_append, List.cons_append] at N8); (try dsimp only))
  k_with "CompEnd ref" => (k_dflt (refine cend_same (by with_reducible assumption) (by with_reducible assumption) ?ceo ?ceS ?_; (case ceo => (simp only [LCg.Off3, and_true]; with_reducible assumption)); (case ceS => (refine' Or.inr ⟨_, ?ca, ?cb, _, ?cc⟩; (case ca => k_mem); (case cb => rfl); (case cc => rfl)))))
  k_with "CompEnd" => (k_dflt (refine cend_same (by with_reducible assumption) (by with_reducible assumption) ?ceo ?ceS ?_; (case ceo => (simp only [LCg.Off3, and_true]; with_reducible assumption)); (case ceS => (refine' Or.inr ⟨_, ?ca, ?cb, _, ?cc⟩; (case ca => k_mem); (case cb => rfl); (case cc => rfl)))))
  k_with "CompEnd none" => (k_dflt (refine cend_same (by with_reducible assumption) (by with_reducible assumption) ?ceo ?ceS ?_; (case ceo => (simp only [LCg.Off3, and_true]; with_reducible assumption)); (case ceS => (refine' Or.inr ⟨_, ?ca, ?cb, _, ?cc⟩; (case ca => k_mem); (case cb => rfl); (case cc => rfl)))))
  k_with "CompEnd int" => (k_dflt (refine cend_same (by with_reducible assumption) (by with_reducible assumption) ?ceo ?ceS ?_; (case ceo => (simp only [LCg.Off3, and_true]; with_reducible assumption)); (case ceS => (refine' Or.inr ⟨_, ?ca, ?cb, _, ?cc⟩; (case ca => k_mem); (case cb => rfl); (case cc => rfl)))))
  k_steps
  all_goals first
    | k_data
    | (refine' hret _ _ _ (x / gg) (y / gg) (z / gg) gg _ _ _ _ _ ?e1 ?e2 ?e3 gg1 gg2 ?eF ?eN ?eO; (case e1 => exact (Int.mul_ediv_cancel' (gdv3 _ (gdv2 _ (gdv1 _ (Int.dvd_refl _)).2).2).1).symm); (case e2 => exact (Int.mul_ediv_cancel' (gdv2 _ (gdv1 _ (Int.dvd_refl _)).2).1).symm); (case e3 => exact (Int.mul_ediv_cancel' (gdv1 _ (Int.dvd_refl _)).1).symm); (case eF => assumption); (case eN => exact struck_news (by assumption) hs8); (case eO => exact fun p hp => off1_mem o8 p (by simp [hs8 p hp])))
    | (unfold TestNo; exact ⟨by first | rfl | simp, _, _, rfl, by assumption, by assumption⟩)
end
end Mine
namespace Mine
section
variable {w : World} {p : Program} {loose : List Str} {mean : ExcName → Option Value} {mg mb : Str → Option Value} {dp un : Nat} {gd : Option (List Code)} {a : Addr} {ccd : Value} {outer : List Env} {A₀ : Around} {base h₀ : Heap} {L : Addr} {m : Str → Option Value} {s : Shared} {Q : Flow → Shared → Prop} {E : Value → Shared → Prop}
set_option maxRecDepth 100000 in
set_option maxHeartbeats 8000000 in
theorem v14 {sc : Scope} {body : List Stmt} {aE E2 E1 E0 : Addr} {t0 t1 t2 t3 t4 t5 t6 t7 t8 : Tok} {c1 c2 c3 c4 c5 c6 c7 : Addr} {mo m0 m1 m2 m3 m4 m5 : Int} {tm : Tok} {ps1 ps2 : Array Value}
    (hsc : sc = lawScope) (hbody : body = lawRest 14)
    (B : Below A₀ base outer h₀) (F : Fr h₀ L s.heap (fun y => if y = Str.ofString "most" then some (.int mo tm) else if y = Str.ofString "even" then some (.ref aE) else m y)) (X : (hd.heap_39 w.params).In h₀) (T : Top p loose mean mg mb h₀)
    (N : News h₀ L s.heap [(aE, LCg.lst [.ref E0, .ref E1, .ref E2]), (E2, LCg.lst [.int m4 t0, .int m5 t1, .int 0 t2]), (E1, LCg.lst [.int m2 t3, .int 0 t4, .int m3 t5]), (E0, LCg.lst [.int 0 t6, .int m0 t7, .int m1 t8]), (44, tabObj ps1), (51, tabObj ps2)])
    
    (ha0 : @Ne Nat E0 E1) (ha1 : @Ne Nat E0 E2) (ha2 : @Ne Nat E1 E2) (ha3 : @Ne Nat E0 aE) (ha4 : @Ne Nat E1 aE) (ha5 : @Ne Nat E2 aE) (ha6 : @Ne Nat 44 E0) (ha7 : @Ne Nat 44 E1) (ha8 : @Ne Nat 44 E2) (ha9 : @Ne Nat 44 aE) (ha10 : @Ne Nat 51 E0) (ha11 : @Ne Nat 51 E1) (ha12 : @Ne Nat 51 E2) (ha13 : @Ne Nat 51 aE)
    (hm0 : 2 ≤ m0 ∧ m0 ≤ 8) (hm1 : 2 ≤ m1 ∧ m1 ≤ 8) (hm3 : 2 ≤ m3 ∧ m3 ≤ 8) (e2 : m2 = m0) (e4 : m4 = m1) (e5 : m5 = m3) (hmo : m0 + m1 ≤ mo ∧ m2 + m3 ≤ mo ∧ m4 + m5 ≤ mo ∧ mo ≤ 16)
    (hd : dp + 300 < recursionLimit) (hu : un + 3000 < cLine)
    (hE : PassesOwn (model PySem.Challenge.rw_hg0003_01.row.prog w) (ktrTop dp un gd (Str.ofString "law") sc L a ccd [(Str.ofString "scale", c7), (Str.ofString "start", c6), (Str.ofString "first", c5), (Str.ofString "total", c4), (Str.ofString "told", c3), (Str.ofString "whole", c2), (Str.ofString "ways", c1)] outer) (envX (Str.ofString "law") sc L a ccd [(Str.ofString "scale", c7), (Str.ofString "start", c6), (Str.ofString "first", c5), (Str.ofString "total", c4), (Str.ofString "told", c3), (Str.ofString "whole", c2), (Str.ofString "ways", c1)]) E)
    (hret : ∀ m' news' qs1 qs2 h' tk', Fr h₀ L h' m' → News h₀ L h' news' → (44, tabObj qs1) ∈ news' → (51, tabObj qs2) ∈ news' → Q (.ret (.bool true)) { s with heap := h', toks := tk' }) :
    wpAny (model PySem.Challenge.rw_hg0003_01.row.prog w) (ktrTop dp un gd (Str.ofString "law") sc L a ccd [(Str.ofString "scale", c7), (Str.ofString "start", c6), (Str.ofString "first", c5), (Str.ofString "total", c4), (Str.ofString "told", c3), (Str.ofString "whole", c2), (Str.ofString "ways", c1)] outer) (execs body (envX (Str.ofString "law") sc L a ccd [(Str.ofString "scale", c7), (Str.ofString "start", c6), (Str.ofString "first", c5), (Str.ofString "total", c4), (Str.ofString "told", c3), (Str.ofString "whole", c2), (Str.ofString "ways", c1)])) Q E s := by
  subst e2 e4 e5
  conv at hsc => rhs; whnf
  conv at hbody => rhs; whnf
  subst hsc hbody
  revert X; k_fill; intro X
  w_top off
  k_with_none
  k_with "execs nil" => ((with_reducible refine gen_toks ?_); intro tk9; refine wpAny_execs_nil ?_; dsimp only)
  k_with "subscriptTail Name Constant ref int" => ((with_reducible show wpAny _ _ (subscriptTail _ _ (Value.ref _) (Value.int _ _)) _ _ _); k_dflt ((refine kba_turn (value' := PySem.Expr.Name (PySem.Str.ofString "_") ⟨0, 0, 0, 0⟩) (fun _ => rfl) ?_); first | (refine' kim_tup ?itN ?itm ?itc ?itd ?itlo ?ithi ?itj ?itx ?_ ?its; (case itN => k_asm); (case itm => k_mem); (case itc => exact rfl); (case itd => exact rfl); (case itlo => decide); (case ithi => decide); (case itj => exact rfl); (case itx => exact rfl); (case its => with_unfolding_all rfl)) | (refine' kim_list ?itN ?itm ?itc ?itd ?itlo ?ithi ?itx ?_ ?its; (case itN => k_asm); (case itm => k_mem); (case itc => exact rfl); (case itd => exact rfl); (case itlo => decide); (case ithi => decide); (case itx => exact rfl); (case its => with_unfolding_all rfl))))
  k_with "subscriptTail" => ((with_reducible show wpAny _ _ (subscriptTail _ _ (Value.ref _) (Value.int _ _)) _ _ _); k_dflt ((refine kba_turn (value' := PySem.Expr.Name (PySem.Str.ofString "_") ⟨0, 0, 0, 0⟩) (fun _ => rfl) ?_); first | (refine' kim_tup ?itN ?itm ?itc ?itd ?itlo ?ithi ?itj ?itx ?_ ?its; (case itN => k_asm); (case itm => k_mem); (case itc => exact rfl); (case itd => exact rfl); (case itlo => decide); (case ithi => decide); (case itj => exact rfl); (case itx => exact rfl); (case its => with_unfolding_all rfl)) | (refine' kim_list ?itN ?itm ?itc ?itd ?itlo ?ithi ?itx ?_ ?its; (case itN => k_asm); (case itm => k_mem); (case itc => exact rfl); (case itd => exact rfl); (case itlo => decide); (case ithi => decide); (case itx => exact rfl); (case its => with_unfolding_all rfl))))
  k_with "subscriptTail Name Name ref int" => ((with_reducible show wpAny _ _ (subscriptTail _ _ (Value.ref _) (Value.int _ _)) _ _ _); k_dflt ((refine kba_turn (value' := PySem.Expr.Name (PySem.Str.ofString "_") ⟨0, 0, 0, 0⟩) (fun _ => rfl) ?_); first | (refine' kim_tup ?itN ?itm ?itc ?itd ?itlo ?ithi ?itj ?itx ?_ ?its; (case itN => k_asm); (case itm => k_mem); (case itc => exact rfl); (case itd => exact rfl); (case itlo => decide); (case ithi => decide); (case itj => exact rfl); (case itx => exact rfl); (case its => with_unfolding_all rfl)) | (refine' kim_list ?itN ?itm ?itc ?itd ?itlo ?ithi ?itx ?_ ?its; (case itN => k_asm); (case itm => k_mem); (case itc => exact rfl); (case itd => exact rfl); (case itlo => decide); (case ithi => decide); (case itx => exact rfl); (case its => with_unfolding_all rfl))))
  k_with "subscriptTail Name BinOp ref int" => ((with_reducible show wpAny _ _ (subscriptTail _ _ (Value.ref _) (Value.int _ _)) _ _ _); k_dflt ((refine kba_turn (value' := PySem.Expr.Name (PySem.Str.ofString "_") ⟨0, 0, 0, 0⟩) (fun _ => rfl) ?_); first | (refine' kim_tup ?itN ?itm ?itc ?itd ?itlo ?ithi ?itj ?itx ?_ ?its; (case itN => k_asm); (case itm => k_mem); (case itc => exact rfl); (case itd => exact rfl); (case itlo => decide); (case ithi => decide); (case itj => exact rfl); (case itx => exact rfl); (case its => with_unfolding_all rfl)) | (refine' kim_list ?itN ?itm ?itc ?itd ?itlo ?ithi ?itx ?_ ?its; (case itN => k_asm); (case itm => k_mem); (case itc => exact rfl); (case itd => exact rfl); (case itlo => decide); (case ithi => decide); (case itx => exact rfl); (case its => with_unfolding_all rfl))))
  k_with "subscriptTail Subscript Name Name Constant ref int" => ((with_reducible show wpAny _ _ (subscriptTail _ _ (Value.ref _) (Value.int _ _)) _ _ _); k_dflt ((refine kba_turn (value' := PySem.Expr.Name (PySem.Str.ofString "_") ⟨0, 0, 0, 0⟩) (fun _ => rfl) ?_); first | (refine' kim_tup ?itN ?itm ?itc ?itd ?itlo ?ithi ?itj ?itx ?_ ?its; (case itN => k_asm); (case itm => k_mem); (case itc => exact rfl); (case itd => exact rfl); (case itlo => decide); (case ithi => decide); (case itj => exact rfl); (case itx => exact rfl); (case its => with_unfolding_all rfl)) | (refine' kim_list ?itN ?itm ?itc ?itd ?itlo ?ithi ?itx ?_ ?its; (case itN => k_asm); (case itm => k_mem); (case itc => exact rfl); (case itd => exact rfl); (case itlo => decide); (case ithi => decide); (case itx => exact rfl); (case its => with_unfolding_all rfl))))
  k_with "subscriptTail Subscript Name Constant Constant ref int" => ((with_reducible show wpAny _ _ (subscriptTail _ _ (Value.ref _) (Value.int _ _)) _ _ _); k_dflt ((refine kba_turn (value' := PySem.Expr.Name (PySem.Str.ofString "_") ⟨0, 0, 0, 0⟩) (fun _ => rfl) ?_); first | (refine' kim_tup ?itN ?itm ?itc ?itd ?itlo ?ithi ?itj ?itx ?_ ?its; (case itN => k_asm); (case itm => k_mem); (case itc => exact rfl); (case itd => exact rfl); (case itlo => decide); (case ithi => decide); (case itj => exact rfl); (case itx => exact rfl); (case its => with_unfolding_all rfl)) | (refine' kim_list ?itN ?itm ?itc ?itd ?itlo ?ithi ?itx ?_ ?its; (case itN => k_asm); (case itm => k_mem); (case itc => exact rfl); (case itd => exact rfl); (case itlo => decide); (case ithi => decide); (case itx => exact rfl); (case its => with_unfolding_all rfl))))
  k_with "subscriptTail Subscript Name Name Name ref int" => ((with_reducible show wpAny _ _ (subscriptTail _ _ (Value.ref _) (Value.int _ _)) _ _ _); k_dflt ((refine kba_turn (value' := PySem.Expr.Name (PySem.Str.ofString "_") ⟨0, 0, 0, 0⟩) (fun _ => rfl) ?_); first | (refine' kim_tup ?itN ?itm ?itc ?itd ?itlo ?ithi ?itj ?itx ?_ ?its; (case itN => k_asm); (case itm => k_mem); (case itc => exact rfl); (case itd => exact rfl); (case itlo => decide); (case ithi => decide); (case itj => exact rfl); (case itx => exact rfl); (case its => with_unfolding_all rfl)) | (refine' kim_list ?itN ?itm ?itc ?itd ?itlo ?ithi ?itx ?_ ?its; (case itN => k_asm); (case itm => k_mem); (case itc => exact rfl); (case itd => exact rfl); (case itlo => decide); (case ithi => decide); (case itx => exact rfl); (case its => with_unfolding_all rfl))))
  k_with "subscriptTail Subscript Name Name BinOp ref int" => ((with_reducible show wpAny _ _ (subscriptTail _ _ (Value.ref _) (Value.int _ _)) _ _ _); k_dflt ((refine kba_turn (value' := PySem.Expr.Name (PySem.Str.ofString "_") ⟨0, 0, 0, 0⟩) (fun _ => rfl) ?_); first | (refine' kim_tup ?itN ?itm ?itc ?itd ?itlo ?ithi ?itj ?itx ?_ ?its; (case itN => k_asm); (case itm => k_mem); (case itc => exact rfl); (case itd => exact rfl); (case itlo => decide); (case ithi => decide); (case itj => exact rfl); (case itx => exact rfl); (case its => with_unfolding_all rfl)) | (refine' kim_list ?itN ?itm ?itc ?itd ?itlo ?ithi ?itx ?_ ?its; (case itN => k_asm); (case itm => k_mem); (case itc => exact rfl); (case itd => exact rfl); (case itlo => decide); (case ithi => decide); (case itx => exact rfl); (case its => with_unfolding_all rfl))))
  k_with "subscriptTail Subscript Name Constant Name ref int" => ((with_reducible show wpAny _ _ (subscriptTail _ _ (Value.ref _) (Value.int _ _)) _ _ _); k_dflt ((refine kba_turn (value' := PySem.Expr.Name (PySem.Str.ofString "_") ⟨0, 0, 0, 0⟩) (fun _ => rfl) ?_); first | (refine' kim_tup ?itN ?itm ?itc ?itd ?itlo ?ithi ?itj ?itx ?_ ?its; (case itN => k_asm); (case itm => k_mem); (case itc => exact rfl); (case itd => exact rfl); (case itlo => decide); (case ithi => decide); (case itj => exact rfl); (case itx => exact rfl); (case its => with_unfolding_all rfl)) | (refine' kim_list ?itN ?itm ?itc ?itd ?itlo ?ithi ?itx ?_ ?its; (case itN => k_asm); (case itm => k_mem); (case itc => exact rfl); (case itd => exact rfl); (case itlo => decide); (case ithi => decide); (case itx => exact rfl); (case its => with_unfolding_all rfl))))
  k_with "callWith ref nil nil" => (k_here; k_dflt (first | (refine' callWith_K ?kq1 ?kq2 ?_; (case kq1 => k_asm); (case kq2 => k_is); k_whole) | (refine' callWith_K0 ?kq1 ?kq2 ?_; (case kq1 => k_in); (case kq2 => k_is); k_whole)))
  k_with "CompEnd ref" => (k_dflt (first | (refine cend_new (by with_reducible assumption) (by with_reducible assumption) (by with_reducible assumption) ?ceo trivial ?_; (case ceo => (simp only [LCg.Off3, and_true]; with_reducible assumption))) | (refine cend_same (by with_reducible assumption) (by with_reducible assumption) ?ceo trivial ?_; (case ceo => (simp only [LCg.Off3, and_true]; with_reducible assumption))) | (refine cend_same (by with_reducible assumption) (by with_reducible assumption) ?ceo ?ceS ?_; (case ceo => (simp only [LCg.Off3, and_true]; with_reducible assumption)); (case ceS => (refine' Or.inr ⟨_, ?ca, ?cb, _, ?cc⟩; (case ca => k_mem); (case cb => rfl); (case cc => rfl))))))
  k_with "CompEnd" => (k_dflt (first | (refine cend_new (by with_reducible assumption) (by with_reducible assumption) (by with_reducible assumption) ?ceo trivial ?_; (case ceo => (simp only [LCg.Off3, and_true]; with_reducible assumption))) | (refine cend_same (by with_reducible assumption) (by with_reducible assumption) ?ceo trivial ?_; (case ceo => (simp only [LCg.Off3, and_true]; with_reducible assumption))) | (refine cend_same (by with_reducible assumption) (by with_reducible assumption) ?ceo ?ceS ?_; (case ceo => (simp only [LCg.Off3, and_true]; with_reducible assumption)); (case ceS => (refine' Or.inr ⟨_, ?ca, ?cb, _, ?cc⟩; (case ca => k_mem); (case cb => rfl); (case cc => rfl))))))
  k_with "CompEnd none" => (k_dflt (first | (refine cend_new (by with_reducible assumption) (by with_reducible assumption) (by with_reducible assumption) ?ceo trivial ?_; (case ceo => (simp only [LCg.Off3, and_true]; with_reducible assumption))) | (refine cend_same (by with_reducible assumption) (by with_reducible assumption) ?ceo trivial ?_; (case ceo => (simp only [LCg.Off3, and_true]; with_reducible assumption))) | (refine cend_same (by with_reducible assumption) (by with_reducible assumption) ?ceo ?ceS ?_; (case ceo => (simp only [LCg.Off3, and_true]; with_reducible assumption)); (case ceS => (refine' Or.inr ⟨_, ?ca, ?cb, _, ?cc⟩; (case ca => k_mem); (case cb => rfl); (case cc => rfl))))))
  k_with "CompEnd int" => (k_dflt (first | (refine cend_new (by with_reducible assumption) (by with_reducible assumption) (by with_reducible assumption) ?ceo trivial ?_; (case ceo => (simp only [LCg.Off3, and_true]; with_reducible assumption))) | (refine cend_same (by with_reducible assumption) (by with_reducible assumption) ?ceo trivial ?_; (case ceo => (simp only [LCg.Off3, and_true]; with_reducible assumption))) | (refine cend_same (by with_reducible assumption) (by with_reducible assumption) ?ceo ?ceS ?_; (case ceo => (simp only [LCg.Off3, and_true]; with_reducible assumption)); (case ceS => (refine' Or.inr ⟨_, ?ca, ?cb, _, ?cc⟩; (case ca => k_mem); (case cb => rfl); (case cc => rfl))))))
  k_with "call ref cons nil" => ((with_reducible show wpAny _ _ (call (Value.ref 75) _) _ _ _); k_dflt (refine' trees_ok ?k1 ?k2 ?k3 ?k4 ?k5 ?mW ?mr0 ?mr1 ?mr2 ?b0 ?b1 ?b2 ?b3 ?b4 ?b5 ?b6 ?b7 ?b8 ?ld ?lu ?_; (case k1 => k_asm); (case k2 => k_asm); (case k3 => k_asm); (case k4 => k_asm); (case k5 => k_asm); (case mW => k_mem); (case mr0 => k_mem); (case mr1 => k_mem); (case mr2 => k_mem);(case b0 => exact ⟨by omega, by omega⟩); (case b1 => exact ⟨by omega, by omega⟩); (case b2 => exact ⟨by omega, by omega⟩); (case b3 => exact ⟨by omega, by omega⟩); (case b4 => exact ⟨by omega, by omega⟩); (case b5 => exact ⟨by omega, by omega⟩); (case b6 => exact ⟨by omega, by omega⟩); (case b7 => exact ⟨by omega, by omega⟩); (case b8 => exact ⟨by omega, by omega⟩); (case ld => ((try dsimp only [Around.deeper]); omega)); (case lu => ((try dsimp only [Around.deeper]); omega)); intro D9 h9 tk9 y0 y1 y2 v0 v1 v2 f0 f1 f2 F9 N9 o9; have q1 : y1 = y0 := (by rw [f0, f1]; grind); have q2 : y2 = y0 := (by rw [f0, f2]; grind); rw [q1, q2] at N9; (try dsimp only)))
  k_steps
  all_goals first | k_data | (exfalso; (rename _ ≠ _ => hno); exact hno rfl) | ((rename Fr _ _ _ _ => lF'); (rename News _ _ _ _ => lN'); (try simp only [beq_self_eq_true]); (try dsimp only); exact hret _ _ _ _ _ _ lF' lN' (by k_mem) (by k_mem))
end
end Mine
namespace Mine
section
variable {w : World} {p : Program} {loose : List Str} {mean : ExcName → Option Value} {mg mb : Str → Option Value} {dp un : Nat} {gd : Option (List Code)} {a : Addr} {ccd : Value} {outer : List Env} {A₀ : Around} {base h₀ : Heap} {L : Addr} {m : Str → Option Value} {s : Shared} {Q : Flow → Shared → Prop} {E : Value → Shared → Prop}
set_option maxRecDepth 100000 in
set_option maxHeartbeats 8000000 in
theorem v13 {sc : Scope} {body : List Stmt} {aE E2 E1 E0 : Addr} {t0 t1 t2 t3 t4 t5 t6 t7 t8 : Tok} {c1 c2 c3 c4 c5 c6 c7 : Addr} {m0 m1 m2 m3 m4 m5 : Int} {ps1 ps2 : Array Value}
    (hsc : sc = lawScope) (hbody : body = lawRest 13)
    (B : Below A₀ base outer h₀) (F : Fr h₀ L s.heap (fun y => if y = Str.ofString "even" then some (.ref aE) else m y)) (X : (hd.heap_39 w.params).In h₀) (T : Top p loose mean mg mb h₀)
    (N : News h₀ L s.heap [(aE, LCg.lst [.ref E0, .ref E1, .ref E2]), (E2, LCg.lst [.int m4 t0, .int m5 t1, .int 0 t2]), (E1, LCg.lst [.int m2 t3, .int 0 t4, .int m3 t5]), (E0, LCg.lst [.int 0 t6, .int m0 t7, .int m1 t8]), (44, tabObj ps1), (51, tabObj ps2)])
    
    (ha0 : @Ne Nat E0 E1) (ha1 : @Ne Nat E0 E2) (ha2 : @Ne Nat E1 E2) (ha3 : @Ne Nat E0 aE) (ha4 : @Ne Nat E1 aE) (ha5 : @Ne Nat E2 aE) (ha6 : @Ne Nat 44 E0) (ha7 : @Ne Nat 44 E1) (ha8 : @Ne Nat 44 E2) (ha9 : @Ne Nat 44 aE) (ha10 : @Ne Nat 51 E0) (ha11 : @Ne Nat 51 E1) (ha12 : @Ne Nat 51 E2) (ha13 : @Ne Nat 51 aE)
    (hm0 : 2 ≤ m0 ∧ m0 ≤ 8) (hm1 : 2 ≤ m1 ∧ m1 ≤ 8) (hm3 : 2 ≤ m3 ∧ m3 ≤ 8) (e2 : m2 = m0) (e4 : m4 = m1) (e5 : m5 = m3)
    (hd : dp + 300 < recursionLimit) (hu : un + 3000 < cLine)
    (hE : PassesOwn (model PySem.Challenge.rw_hg0003_01.row.prog w) (ktrTop dp un gd (Str.ofString "law") sc L a ccd [(Str.ofString "scale", c7), (Str.ofString "start", c6), (Str.ofString "first", c5), (Str.ofString "total", c4), (Str.ofString "told", c3), (Str.ofString "whole", c2), (Str.ofString "ways", c1)] outer) (envX (Str.ofString "law") sc L a ccd [(Str.ofString "scale", c7), (Str.ofString "start", c6), (Str.ofString "first", c5), (Str.ofString "total", c4), (Str.ofString "told", c3), (Str.ofString "whole", c2), (Str.ofString "ways", c1)]) E)
    (hret : ∀ m' news' qs1 qs2 h' tk', Fr h₀ L h' m' → News h₀ L h' news' → (44, tabObj qs1) ∈ news' → (51, tabObj qs2) ∈ news' → Q (.ret (.bool true)) { s with heap := h', toks := tk' }) :
    wpAny (model PySem.Challenge.rw_hg0003_01.row.prog w) (ktrTop dp un gd (Str.ofString "law") sc L a ccd [(Str.ofString "scale", c7), (Str.ofString "start", c6), (Str.ofString "first", c5), (Str.ofString "total", c4), (Str.ofString "told", c3), (Str.ofString "whole", c2), (Str.ofString "ways", c1)] outer) (execs body (envX (Str.ofString "law") sc L a ccd [(Str.ofString "scale", c7), (Str.ofString "start", c6), (Str.ofString "first", c5), (Str.ofString "total", c4), (Str.ofString "told", c3), (Str.ofString "whole", c2), (Str.ofString "ways", c1)])) Q E s := by
  conv at hsc => rhs; whnf
  conv at hbody => rhs; whnf
  subst hsc hbody
  revert X; k_fill; intro X
  w_top off
  k_with_none
  k_with "execs nil" => ((with_reducible refine gen_toks ?_); intro tk9; refine wpAny_execs_nil ?_; dsimp only)
  k_with "subscriptTail Name Constant ref int" => ((with_reducible show wpAny _ _ (subscriptTail _ _ (Value.ref _) (Value.int _ _)) _ _ _); k_dflt ((refine kba_turn (value' := PySem.Expr.Name (PySem.Str.ofString "_") ⟨0, 0, 0, 0⟩) (fun _ => rfl) ?_); first | (refine' kim_tup ?itN ?itm ?itc ?itd ?itlo ?ithi ?itj ?itx ?_ ?its; (case itN => k_asm); (case itm => k_mem); (case itc => exact rfl); (case itd => exact rfl); (case itlo => decide); (case ithi => decide); (case itj => exact rfl); (case itx => exact rfl); (case its => with_unfolding_all rfl)) | (refine' kim_list ?itN ?itm ?itc ?itd ?itlo ?ithi ?itx ?_ ?its; (case itN => k_asm); (case itm => k_mem); (case itc => exact rfl); (case itd => exact rfl); (case itlo => decide); (case ithi => decide); (case itx => exact rfl); (case its => with_unfolding_all rfl))))
  k_with "subscriptTail" => ((with_reducible show wpAny _ _ (subscriptTail _ _ (Value.ref _) (Value.int _ _)) _ _ _); k_dflt ((refine kba_turn (value' := PySem.Expr.Name (PySem.Str.ofString "_") ⟨0, 0, 0, 0⟩) (fun _ => rfl) ?_); first | (refine' kim_tup ?itN ?itm ?itc ?itd ?itlo ?ithi ?itj ?itx ?_ ?its; (case itN => k_asm); (case itm => k_mem); (case itc => exact rfl); (case itd => exact rfl); (case itlo => decide); (case ithi => decide); (case itj => exact rfl); (case itx => exact rfl); (case its => with_unfolding_all rfl)) | (refine' kim_list ?itN ?itm ?itc ?itd ?itlo ?ithi ?itx ?_ ?its; (case itN => k_asm); (case itm => k_mem); (case itc => exact rfl); (case itd => exact rfl); (case itlo => decide); (case ithi => decide); (case itx => exact rfl); (case its => with_unfolding_all rfl))))
  k_with "subscriptTail Name Name ref int" => ((with_reducible show wpAny _ _ (subscriptTail _ _ (Value.ref _) (Value.int _ _)) _ _ _); k_dflt ((refine kba_turn (value' := PySem.Expr.Name (PySem.Str.ofString "_") ⟨0, 0, 0, 0⟩) (fun _ => rfl) ?_); first | (refine' kim_tup ?itN ?itm ?itc ?itd ?itlo ?ithi ?itj ?itx ?_ ?its; (case itN => k_asm); (case itm => k_mem); (case itc => exact rfl); (case itd => exact rfl); (case itlo => decide); (case ithi => decide); (case itj => exact rfl); (case itx => exact rfl); (case its => with_unfolding_all rfl)) | (refine' kim_list ?itN ?itm ?itc ?itd ?itlo ?ithi ?itx ?_ ?its; (case itN => k_asm); (case itm => k_mem); (case itc => exact rfl); (case itd => exact rfl); (case itlo => decide); (case ithi => decide); (case itx => exact rfl); (case its => with_unfolding_all rfl))))
  k_with "subscriptTail Name BinOp ref int" => ((with_reducible show wpAny _ _ (subscriptTail _ _ (Value.ref _) (Value.int _ _)) _ _ _); k_dflt ((refine kba_turn (value' := PySem.Expr.Name (PySem.Str.ofString "_") ⟨0, 0, 0, 0⟩) (fun _ => rfl) ?_); first | (refine' kim_tup ?itN ?itm ?itc ?itd ?itlo ?ithi ?itj ?itx ?_ ?its; (case itN => k_asm); (case itm => k_mem); (case itc => exact rfl); (case itd => exact rfl); (case itlo => decide); (case ithi => decide); (case itj => exact rfl); (case itx => exact rfl); (case its => with_unfolding_all rfl)) | (refine' kim_list ?itN ?itm ?itc ?itd ?itlo ?ithi ?itx ?_ ?its; (case itN => k_asm); (case itm => k_mem); (case itc => exact rfl); (case itd => exact rfl); (case itlo => decide); (case ithi => decide); (case itx => exact rfl); (case its => with_unfolding_all rfl))))
  k_with "subscriptTail Subscript Name Name Constant ref int" => ((with_reducible show wpAny _ _ (subscriptTail _ _ (Value.ref _) (Value.int _ _)) _ _ _); k_dflt ((refine kba_turn (value' := PySem.Expr.Name (PySem.Str.ofString "_") ⟨0, 0, 0, 0⟩) (fun _ => rfl) ?_); first | (refine' kim_tup ?itN ?itm ?itc ?itd ?itlo ?ithi ?itj ?itx ?_ ?its; (case itN => k_asm); (case itm => k_mem); (case itc => exact rfl); (case itd => exact rfl); (case itlo => decide); (case ithi => decide); (case itj => exact rfl); (case itx => exact rfl); (case its => with_unfolding_all rfl)) | (refine' kim_list ?itN ?itm ?itc ?itd ?itlo ?ithi ?itx ?_ ?its; (case itN => k_asm); (case itm => k_mem); (case itc => exact rfl); (case itd => exact rfl); (case itlo => decide); (case ithi => decide); (case itx => exact rfl); (case its => with_unfolding_all rfl))))
  k_with "subscriptTail Subscript Name Constant Constant ref int" => ((with_reducible show wpAny _ _ (subscriptTail _ _ (Value.ref _) (Value.int _ _)) _ _ _); k_dflt ((refine kba_turn (value' := PySem.Expr.Name (PySem.Str.ofString "_") ⟨0, 0, 0, 0⟩) (fun _ => rfl) ?_); first | (refine' kim_tup ?itN ?itm ?itc ?itd ?itlo ?ithi ?itj ?itx ?_ ?its; (case itN => k_asm); (case itm => k_mem); (case itc => exact rfl); (case itd => exact rfl); (case itlo => decide); (case ithi => decide); (case itj => exact rfl); (case itx => exact rfl); (case its => with_unfolding_all rfl)) | (refine' kim_list ?itN ?itm ?itc ?itd ?itlo ?ithi ?itx ?_ ?its; (case itN => k_asm); (case itm => k_mem); (case itc => exact rfl); (case itd => exact rfl); (case itlo => decide); (case ithi => decide); (case itx => exact rfl); (case its => with_unfolding_all rfl))))
  k_with "subscriptTail Subscript Name Name Name ref int" => ((with_reducible show wpAny _ _ (subscriptTail _ _ (Value.ref _) (Value.int _ _)) _ _ _); k_dflt ((refine kba_turn (value' := PySem.Expr.Name (PySem.Str.ofString "_") ⟨0, 0, 0, 0⟩) (fun _ => rfl) ?_); first | (refine' kim_tup ?itN ?itm ?itc ?itd ?itlo ?ithi ?itj ?itx ?_ ?its; (case itN => k_asm); (case itm => k_mem); (case itc => exact rfl); (case itd => exact rfl); (case itlo => decide); (case ithi => decide); (case itj => exact rfl); (case itx => exact rfl); (case its => with_unfolding_all rfl)) | (refine' kim_list ?itN ?itm ?itc ?itd ?itlo ?ithi ?itx ?_ ?its; (case itN => k_asm); (case itm => k_mem); (case itc => exact rfl); (case itd => exact rfl); (case itlo => decide); (case ithi => decide); (case itx => exact rfl); (case its => with_unfolding_all rfl))))
  k_with "subscriptTail Subscript Name Name BinOp ref int" => ((with_reducible show wpAny _ _ (subscriptTail _ _ (Value.ref _) (Value.int _ _)) _ _ _); k_dflt ((refine kba_turn (value' := PySem.Expr.Name (PySem.Str.ofString "_") ⟨0, 0, 0, 0⟩) (fun _ => rfl) ?_); first | (refine' kim_tup ?itN ?itm ?itc ?itd ?itlo ?ithi ?itj ?itx ?_ ?its; (case itN => k_asm); (case itm => k_mem); (case itc => exact rfl); (case itd => exact rfl); (case itlo => decide); (case ithi => decide); (case itj => exact rfl); (case itx => exact rfl); (case its => with_unfolding_all rfl)) | (refine' kim_list ?itN ?itm ?itc ?itd ?itlo ?ithi ?itx ?_ ?its; (case itN => k_asm); (case itm => k_mem); (case itc => exact rfl); (case itd => exact rfl); (case itlo => decide); (case ithi => decide); (case itx => exact rfl); (case its => with_unfolding_all rfl))))
  k_with "subscriptTail Subscript Name Constant Name ref int" => ((with_reducible show wpAny _ _ (subscriptTail _ _ (Value.ref _) (Value.int _ _)) _ _ _); k_dflt ((refine kba_turn (value' := PySem.Expr.Name (PySem.Str.ofString "_") ⟨0, 0, 0, 0⟩) (fun _ => rfl) ?_); first | (refine' kim_tup ?itN ?itm ?itc ?itd ?itlo ?ithi ?itj ?itx ?_ ?its; (case itN => k_asm); (case itm => k_mem); (case itc => exact rfl); (case itd => exact rfl); (case itlo => decide); (case ithi => decide); (case itj => exact rfl); (case itx => exact rfl); (case its => with_unfolding_all rfl)) | (refine' kim_list ?itN ?itm ?itc ?itd ?itlo ?ithi ?itx ?_ ?its; (case itN => k_asm); (case itm => k_mem); (case itc => exact rfl); (case itd => exact rfl); (case itlo => decide); (case ithi => decide); (case itx => exact rfl); (case its => with_unfolding_all rfl))))
  k_with "callWith ref nil nil" => (k_here; k_dflt (first | (refine' callWith_K ?kq1 ?kq2 ?_; (case kq1 => k_asm); (case kq2 => k_is); k_whole) | (refine' callWith_K0 ?kq1 ?kq2 ?_; (case kq1 => k_in); (case kq2 => k_is); k_whole)))
  k_with "CompEnd ref" => (k_dflt (first | (refine cend_new (by with_reducible assumption) (by with_reducible assumption) (by with_reducible assumption) ?ceo trivial ?_; (case ceo => (simp only [LCg.Off3, and_true]; with_reducible assumption))) | (refine cend_same (by with_reducible assumption) (by with_reducible assumption) ?ceo trivial ?_; (case ceo => (simp only [LCg.Off3, and_true]; with_reducible assumption))) | (refine cend_same (by with_reducible assumption) (by with_reducible assumption) ?ceo ?ceS ?_; (case ceo => (simp only [LCg.Off3, and_true]; with_reducible assumption)); (case ceS => (refine' Or.inr ⟨_, ?ca, ?cb, _, ?cc⟩; (case ca => k_mem); (case cb => rfl); (case cc => rfl))))))
  k_with "CompEnd" => (k_dflt (first | (refine cend_new (by with_reducible assumption) (by with_reducible assumption) (by with_reducible assumption) ?ceo trivial ?_; (case ceo => (simp only [LCg.Off3, and_true]; with_reducible assumption))) | (refine cend_same (by with_reducible assumption) (by with_reducible assumption) ?ceo trivial ?_; (case ceo => (simp only [LCg.Off3, and_true]; with_reducible assumption))) | (refine cend_same (by with_reducible assumption) (by with_reducible assumption) ?ceo ?ceS ?_; (case ceo => (simp only [LCg.Off3, and_true]; with_reducible assumption)); (case ceS => (refine' Or.inr ⟨_, ?ca, ?cb, _, ?cc⟩; (case ca => k_mem); (case cb => rfl); (case cc => rfl))))))
  k_with "CompEnd none" => (k_dflt (first | (refine cend_new (by with_reducible assumption) (by with_reducible assumption) (by with_reducible assumption) ?ceo trivial ?_; (case ceo => (simp only [LCg.Off3, and_true]; with_reducible assumption))) | (refine cend_same (by with_reducible assumption) (by with_reducible assumption) ?ceo trivial ?_; (case ceo => (simp only [LCg.Off3, and_true]; with_reducible assumption))) | (refine cend_same (by with_reducible assumption) (by with_reducible assumption) ?ceo ?ceS ?_; (case ceo => (simp only [LCg.Off3, and_true]; with_reducible assumption)); (case ceS => (refine' Or.inr ⟨_, ?ca, ?cb, _, ?cc⟩; (case ca => k_mem); (case cb => rfl); (case cc => rfl))))))
  k_with "CompEnd int" => (k_dflt (first | (refine cend_new (by with_reducible assumption) (by with_reducible assumption) (by with_reducible assumption) ?ceo trivial ?_; (case ceo => (simp only [LCg.Off3, and_true]; with_reducible assumption))) | (refine cend_same (by with_reducible assumption) (by with_reducible assumption) ?ceo trivial ?_; (case ceo => (simp only [LCg.Off3, and_true]; with_reducible assumption))) | (refine cend_same (by with_reducible assumption) (by with_reducible assumption) ?ceo ?ceS ?_; (case ceo => (simp only [LCg.Off3, and_true]; with_reducible assumption)); (case ceS => (refine' Or.inr ⟨_, ?ca, ?cb, _, ?cc⟩; (case ca => k_mem); (case cb => rfl); (case cc => rfl))))))
  k_with "execs cons Assign cons" => ((with_reducible show wpAny _ _ (execs (Stmt.For _ _ _ _ _ :: _) _) _ _ _); (rename Fr _ _ _ _ => lF'); (rename News _ _ _ _ => lN'); refine' v14 ?nx1 ?nx2 B ?nxF X T ?nxN ha0 ha1 ha2 ha3 ha4 ha5 ha6 ha7 ha8 ha9 ha10 ha11 ha12 ha13 hm0 hm1 hm3 e2 e4 e5 ?nmo hd hu hE hret; (case nx1 => rfl); (case nx2 => rfl); (case nxF => exact lF'); (case nxN => exact kti_tail lN'); (case nmo => (clear ha0 ha1 ha2 ha3 ha4 ha5 ha6 ha7 ha8 ha9 ha10 ha11 ha12 ha13; exact ⟨by omega, by omega, by omega, by omega⟩)))
  k_with "execs cons For cons" => ((with_reducible show wpAny _ _ (execs (Stmt.For _ _ _ _ _ :: _) _) _ _ _); (rename Fr _ _ _ _ => lF'); (rename News _ _ _ _ => lN'); refine' v14 ?nx1 ?nx2 B ?nxF X T ?nxN ha0 ha1 ha2 ha3 ha4 ha5 ha6 ha7 ha8 ha9 ha10 ha11 ha12 ha13 hm0 hm1 hm3 e2 e4 e5 ?nmo hd hu hE hret; (case nx1 => rfl); (case nx2 => rfl); (case nxF => exact lF'); (case nxN => exact kti_tail lN'); (case nmo => (clear ha0 ha1 ha2 ha3 ha4 ha5 ha6 ha7 ha8 ha9 ha10 ha11 ha12 ha13; exact ⟨by omega, by omega, by omega, by omega⟩)))
  k_steps
  all_goals k_data
end
end Mine
namespace Mine
def turnedRow : Expr × Scope := match lawRest 10 with
  | .Assign _ (.ListComp e _ s1 _) _ :: _ => (e, s1)
  | _ => (.Name (Str.ofString "_") ⟨0, 0, 0, 0⟩, ⟨.function, [], false, false, []⟩)
def evenRow : Expr × Scope := match lawRest 12 with
  | .Assign _ (.ListComp e _ s1 _) _ :: _ => (e, s1)
  | _ => (.Name (Str.ofString "_") ⟨0, 0, 0, 0⟩, ⟨.function, [], false, false, []⟩)
section
variable {w : World} {p : Program} {loose : List Str} {mean : ExcName → Option Value} {mg mb : Str → Option Value} {dp un : Nat} {gd : Option (List Code)} {a : Addr} {ccd : Value} {outer : List Env} {A₀ : Around} {base h₀ : Heap} {L : Addr} {m : Str → Option Value} {news : List (Addr × Obj)} {s : Shared} {Q : Value → Shared → Prop} {E : Value → Shared → Prop}
set_option maxRecDepth 100000 in
set_option maxHeartbeats 8000000 in
theorem turned_row {e : Expr} {sc s1 : Scope} {c7 c6 c5 c4 c3 c2 c1 K C1 aW : Addr} {oK o1 oW : Obj} {j : Int} {tj : Tok} {Ra : Addr} {oA : Obj} {lW : List Value} {kW kA : Nat} {y0 y1 y2 : Int} {t0 t1 t2 : Tok}
    (he : e = turnedRow.1) (h1 : s1 = turnedRow.2) (hsc : sc = lawScope)
    (B : Below A₀ base outer h₀) (F : Fr h₀ L s.heap m) (X : (hd.heap_39 w.params).In h₀) (T : Top p loose mean mg mb h₀)
    (N : News h₀ L s.heap news)
    (mK : (K, oK) ∈ news) (dK : oK.data = .cell (some (.int j tj))) (m1 : (c1, o1) ∈ news) (d1 : o1.data = .cell (some (.ref aW))) (mW : (aW, oW) ∈ news)
    (mA : (Ra, oA) ∈ news) (cW : oW.cls = .type "list") (dW : oW.data = .seq lW.toArray kW) (cA : oA.cls = .type "list") (dA : oA.data = .seq [.int y0 t0, .int y1 t1, .int y2 t2].toArray kA)
    (hlo : 0 ≤ (j + 1).fmod 3) (hhi : (j + 1).fmod 3 < 2 ^ 63) (vA : lW[((j + 1).fmod 3).toNat]? = some (.ref Ra))
    (hd : dp + 300 < recursionLimit) (hu : un + 3000 < cLine)
    (hret : ∀ D h' tk', Fr h₀ L h' m → News h₀ L h' ((D, LCg.lst [.int y1 t1, .int y2 t2, .int y0 t0]) :: news) → LCg.Off1 D news → Q (.ref D) { s with heap := h', toks := tk' }) :
    wpAny (model PySem.Challenge.rw_hg0003_01.row.prog w) (ktrTop dp un gd (Str.ofString "law") sc L a ccd (lawCl c1 c2 c3 c4 c5 c6 c7) outer) (eval e (compEnvC s1 [(Str.ofString "j", K), (Str.ofString "ways", c1)] C1 (envX (Str.ofString "law") sc L a ccd (lawCl c1 c2 c3 c4 c5 c6 c7)))) Q E s := by
  conv at he => rhs; whnf
  conv at h1 => rhs; whnf
  conv at hsc => rhs; whnf
  subst he h1 hsc
  revert X; k_fill; intro X
  w_top off
  k_with_none
  k_with "execs nil" => ((with_reducible refine gen_toks ?_); intro tk9; refine wpAny_execs_nil ?_; dsimp only)
  k_with "subscriptTail Name Constant ref int" => ((with_reducible show wpAny _ _ (subscriptTail _ _ (Value.ref _) (Value.int _ _)) _ _ _); k_dflt ((refine kba_turn (value' := PySem.Expr.Name (PySem.Str.ofString "_") ⟨0, 0, 0, 0⟩) (fun _ => rfl) ?_); (refine' kim_list ?itN ?itm ?itc ?itd ?itlo ?ithi ?itx ?_ ?its; (case itN => k_asm); (case itm => k_mem); (case itc => assumption); (case itd => assumption); (case itlo => first | exact hlo | decide); (case ithi => first | exact hhi | decide); (case itx => first | exact vA | exact rfl); (case its => with_unfolding_all rfl))))
  k_with "subscriptTail" => ((with_reducible show wpAny _ _ (subscriptTail _ _ (Value.ref _) (Value.int _ _)) _ _ _); k_dflt ((refine kba_turn (value' := PySem.Expr.Name (PySem.Str.ofString "_") ⟨0, 0, 0, 0⟩) (fun _ => rfl) ?_); (refine' kim_list ?itN ?itm ?itc ?itd ?itlo ?ithi ?itx ?_ ?its; (case itN => k_asm); (case itm => k_mem); (case itc => assumption); (case itd => assumption); (case itlo => first | exact hlo | decide); (case ithi => first | exact hhi | decide); (case itx => first | exact vA | exact rfl); (case its => with_unfolding_all rfl))))
  k_with "subscriptTail Name Name ref int" => ((with_reducible show wpAny _ _ (subscriptTail _ _ (Value.ref _) (Value.int _ _)) _ _ _); k_dflt ((refine kba_turn (value' := PySem.Expr.Name (PySem.Str.ofString "_") ⟨0, 0, 0, 0⟩) (fun _ => rfl) ?_); (refine' kim_list ?itN ?itm ?itc ?itd ?itlo ?ithi ?itx ?_ ?its; (case itN => k_asm); (case itm => k_mem); (case itc => assumption); (case itd => assumption); (case itlo => first | exact hlo | decide); (case ithi => first | exact hhi | decide); (case itx => first | exact vA | exact rfl); (case its => with_unfolding_all rfl))))
  k_with "subscriptTail Name BinOp ref int" => ((with_reducible show wpAny _ _ (subscriptTail _ _ (Value.ref _) (Value.int _ _)) _ _ _); k_dflt ((refine kba_turn (value' := PySem.Expr.Name (PySem.Str.ofString "_") ⟨0, 0, 0, 0⟩) (fun _ => rfl) ?_); (refine' kim_list ?itN ?itm ?itc ?itd ?itlo ?ithi ?itx ?_ ?its; (case itN => k_asm); (case itm => k_mem); (case itc => assumption); (case itd => assumption); (case itlo => first | exact hlo | decide); (case ithi => first | exact hhi | decide); (case itx => first | exact vA | exact rfl); (case its => with_unfolding_all rfl))))
  k_with "subscriptTail Subscript Name Name Constant ref int" => ((with_reducible show wpAny _ _ (subscriptTail _ _ (Value.ref _) (Value.int _ _)) _ _ _); k_dflt ((refine kba_turn (value' := PySem.Expr.Name (PySem.Str.ofString "_") ⟨0, 0, 0, 0⟩) (fun _ => rfl) ?_); (refine' kim_list ?itN ?itm ?itc ?itd ?itlo ?ithi ?itx ?_ ?its; (case itN => k_asm); (case itm => k_mem); (case itc => assumption); (case itd => assumption); (case itlo => first | exact hlo | decide); (case ithi => first | exact hhi | decide); (case itx => first | exact vA | exact rfl); (case its => with_unfolding_all rfl))))
  k_with "subscriptTail Subscript Name Constant Constant ref int" => ((with_reducible show wpAny _ _ (subscriptTail _ _ (Value.ref _) (Value.int _ _)) _ _ _); k_dflt ((refine kba_turn (value' := PySem.Expr.Name (PySem.Str.ofString "_") ⟨0, 0, 0, 0⟩) (fun _ => rfl) ?_); (refine' kim_list ?itN ?itm ?itc ?itd ?itlo ?ithi ?itx ?_ ?its; (case itN => k_asm); (case itm => k_mem); (case itc => assumption); (case itd => assumption); (case itlo => first | exact hlo | decide); (case ithi => first | exact hhi | decide); (case itx => first | exact vA | exact rfl); (case its => with_unfolding_all rfl))))
  k_with "subscriptTail Subscript Name Name Name ref int" => ((with_reducible show wpAny _ _ (subscriptTail _ _ (Value.ref _) (Value.int _ _)) _ _ _); k_dflt ((refine kba_turn (value' := PySem.Expr.Name (PySem.Str.ofString "_") ⟨0, 0, 0, 0⟩) (fun _ => rfl) ?_); (refine' kim_list ?itN ?itm ?itc ?itd ?itlo ?ithi ?itx ?_ ?its; (case itN => k_asm); (case itm => k_mem); (case itc => assumption); (case itd => assumption); (case itlo => first | exact hlo | decide); (case ithi => first | exact hhi | decide); (case itx => first | exact vA | exact rfl); (case its => with_unfolding_all rfl))))
  k_with "subscriptTail Subscript Name Name BinOp ref int" => ((with_reducible show wpAny _ _ (subscriptTail _ _ (Value.ref _) (Value.int _ _)) _ _ _); k_dflt ((refine kba_turn (value' := PySem.Expr.Name (PySem.Str.ofString "_") ⟨0, 0, 0, 0⟩) (fun _ => rfl) ?_); (refine' kim_list ?itN ?itm ?itc ?itd ?itlo ?ithi ?itx ?_ ?its; (case itN => k_asm); (case itm => k_mem); (case itc => assumption); (case itd => assumption); (case itlo => first | exact hlo | decide); (case ithi => first | exact hhi | decide); (case itx => first | exact vA | exact rfl); (case its => with_unfolding_all rfl))))
  k_with "subscriptTail Subscript Name Constant Name ref int" => ((with_reducible show wpAny _ _ (subscriptTail _ _ (Value.ref _) (Value.int _ _)) _ _ _); k_dflt ((refine kba_turn (value' := PySem.Expr.Name (PySem.Str.ofString "_") ⟨0, 0, 0, 0⟩) (fun _ => rfl) ?_); (refine' kim_list ?itN ?itm ?itc ?itd ?itlo ?ithi ?itx ?_ ?its; (case itN => k_asm); (case itm => k_mem); (case itc => assumption); (case itd => assumption); (case itlo => first | exact hlo | decide); (case ithi => first | exact hhi | decide); (case itx => first | exact vA | exact rfl); (case its => with_unfolding_all rfl))))
  k_with "CompSrc" => (k_here; k_dflt (refine LCg.CompSrc.range (by rfl) (by k_asm) (by k_asm) (by assumption) (by first | decide | rfl) (by first | rfl | decide) (by first | size_fits | exact Nat.le_of_ble_eq_true rfl) ?_; intro g'; lcg_lit))
  k_with "FinE cons" => ((unfold LCg.FinE); intro D8 h8 tk8 F8 N8 o8; (try simp only [List.nil_append, List.cons_append] at N8); (try dsimp only))
  k_with "FinE" => ((unfold LCg.FinE); intro D8 h8 tk8 F8 N8 o8; (try simp only [List.nil_append, List.cons_append] at N8); (try dsimp only))
  k_with "CompEnd ref" => (k_dflt (first | (refine cend_new (by with_reducible assumption) (by with_reducible assumption) (by with_reducible assumption) ?ceo trivial ?_; (case ceo => first | (with_reducible assumption) | (simp only [LCg.Off3, and_true]; with_reducible assumption))) | (refine cend_same (by with_reducible assumption) (by with_reducible assumption) ?ceo trivial ?_; (case ceo => first | (with_reducible assumption) | (simp only [LCg.Off3, and_true]; with_reducible assumption))) | (refine cend_same (by with_reducible assumption) (by with_reducible assumption) ?ceo ?ceS ?_; (case ceo => first | (with_reducible assumption) | (simp only [LCg.Off3, and_true]; with_reducible assumption)); (case ceS => (refine' Or.inr ⟨_, ?ca, ?cb, _, ?cc⟩; (case ca => k_mem); (case cb => rfl); (case cc => rfl))))))
  k_with "CompEnd" => (k_dflt (first | (refine cend_new (by with_reducible assumption) (by with_reducible assumption) (by with_reducible assumption) ?ceo trivial ?_; (case ceo => first | (with_reducible assumption) | (simp only [LCg.Off3, and_true]; with_reducible assumption))) | (refine cend_same (by with_reducible assumption) (by with_reducible assumption) ?ceo trivial ?_; (case ceo => first | (with_reducible assumption) | (simp only [LCg.Off3, and_true]; with_reducible assumption))) | (refine cend_same (by with_reducible assumption) (by with_reducible assumption) ?ceo ?ceS ?_; (case ceo => first | (with_reducible assumption) | (simp only [LCg.Off3, and_true]; with_reducible assumption)); (case ceS => (refine' Or.inr ⟨_, ?ca, ?cb, _, ?cc⟩; (case ca => k_mem); (case cb => rfl); (case cc => rfl))))))
  k_with "CompEnd none" => (k_dflt (first | (refine cend_new (by with_reducible assumption) (by with_reducible assumption) (by with_reducible assumption) ?ceo trivial ?_; (case ceo => first | (with_reducible assumption) | (simp only [LCg.Off3, and_true]; with_reducible assumption))) | (refine cend_same (by with_reducible assumption) (by with_reducible assumption) ?ceo trivial ?_; (case ceo => first | (with_reducible assumption) | (simp only [LCg.Off3, and_true]; with_reducible assumption))) | (refine cend_same (by with_reducible assumption) (by with_reducible assumption) ?ceo ?ceS ?_; (case ceo => first | (with_reducible assumption) | (simp only [LCg.Off3, and_true]; with_reducible assumption)); (case ceS => (refine' Or.inr ⟨_, ?ca, ?cb, _, ?cc⟩; (case ca => k_mem); (case cb => rfl); (case cc => rfl))))))
  k_with "CompEnd int" => (k_dflt (first | (refine cend_new (by with_reducible assumption) (by with_reducible assumption) (by with_reducible assumption) ?ceo trivial ?_; (case ceo => first | (with_reducible assumption) | (simp only [LCg.Off3, and_true]; with_reducible assumption))) | (refine cend_same (by with_reducible assumption) (by with_reducible assumption) ?ceo trivial ?_; (case ceo => first | (with_reducible assumption) | (simp only [LCg.Off3, and_true]; with_reducible assumption))) | (refine cend_same (by with_reducible assumption) (by with_reducible assumption) ?ceo ?ceS ?_; (case ceo => first | (with_reducible assumption) | (simp only [LCg.Off3, and_true]; with_reducible assumption)); (case ceS => (refine' Or.inr ⟨_, ?ca, ?cb, _, ?cc⟩; (case ca => k_mem); (case cb => rfl); (case cc => rfl))))))
  k_steps
  all_goals first | k_data | ((rename Fr _ _ _ _ => lF'); (rename News _ _ _ _ => lN'); exact hret _ _ _ lF' lN' o8)
end
end Mine
namespace Mine
section
variable {w : World} {p : Program} {loose : List Str} {mean : ExcName → Option Value} {mg mb : Str → Option Value} {dp un : Nat} {gd : Option (List Code)} {a : Addr} {ccd : Value} {outer : List Env} {A₀ : Around} {base h₀ : Heap} {L : Addr} {m : Str → Option Value} {news : List (Addr × Obj)} {s : Shared} {Q : Value → Shared → Prop} {E : Value → Shared → Prop}
set_option maxRecDepth 100000 in
set_option maxHeartbeats 8000000 in
theorem even_row {e : Expr} {sc s1 : Scope} {c7 c6 c5 c4 c3 c2 c1 K C1 aW : Addr} {oK o1 oW : Obj} {j : Int} {tj : Tok} {R0 R1 R2 : Addr} {q0 q1 q2 : Obj} {kW k0 k1 k2 : Nat} {a00 a01 a02 a10 a11 a12 a20 a21 a22 z0 z1 z2 : Int} {s00 s01 s02 s10 s11 s12 s20 s21 s22 : Tok}
    (he : e = evenRow.1) (h1 : s1 = evenRow.2) (hsc : sc = lawScope)
    (B : Below A₀ base outer h₀) (F : Fr h₀ L s.heap m) (X : (hd.heap_39 w.params).In h₀) (T : Top p loose mean mg mb h₀)
    (N : News h₀ L s.heap news)
    (mK : (K, oK) ∈ news) (dK : oK.data = .cell (some (.int j tj))) (m1 : (c1, o1) ∈ news) (d1 : o1.data = .cell (some (.ref aW))) (mW : (aW, oW) ∈ news)
    (cW : oW.cls = .type "list") (dW : oW.data = .seq [.ref R0, .ref R1, .ref R2].toArray kW)
    (ma : (R0, q0) ∈ news) (ca : q0.cls = .type "list") (da : q0.data = .seq [.int a00 s00, .int a01 s01, .int a02 s02].toArray k0) (mb : (R1, q1) ∈ news) (cb : q1.cls = .type "list") (db : q1.data = .seq [.int a10 s10, .int a11 s11, .int a12 s12].toArray k1) (mc : (R2, q2) ∈ news) (cc : q2.cls = .type "list") (dc : q2.data = .seq [.int a20 s20, .int a21 s21, .int a22 s22].toArray k2)
    (hj : (j = 0 ∧ z0 = 0 ∧ z1 = a01 + a10 ∧ z2 = a02 + a20) ∨ (j = 1 ∧ z0 = a10 + a01 ∧ z1 = 0 ∧ z2 = a12 + a21) ∨ (j = 2 ∧ z0 = a20 + a02 ∧ z1 = a21 + a12 ∧ z2 = 0))
    (hd : dp + 300 < recursionLimit) (hu : un + 3000 < cLine)
    (hret : ∀ D h' tk' u0 u1 u2, Fr h₀ L h' m → News h₀ L h' ((D, LCg.lst [.int z0 u0, .int z1 u1, .int z2 u2]) :: news) → LCg.Off1 D news → Q (.ref D) { s with heap := h', toks := tk' }) :
    wpAny (model PySem.Challenge.rw_hg0003_01.row.prog w) (ktrTop dp un gd (Str.ofString "law") sc L a ccd (lawCl c1 c2 c3 c4 c5 c6 c7) outer) (eval e (compEnvC s1 [(Str.ofString "j", K), (Str.ofString "ways", c1)] C1 (envX (Str.ofString "law") sc L a ccd (lawCl c1 c2 c3 c4 c5 c6 c7)))) Q E s := by
  conv at he => rhs; whnf
  conv at h1 => rhs; whnf
  conv at hsc => rhs; whnf
  subst he h1 hsc
  rcases hj with ⟨rfl, rfl, rfl, rfl⟩ | ⟨rfl, rfl, rfl, rfl⟩ | ⟨rfl, rfl, rfl, rfl⟩
  all_goals skip
  all_goals (revert X; k_fill; intro X)
  w_top off
  k_with_none
  k_with "execs nil" => ((with_reducible refine gen_toks ?_); intro tk9; refine wpAny_execs_nil ?_; dsimp only)
  k_with "subscriptTail Name Constant ref int" => ((with_reducible show wpAny _ _ (subscriptTail _ _ (Value.ref _) (Value.int _ _)) _ _ _); k_dflt ((refine kba_turn (value' := PySem.Expr.Name (PySem.Str.ofString "_") ⟨0, 0, 0, 0⟩) (fun _ => rfl) ?_); (refine' kim_list ?itN ?itm ?itc ?itd ?itlo ?ithi ?itx ?_ ?its; (case itN => k_asm); (case itm => k_mem); (case itc => assumption); (case itd => assumption); (case itlo => decide); (case ithi => decide); (case itx => exact rfl); (case its => with_unfolding_all rfl))))
  k_with "subscriptTail" => ((with_reducible show wpAny _ _ (subscriptTail _ _ (Value.ref _) (Value.int _ _)) _ _ _); k_dflt ((refine kba_turn (value' := PySem.Expr.Name (PySem.Str.ofString "_") ⟨0, 0, 0, 0⟩) (fun _ => rfl) ?_); (refine' kim_list ?itN ?itm ?itc ?itd ?itlo ?ithi ?itx ?_ ?its; (case itN => k_asm); (case itm => k_mem); (case itc => assumption); (case itd => assumption); (case itlo => decide); (case ithi => decide); (case itx => exact rfl); (case its => with_unfolding_all rfl))))
  k_with "subscriptTail Name Name ref int" => ((with_reducible show wpAny _ _ (subscriptTail _ _ (Value.ref _) (Value.int _ _)) _ _ _); k_dflt ((refine kba_turn (value' := PySem.Expr.Name (PySem.Str.ofString "_") ⟨0, 0, 0, 0⟩) (fun _ => rfl) ?_); (refine' kim_list ?itN ?itm ?itc ?itd ?itlo ?ithi ?itx ?_ ?its; (case itN => k_asm); (case itm => k_mem); (case itc => assumption); (case itd => assumption); (case itlo => decide); (case ithi => decide); (case itx => exact rfl); (case its => with_unfolding_all rfl))))
  k_with "subscriptTail Name BinOp ref int" => ((with_reducible show wpAny _ _ (subscriptTail _ _ (Value.ref _) (Value.int _ _)) _ _ _); k_dflt ((refine kba_turn (value' := PySem.Expr.Name (PySem.Str.ofString "_") ⟨0, 0, 0, 0⟩) (fun _ => rfl) ?_); (refine' kim_list ?itN ?itm ?itc ?itd ?itlo ?ithi ?itx ?_ ?its; (case itN => k_asm); (case itm => k_mem); (case itc => assumption); (case itd => assumption); (case itlo => decide); (case ithi => decide); (case itx => exact rfl); (case its => with_unfolding_all rfl))))
  k_with "subscriptTail Subscript Name Name Constant ref int" => ((with_reducible show wpAny _ _ (subscriptTail _ _ (Value.ref _) (Value.int _ _)) _ _ _); k_dflt ((refine kba_turn (value' := PySem.Expr.Name (PySem.Str.ofString "_") ⟨0, 0, 0, 0⟩) (fun _ => rfl) ?_); (refine' kim_list ?itN ?itm ?itc ?itd ?itlo ?ithi ?itx ?_ ?its; (case itN => k_asm); (case itm => k_mem); (case itc => assumption); (case itd => assumption); (case itlo => decide); (case ithi => decide); (case itx => exact rfl); (case its => with_unfolding_all rfl))))
  k_with "subscriptTail Subscript Name Constant Constant ref int" => ((with_reducible show wpAny _ _ (subscriptTail _ _ (Value.ref _) (Value.int _ _)) _ _ _); k_dflt ((refine kba_turn (value' := PySem.Expr.Name (PySem.Str.ofString "_") ⟨0, 0, 0, 0⟩) (fun _ => rfl) ?_); (refine' kim_list ?itN ?itm ?itc ?itd ?itlo ?ithi ?itx ?_ ?its; (case itN => k_asm); (case itm => k_mem); (case itc => assumption); (case itd => assumption); (case itlo => decide); (case ithi => decide); (case itx => exact rfl); (case its => with_unfolding_all rfl))))
  k_with "subscriptTail Subscript Name Name Name ref int" => ((with_reducible show wpAny _ _ (subscriptTail _ _ (Value.ref _) (Value.int _ _)) _ _ _); k_dflt ((refine kba_turn (value' := PySem.Expr.Name (PySem.Str.ofString "_") ⟨0, 0, 0, 0⟩) (fun _ => rfl) ?_); (refine' kim_list ?itN ?itm ?itc ?itd ?itlo ?ithi ?itx ?_ ?its; (case itN => k_asm); (case itm => k_mem); (case itc => assumption); (case itd => assumption); (case itlo => decide); (case ithi => decide); (case itx => exact rfl); (case its => with_unfolding_all rfl))))
  k_with "subscriptTail Subscript Name Name BinOp ref int" => ((with_reducible show wpAny _ _ (subscriptTail _ _ (Value.ref _) (Value.int _ _)) _ _ _); k_dflt ((refine kba_turn (value' := PySem.Expr.Name (PySem.Str.ofString "_") ⟨0, 0, 0, 0⟩) (fun _ => rfl) ?_); (refine' kim_list ?itN ?itm ?itc ?itd ?itlo ?ithi ?itx ?_ ?its; (case itN => k_asm); (case itm => k_mem); (case itc => assumption); (case itd => assumption); (case itlo => decide); (case ithi => decide); (case itx => exact rfl); (case its => with_unfolding_all rfl))))
  k_with "subscriptTail Subscript Name Constant Name ref int" => ((with_reducible show wpAny _ _ (subscriptTail _ _ (Value.ref _) (Value.int _ _)) _ _ _); k_dflt ((refine kba_turn (value' := PySem.Expr.Name (PySem.Str.ofString "_") ⟨0, 0, 0, 0⟩) (fun _ => rfl) ?_); (refine' kim_list ?itN ?itm ?itc ?itd ?itlo ?ithi ?itx ?_ ?its; (case itN => k_asm); (case itm => k_mem); (case itc => assumption); (case itd => assumption); (case itlo => decide); (case ithi => decide); (case itx => exact rfl); (case its => with_unfolding_all rfl))))
  k_with "CompSrc" => (k_here; k_dflt (refine LCg.CompSrc.range (by rfl) (by k_asm) (by k_asm) (by assumption) (by first | decide | rfl) (by first | rfl | decide) (by first | size_fits | exact Nat.le_of_ble_eq_true rfl) ?_; intro g'; lcg_lit))
  k_with "ite" => (with_reducible refine ite_self ?_)
  k_with "FinE cons" => ((unfold LCg.FinE); intro D8 h8 tk8 F8 N8 o8; (try simp only [List.nil_append, List.cons_append] at N8); (try dsimp only))
  k_with "FinE" => ((unfold LCg.FinE); intro D8 h8 tk8 F8 N8 o8; (try simp only [List.nil_append, List.cons_append] at N8); (try dsimp only))
  k_with "CompEnd ref" => (k_dflt (first | (refine cend_new (by with_reducible assumption) (by with_reducible assumption) (by with_reducible assumption) ?ceo trivial ?_; (case ceo => first | (with_reducible assumption) | (simp only [LCg.Off3, and_true]; with_reducible assumption))) | (refine cend_same (by with_reducible assumption) (by with_reducible assumption) ?ceo trivial ?_; (case ceo => first | (with_reducible assumption) | (simp only [LCg.Off3, and_true]; with_reducible assumption))) | (refine cend_same (by with_reducible assumption) (by with_reducible assumption) ?ceo ?ceS ?_; (case ceo => first | (with_reducible assumption) | (simp only [LCg.Off3, and_true]; with_reducible assumption)); (case ceS => (refine' Or.inr ⟨_, ?ca, ?cb, _, ?cc⟩; (case ca => k_mem); (case cb => rfl); (case cc => rfl))))))
  k_with "CompEnd" => (k_dflt (first | (refine cend_new (by with_reducible assumption) (by with_reducible assumption) (by with_reducible assumption) ?ceo trivial ?_; (case ceo => first | (with_reducible assumption) | (simp only [LCg.Off3, and_true]; with_reducible assumption))) | (refine cend_same (by with_reducible assumption) (by with_reducible assumption) ?ceo trivial ?_; (case ceo => first | (with_reducible assumption) | (simp only [LCg.Off3, and_true]; with_reducible assumption))) | (refine cend_same (by with_reducible assumption) (by with_reducible assumption) ?ceo ?ceS ?_; (case ceo => first | (with_reducible assumption) | (simp only [LCg.Off3, and_true]; with_reducible assumption)); (case ceS => (refine' Or.inr ⟨_, ?ca, ?cb, _, ?cc⟩; (case ca => k_mem); (case cb => rfl); (case cc => rfl))))))
  k_with "CompEnd none" => (k_dflt (first | (refine cend_new (by with_reducible assumption) (by with_reducible assumption) (by with_reducible assumption) ?ceo trivial ?_; (case ceo => first | (with_reducible assumption) | (simp only [LCg.Off3, and_true]; with_reducible assumption))) | (refine cend_same (by with_reducible assumption) (by with_reducible assumption) ?ceo trivial ?_; (case ceo => first | (with_reducible assumption) | (simp only [LCg.Off3, and_true]; with_reducible assumption))) | (refine cend_same (by with_reducible assumption) (by with_reducible assumption) ?ceo ?ceS ?_; (case ceo => first | (with_reducible assumption) | (simp only [LCg.Off3, and_true]; with_reducible assumption)); (case ceS => (refine' Or.inr ⟨_, ?ca, ?cb, _, ?cc⟩; (case ca => k_mem); (case cb => rfl); (case cc => rfl))))))
  k_with "CompEnd int" => (k_dflt (first | (refine cend_new (by with_reducible assumption) (by with_reducible assumption) (by with_reducible assumption) ?ceo trivial ?_; (case ceo => first | (with_reducible assumption) | (simp only [LCg.Off3, and_true]; with_reducible assumption))) | (refine cend_same (by with_reducible assumption) (by with_reducible assumption) ?ceo trivial ?_; (case ceo => first | (with_reducible assumption) | (simp only [LCg.Off3, and_true]; with_reducible assumption))) | (refine cend_same (by with_reducible assumption) (by with_reducible assumption) ?ceo ?ceS ?_; (case ceo => first | (with_reducible assumption) | (simp only [LCg.Off3, and_true]; with_reducible assumption)); (case ceS => (refine' Or.inr ⟨_, ?ca, ?cb, _, ?cc⟩; (case ca => k_mem); (case cb => rfl); (case cc => rfl))))))
  k_steps
  all_goals first | k_data | ((rename Fr _ _ _ _ => lF'); (rename News _ _ _ _ => lN'); exact hret _ _ _ _ _ _ lF' lN' o8)
end
end Mine
namespace Mine
theorem pick13 {h₀ h : Heap} {L : Addr} {q1 q2 q3 q4 q44 q51 : Addr × Obj} {l : List (Addr × Obj)} (N : News h₀ L h (q1 :: q2 :: q3 :: q4 :: l)) (m44 : q44 ∈ l) (m51 : q51 ∈ l) : News h₀ L h [q1, q2, q3, q4, q44, q51] := cb_drop N fun q hq => by
  simp only [List.mem_cons, List.not_mem_nil, or_false] at hq ⊢
  rcases hq with h | h | h | h | h | h
  · simp [h]
  · simp [h]
  · simp [h]
  · simp [h]
  · rw [h]; simp [m44]
  · rw [h]; simp [m51]
section
variable {w : World} {p : Program} {loose : List Str} {mean : ExcName → Option Value} {mg mb : Str → Option Value} {dp un : Nat} {gd : Option (List Code)} {a : Addr} {ccd : Value} {outer : List Env} {A₀ : Around} {base h₀ : Heap} {L : Addr} {m : Str → Option Value} {news : List (Addr × Obj)} {s : Shared} {Q : Flow → Shared → Prop} {E : Value → Shared → Prop}
set_option maxRecDepth 100000 in
set_option maxHeartbeats 8000000 in
theorem v12 {sc : Scope} {body : List Stmt} {c7 c6 c5 c4 c3 c2 c1 aW R0 R1 R2 : Addr} {o1 : Obj} {r00 r01 r02 r10 r11 r12 r20 r21 r22 : Tok} {n0 n1 n2 n3 n4 n5 g0 g1 g2 ww : Int} {kW k0 k1 k2 : Nat} {ps1 ps2 : Array Value}
    (hsc : sc = lawScope) (hbody : body = lawRest 12)
    (B : Below A₀ base outer h₀) (F : Fr h₀ L s.heap m) (X : (hd.heap_39 w.params).In h₀) (T : Top p loose mean mg mb h₀)
    (N : News h₀ L s.heap news)
    (m1 : (c1, o1) ∈ news) (mW : (aW, W.listOf #[.ref R0, .ref R1, .ref R2] kW) ∈ news) (mr0 : (R0, W.listOf #[.int g0 r00, .int n0 r01, .int n1 r02] k0) ∈ news) (mr1 : (R1, W.listOf #[.int n2 r10, .int g1 r11, .int n3 r12] k1) ∈ news) (mr2 : (R2, W.listOf #[.int n4 r20, .int n5 r21, .int g2 r22] k2) ∈ news) (m44 : (44, tabObj ps1) ∈ news) (m51 : (51, tabObj ps2) ∈ news)
    (d1 : o1.data = .cell (some (.ref aW)))
    (hn0 : 1 ≤ n0 ∧ n0 ≤ 4) (hn1 : 1 ≤ n1 ∧ n1 ≤ 4) (hn2 : 1 ≤ n2 ∧ n2 ≤ 4) (hn3 : 1 ≤ n3 ∧ n3 ≤ 4) (hn4 : 1 ≤ n4 ∧ n4 ≤ 4) (hn5 : 1 ≤ n5 ∧ n5 ≤ 4) (hg0 : 1 ≤ g0) (hg1 : 1 ≤ g1) (hg2 : 1 ≤ g2) (hs0 : g0 + n0 + n1 = ww) (hs1 : n2 + g1 + n3 = ww) (hs2 : n4 + n5 + g2 = ww) (hw9 : ww ≤ 9)
    (hd : dp + 300 < recursionLimit) (hu : un + 3000 < cLine)
    (hE : PassesOwn (model PySem.Challenge.rw_hg0003_01.row.prog w) (ktrTop dp un gd (Str.ofString "law") sc L a ccd (lawCl c1 c2 c3 c4 c5 c6 c7) outer) (envX (Str.ofString "law") sc L a ccd (lawCl c1 c2 c3 c4 c5 c6 c7)) E)
    (hret : ∀ m' news' qs1 qs2 h' tk', Fr h₀ L h' m' → News h₀ L h' news' → (44, tabObj qs1) ∈ news' → (51, tabObj qs2) ∈ news' → Q (.ret (.bool true)) { s with heap := h', toks := tk' }) :
    wpAny (model PySem.Challenge.rw_hg0003_01.row.prog w) (ktrTop dp un gd (Str.ofString "law") sc L a ccd (lawCl c1 c2 c3 c4 c5 c6 c7) outer) (execs body (envX (Str.ofString "law") sc L a ccd (lawCl c1 c2 c3 c4 c5 c6 c7))) Q E s := by
  conv at hsc => rhs; whnf
  conv at hbody => rhs; whnf
  subst hsc hbody
  revert X; k_fill; intro X
  w_top off
  k_with_none
  k_with "execs nil" => ((with_reducible refine gen_toks ?_); intro tk9; refine wpAny_execs_nil ?_; dsimp only)
  k_with "subscriptTail Name Constant ref int" => ((with_reducible show wpAny _ _ (subscriptTail _ _ (Value.ref _) (Value.int _ _)) _ _ _); k_dflt ((refine kba_turn (value' := PySem.Expr.Name (PySem.Str.ofString "_") ⟨0, 0, 0, 0⟩) (fun _ => rfl) ?_); first | (refine' kim_tup ?itN ?itm ?itc ?itd ?itlo ?ithi ?itj ?itx ?_ ?its; (case itN => k_asm); (case itm => k_mem); (case itc => exact rfl); (case itd => exact rfl); (case itlo => decide); (case ithi => decide); (case itj => exact rfl); (case itx => exact rfl); (case its => with_unfolding_all rfl)) | (refine' kim_list ?itN ?itm ?itc ?itd ?itlo ?ithi ?itx ?_ ?its; (case itN => k_asm); (case itm => k_mem); (case itc => exact rfl); (case itd => exact rfl); (case itlo => decide); (case ithi => decide); (case itx => exact rfl); (case its => with_unfolding_all rfl))))
  k_with "subscriptTail" => ((with_reducible show wpAny _ _ (subscriptTail _ _ (Value.ref _) (Value.int _ _)) _ _ _); k_dflt ((refine kba_turn (value' := PySem.Expr.Name (PySem.Str.ofString "_") ⟨0, 0, 0, 0⟩) (fun _ => rfl) ?_); first | (refine' kim_tup ?itN ?itm ?itc ?itd ?itlo ?ithi ?itj ?itx ?_ ?its; (case itN => k_asm); (case itm => k_mem); (case itc => exact rfl); (case itd => exact rfl); (case itlo => decide); (case ithi => decide); (case itj => exact rfl); (case itx => exact rfl); (case its => with_unfolding_all rfl)) | (refine' kim_list ?itN ?itm ?itc ?itd ?itlo ?ithi ?itx ?_ ?its; (case itN => k_asm); (case itm => k_mem); (case itc => exact rfl); (case itd => exact rfl); (case itlo => decide); (case ithi => decide); (case itx => exact rfl); (case its => with_unfolding_all rfl))))
  k_with "subscriptTail Name Name ref int" => ((with_reducible show wpAny _ _ (subscriptTail _ _ (Value.ref _) (Value.int _ _)) _ _ _); k_dflt ((refine kba_turn (value' := PySem.Expr.Name (PySem.Str.ofString "_") ⟨0, 0, 0, 0⟩) (fun _ => rfl) ?_); first | (refine' kim_tup ?itN ?itm ?itc ?itd ?itlo ?ithi ?itj ?itx ?_ ?its; (case itN => k_asm); (case itm => k_mem); (case itc => exact rfl); (case itd => exact rfl); (case itlo => decide); (case ithi => decide); (case itj => exact rfl); (case itx => exact rfl); (case its => with_unfolding_all rfl)) | (refine' kim_list ?itN ?itm ?itc ?itd ?itlo ?ithi ?itx ?_ ?its; (case itN => k_asm); (case itm => k_mem); (case itc => exact rfl); (case itd => exact rfl); (case itlo => decide); (case ithi => decide); (case itx => exact rfl); (case its => with_unfolding_all rfl))))
  k_with "subscriptTail Name BinOp ref int" => ((with_reducible show wpAny _ _ (subscriptTail _ _ (Value.ref _) (Value.int _ _)) _ _ _); k_dflt ((refine kba_turn (value' := PySem.Expr.Name (PySem.Str.ofString "_") ⟨0, 0, 0, 0⟩) (fun _ => rfl) ?_); first | (refine' kim_tup ?itN ?itm ?itc ?itd ?itlo ?ithi ?itj ?itx ?_ ?its; (case itN => k_asm); (case itm => k_mem); (case itc => exact rfl); (case itd => exact rfl); (case itlo => decide); (case ithi => decide); (case itj => exact rfl); (case itx => exact rfl); (case its => with_unfolding_all rfl)) | (refine' kim_list ?itN ?itm ?itc ?itd ?itlo ?ithi ?itx ?_ ?its; (case itN => k_asm); (case itm => k_mem); (case itc => exact rfl); (case itd => exact rfl); (case itlo => decide); (case ithi => decide); (case itx => exact rfl); (case its => with_unfolding_all rfl))))
  k_with "subscriptTail Subscript Name Name Constant ref int" => ((with_reducible show wpAny _ _ (subscriptTail _ _ (Value.ref _) (Value.int _ _)) _ _ _); k_dflt ((refine kba_turn (value' := PySem.Expr.Name (PySem.Str.ofString "_") ⟨0, 0, 0, 0⟩) (fun _ => rfl) ?_); first | (refine' kim_tup ?itN ?itm ?itc ?itd ?itlo ?ithi ?itj ?itx ?_ ?its; (case itN => k_asm); (case itm => k_mem); (case itc => exact rfl); (case itd => exact rfl); (case itlo => decide); (case ithi => decide); (case itj => exact rfl); (case itx => exact rfl); (case its => with_unfolding_all rfl)) | (refine' kim_list ?itN ?itm ?itc ?itd ?itlo ?ithi ?itx ?_ ?its; (case itN => k_asm); (case itm => k_mem); (case itc => exact rfl); (case itd => exact rfl); (case itlo => decide); (case ithi => decide); (case itx => exact rfl); (case its => with_unfolding_all rfl))))
  k_with "subscriptTail Subscript Name Constant Constant ref int" => ((with_reducible show wpAny _ _ (subscriptTail _ _ (Value.ref _) (Value.int _ _)) _ _ _); k_dflt ((refine kba_turn (value' := PySem.Expr.Name (PySem.Str.ofString "_") ⟨0, 0, 0, 0⟩) (fun _ => rfl) ?_); first | (refine' kim_tup ?itN ?itm ?itc ?itd ?itlo ?ithi ?itj ?itx ?_ ?its; (case itN => k_asm); (case itm => k_mem); (case itc => exact rfl); (case itd => exact rfl); (case itlo => decide); (case ithi => decide); (case itj => exact rfl); (case itx => exact rfl); (case its => with_unfolding_all rfl)) | (refine' kim_list ?itN ?itm ?itc ?itd ?itlo ?ithi ?itx ?_ ?its; (case itN => k_asm); (case itm => k_mem); (case itc => exact rfl); (case itd => exact rfl); (case itlo => decide); (case ithi => decide); (case itx => exact rfl); (case its => with_unfolding_all rfl))))
  k_with "subscriptTail Subscript Name Name Name ref int" => ((with_reducible show wpAny _ _ (subscriptTail _ _ (Value.ref _) (Value.int _ _)) _ _ _); k_dflt ((refine kba_turn (value' := PySem.Expr.Name (PySem.Str.ofString "_") ⟨0, 0, 0, 0⟩) (fun _ => rfl) ?_); first | (refine' kim_tup ?itN ?itm ?itc ?itd ?itlo ?ithi ?itj ?itx ?_ ?its; (case itN => k_asm); (case itm => k_mem); (case itc => exact rfl); (case itd => exact rfl); (case itlo => decide); (case ithi => decide); (case itj => exact rfl); (case itx => exact rfl); (case its => with_unfolding_all rfl)) | (refine' kim_list ?itN ?itm ?itc ?itd ?itlo ?ithi ?itx ?_ ?its; (case itN => k_asm); (case itm => k_mem); (case itc => exact rfl); (case itd => exact rfl); (case itlo => decide); (case ithi => decide); (case itx => exact rfl); (case its => with_unfolding_all rfl))))
  k_with "subscriptTail Subscript Name Name BinOp ref int" => ((with_reducible show wpAny _ _ (subscriptTail _ _ (Value.ref _) (Value.int _ _)) _ _ _); k_dflt ((refine kba_turn (value' := PySem.Expr.Name (PySem.Str.ofString "_") ⟨0, 0, 0, 0⟩) (fun _ => rfl) ?_); first | (refine' kim_tup ?itN ?itm ?itc ?itd ?itlo ?ithi ?itj ?itx ?_ ?its; (case itN => k_asm); (case itm => k_mem); (case itc => exact rfl); (case itd => exact rfl); (case itlo => decide); (case ithi => decide); (case itj => exact rfl); (case itx => exact rfl); (case its => with_unfolding_all rfl)) | (refine' kim_list ?itN ?itm ?itc ?itd ?itlo ?ithi ?itx ?_ ?its; (case itN => k_asm); (case itm => k_mem); (case itc => exact rfl); (case itd => exact rfl); (case itlo => decide); (case ithi => decide); (case itx => exact rfl); (case its => with_unfolding_all rfl))))
  k_with "subscriptTail Subscript Name Constant Name ref int" => ((with_reducible show wpAny _ _ (subscriptTail _ _ (Value.ref _) (Value.int _ _)) _ _ _); k_dflt ((refine kba_turn (value' := PySem.Expr.Name (PySem.Str.ofString "_") ⟨0, 0, 0, 0⟩) (fun _ => rfl) ?_); first | (refine' kim_tup ?itN ?itm ?itc ?itd ?itlo ?ithi ?itj ?itx ?_ ?its; (case itN => k_asm); (case itm => k_mem); (case itc => exact rfl); (case itd => exact rfl); (case itlo => decide); (case ithi => decide); (case itj => exact rfl); (case itx => exact rfl); (case its => with_unfolding_all rfl)) | (refine' kim_list ?itN ?itm ?itc ?itd ?itlo ?ithi ?itx ?_ ?its; (case itN => k_asm); (case itm => k_mem); (case itc => exact rfl); (case itd => exact rfl); (case itlo => decide); (case ithi => decide); (case itx => exact rfl); (case its => with_unfolding_all rfl))))
  k_with "callWith ref nil nil" => (k_here; k_dflt (first | (refine' callWith_K ?kq1 ?kq2 ?_; (case kq1 => k_asm); (case kq2 => k_is); k_whole) | (refine' callWith_K0 ?kq1 ?kq2 ?_; (case kq1 => k_in); (case kq2 => k_is); k_whole)))
  k_with "SrcC" => (k_dflt (refine SrcC.range (by rfl) (by k_asm) (by k_asm) (by assumption) (by first | decide | rfl) (by first | rfl | decide) (by first | size_fits | exact Nat.le_of_ble_eq_true rfl) ?_; intro g9))
  k_with "RestC" => (k_dflt (first | (refine RestC.succ ?_; intro t9 K9 oK9 I9 oI9 C9 oC9 D9 h9 tk9 E9 dK9 F9 N9 off9; (try dsimp only)) | refine RestC.zero ?_))
  k_with "exec Assign cons ListComp" => (k_dflt (refine' asgComp_C ?lcfr ?lcW ?lcF ?lcK ?lcQ ?lcN ?lcX ?lcY ?lcP ?_ ?lcS; (case lcK => with_unfolding_all rfl); (case lcX => with_unfolding_all rfl); (case lcY => with_unfolding_all rfl); (case lcP => with_unfolding_all rfl); (case lcfr => k_asm); (case lcW => with_unfolding_all rfl); (case lcF => with_unfolding_all rfl); (case lcQ => with_unfolding_all rfl); (case lcN => with_unfolding_all decide); (case lcS => (intro _; with_unfolding_all rfl))))
  k_with "EndC" => (k_dflt (refine endc_keep (by with_reducible assumption) (by with_reducible assumption) (by with_reducible assumption) (by with_reducible assumption) ?_))
  k_with "FinAs" => (k_dflt ((unfold FinAs); intro D8 h8 tk8 F8 N8 o8; (try simp only [List.nil_append, List.cons_append] at N8); have o8y := addr_ne o8; simp only [List.map_cons, List.forall_mem_cons] at o8y; (repeat (obtain ⟨_, o8y⟩ := o8y)); have z44 : @Ne Nat 44 D8 := o8y _ (List.mem_map.mpr ⟨_, m44, rfl⟩); have z51 : @Ne Nat 51 D8 := o8y _ (List.mem_map.mpr ⟨_, m51, rfl⟩); (try dsimp only)))
  k_with "eval Call Name cons nil" => ((with_reducible show wpAny _ _ (eval (Expr.ListComp (Expr.IfExp _ _ _ _) _ _ _) _) _ _ _); (rename Fr _ _ _ _ => lF'); (rename News _ _ _ _ => lN'); k_dflt (refine' even_row rfl rfl rfl ?k1 lF' ?k3 ?k5 lN' List.mem_cons_self ?dK ?m1 d1 ?mW ?cW ?dW ?ma ?ca ?da ?mb ?cb ?db ?mc ?cc ?dc ?hj hd hu ?_; (case k1 => k_asm); (case k3 => k_asm); (case k5 => k_asm); (case dK => assumption); (case m1 => k_mem); (case mW => k_mem); (case cW => rfl); (case dW => rfl); (case ma => k_mem); (case ca => rfl); (case da => rfl); (case mb => k_mem); (case cb => rfl); (case db => rfl); (case mc => k_mem); (case cc => rfl); (case dc => rfl); (case hj => first | exact .inl ⟨rfl, rfl, rfl, rfl⟩ | exact .inr (.inl ⟨rfl, rfl, rfl, rfl⟩) | exact .inr (.inr ⟨rfl, rfl, rfl, rfl⟩))); clear lF' lN'; intro D8 h8 tk8 u80 u81 u82 F8 N8 o8; have o8x := o8; simp only [LCg.Off1] at o8x; (repeat (obtain ⟨_, o8x⟩ := o8x)); have y44 : @Ne Nat 44 D8 := off1_mem o8x _ m44; have y51 : @Ne Nat 51 D8 := off1_mem o8x _ m51; (try dsimp only))
  k_with "eval ListComp IfExp cons" => ((with_reducible show wpAny _ _ (eval (Expr.ListComp (Expr.IfExp _ _ _ _) _ _ _) _) _ _ _); (rename Fr _ _ _ _ => lF'); (rename News _ _ _ _ => lN'); k_dflt (refine' even_row rfl rfl rfl ?k1 lF' ?k3 ?k5 lN' List.mem_cons_self ?dK ?m1 d1 ?mW ?cW ?dW ?ma ?ca ?da ?mb ?cb ?db ?mc ?cc ?dc ?hj hd hu ?_; (case k1 => k_asm); (case k3 => k_asm); (case k5 => k_asm); (case dK => assumption); (case m1 => k_mem); (case mW => k_mem); (case cW => rfl); (case dW => rfl); (case ma => k_mem); (case ca => rfl); (case da => rfl); (case mb => k_mem); (case cb => rfl); (case db => rfl); (case mc => k_mem); (case cc => rfl); (case dc => rfl); (case hj => first | exact .inl ⟨rfl, rfl, rfl, rfl⟩ | exact .inr (.inl ⟨rfl, rfl, rfl, rfl⟩) | exact .inr (.inr ⟨rfl, rfl, rfl, rfl⟩))); clear lF' lN'; intro D8 h8 tk8 u80 u81 u82 F8 N8 o8; have o8x := o8; simp only [LCg.Off1] at o8x; (repeat (obtain ⟨_, o8x⟩ := o8x)); have y44 : @Ne Nat 44 D8 := off1_mem o8x _ m44; have y51 : @Ne Nat 51 D8 := off1_mem o8x _ m51; (try dsimp only))
  k_with "eval ListComp Subscript cons" => ((with_reducible show wpAny _ _ (eval (Expr.ListComp (Expr.IfExp _ _ _ _) _ _ _) _) _ _ _); (rename Fr _ _ _ _ => lF'); (rename News _ _ _ _ => lN'); k_dflt (refine' even_row rfl rfl rfl ?k1 lF' ?k3 ?k5 lN' List.mem_cons_self ?dK ?m1 d1 ?mW ?cW ?dW ?ma ?ca ?da ?mb ?cb ?db ?mc ?cc ?dc ?hj hd hu ?_; (case k1 => k_asm); (case k3 => k_asm); (case k5 => k_asm); (case dK => assumption); (case m1 => k_mem); (case mW => k_mem); (case cW => rfl); (case dW => rfl); (case ma => k_mem); (case ca => rfl); (case da => rfl); (case mb => k_mem); (case cb => rfl); (case db => rfl); (case mc => k_mem); (case cc => rfl); (case dc => rfl); (case hj => first | exact .inl ⟨rfl, rfl, rfl, rfl⟩ | exact .inr (.inl ⟨rfl, rfl, rfl, rfl⟩) | exact .inr (.inr ⟨rfl, rfl, rfl, rfl⟩))); clear lF' lN'; intro D8 h8 tk8 u80 u81 u82 F8 N8 o8; have o8x := o8; simp only [LCg.Off1] at o8x; (repeat (obtain ⟨_, o8x⟩ := o8x)); have y44 : @Ne Nat 44 D8 := off1_mem o8x _ m44; have y51 : @Ne Nat 51 D8 := off1_mem o8x _ m51; (try dsimp only))
  k_with "CompSrc" => (k_here; k_dflt (refine LCg.CompSrc.range (by rfl) (by k_asm) (by k_asm) (by assumption) (by first | decide | rfl) (by first | rfl | decide) (by first | size_fits | exact Nat.le_of_ble_eq_true rfl) ?_; intro g'; lcg_lit))
  k_with "ite" => (with_reducible refine ite_self ?_)
  k_with "FinE cons" => ((unfold LCg.FinE); intro D8 h8 tk8 F8 N8 o8; (try simp only [List.nil_append, List.cons_append] at N8); have o8x := o8; simp only [LCg.Off1] at o8x; (repeat (obtain ⟨_, o8x⟩ := o8x)); have y44 : @Ne Nat 44 D8 := off1_mem o8x _ m44; have y51 : @Ne Nat 51 D8 := off1_mem o8x _ m51; (try dsimp only))
  k_with "FinE" => ((unfold LCg.FinE); intro D8 h8 tk8 F8 N8 o8; (try simp only [List.nil_append, List.cons_append] at N8); have o8x := o8; simp only [LCg.Off1] at o8x; (repeat (obtain ⟨_, o8x⟩ := o8x)); have y44 : @Ne Nat 44 D8 := off1_mem o8x _ m44; have y51 : @Ne Nat 51 D8 := off1_mem o8x _ m51; (try dsimp only))
  k_with "CompEnd ref" => (k_dflt (first | (refine cend_new (by with_reducible assumption) (by with_reducible assumption) (by with_reducible assumption) ?ceo trivial ?_; (case ceo => first | (with_reducible assumption) | (simp only [LCg.Off3, and_true]; with_reducible assumption))) | (refine cend_same (by with_reducible assumption) (by with_reducible assumption) ?ceo trivial ?_; (case ceo => first | (with_reducible assumption) | (simp only [LCg.Off3, and_true]; with_reducible assumption))) | (refine cend_same (by with_reducible assumption) (by with_reducible assumption) ?ceo ?ceS ?_; (case ceo => first | (with_reducible assumption) | (simp only [LCg.Off3, and_true]; with_reducible assumption)); (case ceS => (refine' Or.inr ⟨_, ?ca, ?cb, _, ?cc⟩; (case ca => k_mem); (case cb => rfl); (case cc => rfl))))))
  k_with "CompEnd" => (k_dflt (first | (refine cend_new (by with_reducible assumption) (by with_reducible assumption) (by with_reducible assumption) ?ceo trivial ?_; (case ceo => first | (with_reducible assumption) | (simp only [LCg.Off3, and_true]; with_reducible assumption))) | (refine cend_same (by with_reducible assumption) (by with_reducible assumption) ?ceo trivial ?_; (case ceo => first | (with_reducible assumption) | (simp only [LCg.Off3, and_true]; with_reducible assumption))) | (refine cend_same (by with_reducible assumption) (by with_reducible assumption) ?ceo ?ceS ?_; (case ceo => first | (with_reducible assumption) | (simp only [LCg.Off3, and_true]; with_reducible assumption)); (case ceS => (refine' Or.inr ⟨_, ?ca, ?cb, _, ?cc⟩; (case ca => k_mem); (case cb => rfl); (case cc => rfl))))))
  k_with "CompEnd none" => (k_dflt (first | (refine cend_new (by with_reducible assumption) (by with_reducible assumption) (by with_reducible assumption) ?ceo trivial ?_; (case ceo => first | (with_reducible assumption) | (simp only [LCg.Off3, and_true]; with_reducible assumption))) | (refine cend_same (by with_reducible assumption) (by with_reducible assumption) ?ceo trivial ?_; (case ceo => first | (with_reducible assumption) | (simp only [LCg.Off3, and_true]; with_reducible assumption))) | (refine cend_same (by with_reducible assumption) (by with_reducible assumption) ?ceo ?ceS ?_; (case ceo => first | (with_reducible assumption) | (simp only [LCg.Off3, and_true]; with_reducible assumption)); (case ceS => (refine' Or.inr ⟨_, ?ca, ?cb, _, ?cc⟩; (case ca => k_mem); (case cb => rfl); (case cc => rfl))))))
  k_with "CompEnd int" => (k_dflt (first | (refine cend_new (by with_reducible assumption) (by with_reducible assumption) (by with_reducible assumption) ?ceo trivial ?_; (case ceo => first | (with_reducible assumption) | (simp only [LCg.Off3, and_true]; with_reducible assumption))) | (refine cend_same (by with_reducible assumption) (by with_reducible assumption) ?ceo trivial ?_; (case ceo => first | (with_reducible assumption) | (simp only [LCg.Off3, and_true]; with_reducible assumption))) | (refine cend_same (by with_reducible assumption) (by with_reducible assumption) ?ceo ?ceS ?_; (case ceo => first | (with_reducible assumption) | (simp only [LCg.Off3, and_true]; with_reducible assumption)); (case ceS => (refine' Or.inr ⟨_, ?ca, ?cb, _, ?cc⟩; (case ca => k_mem); (case cb => rfl); (case cc => rfl))))))
  k_with "execs cons Assign cons" => ((with_reducible show wpAny _ _ (execs (Stmt.Assign [Expr.Name (Str.ofString "most") _] _ _ :: _) _) _ _ _); (rename Fr _ _ _ _ => lF'); (rename News _ _ _ _ => lN'); refine' v13 ?nx1 ?nx2 B ?nxF X T (pick13 lN' m44 m51) ?ha0 ?ha1 ?ha2 ?ha3 ?ha4 ?ha5 ?ha6 ?ha7 ?ha8 ?ha9 ?ha10 ?ha11 ?ha12 ?ha13 ?m0 ?m1 ?m3 ?e2 ?e4 ?e5 hd hu hE hret; (case nx1 => rfl); (case nx2 => rfl); (case nxF => exact canon1 lF' rfl); (case ha0 => first | (with_reducible assumption) | (show @Ne PySem.Addr _ _; with_reducible assumption) | (with_reducible exact Ne.symm (by assumption)) | (show @Ne PySem.Addr _ _; with_reducible exact Ne.symm (by assumption))); (case ha1 => first | (with_reducible assumption) | (show @Ne PySem.Addr _ _; with_reducible assumption) | (with_reducible exact Ne.symm (by assumption)) | (show @Ne PySem.Addr _ _; with_reducible exact Ne.symm (by assumption))); (case ha2 => first | (with_reducible assumption) | (show @Ne PySem.Addr _ _; with_reducible assumption) | (with_reducible exact Ne.symm (by assumption)) | (show @Ne PySem.Addr _ _; with_reducible exact Ne.symm (by assumption))); (case ha3 => first | (with_reducible assumption) | (show @Ne PySem.Addr _ _; with_reducible assumption) | (with_reducible exact Ne.symm (by assumption)) | (show @Ne PySem.Addr _ _; with_reducible exact Ne.symm (by assumption))); (case ha4 => first | (with_reducible assumption) | (show @Ne PySem.Addr _ _; with_reducible assumption) | (with_reducible exact Ne.symm (by assumption)) | (show @Ne PySem.Addr _ _; with_reducible exact Ne.symm (by assumption))); (case ha5 => first | (with_reducible assumption) | (show @Ne PySem.Addr _ _; with_reducible assumption) | (with_reducible exact Ne.symm (by assumption)) | (show @Ne PySem.Addr _ _; with_reducible exact Ne.symm (by assumption))); (case ha6 => first | (with_reducible assumption) | (show @Ne PySem.Addr _ _; with_reducible assumption) | (with_reducible exact Ne.symm (by assumption)) | (show @Ne PySem.Addr _ _; with_reducible exact Ne.symm (by assumption))); (case ha7 => first | (with_reducible assumption) | (show @Ne PySem.Addr _ _; with_reducible assumption) | (with_reducible exact Ne.symm (by assumption)) | (show @Ne PySem.Addr _ _; with_reducible exact Ne.symm (by assumption))); (case ha8 => first | (with_reducible assumption) | (show @Ne PySem.Addr _ _; with_reducible assumption) | (with_reducible exact Ne.symm (by assumption)) | (show @Ne PySem.Addr _ _; with_reducible exact Ne.symm (by assumption))); (case ha9 => first | (with_reducible assumption) | (show @Ne PySem.Addr _ _; with_reducible assumption) | (with_reducible exact Ne.symm (by assumption)) | (show @Ne PySem.Addr _ _; with_reducible exact Ne.symm (by assumption))); (case ha10 => first | (with_reducible assumption) | (show @Ne PySem.Addr _ _; with_reducible assumption) | (with_reducible exact Ne.symm (by assumption)) | (show @Ne PySem.Addr _ _; with_reducible exact Ne.symm (by assumption))); (case ha11 => first | (with_reducible assumption) | (show @Ne PySem.Addr _ _; with_reducible assumption) | (with_reducible exact Ne.symm (by assumption)) | (show @Ne PySem.Addr _ _; with_reducible exact Ne.symm (by assumption))); (case ha12 => first | (with_reducible assumption) | (show @Ne PySem.Addr _ _; with_reducible assumption) | (with_reducible exact Ne.symm (by assumption)) | (show @Ne PySem.Addr _ _; with_reducible exact Ne.symm (by assumption))); (case ha13 => first | (with_reducible assumption) | (show @Ne PySem.Addr _ _; with_reducible assumption) | (with_reducible exact Ne.symm (by assumption)) | (show @Ne PySem.Addr _ _; with_reducible exact Ne.symm (by assumption))); (case m0 => exact ⟨by omega, by omega⟩); (case m1 => exact ⟨by omega, by omega⟩); (case m3 => exact ⟨by omega, by omega⟩); (case e2 => omega); (case e4 => omega); (case e5 => omega))
  k_with "execs cons For cons" => ((with_reducible show wpAny _ _ (execs (Stmt.Assign [Expr.Name (Str.ofString "most") _] _ _ :: _) _) _ _ _); (rename Fr _ _ _ _ => lF'); (rename News _ _ _ _ => lN'); refine' v13 ?nx1 ?nx2 B ?nxF X T (pick13 lN' m44 m51) ?ha0 ?ha1 ?ha2 ?ha3 ?ha4 ?ha5 ?ha6 ?ha7 ?ha8 ?ha9 ?ha10 ?ha11 ?ha12 ?ha13 ?m0 ?m1 ?m3 ?e2 ?e4 ?e5 hd hu hE hret; (case nx1 => rfl); (case nx2 => rfl); (case nxF => exact canon1 lF' rfl); (case ha0 => first | (with_reducible assumption) | (show @Ne PySem.Addr _ _; with_reducible assumption) | (with_reducible exact Ne.symm (by assumption)) | (show @Ne PySem.Addr _ _; with_reducible exact Ne.symm (by assumption))); (case ha1 => first | (with_reducible assumption) | (show @Ne PySem.Addr _ _; with_reducible assumption) | (with_reducible exact Ne.symm (by assumption)) | (show @Ne PySem.Addr _ _; with_reducible exact Ne.symm (by assumption))); (case ha2 => first | (with_reducible assumption) | (show @Ne PySem.Addr _ _; with_reducible assumption) | (with_reducible exact Ne.symm (by assumption)) | (show @Ne PySem.Addr _ _; with_reducible exact Ne.symm (by assumption))); (case ha3 => first | (with_reducible assumption) | (show @Ne PySem.Addr _ _; with_reducible assumption) | (with_reducible exact Ne.symm (by assumption)) | (show @Ne PySem.Addr _ _; with_reducible exact Ne.symm (by assumption))); (case ha4 => first | (with_reducible assumption) | (show @Ne PySem.Addr _ _; with_reducible assumption) | (with_reducible exact Ne.symm (by assumption)) | (show @Ne PySem.Addr _ _; with_reducible exact Ne.symm (by assumption))); (case ha5 => first | (with_reducible assumption) | (show @Ne PySem.Addr _ _; with_reducible assumption) | (with_reducible exact Ne.symm (by assumption)) | (show @Ne PySem.Addr _ _; with_reducible exact Ne.symm (by assumption))); (case ha6 => first | (with_reducible assumption) | (show @Ne PySem.Addr _ _; with_reducible assumption) | (with_reducible exact Ne.symm (by assumption)) | (show @Ne PySem.Addr _ _; with_reducible exact Ne.symm (by assumption))); (case ha7 => first | (with_reducible assumption) | (show @Ne PySem.Addr _ _; with_reducible assumption) | (with_reducible exact Ne.symm (by assumption)) | (show @Ne PySem.Addr _ _; with_reducible exact Ne.symm (by assumption))); (case ha8 => first | (with_reducible assumption) | (show @Ne PySem.Addr _ _; with_reducible assumption) | (with_reducible exact Ne.symm (by assumption)) | (show @Ne PySem.Addr _ _; with_reducible exact Ne.symm (by assumption))); (case ha9 => first | (with_reducible assumption) | (show @Ne PySem.Addr _ _; with_reducible assumption) | (with_reducible exact Ne.symm (by assumption)) | (show @Ne PySem.Addr _ _; with_reducible exact Ne.symm (by assumption))); (case ha10 => first | (with_reducible assumption) | (show @Ne PySem.Addr _ _; with_reducible assumption) | (with_reducible exact Ne.symm (by assumption)) | (show @Ne PySem.Addr _ _; with_reducible exact Ne.symm (by assumption))); (case ha11 => first | (with_reducible assumption) | (show @Ne PySem.Addr _ _; with_reducible assumption) | (with_reducible exact Ne.symm (by assumption)) | (show @Ne PySem.Addr _ _; with_reducible exact Ne.symm (by assumption))); (case ha12 => first | (with_reducible assumption) | (show @Ne PySem.Addr _ _; with_reducible assumption) | (with_reducible exact Ne.symm (by assumption)) | (show @Ne PySem.Addr _ _; with_reducible exact Ne.symm (by assumption))); (case ha13 => first | (with_reducible assumption) | (show @Ne PySem.Addr _ _; with_reducible assumption) | (with_reducible exact Ne.symm (by assumption)) | (show @Ne PySem.Addr _ _; with_reducible exact Ne.symm (by assumption))); (case m0 => exact ⟨by omega, by omega⟩); (case m1 => exact ⟨by omega, by omega⟩); (case m3 => exact ⟨by omega, by omega⟩); (case e2 => omega); (case e4 => omega); (case e5 => omega))
  k_steps
  all_goals k_data
end
end Mine
namespace Mine
section
variable {w : World} {p : Program} {loose : List Str} {mean : ExcName → Option Value} {mg mb : Str → Option Value} {dp un : Nat} {gd : Option (List Code)} {a : Addr} {ccd : Value} {outer : List Env} {A₀ : Around} {base h₀ : Heap} {L : Addr} {m : Str → Option Value} {news : List (Addr × Obj)} {s : Shared} {Q : Flow → Shared → Prop} {E : Value → Shared → Prop}
set_option maxRecDepth 100000 in
set_option maxHeartbeats 8000000 in
theorem v10 {sc : Scope} {body : List Stmt} {c7 c6 c5 c4 c3 c2 c1 aW R0 R1 R2 : Addr} {o1 : Obj} {r00 r01 r02 r10 r11 r12 r20 r21 r22 : Tok} {n0 n1 n2 n3 n4 n5 g0 g1 g2 ww : Int} {kW k0 k1 k2 : Nat} {ps1 ps2 : Array Value} {aT : Addr} {T0 T1 T2 : Int} {t0 t1 t2 : Tok}
    (hsc : sc = lawScope) (hbody : body = lawRest 10)
    (B : Below A₀ base outer h₀) (F : Fr h₀ L s.heap m) (X : (hd.heap_39 w.params).In h₀) (T : Top p loose mean mg mb h₀)
    (N : News h₀ L s.heap news)
    (m1 : (c1, o1) ∈ news) (mW : (aW, W.listOf #[.ref R0, .ref R1, .ref R2] kW) ∈ news) (mr0 : (R0, W.listOf #[.int g0 r00, .int n0 r01, .int n1 r02] k0) ∈ news) (mr1 : (R1, W.listOf #[.int n2 r10, .int g1 r11, .int n3 r12] k1) ∈ news) (mr2 : (R2, W.listOf #[.int n4 r20, .int n5 r21, .int g2 r22] k2) ∈ news) (m44 : (44, tabObj ps1) ∈ news) (m51 : (51, tabObj ps2) ∈ news) (mt : m (Str.ofString "trees") = some (.ref aT)) (mT : (aT, LCg.lst [.int T0 t0, .int T1 t1, .int T2 t2]) ∈ news)
    (d1 : o1.data = .cell (some (.ref aW)))
    (hn0 : 1 ≤ n0 ∧ n0 ≤ 4) (hn1 : 1 ≤ n1 ∧ n1 ≤ 4) (hn2 : 1 ≤ n2 ∧ n2 ≤ 4) (hn3 : 1 ≤ n3 ∧ n3 ≤ 4) (hn4 : 1 ≤ n4 ∧ n4 ≤ 4) (hn5 : 1 ≤ n5 ∧ n5 ≤ 4) (hg0 : 1 ≤ g0) (hg1 : 1 ≤ g1) (hg2 : 1 ≤ g2) (hs0 : g0 + n0 + n1 = ww) (hs1 : n2 + g1 + n3 = ww) (hs2 : n4 + n5 + g2 = ww) (hw9 : ww ≤ 9)
    (eT0 : T0 = n2 * n4 + n3 * n4 + n2 * n5) (eT1 : T1 = n0 * n5 + n1 * n5 + n0 * n4) (eT2 : T2 = n1 * n3 + n0 * n3 + n1 * n2)
    (hd : dp + 300 < recursionLimit) (hu : un + 3000 < cLine)
    (hE : PassesOwn (model PySem.Challenge.rw_hg0003_01.row.prog w) (ktrTop dp un gd (Str.ofString "law") sc L a ccd (lawCl c1 c2 c3 c4 c5 c6 c7) outer) (envX (Str.ofString "law") sc L a ccd (lawCl c1 c2 c3 c4 c5 c6 c7)) E)
    (hret : ∀ m' news' qs1 qs2 h' tk', Fr h₀ L h' m' → News h₀ L h' news' → (44, tabObj qs1) ∈ news' → (51, tabObj qs2) ∈ news' → Q (.ret (.bool true)) { s with heap := h', toks := tk' }) :
    wpAny (model PySem.Challenge.rw_hg0003_01.row.prog w) (ktrTop dp un gd (Str.ofString "law") sc L a ccd (lawCl c1 c2 c3 c4 c5 c6 c7) outer) (execs body (envX (Str.ofString "law") sc L a ccd (lawCl c1 c2 c3 c4 c5 c6 c7))) Q E s := by
  conv at hsc => rhs; whnf
  conv at hbody => rhs; whnf
  subst hsc hbody
  revert X; k_fill; intro X
  w_top off
  k_with_none
  k_with "execs nil" => ((with_reducible refine gen_toks ?_); intro tk9; refine wpAny_execs_nil ?_; dsimp only)
  have F1 := canon1 F mt
  clear F
  obtain ⟨bb0, bb1, bb2, bn0, bn1, bn2, bn3, bn4, bn5⟩ := bigs hn0 hn1 hn2 hn3 hn4 hn5 hg0 hg1 hg2 hs0 hs1 hs2 hw9
  k_with "subscriptTail Name Constant ref int" => ((with_reducible show wpAny _ _ (subscriptTail _ _ (Value.ref _) (Value.int _ _)) _ _ _); k_dflt ((refine kba_turn (value' := PySem.Expr.Name (PySem.Str.ofString "_") ⟨0, 0, 0, 0⟩) (fun _ => rfl) ?_); first | (refine' kim_tup ?itN ?itm ?itc ?itd ?itlo ?ithi ?itj ?itx ?_ ?its; (case itN => k_asm); (case itm => k_mem); (case itc => exact rfl); (case itd => exact rfl); (case itlo => decide); (case ithi => decide); (case itj => exact rfl); (case itx => exact rfl); (case its => with_unfolding_all rfl)) | (refine' kim_list ?itN ?itm ?itc ?itd ?itlo ?ithi ?itx ?_ ?its; (case itN => k_asm); (case itm => k_mem); (case itc => exact rfl); (case itd => exact rfl); (case itlo => decide); (case ithi => decide); (case itx => exact rfl); (case its => with_unfolding_all rfl))))
  k_with "subscriptTail" => ((with_reducible show wpAny _ _ (subscriptTail _ _ (Value.ref _) (Value.int _ _)) _ _ _); k_dflt ((refine kba_turn (value' := PySem.Expr.Name (PySem.Str.ofString "_") ⟨0, 0, 0, 0⟩) (fun _ => rfl) ?_); first | (refine' kim_tup ?itN ?itm ?itc ?itd ?itlo ?ithi ?itj ?itx ?_ ?its; (case itN => k_asm); (case itm => k_mem); (case itc => exact rfl); (case itd => exact rfl); (case itlo => decide); (case ithi => decide); (case itj => exact rfl); (case itx => exact rfl); (case its => with_unfolding_all rfl)) | (refine' kim_list ?itN ?itm ?itc ?itd ?itlo ?ithi ?itx ?_ ?its; (case itN => k_asm); (case itm => k_mem); (case itc => exact rfl); (case itd => exact rfl); (case itlo => decide); (case ithi => decide); (case itx => exact rfl); (case its => with_unfolding_all rfl))))
  k_with "subscriptTail Name Name ref int" => ((with_reducible show wpAny _ _ (subscriptTail _ _ (Value.ref _) (Value.int _ _)) _ _ _); k_dflt ((refine kba_turn (value' := PySem.Expr.Name (PySem.Str.ofString "_") ⟨0, 0, 0, 0⟩) (fun _ => rfl) ?_); first | (refine' kim_tup ?itN ?itm ?itc ?itd ?itlo ?ithi ?itj ?itx ?_ ?its; (case itN => k_asm); (case itm => k_mem); (case itc => exact rfl); (case itd => exact rfl); (case itlo => decide); (case ithi => decide); (case itj => exact rfl); (case itx => exact rfl); (case its => with_unfolding_all rfl)) | (refine' kim_list ?itN ?itm ?itc ?itd ?itlo ?ithi ?itx ?_ ?its; (case itN => k_asm); (case itm => k_mem); (case itc => exact rfl); (case itd => exact rfl); (case itlo => decide); (case ithi => decide); (case itx => exact rfl); (case its => with_unfolding_all rfl))))
  k_with "subscriptTail Name BinOp ref int" => ((with_reducible show wpAny _ _ (subscriptTail _ _ (Value.ref _) (Value.int _ _)) _ _ _); k_dflt ((refine kba_turn (value' := PySem.Expr.Name (PySem.Str.ofString "_") ⟨0, 0, 0, 0⟩) (fun _ => rfl) ?_); first | (refine' kim_tup ?itN ?itm ?itc ?itd ?itlo ?ithi ?itj ?itx ?_ ?its; (case itN => k_asm); (case itm => k_mem); (case itc => exact rfl); (case itd => exact rfl); (case itlo => decide); (case ithi => decide); (case itj => exact rfl); (case itx => exact rfl); (case its => with_unfolding_all rfl)) | (refine' kim_list ?itN ?itm ?itc ?itd ?itlo ?ithi ?itx ?_ ?its; (case itN => k_asm); (case itm => k_mem); (case itc => exact rfl); (case itd => exact rfl); (case itlo => decide); (case ithi => decide); (case itx => exact rfl); (case its => with_unfolding_all rfl))))
  k_with "subscriptTail Subscript Name Name Constant ref int" => ((with_reducible show wpAny _ _ (subscriptTail _ _ (Value.ref _) (Value.int _ _)) _ _ _); k_dflt ((refine kba_turn (value' := PySem.Expr.Name (PySem.Str.ofString "_") ⟨0, 0, 0, 0⟩) (fun _ => rfl) ?_); first | (refine' kim_tup ?itN ?itm ?itc ?itd ?itlo ?ithi ?itj ?itx ?_ ?its; (case itN => k_asm); (case itm => k_mem); (case itc => exact rfl); (case itd => exact rfl); (case itlo => decide); (case ithi => decide); (case itj => exact rfl); (case itx => exact rfl); (case its => with_unfolding_all rfl)) | (refine' kim_list ?itN ?itm ?itc ?itd ?itlo ?ithi ?itx ?_ ?its; (case itN => k_asm); (case itm => k_mem); (case itc => exact rfl); (case itd => exact rfl); (case itlo => decide); (case ithi => decide); (case itx => exact rfl); (case its => with_unfolding_all rfl))))
  k_with "subscriptTail Subscript Name Constant Constant ref int" => ((with_reducible show wpAny _ _ (subscriptTail _ _ (Value.ref _) (Value.int _ _)) _ _ _); k_dflt ((refine kba_turn (value' := PySem.Expr.Name (PySem.Str.ofString "_") ⟨0, 0, 0, 0⟩) (fun _ => rfl) ?_); first | (refine' kim_tup ?itN ?itm ?itc ?itd ?itlo ?ithi ?itj ?itx ?_ ?its; (case itN => k_asm); (case itm => k_mem); (case itc => exact rfl); (case itd => exact rfl); (case itlo => decide); (case ithi => decide); (case itj => exact rfl); (case itx => exact rfl); (case its => with_unfolding_all rfl)) | (refine' kim_list ?itN ?itm ?itc ?itd ?itlo ?ithi ?itx ?_ ?its; (case itN => k_asm); (case itm => k_mem); (case itc => exact rfl); (case itd => exact rfl); (case itlo => decide); (case ithi => decide); (case itx => exact rfl); (case its => with_unfolding_all rfl))))
  k_with "subscriptTail Subscript Name Name Name ref int" => ((with_reducible show wpAny _ _ (subscriptTail _ _ (Value.ref _) (Value.int _ _)) _ _ _); k_dflt ((refine kba_turn (value' := PySem.Expr.Name (PySem.Str.ofString "_") ⟨0, 0, 0, 0⟩) (fun _ => rfl) ?_); first | (refine' kim_tup ?itN ?itm ?itc ?itd ?itlo ?ithi ?itj ?itx ?_ ?its; (case itN => k_asm); (case itm => k_mem); (case itc => exact rfl); (case itd => exact rfl); (case itlo => decide); (case ithi => decide); (case itj => exact rfl); (case itx => exact rfl); (case its => with_unfolding_all rfl)) | (refine' kim_list ?itN ?itm ?itc ?itd ?itlo ?ithi ?itx ?_ ?its; (case itN => k_asm); (case itm => k_mem); (case itc => exact rfl); (case itd => exact rfl); (case itlo => decide); (case ithi => decide); (case itx => exact rfl); (case its => with_unfolding_all rfl))))
  k_with "subscriptTail Subscript Name Name BinOp ref int" => ((with_reducible show wpAny _ _ (subscriptTail _ _ (Value.ref _) (Value.int _ _)) _ _ _); k_dflt ((refine kba_turn (value' := PySem.Expr.Name (PySem.Str.ofString "_") ⟨0, 0, 0, 0⟩) (fun _ => rfl) ?_); first | (refine' kim_tup ?itN ?itm ?itc ?itd ?itlo ?ithi ?itj ?itx ?_ ?its; (case itN => k_asm); (case itm => k_mem); (case itc => exact rfl); (case itd => exact rfl); (case itlo => decide); (case ithi => decide); (case itj => exact rfl); (case itx => exact rfl); (case its => with_unfolding_all rfl)) | (refine' kim_list ?itN ?itm ?itc ?itd ?itlo ?ithi ?itx ?_ ?its; (case itN => k_asm); (case itm => k_mem); (case itc => exact rfl); (case itd => exact rfl); (case itlo => decide); (case ithi => decide); (case itx => exact rfl); (case its => with_unfolding_all rfl))))
  k_with "subscriptTail Subscript Name Constant Name ref int" => ((with_reducible show wpAny _ _ (subscriptTail _ _ (Value.ref _) (Value.int _ _)) _ _ _); k_dflt ((refine kba_turn (value' := PySem.Expr.Name (PySem.Str.ofString "_") ⟨0, 0, 0, 0⟩) (fun _ => rfl) ?_); first | (refine' kim_tup ?itN ?itm ?itc ?itd ?itlo ?ithi ?itj ?itx ?_ ?its; (case itN => k_asm); (case itm => k_mem); (case itc => exact rfl); (case itd => exact rfl); (case itlo => decide); (case ithi => decide); (case itj => exact rfl); (case itx => exact rfl); (case its => with_unfolding_all rfl)) | (refine' kim_list ?itN ?itm ?itc ?itd ?itlo ?ithi ?itx ?_ ?its; (case itN => k_asm); (case itm => k_mem); (case itc => exact rfl); (case itd => exact rfl); (case itlo => decide); (case ithi => decide); (case itx => exact rfl); (case its => with_unfolding_all rfl))))
  k_with "callWith ref nil nil" => (k_here; k_dflt (first | (refine' callWith_K ?kq1 ?kq2 ?_; (case kq1 => k_asm); (case kq2 => k_is); k_whole) | (refine' callWith_K0 ?kq1 ?kq2 ?_; (case kq1 => k_in); (case kq2 => k_is); k_whole)))
  k_with "SrcC" => (k_dflt (refine SrcC.range (by rfl) (by k_asm) (by k_asm) (by assumption) (by first | decide | rfl) (by first | rfl | decide) (by first | size_fits | exact Nat.le_of_ble_eq_true rfl) ?_; intro g9))
  k_with "RestC" => (k_dflt (first | (refine RestC.succ ?_; intro t9 K9 oK9 I9 oI9 C9 oC9 D9 h9 tk9 E9 dK9 F9 N9 off9; (try dsimp only)) | refine RestC.zero ?_))
  k_with "exec Assign cons ListComp" => (k_dflt (refine' asgComp_C ?lcfr ?lcW ?lcF ?lcK ?lcQ ?lcN ?lcX ?lcY ?lcP ?_ ?lcS; (case lcK => with_unfolding_all rfl); (case lcX => with_unfolding_all rfl); (case lcY => with_unfolding_all rfl); (case lcP => with_unfolding_all rfl); (case lcfr => k_asm); (case lcW => with_unfolding_all rfl); (case lcF => with_unfolding_all rfl); (case lcQ => with_unfolding_all rfl); (case lcN => with_unfolding_all decide); (case lcS => (intro _; with_unfolding_all rfl))))
  k_with "EndC" => (k_dflt (refine endc_keep (by with_reducible assumption) (by with_reducible assumption) (by with_reducible assumption) (by with_reducible assumption) ?_))
  k_with "FinAs" => (k_dflt ((unfold FinAs); intro D8 h8 tk8 F8 N8 o8; (try simp only [List.nil_append, List.cons_append] at N8); (try dsimp only)))
  k_with "eval Call Name cons nil" => ((with_reducible show wpAny _ _ (eval (Expr.ListComp (Expr.Subscript _ _ _) _ _ _) _) _ _ _); (rename Fr _ _ _ _ => lF'); (rename News _ _ _ _ => lN'); k_dflt (refine' turned_row rfl rfl rfl ?k1 lF' ?k3 ?k5 lN' List.mem_cons_self ?dK ?m1 d1 ?mW ?mA ?cW ?dW ?cA ?dA ?hlo ?hhi ?vA hd hu ?_; (case k1 => k_asm); (case k3 => k_asm); (case k5 => k_asm); (case dK => assumption); (case m1 => k_mem); (case mW => k_mem); (case cW => rfl); (case dW => rfl); (case hlo => decide); (case hhi => decide); (case vA => rfl); (case mA => k_mem); (case cA => rfl); (case dA => rfl)); clear lF' lN'; intro D8 h8 tk8 F8 N8 o8; (try dsimp only))
  k_with "eval ListComp IfExp cons" => ((with_reducible show wpAny _ _ (eval (Expr.ListComp (Expr.Subscript _ _ _) _ _ _) _) _ _ _); (rename Fr _ _ _ _ => lF'); (rename News _ _ _ _ => lN'); k_dflt (refine' turned_row rfl rfl rfl ?k1 lF' ?k3 ?k5 lN' List.mem_cons_self ?dK ?m1 d1 ?mW ?mA ?cW ?dW ?cA ?dA ?hlo ?hhi ?vA hd hu ?_; (case k1 => k_asm); (case k3 => k_asm); (case k5 => k_asm); (case dK => assumption); (case m1 => k_mem); (case mW => k_mem); (case cW => rfl); (case dW => rfl); (case hlo => decide); (case hhi => decide); (case vA => rfl); (case mA => k_mem); (case cA => rfl); (case dA => rfl)); clear lF' lN'; intro D8 h8 tk8 F8 N8 o8; (try dsimp only))
  k_with "eval ListComp Subscript cons" => ((with_reducible show wpAny _ _ (eval (Expr.ListComp (Expr.Subscript _ _ _) _ _ _) _) _ _ _); (rename Fr _ _ _ _ => lF'); (rename News _ _ _ _ => lN'); k_dflt (refine' turned_row rfl rfl rfl ?k1 lF' ?k3 ?k5 lN' List.mem_cons_self ?dK ?m1 d1 ?mW ?mA ?cW ?dW ?cA ?dA ?hlo ?hhi ?vA hd hu ?_; (case k1 => k_asm); (case k3 => k_asm); (case k5 => k_asm); (case dK => assumption); (case m1 => k_mem); (case mW => k_mem); (case cW => rfl); (case dW => rfl); (case hlo => decide); (case hhi => decide); (case vA => rfl); (case mA => k_mem); (case cA => rfl); (case dA => rfl)); clear lF' lN'; intro D8 h8 tk8 F8 N8 o8; (try dsimp only))
  k_with "CompSrc" => (k_here; k_dflt (refine LCg.CompSrc.range (by rfl) (by k_asm) (by k_asm) (by assumption) (by first | decide | rfl) (by first | rfl | decide) (by first | size_fits | exact Nat.le_of_ble_eq_true rfl) ?_; intro g'; lcg_lit))
  k_with "ite" => (with_reducible refine ite_self ?_)
  k_with "FinE cons" => ((unfold LCg.FinE); intro D8 h8 tk8 F8 N8 o8; (try simp only [List.nil_append, List.cons_append] at N8); (try dsimp only))
  k_with "FinE" => ((unfold LCg.FinE); intro D8 h8 tk8 F8 N8 o8; (try simp only [List.nil_append, List.cons_append] at N8); (try dsimp only))
  k_with "CompEnd ref" => (k_dflt (first | (refine cend_new (by with_reducible assumption) (by with_reducible assumption) (by with_reducible assumption) ?ceo trivial ?_; (case ceo => first | (with_reducible assumption) | (simp only [LCg.Off3, and_true]; with_reducible assumption))) | (refine cend_same (by with_reducible assumption) (by with_reducible assumption) ?ceo trivial ?_; (case ceo => first | (with_reducible assumption) | (simp only [LCg.Off3, and_true]; with_reducible assumption))) | (refine cend_same (by with_reducible assumption) (by with_reducible assumption) ?ceo ?ceS ?_; (case ceo => first | (with_reducible assumption) | (simp only [LCg.Off3, and_true]; with_reducible assumption)); (case ceS => (refine' Or.inr ⟨_, ?ca, ?cb, _, ?cc⟩; (case ca => k_mem); (case cb => rfl); (case cc => rfl))))))
  k_with "CompEnd" => (k_dflt (first | (refine cend_new (by with_reducible assumption) (by with_reducible assumption) (by with_reducible assumption) ?ceo trivial ?_; (case ceo => first | (with_reducible assumption) | (simp only [LCg.Off3, and_true]; with_reducible assumption))) | (refine cend_same (by with_reducible assumption) (by with_reducible assumption) ?ceo trivial ?_; (case ceo => first | (with_reducible assumption) | (simp only [LCg.Off3, and_true]; with_reducible assumption))) | (refine cend_same (by with_reducible assumption) (by with_reducible assumption) ?ceo ?ceS ?_; (case ceo => first | (with_reducible assumption) | (simp only [LCg.Off3, and_true]; with_reducible assumption)); (case ceS => (refine' Or.inr ⟨_, ?ca, ?cb, _, ?cc⟩; (case ca => k_mem); (case cb => rfl); (case cc => rfl))))))
  k_with "CompEnd none" => (k_dflt (first | (refine cend_new (by with_reducible assumption) (by with_reducible assumption) (by with_reducible assumption) ?ceo trivial ?_; (case ceo => first | (with_reducible assumption) | (simp only [LCg.Off3, and_true]; with_reducible assumption))) | (refine cend_same (by with_reducible assumption) (by with_reducible assumption) ?ceo trivial ?_; (case ceo => first | (with_reducible assumption) | (simp only [LCg.Off3, and_true]; with_reducible assumption))) | (refine cend_same (by with_reducible assumption) (by with_reducible assumption) ?ceo ?ceS ?_; (case ceo => first | (with_reducible assumption) | (simp only [LCg.Off3, and_true]; with_reducible assumption)); (case ceS => (refine' Or.inr ⟨_, ?ca, ?cb, _, ?cc⟩; (case ca => k_mem); (case cb => rfl); (case cc => rfl))))))
  k_with "CompEnd int" => (k_dflt (first | (refine cend_new (by with_reducible assumption) (by with_reducible assumption) (by with_reducible assumption) ?ceo trivial ?_; (case ceo => first | (with_reducible assumption) | (simp only [LCg.Off3, and_true]; with_reducible assumption))) | (refine cend_same (by with_reducible assumption) (by with_reducible assumption) ?ceo trivial ?_; (case ceo => first | (with_reducible assumption) | (simp only [LCg.Off3, and_true]; with_reducible assumption))) | (refine cend_same (by with_reducible assumption) (by with_reducible assumption) ?ceo ?ceS ?_; (case ceo => first | (with_reducible assumption) | (simp only [LCg.Off3, and_true]; with_reducible assumption)); (case ceS => (refine' Or.inr ⟨_, ?ca, ?cb, _, ?cc⟩; (case ca => k_mem); (case cb => rfl); (case cc => rfl))))))
  k_with "call ref cons nil" => ((with_reducible show wpAny _ _ (call (Value.ref 75) _) _ _ _); k_dflt (refine' trees_ok ?k1 ?k2 ?k3 ?k4 ?k5 ?mW ?mr0 ?mr1 ?mr2 ?b0 ?b1 ?b2 ?b3 ?b4 ?b5 ?b6 ?b7 ?b8 ?ld ?lu ?_; (case k1 => k_asm); (case k2 => k_asm); (case k3 => k_asm); (case k4 => k_asm); (case k5 => k_asm); (case mW => k_mem); (case mr0 => k_mem); (case mr1 => k_mem); (case mr2 => k_mem);(case b0 => first | with_reducible assumption | exact ⟨by omega, by omega⟩); (case b1 => first | with_reducible assumption | exact ⟨by omega, by omega⟩); (case b2 => first | with_reducible assumption | exact ⟨by omega, by omega⟩); (case b3 => first | with_reducible assumption | exact ⟨by omega, by omega⟩); (case b4 => first | with_reducible assumption | exact ⟨by omega, by omega⟩); (case b5 => first | with_reducible assumption | exact ⟨by omega, by omega⟩); (case b6 => first | with_reducible assumption | exact ⟨by omega, by omega⟩); (case b7 => first | with_reducible assumption | exact ⟨by omega, by omega⟩); (case b8 => first | with_reducible assumption | exact ⟨by omega, by omega⟩); (case ld => first | exact room9 hd (Nat.le_of_ble_eq_true rfl) | exact roomk hd (Nat.le_of_ble_eq_true rfl) | ((try dsimp only [Around.deeper]); omega)); (case lu => first | exact room9 hu (Nat.le_of_ble_eq_true rfl) | exact roomk hu (Nat.le_of_ble_eq_true rfl) | ((try dsimp only [Around.deeper]); omega)); intro D9 h9 tk9 y0 y1 y2 v0 v1 v2 f0 f1 f2 F9 N9 o9; obtain rfl : y0 = T1 := (by rw [f0, eT1]; try grind); obtain rfl : y1 = T2 := (by rw [f1, eT2]; try grind); obtain rfl : y2 = T0 := (by rw [f2, eT0]; try grind); (try dsimp only)))
  k_with "execs cons Assign cons" => ((with_reducible show wpAny _ _ (execs (Stmt.Assign [Expr.Name (Str.ofString "even") _] _ _ :: _) _) _ _ _); (rename Fr _ _ _ _ => lF'); (rename News _ _ _ _ => lN'); refine' v12 ?nx1 ?nx2 B lF' X T (cb_drop lN' fun q hq => by repeat (first | exact hq | refine List.mem_cons_of_mem _ ?_)) m1 mW mr0 mr1 mr2 m44 m51 d1 hn0 hn1 hn2 hn3 hn4 hn5 hg0 hg1 hg2 hs0 hs1 hs2 hw9 hd hu hE hret; (case nx1 => rfl); (case nx2 => rfl))
  k_with "execs cons For cons" => ((with_reducible show wpAny _ _ (execs (Stmt.Assign [Expr.Name (Str.ofString "even") _] _ _ :: _) _) _ _ _); (rename Fr _ _ _ _ => lF'); (rename News _ _ _ _ => lN'); refine' v12 ?nx1 ?nx2 B lF' X T (cb_drop lN' fun q hq => by repeat (first | exact hq | refine List.mem_cons_of_mem _ ?_)) m1 mW mr0 mr1 mr2 m44 m51 d1 hn0 hn1 hn2 hn3 hn4 hn5 hg0 hg1 hg2 hs0 hs1 hs2 hw9 hd hu hE hret; (case nx1 => rfl); (case nx2 => rfl))
  k_steps
  all_goals k_data
end
end Mine
namespace Mine
def outBody : List Stmt := match lawRest 9 with
  | .For _ _ b _ _ :: _ => b
  | _ => []
def inBody : List Stmt := match outBody with
  | _ :: _ :: .For _ _ b _ _ :: _ => b
  | _ => []
theorem pickT {h₀ h : Heap} {L : Addr} {q1 q2 q3 q4 q5 q6 : Addr × Obj} {l : List (Addr × Obj)} (N : News h₀ L h (q1 :: q2 :: q3 :: q4 :: q5 :: q6 :: l)) : News h₀ L h (q3 :: q5 :: q6 :: l) := cb_drop N (List.forall_mem_cons.mpr ⟨(List.mem_cons_of_mem _ (List.mem_cons_of_mem _ List.mem_cons_self)), (List.forall_mem_cons.mpr ⟨(List.mem_cons_of_mem _ (List.mem_cons_of_mem _ (List.mem_cons_of_mem _ (List.mem_cons_of_mem _ List.mem_cons_self)))), (List.forall_mem_cons.mpr ⟨(List.mem_cons_of_mem _ (List.mem_cons_of_mem _ (List.mem_cons_of_mem _ (List.mem_cons_of_mem _ (List.mem_cons_of_mem _ List.mem_cons_self))))), (fun _ hq => (List.mem_cons_of_mem _ (List.mem_cons_of_mem _ (List.mem_cons_of_mem _ (List.mem_cons_of_mem _ (List.mem_cons_of_mem _ (List.mem_cons_of_mem _ hq)))))))⟩)⟩)⟩)
section
variable {w : World} {p : Program} {loose : List Str} {mean : ExcName → Option Value} {mg mb : Str → Option Value} {dp un : Nat} {gd : Option (List Code)} {a : Addr} {ccd : Value} {outer : List Env} {A₀ : Around} {base h₀ : Heap} {L : Addr} {m : Str → Option Value} {news : List (Addr × Obj)} {s : Shared} {Q : Flow → Shared → Prop} {E : Value → Shared → Prop}
set_option maxRecDepth 100000 in
set_option maxHeartbeats 8000000 in
theorem turn_ok {sc : Scope} {body : List Stmt} {aS aT : Addr} {c7 c6 c5 c4 c3 c2 c1 aU aW R0 R1 R2 : Addr} {o1 o2 o3 o6 o7 : Obj} {u0 u1 u2 r00 r01 r02 r10 r11 r12 r20 r21 r22 tw : Tok} {n0 n1 n2 n3 n4 n5 g0 g1 g2 ww U0 U1 U2 : Int} {kW k0 k1 k2 : Nat} {x0 x1 x2 sv ap : Int} {t0 t1 t2 ts tap : Tok}
    (hsc : sc = lawScope) (hbody : body = inBody)
    (B : Below A₀ base outer h₀) (F : Fr h₀ L s.heap m) (X : (hd.heap_39 w.params).In h₀) (T : Top p loose mean mg mb h₀)
    (ma : m (Str.ofString "apart") = some (.int ap tap)) (mt : m (Str.ofString "trees") = some (.ref aT))
    (N : News h₀ L s.heap ((aS, LCg.lst [.int x0 t0, .int x1 t1, .int x2 t2]) :: (c7, o7) :: (c6, o6) :: news))
    (m1 : (c1, o1) ∈ news) (m2 : (c2, o2) ∈ news) (m3 : (c3, o3) ∈ news) (mU : (aU, LCg.lst [.int U0 u0, .int U1 u1, .int U2 u2]) ∈ news) (mW : (aW, W.listOf #[.ref R0, .ref R1, .ref R2] kW) ∈ news) (mr0 : (R0, W.listOf #[.int g0 r00, .int n0 r01, .int n1 r02] k0) ∈ news) (mr1 : (R1, W.listOf #[.int n2 r10, .int g1 r11, .int n3 r12] k1) ∈ news) (mr2 : (R2, W.listOf #[.int n4 r20, .int n5 r21, .int g2 r22] k2) ∈ news)
    (d1 : o1.data = .cell (some (.ref aW))) (d2 : o2.data = .cell (some (.int ww tw))) (d3 : o3.data = .cell (some (.ref aU))) (d6 : o6.data = .cell (some (.ref aS))) (d7 : o7.data = .cell (some (.int sv ts)))
    (hn0 : 1 ≤ n0 ∧ n0 ≤ 4) (hn1 : 1 ≤ n1 ∧ n1 ≤ 4) (hn2 : 1 ≤ n2 ∧ n2 ≤ 4) (hn3 : 1 ≤ n3 ∧ n3 ≤ 4) (hn4 : 1 ≤ n4 ∧ n4 ≤ 4) (hn5 : 1 ≤ n5 ∧ n5 ≤ 4) (hg0 : 1 ≤ g0) (hg1 : 1 ≤ g1) (hg2 : 1 ≤ g2) (hs0 : g0 + n0 + n1 = ww) (hs1 : n2 + g1 + n3 = ww) (hs2 : n4 + n5 + g2 = ww) (hw9 : ww ≤ 9)
    (bb0 : Big g0) (bb1 : Big g1) (bb2 : Big g2) (bn0 : Big n0) (bn1 : Big n1) (bn2 : Big n2) (bn3 : Big n3) (bn4 : Big n4) (bn5 : Big n5) (bU0 : Big U0) (bU1 : Big U1) (bU2 : Big U2)
    (st8 : U0 * g0 + U1 * n2 + U2 * n4 = ww * U0 ∧ U0 * n0 + U1 * g1 + U2 * n5 = ww * U1 ∧ U0 * n1 + U1 * n3 + U2 * g2 = ww * U2)
    (hsum : (x0 - sv * U0) + (x1 - sv * U1) + (x2 - sv * U2) = 0) (hap : ap = ab (x0 - sv * U0) + ab (x1 - sv * U1) + ab (x2 - sv * U2))
    (hS6 : @Ne Nat aS c6) (hS7 : @Ne Nat aS c7) (h76 : @Ne Nat c7 c6) (hn6 : ∀ p ∈ news, p.1 ≠ c6) (hn7 : ∀ p ∈ news, p.1 ≠ c7)
    (hd : dp + 300 < recursionLimit) (hu : un + 3000 < cLine)
    (hE : PassesOwn (model PySem.Challenge.rw_hg0003_01.row.prog w) (ktrTop dp un gd (Str.ofString "law") sc L a ccd (lawCl c1 c2 c3 c4 c5 c6 c7) outer) (envX (Str.ofString "law") sc L a ccd (lawCl c1 c2 c3 c4 c5 c6 c7)) E)
    (hret : ∀ m' aS' o6' o7' h' tk' y0 y1 y2 sv' ap' v0 v1 v2 ts' ta', (y0 - sv' * U0) + (y1 - sv' * U1) + (y2 - sv' * U2) = 0 → ap' = ab (y0 - sv' * U0) + ab (y1 - sv' * U1) + ab (y2 - sv' * U2) → o6'.data = .cell (some (.ref aS')) → o7'.data = .cell (some (.int sv' ts')) → @Ne Nat aS' c6 → @Ne Nat aS' c7 → (∀ p ∈ news, p.1 ≠ aS') → Fr h₀ L h' m' → m' (Str.ofString "apart") = some (.int ap' ta') → m' (Str.ofString "trees") = some (.ref aT) → News h₀ L h' ((aS', LCg.lst [.int y0 v0, .int y1 v1, .int y2 v2]) :: (c7, o7') :: (c6, o6') :: news) → Q .next { s with heap := h', toks := tk' }) :
    wpAny (model PySem.Challenge.rw_hg0003_01.row.prog w) (ktrTop dp un gd (Str.ofString "law") sc L a ccd (lawCl c1 c2 c3 c4 c5 c6 c7) outer) (execs body (envX (Str.ofString "law") sc L a ccd (lawCl c1 c2 c3 c4 c5 c6 c7))) Q E s := by
  conv at hsc => rhs; whnf
  conv at hbody => rhs; whnf
  subst hsc hbody
  revert X; k_fill; intro X
  w_top off
  k_with_none
  k_with "execs nil" => ((with_reducible refine gen_toks ?_); intro tk9; refine wpAny_execs_nil ?_; dsimp only)
  have F1 := canon1 (canon1 F mt) (v := .int ap tap) ((if_neg (by decide)).trans ma)
  clear F
  k_with "subscriptTail Name Constant ref int" => ((with_reducible show wpAny _ _ (subscriptTail _ _ (Value.ref _) (Value.int _ _)) _ _ _); k_dflt ((refine kba_turn (value' := PySem.Expr.Name (PySem.Str.ofString "_") ⟨0, 0, 0, 0⟩) (fun _ => rfl) ?_); first | (refine' kim_tup ?itN ?itm ?itc ?itd ?itlo ?ithi ?itj ?itx ?_ ?its; (case itN => k_asm); (case itm => k_mem); (case itc => exact rfl); (case itd => exact rfl); (case itlo => decide); (case ithi => decide); (case itj => exact rfl); (case itx => exact rfl); (case its => with_unfolding_all rfl)) | (refine' kim_list ?itN ?itm ?itc ?itd ?itlo ?ithi ?itx ?_ ?its; (case itN => k_asm); (case itm => k_mem); (case itc => exact rfl); (case itd => exact rfl); (case itlo => decide); (case ithi => decide); (case itx => exact rfl); (case its => with_unfolding_all rfl))))
  k_with "subscriptTail" => ((with_reducible show wpAny _ _ (subscriptTail _ _ (Value.ref _) (Value.int _ _)) _ _ _); k_dflt ((refine kba_turn (value' := PySem.Expr.Name (PySem.Str.ofString "_") ⟨0, 0, 0, 0⟩) (fun _ => rfl) ?_); first | (refine' kim_tup ?itN ?itm ?itc ?itd ?itlo ?ithi ?itj ?itx ?_ ?its; (case itN => k_asm); (case itm => k_mem); (case itc => exact rfl); (case itd => exact rfl); (case itlo => decide); (case ithi => decide); (case itj => exact rfl); (case itx => exact rfl); (case its => with_unfolding_all rfl)) | (refine' kim_list ?itN ?itm ?itc ?itd ?itlo ?ithi ?itx ?_ ?its; (case itN => k_asm); (case itm => k_mem); (case itc => exact rfl); (case itd => exact rfl); (case itlo => decide); (case ithi => decide); (case itx => exact rfl); (case its => with_unfolding_all rfl))))
  k_with "subscriptTail Name Name ref int" => ((with_reducible show wpAny _ _ (subscriptTail _ _ (Value.ref _) (Value.int _ _)) _ _ _); k_dflt ((refine kba_turn (value' := PySem.Expr.Name (PySem.Str.ofString "_") ⟨0, 0, 0, 0⟩) (fun _ => rfl) ?_); first | (refine' kim_tup ?itN ?itm ?itc ?itd ?itlo ?ithi ?itj ?itx ?_ ?its; (case itN => k_asm); (case itm => k_mem); (case itc => exact rfl); (case itd => exact rfl); (case itlo => decide); (case ithi => decide); (case itj => exact rfl); (case itx => exact rfl); (case its => with_unfolding_all rfl)) | (refine' kim_list ?itN ?itm ?itc ?itd ?itlo ?ithi ?itx ?_ ?its; (case itN => k_asm); (case itm => k_mem); (case itc => exact rfl); (case itd => exact rfl); (case itlo => decide); (case ithi => decide); (case itx => exact rfl); (case its => with_unfolding_all rfl))))
  k_with "subscriptTail Name BinOp ref int" => ((with_reducible show wpAny _ _ (subscriptTail _ _ (Value.ref _) (Value.int _ _)) _ _ _); k_dflt ((refine kba_turn (value' := PySem.Expr.Name (PySem.Str.ofString "_") ⟨0, 0, 0, 0⟩) (fun _ => rfl) ?_); first | (refine' kim_tup ?itN ?itm ?itc ?itd ?itlo ?ithi ?itj ?itx ?_ ?its; (case itN => k_asm); (case itm => k_mem); (case itc => exact rfl); (case itd => exact rfl); (case itlo => decide); (case ithi => decide); (case itj => exact rfl); (case itx => exact rfl); (case its => with_unfolding_all rfl)) | (refine' kim_list ?itN ?itm ?itc ?itd ?itlo ?ithi ?itx ?_ ?its; (case itN => k_asm); (case itm => k_mem); (case itc => exact rfl); (case itd => exact rfl); (case itlo => decide); (case ithi => decide); (case itx => exact rfl); (case its => with_unfolding_all rfl))))
  k_with "subscriptTail Subscript Name Name Constant ref int" => ((with_reducible show wpAny _ _ (subscriptTail _ _ (Value.ref _) (Value.int _ _)) _ _ _); k_dflt ((refine kba_turn (value' := PySem.Expr.Name (PySem.Str.ofString "_") ⟨0, 0, 0, 0⟩) (fun _ => rfl) ?_); first | (refine' kim_tup ?itN ?itm ?itc ?itd ?itlo ?ithi ?itj ?itx ?_ ?its; (case itN => k_asm); (case itm => k_mem); (case itc => exact rfl); (case itd => exact rfl); (case itlo => decide); (case ithi => decide); (case itj => exact rfl); (case itx => exact rfl); (case its => with_unfolding_all rfl)) | (refine' kim_list ?itN ?itm ?itc ?itd ?itlo ?ithi ?itx ?_ ?its; (case itN => k_asm); (case itm => k_mem); (case itc => exact rfl); (case itd => exact rfl); (case itlo => decide); (case ithi => decide); (case itx => exact rfl); (case its => with_unfolding_all rfl))))
  k_with "subscriptTail Subscript Name Constant Constant ref int" => ((with_reducible show wpAny _ _ (subscriptTail _ _ (Value.ref _) (Value.int _ _)) _ _ _); k_dflt ((refine kba_turn (value' := PySem.Expr.Name (PySem.Str.ofString "_") ⟨0, 0, 0, 0⟩) (fun _ => rfl) ?_); first | (refine' kim_tup ?itN ?itm ?itc ?itd ?itlo ?ithi ?itj ?itx ?_ ?its; (case itN => k_asm); (case itm => k_mem); (case itc => exact rfl); (case itd => exact rfl); (case itlo => decide); (case ithi => decide); (case itj => exact rfl); (case itx => exact rfl); (case its => with_unfolding_all rfl)) | (refine' kim_list ?itN ?itm ?itc ?itd ?itlo ?ithi ?itx ?_ ?its; (case itN => k_asm); (case itm => k_mem); (case itc => exact rfl); (case itd => exact rfl); (case itlo => decide); (case ithi => decide); (case itx => exact rfl); (case its => with_unfolding_all rfl))))
  k_with "subscriptTail Subscript Name Name Name ref int" => ((with_reducible show wpAny _ _ (subscriptTail _ _ (Value.ref _) (Value.int _ _)) _ _ _); k_dflt ((refine kba_turn (value' := PySem.Expr.Name (PySem.Str.ofString "_") ⟨0, 0, 0, 0⟩) (fun _ => rfl) ?_); first | (refine' kim_tup ?itN ?itm ?itc ?itd ?itlo ?ithi ?itj ?itx ?_ ?its; (case itN => k_asm); (case itm => k_mem); (case itc => exact rfl); (case itd => exact rfl); (case itlo => decide); (case ithi => decide); (case itj => exact rfl); (case itx => exact rfl); (case its => with_unfolding_all rfl)) | (refine' kim_list ?itN ?itm ?itc ?itd ?itlo ?ithi ?itx ?_ ?its; (case itN => k_asm); (case itm => k_mem); (case itc => exact rfl); (case itd => exact rfl); (case itlo => decide); (case ithi => decide); (case itx => exact rfl); (case its => with_unfolding_all rfl))))
  k_with "subscriptTail Subscript Name Name BinOp ref int" => ((with_reducible show wpAny _ _ (subscriptTail _ _ (Value.ref _) (Value.int _ _)) _ _ _); k_dflt ((refine kba_turn (value' := PySem.Expr.Name (PySem.Str.ofString "_") ⟨0, 0, 0, 0⟩) (fun _ => rfl) ?_); first | (refine' kim_tup ?itN ?itm ?itc ?itd ?itlo ?ithi ?itj ?itx ?_ ?its; (case itN => k_asm); (case itm => k_mem); (case itc => exact rfl); (case itd => exact rfl); (case itlo => decide); (case ithi => decide); (case itj => exact rfl); (case itx => exact rfl); (case its => with_unfolding_all rfl)) | (refine' kim_list ?itN ?itm ?itc ?itd ?itlo ?ithi ?itx ?_ ?its; (case itN => k_asm); (case itm => k_mem); (case itc => exact rfl); (case itd => exact rfl); (case itlo => decide); (case ithi => decide); (case itx => exact rfl); (case its => with_unfolding_all rfl))))
  k_with "subscriptTail Subscript Name Constant Name ref int" => ((with_reducible show wpAny _ _ (subscriptTail _ _ (Value.ref _) (Value.int _ _)) _ _ _); k_dflt ((refine kba_turn (value' := PySem.Expr.Name (PySem.Str.ofString "_") ⟨0, 0, 0, 0⟩) (fun _ => rfl) ?_); first | (refine' kim_tup ?itN ?itm ?itc ?itd ?itlo ?ithi ?itj ?itx ?_ ?its; (case itN => k_asm); (case itm => k_mem); (case itc => exact rfl); (case itd => exact rfl); (case itlo => decide); (case ithi => decide); (case itj => exact rfl); (case itx => exact rfl); (case its => with_unfolding_all rfl)) | (refine' kim_list ?itN ?itm ?itc ?itd ?itlo ?ithi ?itx ?_ ?its; (case itN => k_asm); (case itm => k_mem); (case itc => exact rfl); (case itd => exact rfl); (case itlo => decide); (case ithi => decide); (case itx => exact rfl); (case its => with_unfolding_all rfl))))
  k_with "callWith ref nil nil" => (k_here; k_dflt (first | (refine' callWith_K ?kq1 ?kq2 ?_; (case kq1 => k_asm); (case kq2 => k_is); k_whole) | (refine' callWith_K0 ?kq1 ?kq2 ?_; (case kq1 => k_in); (case kq2 => k_is); k_whole)))
  k_with "binaryOp Mult int int" => (k_dflt (with_reducible refine mul_rw (by with_reducible assumption) ?_))
  k_with "CompEnd ref" => (k_dflt (first | (refine cend_new (by with_reducible assumption) (by with_reducible assumption) (by with_reducible assumption) ?ceo trivial ?_; (case ceo => first | (with_reducible assumption) | (simp only [LCg.Off3, and_true]; with_reducible assumption))) | (refine cend_same (by with_reducible assumption) (by with_reducible assumption) ?ceo trivial ?_; (case ceo => first | (with_reducible assumption) | (simp only [LCg.Off3, and_true]; with_reducible assumption))) | (refine cend_same (by with_reducible assumption) (by with_reducible assumption) ?ceo ?ceS ?_; (case ceo => first | (with_reducible assumption) | (simp only [LCg.Off3, and_true]; with_reducible assumption)); (case ceS => (refine' Or.inr ⟨_, ?ca, ?cb, _, ?cc⟩; (case ca => k_mem); (case cb => rfl); (case cc => rfl))))))
  k_with "CompEnd" => (k_dflt (first | (refine cend_new (by with_reducible assumption) (by with_reducible assumption) (by with_reducible assumption) ?ceo trivial ?_; (case ceo => first | (with_reducible assumption) | (simp only [LCg.Off3, and_true]; with_reducible assumption))) | (refine cend_same (by with_reducible assumption) (by with_reducible assumption) ?ceo trivial ?_; (case ceo => first | (with_reducible assumption) | (simp only [LCg.Off3, and_true]; with_reducible assumption))) | (refine cend_same (by with_reducible assumption) (by with_reducible assumption) ?ceo ?ceS ?_; (case ceo => first | (with_reducible assumption) | (simp only [LCg.Off3, and_true]; with_reducible assumption)); (case ceS => (refine' Or.inr ⟨_, ?ca, ?cb, _, ?cc⟩; (case ca => k_mem); (case cb => rfl); (case cc => rfl))))))
  k_with "CompEnd none" => (k_dflt (first | (refine cend_new (by with_reducible assumption) (by with_reducible assumption) (by with_reducible assumption) ?ceo trivial ?_; (case ceo => first | (with_reducible assumption) | (simp only [LCg.Off3, and_true]; with_reducible assumption))) | (refine cend_same (by with_reducible assumption) (by with_reducible assumption) ?ceo trivial ?_; (case ceo => first | (with_reducible assumption) | (simp only [LCg.Off3, and_true]; with_reducible assumption))) | (refine cend_same (by with_reducible assumption) (by with_reducible assumption) ?ceo ?ceS ?_; (case ceo => first | (with_reducible assumption) | (simp only [LCg.Off3, and_true]; with_reducible assumption)); (case ceS => (refine' Or.inr ⟨_, ?ca, ?cb, _, ?cc⟩; (case ca => k_mem); (case cb => rfl); (case cc => rfl))))))
  k_with "CompEnd int" => (k_dflt (first | (refine cend_new (by with_reducible assumption) (by with_reducible assumption) (by with_reducible assumption) ?ceo trivial ?_; (case ceo => first | (with_reducible assumption) | (simp only [LCg.Off3, and_true]; with_reducible assumption))) | (refine cend_same (by with_reducible assumption) (by with_reducible assumption) ?ceo trivial ?_; (case ceo => first | (with_reducible assumption) | (simp only [LCg.Off3, and_true]; with_reducible assumption))) | (refine cend_same (by with_reducible assumption) (by with_reducible assumption) ?ceo ?ceS ?_; (case ceo => first | (with_reducible assumption) | (simp only [LCg.Off3, and_true]; with_reducible assumption)); (case ceS => (refine' Or.inr ⟨_, ?ca, ?cb, _, ?cc⟩; (case ca => k_mem); (case cb => rfl); (case cc => rfl))))))
  k_with "CompSrc" => (k_here; k_dflt (refine LCg.CompSrc.range (by rfl) (by k_asm) (by k_asm) (by assumption) (by first | decide | rfl) (by first | rfl | decide) (by first | size_fits | exact Nat.le_of_ble_eq_true rfl) ?_; intro g'; lcg_lit))
  k_with "ite" => (have nr := turn_near e0 e1 e2 st8 hsum hap hs0 hs1 hs2 hn0.1 hn1.1 hn2.1 hn3.1 hn4.1 hn5.1 hg0 hg1 hg2; first | (with_reducible refine ite_no nr.1 ?_) | (with_reducible refine ite_no (nr.2.1 (by assumption)) ?_))
  k_with "FinE cons" => ((unfold LCg.FinE); intro D8 h8 tk8 F8 N8 o8; (try simp only [List.nil_append, List.cons_append] at N8); (try dsimp only))
  k_with "FinE" => ((unfold LCg.FinE); intro D8 h8 tk8 F8 N8 o8; (try simp only [List.nil_append, List.cons_append] at N8); (try dsimp only))
  k_with "call ref cons nil" => ((with_reducible show wpAny _ _ (call (Value.ref 85) _) _ _ _); k_dflt (refine' step_ok ?k1 ?k2 ?k3 ?k4 ?k5 ?mO ?mW ?mr0 ?mr1 ?mr2 bb0 bn0 bn1 bn2 bb1 bn3 bn4 bn5 bb2 ?ld ?lu ?_; (case k1 => k_asm); (case k2 => k_asm); (case k3 => k_asm); (case k4 => k_asm); (case k5 => k_asm); (case mO => k_mem); (case mW => k_mem); (case mr0 => k_mem); (case mr1 => k_mem); (case mr2 => k_mem); (case ld => first | exact room9 hd (Nat.le_of_ble_eq_true rfl) | exact roomk hd (Nat.le_of_ble_eq_true rfl) | ((try dsimp only [Around.deeper]); omega)); (case lu => first | exact room9 hu (Nat.le_of_ble_eq_true rfl) | exact roomk hu (Nat.le_of_ble_eq_true rfl) | ((try dsimp only [Around.deeper]); omega)); intro D9 h9 tk9 y0 y1 y2 v0 v1 v2 e0 e1 e2 F9 N9 o9; have z7 : @Ne Nat D9 c7 := (o9 (c7, o7) (by simp)).symm; have z6 : @Ne Nat D9 c6 := (o9 (c6, o6) (by simp)).symm; (try dsimp only)))
  k_steps
  all_goals first | k_data | ((rename Fr _ _ _ _ => lF'); (rename News _ _ _ _ => lN'); have nr := turn_near e0 e1 e2 st8 hsum hap hs0 hs1 hs2 hn0.1 hn1.1 hn2.1 hn3.1 hn4.1 hn5.1 hg0 hg1 hg2; refine' hret _ D9 _ _ _ _ y0 y1 y2 (sv * ww) _ _ _ _ _ _ nr.2.2.1 nr.2.2.2 ?q6 ?q7 z6 z7 (fun p hp => o9 p (by simp [hp])) lF' ?qa ?qt (pickT lN'); (case q6 => assumption); (case q7 => assumption); (case qa => rfl); (case qt => rfl))
end
end Mine
namespace Mine
theorem swap_4 {h₀ h : Heap} {L : Addr} {q1 q2 q3 q4 : Addr × Obj} {l : List (Addr × Obj)} (N : News h₀ L h (q1 :: q2 :: q3 :: q4 :: l)) : News h₀ L h (q2 :: q3 :: q4 :: q1 :: l) := cb_drop N (List.forall_mem_cons.mpr ⟨(List.mem_cons_of_mem _ List.mem_cons_self), (List.forall_mem_cons.mpr ⟨(List.mem_cons_of_mem _ (List.mem_cons_of_mem _ List.mem_cons_self)), (List.forall_mem_cons.mpr ⟨(List.mem_cons_of_mem _ (List.mem_cons_of_mem _ (List.mem_cons_of_mem _ List.mem_cons_self))), (List.forall_mem_cons.mpr ⟨List.mem_cons_self, (fun _ hq => (List.mem_cons_of_mem _ (List.mem_cons_of_mem _ (List.mem_cons_of_mem _ (List.mem_cons_of_mem _ hq)))))⟩)⟩)⟩)⟩)
theorem unr_endW {h₀ : Heap} {L I : Addr} {it : Obj} {R : (Str → Option Value) → List (Addr × Obj) → Prop} {s₁ : Shared} {h' : Heap} {tk : Nat} {m' : Str → Option Value} {q1 q2 q3 : Addr × Obj} {l : List (Addr × Obj)}
    (F : Fr h₀ L h' m') (N : News h₀ L h' (q1 :: q2 :: q3 :: (I, it) :: l)) (o1 : q1.1 ≠ I) (o2 : q2.1 ≠ I) (o3 : q3.1 ≠ I) (off : ∀ p ∈ l, p.1 ≠ I) (r : R m' (q1 :: q2 :: q3 :: l)) : UnrEnd h₀ L s₁ I it R { s₁ with heap := h', toks := tk } :=
  UnrEnd.intro F N (q1 :: q2 :: q3 :: l) (fun p hp => by
    simp only [List.mem_cons] at hp ⊢
    rcases hp with h | h | h | h | h <;> simp [h]) (fun p hp => by
    simp only [List.mem_cons] at hp
    rcases hp with h | h | h | h
    · rw [h]; exact o1
    · rw [h]; exact o2
    · rw [h]; exact o3
    · exact off p h) r
section
variable {w : World} {p : Program} {loose : List Str} {mean : ExcName → Option Value} {mg mb : Str → Option Value} {dp un : Nat} {gd : Option (List Code)} {a : Addr} {ccd : Value} {outer : List Env} {A₀ : Around} {base h₀ : Heap} {L : Addr} {m : Str → Option Value} {news : List (Addr × Obj)} {s : Shared} {Q : Flow → Shared → Prop} {E : Value → Shared → Prop}
set_option maxRecDepth 100000 in
set_option maxHeartbeats 8000000 in
theorem first_ok {sc : Scope} {body : List Stmt} {aT : Addr} {c7 c6 c5 c4 c3 c2 c1 aU aW R0 R1 R2 : Addr} {o1 o2 o3 o6 o7 : Obj} {u0 u1 u2 r00 r01 r02 r10 r11 r12 r20 r21 r22 tw : Tok} {n0 n1 n2 n3 n4 n5 g0 g1 g2 ww U0 U1 U2 : Int} {kW k0 k1 k2 : Nat} {o4 o5 : Obj} {tt f : Int} {tt9 tf : Tok} {v6 v7 : Option Value}
    (hsc : sc = lawScope) (hbody : body = outBody)
    (B : Below A₀ base outer h₀) (F : Fr h₀ L s.heap m) (X : (hd.heap_39 w.params).In h₀) (T : Top p loose mean mg mb h₀)
    (mt : m (Str.ofString "trees") = some (.ref aT))
    (N : News h₀ L s.heap ((c7, o7) :: (c6, o6) :: news))
    (m1 : (c1, o1) ∈ news) (m2 : (c2, o2) ∈ news) (m3 : (c3, o3) ∈ news) (m4 : (c4, o4) ∈ news) (m5 : (c5, o5) ∈ news) (mU : (aU, LCg.lst [.int U0 u0, .int U1 u1, .int U2 u2]) ∈ news) (mW : (aW, W.listOf #[.ref R0, .ref R1, .ref R2] kW) ∈ news) (mr0 : (R0, W.listOf #[.int g0 r00, .int n0 r01, .int n1 r02] k0) ∈ news) (mr1 : (R1, W.listOf #[.int n2 r10, .int g1 r11, .int n3 r12] k1) ∈ news) (mr2 : (R2, W.listOf #[.int n4 r20, .int n5 r21, .int g2 r22] k2) ∈ news)
    (d1 : o1.data = .cell (some (.ref aW))) (d2 : o2.data = .cell (some (.int ww tw))) (d3 : o3.data = .cell (some (.ref aU))) (d4 : o4.data = .cell (some (.int tt tt9))) (d5 : o5.data = .cell (some (.int f tf))) (d6 : o6.data = .cell v6) (d7 : o7.data = .cell v7)
    (hn0 : 1 ≤ n0 ∧ n0 ≤ 4) (hn1 : 1 ≤ n1 ∧ n1 ≤ 4) (hn2 : 1 ≤ n2 ∧ n2 ≤ 4) (hn3 : 1 ≤ n3 ∧ n3 ≤ 4) (hn4 : 1 ≤ n4 ∧ n4 ≤ 4) (hn5 : 1 ≤ n5 ∧ n5 ≤ 4) (hg0 : 1 ≤ g0) (hg1 : 1 ≤ g1) (hg2 : 1 ≤ g2) (hs0 : g0 + n0 + n1 = ww) (hs1 : n2 + g1 + n3 = ww) (hs2 : n4 + n5 + g2 = ww) (hw9 : ww ≤ 9)
    (bb0 : Big g0) (bb1 : Big g1) (bb2 : Big g2) (bn0 : Big n0) (bn1 : Big n1) (bn2 : Big n2) (bn3 : Big n3) (bn4 : Big n4) (bn5 : Big n5) (bU0 : Big U0) (bU1 : Big U1) (bU2 : Big U2)
    (st8 : U0 * g0 + U1 * n2 + U2 * n4 = ww * U0 ∧ U0 * n0 + U1 * g1 + U2 * n5 = ww * U1 ∧ U0 * n1 + U1 * n3 + U2 * g2 = ww * U2) (htt : tt = U0 + U1 + U2) (hf : f = 0 ∨ f = 1 ∨ f = 2)
    (h76 : @Ne Nat c7 c6) (hn6 : ∀ p ∈ news, p.1 ≠ c6) (hn7 : ∀ p ∈ news, p.1 ≠ c7)
    (hd : dp + 300 < recursionLimit) (hu : un + 3000 < cLine)
    (hE : PassesOwn (model PySem.Challenge.rw_hg0003_01.row.prog w) (ktrTop dp un gd (Str.ofString "law") sc L a ccd (lawCl c1 c2 c3 c4 c5 c6 c7) outer) (envX (Str.ofString "law") sc L a ccd (lawCl c1 c2 c3 c4 c5 c6 c7)) E)
    (hret : ∀ m' o6' o7' h' tk' v6' v7', o6'.data = .cell v6' → o7'.data = .cell v7' → Fr h₀ L h' m' → m' (Str.ofString "trees") = some (.ref aT) → News h₀ L h' ((c7, o7') :: (c6, o6') :: news) → Q .next { s with heap := h', toks := tk' }) :
    wpAny (model PySem.Challenge.rw_hg0003_01.row.prog w) (ktrTop dp un gd (Str.ofString "law") sc L a ccd (lawCl c1 c2 c3 c4 c5 c6 c7) outer) (execs body (envX (Str.ofString "law") sc L a ccd (lawCl c1 c2 c3 c4 c5 c6 c7))) Q E s := by
  conv at hsc => rhs; whnf
  conv at hbody => rhs; whnf
  subst hsc hbody
  revert X; k_fill; intro X
  w_top off
  k_with_none
  k_with "execs nil" => ((with_reducible refine gen_toks ?_); intro tk9; refine wpAny_execs_nil ?_; dsimp only)
  have F1 := canon1 F mt
  clear F
  k_with "subscriptTail Name Constant ref int" => ((with_reducible show wpAny _ _ (subscriptTail _ _ (Value.ref _) (Value.int _ _)) _ _ _); k_dflt ((refine kba_turn (value' := PySem.Expr.Name (PySem.Str.ofString "_") ⟨0, 0, 0, 0⟩) (fun _ => rfl) ?_); first | (refine' kim_tup ?itN ?itm ?itc ?itd ?itlo ?ithi ?itj ?itx ?_ ?its; (case itN => k_asm); (case itm => k_mem); (case itc => exact rfl); (case itd => exact rfl); (case itlo => decide); (case ithi => decide); (case itj => exact rfl); (case itx => exact rfl); (case its => with_unfolding_all rfl)) | (refine' kim_list ?itN ?itm ?itc ?itd ?itlo ?ithi ?itx ?_ ?its; (case itN => k_asm); (case itm => k_mem); (case itc => exact rfl); (case itd => exact rfl); (case itlo => decide); (case ithi => decide); (case itx => exact rfl); (case its => with_unfolding_all rfl))))
  k_with "subscriptTail" => ((with_reducible show wpAny _ _ (subscriptTail _ _ (Value.ref _) (Value.int _ _)) _ _ _); k_dflt ((refine kba_turn (value' := PySem.Expr.Name (PySem.Str.ofString "_") ⟨0, 0, 0, 0⟩) (fun _ => rfl) ?_); first | (refine' kim_tup ?itN ?itm ?itc ?itd ?itlo ?ithi ?itj ?itx ?_ ?its; (case itN => k_asm); (case itm => k_mem); (case itc => exact rfl); (case itd => exact rfl); (case itlo => decide); (case ithi => decide); (case itj => exact rfl); (case itx => exact rfl); (case its => with_unfolding_all rfl)) | (refine' kim_list ?itN ?itm ?itc ?itd ?itlo ?ithi ?itx ?_ ?its; (case itN => k_asm); (case itm => k_mem); (case itc => exact rfl); (case itd => exact rfl); (case itlo => decide); (case ithi => decide); (case itx => exact rfl); (case its => with_unfolding_all rfl))))
  k_with "subscriptTail Name Name ref int" => ((with_reducible show wpAny _ _ (subscriptTail _ _ (Value.ref _) (Value.int _ _)) _ _ _); k_dflt ((refine kba_turn (value' := PySem.Expr.Name (PySem.Str.ofString "_") ⟨0, 0, 0, 0⟩) (fun _ => rfl) ?_); first | (refine' kim_tup ?itN ?itm ?itc ?itd ?itlo ?ithi ?itj ?itx ?_ ?its; (case itN => k_asm); (case itm => k_mem); (case itc => exact rfl); (case itd => exact rfl); (case itlo => decide); (case ithi => decide); (case itj => exact rfl); (case itx => exact rfl); (case its => with_unfolding_all rfl)) | (refine' kim_list ?itN ?itm ?itc ?itd ?itlo ?ithi ?itx ?_ ?its; (case itN => k_asm); (case itm => k_mem); (case itc => exact rfl); (case itd => exact rfl); (case itlo => decide); (case ithi => decide); (case itx => exact rfl); (case its => with_unfolding_all rfl))))
  k_with "subscriptTail Name BinOp ref int" => ((with_reducible show wpAny _ _ (subscriptTail _ _ (Value.ref _) (Value.int _ _)) _ _ _); k_dflt ((refine kba_turn (value' := PySem.Expr.Name (PySem.Str.ofString "_") ⟨0, 0, 0, 0⟩) (fun _ => rfl) ?_); first | (refine' kim_tup ?itN ?itm ?itc ?itd ?itlo ?ithi ?itj ?itx ?_ ?its; (case itN => k_asm); (case itm => k_mem); (case itc => exact rfl); (case itd => exact rfl); (case itlo => decide); (case ithi => decide); (case itj => exact rfl); (case itx => exact rfl); (case its => with_unfolding_all rfl)) | (refine' kim_list ?itN ?itm ?itc ?itd ?itlo ?ithi ?itx ?_ ?its; (case itN => k_asm); (case itm => k_mem); (case itc => exact rfl); (case itd => exact rfl); (case itlo => decide); (case ithi => decide); (case itx => exact rfl); (case its => with_unfolding_all rfl))))
  k_with "subscriptTail Subscript Name Name Constant ref int" => ((with_reducible show wpAny _ _ (subscriptTail _ _ (Value.ref _) (Value.int _ _)) _ _ _); k_dflt ((refine kba_turn (value' := PySem.Expr.Name (PySem.Str.ofString "_") ⟨0, 0, 0, 0⟩) (fun _ => rfl) ?_); first | (refine' kim_tup ?itN ?itm ?itc ?itd ?itlo ?ithi ?itj ?itx ?_ ?its; (case itN => k_asm); (case itm => k_mem); (case itc => exact rfl); (case itd => exact rfl); (case itlo => decide); (case ithi => decide); (case itj => exact rfl); (case itx => exact rfl); (case its => with_unfolding_all rfl)) | (refine' kim_list ?itN ?itm ?itc ?itd ?itlo ?ithi ?itx ?_ ?its; (case itN => k_asm); (case itm => k_mem); (case itc => exact rfl); (case itd => exact rfl); (case itlo => decide); (case ithi => decide); (case itx => exact rfl); (case its => with_unfolding_all rfl))))
  k_with "subscriptTail Subscript Name Constant Constant ref int" => ((with_reducible show wpAny _ _ (subscriptTail _ _ (Value.ref _) (Value.int _ _)) _ _ _); k_dflt ((refine kba_turn (value' := PySem.Expr.Name (PySem.Str.ofString "_") ⟨0, 0, 0, 0⟩) (fun _ => rfl) ?_); first | (refine' kim_tup ?itN ?itm ?itc ?itd ?itlo ?ithi ?itj ?itx ?_ ?its; (case itN => k_asm); (case itm => k_mem); (case itc => exact rfl); (case itd => exact rfl); (case itlo => decide); (case ithi => decide); (case itj => exact rfl); (case itx => exact rfl); (case its => with_unfolding_all rfl)) | (refine' kim_list ?itN ?itm ?itc ?itd ?itlo ?ithi ?itx ?_ ?its; (case itN => k_asm); (case itm => k_mem); (case itc => exact rfl); (case itd => exact rfl); (case itlo => decide); (case ithi => decide); (case itx => exact rfl); (case its => with_unfolding_all rfl))))
  k_with "subscriptTail Subscript Name Name Name ref int" => ((with_reducible show wpAny _ _ (subscriptTail _ _ (Value.ref _) (Value.int _ _)) _ _ _); k_dflt ((refine kba_turn (value' := PySem.Expr.Name (PySem.Str.ofString "_") ⟨0, 0, 0, 0⟩) (fun _ => rfl) ?_); first | (refine' kim_tup ?itN ?itm ?itc ?itd ?itlo ?ithi ?itj ?itx ?_ ?its; (case itN => k_asm); (case itm => k_mem); (case itc => exact rfl); (case itd => exact rfl); (case itlo => decide); (case ithi => decide); (case itj => exact rfl); (case itx => exact rfl); (case its => with_unfolding_all rfl)) | (refine' kim_list ?itN ?itm ?itc ?itd ?itlo ?ithi ?itx ?_ ?its; (case itN => k_asm); (case itm => k_mem); (case itc => exact rfl); (case itd => exact rfl); (case itlo => decide); (case ithi => decide); (case itx => exact rfl); (case its => with_unfolding_all rfl))))
  k_with "subscriptTail Subscript Name Name BinOp ref int" => ((with_reducible show wpAny _ _ (subscriptTail _ _ (Value.ref _) (Value.int _ _)) _ _ _); k_dflt ((refine kba_turn (value' := PySem.Expr.Name (PySem.Str.ofString "_") ⟨0, 0, 0, 0⟩) (fun _ => rfl) ?_); first | (refine' kim_tup ?itN ?itm ?itc ?itd ?itlo ?ithi ?itj ?itx ?_ ?its; (case itN => k_asm); (case itm => k_mem); (case itc => exact rfl); (case itd => exact rfl); (case itlo => decide); (case ithi => decide); (case itj => exact rfl); (case itx => exact rfl); (case its => with_unfolding_all rfl)) | (refine' kim_list ?itN ?itm ?itc ?itd ?itlo ?ithi ?itx ?_ ?its; (case itN => k_asm); (case itm => k_mem); (case itc => exact rfl); (case itd => exact rfl); (case itlo => decide); (case ithi => decide); (case itx => exact rfl); (case its => with_unfolding_all rfl))))
  k_with "subscriptTail Subscript Name Constant Name ref int" => ((with_reducible show wpAny _ _ (subscriptTail _ _ (Value.ref _) (Value.int _ _)) _ _ _); k_dflt ((refine kba_turn (value' := PySem.Expr.Name (PySem.Str.ofString "_") ⟨0, 0, 0, 0⟩) (fun _ => rfl) ?_); first | (refine' kim_tup ?itN ?itm ?itc ?itd ?itlo ?ithi ?itj ?itx ?_ ?its; (case itN => k_asm); (case itm => k_mem); (case itc => exact rfl); (case itd => exact rfl); (case itlo => decide); (case ithi => decide); (case itj => exact rfl); (case itx => exact rfl); (case its => with_unfolding_all rfl)) | (refine' kim_list ?itN ?itm ?itc ?itd ?itlo ?ithi ?itx ?_ ?its; (case itN => k_asm); (case itm => k_mem); (case itc => exact rfl); (case itd => exact rfl); (case itlo => decide); (case ithi => decide); (case itx => exact rfl); (case its => with_unfolding_all rfl))))
  k_with "callWith ref nil nil" => (k_here; k_dflt (first | (refine' callWith_K ?kq1 ?kq2 ?_; (case kq1 => k_asm); (case kq2 => k_is); k_whole) | (refine' callWith_K0 ?kq1 ?kq2 ?_; (case kq1 => k_in); (case kq2 => k_is); k_whole)))
  k_with "binaryOp Mult int int" => (k_dflt (with_reducible refine mul_rw (by with_reducible assumption) ?_))
  k_with "CompEnd ref" => (k_dflt (first | (refine cend_new (by with_reducible assumption) (by with_reducible assumption) (by with_reducible assumption) ?ceo trivial ?_; (case ceo => first | (with_reducible assumption) | (simp only [LCg.Off3, and_true]; with_reducible assumption))) | (refine cend_same (by with_reducible assumption) (by with_reducible assumption) ?ceo trivial ?_; (case ceo => first | (with_reducible assumption) | (simp only [LCg.Off3, and_true]; with_reducible assumption))) | (refine cend_same (by with_reducible assumption) (by with_reducible assumption) ?ceo ?ceS ?_; (case ceo => first | (with_reducible assumption) | (simp only [LCg.Off3, and_true]; with_reducible assumption)); (case ceS => (refine' Or.inr ⟨_, ?ca, ?cb, _, ?cc⟩; (case ca => k_mem); (case cb => rfl); (case cc => rfl))))))
  k_with "CompEnd" => (k_dflt (first | (refine cend_new (by with_reducible assumption) (by with_reducible assumption) (by with_reducible assumption) ?ceo trivial ?_; (case ceo => first | (with_reducible assumption) | (simp only [LCg.Off3, and_true]; with_reducible assumption))) | (refine cend_same (by with_reducible assumption) (by with_reducible assumption) ?ceo trivial ?_; (case ceo => first | (with_reducible assumption) | (simp only [LCg.Off3, and_true]; with_reducible assumption))) | (refine cend_same (by with_reducible assumption) (by with_reducible assumption) ?ceo ?ceS ?_; (case ceo => first | (with_reducible assumption) | (simp only [LCg.Off3, and_true]; with_reducible assumption)); (case ceS => (refine' Or.inr ⟨_, ?ca, ?cb, _, ?cc⟩; (case ca => k_mem); (case cb => rfl); (case cc => rfl))))))
  k_with "CompEnd none" => (k_dflt (first | (refine cend_new (by with_reducible assumption) (by with_reducible assumption) (by with_reducible assumption) ?ceo trivial ?_; (case ceo => first | (with_reducible assumption) | (simp only [LCg.Off3, and_true]; with_reducible assumption))) | (refine cend_same (by with_reducible assumption) (by with_reducible assumption) ?ceo trivial ?_; (case ceo => first | (with_reducible assumption) | (simp only [LCg.Off3, and_true]; with_reducible assumption))) | (refine cend_same (by with_reducible assumption) (by with_reducible assumption) ?ceo ?ceS ?_; (case ceo => first | (with_reducible assumption) | (simp only [LCg.Off3, and_true]; with_reducible assumption)); (case ceS => (refine' Or.inr ⟨_, ?ca, ?cb, _, ?cc⟩; (case ca => k_mem); (case cb => rfl); (case cc => rfl))))))
  k_with "CompEnd int" => (k_dflt (first | (refine cend_new (by with_reducible assumption) (by with_reducible assumption) (by with_reducible assumption) ?ceo trivial ?_; (case ceo => first | (with_reducible assumption) | (simp only [LCg.Off3, and_true]; with_reducible assumption))) | (refine cend_same (by with_reducible assumption) (by with_reducible assumption) ?ceo trivial ?_; (case ceo => first | (with_reducible assumption) | (simp only [LCg.Off3, and_true]; with_reducible assumption))) | (refine cend_same (by with_reducible assumption) (by with_reducible assumption) ?ceo ?ceS ?_; (case ceo => first | (with_reducible assumption) | (simp only [LCg.Off3, and_true]; with_reducible assumption)); (case ceS => (refine' Or.inr ⟨_, ?ca, ?cb, _, ?cc⟩; (case ca => k_mem); (case cb => rfl); (case cc => rfl))))))
  k_with "CompSrc" => (k_here; k_dflt (refine LCg.CompSrc.range (by rfl) (by k_asm) (by k_asm) (by assumption) (by first | decide | rfl) (by first | rfl | decide) (by first | size_fits | exact Nat.le_of_ble_eq_true rfl) ?_; intro g'; lcg_lit))
  k_with "ite" => (with_reducible refine ite_self ?_)
  k_with "FinE cons" => ((unfold LCg.FinE); first | (have zz9 := oS; clear zz9; intro D8 h8 tk8 F8 N8 o8; (try simp only [List.nil_append, List.cons_append] at N8); have y7 : @Ne Nat D8 c7 := (off1_mem o8 (c7, o7) (by simp)).symm; (try dsimp only)) | (intro DS h8 tk8 F8 N8 oS; (try simp only [List.nil_append, List.cons_append] at N8); have z7 : @Ne Nat DS c7 := (off1_mem oS (c7, o7) (by simp)).symm; have z6 : @Ne Nat DS c6 := (off1_mem oS (c6, o6) (by simp)).symm; obtain ⟨x0, x1, x2, N9, hsum5⟩ := start9 N8 hf htt; clear N8; (try dsimp only)))
  k_with "FinE" => ((unfold LCg.FinE); first | (have zz9 := oS; clear zz9; intro D8 h8 tk8 F8 N8 o8; (try simp only [List.nil_append, List.cons_append] at N8); have y7 : @Ne Nat D8 c7 := (off1_mem o8 (c7, o7) (by simp)).symm; (try dsimp only)) | (intro DS h8 tk8 F8 N8 oS; (try simp only [List.nil_append, List.cons_append] at N8); have z7 : @Ne Nat DS c7 := (off1_mem oS (c7, o7) (by simp)).symm; have z6 : @Ne Nat DS c6 := (off1_mem oS (c6, o6) (by simp)).symm; obtain ⟨x0, x1, x2, N9, hsum5⟩ := start9 N8 hf htt; clear N8; (try dsimp only)))
  k_with "exec For Name Call cons nil" => (k_here; (rename Fr _ _ _ _ => lF'); (with_unfolding_all refine' For_turns lF' ?_ ?k4 ?kE; (case k4 => (intro _; rfl)); (case kE => first | assumption | passes_own | with_unfolding_all passes_own); k_whole))
  k_with "exec For Name Name cons nil" => (k_here; (rename Fr _ _ _ _ => lF'); (with_unfolding_all refine' For_turns lF' ?_ ?k4 ?kE; (case k4 => (intro _; rfl)); (case kE => first | assumption | passes_own | with_unfolding_all passes_own); k_whole))
  k_with "pyIter ref" => ((with_reducible show wpAny _ _ (pyIter (Value.ref _)) (fun it s₂ => TurnsAt _ _ _ _ _ _ _ _ _ it s₂) _ _); (rename Fr _ _ _ _ => lF'); (rename News _ _ _ _ => lN'); (first | (with_unfolding_all refine iter_rangeF (n := 3) (by rfl) (by assumption) (by first | decide | rfl) (by first | decide | rfl) lF' (kti_tail (kti_tail lN')) ?_) | (with_unfolding_all refine iter_rangeF (n := 4) (by rfl) (by assumption) (by first | decide | rfl) (by first | decide | rfl) lF' (kti_tail (kti_tail lN')) ?_) | (with_unfolding_all refine' iter_listTurns (vs := [.ref _, .ref _, .ref _]) ?ih lF' lN' ?im ?ic ?id ?_; (case im => exact List.mem_cons_self); (case ih => rfl); (case ic => rfl); (case id => rfl)) | (with_unfolding_all refine' iter_listTurns (vs := [.int _ _, .int _ _, .int _ _]) ?ih lF' lN' ?im ?ic ?id ?_; (case im => k_mem); (case ih => rfl); (case ic => rfl); (case id => rfl))); clear lF' lN'; intro I7 l7; have off7 := lt_ne l7; have i7 : @Ne Nat I7 c7 := (off7 _ (List.mem_cons_of_mem _ List.mem_cons_self)).symm; have i6 : @Ne Nat I7 c6 := (off7 _ (List.mem_cons_of_mem _ (List.mem_cons_of_mem _ List.mem_cons_self))).symm; have offn : ∀ p ∈ news, p.1 ≠ I7 := fun p hp => off7 p (by simp [hp]); clear off7)
  k_with "RestF" => (k_dflt (first | (refine RestF.succ ?_; intro t7 h7 tk7 F7 N7; (try dsimp only)) | (refine RestF.zero ?_; intro h7 tk7 F7 N7; (try dsimp only))))
  k_with "UnrEnd" => ((rename Fr _ _ _ _ => lF'); (rename News _ _ _ _ => lN'); k_dflt (refine unr_endW lF' lN' (ho5 _ List.mem_cons_self).symm i7.symm i6.symm offn ?_))
  k_with "storeName ref" => ((rename (@LT.lt Nat _ _) ∧ (@LT.lt Nat _ _) ∧ (@LT.lt Nat c7 _) ∧ _ => zz9); have y77 := zz9.2.2.1; clear zz9)
  k_with "storeName int" => ((rename (@LT.lt Nat _ _) ∧ (@LT.lt Nat _ _) ∧ (@LT.lt Nat c7 _) ∧ _ => zz9); have y77 := zz9.2.2.1; clear zz9)
  k_with "execs cons Assign cons" => ((with_reducible show wpAny _ _ (execs (Stmt.Assign [Expr.Tuple (Expr.Name (Str.ofString "start") _ :: _) _ _] _ _ :: _) _) _ _ _); (rename Fr _ _ _ _ => lF'); (rename News _ _ _ _ => lN'); k_dflt (refine' turn_ok rfl rfl B lF' X T ?ma ?mt (swap_4 lN') (List.mem_cons_of_mem _ m1) (List.mem_cons_of_mem _ m2) (List.mem_cons_of_mem _ m3) (List.mem_cons_of_mem _ mU) (List.mem_cons_of_mem _ mW) (List.mem_cons_of_mem _ mr0) (List.mem_cons_of_mem _ mr1) (List.mem_cons_of_mem _ mr2) d1 d2 d3 ?nd6 ?nd7 hn0 hn1 hn2 hn3 hn4 hn5 hg0 hg1 hg2 hs0 hs1 hs2 hw9 bb0 bb1 bb2 bn0 bn1 bn2 bn3 bn4 bn5 bU0 bU1 bU2 st8 hsum5 ?nap z6 z7 h76 (List.forall_mem_cons.mpr ⟨i6, hn6⟩) (List.forall_mem_cons.mpr ⟨i7, hn7⟩) hd hu hE ?_; (case ma => rfl); (case mt => rfl); (case nd6 => assumption); (case nd7 => assumption); (case nap => first | exact hap5 | exact apart9)); intro m5 aS5 o65 o75 h5 tk5 y50 y51 y52 sv5 ap5 v50 v51 v52 ts5 ta5 hsum5 hap5 d65 d75 z6 z7 ho5 F5 ma5 mt5 N5; clear lF' lN'; have F6 := canon1 (canon1 F5 mt5) (v := .int ap5 ta5) ((if_neg (by decide)).trans ma5); clear F5; (try dsimp only))
  k_with "execs cons For cons" => ((with_reducible show wpAny _ _ (execs (Stmt.Assign [Expr.Tuple (Expr.Name (Str.ofString "start") _ :: _) _ _] _ _ :: _) _) _ _ _); (rename Fr _ _ _ _ => lF'); (rename News _ _ _ _ => lN'); k_dflt (refine' turn_ok rfl rfl B lF' X T ?ma ?mt (swap_4 lN') (List.mem_cons_of_mem _ m1) (List.mem_cons_of_mem _ m2) (List.mem_cons_of_mem _ m3) (List.mem_cons_of_mem _ mU) (List.mem_cons_of_mem _ mW) (List.mem_cons_of_mem _ mr0) (List.mem_cons_of_mem _ mr1) (List.mem_cons_of_mem _ mr2) d1 d2 d3 ?nd6 ?nd7 hn0 hn1 hn2 hn3 hn4 hn5 hg0 hg1 hg2 hs0 hs1 hs2 hw9 bb0 bb1 bb2 bn0 bn1 bn2 bn3 bn4 bn5 bU0 bU1 bU2 st8 hsum5 ?nap z6 z7 h76 (List.forall_mem_cons.mpr ⟨i6, hn6⟩) (List.forall_mem_cons.mpr ⟨i7, hn7⟩) hd hu hE ?_; (case ma => rfl); (case mt => rfl); (case nd6 => assumption); (case nd7 => assumption); (case nap => first | exact hap5 | exact apart9)); intro m5 aS5 o65 o75 h5 tk5 y50 y51 y52 sv5 ap5 v50 v51 v52 ts5 ta5 hsum5 hap5 d65 d75 z6 z7 ho5 F5 ma5 mt5 N5; clear lF' lN'; have F6 := canon1 (canon1 F5 mt5) (v := .int ap5 ta5) ((if_neg (by decide)).trans ma5); clear F5; (try dsimp only))
  k_steps
  all_goals first | k_data | ((rename Fr _ _ _ _ => lF'); (rename News _ _ _ _ => lN'); have lM' := kti_tail lN'; refine hret _ o65 o75 _ _ _ _ d65 d75 lF' ?qt lM'; (case qt => rfl))
end
end Mine
namespace Mine
theorem swap_5 {h₀ h : Heap} {L : Addr} {q1 q2 q3 q4 : Addr × Obj} {l : List (Addr × Obj)} (N : News h₀ L h (q1 :: q2 :: q3 :: q4 :: l)) : News h₀ L h (q2 :: q3 :: q1 :: q4 :: l) := cb_drop N (List.forall_mem_cons.mpr ⟨(List.mem_cons_of_mem _ List.mem_cons_self), (List.forall_mem_cons.mpr ⟨(List.mem_cons_of_mem _ (List.mem_cons_of_mem _ List.mem_cons_self)), (List.forall_mem_cons.mpr ⟨List.mem_cons_self, (List.forall_mem_cons.mpr ⟨(List.mem_cons_of_mem _ (List.mem_cons_of_mem _ (List.mem_cons_of_mem _ List.mem_cons_self))), (fun _ hq => (List.mem_cons_of_mem _ (List.mem_cons_of_mem _ (List.mem_cons_of_mem _ (List.mem_cons_of_mem _ hq)))))⟩)⟩)⟩)⟩)
theorem unr_endX {h₀ : Heap} {L I : Addr} {it : Obj} {R : (Str → Option Value) → List (Addr × Obj) → Prop} {s₁ : Shared} {h' : Heap} {tk : Nat} {m' : Str → Option Value} {q1 q2 q3 : Addr × Obj} {l : List (Addr × Obj)}
    (F : Fr h₀ L h' m') (N : News h₀ L h' (q1 :: q2 :: (I, it) :: q3 :: l)) (o1 : q1.1 ≠ I) (o2 : q2.1 ≠ I) (o3 : q3.1 ≠ I) (off : ∀ p ∈ l, p.1 ≠ I) (r : R m' (q1 :: q2 :: q3 :: l)) : UnrEnd h₀ L s₁ I it R { s₁ with heap := h', toks := tk } :=
  unr_endW F (cb_drop N fun q hq => by
    simp only [List.mem_cons] at hq ⊢
    rcases hq with h | h | h | h | h <;> simp [h]) o1 o2 o3 off r
section
variable {w : World} {p : Program} {loose : List Str} {mean : ExcName → Option Value} {mg mb : Str → Option Value} {dp un : Nat} {gd : Option (List Code)} {a : Addr} {ccd : Value} {outer : List Env} {A₀ : Around} {base h₀ : Heap} {L : Addr} {m : Str → Option Value} {news : List (Addr × Obj)} {s : Shared} {Q : Flow → Shared → Prop} {E : Value → Shared → Prop}
set_option maxRecDepth 100000 in
set_option maxHeartbeats 8000000 in
theorem v9 {sc : Scope} {body : List Stmt} {aT : Addr} {c7 c6 c5 c4 c3 c2 c1 aU aW R0 R1 R2 : Addr} {o1 o2 o3 o6 o7 : Obj} {u0 u1 u2 r00 r01 r02 r10 r11 r12 r20 r21 r22 tw : Tok} {n0 n1 n2 n3 n4 n5 g0 g1 g2 ww U0 U1 U2 : Int} {kW k0 k1 k2 : Nat} {o4 o5 : Obj} {T0 T1 T2 gg tt : Int} {t0 t1 t2 tt9 : Tok} {ps1 ps2 : Array Value} {v5 v6 v7 : Option Value}
    (hsc : sc = lawScope) (hbody : body = lawRest 9)
    (B : Below A₀ base outer h₀) (F : Fr h₀ L s.heap m) (X : (hd.heap_39 w.params).In h₀) (T : Top p loose mean mg mb h₀)
    (mt : m (Str.ofString "trees") = some (.ref aT))
    (N : News h₀ L s.heap ((c7, o7) :: (c6, o6) :: (c5, o5) :: news))
    (m1 : (c1, o1) ∈ news) (m2 : (c2, o2) ∈ news) (m3 : (c3, o3) ∈ news) (m4 : (c4, o4) ∈ news) (mU : (aU, LCg.lst [.int U0 u0, .int U1 u1, .int U2 u2]) ∈ news) (mW : (aW, W.listOf #[.ref R0, .ref R1, .ref R2] kW) ∈ news) (mr0 : (R0, W.listOf #[.int g0 r00, .int n0 r01, .int n1 r02] k0) ∈ news) (mr1 : (R1, W.listOf #[.int n2 r10, .int g1 r11, .int n3 r12] k1) ∈ news) (mr2 : (R2, W.listOf #[.int n4 r20, .int n5 r21, .int g2 r22] k2) ∈ news) (m44 : (44, tabObj ps1) ∈ news) (m51 : (51, tabObj ps2) ∈ news) (mT : (aT, LCg.lst [.int T0 t0, .int T1 t1, .int T2 t2]) ∈ news)
    (d1 : o1.data = .cell (some (.ref aW))) (d2 : o2.data = .cell (some (.int ww tw))) (d3 : o3.data = .cell (some (.ref aU))) (d4 : o4.data = .cell (some (.int tt tt9))) (d5 : o5.data = .cell v5) (d6 : o6.data = .cell v6) (d7 : o7.data = .cell v7)
    (hn0 : 1 ≤ n0 ∧ n0 ≤ 4) (hn1 : 1 ≤ n1 ∧ n1 ≤ 4) (hn2 : 1 ≤ n2 ∧ n2 ≤ 4) (hn3 : 1 ≤ n3 ∧ n3 ≤ 4) (hn4 : 1 ≤ n4 ∧ n4 ≤ 4) (q5 : 1 ≤ n5 ∧ n5 ≤ 4) (hg0 : 1 ≤ g0) (hg1 : 1 ≤ g1) (hg2 : 1 ≤ g2) (hs0 : g0 + n0 + n1 = ww) (hs1 : n2 + g1 + n3 = ww) (hs2 : n4 + n5 + g2 = ww) (hw9 : ww ≤ 9)
    (eT0 : T0 = n2 * n4 + n3 * n4 + n2 * n5) (eT1 : T1 = n0 * n5 + n1 * n5 + n0 * n4) (eT2 : T2 = n1 * n3 + n0 * n3 + n1 * n2)
    (eU0 : T0 = gg * U0) (eU1 : T1 = gg * U1) (eU2 : T2 = gg * U2) (hgg : 1 ≤ gg ∧ gg ≤ 1000) (htt : tt = U0 + U1 + U2)
    (h76 : @Ne Nat c7 c6) (h75 : @Ne Nat c7 c5) (h65 : @Ne Nat c6 c5) (hn5 : ∀ p ∈ news, p.1 ≠ c5) (hn6 : ∀ p ∈ news, p.1 ≠ c6) (hn7 : ∀ p ∈ news, p.1 ≠ c7)
    (hd : dp + 300 < recursionLimit) (hu : un + 3000 < cLine)
    (hE : PassesOwn (model PySem.Challenge.rw_hg0003_01.row.prog w) (ktrTop dp un gd (Str.ofString "law") sc L a ccd (lawCl c1 c2 c3 c4 c5 c6 c7) outer) (envX (Str.ofString "law") sc L a ccd (lawCl c1 c2 c3 c4 c5 c6 c7)) E)
    (hret : ∀ m' news' qs1 qs2 h' tk', Fr h₀ L h' m' → News h₀ L h' news' → (44, tabObj qs1) ∈ news' → (51, tabObj qs2) ∈ news' → Q (.ret (.bool true)) { s with heap := h', toks := tk' }) :
    wpAny (model PySem.Challenge.rw_hg0003_01.row.prog w) (ktrTop dp un gd (Str.ofString "law") sc L a ccd (lawCl c1 c2 c3 c4 c5 c6 c7) outer) (execs body (envX (Str.ofString "law") sc L a ccd (lawCl c1 c2 c3 c4 c5 c6 c7))) Q E s := by
  conv at hsc => rhs; whnf
  conv at hbody => rhs; whnf
  subst hsc hbody
  revert X; k_fill; intro X
  w_top off
  k_with_none
  k_with "execs nil" => ((with_reducible refine gen_toks ?_); intro tk9; refine wpAny_execs_nil ?_; dsimp only)
  obtain ⟨bb0, bb1, bb2, bn0, bn1, bn2, bn3, bn4, bn5⟩ := bigs hn0 hn1 hn2 hn3 hn4 q5 hg0 hg1 hg2 hs0 hs1 hs2 hw9
  have hT0 := tbound hn2 hn4 hn3 hn4 hn2 q5 eT0
  have hT1 := tbound hn0 q5 hn1 q5 hn0 hn4 eT1
  have hT2 := tbound hn1 hn3 hn0 hn3 hn1 hn2 eT2
  have bU0 := bigU eU0 hgg.1 hT0
  have bU1 := bigU eU1 hgg.1 hT1
  have bU2 := bigU eU2 hgg.1 hT2
  have st8 := stat1 (stat0 hs0 hs1 hs2 eT0 eT1 eT2) eU0 eU1 eU2 hgg.1
  have F1 := canon1 F mt
  clear F
  k_with "subscriptTail Name Constant ref int" => ((with_reducible show wpAny _ _ (subscriptTail _ _ (Value.ref _) (Value.int _ _)) _ _ _); k_dflt ((refine kba_turn (value' := PySem.Expr.Name (PySem.Str.ofString "_") ⟨0, 0, 0, 0⟩) (fun _ => rfl) ?_); first | (refine' kim_tup ?itN ?itm ?itc ?itd ?itlo ?ithi ?itj ?itx ?_ ?its; (case itN => k_asm); (case itm => k_mem); (case itc => exact rfl); (case itd => exact rfl); (case itlo => decide); (case ithi => decide); (case itj => exact rfl); (case itx => exact rfl); (case its => with_unfolding_all rfl)) | (refine' kim_list ?itN ?itm ?itc ?itd ?itlo ?ithi ?itx ?_ ?its; (case itN => k_asm); (case itm => k_mem); (case itc => exact rfl); (case itd => exact rfl); (case itlo => decide); (case ithi => decide); (case itx => exact rfl); (case its => with_unfolding_all rfl))))
  k_with "subscriptTail" => ((with_reducible show wpAny _ _ (subscriptTail _ _ (Value.ref _) (Value.int _ _)) _ _ _); k_dflt ((refine kba_turn (value' := PySem.Expr.Name (PySem.Str.ofString "_") ⟨0, 0, 0, 0⟩) (fun _ => rfl) ?_); first | (refine' kim_tup ?itN ?itm ?itc ?itd ?itlo ?ithi ?itj ?itx ?_ ?its; (case itN => k_asm); (case itm => k_mem); (case itc => exact rfl); (case itd => exact rfl); (case itlo => decide); (case ithi => decide); (case itj => exact rfl); (case itx => exact rfl); (case its => with_unfolding_all rfl)) | (refine' kim_list ?itN ?itm ?itc ?itd ?itlo ?ithi ?itx ?_ ?its; (case itN => k_asm); (case itm => k_mem); (case itc => exact rfl); (case itd => exact rfl); (case itlo => decide); (case ithi => decide); (case itx => exact rfl); (case its => with_unfolding_all rfl))))
  k_with "subscriptTail Name Name ref int" => ((with_reducible show wpAny _ _ (subscriptTail _ _ (Value.ref _) (Value.int _ _)) _ _ _); k_dflt ((refine kba_turn (value' := PySem.Expr.Name (PySem.Str.ofString "_") ⟨0, 0, 0, 0⟩) (fun _ => rfl) ?_); first | (refine' kim_tup ?itN ?itm ?itc ?itd ?itlo ?ithi ?itj ?itx ?_ ?its; (case itN => k_asm); (case itm => k_mem); (case itc => exact rfl); (case itd => exact rfl); (case itlo => decide); (case ithi => decide); (case itj => exact rfl); (case itx => exact rfl); (case its => with_unfolding_all rfl)) | (refine' kim_list ?itN ?itm ?itc ?itd ?itlo ?ithi ?itx ?_ ?its; (case itN => k_asm); (case itm => k_mem); (case itc => exact rfl); (case itd => exact rfl); (case itlo => decide); (case ithi => decide); (case itx => exact rfl); (case its => with_unfolding_all rfl))))
  k_with "subscriptTail Name BinOp ref int" => ((with_reducible show wpAny _ _ (subscriptTail _ _ (Value.ref _) (Value.int _ _)) _ _ _); k_dflt ((refine kba_turn (value' := PySem.Expr.Name (PySem.Str.ofString "_") ⟨0, 0, 0, 0⟩) (fun _ => rfl) ?_); first | (refine' kim_tup ?itN ?itm ?itc ?itd ?itlo ?ithi ?itj ?itx ?_ ?its; (case itN => k_asm); (case itm => k_mem); (case itc => exact rfl); (case itd => exact rfl); (case itlo => decide); (case ithi => decide); (case itj => exact rfl); (case itx => exact rfl); (case its => with_unfolding_all rfl)) | (refine' kim_list ?itN ?itm ?itc ?itd ?itlo ?ithi ?itx ?_ ?its; (case itN => k_asm); (case itm => k_mem); (case itc => exact rfl); (case itd => exact rfl); (case itlo => decide); (case ithi => decide); (case itx => exact rfl); (case its => with_unfolding_all rfl))))
  k_with "subscriptTail Subscript Name Name Constant ref int" => ((with_reducible show wpAny _ _ (subscriptTail _ _ (Value.ref _) (Value.int _ _)) _ _ _); k_dflt ((refine kba_turn (value' := PySem.Expr.Name (PySem.Str.ofString "_") ⟨0, 0, 0, 0⟩) (fun _ => rfl) ?_); first | (refine' kim_tup ?itN ?itm ?itc ?itd ?itlo ?ithi ?itj ?itx ?_ ?its; (case itN => k_asm); (case itm => k_mem); (case itc => exact rfl); (case itd => exact rfl); (case itlo => decide); (case ithi => decide); (case itj => exact rfl); (case itx => exact rfl); (case its => with_unfolding_all rfl)) | (refine' kim_list ?itN ?itm ?itc ?itd ?itlo ?ithi ?itx ?_ ?its; (case itN => k_asm); (case itm => k_mem); (case itc => exact rfl); (case itd => exact rfl); (case itlo => decide); (case ithi => decide); (case itx => exact rfl); (case its => with_unfolding_all rfl))))
  k_with "subscriptTail Subscript Name Constant Constant ref int" => ((with_reducible show wpAny _ _ (subscriptTail _ _ (Value.ref _) (Value.int _ _)) _ _ _); k_dflt ((refine kba_turn (value' := PySem.Expr.Name (PySem.Str.ofString "_") ⟨0, 0, 0, 0⟩) (fun _ => rfl) ?_); first | (refine' kim_tup ?itN ?itm ?itc ?itd ?itlo ?ithi ?itj ?itx ?_ ?its; (case itN => k_asm); (case itm => k_mem); (case itc => exact rfl); (case itd => exact rfl); (case itlo => decide); (case ithi => decide); (case itj => exact rfl); (case itx => exact rfl); (case its => with_unfolding_all rfl)) | (refine' kim_list ?itN ?itm ?itc ?itd ?itlo ?ithi ?itx ?_ ?its; (case itN => k_asm); (case itm => k_mem); (case itc => exact rfl); (case itd => exact rfl); (case itlo => decide); (case ithi => decide); (case itx => exact rfl); (case its => with_unfolding_all rfl))))
  k_with "subscriptTail Subscript Name Name Name ref int" => ((with_reducible show wpAny _ _ (subscriptTail _ _ (Value.ref _) (Value.int _ _)) _ _ _); k_dflt ((refine kba_turn (value' := PySem.Expr.Name (PySem.Str.ofString "_") ⟨0, 0, 0, 0⟩) (fun _ => rfl) ?_); first | (refine' kim_tup ?itN ?itm ?itc ?itd ?itlo ?ithi ?itj ?itx ?_ ?its; (case itN => k_asm); (case itm => k_mem); (case itc => exact rfl); (case itd => exact rfl); (case itlo => decide); (case ithi => decide); (case itj => exact rfl); (case itx => exact rfl); (case its => with_unfolding_all rfl)) | (refine' kim_list ?itN ?itm ?itc ?itd ?itlo ?ithi ?itx ?_ ?its; (case itN => k_asm); (case itm => k_mem); (case itc => exact rfl); (case itd => exact rfl); (case itlo => decide); (case ithi => decide); (case itx => exact rfl); (case its => with_unfolding_all rfl))))
  k_with "subscriptTail Subscript Name Name BinOp ref int" => ((with_reducible show wpAny _ _ (subscriptTail _ _ (Value.ref _) (Value.int _ _)) _ _ _); k_dflt ((refine kba_turn (value' := PySem.Expr.Name (PySem.Str.ofString "_") ⟨0, 0, 0, 0⟩) (fun _ => rfl) ?_); first | (refine' kim_tup ?itN ?itm ?itc ?itd ?itlo ?ithi ?itj ?itx ?_ ?its; (case itN => k_asm); (case itm => k_mem); (case itc => exact rfl); (case itd => exact rfl); (case itlo => decide); (case ithi => decide); (case itj => exact rfl); (case itx => exact rfl); (case its => with_unfolding_all rfl)) | (refine' kim_list ?itN ?itm ?itc ?itd ?itlo ?ithi ?itx ?_ ?its; (case itN => k_asm); (case itm => k_mem); (case itc => exact rfl); (case itd => exact rfl); (case itlo => decide); (case ithi => decide); (case itx => exact rfl); (case its => with_unfolding_all rfl))))
  k_with "subscriptTail Subscript Name Constant Name ref int" => ((with_reducible show wpAny _ _ (subscriptTail _ _ (Value.ref _) (Value.int _ _)) _ _ _); k_dflt ((refine kba_turn (value' := PySem.Expr.Name (PySem.Str.ofString "_") ⟨0, 0, 0, 0⟩) (fun _ => rfl) ?_); first | (refine' kim_tup ?itN ?itm ?itc ?itd ?itlo ?ithi ?itj ?itx ?_ ?its; (case itN => k_asm); (case itm => k_mem); (case itc => exact rfl); (case itd => exact rfl); (case itlo => decide); (case ithi => decide); (case itj => exact rfl); (case itx => exact rfl); (case its => with_unfolding_all rfl)) | (refine' kim_list ?itN ?itm ?itc ?itd ?itlo ?ithi ?itx ?_ ?its; (case itN => k_asm); (case itm => k_mem); (case itc => exact rfl); (case itd => exact rfl); (case itlo => decide); (case ithi => decide); (case itx => exact rfl); (case its => with_unfolding_all rfl))))
  k_with "callWith ref nil nil" => (k_here; k_dflt (first | (refine' callWith_K ?kq1 ?kq2 ?_; (case kq1 => k_asm); (case kq2 => k_is); k_whole) | (refine' callWith_K0 ?kq1 ?kq2 ?_; (case kq1 => k_in); (case kq2 => k_is); k_whole)))
  k_with "binaryOp Mult int int" => (k_dflt (with_reducible refine mul_rw (by with_reducible assumption) ?_))
  k_with "CompEnd ref" => (k_dflt (first | (refine cend_new (by with_reducible assumption) (by with_reducible assumption) (by with_reducible assumption) ?ceo trivial ?_; (case ceo => first | (with_reducible assumption) | (simp only [LCg.Off3, and_true]; with_reducible assumption))) | (refine cend_same (by with_reducible assumption) (by with_reducible assumption) ?ceo trivial ?_; (case ceo => first | (with_reducible assumption) | (simp only [LCg.Off3, and_true]; with_reducible assumption))) | (refine cend_same (by with_reducible assumption) (by with_reducible assumption) ?ceo ?ceS ?_; (case ceo => first | (with_reducible assumption) | (simp only [LCg.Off3, and_true]; with_reducible assumption)); (case ceS => (refine' Or.inr ⟨_, ?ca, ?cb, _, ?cc⟩; (case ca => k_mem); (case cb => rfl); (case cc => rfl))))))
  k_with "CompEnd" => (k_dflt (first | (refine cend_new (by with_reducible assumption) (by with_reducible assumption) (by with_reducible assumption) ?ceo trivial ?_; (case ceo => first | (with_reducible assumption) | (simp only [LCg.Off3, and_true]; with_reducible assumption))) | (refine cend_same (by with_reducible assumption) (by with_reducible assumption) ?ceo trivial ?_; (case ceo => first | (with_reducible assumption) | (simp only [LCg.Off3, and_true]; with_reducible assumption))) | (refine cend_same (by with_reducible assumption) (by with_reducible assumption) ?ceo ?ceS ?_; (case ceo => first | (with_reducible assumption) | (simp only [LCg.Off3, and_true]; with_reducible assumption)); (case ceS => (refine' Or.inr ⟨_, ?ca, ?cb, _, ?cc⟩; (case ca => k_mem); (case cb => rfl); (case cc => rfl))))))
  k_with "CompEnd none" => (k_dflt (first | (refine cend_new (by with_reducible assumption) (by with_reducible assumption) (by with_reducible assumption) ?ceo trivial ?_; (case ceo => first | (with_reducible assumption) | (simp only [LCg.Off3, and_true]; with_reducible assumption))) | (refine cend_same (by with_reducible assumption) (by with_reducible assumption) ?ceo trivial ?_; (case ceo => first | (with_reducible assumption) | (simp only [LCg.Off3, and_true]; with_reducible assumption))) | (refine cend_same (by with_reducible assumption) (by with_reducible assumption) ?ceo ?ceS ?_; (case ceo => first | (with_reducible assumption) | (simp only [LCg.Off3, and_true]; with_reducible assumption)); (case ceS => (refine' Or.inr ⟨_, ?ca, ?cb, _, ?cc⟩; (case ca => k_mem); (case cb => rfl); (case cc => rfl))))))
  k_with "CompEnd int" => (k_dflt (first | (refine cend_new (by with_reducible assumption) (by with_reducible assumption) (by with_reducible assumption) ?ceo trivial ?_; (case ceo => first | (with_reducible assumption) | (simp only [LCg.Off3, and_true]; with_reducible assumption))) | (refine cend_same (by with_reducible assumption) (by with_reducible assumption) ?ceo trivial ?_; (case ceo => first | (with_reducible assumption) | (simp only [LCg.Off3, and_true]; with_reducible assumption))) | (refine cend_same (by with_reducible assumption) (by with_reducible assumption) ?ceo ?ceS ?_; (case ceo => first | (with_reducible assumption) | (simp only [LCg.Off3, and_true]; with_reducible assumption)); (case ceS => (refine' Or.inr ⟨_, ?ca, ?cb, _, ?cc⟩; (case ca => k_mem); (case cb => rfl); (case cc => rfl))))))
  k_with "CompSrc" => (k_here; k_dflt (refine LCg.CompSrc.range (by rfl) (by k_asm) (by k_asm) (by assumption) (by first | decide | rfl) (by first | rfl | decide) (by first | size_fits | exact Nat.le_of_ble_eq_true rfl) ?_; intro g'; lcg_lit))
  k_with "ite" => (with_reducible refine ite_self ?_)
  k_with "exec For Name Call cons nil" => (k_here; (rename Fr _ _ _ _ => lF'); (with_unfolding_all refine' For_turns lF' ?_ ?k4 ?kE; (case k4 => (intro _; rfl)); (case kE => first | assumption | passes_own | with_unfolding_all passes_own); k_whole))
  k_with "exec For Name Name cons nil" => (k_here; (rename Fr _ _ _ _ => lF'); (with_unfolding_all refine' For_turns lF' ?_ ?k4 ?kE; (case k4 => (intro _; rfl)); (case kE => first | assumption | passes_own | with_unfolding_all passes_own); k_whole))
  k_with "pyIter ref" => ((with_reducible show wpAny _ _ (pyIter (Value.ref _)) (fun it s₂ => TurnsAt _ _ _ _ _ _ _ _ _ it s₂) _ _); (rename Fr _ _ _ _ => lF'); (rename News _ _ _ _ => lN'); (first | (with_unfolding_all refine iter_rangeF (n := 3) (by rfl) (by assumption) (by first | decide | rfl) (by first | decide | rfl) lF' lN' ?_) | (with_unfolding_all refine iter_rangeF (n := 4) (by rfl) (by assumption) (by first | decide | rfl) (by first | decide | rfl) lF' lN' ?_) | (with_unfolding_all refine' iter_listTurns (vs := [.ref _, .ref _, .ref _]) ?ih lF' lN' ?im ?ic ?id ?_; (case im => exact List.mem_cons_self); (case ih => rfl); (case ic => rfl); (case id => rfl)) | (with_unfolding_all refine' iter_listTurns (vs := [.int _ _, .int _ _, .int _ _]) ?ih lF' lN' ?im ?ic ?id ?_; (case im => k_mem); (case ih => rfl); (case ic => rfl); (case id => rfl))); clear lF' lN'; intro I7 l7; have off7 := lt_ne l7; have i7 : @Ne Nat I7 c7 := (off7 _ List.mem_cons_self).symm; have i6 : @Ne Nat I7 c6 := (off7 _ (List.mem_cons_of_mem _ List.mem_cons_self)).symm; have i5 : @Ne Nat I7 c5 := (off7 _ (List.mem_cons_of_mem _ (List.mem_cons_of_mem _ List.mem_cons_self))).symm; have offn : ∀ p ∈ news, p.1 ≠ I7 := fun p hp => off7 p (List.mem_cons_of_mem _ (List.mem_cons_of_mem _ (List.mem_cons_of_mem _ hp))); clear off7)
  k_with "RestF" => (k_dflt (first | (refine RestF.succ ?_; intro t7 h7 tk7 F7 N7; (try dsimp only)) | (refine RestF.zero ?_; intro h7 tk7 F7 N7; (try dsimp only))))
  k_with "UnrEnd" => ((rename Fr _ _ _ _ => lF'); (rename News _ _ _ _ => lN'); k_dflt (refine unr_endX lF' lN' i7.symm i6.symm i5.symm offn ?_))
  k_with "execs cons Assign cons" => ((rename Fr _ _ _ _ => lF'); (rename News _ _ _ _ => lN'); first
    | ((with_reducible show wpAny _ _ (execs (Stmt.Assign [Expr.Name (Str.ofString "start") _] _ _ :: _) _) _ _ _); k_dflt (refine' first_ok rfl rfl B lF' X T rfl (swap_5 lN') (List.mem_cons_of_mem _ (List.mem_cons_of_mem _ m1)) (List.mem_cons_of_mem _ (List.mem_cons_of_mem _ m2)) (List.mem_cons_of_mem _ (List.mem_cons_of_mem _ m3)) (List.mem_cons_of_mem _ (List.mem_cons_of_mem _ m4)) (List.mem_cons_of_mem _ List.mem_cons_self) (List.mem_cons_of_mem _ (List.mem_cons_of_mem _ mU)) (List.mem_cons_of_mem _ (List.mem_cons_of_mem _ mW)) (List.mem_cons_of_mem _ (List.mem_cons_of_mem _ mr0)) (List.mem_cons_of_mem _ (List.mem_cons_of_mem _ mr1)) (List.mem_cons_of_mem _ (List.mem_cons_of_mem _ mr2)) d1 d2 d3 d4 ?nd5 ?nd6 ?nd7 hn0 hn1 hn2 hn3 hn4 q5 hg0 hg1 hg2 hs0 hs1 hs2 hw9 bb0 bb1 bb2 bn0 bn1 bn2 bn3 bn4 bn5 bU0 bU1 bU2 st8 htt ?nf h76 (List.forall_mem_cons.mpr ⟨i6, List.forall_mem_cons.mpr ⟨h65.symm, hn6⟩⟩) (List.forall_mem_cons.mpr ⟨i7, List.forall_mem_cons.mpr ⟨h75.symm, hn7⟩⟩) hd hu hE ?_; (case nd5 => assumption); (case nd6 => assumption); (case nd7 => assumption); (case nf => first | exact .inl rfl | exact .inr (.inl rfl) | exact .inr (.inr rfl))); intro m5 o65 o75 h5 tk5 v65 v75 d65 d75 F5 mt5 N5; clear lF' lN'; have F6 := canon1 F5 mt5; clear F5; (try dsimp only))
    | ((with_reducible show wpAny _ _ (execs (Stmt.Assign [Expr.Name (Str.ofString "turned") _] _ _ :: _) _) _ _ _); refine' v10 rfl rfl B lF' X T (kti_tail (kti_tail (kti_tail lN'))) m1 mW mr0 mr1 mr2 m44 m51 rfl mT d1 hn0 hn1 hn2 hn3 hn4 q5 hg0 hg1 hg2 hs0 hs1 hs2 hw9 eT0 eT1 eT2 hd hu hE hret))
  k_with "execs cons For cons" => ((rename Fr _ _ _ _ => lF'); (rename News _ _ _ _ => lN'); first
    | ((with_reducible show wpAny _ _ (execs (Stmt.Assign [Expr.Name (Str.ofString "start") _] _ _ :: _) _) _ _ _); k_dflt (refine' first_ok rfl rfl B lF' X T rfl (swap_5 lN') (List.mem_cons_of_mem _ (List.mem_cons_of_mem _ m1)) (List.mem_cons_of_mem _ (List.mem_cons_of_mem _ m2)) (List.mem_cons_of_mem _ (List.mem_cons_of_mem _ m3)) (List.mem_cons_of_mem _ (List.mem_cons_of_mem _ m4)) (List.mem_cons_of_mem _ List.mem_cons_self) (List.mem_cons_of_mem _ (List.mem_cons_of_mem _ mU)) (List.mem_cons_of_mem _ (List.mem_cons_of_mem _ mW)) (List.mem_cons_of_mem _ (List.mem_cons_of_mem _ mr0)) (List.mem_cons_of_mem _ (List.mem_cons_of_mem _ mr1)) (List.mem_cons_of_mem _ (List.mem_cons_of_mem _ mr2)) d1 d2 d3 d4 ?nd5 ?nd6 ?nd7 hn0 hn1 hn2 hn3 hn4 q5 hg0 hg1 hg2 hs0 hs1 hs2 hw9 bb0 bb1 bb2 bn0 bn1 bn2 bn3 bn4 bn5 bU0 bU1 bU2 st8 htt ?nf h76 (List.forall_mem_cons.mpr ⟨i6, List.forall_mem_cons.mpr ⟨h65.symm, hn6⟩⟩) (List.forall_mem_cons.mpr ⟨i7, List.forall_mem_cons.mpr ⟨h75.symm, hn7⟩⟩) hd hu hE ?_; (case nd5 => assumption); (case nd6 => assumption); (case nd7 => assumption); (case nf => first | exact .inl rfl | exact .inr (.inl rfl) | exact .inr (.inr rfl))); intro m5 o65 o75 h5 tk5 v65 v75 d65 d75 F5 mt5 N5; clear lF' lN'; have F6 := canon1 F5 mt5; clear F5; (try dsimp only))
    | ((with_reducible show wpAny _ _ (execs (Stmt.Assign [Expr.Name (Str.ofString "turned") _] _ _ :: _) _) _ _ _); refine' v10 rfl rfl B lF' X T (kti_tail (kti_tail (kti_tail lN'))) m1 mW mr0 mr1 mr2 m44 m51 rfl mT d1 hn0 hn1 hn2 hn3 hn4 q5 hg0 hg1 hg2 hs0 hs1 hs2 hw9 eT0 eT1 eT2 hd hu hE hret))
  k_steps
  all_goals k_data
end
end Mine
namespace Mine
theorem sum3 (a b c : Int) : a + (b + (c + 0)) = a + b + c := by omega
section
variable {w : World} {p : Program} {loose : List Str} {mean : ExcName → Option Value} {mg mb : Str → Option Value} {dp un : Nat} {gd : Option (List Code)} {a : Addr} {ccd : Value} {outer : List Env} {A₀ : Around} {base h₀ : Heap} {L : Addr} {m : Str → Option Value} {news : List (Addr × Obj)} {s : Shared} {Q : Flow → Shared → Prop} {E : Value → Shared → Prop}
set_option maxRecDepth 100000 in
set_option maxHeartbeats 8000000 in
theorem v8 {sc : Scope} {body : List Stmt} {aT : Addr} {c7 c6 c5 c4 c3 c2 c1 aU aW R0 R1 R2 : Addr} {o1 o2 o3 o6 o7 : Obj} {u0 u1 u2 r00 r01 r02 r10 r11 r12 r20 r21 r22 tw : Tok} {n0 n1 n2 n3 n4 n5 g0 g1 g2 ww U0 U1 U2 : Int} {kW k0 k1 k2 : Nat} {o4 o5 : Obj} {T0 T1 T2 gg : Int} {t0 t1 t2 : Tok} {ps1 ps2 : Array Value} {v4 v5 v6 v7 : Option Value}
    (hsc : sc = lawScope) (hbody : body = lawRest 8)
    (B : Below A₀ base outer h₀) (F : Fr h₀ L s.heap m) (X : (hd.heap_39 w.params).In h₀) (T : Top p loose mean mg mb h₀)
    (mt : m (Str.ofString "trees") = some (.ref aT))
    (N : News h₀ L s.heap ((c7, o7) :: (c6, o6) :: (c5, o5) :: (c4, o4) :: (aU, LCg.lst [.int U0 u0, .int U1 u1, .int U2 u2]) :: news))
    (m1 : (c1, o1) ∈ news) (m2 : (c2, o2) ∈ news) (m3 : (c3, o3) ∈ news) (mW : (aW, W.listOf #[.ref R0, .ref R1, .ref R2] kW) ∈ news) (mr0 : (R0, W.listOf #[.int g0 r00, .int n0 r01, .int n1 r02] k0) ∈ news) (mr1 : (R1, W.listOf #[.int n2 r10, .int g1 r11, .int n3 r12] k1) ∈ news) (mr2 : (R2, W.listOf #[.int n4 r20, .int n5 r21, .int g2 r22] k2) ∈ news) (m44 : (44, tabObj ps1) ∈ news) (m51 : (51, tabObj ps2) ∈ news) (mT : (aT, LCg.lst [.int T0 t0, .int T1 t1, .int T2 t2]) ∈ news)
    (d1 : o1.data = .cell (some (.ref aW))) (d2 : o2.data = .cell (some (.int ww tw))) (d3 : o3.data = .cell (some (.ref aU))) (d4 : o4.data = .cell v4) (d5 : o5.data = .cell v5) (d6 : o6.data = .cell v6) (d7 : o7.data = .cell v7)
    (hn0 : 1 ≤ n0 ∧ n0 ≤ 4) (hn1 : 1 ≤ n1 ∧ n1 ≤ 4) (hn2 : 1 ≤ n2 ∧ n2 ≤ 4) (hn3 : 1 ≤ n3 ∧ n3 ≤ 4) (hn4 : 1 ≤ n4 ∧ n4 ≤ 4) (q5 : 1 ≤ n5 ∧ n5 ≤ 4) (hg0 : 1 ≤ g0) (hg1 : 1 ≤ g1) (hg2 : 1 ≤ g2) (hs0 : g0 + n0 + n1 = ww) (hs1 : n2 + g1 + n3 = ww) (hs2 : n4 + n5 + g2 = ww) (hw9 : ww ≤ 9)
    (eT0 : T0 = n2 * n4 + n3 * n4 + n2 * n5) (eT1 : T1 = n0 * n5 + n1 * n5 + n0 * n4) (eT2 : T2 = n1 * n3 + n0 * n3 + n1 * n2)
    (eU0 : T0 = gg * U0) (eU1 : T1 = gg * U1) (eU2 : T2 = gg * U2) (hgg : 1 ≤ gg ∧ gg ≤ 1000)
    (h76 : @Ne Nat c7 c6) (h75 : @Ne Nat c7 c5) (h74 : @Ne Nat c7 c4) (h65 : @Ne Nat c6 c5) (h64 : @Ne Nat c6 c4) (h54 : @Ne Nat c5 c4) (hU4 : @Ne Nat aU c4) (hU5 : @Ne Nat aU c5) (hU6 : @Ne Nat aU c6) (hU7 : @Ne Nat aU c7) (hn4' : ∀ p ∈ news, p.1 ≠ c4) (hn5 : ∀ p ∈ news, p.1 ≠ c5) (hn6 : ∀ p ∈ news, p.1 ≠ c6) (hn7 : ∀ p ∈ news, p.1 ≠ c7)
    (hd : dp + 300 < recursionLimit) (hu : un + 3000 < cLine)
    (hE : PassesOwn (model PySem.Challenge.rw_hg0003_01.row.prog w) (ktrTop dp un gd (Str.ofString "law") sc L a ccd (lawCl c1 c2 c3 c4 c5 c6 c7) outer) (envX (Str.ofString "law") sc L a ccd (lawCl c1 c2 c3 c4 c5 c6 c7)) E)
    (hret : ∀ m' news' qs1 qs2 h' tk', Fr h₀ L h' m' → News h₀ L h' news' → (44, tabObj qs1) ∈ news' → (51, tabObj qs2) ∈ news' → Q (.ret (.bool true)) { s with heap := h', toks := tk' }) :
    wpAny (model PySem.Challenge.rw_hg0003_01.row.prog w) (ktrTop dp un gd (Str.ofString "law") sc L a ccd (lawCl c1 c2 c3 c4 c5 c6 c7) outer) (execs body (envX (Str.ofString "law") sc L a ccd (lawCl c1 c2 c3 c4 c5 c6 c7))) Q E s := by
  conv at hsc => rhs; whnf
  conv at hbody => rhs; whnf
  subst hsc hbody
  revert X; k_fill; intro X
  w_top off
  k_with_none
  k_with "execs nil" => ((with_reducible refine gen_toks ?_); intro tk9; refine wpAny_execs_nil ?_; dsimp only)
  have F1 := canon1 F mt
  clear F
  k_with "subscriptTail Name Constant ref int" => ((with_reducible show wpAny _ _ (subscriptTail _ _ (Value.ref _) (Value.int _ _)) _ _ _); k_dflt ((refine kba_turn (value' := PySem.Expr.Name (PySem.Str.ofString "_") ⟨0, 0, 0, 0⟩) (fun _ => rfl) ?_); first | (refine' kim_tup ?itN ?itm ?itc ?itd ?itlo ?ithi ?itj ?itx ?_ ?its; (case itN => k_asm); (case itm => k_mem); (case itc => exact rfl); (case itd => exact rfl); (case itlo => decide); (case ithi => decide); (case itj => exact rfl); (case itx => exact rfl); (case its => with_unfolding_all rfl)) | (refine' kim_list ?itN ?itm ?itc ?itd ?itlo ?ithi ?itx ?_ ?its; (case itN => k_asm); (case itm => k_mem); (case itc => exact rfl); (case itd => exact rfl); (case itlo => decide); (case ithi => decide); (case itx => exact rfl); (case its => with_unfolding_all rfl))))
  k_with "subscriptTail" => ((with_reducible show wpAny _ _ (subscriptTail _ _ (Value.ref _) (Value.int _ _)) _ _ _); k_dflt ((refine kba_turn (value' := PySem.Expr.Name (PySem.Str.ofString "_") ⟨0, 0, 0, 0⟩) (fun _ => rfl) ?_); first | (refine' kim_tup ?itN ?itm ?itc ?itd ?itlo ?ithi ?itj ?itx ?_ ?its; (case itN => k_asm); (case itm => k_mem); (case itc => exact rfl); (case itd => exact rfl); (case itlo => decide); (case ithi => decide); (case itj => exact rfl); (case itx => exact rfl); (case its => with_unfolding_all rfl)) | (refine' kim_list ?itN ?itm ?itc ?itd ?itlo ?ithi ?itx ?_ ?its; (case itN => k_asm); (case itm => k_mem); (case itc => exact rfl); (case itd => exact rfl); (case itlo => decide); (case ithi => decide); (case itx => exact rfl); (case its => with_unfolding_all rfl))))
  k_with "subscriptTail Name Name ref int" => ((with_reducible show wpAny _ _ (subscriptTail _ _ (Value.ref _) (Value.int _ _)) _ _ _); k_dflt ((refine kba_turn (value' := PySem.Expr.Name (PySem.Str.ofString "_") ⟨0, 0, 0, 0⟩) (fun _ => rfl) ?_); first | (refine' kim_tup ?itN ?itm ?itc ?itd ?itlo ?ithi ?itj ?itx ?_ ?its; (case itN => k_asm); (case itm => k_mem); (case itc => exact rfl); (case itd => exact rfl); (case itlo => decide); (case ithi => decide); (case itj => exact rfl); (case itx => exact rfl); (case its => with_unfolding_all rfl)) | (refine' kim_list ?itN ?itm ?itc ?itd ?itlo ?ithi ?itx ?_ ?its; (case itN => k_asm); (case itm => k_mem); (case itc => exact rfl); (case itd => exact rfl); (case itlo => decide); (case ithi => decide); (case itx => exact rfl); (case its => with_unfolding_all rfl))))
  k_with "subscriptTail Name BinOp ref int" => ((with_reducible show wpAny _ _ (subscriptTail _ _ (Value.ref _) (Value.int _ _)) _ _ _); k_dflt ((refine kba_turn (value' := PySem.Expr.Name (PySem.Str.ofString "_") ⟨0, 0, 0, 0⟩) (fun _ => rfl) ?_); first | (refine' kim_tup ?itN ?itm ?itc ?itd ?itlo ?ithi ?itj ?itx ?_ ?its; (case itN => k_asm); (case itm => k_mem); (case itc => exact rfl); (case itd => exact rfl); (case itlo => decide); (case ithi => decide); (case itj => exact rfl); (case itx => exact rfl); (case its => with_unfolding_all rfl)) | (refine' kim_list ?itN ?itm ?itc ?itd ?itlo ?ithi ?itx ?_ ?its; (case itN => k_asm); (case itm => k_mem); (case itc => exact rfl); (case itd => exact rfl); (case itlo => decide); (case ithi => decide); (case itx => exact rfl); (case its => with_unfolding_all rfl))))
  k_with "subscriptTail Subscript Name Name Constant ref int" => ((with_reducible show wpAny _ _ (subscriptTail _ _ (Value.ref _) (Value.int _ _)) _ _ _); k_dflt ((refine kba_turn (value' := PySem.Expr.Name (PySem.Str.ofString "_") ⟨0, 0, 0, 0⟩) (fun _ => rfl) ?_); first | (refine' kim_tup ?itN ?itm ?itc ?itd ?itlo ?ithi ?itj ?itx ?_ ?its; (case itN => k_asm); (case itm => k_mem); (case itc => exact rfl); (case itd => exact rfl); (case itlo => decide); (case ithi => decide); (case itj => exact rfl); (case itx => exact rfl); (case its => with_unfolding_all rfl)) | (refine' kim_list ?itN ?itm ?itc ?itd ?itlo ?ithi ?itx ?_ ?its; (case itN => k_asm); (case itm => k_mem); (case itc => exact rfl); (case itd => exact rfl); (case itlo => decide); (case ithi => decide); (case itx => exact rfl); (case its => with_unfolding_all rfl))))
  k_with "subscriptTail Subscript Name Constant Constant ref int" => ((with_reducible show wpAny _ _ (subscriptTail _ _ (Value.ref _) (Value.int _ _)) _ _ _); k_dflt ((refine kba_turn (value' := PySem.Expr.Name (PySem.Str.ofString "_") ⟨0, 0, 0, 0⟩) (fun _ => rfl) ?_); first | (refine' kim_tup ?itN ?itm ?itc ?itd ?itlo ?ithi ?itj ?itx ?_ ?its; (case itN => k_asm); (case itm => k_mem); (case itc => exact rfl); (case itd => exact rfl); (case itlo => decide); (case ithi => decide); (case itj => exact rfl); (case itx => exact rfl); (case its => with_unfolding_all rfl)) | (refine' kim_list ?itN ?itm ?itc ?itd ?itlo ?ithi ?itx ?_ ?its; (case itN => k_asm); (case itm => k_mem); (case itc => exact rfl); (case itd => exact rfl); (case itlo => decide); (case ithi => decide); (case itx => exact rfl); (case its => with_unfolding_all rfl))))
  k_with "subscriptTail Subscript Name Name Name ref int" => ((with_reducible show wpAny _ _ (subscriptTail _ _ (Value.ref _) (Value.int _ _)) _ _ _); k_dflt ((refine kba_turn (value' := PySem.Expr.Name (PySem.Str.ofString "_") ⟨0, 0, 0, 0⟩) (fun _ => rfl) ?_); first | (refine' kim_tup ?itN ?itm ?itc ?itd ?itlo ?ithi ?itj ?itx ?_ ?its; (case itN => k_asm); (case itm => k_mem); (case itc => exact rfl); (case itd => exact rfl); (case itlo => decide); (case ithi => decide); (case itj => exact rfl); (case itx => exact rfl); (case its => with_unfolding_all rfl)) | (refine' kim_list ?itN ?itm ?itc ?itd ?itlo ?ithi ?itx ?_ ?its; (case itN => k_asm); (case itm => k_mem); (case itc => exact rfl); (case itd => exact rfl); (case itlo => decide); (case ithi => decide); (case itx => exact rfl); (case its => with_unfolding_all rfl))))
  k_with "subscriptTail Subscript Name Name BinOp ref int" => ((with_reducible show wpAny _ _ (subscriptTail _ _ (Value.ref _) (Value.int _ _)) _ _ _); k_dflt ((refine kba_turn (value' := PySem.Expr.Name (PySem.Str.ofString "_") ⟨0, 0, 0, 0⟩) (fun _ => rfl) ?_); first | (refine' kim_tup ?itN ?itm ?itc ?itd ?itlo ?ithi ?itj ?itx ?_ ?its; (case itN => k_asm); (case itm => k_mem); (case itc => exact rfl); (case itd => exact rfl); (case itlo => decide); (case ithi => decide); (case itj => exact rfl); (case itx => exact rfl); (case its => with_unfolding_all rfl)) | (refine' kim_list ?itN ?itm ?itc ?itd ?itlo ?ithi ?itx ?_ ?its; (case itN => k_asm); (case itm => k_mem); (case itc => exact rfl); (case itd => exact rfl); (case itlo => decide); (case ithi => decide); (case itx => exact rfl); (case its => with_unfolding_all rfl))))
  k_with "subscriptTail Subscript Name Constant Name ref int" => ((with_reducible show wpAny _ _ (subscriptTail _ _ (Value.ref _) (Value.int _ _)) _ _ _); k_dflt ((refine kba_turn (value' := PySem.Expr.Name (PySem.Str.ofString "_") ⟨0, 0, 0, 0⟩) (fun _ => rfl) ?_); first | (refine' kim_tup ?itN ?itm ?itc ?itd ?itlo ?ithi ?itj ?itx ?_ ?its; (case itN => k_asm); (case itm => k_mem); (case itc => exact rfl); (case itd => exact rfl); (case itlo => decide); (case ithi => decide); (case itj => exact rfl); (case itx => exact rfl); (case its => with_unfolding_all rfl)) | (refine' kim_list ?itN ?itm ?itc ?itd ?itlo ?ithi ?itx ?_ ?its; (case itN => k_asm); (case itm => k_mem); (case itc => exact rfl); (case itd => exact rfl); (case itlo => decide); (case ithi => decide); (case itx => exact rfl); (case its => with_unfolding_all rfl))))
  k_with "callWith ref nil nil" => (k_here; k_dflt (first | (refine' callWith_K ?kq1 ?kq2 ?_; (case kq1 => k_asm); (case kq2 => k_is); k_whole) | (refine' callWith_K0 ?kq1 ?kq2 ?_; (case kq1 => k_in); (case kq2 => k_is); k_whole)))
  k_with "execs cons Assign cons" => ((with_reducible show wpAny _ _ (execs (Stmt.For _ _ _ _ _ :: _) _) _ _ _); (rename Fr _ _ _ _ => lF'); (rename News _ _ _ _ => lN'); refine' v9 rfl rfl B lF' X T rfl lN' (List.mem_cons_of_mem _ (List.mem_cons_of_mem _ m1)) (List.mem_cons_of_mem _ (List.mem_cons_of_mem _ m2)) (List.mem_cons_of_mem _ (List.mem_cons_of_mem _ m3)) List.mem_cons_self (List.mem_cons_of_mem _ List.mem_cons_self) (List.mem_cons_of_mem _ (List.mem_cons_of_mem _ mW)) (List.mem_cons_of_mem _ (List.mem_cons_of_mem _ mr0)) (List.mem_cons_of_mem _ (List.mem_cons_of_mem _ mr1)) (List.mem_cons_of_mem _ (List.mem_cons_of_mem _ mr2)) (List.mem_cons_of_mem _ (List.mem_cons_of_mem _ m44)) (List.mem_cons_of_mem _ (List.mem_cons_of_mem _ m51)) (List.mem_cons_of_mem _ (List.mem_cons_of_mem _ mT)) d1 d2 d3 ?nd4 d5 d6 d7 hn0 hn1 hn2 hn3 hn4 q5 hg0 hg1 hg2 hs0 hs1 hs2 hw9 eT0 eT1 eT2 eU0 eU1 eU2 hgg ?ntt h76 h75 h65 (List.forall_mem_cons.mpr ⟨h54.symm, List.forall_mem_cons.mpr ⟨hU5, hn5⟩⟩) (List.forall_mem_cons.mpr ⟨h64.symm, List.forall_mem_cons.mpr ⟨hU6, hn6⟩⟩) (List.forall_mem_cons.mpr ⟨h74.symm, List.forall_mem_cons.mpr ⟨hU7, hn7⟩⟩) hd hu hE hret; (case nd4 => assumption); (case ntt => exact sum3 _ _ _))
  k_with "execs cons For cons" => ((with_reducible show wpAny _ _ (execs (Stmt.For _ _ _ _ _ :: _) _) _ _ _); (rename Fr _ _ _ _ => lF'); (rename News _ _ _ _ => lN'); refine' v9 rfl rfl B lF' X T rfl lN' (List.mem_cons_of_mem _ (List.mem_cons_of_mem _ m1)) (List.mem_cons_of_mem _ (List.mem_cons_of_mem _ m2)) (List.mem_cons_of_mem _ (List.mem_cons_of_mem _ m3)) List.mem_cons_self (List.mem_cons_of_mem _ List.mem_cons_self) (List.mem_cons_of_mem _ (List.mem_cons_of_mem _ mW)) (List.mem_cons_of_mem _ (List.mem_cons_of_mem _ mr0)) (List.mem_cons_of_mem _ (List.mem_cons_of_mem _ mr1)) (List.mem_cons_of_mem _ (List.mem_cons_of_mem _ mr2)) (List.mem_cons_of_mem _ (List.mem_cons_of_mem _ m44)) (List.mem_cons_of_mem _ (List.mem_cons_of_mem _ m51)) (List.mem_cons_of_mem _ (List.mem_cons_of_mem _ mT)) d1 d2 d3 ?nd4 d5 d6 d7 hn0 hn1 hn2 hn3 hn4 q5 hg0 hg1 hg2 hs0 hs1 hs2 hw9 eT0 eT1 eT2 eU0 eU1 eU2 hgg ?ntt h76 h75 h65 (List.forall_mem_cons.mpr ⟨h54.symm, List.forall_mem_cons.mpr ⟨hU5, hn5⟩⟩) (List.forall_mem_cons.mpr ⟨h64.symm, List.forall_mem_cons.mpr ⟨hU6, hn6⟩⟩) (List.forall_mem_cons.mpr ⟨h74.symm, List.forall_mem_cons.mpr ⟨hU7, hn7⟩⟩) hd hu hE hret; (case nd4 => assumption); (case ntt => exact sum3 _ _ _))
  k_steps
  all_goals k_data
end
end Mine
namespace Mine
theorem cells_ne {c7 c6 c5 c4 c3 c2 c1 : Addr} (h : @LT.lt Nat _ 44 c1 ∧ @LT.lt Nat _ 51 c1 ∧ @LT.lt Nat _ c1 c2 ∧ @LT.lt Nat _ c2 c3 ∧ @LT.lt Nat _ c3 c4 ∧ @LT.lt Nat _ c4 c5 ∧ @LT.lt Nat _ c5 c6 ∧ @LT.lt Nat _ c6 c7) : @Ne Nat c7 c6 ∧ @Ne Nat c7 c5 ∧ @Ne Nat c7 c4 ∧ @Ne Nat c7 c3 ∧ @Ne Nat c6 c5 ∧ @Ne Nat c6 c4 ∧ @Ne Nat c6 c3 ∧ @Ne Nat c5 c4 ∧ @Ne Nat c5 c3 ∧ @Ne Nat c4 c3 ∧ @Ne Nat 44 c3 ∧ @Ne Nat 44 c4 ∧ @Ne Nat 44 c5 ∧ @Ne Nat 44 c6 ∧ @Ne Nat 44 c7 ∧ @Ne Nat 51 c3 ∧ @Ne Nat 51 c4 ∧ @Ne Nat 51 c5 ∧ @Ne Nat 51 c6 ∧ @Ne Nat 51 c7 :=
  ⟨Nat.ne_of_gt h.2.2.2.2.2.2.2, Nat.ne_of_gt (Nat.lt_trans h.2.2.2.2.2.2.1 h.2.2.2.2.2.2.2), Nat.ne_of_gt (Nat.lt_trans h.2.2.2.2.2.1 (Nat.lt_trans h.2.2.2.2.2.2.1 h.2.2.2.2.2.2.2)), Nat.ne_of_gt (Nat.lt_trans h.2.2.2.2.1 (Nat.lt_trans h.2.2.2.2.2.1 (Nat.lt_trans h.2.2.2.2.2.2.1 h.2.2.2.2.2.2.2))), Nat.ne_of_gt h.2.2.2.2.2.2.1, Nat.ne_of_gt (Nat.lt_trans h.2.2.2.2.2.1 h.2.2.2.2.2.2.1), Nat.ne_of_gt (Nat.lt_trans h.2.2.2.2.1 (Nat.lt_trans h.2.2.2.2.2.1 h.2.2.2.2.2.2.1)), Nat.ne_of_gt h.2.2.2.2.2.1, Nat.ne_of_gt (Nat.lt_trans h.2.2.2.2.1 h.2.2.2.2.2.1), Nat.ne_of_gt h.2.2.2.2.1, Nat.ne_of_lt (Nat.lt_trans h.1 (Nat.lt_trans h.2.2.1 h.2.2.2.1)), Nat.ne_of_lt (Nat.lt_trans h.1 (Nat.lt_trans h.2.2.1 (Nat.lt_trans h.2.2.2.1 h.2.2.2.2.1))), Nat.ne_of_lt (Nat.lt_trans h.1 (Nat.lt_trans h.2.2.1 (Nat.lt_trans h.2.2.2.1 (Nat.lt_trans h.2.2.2.2.1 h.2.2.2.2.2.1)))), Nat.ne_of_lt (Nat.lt_trans h.1 (Nat.lt_trans h.2.2.1 (Nat.lt_trans h.2.2.2.1 (Nat.lt_trans h.2.2.2.2.1 (Nat.lt_trans h.2.2.2.2.2.1 h.2.2.2.2.2.2.1))))), Nat.ne_of_lt (Nat.lt_trans h.1 (Nat.lt_trans h.2.2.1 (Nat.lt_trans h.2.2.2.1 (Nat.lt_trans h.2.2.2.2.1 (Nat.lt_trans h.2.2.2.2.2.1 (Nat.lt_trans h.2.2.2.2.2.2.1 h.2.2.2.2.2.2.2)))))), Nat.ne_of_lt (Nat.lt_trans h.2.1 (Nat.lt_trans h.2.2.1 h.2.2.2.1)), Nat.ne_of_lt (Nat.lt_trans h.2.1 (Nat.lt_trans h.2.2.1 (Nat.lt_trans h.2.2.2.1 h.2.2.2.2.1))), Nat.ne_of_lt (Nat.lt_trans h.2.1 (Nat.lt_trans h.2.2.1 (Nat.lt_trans h.2.2.2.1 (Nat.lt_trans h.2.2.2.2.1 h.2.2.2.2.2.1)))), Nat.ne_of_lt (Nat.lt_trans h.2.1 (Nat.lt_trans h.2.2.1 (Nat.lt_trans h.2.2.2.1 (Nat.lt_trans h.2.2.2.2.1 (Nat.lt_trans h.2.2.2.2.2.1 h.2.2.2.2.2.2.1))))), Nat.ne_of_lt (Nat.lt_trans h.2.1 (Nat.lt_trans h.2.2.1 (Nat.lt_trans h.2.2.2.1 (Nat.lt_trans h.2.2.2.2.1 (Nat.lt_trans h.2.2.2.2.2.1 (Nat.lt_trans h.2.2.2.2.2.2.1 h.2.2.2.2.2.2.2))))))⟩
theorem pick8 {h₀ h : Heap} {L : Addr} {q1 q2 q3 q4 q5 q6 q7 q8 : Addr × Obj} {l : List (Addr × Obj)} (N : News h₀ L h (q1 :: q2 :: q3 :: q4 :: q5 :: q6 :: q7 :: q8 :: l)) : News h₀ L h (q5 :: q6 :: q7 :: q8 :: q1 :: q2 :: q3 :: q4 :: l) := cb_drop N (List.forall_mem_cons.mpr ⟨(List.mem_cons_of_mem _ (List.mem_cons_of_mem _ (List.mem_cons_of_mem _ (List.mem_cons_of_mem _ List.mem_cons_self)))), (List.forall_mem_cons.mpr ⟨(List.mem_cons_of_mem _ (List.mem_cons_of_mem _ (List.mem_cons_of_mem _ (List.mem_cons_of_mem _ (List.mem_cons_of_mem _ List.mem_cons_self))))), (List.forall_mem_cons.mpr ⟨(List.mem_cons_of_mem _ (List.mem_cons_of_mem _ (List.mem_cons_of_mem _ (List.mem_cons_of_mem _ (List.mem_cons_of_mem _ (List.mem_cons_of_mem _ List.mem_cons_self)))))), (List.forall_mem_cons.mpr ⟨(List.mem_cons_of_mem _ (List.mem_cons_of_mem _ (List.mem_cons_of_mem _ (List.mem_cons_of_mem _ (List.mem_cons_of_mem _ (List.mem_cons_of_mem _ (List.mem_cons_of_mem _ List.mem_cons_self))))))), (List.forall_mem_cons.mpr ⟨List.mem_cons_self, (List.forall_mem_cons.mpr ⟨(List.mem_cons_of_mem _ List.mem_cons_self), (List.forall_mem_cons.mpr ⟨(List.mem_cons_of_mem _ (List.mem_cons_of_mem _ List.mem_cons_self)), (List.forall_mem_cons.mpr ⟨(List.mem_cons_of_mem _ (List.mem_cons_of_mem _ (List.mem_cons_of_mem _ List.mem_cons_self))), (fun _ hq => (List.mem_cons_of_mem _ (List.mem_cons_of_mem _ (List.mem_cons_of_mem _ (List.mem_cons_of_mem _ (List.mem_cons_of_mem _ (List.mem_cons_of_mem _ (List.mem_cons_of_mem _ (List.mem_cons_of_mem _ hq)))))))))⟩)⟩)⟩)⟩)⟩)⟩)⟩)⟩)
section
variable {w : World} {p : Program} {loose : List Str} {mean : ExcName → Option Value} {mg mb : Str → Option Value} {dp un : Nat} {gd : Option (List Code)} {a : Addr} {ccd : Value} {outer : List Env} {A₀ : Around} {base h₀ : Heap} {L : Addr} {m : Str → Option Value} {news : List (Addr × Obj)} {s : Shared} {Q : Flow → Shared → Prop} {E : Value → Shared → Prop}
set_option maxRecDepth 100000 in
set_option maxHeartbeats 8000000 in
theorem v6 {sc : Scope} {body : List Stmt} {c7 c6 c5 c4 c3 c2 c1 aW R0 R1 R2 : Addr} {o1 o2 o3 o4 o5 o6 o7 : Obj} {r00 r01 r02 r10 r11 r12 r20 r21 r22 tw : Tok} {n0 n1 n2 n3 n4 n5 g0 g1 g2 ww : Int} {kW k0 k1 k2 : Nat} {ov3 ov4 ov5 ov6 ov7 : Option Value} {aT : Addr} {T0 T1 T2 : Int} {t0 t1 t2 : Tok}
    (hsc : sc = lawScope) (hbody : body = lawRest 6) (HC1 : CodeHd base 48 44) (HC2 : CodeHd base 55 51)
    (B : Below A₀ base outer h₀) (F : Fr h₀ L s.heap m) (X : (hd.heap_39 w.params).In h₀) (T : Top p loose mean mg mb h₀)
    (N : News h₀ L s.heap ((44, tabObj #[]) :: (51, tabObj #[]) :: (c3, o3) :: (c7, o7) :: (c6, o6) :: (c5, o5) :: (c4, o4) :: news))
    (m1 : (c1, o1) ∈ news) (m2 : (c2, o2) ∈ news) (mW : (aW, W.listOf #[.ref R0, .ref R1, .ref R2] kW) ∈ news) (mr0 : (R0, W.listOf #[.int g0 r00, .int n0 r01, .int n1 r02] k0) ∈ news) (mr1 : (R1, W.listOf #[.int n2 r10, .int g1 r11, .int n3 r12] k1) ∈ news) (mr2 : (R2, W.listOf #[.int n4 r20, .int n5 r21, .int g2 r22] k2) ∈ news)
    (d1 : o1.data = .cell (some (.ref aW))) (d2 : o2.data = .cell (some (.int ww tw))) (d3 : o3.data = .cell ov3) (d4 : o4.data = .cell ov4) (d5 : o5.data = .cell ov5) (d6 : o6.data = .cell ov6) (d7 : o7.data = .cell ov7)
    (hn0 : 1 ≤ n0 ∧ n0 ≤ 4) (hn1 : 1 ≤ n1 ∧ n1 ≤ 4) (hn2 : 1 ≤ n2 ∧ n2 ≤ 4) (hn3 : 1 ≤ n3 ∧ n3 ≤ 4) (hn4 : 1 ≤ n4 ∧ n4 ≤ 4) (hn5 : 1 ≤ n5 ∧ n5 ≤ 4) (hg0 : 1 ≤ g0) (hg1 : 1 ≤ g1) (hg2 : 1 ≤ g2) (hs0 : g0 + n0 + n1 = ww) (hs1 : n2 + g1 + n3 = ww) (hs2 : n4 + n5 + g2 = ww) (hw9 : ww ≤ 9)
    (mt : m (Str.ofString "trees") = some (.ref aT)) (mT : (aT, LCg.lst [.int T0 t0, .int T1 t1, .int T2 t2]) ∈ news)
    (eT0 : T0 = n2 * n4 + n3 * n4 + n2 * n5) (eT1 : T1 = n0 * n5 + n1 * n5 + n0 * n4) (eT2 : T2 = n1 * n3 + n0 * n3 + n1 * n2)
    (hch : @LT.lt Nat _ 44 c1 ∧ @LT.lt Nat _ 51 c1 ∧ @LT.lt Nat _ c1 c2 ∧ @LT.lt Nat _ c2 c3 ∧ @LT.lt Nat _ c3 c4 ∧ @LT.lt Nat _ c4 c5 ∧ @LT.lt Nat _ c5 c6 ∧ @LT.lt Nat _ c6 c7) (k3x : ∀ p ∈ news, p.1 ≠ c3) (k4x : ∀ p ∈ news, p.1 ≠ c4) (k5x : ∀ p ∈ news, p.1 ≠ c5) (k6x : ∀ p ∈ news, p.1 ≠ c6) (k7x : ∀ p ∈ news, p.1 ≠ c7) (k44x : ∀ p ∈ news, p.1 ≠ 44) (k51x : ∀ p ∈ news, p.1 ≠ 51)
    (hd : dp + 300 < recursionLimit) (hu : un + 3000 < cLine)
    (hE : PassesOwn (model PySem.Challenge.rw_hg0003_01.row.prog w) (ktrTop dp un gd (Str.ofString "law") sc L a ccd (lawCl c1 c2 c3 c4 c5 c6 c7) outer) (envX (Str.ofString "law") sc L a ccd (lawCl c1 c2 c3 c4 c5 c6 c7)) E)
    (hret : ∀ m' news' qs1 qs2 h' tk', Fr h₀ L h' m' → News h₀ L h' news' → (44, tabObj qs1) ∈ news' → (51, tabObj qs2) ∈ news' → Q (.ret (.bool true)) { s with heap := h', toks := tk' }) :
    wpAny (model PySem.Challenge.rw_hg0003_01.row.prog w) (ktrTop dp un gd (Str.ofString "law") sc L a ccd (lawCl c1 c2 c3 c4 c5 c6 c7) outer) (execs body (envX (Str.ofString "law") sc L a ccd (lawCl c1 c2 c3 c4 c5 c6 c7))) Q E s := by
  conv at hsc => rhs; whnf
  conv at hbody => rhs; whnf
  subst hsc hbody
  revert X; k_fill; intro X
  w_top off
  k_with_none
  k_with "execs nil" => ((with_reducible refine gen_toks ?_); intro tk9; refine wpAny_execs_nil ?_; dsimp only)
  obtain ⟨bb0, bb1, bb2, bn0, bn1, bn2, bn3, bn4, bn5⟩ := bigs hn0 hn1 hn2 hn3 hn4 hn5 hg0 hg1 hg2 hs0 hs1 hs2 hw9
  obtain ⟨y76, y75, y74, y73, y65, y64, y63, y54, y53, y43, y443, y444, y445, y446, y447, y513, y514, y515, y516, y517⟩ := cells_ne hch
  have hT0 := tbound hn2 hn4 hn3 hn4 hn2 hn5 eT0
  have hT1 := tbound hn0 hn5 hn1 hn5 hn0 hn4 eT1
  have hT2 := tbound hn1 hn3 hn0 hn3 hn1 hn2 eT2
  have st9 := stat0 hs0 hs1 hs2 eT0 eT1 eT2
  have F1 := canon1 F mt
  clear F
  k_with "subscriptTail Name Constant ref int" => ((with_reducible show wpAny _ _ (subscriptTail _ _ (Value.ref _) (Value.int _ _)) _ _ _); k_dflt ((refine kba_turn (value' := PySem.Expr.Name (PySem.Str.ofString "_") ⟨0, 0, 0, 0⟩) (fun _ => rfl) ?_); first | (refine' kim_tup ?itN ?itm ?itc ?itd ?itlo ?ithi ?itj ?itx ?_ ?its; (case itN => k_asm); (case itm => k_mem); (case itc => exact rfl); (case itd => exact rfl); (case itlo => decide); (case ithi => decide); (case itj => exact rfl); (case itx => exact rfl); (case its => with_unfolding_all rfl)) | (refine' kim_list ?itN ?itm ?itc ?itd ?itlo ?ithi ?itx ?_ ?its; (case itN => k_asm); (case itm => k_mem); (case itc => exact rfl); (case itd => exact rfl); (case itlo => decide); (case ithi => decide); (case itx => exact rfl); (case its => with_unfolding_all rfl))))
  k_with "subscriptTail" => ((with_reducible show wpAny _ _ (subscriptTail _ _ (Value.ref _) (Value.int _ _)) _ _ _); k_dflt ((refine kba_turn (value' := PySem.Expr.Name (PySem.Str.ofString "_") ⟨0, 0, 0, 0⟩) (fun _ => rfl) ?_); first | (refine' kim_tup ?itN ?itm ?itc ?itd ?itlo ?ithi ?itj ?itx ?_ ?its; (case itN => k_asm); (case itm => k_mem); (case itc => exact rfl); (case itd => exact rfl); (case itlo => decide); (case ithi => decide); (case itj => exact rfl); (case itx => exact rfl); (case its => with_unfolding_all rfl)) | (refine' kim_list ?itN ?itm ?itc ?itd ?itlo ?ithi ?itx ?_ ?its; (case itN => k_asm); (case itm => k_mem); (case itc => exact rfl); (case itd => exact rfl); (case itlo => decide); (case ithi => decide); (case itx => exact rfl); (case its => with_unfolding_all rfl))))
  k_with "subscriptTail Name Name ref int" => ((with_reducible show wpAny _ _ (subscriptTail _ _ (Value.ref _) (Value.int _ _)) _ _ _); k_dflt ((refine kba_turn (value' := PySem.Expr.Name (PySem.Str.ofString "_") ⟨0, 0, 0, 0⟩) (fun _ => rfl) ?_); first | (refine' kim_tup ?itN ?itm ?itc ?itd ?itlo ?ithi ?itj ?itx ?_ ?its; (case itN => k_asm); (case itm => k_mem); (case itc => exact rfl); (case itd => exact rfl); (case itlo => decide); (case ithi => decide); (case itj => exact rfl); (case itx => exact rfl); (case its => with_unfolding_all rfl)) | (refine' kim_list ?itN ?itm ?itc ?itd ?itlo ?ithi ?itx ?_ ?its; (case itN => k_asm); (case itm => k_mem); (case itc => exact rfl); (case itd => exact rfl); (case itlo => decide); (case ithi => decide); (case itx => exact rfl); (case its => with_unfolding_all rfl))))
  k_with "subscriptTail Name BinOp ref int" => ((with_reducible show wpAny _ _ (subscriptTail _ _ (Value.ref _) (Value.int _ _)) _ _ _); k_dflt ((refine kba_turn (value' := PySem.Expr.Name (PySem.Str.ofString "_") ⟨0, 0, 0, 0⟩) (fun _ => rfl) ?_); first | (refine' kim_tup ?itN ?itm ?itc ?itd ?itlo ?ithi ?itj ?itx ?_ ?its; (case itN => k_asm); (case itm => k_mem); (case itc => exact rfl); (case itd => exact rfl); (case itlo => decide); (case ithi => decide); (case itj => exact rfl); (case itx => exact rfl); (case its => with_unfolding_all rfl)) | (refine' kim_list ?itN ?itm ?itc ?itd ?itlo ?ithi ?itx ?_ ?its; (case itN => k_asm); (case itm => k_mem); (case itc => exact rfl); (case itd => exact rfl); (case itlo => decide); (case ithi => decide); (case itx => exact rfl); (case its => with_unfolding_all rfl))))
  k_with "subscriptTail Subscript Name Name Constant ref int" => ((with_reducible show wpAny _ _ (subscriptTail _ _ (Value.ref _) (Value.int _ _)) _ _ _); k_dflt ((refine kba_turn (value' := PySem.Expr.Name (PySem.Str.ofString "_") ⟨0, 0, 0, 0⟩) (fun _ => rfl) ?_); first | (refine' kim_tup ?itN ?itm ?itc ?itd ?itlo ?ithi ?itj ?itx ?_ ?its; (case itN => k_asm); (case itm => k_mem); (case itc => exact rfl); (case itd => exact rfl); (case itlo => decide); (case ithi => decide); (case itj => exact rfl); (case itx => exact rfl); (case its => with_unfolding_all rfl)) | (refine' kim_list ?itN ?itm ?itc ?itd ?itlo ?ithi ?itx ?_ ?its; (case itN => k_asm); (case itm => k_mem); (case itc => exact rfl); (case itd => exact rfl); (case itlo => decide); (case ithi => decide); (case itx => exact rfl); (case its => with_unfolding_all rfl))))
  k_with "subscriptTail Subscript Name Constant Constant ref int" => ((with_reducible show wpAny _ _ (subscriptTail _ _ (Value.ref _) (Value.int _ _)) _ _ _); k_dflt ((refine kba_turn (value' := PySem.Expr.Name (PySem.Str.ofString "_") ⟨0, 0, 0, 0⟩) (fun _ => rfl) ?_); first | (refine' kim_tup ?itN ?itm ?itc ?itd ?itlo ?ithi ?itj ?itx ?_ ?its; (case itN => k_asm); (case itm => k_mem); (case itc => exact rfl); (case itd => exact rfl); (case itlo => decide); (case ithi => decide); (case itj => exact rfl); (case itx => exact rfl); (case its => with_unfolding_all rfl)) | (refine' kim_list ?itN ?itm ?itc ?itd ?itlo ?ithi ?itx ?_ ?its; (case itN => k_asm); (case itm => k_mem); (case itc => exact rfl); (case itd => exact rfl); (case itlo => decide); (case ithi => decide); (case itx => exact rfl); (case its => with_unfolding_all rfl))))
  k_with "subscriptTail Subscript Name Name Name ref int" => ((with_reducible show wpAny _ _ (subscriptTail _ _ (Value.ref _) (Value.int _ _)) _ _ _); k_dflt ((refine kba_turn (value' := PySem.Expr.Name (PySem.Str.ofString "_") ⟨0, 0, 0, 0⟩) (fun _ => rfl) ?_); first | (refine' kim_tup ?itN ?itm ?itc ?itd ?itlo ?ithi ?itj ?itx ?_ ?its; (case itN => k_asm); (case itm => k_mem); (case itc => exact rfl); (case itd => exact rfl); (case itlo => decide); (case ithi => decide); (case itj => exact rfl); (case itx => exact rfl); (case its => with_unfolding_all rfl)) | (refine' kim_list ?itN ?itm ?itc ?itd ?itlo ?ithi ?itx ?_ ?its; (case itN => k_asm); (case itm => k_mem); (case itc => exact rfl); (case itd => exact rfl); (case itlo => decide); (case ithi => decide); (case itx => exact rfl); (case its => with_unfolding_all rfl))))
  k_with "subscriptTail Subscript Name Name BinOp ref int" => ((with_reducible show wpAny _ _ (subscriptTail _ _ (Value.ref _) (Value.int _ _)) _ _ _); k_dflt ((refine kba_turn (value' := PySem.Expr.Name (PySem.Str.ofString "_") ⟨0, 0, 0, 0⟩) (fun _ => rfl) ?_); first | (refine' kim_tup ?itN ?itm ?itc ?itd ?itlo ?ithi ?itj ?itx ?_ ?its; (case itN => k_asm); (case itm => k_mem); (case itc => exact rfl); (case itd => exact rfl); (case itlo => decide); (case ithi => decide); (case itj => exact rfl); (case itx => exact rfl); (case its => with_unfolding_all rfl)) | (refine' kim_list ?itN ?itm ?itc ?itd ?itlo ?ithi ?itx ?_ ?its; (case itN => k_asm); (case itm => k_mem); (case itc => exact rfl); (case itd => exact rfl); (case itlo => decide); (case ithi => decide); (case itx => exact rfl); (case its => with_unfolding_all rfl))))
  k_with "subscriptTail Subscript Name Constant Name ref int" => ((with_reducible show wpAny _ _ (subscriptTail _ _ (Value.ref _) (Value.int _ _)) _ _ _); k_dflt ((refine kba_turn (value' := PySem.Expr.Name (PySem.Str.ofString "_") ⟨0, 0, 0, 0⟩) (fun _ => rfl) ?_); first | (refine' kim_tup ?itN ?itm ?itc ?itd ?itlo ?ithi ?itj ?itx ?_ ?its; (case itN => k_asm); (case itm => k_mem); (case itc => exact rfl); (case itd => exact rfl); (case itlo => decide); (case ithi => decide); (case itj => exact rfl); (case itx => exact rfl); (case its => with_unfolding_all rfl)) | (refine' kim_list ?itN ?itm ?itc ?itd ?itlo ?ithi ?itx ?_ ?its; (case itN => k_asm); (case itm => k_mem); (case itc => exact rfl); (case itd => exact rfl); (case itlo => decide); (case ithi => decide); (case itx => exact rfl); (case its => with_unfolding_all rfl))))
  k_with "callWith ref nil nil" => (k_here; k_dflt (first | (refine' callWith_K ?kq1 ?kq2 ?_; (case kq1 => k_asm); (case kq2 => k_is); k_whole) | (refine' callWith_K0 ?kq1 ?kq2 ?_; (case kq1 => k_in); (case kq2 => k_is); k_whole)))
  k_with "binaryOp Mult int int" => (k_dflt (with_reducible refine mul_rw (by with_reducible assumption) ?_))
  k_with "CompEnd ref" => (k_dflt (first | (refine cend_new (by with_reducible assumption) (by with_reducible assumption) (by with_reducible assumption) ?ceo trivial ?_; (case ceo => first | (with_reducible assumption) | (simp only [LCg.Off3, and_true]; with_reducible assumption))) | (refine cend_same (by with_reducible assumption) (by with_reducible assumption) ?ceo trivial ?_; (case ceo => first | (with_reducible assumption) | (simp only [LCg.Off3, and_true]; with_reducible assumption))) | (refine cend_same (by with_reducible assumption) (by with_reducible assumption) ?ceo ?ceS ?_; (case ceo => first | (with_reducible assumption) | (simp only [LCg.Off3, and_true]; with_reducible assumption)); (case ceS => (refine' Or.inr ⟨_, ?ca, ?cb, _, ?cc⟩; (case ca => k_mem); (case cb => rfl); (case cc => rfl))))))
  k_with "CompEnd" => (k_dflt (first | (refine cend_new (by with_reducible assumption) (by with_reducible assumption) (by with_reducible assumption) ?ceo trivial ?_; (case ceo => first | (with_reducible assumption) | (simp only [LCg.Off3, and_true]; with_reducible assumption))) | (refine cend_same (by with_reducible assumption) (by with_reducible assumption) ?ceo trivial ?_; (case ceo => first | (with_reducible assumption) | (simp only [LCg.Off3, and_true]; with_reducible assumption))) | (refine cend_same (by with_reducible assumption) (by with_reducible assumption) ?ceo ?ceS ?_; (case ceo => first | (with_reducible assumption) | (simp only [LCg.Off3, and_true]; with_reducible assumption)); (case ceS => (refine' Or.inr ⟨_, ?ca, ?cb, _, ?cc⟩; (case ca => k_mem); (case cb => rfl); (case cc => rfl))))))
  k_with "CompEnd none" => (k_dflt (first | (refine cend_new (by with_reducible assumption) (by with_reducible assumption) (by with_reducible assumption) ?ceo trivial ?_; (case ceo => first | (with_reducible assumption) | (simp only [LCg.Off3, and_true]; with_reducible assumption))) | (refine cend_same (by with_reducible assumption) (by with_reducible assumption) ?ceo trivial ?_; (case ceo => first | (with_reducible assumption) | (simp only [LCg.Off3, and_true]; with_reducible assumption))) | (refine cend_same (by with_reducible assumption) (by with_reducible assumption) ?ceo ?ceS ?_; (case ceo => first | (with_reducible assumption) | (simp only [LCg.Off3, and_true]; with_reducible assumption)); (case ceS => (refine' Or.inr ⟨_, ?ca, ?cb, _, ?cc⟩; (case ca => k_mem); (case cb => rfl); (case cc => rfl))))))
  k_with "CompEnd int" => (k_dflt (first | (refine cend_new (by with_reducible assumption) (by with_reducible assumption) (by with_reducible assumption) ?ceo trivial ?_; (case ceo => first | (with_reducible assumption) | (simp only [LCg.Off3, and_true]; with_reducible assumption))) | (refine cend_same (by with_reducible assumption) (by with_reducible assumption) ?ceo trivial ?_; (case ceo => first | (with_reducible assumption) | (simp only [LCg.Off3, and_true]; with_reducible assumption))) | (refine cend_same (by with_reducible assumption) (by with_reducible assumption) ?ceo ?ceS ?_; (case ceo => first | (with_reducible assumption) | (simp only [LCg.Off3, and_true]; with_reducible assumption)); (case ceS => (refine' Or.inr ⟨_, ?ca, ?cb, _, ?cc⟩; (case ca => k_mem); (case cb => rfl); (case cc => rfl))))))
  k_with "call ref cons nil" => first
    | ((with_reducible show wpAny _ _ (call (Value.ref 80) _) _ _ _); (rename News _ _ _ _ => lN'); k_dflt (refine' struck_ok ?k1 ?k2 ?k3 lN' ?k5 HC1 HC2 (List.forall_mem_cons.mpr ⟨y443.symm, List.forall_mem_cons.mpr ⟨y447.symm, List.forall_mem_cons.mpr ⟨y446.symm, List.forall_mem_cons.mpr ⟨y445.symm, List.forall_mem_cons.mpr ⟨y444.symm, k44x⟩⟩⟩⟩⟩) (List.forall_mem_cons.mpr ⟨y513.symm, List.forall_mem_cons.mpr ⟨y517.symm, List.forall_mem_cons.mpr ⟨y516.symm, List.forall_mem_cons.mpr ⟨y515.symm, List.forall_mem_cons.mpr ⟨y514.symm, k51x⟩⟩⟩⟩⟩) (.inl rfl) (.inl rfl) (List.mem_cons_of_mem _ (List.mem_cons_of_mem _ (List.mem_cons_of_mem _ (List.mem_cons_of_mem _ (List.mem_cons_of_mem _ mT))))) hT0 hT1 hT2 ?ld ?lu ?_; (case k2 => k_asm); (case k1 => k_asm); (case k3 => k_asm); (case k5 => k_asm); (case ld => first | exact room9 hd (Nat.le_of_ble_eq_true rfl) | exact roomk hd (Nat.le_of_ble_eq_true rfl) | ((try dsimp only [Around.deeper]); omega)); (case lu => first | exact room9 hu (Nat.le_of_ble_eq_true rfl) | exact roomk hu (Nat.le_of_ble_eq_true rfl) | ((try dsimp only [Around.deeper]); omega)); intro D9 h9 tk9 U0 U1 U2 gg t91 t92 t93 ps91 ps92 eU0 eU1 eU2 gg1 gg2 F9 N9 oU; clear lN'; have bU0 := bigU eU0 gg1 hT0; have bU1 := bigU eU1 gg1 hT1; have bU2 := bigU eU2 gg1 hT2; have st8 := stat1 st9 eU0 eU1 eU2 gg1; have z3 : @Ne Nat D9 c3 := (oU _ List.mem_cons_self).symm; have z7 : @Ne Nat D9 c7 := (oU _ (List.mem_cons_of_mem _ List.mem_cons_self)).symm; have z6 : @Ne Nat D9 c6 := (oU _ (List.mem_cons_of_mem _ (List.mem_cons_of_mem _ List.mem_cons_self))).symm; have z5 : @Ne Nat D9 c5 := (oU _ (List.mem_cons_of_mem _ (List.mem_cons_of_mem _ (List.mem_cons_of_mem _ List.mem_cons_self)))).symm; have z4 : @Ne Nat D9 c4 := (oU _ (List.mem_cons_of_mem _ (List.mem_cons_of_mem _ (List.mem_cons_of_mem _ (List.mem_cons_of_mem _ List.mem_cons_self))))).symm; clear oU; (try dsimp only)))
    | ((with_reducible show wpAny _ _ (call (Value.ref 85) _) _ _ _); k_dflt (refine' step_ok ?k1 ?k2 ?k3 ?k4 ?k5 ?mO ?mW ?mr0 ?mr1 ?mr2 bb0 bn0 bn1 bn2 bb1 bn3 bn4 bn5 bb2 ?ld ?lu ?_; (case k1 => k_asm); (case k2 => k_asm); (case k3 => k_asm); (case k4 => k_asm); (case k5 => k_asm); (case mO => k_mem); (case mW => k_mem); (case mr0 => k_mem); (case mr1 => k_mem); (case mr2 => k_mem); (case ld => first | exact room9 hd (Nat.le_of_ble_eq_true rfl) | exact roomk hd (Nat.le_of_ble_eq_true rfl) | ((try dsimp only [Around.deeper]); omega)); (case lu => first | exact room9 hu (Nat.le_of_ble_eq_true rfl) | exact roomk hu (Nat.le_of_ble_eq_true rfl) | ((try dsimp only [Around.deeper]); omega)); intro D9 h9 tk9 y0 y1 y2 v0 v1 v2 e0 e1 e2 F9 N9 o9; rw [st8.1] at e0; rw [st8.2.1] at e1; rw [st8.2.2] at e2; subst e0 e1 e2; (try dsimp only)))
  k_with "execs cons Assign cons" => ((with_reducible show wpAny _ _ (execs (Stmt.Assign [Expr.Name (Str.ofString "total") _] _ _ :: _) _) _ _ _); (rename Fr _ _ _ _ => lF'); (rename News _ _ _ _ => lN'); refine' v8 rfl rfl B lF' X T rfl (pick8 (kti_tail (kti_tail lN'))) (List.mem_cons_of_mem _ (List.mem_cons_of_mem _ (List.mem_cons_of_mem _ m1))) (List.mem_cons_of_mem _ (List.mem_cons_of_mem _ (List.mem_cons_of_mem _ m2))) (List.mem_cons_of_mem _ (List.mem_cons_of_mem _ List.mem_cons_self)) (List.mem_cons_of_mem _ (List.mem_cons_of_mem _ (List.mem_cons_of_mem _ mW))) (List.mem_cons_of_mem _ (List.mem_cons_of_mem _ (List.mem_cons_of_mem _ mr0))) (List.mem_cons_of_mem _ (List.mem_cons_of_mem _ (List.mem_cons_of_mem _ mr1))) (List.mem_cons_of_mem _ (List.mem_cons_of_mem _ (List.mem_cons_of_mem _ mr2))) List.mem_cons_self (List.mem_cons_of_mem _ List.mem_cons_self) (List.mem_cons_of_mem _ (List.mem_cons_of_mem _ (List.mem_cons_of_mem _ mT))) d1 d2 ?nd3 d4 d5 d6 d7 hn0 hn1 hn2 hn3 hn4 hn5 hg0 hg1 hg2 hs0 hs1 hs2 hw9 eT0 eT1 eT2 eU0 eU1 eU2 ⟨gg1, gg2⟩ y76 y75 y74 y65 y64 y54 z4 z5 z6 z7 (List.forall_mem_cons.mpr ⟨y444, List.forall_mem_cons.mpr ⟨y514, List.forall_mem_cons.mpr ⟨y43.symm, k4x⟩⟩⟩) (List.forall_mem_cons.mpr ⟨y445, List.forall_mem_cons.mpr ⟨y515, List.forall_mem_cons.mpr ⟨y53.symm, k5x⟩⟩⟩) (List.forall_mem_cons.mpr ⟨y446, List.forall_mem_cons.mpr ⟨y516, List.forall_mem_cons.mpr ⟨y63.symm, k6x⟩⟩⟩) (List.forall_mem_cons.mpr ⟨y447, List.forall_mem_cons.mpr ⟨y517, List.forall_mem_cons.mpr ⟨y73.symm, k7x⟩⟩⟩) hd hu hE hret; (case nd3 => assumption))
  k_with "execs cons For cons" => ((with_reducible show wpAny _ _ (execs (Stmt.Assign [Expr.Name (Str.ofString "total") _] _ _ :: _) _) _ _ _); (rename Fr _ _ _ _ => lF'); (rename News _ _ _ _ => lN'); refine' v8 rfl rfl B lF' X T rfl (pick8 (kti_tail (kti_tail lN'))) (List.mem_cons_of_mem _ (List.mem_cons_of_mem _ (List.mem_cons_of_mem _ m1))) (List.mem_cons_of_mem _ (List.mem_cons_of_mem _ (List.mem_cons_of_mem _ m2))) (List.mem_cons_of_mem _ (List.mem_cons_of_mem _ List.mem_cons_self)) (List.mem_cons_of_mem _ (List.mem_cons_of_mem _ (List.mem_cons_of_mem _ mW))) (List.mem_cons_of_mem _ (List.mem_cons_of_mem _ (List.mem_cons_of_mem _ mr0))) (List.mem_cons_of_mem _ (List.mem_cons_of_mem _ (List.mem_cons_of_mem _ mr1))) (List.mem_cons_of_mem _ (List.mem_cons_of_mem _ (List.mem_cons_of_mem _ mr2))) List.mem_cons_self (List.mem_cons_of_mem _ List.mem_cons_self) (List.mem_cons_of_mem _ (List.mem_cons_of_mem _ (List.mem_cons_of_mem _ mT))) d1 d2 ?nd3 d4 d5 d6 d7 hn0 hn1 hn2 hn3 hn4 hn5 hg0 hg1 hg2 hs0 hs1 hs2 hw9 eT0 eT1 eT2 eU0 eU1 eU2 ⟨gg1, gg2⟩ y76 y75 y74 y65 y64 y54 z4 z5 z6 z7 (List.forall_mem_cons.mpr ⟨y444, List.forall_mem_cons.mpr ⟨y514, List.forall_mem_cons.mpr ⟨y43.symm, k4x⟩⟩⟩) (List.forall_mem_cons.mpr ⟨y445, List.forall_mem_cons.mpr ⟨y515, List.forall_mem_cons.mpr ⟨y53.symm, k5x⟩⟩⟩) (List.forall_mem_cons.mpr ⟨y446, List.forall_mem_cons.mpr ⟨y516, List.forall_mem_cons.mpr ⟨y63.symm, k6x⟩⟩⟩) (List.forall_mem_cons.mpr ⟨y447, List.forall_mem_cons.mpr ⟨y517, List.forall_mem_cons.mpr ⟨y73.symm, k7x⟩⟩⟩) hd hu hE hret; (case nd3 => assumption))
  k_steps
  all_goals first | k_data | (exfalso; (rename ¬ _ = List.map _ _ => hno); exact hno rfl)
end
end Mine
namespace Mine
theorem pick4 {h₀ h : Heap} {L : Addr} {q1 q2 q3 q4 q5 q6 q7 q8 : Addr × Obj} {l : List (Addr × Obj)} (N : News h₀ L h (q1 :: q2 :: q3 :: q4 :: q5 :: q6 :: q7 :: q8 :: l)) : News h₀ L h (q2 :: q3 :: q4 :: q5 :: q6 :: q7 :: q8 :: q1 :: l) := cb_drop N (List.forall_mem_cons.mpr ⟨(List.mem_cons_of_mem _ List.mem_cons_self), (List.forall_mem_cons.mpr ⟨(List.mem_cons_of_mem _ (List.mem_cons_of_mem _ List.mem_cons_self)), (List.forall_mem_cons.mpr ⟨(List.mem_cons_of_mem _ (List.mem_cons_of_mem _ (List.mem_cons_of_mem _ List.mem_cons_self))), (List.forall_mem_cons.mpr ⟨(List.mem_cons_of_mem _ (List.mem_cons_of_mem _ (List.mem_cons_of_mem _ (List.mem_cons_of_mem _ List.mem_cons_self)))), (List.forall_mem_cons.mpr ⟨(List.mem_cons_of_mem _ (List.mem_cons_of_mem _ (List.mem_cons_of_mem _ (List.mem_cons_of_mem _ (List.mem_cons_of_mem _ List.mem_cons_self))))), (List.forall_mem_cons.mpr ⟨(List.mem_cons_of_mem _ (List.mem_cons_of_mem _ (List.mem_cons_of_mem _ (List.mem_cons_of_mem _ (List.mem_cons_of_mem _ (List.mem_cons_of_mem _ List.mem_cons_self)))))), (List.forall_mem_cons.mpr ⟨(List.mem_cons_of_mem _ (List.mem_cons_of_mem _ (List.mem_cons_of_mem _ (List.mem_cons_of_mem _ (List.mem_cons_of_mem _ (List.mem_cons_of_mem _ (List.mem_cons_of_mem _ List.mem_cons_self))))))), (List.forall_mem_cons.mpr ⟨List.mem_cons_self, (fun _ hq => (List.mem_cons_of_mem _ (List.mem_cons_of_mem _ (List.mem_cons_of_mem _ (List.mem_cons_of_mem _ (List.mem_cons_of_mem _ (List.mem_cons_of_mem _ (List.mem_cons_of_mem _ (List.mem_cons_of_mem _ hq)))))))))⟩)⟩)⟩)⟩)⟩)⟩)⟩)⟩)
section
variable {w : World} {p : Program} {loose : List Str} {mean : ExcName → Option Value} {mg mb : Str → Option Value} {dp un : Nat} {gd : Option (List Code)} {a : Addr} {ccd : Value} {outer : List Env} {A₀ : Around} {base h₀ : Heap} {L : Addr} {m : Str → Option Value} {news : List (Addr × Obj)} {s : Shared} {Q : Flow → Shared → Prop} {E : Value → Shared → Prop}
set_option maxRecDepth 100000 in
set_option maxHeartbeats 8000000 in
theorem v4 {sc : Scope} {body : List Stmt} {c7 c6 c5 c4 c3 c2 c1 aW R0 R1 R2 : Addr} {o1 o2 o3 o4 o5 o6 o7 : Obj} {r00 r01 r02 r10 r11 r12 r20 r21 r22 tw : Tok} {n0 n1 n2 n3 n4 n5 g0 g1 g2 ww : Int} {kW k0 k1 k2 : Nat} {ov3 ov4 ov5 ov6 ov7 : Option Value} 
    (hsc : sc = lawScope) (hbody : body = lawRest 4) (HC1 : CodeHd base 48 44) (HC2 : CodeHd base 55 51)
    (B : Below A₀ base outer h₀) (F : Fr h₀ L s.heap m) (X : (hd.heap_39 w.params).In h₀) (T : Top p loose mean mg mb h₀)
    (N : News h₀ L s.heap ((44, tabObj #[]) :: (51, tabObj #[]) :: (c3, o3) :: (c7, o7) :: (c6, o6) :: (c5, o5) :: (c4, o4) :: news))
    (m1 : (c1, o1) ∈ news) (m2 : (c2, o2) ∈ news) (mW : (aW, W.listOf #[.ref R0, .ref R1, .ref R2] kW) ∈ news) (mr0 : (R0, W.listOf #[.int g0 r00, .int n0 r01, .int n1 r02] k0) ∈ news) (mr1 : (R1, W.listOf #[.int n2 r10, .int g1 r11, .int n3 r12] k1) ∈ news) (mr2 : (R2, W.listOf #[.int n4 r20, .int n5 r21, .int g2 r22] k2) ∈ news)
    (d1 : o1.data = .cell (some (.ref aW))) (d2 : o2.data = .cell (some (.int ww tw))) (d3 : o3.data = .cell ov3) (d4 : o4.data = .cell ov4) (d5 : o5.data = .cell ov5) (d6 : o6.data = .cell ov6) (d7 : o7.data = .cell ov7)
    (hn0 : 1 ≤ n0 ∧ n0 ≤ 4) (hn1 : 1 ≤ n1 ∧ n1 ≤ 4) (hn2 : 1 ≤ n2 ∧ n2 ≤ 4) (hn3 : 1 ≤ n3 ∧ n3 ≤ 4) (hn4 : 1 ≤ n4 ∧ n4 ≤ 4) (hn5 : 1 ≤ n5 ∧ n5 ≤ 4) (hg0 : 1 ≤ g0) (hg1 : 1 ≤ g1) (hg2 : 1 ≤ g2) (hs0 : g0 + n0 + n1 = ww) (hs1 : n2 + g1 + n3 = ww) (hs2 : n4 + n5 + g2 = ww) (hw9 : ww ≤ 9)
    (hch : @LT.lt Nat _ 44 c1 ∧ @LT.lt Nat _ 51 c1 ∧ @LT.lt Nat _ c1 c2 ∧ @LT.lt Nat _ c2 c3 ∧ @LT.lt Nat _ c3 c4 ∧ @LT.lt Nat _ c4 c5 ∧ @LT.lt Nat _ c5 c6 ∧ @LT.lt Nat _ c6 c7) (k3x : ∀ p ∈ news, p.1 ≠ c3) (k4x : ∀ p ∈ news, p.1 ≠ c4) (k5x : ∀ p ∈ news, p.1 ≠ c5) (k6x : ∀ p ∈ news, p.1 ≠ c6) (k7x : ∀ p ∈ news, p.1 ≠ c7) (k44x : ∀ p ∈ news, p.1 ≠ 44) (k51x : ∀ p ∈ news, p.1 ≠ 51)
    (hd : dp + 300 < recursionLimit) (hu : un + 3000 < cLine)
    (hE : PassesOwn (model PySem.Challenge.rw_hg0003_01.row.prog w) (ktrTop dp un gd (Str.ofString "law") sc L a ccd (lawCl c1 c2 c3 c4 c5 c6 c7) outer) (envX (Str.ofString "law") sc L a ccd (lawCl c1 c2 c3 c4 c5 c6 c7)) E)
    (hret : ∀ m' news' qs1 qs2 h' tk', Fr h₀ L h' m' → News h₀ L h' news' → (44, tabObj qs1) ∈ news' → (51, tabObj qs2) ∈ news' → Q (.ret (.bool true)) { s with heap := h', toks := tk' }) :
    wpAny (model PySem.Challenge.rw_hg0003_01.row.prog w) (ktrTop dp un gd (Str.ofString "law") sc L a ccd (lawCl c1 c2 c3 c4 c5 c6 c7) outer) (execs body (envX (Str.ofString "law") sc L a ccd (lawCl c1 c2 c3 c4 c5 c6 c7))) Q E s := by
  conv at hsc => rhs; whnf
  conv at hbody => rhs; whnf
  subst hsc hbody
  revert X; k_fill; intro X
  w_top off
  k_with_none
  k_with "execs nil" => ((with_reducible refine gen_toks ?_); intro tk9; refine wpAny_execs_nil ?_; dsimp only)
  obtain ⟨bb0, bb1, bb2, bn0, bn1, bn2, bn3, bn4, bn5⟩ := bigs hn0 hn1 hn2 hn3 hn4 hn5 hg0 hg1 hg2 hs0 hs1 hs2 hw9
  k_with "subscriptTail Name Constant ref int" => ((with_reducible show wpAny _ _ (subscriptTail _ _ (Value.ref _) (Value.int _ _)) _ _ _); k_dflt ((refine kba_turn (value' := PySem.Expr.Name (PySem.Str.ofString "_") ⟨0, 0, 0, 0⟩) (fun _ => rfl) ?_); first | (refine' kim_tup ?itN ?itm ?itc ?itd ?itlo ?ithi ?itj ?itx ?_ ?its; (case itN => k_asm); (case itm => k_mem); (case itc => exact rfl); (case itd => exact rfl); (case itlo => decide); (case ithi => decide); (case itj => exact rfl); (case itx => exact rfl); (case its => with_unfolding_all rfl)) | (refine' kim_list ?itN ?itm ?itc ?itd ?itlo ?ithi ?itx ?_ ?its; (case itN => k_asm); (case itm => k_mem); (case itc => exact rfl); (case itd => exact rfl); (case itlo => decide); (case ithi => decide); (case itx => exact rfl); (case its => with_unfolding_all rfl))))
  k_with "subscriptTail" => ((with_reducible show wpAny _ _ (subscriptTail _ _ (Value.ref _) (Value.int _ _)) _ _ _); k_dflt ((refine kba_turn (value' := PySem.Expr.Name (PySem.Str.ofString "_") ⟨0, 0, 0, 0⟩) (fun _ => rfl) ?_); first | (refine' kim_tup ?itN ?itm ?itc ?itd ?itlo ?ithi ?itj ?itx ?_ ?its; (case itN => k_asm); (case itm => k_mem); (case itc => exact rfl); (case itd => exact rfl); (case itlo => decide); (case ithi => decide); (case itj => exact rfl); (case itx => exact rfl); (case its => with_unfolding_all rfl)) | (refine' kim_list ?itN ?itm ?itc ?itd ?itlo ?ithi ?itx ?_ ?its; (case itN => k_asm); (case itm => k_mem); (case itc => exact rfl); (case itd => exact rfl); (case itlo => decide); (case ithi => decide); (case itx => exact rfl); (case its => with_unfolding_all rfl))))
  k_with "subscriptTail Name Name ref int" => ((with_reducible show wpAny _ _ (subscriptTail _ _ (Value.ref _) (Value.int _ _)) _ _ _); k_dflt ((refine kba_turn (value' := PySem.Expr.Name (PySem.Str.ofString "_") ⟨0, 0, 0, 0⟩) (fun _ => rfl) ?_); first | (refine' kim_tup ?itN ?itm ?itc ?itd ?itlo ?ithi ?itj ?itx ?_ ?its; (case itN => k_asm); (case itm => k_mem); (case itc => exact rfl); (case itd => exact rfl); (case itlo => decide); (case ithi => decide); (case itj => exact rfl); (case itx => exact rfl); (case its => with_unfolding_all rfl)) | (refine' kim_list ?itN ?itm ?itc ?itd ?itlo ?ithi ?itx ?_ ?its; (case itN => k_asm); (case itm => k_mem); (case itc => exact rfl); (case itd => exact rfl); (case itlo => decide); (case ithi => decide); (case itx => exact rfl); (case its => with_unfolding_all rfl))))
  k_with "subscriptTail Name BinOp ref int" => ((with_reducible show wpAny _ _ (subscriptTail _ _ (Value.ref _) (Value.int _ _)) _ _ _); k_dflt ((refine kba_turn (value' := PySem.Expr.Name (PySem.Str.ofString "_") ⟨0, 0, 0, 0⟩) (fun _ => rfl) ?_); first | (refine' kim_tup ?itN ?itm ?itc ?itd ?itlo ?ithi ?itj ?itx ?_ ?its; (case itN => k_asm); (case itm => k_mem); (case itc => exact rfl); (case itd => exact rfl); (case itlo => decide); (case ithi => decide); (case itj => exact rfl); (case itx => exact rfl); (case its => with_unfolding_all rfl)) | (refine' kim_list ?itN ?itm ?itc ?itd ?itlo ?ithi ?itx ?_ ?its; (case itN => k_asm); (case itm => k_mem); (case itc => exact rfl); (case itd => exact rfl); (case itlo => decide); (case ithi => decide); (case itx => exact rfl); (case its => with_unfolding_all rfl))))
  k_with "subscriptTail Subscript Name Name Constant ref int" => ((with_reducible show wpAny _ _ (subscriptTail _ _ (Value.ref _) (Value.int _ _)) _ _ _); k_dflt ((refine kba_turn (value' := PySem.Expr.Name (PySem.Str.ofString "_") ⟨0, 0, 0, 0⟩) (fun _ => rfl) ?_); first | (refine' kim_tup ?itN ?itm ?itc ?itd ?itlo ?ithi ?itj ?itx ?_ ?its; (case itN => k_asm); (case itm => k_mem); (case itc => exact rfl); (case itd => exact rfl); (case itlo => decide); (case ithi => decide); (case itj => exact rfl); (case itx => exact rfl); (case its => with_unfolding_all rfl)) | (refine' kim_list ?itN ?itm ?itc ?itd ?itlo ?ithi ?itx ?_ ?its; (case itN => k_asm); (case itm => k_mem); (case itc => exact rfl); (case itd => exact rfl); (case itlo => decide); (case ithi => decide); (case itx => exact rfl); (case its => with_unfolding_all rfl))))
  k_with "subscriptTail Subscript Name Constant Constant ref int" => ((with_reducible show wpAny _ _ (subscriptTail _ _ (Value.ref _) (Value.int _ _)) _ _ _); k_dflt ((refine kba_turn (value' := PySem.Expr.Name (PySem.Str.ofString "_") ⟨0, 0, 0, 0⟩) (fun _ => rfl) ?_); first | (refine' kim_tup ?itN ?itm ?itc ?itd ?itlo ?ithi ?itj ?itx ?_ ?its; (case itN => k_asm); (case itm => k_mem); (case itc => exact rfl); (case itd => exact rfl); (case itlo => decide); (case ithi => decide); (case itj => exact rfl); (case itx => exact rfl); (case its => with_unfolding_all rfl)) | (refine' kim_list ?itN ?itm ?itc ?itd ?itlo ?ithi ?itx ?_ ?its; (case itN => k_asm); (case itm => k_mem); (case itc => exact rfl); (case itd => exact rfl); (case itlo => decide); (case ithi => decide); (case itx => exact rfl); (case its => with_unfolding_all rfl))))
  k_with "subscriptTail Subscript Name Name Name ref int" => ((with_reducible show wpAny _ _ (subscriptTail _ _ (Value.ref _) (Value.int _ _)) _ _ _); k_dflt ((refine kba_turn (value' := PySem.Expr.Name (PySem.Str.ofString "_") ⟨0, 0, 0, 0⟩) (fun _ => rfl) ?_); first | (refine' kim_tup ?itN ?itm ?itc ?itd ?itlo ?ithi ?itj ?itx ?_ ?its; (case itN => k_asm); (case itm => k_mem); (case itc => exact rfl); (case itd => exact rfl); (case itlo => decide); (case ithi => decide); (case itj => exact rfl); (case itx => exact rfl); (case its => with_unfolding_all rfl)) | (refine' kim_list ?itN ?itm ?itc ?itd ?itlo ?ithi ?itx ?_ ?its; (case itN => k_asm); (case itm => k_mem); (case itc => exact rfl); (case itd => exact rfl); (case itlo => decide); (case ithi => decide); (case itx => exact rfl); (case its => with_unfolding_all rfl))))
  k_with "subscriptTail Subscript Name Name BinOp ref int" => ((with_reducible show wpAny _ _ (subscriptTail _ _ (Value.ref _) (Value.int _ _)) _ _ _); k_dflt ((refine kba_turn (value' := PySem.Expr.Name (PySem.Str.ofString "_") ⟨0, 0, 0, 0⟩) (fun _ => rfl) ?_); first | (refine' kim_tup ?itN ?itm ?itc ?itd ?itlo ?ithi ?itj ?itx ?_ ?its; (case itN => k_asm); (case itm => k_mem); (case itc => exact rfl); (case itd => exact rfl); (case itlo => decide); (case ithi => decide); (case itj => exact rfl); (case itx => exact rfl); (case its => with_unfolding_all rfl)) | (refine' kim_list ?itN ?itm ?itc ?itd ?itlo ?ithi ?itx ?_ ?its; (case itN => k_asm); (case itm => k_mem); (case itc => exact rfl); (case itd => exact rfl); (case itlo => decide); (case ithi => decide); (case itx => exact rfl); (case its => with_unfolding_all rfl))))
  k_with "subscriptTail Subscript Name Constant Name ref int" => ((with_reducible show wpAny _ _ (subscriptTail _ _ (Value.ref _) (Value.int _ _)) _ _ _); k_dflt ((refine kba_turn (value' := PySem.Expr.Name (PySem.Str.ofString "_") ⟨0, 0, 0, 0⟩) (fun _ => rfl) ?_); first | (refine' kim_tup ?itN ?itm ?itc ?itd ?itlo ?ithi ?itj ?itx ?_ ?its; (case itN => k_asm); (case itm => k_mem); (case itc => exact rfl); (case itd => exact rfl); (case itlo => decide); (case ithi => decide); (case itj => exact rfl); (case itx => exact rfl); (case its => with_unfolding_all rfl)) | (refine' kim_list ?itN ?itm ?itc ?itd ?itlo ?ithi ?itx ?_ ?its; (case itN => k_asm); (case itm => k_mem); (case itc => exact rfl); (case itd => exact rfl); (case itlo => decide); (case ithi => decide); (case itx => exact rfl); (case its => with_unfolding_all rfl))))
  k_with "callWith ref nil nil" => (k_here; k_dflt (first | (refine' callWith_K ?kq1 ?kq2 ?_; (case kq1 => k_asm); (case kq2 => k_is); k_whole) | (refine' callWith_K0 ?kq1 ?kq2 ?_; (case kq1 => k_in); (case kq2 => k_is); k_whole)))
  k_with "binaryOp Mult int int" => (k_dflt (with_reducible refine mul_rw (by with_reducible assumption) ?_))
  k_with "CompEnd ref" => (k_dflt (first | (refine cend_new (by with_reducible assumption) (by with_reducible assumption) (by with_reducible assumption) ?ceo trivial ?_; (case ceo => first | (with_reducible assumption) | (simp only [LCg.Off3, and_true]; with_reducible assumption))) | (refine cend_same (by with_reducible assumption) (by with_reducible assumption) ?ceo trivial ?_; (case ceo => first | (with_reducible assumption) | (simp only [LCg.Off3, and_true]; with_reducible assumption))) | (refine cend_same (by with_reducible assumption) (by with_reducible assumption) ?ceo ?ceS ?_; (case ceo => first | (with_reducible assumption) | (simp only [LCg.Off3, and_true]; with_reducible assumption)); (case ceS => (refine' Or.inr ⟨_, ?ca, ?cb, _, ?cc⟩; (case ca => k_mem); (case cb => rfl); (case cc => rfl))))))
  k_with "CompEnd" => (k_dflt (first | (refine cend_new (by with_reducible assumption) (by with_reducible assumption) (by with_reducible assumption) ?ceo trivial ?_; (case ceo => first | (with_reducible assumption) | (simp only [LCg.Off3, and_true]; with_reducible assumption))) | (refine cend_same (by with_reducible assumption) (by with_reducible assumption) ?ceo trivial ?_; (case ceo => first | (with_reducible assumption) | (simp only [LCg.Off3, and_true]; with_reducible assumption))) | (refine cend_same (by with_reducible assumption) (by with_reducible assumption) ?ceo ?ceS ?_; (case ceo => first | (with_reducible assumption) | (simp only [LCg.Off3, and_true]; with_reducible assumption)); (case ceS => (refine' Or.inr ⟨_, ?ca, ?cb, _, ?cc⟩; (case ca => k_mem); (case cb => rfl); (case cc => rfl))))))
  k_with "CompEnd none" => (k_dflt (first | (refine cend_new (by with_reducible assumption) (by with_reducible assumption) (by with_reducible assumption) ?ceo trivial ?_; (case ceo => first | (with_reducible assumption) | (simp only [LCg.Off3, and_true]; with_reducible assumption))) | (refine cend_same (by with_reducible assumption) (by with_reducible assumption) ?ceo trivial ?_; (case ceo => first | (with_reducible assumption) | (simp only [LCg.Off3, and_true]; with_reducible assumption))) | (refine cend_same (by with_reducible assumption) (by with_reducible assumption) ?ceo ?ceS ?_; (case ceo => first | (with_reducible assumption) | (simp only [LCg.Off3, and_true]; with_reducible assumption)); (case ceS => (refine' Or.inr ⟨_, ?ca, ?cb, _, ?cc⟩; (case ca => k_mem); (case cb => rfl); (case cc => rfl))))))
  k_with "CompEnd int" => (k_dflt (first | (refine cend_new (by with_reducible assumption) (by with_reducible assumption) (by with_reducible assumption) ?ceo trivial ?_; (case ceo => first | (with_reducible assumption) | (simp only [LCg.Off3, and_true]; with_reducible assumption))) | (refine cend_same (by with_reducible assumption) (by with_reducible assumption) ?ceo trivial ?_; (case ceo => first | (with_reducible assumption) | (simp only [LCg.Off3, and_true]; with_reducible assumption))) | (refine cend_same (by with_reducible assumption) (by with_reducible assumption) ?ceo ?ceS ?_; (case ceo => first | (with_reducible assumption) | (simp only [LCg.Off3, and_true]; with_reducible assumption)); (case ceS => (refine' Or.inr ⟨_, ?ca, ?cb, _, ?cc⟩; (case ca => k_mem); (case cb => rfl); (case cc => rfl))))))
  k_with "call ref cons nil" => first
    | ((with_reducible show wpAny _ _ (call (Value.ref 75) _) _ _ _); k_dflt (refine' trees_ok ?k1 ?k2 ?k3 ?k4 ?k5 ?mW ?mr0 ?mr1 ?mr2 bb0 bn0 bn1 bn2 bb1 bn3 bn4 bn5 bb2 ?ld ?lu ?_; (case k1 => k_asm); (case k2 => k_asm); (case k3 => k_asm); (case k4 => k_asm); (case k5 => k_asm); (case mW => k_mem); (case mr0 => k_mem); (case mr1 => k_mem); (case mr2 => k_mem); (case ld => first | exact room9 hd (Nat.le_of_ble_eq_true rfl) | exact roomk hd (Nat.le_of_ble_eq_true rfl) | ((try dsimp only [Around.deeper]); omega)); (case lu => first | exact room9 hu (Nat.le_of_ble_eq_true rfl) | exact roomk hu (Nat.le_of_ble_eq_true rfl) | ((try dsimp only [Around.deeper]); omega)); intro D9 h9 tk9 T0 T1 T2 v0 v1 v2 eT0 eT1 eT2 F9 N9 oT; have z44 : @Ne Nat D9 44 := (oT _ List.mem_cons_self).symm; have z51 : @Ne Nat D9 51 := (oT _ (List.mem_cons_of_mem _ List.mem_cons_self)).symm; have z3 : @Ne Nat D9 c3 := (oT _ (List.mem_cons_of_mem _ (List.mem_cons_of_mem _ List.mem_cons_self))).symm; have z7 : @Ne Nat D9 c7 := (oT _ (List.mem_cons_of_mem _ (List.mem_cons_of_mem _ (List.mem_cons_of_mem _ List.mem_cons_self)))).symm; have z6 : @Ne Nat D9 c6 := (oT _ (List.mem_cons_of_mem _ (List.mem_cons_of_mem _ (List.mem_cons_of_mem _ (List.mem_cons_of_mem _ List.mem_cons_self))))).symm; have z5 : @Ne Nat D9 c5 := (oT _ (List.mem_cons_of_mem _ (List.mem_cons_of_mem _ (List.mem_cons_of_mem _ (List.mem_cons_of_mem _ (List.mem_cons_of_mem _ List.mem_cons_self)))))).symm; have z4 : @Ne Nat D9 c4 := (oT _ (List.mem_cons_of_mem _ (List.mem_cons_of_mem _ (List.mem_cons_of_mem _ (List.mem_cons_of_mem _ (List.mem_cons_of_mem _ (List.mem_cons_of_mem _ List.mem_cons_self))))))).symm; clear oT; have hT0 := tbound hn2 hn4 hn3 hn4 hn2 hn5 eT0; have hT1 := tbound hn0 hn5 hn1 hn5 hn0 hn4 eT1; have hT2 := tbound hn1 hn3 hn0 hn3 hn1 hn2 eT2; have bT0 := bigT hT0; have bT1 := bigT hT1; have bT2 := bigT hT2; have st9 := stat0 hs0 hs1 hs2 eT0 eT1 eT2; (try dsimp only)))
    | ((with_reducible show wpAny _ _ (call (Value.ref 85) _) _ _ _); k_dflt (refine' step_ok ?k1 ?k2 ?k3 ?k4 ?k5 ?mO ?mW ?mr0 ?mr1 ?mr2 bb0 bn0 bn1 bn2 bb1 bn3 bn4 bn5 bb2 ?ld ?lu ?_; (case k1 => k_asm); (case k2 => k_asm); (case k3 => k_asm); (case k4 => k_asm); (case k5 => k_asm); (case mO => k_mem); (case mW => k_mem); (case mr0 => k_mem); (case mr1 => k_mem); (case mr2 => k_mem); (case ld => first | exact room9 hd (Nat.le_of_ble_eq_true rfl) | exact roomk hd (Nat.le_of_ble_eq_true rfl) | ((try dsimp only [Around.deeper]); omega)); (case lu => first | exact room9 hu (Nat.le_of_ble_eq_true rfl) | exact roomk hu (Nat.le_of_ble_eq_true rfl) | ((try dsimp only [Around.deeper]); omega)); intro D9 h9 tk9 y0 y1 y2 v0 v1 v2 e0 e1 e2 F9 N9 o9; rw [st9.1] at e0; rw [st9.2.1] at e1; rw [st9.2.2] at e2; subst e0 e1 e2; (try dsimp only)))
  k_with "execs cons Assign cons" => ((with_reducible show wpAny _ _ (execs (Stmt.Assign [Expr.Name (Str.ofString "told") _] _ _ :: _) _) _ _ _); (rename Fr _ _ _ _ => lF'); (rename News _ _ _ _ => lN'); exact v6 rfl rfl HC1 HC2 B lF' X T (pick4 (kti_tail (kti_tail lN'))) (List.mem_cons_of_mem _ m1) (List.mem_cons_of_mem _ m2) (List.mem_cons_of_mem _ mW) (List.mem_cons_of_mem _ mr0) (List.mem_cons_of_mem _ mr1) (List.mem_cons_of_mem _ mr2) d1 d2 d3 d4 d5 d6 d7 hn0 hn1 hn2 hn3 hn4 hn5 hg0 hg1 hg2 hs0 hs1 hs2 hw9 rfl List.mem_cons_self eT0 eT1 eT2 hch (List.forall_mem_cons.mpr ⟨z3, k3x⟩) (List.forall_mem_cons.mpr ⟨z4, k4x⟩) (List.forall_mem_cons.mpr ⟨z5, k5x⟩) (List.forall_mem_cons.mpr ⟨z6, k6x⟩) (List.forall_mem_cons.mpr ⟨z7, k7x⟩) (List.forall_mem_cons.mpr ⟨z44, k44x⟩) (List.forall_mem_cons.mpr ⟨z51, k51x⟩) hd hu hE hret)
  k_with "execs cons For cons" => ((with_reducible show wpAny _ _ (execs (Stmt.Assign [Expr.Name (Str.ofString "told") _] _ _ :: _) _) _ _ _); (rename Fr _ _ _ _ => lF'); (rename News _ _ _ _ => lN'); exact v6 rfl rfl HC1 HC2 B lF' X T (pick4 (kti_tail (kti_tail lN'))) (List.mem_cons_of_mem _ m1) (List.mem_cons_of_mem _ m2) (List.mem_cons_of_mem _ mW) (List.mem_cons_of_mem _ mr0) (List.mem_cons_of_mem _ mr1) (List.mem_cons_of_mem _ mr2) d1 d2 d3 d4 d5 d6 d7 hn0 hn1 hn2 hn3 hn4 hn5 hg0 hg1 hg2 hs0 hs1 hs2 hw9 rfl List.mem_cons_self eT0 eT1 eT2 hch (List.forall_mem_cons.mpr ⟨z3, k3x⟩) (List.forall_mem_cons.mpr ⟨z4, k4x⟩) (List.forall_mem_cons.mpr ⟨z5, k5x⟩) (List.forall_mem_cons.mpr ⟨z6, k6x⟩) (List.forall_mem_cons.mpr ⟨z7, k7x⟩) (List.forall_mem_cons.mpr ⟨z44, k44x⟩) (List.forall_mem_cons.mpr ⟨z51, k51x⟩) hd hu hE hret)
  k_steps
  all_goals first | k_data | (exfalso; (rename ¬ _ = List.map _ _ => hno); exact hno rfl)
end
end Mine
namespace Mine
section
variable {w : World} {p : Program} {loose : List Str} {mean : ExcName → Option Value} {mg mb : Str → Option Value} {dp un : Nat} {gd : Option (List Code)} {a : Addr} {ccd : Value} {outer : List Env} {A₀ : Around} {base h₀ : Heap} {L : Addr} {m : Str → Option Value} {news : List (Addr × Obj)} {s : Shared} {Q : Flow → Shared → Prop} {E : Value → Shared → Prop}
set_option maxRecDepth 100000 in
set_option maxHeartbeats 8000000 in
theorem v2 {sc : Scope} {body : List Stmt} {c7 c6 c5 c4 c3 c2 c1 aW R0 R1 R2 : Addr} {o1 o2 : Obj} {r00 r01 r02 r10 r11 r12 r20 r21 r22 : Tok} {n0 n1 n2 n3 n4 n5 : Int} {kW k0 k1 k2 : Nat}
    (hsc : sc = lawScope) (hbody : body = lawRest 2)
    (B : Below A₀ base outer h₀) (F : Fr h₀ L s.heap m) (X : (hd.heap_39 w.params).In h₀) (T : Top p loose mean mg mb h₀)
    (N : News h₀ L s.heap ((c2, o2) :: (R0, W.listOf #[.int 0 r00, .int n0 r01, .int n1 r02] k0) :: (R1, W.listOf #[.int n2 r10, .int 0 r11, .int n3 r12] k1) :: (R2, W.listOf #[.int n4 r20, .int n5 r21, .int 0 r22] k2) :: news))
    (m1 : (c1, o1) ∈ news) (mW : (aW, W.listOf #[.ref R0, .ref R1, .ref R2] kW) ∈ news)
    (d1 : o1.data = .cell (some (.ref aW))) (d2 : o2.data = .cell none)
    (hn0 : 1 ≤ n0 ∧ n0 ≤ 4) (hn1 : 1 ≤ n1 ∧ n1 ≤ 4) (hn2 : 1 ≤ n2 ∧ n2 ≤ 4) (hn3 : 1 ≤ n3 ∧ n3 ≤ 4) (hn4 : 1 ≤ n4 ∧ n4 ≤ 4) (hn5 : 1 ≤ n5 ∧ n5 ≤ 4)
    (p0 : @Ne Nat R0 c2) (p1 : @Ne Nat R1 c2) (p2 : @Ne Nat R2 c2) (p3 : @Ne Nat R0 R1) (p4 : @Ne Nat R0 R2) (p5 : @Ne Nat R1 R2) (xc2 : ∀ p ∈ news, p.1 ≠ c2) (xR0 : ∀ p ∈ news, p.1 ≠ R0) (xR1 : ∀ p ∈ news, p.1 ≠ R1) (xR2 : ∀ p ∈ news, p.1 ≠ R2)
    (hd : dp + 300 < recursionLimit) (hu : un + 3000 < cLine)
    (hE : PassesOwn (model PySem.Challenge.rw_hg0003_01.row.prog w) (ktrTop dp un gd (Str.ofString "law") sc L a ccd (lawCl c1 c2 c3 c4 c5 c6 c7) outer) (envX (Str.ofString "law") sc L a ccd (lawCl c1 c2 c3 c4 c5 c6 c7)) E)
    (hnext : ∀ m' h' tk' o2' ww tw g0 g1 g2 a0 a1 a2, 1 ≤ g0 → 1 ≤ g1 → 1 ≤ g2 → g0 + n0 + n1 = ww → n2 + g1 + n3 = ww → n4 + n5 + g2 = ww → ww ≤ 9 → o2'.data = .cell (some (.int ww tw)) → Fr h₀ L h' m' → News h₀ L h' ((c2, o2') :: (R0, W.listOf #[.int g0 a0, .int n0 r01, .int n1 r02] k0) :: (R1, W.listOf #[.int n2 r10, .int g1 a1, .int n3 r12] k1) :: (R2, W.listOf #[.int n4 r20, .int n5 r21, .int g2 a2] k2) :: news) → wpAny (model PySem.Challenge.rw_hg0003_01.row.prog w) (ktrTop dp un gd (Str.ofString "law") sc L a ccd (lawCl c1 c2 c3 c4 c5 c6 c7) outer) (execs (lawRest 4) (envX (Str.ofString "law") sc L a ccd (lawCl c1 c2 c3 c4 c5 c6 c7))) Q E { s with heap := h', toks := tk' }) :
    wpAny (model PySem.Challenge.rw_hg0003_01.row.prog w) (ktrTop dp un gd (Str.ofString "law") sc L a ccd (lawCl c1 c2 c3 c4 c5 c6 c7) outer) (execs body (envX (Str.ofString "law") sc L a ccd (lawCl c1 c2 c3 c4 c5 c6 c7))) Q E s := by
  conv at hsc => rhs; whnf
  conv at hbody => rhs; whnf
  subst hsc hbody
  revert X; k_fill; intro X
  w_top off
  k_with_none
  k_with "execs nil" => ((with_reducible refine gen_toks ?_); intro tk9; refine wpAny_execs_nil ?_; dsimp only)
  k_with "subscriptTail Name Constant ref int" => ((with_reducible show wpAny _ _ (subscriptTail _ _ (Value.ref _) (Value.int _ _)) _ _ _); k_dflt ((refine kba_turn (value' := PySem.Expr.Name (PySem.Str.ofString "_") ⟨0, 0, 0, 0⟩) (fun _ => rfl) ?_); first | (refine' kim_tup ?itN ?itm ?itc ?itd ?itlo ?ithi ?itj ?itx ?_ ?its; (case itN => k_asm); (case itm => k_mem); (case itc => exact rfl); (case itd => exact rfl); (case itlo => decide); (case ithi => decide); (case itj => exact rfl); (case itx => exact rfl); (case its => with_unfolding_all rfl)) | (refine' kim_list ?itN ?itm ?itc ?itd ?itlo ?ithi ?itx ?_ ?its; (case itN => k_asm); (case itm => k_mem); (case itc => exact rfl); (case itd => exact rfl); (case itlo => decide); (case ithi => decide); (case itx => exact rfl); (case its => with_unfolding_all rfl))))
  k_with "subscriptTail" => ((with_reducible show wpAny _ _ (subscriptTail _ _ (Value.ref _) (Value.int _ _)) _ _ _); k_dflt ((refine kba_turn (value' := PySem.Expr.Name (PySem.Str.ofString "_") ⟨0, 0, 0, 0⟩) (fun _ => rfl) ?_); first | (refine' kim_tup ?itN ?itm ?itc ?itd ?itlo ?ithi ?itj ?itx ?_ ?its; (case itN => k_asm); (case itm => k_mem); (case itc => exact rfl); (case itd => exact rfl); (case itlo => decide); (case ithi => decide); (case itj => exact rfl); (case itx => exact rfl); (case its => with_unfolding_all rfl)) | (refine' kim_list ?itN ?itm ?itc ?itd ?itlo ?ithi ?itx ?_ ?its; (case itN => k_asm); (case itm => k_mem); (case itc => exact rfl); (case itd => exact rfl); (case itlo => decide); (case ithi => decide); (case itx => exact rfl); (case its => with_unfolding_all rfl))))
  k_with "subscriptTail Name Name ref int" => ((with_reducible show wpAny _ _ (subscriptTail _ _ (Value.ref _) (Value.int _ _)) _ _ _); k_dflt ((refine kba_turn (value' := PySem.Expr.Name (PySem.Str.ofString "_") ⟨0, 0, 0, 0⟩) (fun _ => rfl) ?_); first | (refine' kim_tup ?itN ?itm ?itc ?itd ?itlo ?ithi ?itj ?itx ?_ ?its; (case itN => k_asm); (case itm => k_mem); (case itc => exact rfl); (case itd => exact rfl); (case itlo => decide); (case ithi => decide); (case itj => exact rfl); (case itx => exact rfl); (case its => with_unfolding_all rfl)) | (refine' kim_list ?itN ?itm ?itc ?itd ?itlo ?ithi ?itx ?_ ?its; (case itN => k_asm); (case itm => k_mem); (case itc => exact rfl); (case itd => exact rfl); (case itlo => decide); (case ithi => decide); (case itx => exact rfl); (case its => with_unfolding_all rfl))))
  k_with "subscriptTail Name BinOp ref int" => ((with_reducible show wpAny _ _ (subscriptTail _ _ (Value.ref _) (Value.int _ _)) _ _ _); k_dflt ((refine kba_turn (value' := PySem.Expr.Name (PySem.Str.ofString "_") ⟨0, 0, 0, 0⟩) (fun _ => rfl) ?_); first | (refine' kim_tup ?itN ?itm ?itc ?itd ?itlo ?ithi ?itj ?itx ?_ ?its; (case itN => k_asm); (case itm => k_mem); (case itc => exact rfl); (case itd => exact rfl); (case itlo => decide); (case ithi => decide); (case itj => exact rfl); (case itx => exact rfl); (case its => with_unfolding_all rfl)) | (refine' kim_list ?itN ?itm ?itc ?itd ?itlo ?ithi ?itx ?_ ?its; (case itN => k_asm); (case itm => k_mem); (case itc => exact rfl); (case itd => exact rfl); (case itlo => decide); (case ithi => decide); (case itx => exact rfl); (case its => with_unfolding_all rfl))))
  k_with "subscriptTail Subscript Name Name Constant ref int" => ((with_reducible show wpAny _ _ (subscriptTail _ _ (Value.ref _) (Value.int _ _)) _ _ _); k_dflt ((refine kba_turn (value' := PySem.Expr.Name (PySem.Str.ofString "_") ⟨0, 0, 0, 0⟩) (fun _ => rfl) ?_); first | (refine' kim_tup ?itN ?itm ?itc ?itd ?itlo ?ithi ?itj ?itx ?_ ?its; (case itN => k_asm); (case itm => k_mem); (case itc => exact rfl); (case itd => exact rfl); (case itlo => decide); (case ithi => decide); (case itj => exact rfl); (case itx => exact rfl); (case its => with_unfolding_all rfl)) | (refine' kim_list ?itN ?itm ?itc ?itd ?itlo ?ithi ?itx ?_ ?its; (case itN => k_asm); (case itm => k_mem); (case itc => exact rfl); (case itd => exact rfl); (case itlo => decide); (case ithi => decide); (case itx => exact rfl); (case its => with_unfolding_all rfl))))
  k_with "subscriptTail Subscript Name Constant Constant ref int" => ((with_reducible show wpAny _ _ (subscriptTail _ _ (Value.ref _) (Value.int _ _)) _ _ _); k_dflt ((refine kba_turn (value' := PySem.Expr.Name (PySem.Str.ofString "_") ⟨0, 0, 0, 0⟩) (fun _ => rfl) ?_); first | (refine' kim_tup ?itN ?itm ?itc ?itd ?itlo ?ithi ?itj ?itx ?_ ?its; (case itN => k_asm); (case itm => k_mem); (case itc => exact rfl); (case itd => exact rfl); (case itlo => decide); (case ithi => decide); (case itj => exact rfl); (case itx => exact rfl); (case its => with_unfolding_all rfl)) | (refine' kim_list ?itN ?itm ?itc ?itd ?itlo ?ithi ?itx ?_ ?its; (case itN => k_asm); (case itm => k_mem); (case itc => exact rfl); (case itd => exact rfl); (case itlo => decide); (case ithi => decide); (case itx => exact rfl); (case its => with_unfolding_all rfl))))
  k_with "subscriptTail Subscript Name Name Name ref int" => ((with_reducible show wpAny _ _ (subscriptTail _ _ (Value.ref _) (Value.int _ _)) _ _ _); k_dflt ((refine kba_turn (value' := PySem.Expr.Name (PySem.Str.ofString "_") ⟨0, 0, 0, 0⟩) (fun _ => rfl) ?_); first | (refine' kim_tup ?itN ?itm ?itc ?itd ?itlo ?ithi ?itj ?itx ?_ ?its; (case itN => k_asm); (case itm => k_mem); (case itc => exact rfl); (case itd => exact rfl); (case itlo => decide); (case ithi => decide); (case itj => exact rfl); (case itx => exact rfl); (case its => with_unfolding_all rfl)) | (refine' kim_list ?itN ?itm ?itc ?itd ?itlo ?ithi ?itx ?_ ?its; (case itN => k_asm); (case itm => k_mem); (case itc => exact rfl); (case itd => exact rfl); (case itlo => decide); (case ithi => decide); (case itx => exact rfl); (case its => with_unfolding_all rfl))))
  k_with "subscriptTail Subscript Name Name BinOp ref int" => ((with_reducible show wpAny _ _ (subscriptTail _ _ (Value.ref _) (Value.int _ _)) _ _ _); k_dflt ((refine kba_turn (value' := PySem.Expr.Name (PySem.Str.ofString "_") ⟨0, 0, 0, 0⟩) (fun _ => rfl) ?_); first | (refine' kim_tup ?itN ?itm ?itc ?itd ?itlo ?ithi ?itj ?itx ?_ ?its; (case itN => k_asm); (case itm => k_mem); (case itc => exact rfl); (case itd => exact rfl); (case itlo => decide); (case ithi => decide); (case itj => exact rfl); (case itx => exact rfl); (case its => with_unfolding_all rfl)) | (refine' kim_list ?itN ?itm ?itc ?itd ?itlo ?ithi ?itx ?_ ?its; (case itN => k_asm); (case itm => k_mem); (case itc => exact rfl); (case itd => exact rfl); (case itlo => decide); (case ithi => decide); (case itx => exact rfl); (case its => with_unfolding_all rfl))))
  k_with "subscriptTail Subscript Name Constant Name ref int" => ((with_reducible show wpAny _ _ (subscriptTail _ _ (Value.ref _) (Value.int _ _)) _ _ _); k_dflt ((refine kba_turn (value' := PySem.Expr.Name (PySem.Str.ofString "_") ⟨0, 0, 0, 0⟩) (fun _ => rfl) ?_); first | (refine' kim_tup ?itN ?itm ?itc ?itd ?itlo ?ithi ?itj ?itx ?_ ?its; (case itN => k_asm); (case itm => k_mem); (case itc => exact rfl); (case itd => exact rfl); (case itlo => decide); (case ithi => decide); (case itj => exact rfl); (case itx => exact rfl); (case its => with_unfolding_all rfl)) | (refine' kim_list ?itN ?itm ?itc ?itd ?itlo ?ithi ?itx ?_ ?its; (case itN => k_asm); (case itm => k_mem); (case itc => exact rfl); (case itd => exact rfl); (case itlo => decide); (case ithi => decide); (case itx => exact rfl); (case its => with_unfolding_all rfl))))
  k_with "callWith ref nil nil" => (k_here; k_dflt (first | (refine' callWith_K ?kq1 ?kq2 ?_; (case kq1 => k_asm); (case kq2 => k_is); k_whole) | (refine' callWith_K0 ?kq1 ?kq2 ?_; (case kq1 => k_in); (case kq2 => k_is); k_whole)))
  k_with "CompEnd ref" => (k_dflt (first | (refine cend_new (by with_reducible assumption) (by with_reducible assumption) (by with_reducible assumption) ?ceo trivial ?_; (case ceo => first | (with_reducible assumption) | (simp only [LCg.Off3, and_true]; with_reducible assumption))) | (refine cend_same (by with_reducible assumption) (by with_reducible assumption) ?ceo trivial ?_; (case ceo => first | (with_reducible assumption) | (simp only [LCg.Off3, and_true]; with_reducible assumption))) | (refine cend_same (by with_reducible assumption) (by with_reducible assumption) ?ceo ?ceS ?_; (case ceo => first | (with_reducible assumption) | (simp only [LCg.Off3, and_true]; with_reducible assumption)); (case ceS => (refine' Or.inr ⟨_, ?ca, ?cb, _, ?cc⟩; (case ca => k_mem); (case cb => rfl); (case cc => rfl))))))
  k_with "CompEnd" => (k_dflt (first | (refine cend_new (by with_reducible assumption) (by with_reducible assumption) (by with_reducible assumption) ?ceo trivial ?_; (case ceo => first | (with_reducible assumption) | (simp only [LCg.Off3, and_true]; with_reducible assumption))) | (refine cend_same (by with_reducible assumption) (by with_reducible assumption) ?ceo trivial ?_; (case ceo => first | (with_reducible assumption) | (simp only [LCg.Off3, and_true]; with_reducible assumption))) | (refine cend_same (by with_reducible assumption) (by with_reducible assumption) ?ceo ?ceS ?_; (case ceo => first | (with_reducible assumption) | (simp only [LCg.Off3, and_true]; with_reducible assumption)); (case ceS => (refine' Or.inr ⟨_, ?ca, ?cb, _, ?cc⟩; (case ca => k_mem); (case cb => rfl); (case cc => rfl))))))
  k_with "CompEnd none" => (k_dflt (first | (refine cend_new (by with_reducible assumption) (by with_reducible assumption) (by with_reducible assumption) ?ceo trivial ?_; (case ceo => first | (with_reducible assumption) | (simp only [LCg.Off3, and_true]; with_reducible assumption))) | (refine cend_same (by with_reducible assumption) (by with_reducible assumption) ?ceo trivial ?_; (case ceo => first | (with_reducible assumption) | (simp only [LCg.Off3, and_true]; with_reducible assumption))) | (refine cend_same (by with_reducible assumption) (by with_reducible assumption) ?ceo ?ceS ?_; (case ceo => first | (with_reducible assumption) | (simp only [LCg.Off3, and_true]; with_reducible assumption)); (case ceS => (refine' Or.inr ⟨_, ?ca, ?cb, _, ?cc⟩; (case ca => k_mem); (case cb => rfl); (case cc => rfl))))))
  k_with "CompEnd int" => (k_dflt (first | (refine cend_new (by with_reducible assumption) (by with_reducible assumption) (by with_reducible assumption) ?ceo trivial ?_; (case ceo => first | (with_reducible assumption) | (simp only [LCg.Off3, and_true]; with_reducible assumption))) | (refine cend_same (by with_reducible assumption) (by with_reducible assumption) ?ceo trivial ?_; (case ceo => first | (with_reducible assumption) | (simp only [LCg.Off3, and_true]; with_reducible assumption))) | (refine cend_same (by with_reducible assumption) (by with_reducible assumption) ?ceo ?ceS ?_; (case ceo => first | (with_reducible assumption) | (simp only [LCg.Off3, and_true]; with_reducible assumption)); (case ceS => (refine' Or.inr ⟨_, ?ca, ?cb, _, ?cc⟩; (case ca => k_mem); (case cb => rfl); (case cc => rfl))))))
  k_with "exec For Name Call cons nil" => (k_here; (rename Fr _ _ _ _ => lF'); (with_unfolding_all refine' For_turns lF' ?_ ?k4 ?kE; (case k4 => (intro _; rfl)); (case kE => first | assumption | passes_own | with_unfolding_all passes_own); k_whole))
  k_with "exec For Name Name cons nil" => (k_here; (rename Fr _ _ _ _ => lF'); (with_unfolding_all refine' For_turns lF' ?_ ?k4 ?kE; (case k4 => (intro _; rfl)); (case kE => first | assumption | passes_own | with_unfolding_all passes_own); k_whole))
  k_with "pyIter ref" => ((with_reducible show wpAny _ _ (pyIter (Value.ref _)) (fun it s₂ => TurnsAt _ _ _ _ _ _ _ _ _ it s₂) _ _); (rename Fr _ _ _ _ => lF'); (rename News _ _ _ _ => lN'); (first | (with_unfolding_all refine iter_rangeF (n := 3) (by rfl) (by assumption) (by first | decide | rfl) (by first | decide | rfl) lF' (kti_tail lN') ?_) | (with_unfolding_all refine iter_rangeF (n := 4) (by rfl) (by assumption) (by first | decide | rfl) (by first | decide | rfl) lF' (kti_tail lN') ?_) | (with_unfolding_all refine' iter_listTurns (vs := [.ref _, .ref _, .ref _]) ?ih lF' lN' ?im ?ic ?id ?_; (case im => exact List.mem_cons_self); (case ih => rfl); (case ic => rfl); (case id => rfl)) | (with_unfolding_all refine' iter_listTurns (vs := [.int _ _, .int _ _, .int _ _]) ?ih lF' lN' ?im ?ic ?id ?_; (case im => k_mem); (case ih => rfl); (case ic => rfl); (case id => rfl))); clear lF' lN'; intro I7 l7; have off7 := lt_ne l7; have ic2 := off7 _ List.mem_cons_self; have iR0 := off7 _ (List.mem_cons_of_mem _ List.mem_cons_self); have iR1 := off7 _ (List.mem_cons_of_mem _ (List.mem_cons_of_mem _ List.mem_cons_self)); have iR2 := off7 _ (List.mem_cons_of_mem _ (List.mem_cons_of_mem _ (List.mem_cons_of_mem _ List.mem_cons_self))); have i2 : @Ne Nat I7 c2 := ic2.symm; have i10 : @Ne Nat I7 R0 := iR0.symm; have i11 : @Ne Nat I7 R1 := iR1.symm; have i12 : @Ne Nat I7 R2 := iR2.symm; have offn : ∀ p ∈ news, p.1 ≠ I7 := fun p hp => off7 p (List.mem_cons_of_mem _ (List.mem_cons_of_mem _ (List.mem_cons_of_mem _ (List.mem_cons_of_mem _ hp)))); clear off7)
  k_with "RestF" => (k_dflt (first | (refine RestF.succ ?_; intro t7 h7 tk7 F7 N7; (try dsimp only)) | (refine RestF.zero ?_; intro h7 tk7 F7 N7; (try dsimp only))))
  k_with "UnrEnd" => ((rename Fr _ _ _ _ => lF'); (rename News _ _ _ _ => lN'); k_dflt (refine UnrEnd.intro lF' lN' _ (fun p hp => hp) (List.forall_mem_cons.mpr ⟨ic2, List.forall_mem_cons.mpr ⟨iR0, List.forall_mem_cons.mpr ⟨iR1, List.forall_mem_cons.mpr ⟨iR2, offn⟩⟩⟩⟩) ?_))
  k_with "execs cons Assign cons" => ((with_reducible show wpAny _ _ (execs (Stmt.Assign [Expr.Name (Str.ofString "trees") _] _ _ :: _) _) _ _ _); (rename Fr _ _ _ _ => lF'); (rename News _ _ _ _ => lN'); (rename _ = _ ∨ _ = _ ∨ _ = _ => ha9); (rename _ ≤ _ ∧ _ ≤ _ ∧ _ ≤ _ => hb9); have q9 := v2fin ha9 hb9 hn0 hn1 hn2 hn3 hn4 hn5; refine' hnext _ _ _ _ _ _ _ _ _ _ _ _ q9.1 q9.2.1 q9.2.2.1 q9.2.2.2.1 q9.2.2.2.2.1 q9.2.2.2.2.2.1 q9.2.2.2.2.2.2 ?nd2 lF' lN'; (case nd2 => assumption))
  k_with "execs cons For cons" => ((with_reducible show wpAny _ _ (execs (Stmt.Assign [Expr.Name (Str.ofString "trees") _] _ _ :: _) _) _ _ _); (rename Fr _ _ _ _ => lF'); (rename News _ _ _ _ => lN'); (rename _ = _ ∨ _ = _ ∨ _ = _ => ha9); (rename _ ≤ _ ∧ _ ≤ _ ∧ _ ≤ _ => hb9); have q9 := v2fin ha9 hb9 hn0 hn1 hn2 hn3 hn4 hn5; refine' hnext _ _ _ _ _ _ _ _ _ _ _ _ q9.1 q9.2.1 q9.2.2.1 q9.2.2.2.1 q9.2.2.2.2.1 q9.2.2.2.2.2.1 q9.2.2.2.2.2.2 ?nd2 lF' lN'; (case nd2 => assumption))
  k_steps
  all_goals k_data
end
end Mine
namespace Mine
theorem main_hc {S aW R2 R1 R0 : Addr} (l0 : @LT.lt Nat _ 51 S ∧ @LT.lt Nat _ 44 S) (qD : @LT.lt Nat _ (S + 1 + 1 + 1 + 1 + 1 + 1 + 1) R0) (qC : @LT.lt Nat _ R0 R1) (qB : @LT.lt Nat _ R1 R2) (qA : @LT.lt Nat _ R2 aW) : @LT.lt Nat _ 44 (S + 1) ∧ @LT.lt Nat _ 51 (S + 1) ∧ @LT.lt Nat _ (S + 1) (S + 1 + 1) ∧ @LT.lt Nat _ (S + 1 + 1) (S + 1 + 1 + 1) ∧ @LT.lt Nat _ (S + 1 + 1 + 1) (S + 1 + 1 + 1 + 1) ∧ @LT.lt Nat _ (S + 1 + 1 + 1 + 1) (S + 1 + 1 + 1 + 1 + 1) ∧ @LT.lt Nat _ (S + 1 + 1 + 1 + 1 + 1) (S + 1 + 1 + 1 + 1 + 1 + 1) ∧ @LT.lt Nat _ (S + 1 + 1 + 1 + 1 + 1 + 1) (S + 1 + 1 + 1 + 1 + 1 + 1 + 1) ∧ @LT.lt Nat _ (S + 1 + 1 + 1 + 1 + 1 + 1 + 1) R0 ∧ @LT.lt Nat _ R0 R1 ∧ @LT.lt Nat _ R1 R2 ∧ @LT.lt Nat _ R2 aW :=
  ⟨Nat.lt_succ_of_lt l0.2, Nat.lt_succ_of_lt l0.1, Nat.lt_succ_self _, Nat.lt_succ_self _, Nat.lt_succ_self _, Nat.lt_succ_self _, Nat.lt_succ_self _, Nat.lt_succ_self _, qD, qC, qB, qA⟩
theorem main_ne {aW R2 R1 R0 c7 c6 c5 c4 c3 c2 c1 : Addr} (h : @LT.lt Nat _ 44 c1 ∧ @LT.lt Nat _ 51 c1 ∧ @LT.lt Nat _ c1 c2 ∧ @LT.lt Nat _ c2 c3 ∧ @LT.lt Nat _ c3 c4 ∧ @LT.lt Nat _ c4 c5 ∧ @LT.lt Nat _ c5 c6 ∧ @LT.lt Nat _ c6 c7 ∧ @LT.lt Nat _ c7 R0 ∧ @LT.lt Nat _ R0 R1 ∧ @LT.lt Nat _ R1 R2 ∧ @LT.lt Nat _ R2 aW) : (@Ne Nat R0 c2 ∧ @Ne Nat R1 c2 ∧ @Ne Nat R2 c2 ∧ @Ne Nat R0 R1 ∧ @Ne Nat R0 R2 ∧ @Ne Nat R1 R2) ∧ ((∀ x ∈ [44, 51, c3, c7, c6, c5, c4, c1, aW], @Ne Nat x c2) ∧ (∀ x ∈ [44, 51, c3, c7, c6, c5, c4, c1, aW], @Ne Nat x R0) ∧ (∀ x ∈ [44, 51, c3, c7, c6, c5, c4, c1, aW], @Ne Nat x R1) ∧ (∀ x ∈ [44, 51, c3, c7, c6, c5, c4, c1, aW], @Ne Nat x R2)) ∧ ((∀ x ∈ [c2, R0, R1, R2, c1, aW], @Ne Nat x c3) ∧ (∀ x ∈ [c2, R0, R1, R2, c1, aW], @Ne Nat x c4) ∧ (∀ x ∈ [c2, R0, R1, R2, c1, aW], @Ne Nat x c5) ∧ (∀ x ∈ [c2, R0, R1, R2, c1, aW], @Ne Nat x c6) ∧ (∀ x ∈ [c2, R0, R1, R2, c1, aW], @Ne Nat x c7)) ∧ ∀ x ∈ [c2, R0, R1, R2, c1, aW], @Ne Nat 44 x ∧ @Ne Nat 51 x :=
  ⟨⟨Nat.ne_of_gt (Nat.lt_trans h.2.2.2.1 (Nat.lt_trans h.2.2.2.2.1 (Nat.lt_trans h.2.2.2.2.2.1 (Nat.lt_trans h.2.2.2.2.2.2.1 (Nat.lt_trans h.2.2.2.2.2.2.2.1 h.2.2.2.2.2.2.2.2.1))))), Nat.ne_of_gt (Nat.lt_trans h.2.2.2.1 (Nat.lt_trans h.2.2.2.2.1 (Nat.lt_trans h.2.2.2.2.2.1 (Nat.lt_trans h.2.2.2.2.2.2.1 (Nat.lt_trans h.2.2.2.2.2.2.2.1 (Nat.lt_trans h.2.2.2.2.2.2.2.2.1 h.2.2.2.2.2.2.2.2.2.1)))))), Nat.ne_of_gt (Nat.lt_trans h.2.2.2.1 (Nat.lt_trans h.2.2.2.2.1 (Nat.lt_trans h.2.2.2.2.2.1 (Nat.lt_trans h.2.2.2.2.2.2.1 (Nat.lt_trans h.2.2.2.2.2.2.2.1 (Nat.lt_trans h.2.2.2.2.2.2.2.2.1 (Nat.lt_trans h.2.2.2.2.2.2.2.2.2.1 h.2.2.2.2.2.2.2.2.2.2.1))))))), Nat.ne_of_lt h.2.2.2.2.2.2.2.2.2.1, Nat.ne_of_lt (Nat.lt_trans h.2.2.2.2.2.2.2.2.2.1 h.2.2.2.2.2.2.2.2.2.2.1), Nat.ne_of_lt h.2.2.2.2.2.2.2.2.2.2.1⟩, ⟨(List.forall_mem_cons.mpr ⟨Nat.ne_of_lt (Nat.lt_trans h.1 h.2.2.1), (List.forall_mem_cons.mpr ⟨Nat.ne_of_lt (Nat.lt_trans h.2.1 h.2.2.1), (List.forall_mem_cons.mpr ⟨Nat.ne_of_gt h.2.2.2.1, (List.forall_mem_cons.mpr ⟨Nat.ne_of_gt (Nat.lt_trans h.2.2.2.1 (Nat.lt_trans h.2.2.2.2.1 (Nat.lt_trans h.2.2.2.2.2.1 (Nat.lt_trans h.2.2.2.2.2.2.1 h.2.2.2.2.2.2.2.1)))), (List.forall_mem_cons.mpr ⟨Nat.ne_of_gt (Nat.lt_trans h.2.2.2.1 (Nat.lt_trans h.2.2.2.2.1 (Nat.lt_trans h.2.2.2.2.2.1 h.2.2.2.2.2.2.1))), (List.forall_mem_cons.mpr ⟨Nat.ne_of_gt (Nat.lt_trans h.2.2.2.1 (Nat.lt_trans h.2.2.2.2.1 h.2.2.2.2.2.1)), (List.forall_mem_cons.mpr ⟨Nat.ne_of_gt (Nat.lt_trans h.2.2.2.1 h.2.2.2.2.1), (List.forall_mem_cons.mpr ⟨Nat.ne_of_lt h.2.2.1, (List.forall_mem_cons.mpr ⟨Nat.ne_of_gt (Nat.lt_trans h.2.2.2.1 (Nat.lt_trans h.2.2.2.2.1 (Nat.lt_trans h.2.2.2.2.2.1 (Nat.lt_trans h.2.2.2.2.2.2.1 (Nat.lt_trans h.2.2.2.2.2.2.2.1 (Nat.lt_trans h.2.2.2.2.2.2.2.2.1 (Nat.lt_trans h.2.2.2.2.2.2.2.2.2.1 (Nat.lt_trans h.2.2.2.2.2.2.2.2.2.2.1 h.2.2.2.2.2.2.2.2.2.2.2)))))))), (List.forall_mem_nil _)⟩)⟩)⟩)⟩)⟩)⟩)⟩)⟩)⟩), (List.forall_mem_cons.mpr ⟨Nat.ne_of_lt (Nat.lt_trans h.1 (Nat.lt_trans h.2.2.1 (Nat.lt_trans h.2.2.2.1 (Nat.lt_trans h.2.2.2.2.1 (Nat.lt_trans h.2.2.2.2.2.1 (Nat.lt_trans h.2.2.2.2.2.2.1 (Nat.lt_trans h.2.2.2.2.2.2.2.1 h.2.2.2.2.2.2.2.2.1))))))), (List.forall_mem_cons.mpr ⟨Nat.ne_of_lt (Nat.lt_trans h.2.1 (Nat.lt_trans h.2.2.1 (Nat.lt_trans h.2.2.2.1 (Nat.lt_trans h.2.2.2.2.1 (Nat.lt_trans h.2.2.2.2.2.1 (Nat.lt_trans h.2.2.2.2.2.2.1 (Nat.lt_trans h.2.2.2.2.2.2.2.1 h.2.2.2.2.2.2.2.2.1))))))), (List.forall_mem_cons.mpr ⟨Nat.ne_of_lt (Nat.lt_trans h.2.2.2.2.1 (Nat.lt_trans h.2.2.2.2.2.1 (Nat.lt_trans h.2.2.2.2.2.2.1 (Nat.lt_trans h.2.2.2.2.2.2.2.1 h.2.2.2.2.2.2.2.2.1)))), (List.forall_mem_cons.mpr ⟨Nat.ne_of_lt h.2.2.2.2.2.2.2.2.1, (List.forall_mem_cons.mpr ⟨Nat.ne_of_lt (Nat.lt_trans h.2.2.2.2.2.2.2.1 h.2.2.2.2.2.2.2.2.1), (List.forall_mem_cons.mpr ⟨Nat.ne_of_lt (Nat.lt_trans h.2.2.2.2.2.2.1 (Nat.lt_trans h.2.2.2.2.2.2.2.1 h.2.2.2.2.2.2.2.2.1)), (List.forall_mem_cons.mpr ⟨Nat.ne_of_lt (Nat.lt_trans h.2.2.2.2.2.1 (Nat.lt_trans h.2.2.2.2.2.2.1 (Nat.lt_trans h.2.2.2.2.2.2.2.1 h.2.2.2.2.2.2.2.2.1))), (List.forall_mem_cons.mpr ⟨Nat.ne_of_lt (Nat.lt_trans h.2.2.1 (Nat.lt_trans h.2.2.2.1 (Nat.lt_trans h.2.2.2.2.1 (Nat.lt_trans h.2.2.2.2.2.1 (Nat.lt_trans h.2.2.2.2.2.2.1 (Nat.lt_trans h.2.2.2.2.2.2.2.1 h.2.2.2.2.2.2.2.2.1)))))), (List.forall_mem_cons.mpr ⟨Nat.ne_of_gt (Nat.lt_trans h.2.2.2.2.2.2.2.2.2.1 (Nat.lt_trans h.2.2.2.2.2.2.2.2.2.2.1 h.2.2.2.2.2.2.2.2.2.2.2)), (List.forall_mem_nil _)⟩)⟩)⟩)⟩)⟩)⟩)⟩)⟩)⟩), (List.forall_mem_cons.mpr ⟨Nat.ne_of_lt (Nat.lt_trans h.1 (Nat.lt_trans h.2.2.1 (Nat.lt_trans h.2.2.2.1 (Nat.lt_trans h.2.2.2.2.1 (Nat.lt_trans h.2.2.2.2.2.1 (Nat.lt_trans h.2.2.2.2.2.2.1 (Nat.lt_trans h.2.2.2.2.2.2.2.1 (Nat.lt_trans h.2.2.2.2.2.2.2.2.1 h.2.2.2.2.2.2.2.2.2.1)))))))), (List.forall_mem_cons.mpr ⟨Nat.ne_of_lt (Nat.lt_trans h.2.1 (Nat.lt_trans h.2.2.1 (Nat.lt_trans h.2.2.2.1 (Nat.lt_trans h.2.2.2.2.1 (Nat.lt_trans h.2.2.2.2.2.1 (Nat.lt_trans h.2.2.2.2.2.2.1 (Nat.lt_trans h.2.2.2.2.2.2.2.1 (Nat.lt_trans h.2.2.2.2.2.2.2.2.1 h.2.2.2.2.2.2.2.2.2.1)))))))), (List.forall_mem_cons.mpr ⟨Nat.ne_of_lt (Nat.lt_trans h.2.2.2.2.1 (Nat.lt_trans h.2.2.2.2.2.1 (Nat.lt_trans h.2.2.2.2.2.2.1 (Nat.lt_trans h.2.2.2.2.2.2.2.1 (Nat.lt_trans h.2.2.2.2.2.2.2.2.1 h.2.2.2.2.2.2.2.2.2.1))))), (List.forall_mem_cons.mpr ⟨Nat.ne_of_lt (Nat.lt_trans h.2.2.2.2.2.2.2.2.1 h.2.2.2.2.2.2.2.2.2.1), (List.forall_mem_cons.mpr ⟨Nat.ne_of_lt (Nat.lt_trans h.2.2.2.2.2.2.2.1 (Nat.lt_trans h.2.2.2.2.2.2.2.2.1 h.2.2.2.2.2.2.2.2.2.1)), (List.forall_mem_cons.mpr ⟨Nat.ne_of_lt (Nat.lt_trans h.2.2.2.2.2.2.1 (Nat.lt_trans h.2.2.2.2.2.2.2.1 (Nat.lt_trans h.2.2.2.2.2.2.2.2.1 h.2.2.2.2.2.2.2.2.2.1))), (List.forall_mem_cons.mpr ⟨Nat.ne_of_lt (Nat.lt_trans h.2.2.2.2.2.1 (Nat.lt_trans h.2.2.2.2.2.2.1 (Nat.lt_trans h.2.2.2.2.2.2.2.1 (Nat.lt_trans h.2.2.2.2.2.2.2.2.1 h.2.2.2.2.2.2.2.2.2.1)))), (List.forall_mem_cons.mpr ⟨Nat.ne_of_lt (Nat.lt_trans h.2.2.1 (Nat.lt_trans h.2.2.2.1 (Nat.lt_trans h.2.2.2.2.1 (Nat.lt_trans h.2.2.2.2.2.1 (Nat.lt_trans h.2.2.2.2.2.2.1 (Nat.lt_trans h.2.2.2.2.2.2.2.1 (Nat.lt_trans h.2.2.2.2.2.2.2.2.1 h.2.2.2.2.2.2.2.2.2.1))))))), (List.forall_mem_cons.mpr ⟨Nat.ne_of_gt (Nat.lt_trans h.2.2.2.2.2.2.2.2.2.2.1 h.2.2.2.2.2.2.2.2.2.2.2), (List.forall_mem_nil _)⟩)⟩)⟩)⟩)⟩)⟩)⟩)⟩)⟩), (List.forall_mem_cons.mpr ⟨Nat.ne_of_lt (Nat.lt_trans h.1 (Nat.lt_trans h.2.2.1 (Nat.lt_trans h.2.2.2.1 (Nat.lt_trans h.2.2.2.2.1 (Nat.lt_trans h.2.2.2.2.2.1 (Nat.lt_trans h.2.2.2.2.2.2.1 (Nat.lt_trans h.2.2.2.2.2.2.2.1 (Nat.lt_trans h.2.2.2.2.2.2.2.2.1 (Nat.lt_trans h.2.2.2.2.2.2.2.2.2.1 h.2.2.2.2.2.2.2.2.2.2.1))))))))), (List.forall_mem_cons.mpr ⟨Nat.ne_of_lt (Nat.lt_trans h.2.1 (Nat.lt_trans h.2.2.1 (Nat.lt_trans h.2.2.2.1 (Nat.lt_trans h.2.2.2.2.1 (Nat.lt_trans h.2.2.2.2.2.1 (Nat.lt_trans h.2.2.2.2.2.2.1 (Nat.lt_trans h.2.2.2.2.2.2.2.1 (Nat.lt_trans h.2.2.2.2.2.2.2.2.1 (Nat.lt_trans h.2.2.2.2.2.2.2.2.2.1 h.2.2.2.2.2.2.2.2.2.2.1))))))))), (List.forall_mem_cons.mpr ⟨Nat.ne_of_lt (Nat.lt_trans h.2.2.2.2.1 (Nat.lt_trans h.2.2.2.2.2.1 (Nat.lt_trans h.2.2.2.2.2.2.1 (Nat.lt_trans h.2.2.2.2.2.2.2.1 (Nat.lt_trans h.2.2.2.2.2.2.2.2.1 (Nat.lt_trans h.2.2.2.2.2.2.2.2.2.1 h.2.2.2.2.2.2.2.2.2.2.1)))))), (List.forall_mem_cons.mpr ⟨Nat.ne_of_lt (Nat.lt_trans h.2.2.2.2.2.2.2.2.1 (Nat.lt_trans h.2.2.2.2.2.2.2.2.2.1 h.2.2.2.2.2.2.2.2.2.2.1)), (List.forall_mem_cons.mpr ⟨Nat.ne_of_lt (Nat.lt_trans h.2.2.2.2.2.2.2.1 (Nat.lt_trans h.2.2.2.2.2.2.2.2.1 (Nat.lt_trans h.2.2.2.2.2.2.2.2.2.1 h.2.2.2.2.2.2.2.2.2.2.1))), (List.forall_mem_cons.mpr ⟨Nat.ne_of_lt (Nat.lt_trans h.2.2.2.2.2.2.1 (Nat.lt_trans h.2.2.2.2.2.2.2.1 (Nat.lt_trans h.2.2.2.2.2.2.2.2.1 (Nat.lt_trans h.2.2.2.2.2.2.2.2.2.1 h.2.2.2.2.2.2.2.2.2.2.1)))), (List.forall_mem_cons.mpr ⟨Nat.ne_of_lt (Nat.lt_trans h.2.2.2.2.2.1 (Nat.lt_trans h.2.2.2.2.2.2.1 (Nat.lt_trans h.2.2.2.2.2.2.2.1 (Nat.lt_trans h.2.2.2.2.2.2.2.2.1 (Nat.lt_trans h.2.2.2.2.2.2.2.2.2.1 h.2.2.2.2.2.2.2.2.2.2.1))))), (List.forall_mem_cons.mpr ⟨Nat.ne_of_lt (Nat.lt_trans h.2.2.1 (Nat.lt_trans h.2.2.2.1 (Nat.lt_trans h.2.2.2.2.1 (Nat.lt_trans h.2.2.2.2.2.1 (Nat.lt_trans h.2.2.2.2.2.2.1 (Nat.lt_trans h.2.2.2.2.2.2.2.1 (Nat.lt_trans h.2.2.2.2.2.2.2.2.1 (Nat.lt_trans h.2.2.2.2.2.2.2.2.2.1 h.2.2.2.2.2.2.2.2.2.2.1)))))))), (List.forall_mem_cons.mpr ⟨Nat.ne_of_gt h.2.2.2.2.2.2.2.2.2.2.2, (List.forall_mem_nil _)⟩)⟩)⟩)⟩)⟩)⟩)⟩)⟩)⟩)⟩, ⟨(List.forall_mem_cons.mpr ⟨Nat.ne_of_lt h.2.2.2.1, (List.forall_mem_cons.mpr ⟨Nat.ne_of_gt (Nat.lt_trans h.2.2.2.2.1 (Nat.lt_trans h.2.2.2.2.2.1 (Nat.lt_trans h.2.2.2.2.2.2.1 (Nat.lt_trans h.2.2.2.2.2.2.2.1 h.2.2.2.2.2.2.2.2.1)))), (List.forall_mem_cons.mpr ⟨Nat.ne_of_gt (Nat.lt_trans h.2.2.2.2.1 (Nat.lt_trans h.2.2.2.2.2.1 (Nat.lt_trans h.2.2.2.2.2.2.1 (Nat.lt_trans h.2.2.2.2.2.2.2.1 (Nat.lt_trans h.2.2.2.2.2.2.2.2.1 h.2.2.2.2.2.2.2.2.2.1))))), (List.forall_mem_cons.mpr ⟨Nat.ne_of_gt (Nat.lt_trans h.2.2.2.2.1 (Nat.lt_trans h.2.2.2.2.2.1 (Nat.lt_trans h.2.2.2.2.2.2.1 (Nat.lt_trans h.2.2.2.2.2.2.2.1 (Nat.lt_trans h.2.2.2.2.2.2.2.2.1 (Nat.lt_trans h.2.2.2.2.2.2.2.2.2.1 h.2.2.2.2.2.2.2.2.2.2.1)))))), (List.forall_mem_cons.mpr ⟨Nat.ne_of_lt (Nat.lt_trans h.2.2.1 h.2.2.2.1), (List.forall_mem_cons.mpr ⟨Nat.ne_of_gt (Nat.lt_trans h.2.2.2.2.1 (Nat.lt_trans h.2.2.2.2.2.1 (Nat.lt_trans h.2.2.2.2.2.2.1 (Nat.lt_trans h.2.2.2.2.2.2.2.1 (Nat.lt_trans h.2.2.2.2.2.2.2.2.1 (Nat.lt_trans h.2.2.2.2.2.2.2.2.2.1 (Nat.lt_trans h.2.2.2.2.2.2.2.2.2.2.1 h.2.2.2.2.2.2.2.2.2.2.2))))))), (List.forall_mem_nil _)⟩)⟩)⟩)⟩)⟩)⟩), (List.forall_mem_cons.mpr ⟨Nat.ne_of_lt (Nat.lt_trans h.2.2.2.1 h.2.2.2.2.1), (List.forall_mem_cons.mpr ⟨Nat.ne_of_gt (Nat.lt_trans h.2.2.2.2.2.1 (Nat.lt_trans h.2.2.2.2.2.2.1 (Nat.lt_trans h.2.2.2.2.2.2.2.1 h.2.2.2.2.2.2.2.2.1))), (List.forall_mem_cons.mpr ⟨Nat.ne_of_gt (Nat.lt_trans h.2.2.2.2.2.1 (Nat.lt_trans h.2.2.2.2.2.2.1 (Nat.lt_trans h.2.2.2.2.2.2.2.1 (Nat.lt_trans h.2.2.2.2.2.2.2.2.1 h.2.2.2.2.2.2.2.2.2.1)))), (List.forall_mem_cons.mpr ⟨Nat.ne_of_gt (Nat.lt_trans h.2.2.2.2.2.1 (Nat.lt_trans h.2.2.2.2.2.2.1 (Nat.lt_trans h.2.2.2.2.2.2.2.1 (Nat.lt_trans h.2.2.2.2.2.2.2.2.1 (Nat.lt_trans h.2.2.2.2.2.2.2.2.2.1 h.2.2.2.2.2.2.2.2.2.2.1))))), (List.forall_mem_cons.mpr ⟨Nat.ne_of_lt (Nat.lt_trans h.2.2.1 (Nat.lt_trans h.2.2.2.1 h.2.2.2.2.1)), (List.forall_mem_cons.mpr ⟨Nat.ne_of_gt (Nat.lt_trans h.2.2.2.2.2.1 (Nat.lt_trans h.2.2.2.2.2.2.1 (Nat.lt_trans h.2.2.2.2.2.2.2.1 (Nat.lt_trans h.2.2.2.2.2.2.2.2.1 (Nat.lt_trans h.2.2.2.2.2.2.2.2.2.1 (Nat.lt_trans h.2.2.2.2.2.2.2.2.2.2.1 h.2.2.2.2.2.2.2.2.2.2.2)))))), (List.forall_mem_nil _)⟩)⟩)⟩)⟩)⟩)⟩), (List.forall_mem_cons.mpr ⟨Nat.ne_of_lt (Nat.lt_trans h.2.2.2.1 (Nat.lt_trans h.2.2.2.2.1 h.2.2.2.2.2.1)), (List.forall_mem_cons.mpr ⟨Nat.ne_of_gt (Nat.lt_trans h.2.2.2.2.2.2.1 (Nat.lt_trans h.2.2.2.2.2.2.2.1 h.2.2.2.2.2.2.2.2.1)), (List.forall_mem_cons.mpr ⟨Nat.ne_of_gt (Nat.lt_trans h.2.2.2.2.2.2.1 (Nat.lt_trans h.2.2.2.2.2.2.2.1 (Nat.lt_trans h.2.2.2.2.2.2.2.2.1 h.2.2.2.2.2.2.2.2.2.1))), (List.forall_mem_cons.mpr ⟨Nat.ne_of_gt (Nat.lt_trans h.2.2.2.2.2.2.1 (Nat.lt_trans h.2.2.2.2.2.2.2.1 (Nat.lt_trans h.2.2.2.2.2.2.2.2.1 (Nat.lt_trans h.2.2.2.2.2.2.2.2.2.1 h.2.2.2.2.2.2.2.2.2.2.1)))), (List.forall_mem_cons.mpr ⟨Nat.ne_of_lt (Nat.lt_trans h.2.2.1 (Nat.lt_trans h.2.2.2.1 (Nat.lt_trans h.2.2.2.2.1 h.2.2.2.2.2.1))), (List.forall_mem_cons.mpr ⟨Nat.ne_of_gt (Nat.lt_trans h.2.2.2.2.2.2.1 (Nat.lt_trans h.2.2.2.2.2.2.2.1 (Nat.lt_trans h.2.2.2.2.2.2.2.2.1 (Nat.lt_trans h.2.2.2.2.2.2.2.2.2.1 (Nat.lt_trans h.2.2.2.2.2.2.2.2.2.2.1 h.2.2.2.2.2.2.2.2.2.2.2))))), (List.forall_mem_nil _)⟩)⟩)⟩)⟩)⟩)⟩), (List.forall_mem_cons.mpr ⟨Nat.ne_of_lt (Nat.lt_trans h.2.2.2.1 (Nat.lt_trans h.2.2.2.2.1 (Nat.lt_trans h.2.2.2.2.2.1 h.2.2.2.2.2.2.1))), (List.forall_mem_cons.mpr ⟨Nat.ne_of_gt (Nat.lt_trans h.2.2.2.2.2.2.2.1 h.2.2.2.2.2.2.2.2.1), (List.forall_mem_cons.mpr ⟨Nat.ne_of_gt (Nat.lt_trans h.2.2.2.2.2.2.2.1 (Nat.lt_trans h.2.2.2.2.2.2.2.2.1 h.2.2.2.2.2.2.2.2.2.1)), (List.forall_mem_cons.mpr ⟨Nat.ne_of_gt (Nat.lt_trans h.2.2.2.2.2.2.2.1 (Nat.lt_trans h.2.2.2.2.2.2.2.2.1 (Nat.lt_trans h.2.2.2.2.2.2.2.2.2.1 h.2.2.2.2.2.2.2.2.2.2.1))), (List.forall_mem_cons.mpr ⟨Nat.ne_of_lt (Nat.lt_trans h.2.2.1 (Nat.lt_trans h.2.2.2.1 (Nat.lt_trans h.2.2.2.2.1 (Nat.lt_trans h.2.2.2.2.2.1 h.2.2.2.2.2.2.1)))), (List.forall_mem_cons.mpr ⟨Nat.ne_of_gt (Nat.lt_trans h.2.2.2.2.2.2.2.1 (Nat.lt_trans h.2.2.2.2.2.2.2.2.1 (Nat.lt_trans h.2.2.2.2.2.2.2.2.2.1 (Nat.lt_trans h.2.2.2.2.2.2.2.2.2.2.1 h.2.2.2.2.2.2.2.2.2.2.2)))), (List.forall_mem_nil _)⟩)⟩)⟩)⟩)⟩)⟩), (List.forall_mem_cons.mpr ⟨Nat.ne_of_lt (Nat.lt_trans h.2.2.2.1 (Nat.lt_trans h.2.2.2.2.1 (Nat.lt_trans h.2.2.2.2.2.1 (Nat.lt_trans h.2.2.2.2.2.2.1 h.2.2.2.2.2.2.2.1)))), (List.forall_mem_cons.mpr ⟨Nat.ne_of_gt h.2.2.2.2.2.2.2.2.1, (List.forall_mem_cons.mpr ⟨Nat.ne_of_gt (Nat.lt_trans h.2.2.2.2.2.2.2.2.1 h.2.2.2.2.2.2.2.2.2.1), (List.forall_mem_cons.mpr ⟨Nat.ne_of_gt (Nat.lt_trans h.2.2.2.2.2.2.2.2.1 (Nat.lt_trans h.2.2.2.2.2.2.2.2.2.1 h.2.2.2.2.2.2.2.2.2.2.1)), (List.forall_mem_cons.mpr ⟨Nat.ne_of_lt (Nat.lt_trans h.2.2.1 (Nat.lt_trans h.2.2.2.1 (Nat.lt_trans h.2.2.2.2.1 (Nat.lt_trans h.2.2.2.2.2.1 (Nat.lt_trans h.2.2.2.2.2.2.1 h.2.2.2.2.2.2.2.1))))), (List.forall_mem_cons.mpr ⟨Nat.ne_of_gt (Nat.lt_trans h.2.2.2.2.2.2.2.2.1 (Nat.lt_trans h.2.2.2.2.2.2.2.2.2.1 (Nat.lt_trans h.2.2.2.2.2.2.2.2.2.2.1 h.2.2.2.2.2.2.2.2.2.2.2))), (List.forall_mem_nil _)⟩)⟩)⟩)⟩)⟩)⟩)⟩, (List.forall_mem_cons.mpr ⟨⟨Nat.ne_of_lt (Nat.lt_trans h.1 h.2.2.1), Nat.ne_of_lt (Nat.lt_trans h.2.1 h.2.2.1)⟩, (List.forall_mem_cons.mpr ⟨⟨Nat.ne_of_lt (Nat.lt_trans h.1 (Nat.lt_trans h.2.2.1 (Nat.lt_trans h.2.2.2.1 (Nat.lt_trans h.2.2.2.2.1 (Nat.lt_trans h.2.2.2.2.2.1 (Nat.lt_trans h.2.2.2.2.2.2.1 (Nat.lt_trans h.2.2.2.2.2.2.2.1 h.2.2.2.2.2.2.2.2.1))))))), Nat.ne_of_lt (Nat.lt_trans h.2.1 (Nat.lt_trans h.2.2.1 (Nat.lt_trans h.2.2.2.1 (Nat.lt_trans h.2.2.2.2.1 (Nat.lt_trans h.2.2.2.2.2.1 (Nat.lt_trans h.2.2.2.2.2.2.1 (Nat.lt_trans h.2.2.2.2.2.2.2.1 h.2.2.2.2.2.2.2.2.1)))))))⟩, (List.forall_mem_cons.mpr ⟨⟨Nat.ne_of_lt (Nat.lt_trans h.1 (Nat.lt_trans h.2.2.1 (Nat.lt_trans h.2.2.2.1 (Nat.lt_trans h.2.2.2.2.1 (Nat.lt_trans h.2.2.2.2.2.1 (Nat.lt_trans h.2.2.2.2.2.2.1 (Nat.lt_trans h.2.2.2.2.2.2.2.1 (Nat.lt_trans h.2.2.2.2.2.2.2.2.1 h.2.2.2.2.2.2.2.2.2.1)))))))), Nat.ne_of_lt (Nat.lt_trans h.2.1 (Nat.lt_trans h.2.2.1 (Nat.lt_trans h.2.2.2.1 (Nat.lt_trans h.2.2.2.2.1 (Nat.lt_trans h.2.2.2.2.2.1 (Nat.lt_trans h.2.2.2.2.2.2.1 (Nat.lt_trans h.2.2.2.2.2.2.2.1 (Nat.lt_trans h.2.2.2.2.2.2.2.2.1 h.2.2.2.2.2.2.2.2.2.1))))))))⟩, (List.forall_mem_cons.mpr ⟨⟨Nat.ne_of_lt (Nat.lt_trans h.1 (Nat.lt_trans h.2.2.1 (Nat.lt_trans h.2.2.2.1 (Nat.lt_trans h.2.2.2.2.1 (Nat.lt_trans h.2.2.2.2.2.1 (Nat.lt_trans h.2.2.2.2.2.2.1 (Nat.lt_trans h.2.2.2.2.2.2.2.1 (Nat.lt_trans h.2.2.2.2.2.2.2.2.1 (Nat.lt_trans h.2.2.2.2.2.2.2.2.2.1 h.2.2.2.2.2.2.2.2.2.2.1))))))))), Nat.ne_of_lt (Nat.lt_trans h.2.1 (Nat.lt_trans h.2.2.1 (Nat.lt_trans h.2.2.2.1 (Nat.lt_trans h.2.2.2.2.1 (Nat.lt_trans h.2.2.2.2.2.1 (Nat.lt_trans h.2.2.2.2.2.2.1 (Nat.lt_trans h.2.2.2.2.2.2.2.1 (Nat.lt_trans h.2.2.2.2.2.2.2.2.1 (Nat.lt_trans h.2.2.2.2.2.2.2.2.2.1 h.2.2.2.2.2.2.2.2.2.2.1)))))))))⟩, (List.forall_mem_cons.mpr ⟨⟨Nat.ne_of_lt h.1, Nat.ne_of_lt h.2.1⟩, (List.forall_mem_cons.mpr ⟨⟨Nat.ne_of_lt (Nat.lt_trans h.1 (Nat.lt_trans h.2.2.1 (Nat.lt_trans h.2.2.2.1 (Nat.lt_trans h.2.2.2.2.1 (Nat.lt_trans h.2.2.2.2.2.1 (Nat.lt_trans h.2.2.2.2.2.2.1 (Nat.lt_trans h.2.2.2.2.2.2.2.1 (Nat.lt_trans h.2.2.2.2.2.2.2.2.1 (Nat.lt_trans h.2.2.2.2.2.2.2.2.2.1 (Nat.lt_trans h.2.2.2.2.2.2.2.2.2.2.1 h.2.2.2.2.2.2.2.2.2.2.2)))))))))), Nat.ne_of_lt (Nat.lt_trans h.2.1 (Nat.lt_trans h.2.2.1 (Nat.lt_trans h.2.2.2.1 (Nat.lt_trans h.2.2.2.2.1 (Nat.lt_trans h.2.2.2.2.2.1 (Nat.lt_trans h.2.2.2.2.2.2.1 (Nat.lt_trans h.2.2.2.2.2.2.2.1 (Nat.lt_trans h.2.2.2.2.2.2.2.2.1 (Nat.lt_trans h.2.2.2.2.2.2.2.2.2.1 (Nat.lt_trans h.2.2.2.2.2.2.2.2.2.2.1 h.2.2.2.2.2.2.2.2.2.2.2))))))))))⟩, (List.forall_mem_nil _)⟩)⟩)⟩)⟩)⟩)⟩)⟩
theorem pickA {h₀ h : Heap} {L : Addr} {aW R2 R1 R0 d1 d2 d3 d4 d5 c7 c6 c5 c4 c3 c2 c1 t51 t44 : Addr × Obj} (N : News h₀ L h [aW, R2, R1, R0, d1, d2, d3, d4, d5, c7, c6, c5, c4, c3, c2, c1, t51, t44]) : News h₀ L h [c2, R0, R1, R2, t44, t51, c3, c7, c6, c5, c4, c1, aW] := cb_drop N (List.forall_mem_cons.mpr ⟨(List.mem_cons_of_mem _ (List.mem_cons_of_mem _ (List.mem_cons_of_mem _ (List.mem_cons_of_mem _ (List.mem_cons_of_mem _ (List.mem_cons_of_mem _ (List.mem_cons_of_mem _ (List.mem_cons_of_mem _ (List.mem_cons_of_mem _ (List.mem_cons_of_mem _ (List.mem_cons_of_mem _ (List.mem_cons_of_mem _ (List.mem_cons_of_mem _ (List.mem_cons_of_mem _ List.mem_cons_self)))))))))))))), (List.forall_mem_cons.mpr ⟨(List.mem_cons_of_mem _ (List.mem_cons_of_mem _ (List.mem_cons_of_mem _ List.mem_cons_self))), (List.forall_mem_cons.mpr ⟨(List.mem_cons_of_mem _ (List.mem_cons_of_mem _ List.mem_cons_self)), (List.forall_mem_cons.mpr ⟨(List.mem_cons_of_mem _ List.mem_cons_self), (List.forall_mem_cons.mpr ⟨(List.mem_cons_of_mem _ (List.mem_cons_of_mem _ (List.mem_cons_of_mem _ (List.mem_cons_of_mem _ (List.mem_cons_of_mem _ (List.mem_cons_of_mem _ (List.mem_cons_of_mem _ (List.mem_cons_of_mem _ (List.mem_cons_of_mem _ (List.mem_cons_of_mem _ (List.mem_cons_of_mem _ (List.mem_cons_of_mem _ (List.mem_cons_of_mem _ (List.mem_cons_of_mem _ (List.mem_cons_of_mem _ (List.mem_cons_of_mem _ (List.mem_cons_of_mem _ List.mem_cons_self))))))))))))))))), (List.forall_mem_cons.mpr ⟨(List.mem_cons_of_mem _ (List.mem_cons_of_mem _ (List.mem_cons_of_mem _ (List.mem_cons_of_mem _ (List.mem_cons_of_mem _ (List.mem_cons_of_mem _ (List.mem_cons_of_mem _ (List.mem_cons_of_mem _ (List.mem_cons_of_mem _ (List.mem_cons_of_mem _ (List.mem_cons_of_mem _ (List.mem_cons_of_mem _ (List.mem_cons_of_mem _ (List.mem_cons_of_mem _ (List.mem_cons_of_mem _ (List.mem_cons_of_mem _ List.mem_cons_self)))))))))))))))), (List.forall_mem_cons.mpr ⟨(List.mem_cons_of_mem _ (List.mem_cons_of_mem _ (List.mem_cons_of_mem _ (List.mem_cons_of_mem _ (List.mem_cons_of_mem _ (List.mem_cons_of_mem _ (List.mem_cons_of_mem _ (List.mem_cons_of_mem _ (List.mem_cons_of_mem _ (List.mem_cons_of_mem _ (List.mem_cons_of_mem _ (List.mem_cons_of_mem _ (List.mem_cons_of_mem _ List.mem_cons_self))))))))))))), (List.forall_mem_cons.mpr ⟨(List.mem_cons_of_mem _ (List.mem_cons_of_mem _ (List.mem_cons_of_mem _ (List.mem_cons_of_mem _ (List.mem_cons_of_mem _ (List.mem_cons_of_mem _ (List.mem_cons_of_mem _ (List.mem_cons_of_mem _ (List.mem_cons_of_mem _ List.mem_cons_self))))))))), (List.forall_mem_cons.mpr ⟨(List.mem_cons_of_mem _ (List.mem_cons_of_mem _ (List.mem_cons_of_mem _ (List.mem_cons_of_mem _ (List.mem_cons_of_mem _ (List.mem_cons_of_mem _ (List.mem_cons_of_mem _ (List.mem_cons_of_mem _ (List.mem_cons_of_mem _ (List.mem_cons_of_mem _ List.mem_cons_self)))))))))), (List.forall_mem_cons.mpr ⟨(List.mem_cons_of_mem _ (List.mem_cons_of_mem _ (List.mem_cons_of_mem _ (List.mem_cons_of_mem _ (List.mem_cons_of_mem _ (List.mem_cons_of_mem _ (List.mem_cons_of_mem _ (List.mem_cons_of_mem _ (List.mem_cons_of_mem _ (List.mem_cons_of_mem _ (List.mem_cons_of_mem _ List.mem_cons_self))))))))))), (List.forall_mem_cons.mpr ⟨(List.mem_cons_of_mem _ (List.mem_cons_of_mem _ (List.mem_cons_of_mem _ (List.mem_cons_of_mem _ (List.mem_cons_of_mem _ (List.mem_cons_of_mem _ (List.mem_cons_of_mem _ (List.mem_cons_of_mem _ (List.mem_cons_of_mem _ (List.mem_cons_of_mem _ (List.mem_cons_of_mem _ (List.mem_cons_of_mem _ List.mem_cons_self)))))))))))), (List.forall_mem_cons.mpr ⟨(List.mem_cons_of_mem _ (List.mem_cons_of_mem _ (List.mem_cons_of_mem _ (List.mem_cons_of_mem _ (List.mem_cons_of_mem _ (List.mem_cons_of_mem _ (List.mem_cons_of_mem _ (List.mem_cons_of_mem _ (List.mem_cons_of_mem _ (List.mem_cons_of_mem _ (List.mem_cons_of_mem _ (List.mem_cons_of_mem _ (List.mem_cons_of_mem _ (List.mem_cons_of_mem _ (List.mem_cons_of_mem _ List.mem_cons_self))))))))))))))), (List.forall_mem_cons.mpr ⟨List.mem_cons_self, (List.forall_mem_nil _)⟩)⟩)⟩)⟩)⟩)⟩)⟩)⟩)⟩)⟩)⟩)⟩)⟩)
theorem pickB {h₀ h : Heap} {L : Addr} {c2 R0 R1 R2 t44 t51 c3 c7 c6 c5 c4 c1 aW : Addr × Obj} (N : News h₀ L h [c2, R0, R1, R2, t44, t51, c3, c7, c6, c5, c4, c1, aW]) : News h₀ L h [t44, t51, c3, c7, c6, c5, c4, c2, R0, R1, R2, c1, aW] := cb_drop N (List.forall_mem_cons.mpr ⟨(List.mem_cons_of_mem _ (List.mem_cons_of_mem _ (List.mem_cons_of_mem _ (List.mem_cons_of_mem _ List.mem_cons_self)))), (List.forall_mem_cons.mpr ⟨(List.mem_cons_of_mem _ (List.mem_cons_of_mem _ (List.mem_cons_of_mem _ (List.mem_cons_of_mem _ (List.mem_cons_of_mem _ List.mem_cons_self))))), (List.forall_mem_cons.mpr ⟨(List.mem_cons_of_mem _ (List.mem_cons_of_mem _ (List.mem_cons_of_mem _ (List.mem_cons_of_mem _ (List.mem_cons_of_mem _ (List.mem_cons_of_mem _ List.mem_cons_self)))))), (List.forall_mem_cons.mpr ⟨(List.mem_cons_of_mem _ (List.mem_cons_of_mem _ (List.mem_cons_of_mem _ (List.mem_cons_of_mem _ (List.mem_cons_of_mem _ (List.mem_cons_of_mem _ (List.mem_cons_of_mem _ List.mem_cons_self))))))), (List.forall_mem_cons.mpr ⟨(List.mem_cons_of_mem _ (List.mem_cons_of_mem _ (List.mem_cons_of_mem _ (List.mem_cons_of_mem _ (List.mem_cons_of_mem _ (List.mem_cons_of_mem _ (List.mem_cons_of_mem _ (List.mem_cons_of_mem _ List.mem_cons_self)))))))), (List.forall_mem_cons.mpr ⟨(List.mem_cons_of_mem _ (List.mem_cons_of_mem _ (List.mem_cons_of_mem _ (List.mem_cons_of_mem _ (List.mem_cons_of_mem _ (List.mem_cons_of_mem _ (List.mem_cons_of_mem _ (List.mem_cons_of_mem _ (List.mem_cons_of_mem _ List.mem_cons_self))))))))), (List.forall_mem_cons.mpr ⟨(List.mem_cons_of_mem _ (List.mem_cons_of_mem _ (List.mem_cons_of_mem _ (List.mem_cons_of_mem _ (List.mem_cons_of_mem _ (List.mem_cons_of_mem _ (List.mem_cons_of_mem _ (List.mem_cons_of_mem _ (List.mem_cons_of_mem _ (List.mem_cons_of_mem _ List.mem_cons_self)))))))))), (List.forall_mem_cons.mpr ⟨List.mem_cons_self, (List.forall_mem_cons.mpr ⟨(List.mem_cons_of_mem _ List.mem_cons_self), (List.forall_mem_cons.mpr ⟨(List.mem_cons_of_mem _ (List.mem_cons_of_mem _ List.mem_cons_self)), (List.forall_mem_cons.mpr ⟨(List.mem_cons_of_mem _ (List.mem_cons_of_mem _ (List.mem_cons_of_mem _ List.mem_cons_self))), (List.forall_mem_cons.mpr ⟨(List.mem_cons_of_mem _ (List.mem_cons_of_mem _ (List.mem_cons_of_mem _ (List.mem_cons_of_mem _ (List.mem_cons_of_mem _ (List.mem_cons_of_mem _ (List.mem_cons_of_mem _ (List.mem_cons_of_mem _ (List.mem_cons_of_mem _ (List.mem_cons_of_mem _ (List.mem_cons_of_mem _ List.mem_cons_self))))))))))), (List.forall_mem_cons.mpr ⟨(List.mem_cons_of_mem _ (List.mem_cons_of_mem _ (List.mem_cons_of_mem _ (List.mem_cons_of_mem _ (List.mem_cons_of_mem _ (List.mem_cons_of_mem _ (List.mem_cons_of_mem _ (List.mem_cons_of_mem _ (List.mem_cons_of_mem _ (List.mem_cons_of_mem _ (List.mem_cons_of_mem _ (List.mem_cons_of_mem _ List.mem_cons_self)))))))))))), (List.forall_mem_nil _)⟩)⟩)⟩)⟩)⟩)⟩)⟩)⟩)⟩)⟩)⟩)⟩)⟩)
set_option maxRecDepth 100000 in
set_option maxHeartbeats 8000000 in
theorem walk : PySem.Challenge.rw_hg0003_01.Holds := hd (by
  k_with_none
  k_with "subscriptTail BinOp" => (k_here; k_dflt (refine kba_turn (value' := PySem.Expr.Name (PySem.Str.ofString "_") ⟨0, 0, 0, 0⟩) (fun _ => rfl) ?_))
  k_with "exec Assign cons List" => (rename (IntsAre _ (List.map _ (List.take _ _))) => hI8; obtain ⟨n0, n1, n2, n3, n4, n5, nt0, nt1, nt2, nt3, nt4, nt5, rfl, hn0, hn1, hn2, hn3, hn4, hn5⟩ := six (six_len _) (fun n => fmod_range n 4 (by decide)) hI8; clear hI8)
  k_with "subscriptTail Name Constant ref int" => ((with_reducible show wpAny _ _ (subscriptTail _ _ (Value.ref _) (Value.int _ _)) _ _ _); k_dflt ((refine kba_turn (value' := PySem.Expr.Name (PySem.Str.ofString "_") ⟨0, 0, 0, 0⟩) (fun _ => rfl) ?_); first | (refine' kim_tup ?itN ?itm ?itc ?itd ?itlo ?ithi ?itj ?itx ?_ ?its; (case itN => k_asm); (case itm => k_mem); (case itc => exact rfl); (case itd => exact rfl); (case itlo => decide); (case ithi => decide); (case itj => exact rfl); (case itx => exact rfl); (case its => with_unfolding_all rfl)) | (refine' kim_list ?itN ?itm ?itc ?itd ?itlo ?ithi ?itx ?_ ?its; (case itN => k_asm); (case itm => k_mem); (case itc => exact rfl); (case itd => exact rfl); (case itlo => decide); (case ithi => decide); (case itx => exact rfl); (case its => with_unfolding_all rfl))))
  k_with "subscriptTail" => ((with_reducible show wpAny _ _ (subscriptTail _ _ (Value.ref _) (Value.int _ _)) _ _ _); k_dflt ((refine kba_turn (value' := PySem.Expr.Name (PySem.Str.ofString "_") ⟨0, 0, 0, 0⟩) (fun _ => rfl) ?_); first | (refine' kim_tup ?itN ?itm ?itc ?itd ?itlo ?ithi ?itj ?itx ?_ ?its; (case itN => k_asm); (case itm => k_mem); (case itc => exact rfl); (case itd => exact rfl); (case itlo => decide); (case ithi => decide); (case itj => exact rfl); (case itx => exact rfl); (case its => with_unfolding_all rfl)) | (refine' kim_list ?itN ?itm ?itc ?itd ?itlo ?ithi ?itx ?_ ?its; (case itN => k_asm); (case itm => k_mem); (case itc => exact rfl); (case itd => exact rfl); (case itlo => decide); (case ithi => decide); (case itx => exact rfl); (case its => with_unfolding_all rfl))))
  k_with "subscriptTail Name Name ref int" => ((with_reducible show wpAny _ _ (subscriptTail _ _ (Value.ref _) (Value.int _ _)) _ _ _); k_dflt ((refine kba_turn (value' := PySem.Expr.Name (PySem.Str.ofString "_") ⟨0, 0, 0, 0⟩) (fun _ => rfl) ?_); first | (refine' kim_tup ?itN ?itm ?itc ?itd ?itlo ?ithi ?itj ?itx ?_ ?its; (case itN => k_asm); (case itm => k_mem); (case itc => exact rfl); (case itd => exact rfl); (case itlo => decide); (case ithi => decide); (case itj => exact rfl); (case itx => exact rfl); (case its => with_unfolding_all rfl)) | (refine' kim_list ?itN ?itm ?itc ?itd ?itlo ?ithi ?itx ?_ ?its; (case itN => k_asm); (case itm => k_mem); (case itc => exact rfl); (case itd => exact rfl); (case itlo => decide); (case ithi => decide); (case itx => exact rfl); (case its => with_unfolding_all rfl))))
  k_with "subscriptTail Name BinOp ref int" => ((with_reducible show wpAny _ _ (subscriptTail _ _ (Value.ref _) (Value.int _ _)) _ _ _); k_dflt ((refine kba_turn (value' := PySem.Expr.Name (PySem.Str.ofString "_") ⟨0, 0, 0, 0⟩) (fun _ => rfl) ?_); first | (refine' kim_tup ?itN ?itm ?itc ?itd ?itlo ?ithi ?itj ?itx ?_ ?its; (case itN => k_asm); (case itm => k_mem); (case itc => exact rfl); (case itd => exact rfl); (case itlo => decide); (case ithi => decide); (case itj => exact rfl); (case itx => exact rfl); (case its => with_unfolding_all rfl)) | (refine' kim_list ?itN ?itm ?itc ?itd ?itlo ?ithi ?itx ?_ ?its; (case itN => k_asm); (case itm => k_mem); (case itc => exact rfl); (case itd => exact rfl); (case itlo => decide); (case ithi => decide); (case itx => exact rfl); (case its => with_unfolding_all rfl))))
  k_with "subscriptTail Subscript Name Name Constant ref int" => ((with_reducible show wpAny _ _ (subscriptTail _ _ (Value.ref _) (Value.int _ _)) _ _ _); k_dflt ((refine kba_turn (value' := PySem.Expr.Name (PySem.Str.ofString "_") ⟨0, 0, 0, 0⟩) (fun _ => rfl) ?_); first | (refine' kim_tup ?itN ?itm ?itc ?itd ?itlo ?ithi ?itj ?itx ?_ ?its; (case itN => k_asm); (case itm => k_mem); (case itc => exact rfl); (case itd => exact rfl); (case itlo => decide); (case ithi => decide); (case itj => exact rfl); (case itx => exact rfl); (case its => with_unfolding_all rfl)) | (refine' kim_list ?itN ?itm ?itc ?itd ?itlo ?ithi ?itx ?_ ?its; (case itN => k_asm); (case itm => k_mem); (case itc => exact rfl); (case itd => exact rfl); (case itlo => decide); (case ithi => decide); (case itx => exact rfl); (case its => with_unfolding_all rfl))))
  k_with "subscriptTail Subscript Name Constant Constant ref int" => ((with_reducible show wpAny _ _ (subscriptTail _ _ (Value.ref _) (Value.int _ _)) _ _ _); k_dflt ((refine kba_turn (value' := PySem.Expr.Name (PySem.Str.ofString "_") ⟨0, 0, 0, 0⟩) (fun _ => rfl) ?_); first | (refine' kim_tup ?itN ?itm ?itc ?itd ?itlo ?ithi ?itj ?itx ?_ ?its; (case itN => k_asm); (case itm => k_mem); (case itc => exact rfl); (case itd => exact rfl); (case itlo => decide); (case ithi => decide); (case itj => exact rfl); (case itx => exact rfl); (case its => with_unfolding_all rfl)) | (refine' kim_list ?itN ?itm ?itc ?itd ?itlo ?ithi ?itx ?_ ?its; (case itN => k_asm); (case itm => k_mem); (case itc => exact rfl); (case itd => exact rfl); (case itlo => decide); (case ithi => decide); (case itx => exact rfl); (case its => with_unfolding_all rfl))))
  k_with "subscriptTail Subscript Name Name Name ref int" => ((with_reducible show wpAny _ _ (subscriptTail _ _ (Value.ref _) (Value.int _ _)) _ _ _); k_dflt ((refine kba_turn (value' := PySem.Expr.Name (PySem.Str.ofString "_") ⟨0, 0, 0, 0⟩) (fun _ => rfl) ?_); first | (refine' kim_tup ?itN ?itm ?itc ?itd ?itlo ?ithi ?itj ?itx ?_ ?its; (case itN => k_asm); (case itm => k_mem); (case itc => exact rfl); (case itd => exact rfl); (case itlo => decide); (case ithi => decide); (case itj => exact rfl); (case itx => exact rfl); (case its => with_unfolding_all rfl)) | (refine' kim_list ?itN ?itm ?itc ?itd ?itlo ?ithi ?itx ?_ ?its; (case itN => k_asm); (case itm => k_mem); (case itc => exact rfl); (case itd => exact rfl); (case itlo => decide); (case ithi => decide); (case itx => exact rfl); (case its => with_unfolding_all rfl))))
  k_with "subscriptTail Subscript Name Name BinOp ref int" => ((with_reducible show wpAny _ _ (subscriptTail _ _ (Value.ref _) (Value.int _ _)) _ _ _); k_dflt ((refine kba_turn (value' := PySem.Expr.Name (PySem.Str.ofString "_") ⟨0, 0, 0, 0⟩) (fun _ => rfl) ?_); first | (refine' kim_tup ?itN ?itm ?itc ?itd ?itlo ?ithi ?itj ?itx ?_ ?its; (case itN => k_asm); (case itm => k_mem); (case itc => exact rfl); (case itd => exact rfl); (case itlo => decide); (case ithi => decide); (case itj => exact rfl); (case itx => exact rfl); (case its => with_unfolding_all rfl)) | (refine' kim_list ?itN ?itm ?itc ?itd ?itlo ?ithi ?itx ?_ ?its; (case itN => k_asm); (case itm => k_mem); (case itc => exact rfl); (case itd => exact rfl); (case itlo => decide); (case ithi => decide); (case itx => exact rfl); (case its => with_unfolding_all rfl))))
  k_with "subscriptTail Subscript Name Constant Name ref int" => ((with_reducible show wpAny _ _ (subscriptTail _ _ (Value.ref _) (Value.int _ _)) _ _ _); k_dflt ((refine kba_turn (value' := PySem.Expr.Name (PySem.Str.ofString "_") ⟨0, 0, 0, 0⟩) (fun _ => rfl) ?_); first | (refine' kim_tup ?itN ?itm ?itc ?itd ?itlo ?ithi ?itj ?itx ?_ ?its; (case itN => k_asm); (case itm => k_mem); (case itc => exact rfl); (case itd => exact rfl); (case itlo => decide); (case ithi => decide); (case itj => exact rfl); (case itx => exact rfl); (case its => with_unfolding_all rfl)) | (refine' kim_list ?itN ?itm ?itc ?itd ?itlo ?ithi ?itx ?_ ?its; (case itN => k_asm); (case itm => k_mem); (case itc => exact rfl); (case itd => exact rfl); (case itlo => decide); (case ithi => decide); (case itx => exact rfl); (case its => with_unfolding_all rfl))))
  k_with "callWith ref nil nil" => (k_here; k_dflt (first | (refine' callWith_K ?kq1 ?kq2 ?_; (case kq1 => k_asm); (case kq2 => k_is); k_whole) | (refine' callWith_K0 ?kq1 ?kq2 ?_; (case kq1 => k_in); (case kq2 => k_is); k_whole)))
  k_with "execs cons Assign cons" => ((with_reducible show wpAny _ _ (execs (Stmt.Assign [Expr.Name (Str.ofString "whole") _] _ _ :: _) _) _ _ _); (rename Fr _ _ _ _ => lF'); (rename News _ _ _ _ => lN'); (rename (@LT.lt Nat _ 51 _) ∧ (@LT.lt Nat _ 44 _) => l0); (rename (@LT.lt Nat _ _ _) ∧ _ ∧ _ => zA); (have qA := zA.1); clear zA; (rename (@LT.lt Nat _ _ _) ∧ _ ∧ _ => zB); (have qB := zB.1); clear zB; (rename (@LT.lt Nat _ _ _) ∧ _ ∧ _ => zC); (have qC := zC.1); clear zC; (rename (@LT.lt Nat _ _ _) ∧ _ ∧ _ => zD); (have qD := zD.2.2.2.2.2.1); clear zD; have lP := pickA lN'; have hc := main_hc l0 qD qC qB qA; have mn := main_ne hc; k_dflt (refine' v2 rfl rfl ?nxB lF' ?nxX ?nxT lP (List.mem_cons_of_mem _ (List.mem_cons_of_mem _ (List.mem_cons_of_mem _ (List.mem_cons_of_mem _ (List.mem_cons_of_mem _ (List.mem_cons_of_mem _ (List.mem_cons_of_mem _ List.mem_cons_self))))))) (List.mem_cons_of_mem _ (List.mem_cons_of_mem _ (List.mem_cons_of_mem _ (List.mem_cons_of_mem _ (List.mem_cons_of_mem _ (List.mem_cons_of_mem _ (List.mem_cons_of_mem _ (List.mem_cons_of_mem _ List.mem_cons_self)))))))) ?nd1 ?nd2 hn0 hn1 hn2 hn3 hn4 hn5 mn.1.1 mn.1.2.1 mn.1.2.2.1 mn.1.2.2.2.1 mn.1.2.2.2.2.1 mn.1.2.2.2.2.2 (off_at mn.2.1.1) (off_at mn.2.1.2.1) (off_at mn.2.1.2.2.1) (off_at mn.2.1.2.2.2) ?nhd ?nhu ?nhE ?nnx; (case nxB => first | k_asm | exact below_at (by k_asm)); (case nxX => k_asm); (case nxT => k_asm); (case nd1 => assumption); (case nhd => (show callerA.depth + 1 + 300 < recursionLimit; decide)); (case nhu => (first | decide | k_room | ktr_units)); (case nhE => first | passes_own | with_unfolding_all passes_own); (case nd2 => (refine' Eq.trans ?e1 ?e2; (case e1 => assumption); (case e2 => rfl))); (case' nnx => (intro m5 h5 tk5 o25 ww5 tw5 g05 g15 g25 a05 a15 a25 eg0 eg1 eg2 es0 es1 es2 ew ed F5 N5; clear lF' lN' lP; k_dflt (refine' v4 rfl rfl ?nxC ?nxD ?nxB F5 ?nxX ?nxT (pickB N5) (List.mem_cons_of_mem _ (List.mem_cons_of_mem _ (List.mem_cons_of_mem _ (List.mem_cons_of_mem _ List.mem_cons_self)))) List.mem_cons_self (List.mem_cons_of_mem _ (List.mem_cons_of_mem _ (List.mem_cons_of_mem _ (List.mem_cons_of_mem _ (List.mem_cons_of_mem _ List.mem_cons_self))))) (List.mem_cons_of_mem _ List.mem_cons_self) (List.mem_cons_of_mem _ (List.mem_cons_of_mem _ List.mem_cons_self)) (List.mem_cons_of_mem _ (List.mem_cons_of_mem _ (List.mem_cons_of_mem _ List.mem_cons_self))) ?nd1 ed ?nd3 ?nd4 ?nd5 ?nd6 ?nd7 hn0 hn1 hn2 hn3 hn4 hn5 eg0 eg1 eg2 es0 es1 es2 ew ⟨hc.1, hc.2.1, hc.2.2.1, hc.2.2.2.1, hc.2.2.2.2.1, hc.2.2.2.2.2.1, hc.2.2.2.2.2.2.1, hc.2.2.2.2.2.2.2.1⟩ (off_at mn.2.2.1.1) (off_at mn.2.2.1.2.1) (off_at mn.2.2.1.2.2.1) (off_at mn.2.2.1.2.2.2.1) (off_at mn.2.2.1.2.2.2.2) (off_at fun x hx => (mn.2.2.2 x hx).1.symm) (off_at fun x hx => (mn.2.2.2 x hx).2.symm) ?nhd ?nhu ?nhE ?nret; (case nxC => assumption); (case nxD => assumption); (case nxB => first | k_asm | exact below_at (by k_asm)); (case nxX => k_asm); (case nxT => k_asm); (case nd1 => assumption); (case nhd => (show callerA.depth + 1 + 300 < recursionLimit; decide)); (case nhu => (first | decide | k_room | ktr_units)); (case nhE => first | passes_own | with_unfolding_all passes_own); (case nd3 => (refine' Eq.trans ?e1 ?e2; (case e1 => assumption); (case e2 => rfl))); (case nd4 => (refine' Eq.trans ?e1 ?e2; (case e1 => assumption); (case e2 => rfl))); (case nd5 => (refine' Eq.trans ?e1 ?e2; (case e1 => assumption); (case e2 => rfl))); (case nd6 => (refine' Eq.trans ?e1 ?e2; (case e1 => assumption); (case e2 => rfl))); (case nd7 => (refine' Eq.trans ?e1 ?e2; (case e1 => assumption); (case e2 => rfl))); (case' nret => (intro m9 news9 qs1 qs2 h9 tk9 F9 N9 m44 m51; (try dsimp only))))))))
  k_with "execs cons For cons" => ((with_reducible show wpAny _ _ (execs (Stmt.Assign [Expr.Name (Str.ofString "whole") _] _ _ :: _) _) _ _ _); (rename Fr _ _ _ _ => lF'); (rename News _ _ _ _ => lN'); (rename (@LT.lt Nat _ 51 _) ∧ (@LT.lt Nat _ 44 _) => l0); (rename (@LT.lt Nat _ _ _) ∧ _ ∧ _ => zA); (have qA := zA.1); clear zA; (rename (@LT.lt Nat _ _ _) ∧ _ ∧ _ => zB); (have qB := zB.1); clear zB; (rename (@LT.lt Nat _ _ _) ∧ _ ∧ _ => zC); (have qC := zC.1); clear zC; (rename (@LT.lt Nat _ _ _) ∧ _ ∧ _ => zD); (have qD := zD.2.2.2.2.2.1); clear zD; have lP := pickA lN'; have hc := main_hc l0 qD qC qB qA; have mn := main_ne hc; k_dflt (refine' v2 rfl rfl ?nxB lF' ?nxX ?nxT lP (List.mem_cons_of_mem _ (List.mem_cons_of_mem _ (List.mem_cons_of_mem _ (List.mem_cons_of_mem _ (List.mem_cons_of_mem _ (List.mem_cons_of_mem _ (List.mem_cons_of_mem _ List.mem_cons_self))))))) (List.mem_cons_of_mem _ (List.mem_cons_of_mem _ (List.mem_cons_of_mem _ (List.mem_cons_of_mem _ (List.mem_cons_of_mem _ (List.mem_cons_of_mem _ (List.mem_cons_of_mem _ (List.mem_cons_of_mem _ List.mem_cons_self)))))))) ?nd1 ?nd2 hn0 hn1 hn2 hn3 hn4 hn5 mn.1.1 mn.1.2.1 mn.1.2.2.1 mn.1.2.2.2.1 mn.1.2.2.2.2.1 mn.1.2.2.2.2.2 (off_at mn.2.1.1) (off_at mn.2.1.2.1) (off_at mn.2.1.2.2.1) (off_at mn.2.1.2.2.2) ?nhd ?nhu ?nhE ?nnx; (case nxB => first | k_asm | exact below_at (by k_asm)); (case nxX => k_asm); (case nxT => k_asm); (case nd1 => assumption); (case nhd => (show callerA.depth + 1 + 300 < recursionLimit; decide)); (case nhu => (first | decide | k_room | ktr_units)); (case nhE => first | passes_own | with_unfolding_all passes_own); (case nd2 => (refine' Eq.trans ?e1 ?e2; (case e1 => assumption); (case e2 => rfl))); (case' nnx => (intro m5 h5 tk5 o25 ww5 tw5 g05 g15 g25 a05 a15 a25 eg0 eg1 eg2 es0 es1 es2 ew ed F5 N5; clear lF' lN' lP; k_dflt (refine' v4 rfl rfl ?nxC ?nxD ?nxB F5 ?nxX ?nxT (pickB N5) (List.mem_cons_of_mem _ (List.mem_cons_of_mem _ (List.mem_cons_of_mem _ (List.mem_cons_of_mem _ List.mem_cons_self)))) List.mem_cons_self (List.mem_cons_of_mem _ (List.mem_cons_of_mem _ (List.mem_cons_of_mem _ (List.mem_cons_of_mem _ (List.mem_cons_of_mem _ List.mem_cons_self))))) (List.mem_cons_of_mem _ List.mem_cons_self) (List.mem_cons_of_mem _ (List.mem_cons_of_mem _ List.mem_cons_self)) (List.mem_cons_of_mem _ (List.mem_cons_of_mem _ (List.mem_cons_of_mem _ List.mem_cons_self))) ?nd1 ed ?nd3 ?nd4 ?nd5 ?nd6 ?nd7 hn0 hn1 hn2 hn3 hn4 hn5 eg0 eg1 eg2 es0 es1 es2 ew ⟨hc.1, hc.2.1, hc.2.2.1, hc.2.2.2.1, hc.2.2.2.2.1, hc.2.2.2.2.2.1, hc.2.2.2.2.2.2.1, hc.2.2.2.2.2.2.2.1⟩ (off_at mn.2.2.1.1) (off_at mn.2.2.1.2.1) (off_at mn.2.2.1.2.2.1) (off_at mn.2.2.1.2.2.2.1) (off_at mn.2.2.1.2.2.2.2) (off_at fun x hx => (mn.2.2.2 x hx).1.symm) (off_at fun x hx => (mn.2.2.2 x hx).2.symm) ?nhd ?nhu ?nhE ?nret; (case nxC => assumption); (case nxD => assumption); (case nxB => first | k_asm | exact below_at (by k_asm)); (case nxX => k_asm); (case nxT => k_asm); (case nd1 => assumption); (case nhd => (show callerA.depth + 1 + 300 < recursionLimit; decide)); (case nhu => (first | decide | k_room | ktr_units)); (case nhE => first | passes_own | with_unfolding_all passes_own); (case nd3 => (refine' Eq.trans ?e1 ?e2; (case e1 => assumption); (case e2 => rfl))); (case nd4 => (refine' Eq.trans ?e1 ?e2; (case e1 => assumption); (case e2 => rfl))); (case nd5 => (refine' Eq.trans ?e1 ?e2; (case e1 => assumption); (case e2 => rfl))); (case nd6 => (refine' Eq.trans ?e1 ?e2; (case e1 => assumption); (case e2 => rfl))); (case nd7 => (refine' Eq.trans ?e1 ?e2; (case e1 => assumption); (case e2 => rfl))); (case' nret => (intro m9 news9 qs1 qs2 h9 tk9 F9 N9 m44 m51; (try dsimp only))))))))
  k_go0
  (all_goals try k_fold)
  k_steps
  (all_goals (try k_data))
  all_goals w_report)
end Mine
theorem PySem.Challenge.cw_hg0003_01_holds : PySem.Challenge.rw_hg0003_01.Holds :=
  Mine.walk
