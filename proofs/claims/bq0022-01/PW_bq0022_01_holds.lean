import PyProof.Rows.All
import Wide.All
import OpenK.AllK
import Wide.FinOn
import PySem.Challenge.RW_bq0022_01
open PySem PySem.W PyProof.Rows
set_option Elab.async false
namespace Mine
set_option maxRecDepth 100000 in
set_option maxHeartbeats 8000000 in
open_top hd for PySem.Challenge.rw_bq0022_01
set_option maxRecDepth 100000
def fwL : List Int := [0, 1335, 2670, 3929, 4587, 5340, 7045, 7858, 9174, 9953, 10680, 11407, 12861, 14090, 14419, 15716, 17051, 18348, 18677, 19906, 21360, 22087, 22814, 23593, 24909, 25722, 27427, 28180, 28838, 30097, 31432, 32767]
def fw (n : Int) : Int := fwL.getD n.toNat 0
def infoI (n : Int) : Int := Builtin.bitXor (fw n) 21522
def oddL : List Int := [0, 1, 1, 0, 1, 0, 0, 1, 1, 0, 0, 1, 0, 1, 1, 0]
def ptsL : List Int := [1, 2, 4, 8, 3, 6, 12, 11, 5, 10, 7, 14, 15, 13, 9]
theorem pts_rng (n : Nat) : 0 ≤ ([1, 2, 4, 8, 3, 6, 12, 11, 5, 10, 7, 14, 15, 13, 9] : List Int).getD n 0 ∧ ([1, 2, 4, 8, 3, 6, 12, 11, 5, 10, 7, 14, 15, 13, 9] : List Int).getD n 0 < 16 := by
  by_cases h : n < 15
  · have : ∀ n : Nat, n < 15 → 0 ≤ ([1, 2, 4, 8, 3, 6, 12, 11, 5, 10, 7, 14, 15, 13, 9] : List Int).getD n 0 ∧ ([1, 2, 4, 8, 3, 6, 12, 11, 5, 10, 7, 14, 15, 13, 9] : List Int).getD n 0 < 16 := by decide
    exact this n h
  · rw [List.getD_eq_getElem?_getD, List.getElem?_eq_none (by simp only [List.length_cons, List.length_nil]; omega)]; decide
def put (word : Int) (t : List Int) (k : Int) : List Int := t.set (([1, 2, 4, 8, 3, 6, 12, 11, 5, 10, 7, 14, 15, 13, 9] : List Int).getD k.toNat 0).toNat (1 - 2 * (word.fdiv (2 ^ k.toNat)).fmod 2)
def bfly (step : Int) (t : List Int) (k : Int) : List Int :=
  if (k.fdiv step).fmod 2 = 0 then (t.set k.toNat (t.getD k.toNat 0 + t.getD (k + step).toNat 0)).set (k + step).toNat (t.getD k.toNat 0 - t.getD (k + step).toNat 0) else t
def tab0 (word : Int) : List Int := (rangeKs 0 (15 - 0 : Int).toNat).foldl (put word) [0, 0, 0, 0, 0, 0, 0, 0, 0, 0, 0, 0, 0, 0, 0, 0]
def bflies (step : Int) (t : List Int) : List Int := (rangeKs 0 (16 - 0 : Int).toNat).foldl (bfly step) t
def trf (word : Int) : List Int := bflies 8 (bflies 4 (bflies 2 (bflies 1 (tab0 word))))
section
theorem xor_add : ∀ (n x y : Nat), x < 2 ^ n → x + y = (x ^^^ y) + 2 * (x &&& y) := by
  intro n
  induction n with
  | zero => intro x y h; have : x = 0 := by omega
            subst this; simp
  | succ n ih =>
    intro x y h
    have h1 := ih (x / 2) (y / 2) (by omega)
    have a1 : (x ^^^ y) / 2 = x / 2 ^^^ y / 2 := Nat.xor_div_two
    have a2 : (x &&& y) / 2 = x / 2 &&& y / 2 := Nat.and_div_two
    have a3 : (x ^^^ y) % 2 = x % 2 ^^^ y % 2 := by have := @Nat.xor_mod_two_pow x y 1; simpa using this
    have a4 : (x &&& y) % 2 = x % 2 &&& y % 2 := by have := @Nat.and_mod_two_pow x y 1; simpa using this
    rw [← a1, ← a2] at h1
    clear a1 a2 ih
    rcases Nat.mod_two_eq_zero_or_one x with hx | hx <;> rcases Nat.mod_two_eq_zero_or_one y with hy | hy <;> rw [hx, hy] at a3 a4 <;> (first | (have b3 : (x ^^^ y) % 2 = 0 := a3; have b4 : (x &&& y) % 2 = 0 := a4; omega) | (have b3 : (x ^^^ y) % 2 = 1 := a3; have b4 : (x &&& y) % 2 = 0 := a4; omega) | (have b3 : (x ^^^ y) % 2 = 0 := a3; have b4 : (x &&& y) % 2 = 1 := a4; omega))
theorem xor_nat (x y : Nat) : Builtin.bitXor (x : Int) (y : Int) = ((x ^^^ y : Nat) : Int) := by
  rw [bitXor_and, bitAnd_pp (by omega) (by omega)]
  have h := xor_add x x y Nat.lt_two_pow_self
  simp only [Int.toNat_natCast]
  omega
/-- the k-th bit of a word, and of two words put together -/
def bt (x k : Nat) : Nat := x / 2 ^ k % 2
theorem bt_lt (x k : Nat) : bt x k < 2 := Nat.mod_lt _ (by decide)
theorem bt_xor (x y k : Nat) : bt (x ^^^ y) k = (bt x k + bt y k) % 2 := by
  unfold bt
  rw [Nat.xor_div_two_pow]
  generalize x / 2 ^ k = a
  generalize y / 2 ^ k = b
  have a3 : (a ^^^ b) % 2 = a % 2 ^^^ b % 2 := by have := @Nat.xor_mod_two_pow a b 1; simpa using this
  rcases Nat.mod_two_eq_zero_or_one a with hx | hx <;> rcases Nat.mod_two_eq_zero_or_one b with hy | hy <;> rw [a3, hx, hy] <;> rfl
theorem bt_int (x k : Nat) : ((x : Int).fdiv (2 ^ k)).fmod 2 = (bt x k : Int) := by
  have e : (2 : Int) ^ k = ((2 ^ k : Nat) : Int) := by push_cast; rfl
  rw [e, Int.fdiv_eq_ediv_of_nonneg _ (Int.natCast_nonneg _), Int.fmod_eq_emod_of_nonneg _ (by decide)]
  unfold bt
  push_cast
  rfl
abbrev popI (x : Int) : Int := (List.map (fun k' : Int => (x.fdiv (2 ^ k'.toNat)).fmod 2) (rangeKs 0 (15 - 0 : Int).toNat)).sum
def popN (x : Nat) : Nat := bt x 0 + bt x 1 + bt x 2 + bt x 3 + bt x 4 + bt x 5 + bt x 6 + bt x 7 + bt x 8 + bt x 9 + bt x 10 + bt x 11 + bt x 12 + bt x 13 + bt x 14
theorem rk15 : rangeKs 0 (15 - 0 : Int).toNat = [0, 1, 2, 3, 4, 5, 6, 7, 8, 9, 10, 11, 12, 13, 14] := by decide
theorem pop_nat (x : Nat) : popI (x : Int) = (popN x : Int) := by
  unfold popI popN
  rw [rk15]
  simp only [List.map_cons, List.map_nil, List.sum_cons, List.sum_nil, bt_int]
  simp only [show Int.toNat 0 = 0 from rfl, show Int.toNat 1 = 1 from rfl, show Int.toNat 2 = 2 from rfl, show Int.toNat 3 = 3 from rfl, show Int.toNat 4 = 4 from rfl, show Int.toNat 5 = 5 from rfl, show Int.toNat 6 = 6 from rfl, show Int.toNat 7 = 7 from rfl, show Int.toNat 8 = 8 from rfl, show Int.toNat 9 = 9 from rfl, show Int.toNat 10 = 10 from rfl, show Int.toNat 11 = 11 from rfl, show Int.toNat 12 = 12 from rfl, show Int.toNat 13 = 13 from rfl, show Int.toNat 14 = 14 from rfl]
  omega
theorem pop_tri (a b w : Nat) : popN (a ^^^ b) ≤ popN (a ^^^ w) + popN (b ^^^ w) := by
  have h (k : Nat) : bt (a ^^^ b) k ≤ bt (a ^^^ w) k + bt (b ^^^ w) k := by
    rw [bt_xor, bt_xor, bt_xor]
    have := bt_lt a k
    have := bt_lt b k
    have := bt_lt w k
    omega
  unfold popN
  have h0 := h 0; have h1 := h 1; have h2 := h 2; have h3 := h 3; have h4 := h 4; have h5 := h 5; have h6 := h 6; have h7 := h 7; have h8 := h 8; have h9 := h 9; have h10 := h 10; have h11 := h 11; have h12 := h 12; have h13 := h 13; have h14 := h 14
  omega

def sgn (word : Int) (k : Nat) : Int := 1 - 2 * (word.fdiv (2 ^ k)).fmod 2
theorem sgn_nat (w k : Nat) : sgn (w : Int) k = 1 - 2 * (bt w k : Int) := by unfold sgn; rw [bt_int]
theorem tab0_eq (w : Int) : tab0 w = [0, sgn w 0, sgn w 1, sgn w 4, sgn w 2, sgn w 8, sgn w 5, sgn w 10, sgn w 3, sgn w 14, sgn w 9, sgn w 7, sgn w 6, sgn w 13, sgn w 11, sgn w 12] := by kernel_rfl
theorem bf1 (a b c d e f g h i j k l m n o p : Int) : bflies 1 [a, b, c, d, e, f, g, h, i, j, k, l, m, n, o, p] = [a + b, a - b, c + d, c - d, e + f, e - f, g + h, g - h, i + j, i - j, k + l, k - l, m + n, m - n, o + p, o - p] := by kernel_rfl
theorem bf2 (a b c d e f g h i j k l m n o p : Int) : bflies 2 [a, b, c, d, e, f, g, h, i, j, k, l, m, n, o, p] = [a + c, b + d, a - c, b - d, e + g, f + h, e - g, f - h, i + k, j + l, i - k, j - l, m + o, n + p, m - o, n - p] := by kernel_rfl
theorem bf4 (a b c d e f g h i j k l m n o p : Int) : bflies 4 [a, b, c, d, e, f, g, h, i, j, k, l, m, n, o, p] = [a + e, b + f, c + g, d + h, a - e, b - f, c - g, d - h, i + m, j + n, k + o, l + p, i - m, j - n, k - o, l - p] := by kernel_rfl
theorem bf8 (a b c d e f g h i j k l m n o p : Int) : bflies 8 [a, b, c, d, e, f, g, h, i, j, k, l, m, n, o, p] = [a + i, b + j, c + k, d + l, e + m, f + n, g + o, h + p, a - i, b - j, c - k, d - l, e - m, f - n, g - o, h - p] := by kernel_rfl

abbrev toldI (i : Nat) (t : Int) : Int :=
  (List.map (fun k' : Int => 2 ^ k'.toNat * Builtin.bitXor t (oddL.getD (Builtin.bitAnd (i : Int) (([1, 2, 4, 8, 3, 6, 12, 11, 5, 10, 7, 14, 15, 13, 9] : List Int).getD (10 + k').toNat 0)).toNat 0)) (rangeKs 0 (5 - 0 : Int).toNat)).sum
theorem told_rng : ∀ i : Nat, i < 16 → (0 ≤ toldI i 0 ∧ toldI i 0 < 32) ∧ (0 ≤ toldI i 1 ∧ toldI i 1 < 32) := by decide +kernel
theorem told_all : ∀ a : Nat, a < 32 → ∃ i : Nat, i < 16 ∧ (toldI i 0 = (a : Int) ∨ toldI i 1 = (a : Int)) := by decide +kernel
/-- the format word that is told -/
def cwI (i : Nat) (t : Int) : Int := Builtin.bitXor (infoI (toldI i t)) 21522
def cwT : List (Nat × Nat) := [(0, 32767), (30097, 2670), (7858, 24909), (27427, 5340), (15716, 17051), (18677, 14090), (9174, 23593), (22087, 10680), (31432, 1335), (3929, 28838), (25722, 7045), (4587, 28180), (18348, 14419), (12861, 19906), (22814, 9953), (11407, 21360)]
theorem cw_tab : ∀ i : Nat, i < 16 → cwI i 0 = ((cwT.getD i (0, 0)).1 : Int) ∧ cwI i 1 = ((cwT.getD i (0, 0)).2 : Int) := by decide +kernel
def xs (w : Nat) : List Int := trf (w : Int)
theorem xs_eq (w : Nat) : xs w = [(((0 + (1 - 2 * (bt w 0 : Int))) + ((1 - 2 * (bt w 1 : Int)) + (1 - 2 * (bt w 4 : Int)))) + (((1 - 2 * (bt w 2 : Int)) + (1 - 2 * (bt w 8 : Int))) + ((1 - 2 * (bt w 5 : Int)) + (1 - 2 * (bt w 10 : Int))))) + ((((1 - 2 * (bt w 3 : Int)) + (1 - 2 * (bt w 14 : Int))) + ((1 - 2 * (bt w 9 : Int)) + (1 - 2 * (bt w 7 : Int)))) + (((1 - 2 * (bt w 6 : Int)) + (1 - 2 * (bt w 13 : Int))) + ((1 - 2 * (bt w 11 : Int)) + (1 - 2 * (bt w 12 : Int))))), (((0 - (1 - 2 * (bt w 0 : Int))) + ((1 - 2 * (bt w 1 : Int)) - (1 - 2 * (bt w 4 : Int)))) + (((1 - 2 * (bt w 2 : Int)) - (1 - 2 * (bt w 8 : Int))) + ((1 - 2 * (bt w 5 : Int)) - (1 - 2 * (bt w 10 : Int))))) + ((((1 - 2 * (bt w 3 : Int)) - (1 - 2 * (bt w 14 : Int))) + ((1 - 2 * (bt w 9 : Int)) - (1 - 2 * (bt w 7 : Int)))) + (((1 - 2 * (bt w 6 : Int)) - (1 - 2 * (bt w 13 : Int))) + ((1 - 2 * (bt w 11 : Int)) - (1 - 2 * (bt w 12 : Int))))), (((0 + (1 - 2 * (bt w 0 : Int))) - ((1 - 2 * (bt w 1 : Int)) + (1 - 2 * (bt w 4 : Int)))) + (((1 - 2 * (bt w 2 : Int)) + (1 - 2 * (bt w 8 : Int))) - ((1 - 2 * (bt w 5 : Int)) + (1 - 2 * (bt w 10 : Int))))) + ((((1 - 2 * (bt w 3 : Int)) + (1 - 2 * (bt w 14 : Int))) - ((1 - 2 * (bt w 9 : Int)) + (1 - 2 * (bt w 7 : Int)))) + (((1 - 2 * (bt w 6 : Int)) + (1 - 2 * (bt w 13 : Int))) - ((1 - 2 * (bt w 11 : Int)) + (1 - 2 * (bt w 12 : Int))))), (((0 - (1 - 2 * (bt w 0 : Int))) - ((1 - 2 * (bt w 1 : Int)) - (1 - 2 * (bt w 4 : Int)))) + (((1 - 2 * (bt w 2 : Int)) - (1 - 2 * (bt w 8 : Int))) - ((1 - 2 * (bt w 5 : Int)) - (1 - 2 * (bt w 10 : Int))))) + ((((1 - 2 * (bt w 3 : Int)) - (1 - 2 * (bt w 14 : Int))) - ((1 - 2 * (bt w 9 : Int)) - (1 - 2 * (bt w 7 : Int)))) + (((1 - 2 * (bt w 6 : Int)) - (1 - 2 * (bt w 13 : Int))) - ((1 - 2 * (bt w 11 : Int)) - (1 - 2 * (bt w 12 : Int))))), (((0 + (1 - 2 * (bt w 0 : Int))) + ((1 - 2 * (bt w 1 : Int)) + (1 - 2 * (bt w 4 : Int)))) - (((1 - 2 * (bt w 2 : Int)) + (1 - 2 * (bt w 8 : Int))) + ((1 - 2 * (bt w 5 : Int)) + (1 - 2 * (bt w 10 : Int))))) + ((((1 - 2 * (bt w 3 : Int)) + (1 - 2 * (bt w 14 : Int))) + ((1 - 2 * (bt w 9 : Int)) + (1 - 2 * (bt w 7 : Int)))) - (((1 - 2 * (bt w 6 : Int)) + (1 - 2 * (bt w 13 : Int))) + ((1 - 2 * (bt w 11 : Int)) + (1 - 2 * (bt w 12 : Int))))), (((0 - (1 - 2 * (bt w 0 : Int))) + ((1 - 2 * (bt w 1 : Int)) - (1 - 2 * (bt w 4 : Int)))) - (((1 - 2 * (bt w 2 : Int)) - (1 - 2 * (bt w 8 : Int))) + ((1 - 2 * (bt w 5 : Int)) - (1 - 2 * (bt w 10 : Int))))) + ((((1 - 2 * (bt w 3 : Int)) - (1 - 2 * (bt w 14 : Int))) + ((1 - 2 * (bt w 9 : Int)) - (1 - 2 * (bt w 7 : Int)))) - (((1 - 2 * (bt w 6 : Int)) - (1 - 2 * (bt w 13 : Int))) + ((1 - 2 * (bt w 11 : Int)) - (1 - 2 * (bt w 12 : Int))))), (((0 + (1 - 2 * (bt w 0 : Int))) - ((1 - 2 * (bt w 1 : Int)) + (1 - 2 * (bt w 4 : Int)))) - (((1 - 2 * (bt w 2 : Int)) + (1 - 2 * (bt w 8 : Int))) - ((1 - 2 * (bt w 5 : Int)) + (1 - 2 * (bt w 10 : Int))))) + ((((1 - 2 * (bt w 3 : Int)) + (1 - 2 * (bt w 14 : Int))) - ((1 - 2 * (bt w 9 : Int)) + (1 - 2 * (bt w 7 : Int)))) - (((1 - 2 * (bt w 6 : Int)) + (1 - 2 * (bt w 13 : Int))) - ((1 - 2 * (bt w 11 : Int)) + (1 - 2 * (bt w 12 : Int))))), (((0 - (1 - 2 * (bt w 0 : Int))) - ((1 - 2 * (bt w 1 : Int)) - (1 - 2 * (bt w 4 : Int)))) - (((1 - 2 * (bt w 2 : Int)) - (1 - 2 * (bt w 8 : Int))) - ((1 - 2 * (bt w 5 : Int)) - (1 - 2 * (bt w 10 : Int))))) + ((((1 - 2 * (bt w 3 : Int)) - (1 - 2 * (bt w 14 : Int))) - ((1 - 2 * (bt w 9 : Int)) - (1 - 2 * (bt w 7 : Int)))) - (((1 - 2 * (bt w 6 : Int)) - (1 - 2 * (bt w 13 : Int))) - ((1 - 2 * (bt w 11 : Int)) - (1 - 2 * (bt w 12 : Int))))), (((0 + (1 - 2 * (bt w 0 : Int))) + ((1 - 2 * (bt w 1 : Int)) + (1 - 2 * (bt w 4 : Int)))) + (((1 - 2 * (bt w 2 : Int)) + (1 - 2 * (bt w 8 : Int))) + ((1 - 2 * (bt w 5 : Int)) + (1 - 2 * (bt w 10 : Int))))) - ((((1 - 2 * (bt w 3 : Int)) + (1 - 2 * (bt w 14 : Int))) + ((1 - 2 * (bt w 9 : Int)) + (1 - 2 * (bt w 7 : Int)))) + (((1 - 2 * (bt w 6 : Int)) + (1 - 2 * (bt w 13 : Int))) + ((1 - 2 * (bt w 11 : Int)) + (1 - 2 * (bt w 12 : Int))))), (((0 - (1 - 2 * (bt w 0 : Int))) + ((1 - 2 * (bt w 1 : Int)) - (1 - 2 * (bt w 4 : Int)))) + (((1 - 2 * (bt w 2 : Int)) - (1 - 2 * (bt w 8 : Int))) + ((1 - 2 * (bt w 5 : Int)) - (1 - 2 * (bt w 10 : Int))))) - ((((1 - 2 * (bt w 3 : Int)) - (1 - 2 * (bt w 14 : Int))) + ((1 - 2 * (bt w 9 : Int)) - (1 - 2 * (bt w 7 : Int)))) + (((1 - 2 * (bt w 6 : Int)) - (1 - 2 * (bt w 13 : Int))) + ((1 - 2 * (bt w 11 : Int)) - (1 - 2 * (bt w 12 : Int))))), (((0 + (1 - 2 * (bt w 0 : Int))) - ((1 - 2 * (bt w 1 : Int)) + (1 - 2 * (bt w 4 : Int)))) + (((1 - 2 * (bt w 2 : Int)) + (1 - 2 * (bt w 8 : Int))) - ((1 - 2 * (bt w 5 : Int)) + (1 - 2 * (bt w 10 : Int))))) - ((((1 - 2 * (bt w 3 : Int)) + (1 - 2 * (bt w 14 : Int))) - ((1 - 2 * (bt w 9 : Int)) + (1 - 2 * (bt w 7 : Int)))) + (((1 - 2 * (bt w 6 : Int)) + (1 - 2 * (bt w 13 : Int))) - ((1 - 2 * (bt w 11 : Int)) + (1 - 2 * (bt w 12 : Int))))), (((0 - (1 - 2 * (bt w 0 : Int))) - ((1 - 2 * (bt w 1 : Int)) - (1 - 2 * (bt w 4 : Int)))) + (((1 - 2 * (bt w 2 : Int)) - (1 - 2 * (bt w 8 : Int))) - ((1 - 2 * (bt w 5 : Int)) - (1 - 2 * (bt w 10 : Int))))) - ((((1 - 2 * (bt w 3 : Int)) - (1 - 2 * (bt w 14 : Int))) - ((1 - 2 * (bt w 9 : Int)) - (1 - 2 * (bt w 7 : Int)))) + (((1 - 2 * (bt w 6 : Int)) - (1 - 2 * (bt w 13 : Int))) - ((1 - 2 * (bt w 11 : Int)) - (1 - 2 * (bt w 12 : Int))))), (((0 + (1 - 2 * (bt w 0 : Int))) + ((1 - 2 * (bt w 1 : Int)) + (1 - 2 * (bt w 4 : Int)))) - (((1 - 2 * (bt w 2 : Int)) + (1 - 2 * (bt w 8 : Int))) + ((1 - 2 * (bt w 5 : Int)) + (1 - 2 * (bt w 10 : Int))))) - ((((1 - 2 * (bt w 3 : Int)) + (1 - 2 * (bt w 14 : Int))) + ((1 - 2 * (bt w 9 : Int)) + (1 - 2 * (bt w 7 : Int)))) - (((1 - 2 * (bt w 6 : Int)) + (1 - 2 * (bt w 13 : Int))) + ((1 - 2 * (bt w 11 : Int)) + (1 - 2 * (bt w 12 : Int))))), (((0 - (1 - 2 * (bt w 0 : Int))) + ((1 - 2 * (bt w 1 : Int)) - (1 - 2 * (bt w 4 : Int)))) - (((1 - 2 * (bt w 2 : Int)) - (1 - 2 * (bt w 8 : Int))) + ((1 - 2 * (bt w 5 : Int)) - (1 - 2 * (bt w 10 : Int))))) - ((((1 - 2 * (bt w 3 : Int)) - (1 - 2 * (bt w 14 : Int))) + ((1 - 2 * (bt w 9 : Int)) - (1 - 2 * (bt w 7 : Int)))) - (((1 - 2 * (bt w 6 : Int)) - (1 - 2 * (bt w 13 : Int))) + ((1 - 2 * (bt w 11 : Int)) - (1 - 2 * (bt w 12 : Int))))), (((0 + (1 - 2 * (bt w 0 : Int))) - ((1 - 2 * (bt w 1 : Int)) + (1 - 2 * (bt w 4 : Int)))) - (((1 - 2 * (bt w 2 : Int)) + (1 - 2 * (bt w 8 : Int))) - ((1 - 2 * (bt w 5 : Int)) + (1 - 2 * (bt w 10 : Int))))) - ((((1 - 2 * (bt w 3 : Int)) + (1 - 2 * (bt w 14 : Int))) - ((1 - 2 * (bt w 9 : Int)) + (1 - 2 * (bt w 7 : Int)))) - (((1 - 2 * (bt w 6 : Int)) + (1 - 2 * (bt w 13 : Int))) - ((1 - 2 * (bt w 11 : Int)) + (1 - 2 * (bt w 12 : Int))))), (((0 - (1 - 2 * (bt w 0 : Int))) - ((1 - 2 * (bt w 1 : Int)) - (1 - 2 * (bt w 4 : Int)))) - (((1 - 2 * (bt w 2 : Int)) - (1 - 2 * (bt w 8 : Int))) - ((1 - 2 * (bt w 5 : Int)) - (1 - 2 * (bt w 10 : Int))))) - ((((1 - 2 * (bt w 3 : Int)) - (1 - 2 * (bt w 14 : Int))) - ((1 - 2 * (bt w 9 : Int)) - (1 - 2 * (bt w 7 : Int)))) - (((1 - 2 * (bt w 6 : Int)) - (1 - 2 * (bt w 13 : Int))) - ((1 - 2 * (bt w 11 : Int)) - (1 - 2 * (bt w 12 : Int)))))] := by
  unfold xs trf
  rw [tab0_eq, bf1, bf2, bf4, bf8]
  simp only [sgn_nat]
theorem pop_cw (c w : Nat) : (popN (c ^^^ w) : Int) = (((bt c 0 : Int) + (bt w 0 : Int)) % 2) + (((bt c 1 : Int) + (bt w 1 : Int)) % 2) + (((bt c 2 : Int) + (bt w 2 : Int)) % 2) + (((bt c 3 : Int) + (bt w 3 : Int)) % 2) + (((bt c 4 : Int) + (bt w 4 : Int)) % 2) + (((bt c 5 : Int) + (bt w 5 : Int)) % 2) + (((bt c 6 : Int) + (bt w 6 : Int)) % 2) + (((bt c 7 : Int) + (bt w 7 : Int)) % 2) + (((bt c 8 : Int) + (bt w 8 : Int)) % 2) + (((bt c 9 : Int) + (bt w 9 : Int)) % 2) + (((bt c 10 : Int) + (bt w 10 : Int)) % 2) + (((bt c 11 : Int) + (bt w 11 : Int)) % 2) + (((bt c 12 : Int) + (bt w 12 : Int)) % 2) + (((bt c 13 : Int) + (bt w 13 : Int)) % 2) + (((bt c 14 : Int) + (bt w 14 : Int)) % 2) := by
  unfold popN
  simp only [bt_xor]
  push_cast
  rfl
end
section
theorem m0 (w k : Nat) : (((0 : Nat) : Int) + (bt w k : Int)) % 2 = (bt w k : Int) := by have := bt_lt w k; omega
theorem m1 (w k : Nat) : (((1 : Nat) : Int) + (bt w k : Int)) % 2 = 1 - (bt w k : Int) := by have := bt_lt w k; omega
theorem core0 (w : Nat) : 2 * (popN (0 ^^^ w) : Int) = 15 - ((((0 + (1 - 2 * (bt w 0 : Int))) + ((1 - 2 * (bt w 1 : Int)) + (1 - 2 * (bt w 4 : Int)))) + (((1 - 2 * (bt w 2 : Int)) + (1 - 2 * (bt w 8 : Int))) + ((1 - 2 * (bt w 5 : Int)) + (1 - 2 * (bt w 10 : Int))))) + ((((1 - 2 * (bt w 3 : Int)) + (1 - 2 * (bt w 14 : Int))) + ((1 - 2 * (bt w 9 : Int)) + (1 - 2 * (bt w 7 : Int)))) + (((1 - 2 * (bt w 6 : Int)) + (1 - 2 * (bt w 13 : Int))) + ((1 - 2 * (bt w 11 : Int)) + (1 - 2 * (bt w 12 : Int)))))) ∧ 2 * (popN (32767 ^^^ w) : Int) = 15 + ((((0 + (1 - 2 * (bt w 0 : Int))) + ((1 - 2 * (bt w 1 : Int)) + (1 - 2 * (bt w 4 : Int)))) + (((1 - 2 * (bt w 2 : Int)) + (1 - 2 * (bt w 8 : Int))) + ((1 - 2 * (bt w 5 : Int)) + (1 - 2 * (bt w 10 : Int))))) + ((((1 - 2 * (bt w 3 : Int)) + (1 - 2 * (bt w 14 : Int))) + ((1 - 2 * (bt w 9 : Int)) + (1 - 2 * (bt w 7 : Int)))) + (((1 - 2 * (bt w 6 : Int)) + (1 - 2 * (bt w 13 : Int))) + ((1 - 2 * (bt w 11 : Int)) + (1 - 2 * (bt w 12 : Int)))))) := by
  rw [pop_cw, pop_cw]
  simp only [show bt 0 0 = 0 from rfl, show bt 0 1 = 0 from rfl, show bt 0 2 = 0 from rfl, show bt 0 3 = 0 from rfl, show bt 0 4 = 0 from rfl, show bt 0 5 = 0 from rfl, show bt 0 6 = 0 from rfl, show bt 0 7 = 0 from rfl, show bt 0 8 = 0 from rfl, show bt 0 9 = 0 from rfl, show bt 0 10 = 0 from rfl, show bt 0 11 = 0 from rfl, show bt 0 12 = 0 from rfl, show bt 0 13 = 0 from rfl, show bt 0 14 = 0 from rfl, show bt 32767 0 = 1 from rfl, show bt 32767 1 = 1 from rfl, show bt 32767 2 = 1 from rfl, show bt 32767 3 = 1 from rfl, show bt 32767 4 = 1 from rfl, show bt 32767 5 = 1 from rfl, show bt 32767 6 = 1 from rfl, show bt 32767 7 = 1 from rfl, show bt 32767 8 = 1 from rfl, show bt 32767 9 = 1 from rfl, show bt 32767 10 = 1 from rfl, show bt 32767 11 = 1 from rfl, show bt 32767 12 = 1 from rfl, show bt 32767 13 = 1 from rfl, show bt 32767 14 = 1 from rfl, m0, m1]
  omega
theorem core1 (w : Nat) : 2 * (popN (30097 ^^^ w) : Int) = 15 - ((((0 - (1 - 2 * (bt w 0 : Int))) + ((1 - 2 * (bt w 1 : Int)) - (1 - 2 * (bt w 4 : Int)))) + (((1 - 2 * (bt w 2 : Int)) - (1 - 2 * (bt w 8 : Int))) + ((1 - 2 * (bt w 5 : Int)) - (1 - 2 * (bt w 10 : Int))))) + ((((1 - 2 * (bt w 3 : Int)) - (1 - 2 * (bt w 14 : Int))) + ((1 - 2 * (bt w 9 : Int)) - (1 - 2 * (bt w 7 : Int)))) + (((1 - 2 * (bt w 6 : Int)) - (1 - 2 * (bt w 13 : Int))) + ((1 - 2 * (bt w 11 : Int)) - (1 - 2 * (bt w 12 : Int)))))) ∧ 2 * (popN (2670 ^^^ w) : Int) = 15 + ((((0 - (1 - 2 * (bt w 0 : Int))) + ((1 - 2 * (bt w 1 : Int)) - (1 - 2 * (bt w 4 : Int)))) + (((1 - 2 * (bt w 2 : Int)) - (1 - 2 * (bt w 8 : Int))) + ((1 - 2 * (bt w 5 : Int)) - (1 - 2 * (bt w 10 : Int))))) + ((((1 - 2 * (bt w 3 : Int)) - (1 - 2 * (bt w 14 : Int))) + ((1 - 2 * (bt w 9 : Int)) - (1 - 2 * (bt w 7 : Int)))) + (((1 - 2 * (bt w 6 : Int)) - (1 - 2 * (bt w 13 : Int))) + ((1 - 2 * (bt w 11 : Int)) - (1 - 2 * (bt w 12 : Int)))))) := by
  rw [pop_cw, pop_cw]
  simp only [show bt 30097 0 = 1 from rfl, show bt 30097 1 = 0 from rfl, show bt 30097 2 = 0 from rfl, show bt 30097 3 = 0 from rfl, show bt 30097 4 = 1 from rfl, show bt 30097 5 = 0 from rfl, show bt 30097 6 = 0 from rfl, show bt 30097 7 = 1 from rfl, show bt 30097 8 = 1 from rfl, show bt 30097 9 = 0 from rfl, show bt 30097 10 = 1 from rfl, show bt 30097 11 = 0 from rfl, show bt 30097 12 = 1 from rfl, show bt 30097 13 = 1 from rfl, show bt 30097 14 = 1 from rfl, show bt 2670 0 = 0 from rfl, show bt 2670 1 = 1 from rfl, show bt 2670 2 = 1 from rfl, show bt 2670 3 = 1 from rfl, show bt 2670 4 = 0 from rfl, show bt 2670 5 = 1 from rfl, show bt 2670 6 = 1 from rfl, show bt 2670 7 = 0 from rfl, show bt 2670 8 = 0 from rfl, show bt 2670 9 = 1 from rfl, show bt 2670 10 = 0 from rfl, show bt 2670 11 = 1 from rfl, show bt 2670 12 = 0 from rfl, show bt 2670 13 = 0 from rfl, show bt 2670 14 = 0 from rfl, m0, m1]
  omega
theorem core2 (w : Nat) : 2 * (popN (7858 ^^^ w) : Int) = 15 - ((((0 + (1 - 2 * (bt w 0 : Int))) - ((1 - 2 * (bt w 1 : Int)) + (1 - 2 * (bt w 4 : Int)))) + (((1 - 2 * (bt w 2 : Int)) + (1 - 2 * (bt w 8 : Int))) - ((1 - 2 * (bt w 5 : Int)) + (1 - 2 * (bt w 10 : Int))))) + ((((1 - 2 * (bt w 3 : Int)) + (1 - 2 * (bt w 14 : Int))) - ((1 - 2 * (bt w 9 : Int)) + (1 - 2 * (bt w 7 : Int)))) + (((1 - 2 * (bt w 6 : Int)) + (1 - 2 * (bt w 13 : Int))) - ((1 - 2 * (bt w 11 : Int)) + (1 - 2 * (bt w 12 : Int)))))) ∧ 2 * (popN (24909 ^^^ w) : Int) = 15 + ((((0 + (1 - 2 * (bt w 0 : Int))) - ((1 - 2 * (bt w 1 : Int)) + (1 - 2 * (bt w 4 : Int)))) + (((1 - 2 * (bt w 2 : Int)) + (1 - 2 * (bt w 8 : Int))) - ((1 - 2 * (bt w 5 : Int)) + (1 - 2 * (bt w 10 : Int))))) + ((((1 - 2 * (bt w 3 : Int)) + (1 - 2 * (bt w 14 : Int))) - ((1 - 2 * (bt w 9 : Int)) + (1 - 2 * (bt w 7 : Int)))) + (((1 - 2 * (bt w 6 : Int)) + (1 - 2 * (bt w 13 : Int))) - ((1 - 2 * (bt w 11 : Int)) + (1 - 2 * (bt w 12 : Int)))))) := by
  rw [pop_cw, pop_cw]
  simp only [show bt 7858 0 = 0 from rfl, show bt 7858 1 = 1 from rfl, show bt 7858 2 = 0 from rfl, show bt 7858 3 = 0 from rfl, show bt 7858 4 = 1 from rfl, show bt 7858 5 = 1 from rfl, show bt 7858 6 = 0 from rfl, show bt 7858 7 = 1 from rfl, show bt 7858 8 = 0 from rfl, show bt 7858 9 = 1 from rfl, show bt 7858 10 = 1 from rfl, show bt 7858 11 = 1 from rfl, show bt 7858 12 = 1 from rfl, show bt 7858 13 = 0 from rfl, show bt 7858 14 = 0 from rfl, show bt 24909 0 = 1 from rfl, show bt 24909 1 = 0 from rfl, show bt 24909 2 = 1 from rfl, show bt 24909 3 = 1 from rfl, show bt 24909 4 = 0 from rfl, show bt 24909 5 = 0 from rfl, show bt 24909 6 = 1 from rfl, show bt 24909 7 = 0 from rfl, show bt 24909 8 = 1 from rfl, show bt 24909 9 = 0 from rfl, show bt 24909 10 = 0 from rfl, show bt 24909 11 = 0 from rfl, show bt 24909 12 = 0 from rfl, show bt 24909 13 = 1 from rfl, show bt 24909 14 = 1 from rfl, m0, m1]
  omega
theorem core3 (w : Nat) : 2 * (popN (27427 ^^^ w) : Int) = 15 - ((((0 - (1 - 2 * (bt w 0 : Int))) - ((1 - 2 * (bt w 1 : Int)) - (1 - 2 * (bt w 4 : Int)))) + (((1 - 2 * (bt w 2 : Int)) - (1 - 2 * (bt w 8 : Int))) - ((1 - 2 * (bt w 5 : Int)) - (1 - 2 * (bt w 10 : Int))))) + ((((1 - 2 * (bt w 3 : Int)) - (1 - 2 * (bt w 14 : Int))) - ((1 - 2 * (bt w 9 : Int)) - (1 - 2 * (bt w 7 : Int)))) + (((1 - 2 * (bt w 6 : Int)) - (1 - 2 * (bt w 13 : Int))) - ((1 - 2 * (bt w 11 : Int)) - (1 - 2 * (bt w 12 : Int)))))) ∧ 2 * (popN (5340 ^^^ w) : Int) = 15 + ((((0 - (1 - 2 * (bt w 0 : Int))) - ((1 - 2 * (bt w 1 : Int)) - (1 - 2 * (bt w 4 : Int)))) + (((1 - 2 * (bt w 2 : Int)) - (1 - 2 * (bt w 8 : Int))) - ((1 - 2 * (bt w 5 : Int)) - (1 - 2 * (bt w 10 : Int))))) + ((((1 - 2 * (bt w 3 : Int)) - (1 - 2 * (bt w 14 : Int))) - ((1 - 2 * (bt w 9 : Int)) - (1 - 2 * (bt w 7 : Int)))) + (((1 - 2 * (bt w 6 : Int)) - (1 - 2 * (bt w 13 : Int))) - ((1 - 2 * (bt w 11 : Int)) - (1 - 2 * (bt w 12 : Int)))))) := by
  rw [pop_cw, pop_cw]
  simp only [show bt 27427 0 = 1 from rfl, show bt 27427 1 = 1 from rfl, show bt 27427 2 = 0 from rfl, show bt 27427 3 = 0 from rfl, show bt 27427 4 = 0 from rfl, show bt 27427 5 = 1 from rfl, show bt 27427 6 = 0 from rfl, show bt 27427 7 = 0 from rfl, show bt 27427 8 = 1 from rfl, show bt 27427 9 = 1 from rfl, show bt 27427 10 = 0 from rfl, show bt 27427 11 = 1 from rfl, show bt 27427 12 = 0 from rfl, show bt 27427 13 = 1 from rfl, show bt 27427 14 = 1 from rfl, show bt 5340 0 = 0 from rfl, show bt 5340 1 = 0 from rfl, show bt 5340 2 = 1 from rfl, show bt 5340 3 = 1 from rfl, show bt 5340 4 = 1 from rfl, show bt 5340 5 = 0 from rfl, show bt 5340 6 = 1 from rfl, show bt 5340 7 = 1 from rfl, show bt 5340 8 = 0 from rfl, show bt 5340 9 = 0 from rfl, show bt 5340 10 = 1 from rfl, show bt 5340 11 = 0 from rfl, show bt 5340 12 = 1 from rfl, show bt 5340 13 = 0 from rfl, show bt 5340 14 = 0 from rfl, m0, m1]
  omega
theorem core4 (w : Nat) : 2 * (popN (15716 ^^^ w) : Int) = 15 - ((((0 + (1 - 2 * (bt w 0 : Int))) + ((1 - 2 * (bt w 1 : Int)) + (1 - 2 * (bt w 4 : Int)))) - (((1 - 2 * (bt w 2 : Int)) + (1 - 2 * (bt w 8 : Int))) + ((1 - 2 * (bt w 5 : Int)) + (1 - 2 * (bt w 10 : Int))))) + ((((1 - 2 * (bt w 3 : Int)) + (1 - 2 * (bt w 14 : Int))) + ((1 - 2 * (bt w 9 : Int)) + (1 - 2 * (bt w 7 : Int)))) - (((1 - 2 * (bt w 6 : Int)) + (1 - 2 * (bt w 13 : Int))) + ((1 - 2 * (bt w 11 : Int)) + (1 - 2 * (bt w 12 : Int)))))) ∧ 2 * (popN (17051 ^^^ w) : Int) = 15 + ((((0 + (1 - 2 * (bt w 0 : Int))) + ((1 - 2 * (bt w 1 : Int)) + (1 - 2 * (bt w 4 : Int)))) - (((1 - 2 * (bt w 2 : Int)) + (1 - 2 * (bt w 8 : Int))) + ((1 - 2 * (bt w 5 : Int)) + (1 - 2 * (bt w 10 : Int))))) + ((((1 - 2 * (bt w 3 : Int)) + (1 - 2 * (bt w 14 : Int))) + ((1 - 2 * (bt w 9 : Int)) + (1 - 2 * (bt w 7 : Int)))) - (((1 - 2 * (bt w 6 : Int)) + (1 - 2 * (bt w 13 : Int))) + ((1 - 2 * (bt w 11 : Int)) + (1 - 2 * (bt w 12 : Int)))))) := by
  rw [pop_cw, pop_cw]
  simp only [show bt 15716 0 = 0 from rfl, show bt 15716 1 = 0 from rfl, show bt 15716 2 = 1 from rfl, show bt 15716 3 = 0 from rfl, show bt 15716 4 = 0 from rfl, show bt 15716 5 = 1 from rfl, show bt 15716 6 = 1 from rfl, show bt 15716 7 = 0 from rfl, show bt 15716 8 = 1 from rfl, show bt 15716 9 = 0 from rfl, show bt 15716 10 = 1 from rfl, show bt 15716 11 = 1 from rfl, show bt 15716 12 = 1 from rfl, show bt 15716 13 = 1 from rfl, show bt 15716 14 = 0 from rfl, show bt 17051 0 = 1 from rfl, show bt 17051 1 = 1 from rfl, show bt 17051 2 = 0 from rfl, show bt 17051 3 = 1 from rfl, show bt 17051 4 = 1 from rfl, show bt 17051 5 = 0 from rfl, show bt 17051 6 = 0 from rfl, show bt 17051 7 = 1 from rfl, show bt 17051 8 = 0 from rfl, show bt 17051 9 = 1 from rfl, show bt 17051 10 = 0 from rfl, show bt 17051 11 = 0 from rfl, show bt 17051 12 = 0 from rfl, show bt 17051 13 = 0 from rfl, show bt 17051 14 = 1 from rfl, m0, m1]
  omega
theorem core5 (w : Nat) : 2 * (popN (18677 ^^^ w) : Int) = 15 - ((((0 - (1 - 2 * (bt w 0 : Int))) + ((1 - 2 * (bt w 1 : Int)) - (1 - 2 * (bt w 4 : Int)))) - (((1 - 2 * (bt w 2 : Int)) - (1 - 2 * (bt w 8 : Int))) + ((1 - 2 * (bt w 5 : Int)) - (1 - 2 * (bt w 10 : Int))))) + ((((1 - 2 * (bt w 3 : Int)) - (1 - 2 * (bt w 14 : Int))) + ((1 - 2 * (bt w 9 : Int)) - (1 - 2 * (bt w 7 : Int)))) - (((1 - 2 * (bt w 6 : Int)) - (1 - 2 * (bt w 13 : Int))) + ((1 - 2 * (bt w 11 : Int)) - (1 - 2 * (bt w 12 : Int)))))) ∧ 2 * (popN (14090 ^^^ w) : Int) = 15 + ((((0 - (1 - 2 * (bt w 0 : Int))) + ((1 - 2 * (bt w 1 : Int)) - (1 - 2 * (bt w 4 : Int)))) - (((1 - 2 * (bt w 2 : Int)) - (1 - 2 * (bt w 8 : Int))) + ((1 - 2 * (bt w 5 : Int)) - (1 - 2 * (bt w 10 : Int))))) + ((((1 - 2 * (bt w 3 : Int)) - (1 - 2 * (bt w 14 : Int))) + ((1 - 2 * (bt w 9 : Int)) - (1 - 2 * (bt w 7 : Int)))) - (((1 - 2 * (bt w 6 : Int)) - (1 - 2 * (bt w 13 : Int))) + ((1 - 2 * (bt w 11 : Int)) - (1 - 2 * (bt w 12 : Int)))))) := by
  rw [pop_cw, pop_cw]
  simp only [show bt 18677 0 = 1 from rfl, show bt 18677 1 = 0 from rfl, show bt 18677 2 = 1 from rfl, show bt 18677 3 = 0 from rfl, show bt 18677 4 = 1 from rfl, show bt 18677 5 = 1 from rfl, show bt 18677 6 = 1 from rfl, show bt 18677 7 = 1 from rfl, show bt 18677 8 = 0 from rfl, show bt 18677 9 = 0 from rfl, show bt 18677 10 = 0 from rfl, show bt 18677 11 = 1 from rfl, show bt 18677 12 = 0 from rfl, show bt 18677 13 = 0 from rfl, show bt 18677 14 = 1 from rfl, show bt 14090 0 = 0 from rfl, show bt 14090 1 = 1 from rfl, show bt 14090 2 = 0 from rfl, show bt 14090 3 = 1 from rfl, show bt 14090 4 = 0 from rfl, show bt 14090 5 = 0 from rfl, show bt 14090 6 = 0 from rfl, show bt 14090 7 = 0 from rfl, show bt 14090 8 = 1 from rfl, show bt 14090 9 = 1 from rfl, show bt 14090 10 = 1 from rfl, show bt 14090 11 = 0 from rfl, show bt 14090 12 = 1 from rfl, show bt 14090 13 = 1 from rfl, show bt 14090 14 = 0 from rfl, m0, m1]
  omega
theorem core6 (w : Nat) : 2 * (popN (9174 ^^^ w) : Int) = 15 - ((((0 + (1 - 2 * (bt w 0 : Int))) - ((1 - 2 * (bt w 1 : Int)) + (1 - 2 * (bt w 4 : Int)))) - (((1 - 2 * (bt w 2 : Int)) + (1 - 2 * (bt w 8 : Int))) - ((1 - 2 * (bt w 5 : Int)) + (1 - 2 * (bt w 10 : Int))))) + ((((1 - 2 * (bt w 3 : Int)) + (1 - 2 * (bt w 14 : Int))) - ((1 - 2 * (bt w 9 : Int)) + (1 - 2 * (bt w 7 : Int)))) - (((1 - 2 * (bt w 6 : Int)) + (1 - 2 * (bt w 13 : Int))) - ((1 - 2 * (bt w 11 : Int)) + (1 - 2 * (bt w 12 : Int)))))) ∧ 2 * (popN (23593 ^^^ w) : Int) = 15 + ((((0 + (1 - 2 * (bt w 0 : Int))) - ((1 - 2 * (bt w 1 : Int)) + (1 - 2 * (bt w 4 : Int)))) - (((1 - 2 * (bt w 2 : Int)) + (1 - 2 * (bt w 8 : Int))) - ((1 - 2 * (bt w 5 : Int)) + (1 - 2 * (bt w 10 : Int))))) + ((((1 - 2 * (bt w 3 : Int)) + (1 - 2 * (bt w 14 : Int))) - ((1 - 2 * (bt w 9 : Int)) + (1 - 2 * (bt w 7 : Int)))) - (((1 - 2 * (bt w 6 : Int)) + (1 - 2 * (bt w 13 : Int))) - ((1 - 2 * (bt w 11 : Int)) + (1 - 2 * (bt w 12 : Int)))))) := by
  rw [pop_cw, pop_cw]
  simp only [show bt 9174 0 = 0 from rfl, show bt 9174 1 = 1 from rfl, show bt 9174 2 = 1 from rfl, show bt 9174 3 = 0 from rfl, show bt 9174 4 = 1 from rfl, show bt 9174 5 = 0 from rfl, show bt 9174 6 = 1 from rfl, show bt 9174 7 = 1 from rfl, show bt 9174 8 = 1 from rfl, show bt 9174 9 = 1 from rfl, show bt 9174 10 = 0 from rfl, show bt 9174 11 = 0 from rfl, show bt 9174 12 = 0 from rfl, show bt 9174 13 = 1 from rfl, show bt 9174 14 = 0 from rfl, show bt 23593 0 = 1 from rfl, show bt 23593 1 = 0 from rfl, show bt 23593 2 = 0 from rfl, show bt 23593 3 = 1 from rfl, show bt 23593 4 = 0 from rfl, show bt 23593 5 = 1 from rfl, show bt 23593 6 = 0 from rfl, show bt 23593 7 = 0 from rfl, show bt 23593 8 = 0 from rfl, show bt 23593 9 = 0 from rfl, show bt 23593 10 = 1 from rfl, show bt 23593 11 = 1 from rfl, show bt 23593 12 = 1 from rfl, show bt 23593 13 = 0 from rfl, show bt 23593 14 = 1 from rfl, m0, m1]
  omega
theorem core7 (w : Nat) : 2 * (popN (22087 ^^^ w) : Int) = 15 - ((((0 - (1 - 2 * (bt w 0 : Int))) - ((1 - 2 * (bt w 1 : Int)) - (1 - 2 * (bt w 4 : Int)))) - (((1 - 2 * (bt w 2 : Int)) - (1 - 2 * (bt w 8 : Int))) - ((1 - 2 * (bt w 5 : Int)) - (1 - 2 * (bt w 10 : Int))))) + ((((1 - 2 * (bt w 3 : Int)) - (1 - 2 * (bt w 14 : Int))) - ((1 - 2 * (bt w 9 : Int)) - (1 - 2 * (bt w 7 : Int)))) - (((1 - 2 * (bt w 6 : Int)) - (1 - 2 * (bt w 13 : Int))) - ((1 - 2 * (bt w 11 : Int)) - (1 - 2 * (bt w 12 : Int)))))) ∧ 2 * (popN (10680 ^^^ w) : Int) = 15 + ((((0 - (1 - 2 * (bt w 0 : Int))) - ((1 - 2 * (bt w 1 : Int)) - (1 - 2 * (bt w 4 : Int)))) - (((1 - 2 * (bt w 2 : Int)) - (1 - 2 * (bt w 8 : Int))) - ((1 - 2 * (bt w 5 : Int)) - (1 - 2 * (bt w 10 : Int))))) + ((((1 - 2 * (bt w 3 : Int)) - (1 - 2 * (bt w 14 : Int))) - ((1 - 2 * (bt w 9 : Int)) - (1 - 2 * (bt w 7 : Int)))) - (((1 - 2 * (bt w 6 : Int)) - (1 - 2 * (bt w 13 : Int))) - ((1 - 2 * (bt w 11 : Int)) - (1 - 2 * (bt w 12 : Int)))))) := by
  rw [pop_cw, pop_cw]
  simp only [show bt 22087 0 = 1 from rfl, show bt 22087 1 = 1 from rfl, show bt 22087 2 = 1 from rfl, show bt 22087 3 = 0 from rfl, show bt 22087 4 = 0 from rfl, show bt 22087 5 = 0 from rfl, show bt 22087 6 = 1 from rfl, show bt 22087 7 = 0 from rfl, show bt 22087 8 = 0 from rfl, show bt 22087 9 = 1 from rfl, show bt 22087 10 = 1 from rfl, show bt 22087 11 = 0 from rfl, show bt 22087 12 = 1 from rfl, show bt 22087 13 = 0 from rfl, show bt 22087 14 = 1 from rfl, show bt 10680 0 = 0 from rfl, show bt 10680 1 = 0 from rfl, show bt 10680 2 = 0 from rfl, show bt 10680 3 = 1 from rfl, show bt 10680 4 = 1 from rfl, show bt 10680 5 = 1 from rfl, show bt 10680 6 = 0 from rfl, show bt 10680 7 = 1 from rfl, show bt 10680 8 = 1 from rfl, show bt 10680 9 = 0 from rfl, show bt 10680 10 = 0 from rfl, show bt 10680 11 = 1 from rfl, show bt 10680 12 = 0 from rfl, show bt 10680 13 = 1 from rfl, show bt 10680 14 = 0 from rfl, m0, m1]
  omega
theorem core8 (w : Nat) : 2 * (popN (31432 ^^^ w) : Int) = 15 - ((((0 + (1 - 2 * (bt w 0 : Int))) + ((1 - 2 * (bt w 1 : Int)) + (1 - 2 * (bt w 4 : Int)))) + (((1 - 2 * (bt w 2 : Int)) + (1 - 2 * (bt w 8 : Int))) + ((1 - 2 * (bt w 5 : Int)) + (1 - 2 * (bt w 10 : Int))))) - ((((1 - 2 * (bt w 3 : Int)) + (1 - 2 * (bt w 14 : Int))) + ((1 - 2 * (bt w 9 : Int)) + (1 - 2 * (bt w 7 : Int)))) + (((1 - 2 * (bt w 6 : Int)) + (1 - 2 * (bt w 13 : Int))) + ((1 - 2 * (bt w 11 : Int)) + (1 - 2 * (bt w 12 : Int)))))) ∧ 2 * (popN (1335 ^^^ w) : Int) = 15 + ((((0 + (1 - 2 * (bt w 0 : Int))) + ((1 - 2 * (bt w 1 : Int)) + (1 - 2 * (bt w 4 : Int)))) + (((1 - 2 * (bt w 2 : Int)) + (1 - 2 * (bt w 8 : Int))) + ((1 - 2 * (bt w 5 : Int)) + (1 - 2 * (bt w 10 : Int))))) - ((((1 - 2 * (bt w 3 : Int)) + (1 - 2 * (bt w 14 : Int))) + ((1 - 2 * (bt w 9 : Int)) + (1 - 2 * (bt w 7 : Int)))) + (((1 - 2 * (bt w 6 : Int)) + (1 - 2 * (bt w 13 : Int))) + ((1 - 2 * (bt w 11 : Int)) + (1 - 2 * (bt w 12 : Int)))))) := by
  rw [pop_cw, pop_cw]
  simp only [show bt 31432 0 = 0 from rfl, show bt 31432 1 = 0 from rfl, show bt 31432 2 = 0 from rfl, show bt 31432 3 = 1 from rfl, show bt 31432 4 = 0 from rfl, show bt 31432 5 = 0 from rfl, show bt 31432 6 = 1 from rfl, show bt 31432 7 = 1 from rfl, show bt 31432 8 = 0 from rfl, show bt 31432 9 = 1 from rfl, show bt 31432 10 = 0 from rfl, show bt 31432 11 = 1 from rfl, show bt 31432 12 = 1 from rfl, show bt 31432 13 = 1 from rfl, show bt 31432 14 = 1 from rfl, show bt 1335 0 = 1 from rfl, show bt 1335 1 = 1 from rfl, show bt 1335 2 = 1 from rfl, show bt 1335 3 = 0 from rfl, show bt 1335 4 = 1 from rfl, show bt 1335 5 = 1 from rfl, show bt 1335 6 = 0 from rfl, show bt 1335 7 = 0 from rfl, show bt 1335 8 = 1 from rfl, show bt 1335 9 = 0 from rfl, show bt 1335 10 = 1 from rfl, show bt 1335 11 = 0 from rfl, show bt 1335 12 = 0 from rfl, show bt 1335 13 = 0 from rfl, show bt 1335 14 = 0 from rfl, m0, m1]
  omega
theorem core9 (w : Nat) : 2 * (popN (3929 ^^^ w) : Int) = 15 - ((((0 - (1 - 2 * (bt w 0 : Int))) + ((1 - 2 * (bt w 1 : Int)) - (1 - 2 * (bt w 4 : Int)))) + (((1 - 2 * (bt w 2 : Int)) - (1 - 2 * (bt w 8 : Int))) + ((1 - 2 * (bt w 5 : Int)) - (1 - 2 * (bt w 10 : Int))))) - ((((1 - 2 * (bt w 3 : Int)) - (1 - 2 * (bt w 14 : Int))) + ((1 - 2 * (bt w 9 : Int)) - (1 - 2 * (bt w 7 : Int)))) + (((1 - 2 * (bt w 6 : Int)) - (1 - 2 * (bt w 13 : Int))) + ((1 - 2 * (bt w 11 : Int)) - (1 - 2 * (bt w 12 : Int)))))) ∧ 2 * (popN (28838 ^^^ w) : Int) = 15 + ((((0 - (1 - 2 * (bt w 0 : Int))) + ((1 - 2 * (bt w 1 : Int)) - (1 - 2 * (bt w 4 : Int)))) + (((1 - 2 * (bt w 2 : Int)) - (1 - 2 * (bt w 8 : Int))) + ((1 - 2 * (bt w 5 : Int)) - (1 - 2 * (bt w 10 : Int))))) - ((((1 - 2 * (bt w 3 : Int)) - (1 - 2 * (bt w 14 : Int))) + ((1 - 2 * (bt w 9 : Int)) - (1 - 2 * (bt w 7 : Int)))) + (((1 - 2 * (bt w 6 : Int)) - (1 - 2 * (bt w 13 : Int))) + ((1 - 2 * (bt w 11 : Int)) - (1 - 2 * (bt w 12 : Int)))))) := by
  rw [pop_cw, pop_cw]
  simp only [show bt 3929 0 = 1 from rfl, show bt 3929 1 = 0 from rfl, show bt 3929 2 = 0 from rfl, show bt 3929 3 = 1 from rfl, show bt 3929 4 = 1 from rfl, show bt 3929 5 = 0 from rfl, show bt 3929 6 = 1 from rfl, show bt 3929 7 = 0 from rfl, show bt 3929 8 = 1 from rfl, show bt 3929 9 = 1 from rfl, show bt 3929 10 = 1 from rfl, show bt 3929 11 = 1 from rfl, show bt 3929 12 = 0 from rfl, show bt 3929 13 = 0 from rfl, show bt 3929 14 = 0 from rfl, show bt 28838 0 = 0 from rfl, show bt 28838 1 = 1 from rfl, show bt 28838 2 = 1 from rfl, show bt 28838 3 = 0 from rfl, show bt 28838 4 = 0 from rfl, show bt 28838 5 = 1 from rfl, show bt 28838 6 = 0 from rfl, show bt 28838 7 = 1 from rfl, show bt 28838 8 = 0 from rfl, show bt 28838 9 = 0 from rfl, show bt 28838 10 = 0 from rfl, show bt 28838 11 = 0 from rfl, show bt 28838 12 = 1 from rfl, show bt 28838 13 = 1 from rfl, show bt 28838 14 = 1 from rfl, m0, m1]
  omega
theorem core10 (w : Nat) : 2 * (popN (25722 ^^^ w) : Int) = 15 - ((((0 + (1 - 2 * (bt w 0 : Int))) - ((1 - 2 * (bt w 1 : Int)) + (1 - 2 * (bt w 4 : Int)))) + (((1 - 2 * (bt w 2 : Int)) + (1 - 2 * (bt w 8 : Int))) - ((1 - 2 * (bt w 5 : Int)) + (1 - 2 * (bt w 10 : Int))))) - ((((1 - 2 * (bt w 3 : Int)) + (1 - 2 * (bt w 14 : Int))) - ((1 - 2 * (bt w 9 : Int)) + (1 - 2 * (bt w 7 : Int)))) + (((1 - 2 * (bt w 6 : Int)) + (1 - 2 * (bt w 13 : Int))) - ((1 - 2 * (bt w 11 : Int)) + (1 - 2 * (bt w 12 : Int)))))) ∧ 2 * (popN (7045 ^^^ w) : Int) = 15 + ((((0 + (1 - 2 * (bt w 0 : Int))) - ((1 - 2 * (bt w 1 : Int)) + (1 - 2 * (bt w 4 : Int)))) + (((1 - 2 * (bt w 2 : Int)) + (1 - 2 * (bt w 8 : Int))) - ((1 - 2 * (bt w 5 : Int)) + (1 - 2 * (bt w 10 : Int))))) - ((((1 - 2 * (bt w 3 : Int)) + (1 - 2 * (bt w 14 : Int))) - ((1 - 2 * (bt w 9 : Int)) + (1 - 2 * (bt w 7 : Int)))) + (((1 - 2 * (bt w 6 : Int)) + (1 - 2 * (bt w 13 : Int))) - ((1 - 2 * (bt w 11 : Int)) + (1 - 2 * (bt w 12 : Int)))))) := by
  rw [pop_cw, pop_cw]
  simp only [show bt 25722 0 = 0 from rfl, show bt 25722 1 = 1 from rfl, show bt 25722 2 = 0 from rfl, show bt 25722 3 = 1 from rfl, show bt 25722 4 = 1 from rfl, show bt 25722 5 = 1 from rfl, show bt 25722 6 = 1 from rfl, show bt 25722 7 = 0 from rfl, show bt 25722 8 = 0 from rfl, show bt 25722 9 = 0 from rfl, show bt 25722 10 = 1 from rfl, show bt 25722 11 = 0 from rfl, show bt 25722 12 = 0 from rfl, show bt 25722 13 = 1 from rfl, show bt 25722 14 = 1 from rfl, show bt 7045 0 = 1 from rfl, show bt 7045 1 = 0 from rfl, show bt 7045 2 = 1 from rfl, show bt 7045 3 = 0 from rfl, show bt 7045 4 = 0 from rfl, show bt 7045 5 = 0 from rfl, show bt 7045 6 = 0 from rfl, show bt 7045 7 = 1 from rfl, show bt 7045 8 = 1 from rfl, show bt 7045 9 = 1 from rfl, show bt 7045 10 = 0 from rfl, show bt 7045 11 = 1 from rfl, show bt 7045 12 = 1 from rfl, show bt 7045 13 = 0 from rfl, show bt 7045 14 = 0 from rfl, m0, m1]
  omega
theorem core11 (w : Nat) : 2 * (popN (4587 ^^^ w) : Int) = 15 - ((((0 - (1 - 2 * (bt w 0 : Int))) - ((1 - 2 * (bt w 1 : Int)) - (1 - 2 * (bt w 4 : Int)))) + (((1 - 2 * (bt w 2 : Int)) - (1 - 2 * (bt w 8 : Int))) - ((1 - 2 * (bt w 5 : Int)) - (1 - 2 * (bt w 10 : Int))))) - ((((1 - 2 * (bt w 3 : Int)) - (1 - 2 * (bt w 14 : Int))) - ((1 - 2 * (bt w 9 : Int)) - (1 - 2 * (bt w 7 : Int)))) + (((1 - 2 * (bt w 6 : Int)) - (1 - 2 * (bt w 13 : Int))) - ((1 - 2 * (bt w 11 : Int)) - (1 - 2 * (bt w 12 : Int)))))) ∧ 2 * (popN (28180 ^^^ w) : Int) = 15 + ((((0 - (1 - 2 * (bt w 0 : Int))) - ((1 - 2 * (bt w 1 : Int)) - (1 - 2 * (bt w 4 : Int)))) + (((1 - 2 * (bt w 2 : Int)) - (1 - 2 * (bt w 8 : Int))) - ((1 - 2 * (bt w 5 : Int)) - (1 - 2 * (bt w 10 : Int))))) - ((((1 - 2 * (bt w 3 : Int)) - (1 - 2 * (bt w 14 : Int))) - ((1 - 2 * (bt w 9 : Int)) - (1 - 2 * (bt w 7 : Int)))) + (((1 - 2 * (bt w 6 : Int)) - (1 - 2 * (bt w 13 : Int))) - ((1 - 2 * (bt w 11 : Int)) - (1 - 2 * (bt w 12 : Int)))))) := by
  rw [pop_cw, pop_cw]
  simp only [show bt 4587 0 = 1 from rfl, show bt 4587 1 = 1 from rfl, show bt 4587 2 = 0 from rfl, show bt 4587 3 = 1 from rfl, show bt 4587 4 = 0 from rfl, show bt 4587 5 = 1 from rfl, show bt 4587 6 = 1 from rfl, show bt 4587 7 = 1 from rfl, show bt 4587 8 = 1 from rfl, show bt 4587 9 = 0 from rfl, show bt 4587 10 = 0 from rfl, show bt 4587 11 = 0 from rfl, show bt 4587 12 = 1 from rfl, show bt 4587 13 = 0 from rfl, show bt 4587 14 = 0 from rfl, show bt 28180 0 = 0 from rfl, show bt 28180 1 = 0 from rfl, show bt 28180 2 = 1 from rfl, show bt 28180 3 = 0 from rfl, show bt 28180 4 = 1 from rfl, show bt 28180 5 = 0 from rfl, show bt 28180 6 = 0 from rfl, show bt 28180 7 = 0 from rfl, show bt 28180 8 = 0 from rfl, show bt 28180 9 = 1 from rfl, show bt 28180 10 = 1 from rfl, show bt 28180 11 = 1 from rfl, show bt 28180 12 = 0 from rfl, show bt 28180 13 = 1 from rfl, show bt 28180 14 = 1 from rfl, m0, m1]
  omega
theorem core12 (w : Nat) : 2 * (popN (18348 ^^^ w) : Int) = 15 - ((((0 + (1 - 2 * (bt w 0 : Int))) + ((1 - 2 * (bt w 1 : Int)) + (1 - 2 * (bt w 4 : Int)))) - (((1 - 2 * (bt w 2 : Int)) + (1 - 2 * (bt w 8 : Int))) + ((1 - 2 * (bt w 5 : Int)) + (1 - 2 * (bt w 10 : Int))))) - ((((1 - 2 * (bt w 3 : Int)) + (1 - 2 * (bt w 14 : Int))) + ((1 - 2 * (bt w 9 : Int)) + (1 - 2 * (bt w 7 : Int)))) - (((1 - 2 * (bt w 6 : Int)) + (1 - 2 * (bt w 13 : Int))) + ((1 - 2 * (bt w 11 : Int)) + (1 - 2 * (bt w 12 : Int)))))) ∧ 2 * (popN (14419 ^^^ w) : Int) = 15 + ((((0 + (1 - 2 * (bt w 0 : Int))) + ((1 - 2 * (bt w 1 : Int)) + (1 - 2 * (bt w 4 : Int)))) - (((1 - 2 * (bt w 2 : Int)) + (1 - 2 * (bt w 8 : Int))) + ((1 - 2 * (bt w 5 : Int)) + (1 - 2 * (bt w 10 : Int))))) - ((((1 - 2 * (bt w 3 : Int)) + (1 - 2 * (bt w 14 : Int))) + ((1 - 2 * (bt w 9 : Int)) + (1 - 2 * (bt w 7 : Int)))) - (((1 - 2 * (bt w 6 : Int)) + (1 - 2 * (bt w 13 : Int))) + ((1 - 2 * (bt w 11 : Int)) + (1 - 2 * (bt w 12 : Int)))))) := by
  rw [pop_cw, pop_cw]
  simp only [show bt 18348 0 = 0 from rfl, show bt 18348 1 = 0 from rfl, show bt 18348 2 = 1 from rfl, show bt 18348 3 = 1 from rfl, show bt 18348 4 = 0 from rfl, show bt 18348 5 = 1 from rfl, show bt 18348 6 = 0 from rfl, show bt 18348 7 = 1 from rfl, show bt 18348 8 = 1 from rfl, show bt 18348 9 = 1 from rfl, show bt 18348 10 = 1 from rfl, show bt 18348 11 = 0 from rfl, show bt 18348 12 = 0 from rfl, show bt 18348 13 = 0 from rfl, show bt 18348 14 = 1 from rfl, show bt 14419 0 = 1 from rfl, show bt 14419 1 = 1 from rfl, show bt 14419 2 = 0 from rfl, show bt 14419 3 = 0 from rfl, show bt 14419 4 = 1 from rfl, show bt 14419 5 = 0 from rfl, show bt 14419 6 = 1 from rfl, show bt 14419 7 = 0 from rfl, show bt 14419 8 = 0 from rfl, show bt 14419 9 = 0 from rfl, show bt 14419 10 = 0 from rfl, show bt 14419 11 = 1 from rfl, show bt 14419 12 = 1 from rfl, show bt 14419 13 = 1 from rfl, show bt 14419 14 = 0 from rfl, m0, m1]
  omega
theorem core13 (w : Nat) : 2 * (popN (12861 ^^^ w) : Int) = 15 - ((((0 - (1 - 2 * (bt w 0 : Int))) + ((1 - 2 * (bt w 1 : Int)) - (1 - 2 * (bt w 4 : Int)))) - (((1 - 2 * (bt w 2 : Int)) - (1 - 2 * (bt w 8 : Int))) + ((1 - 2 * (bt w 5 : Int)) - (1 - 2 * (bt w 10 : Int))))) - ((((1 - 2 * (bt w 3 : Int)) - (1 - 2 * (bt w 14 : Int))) + ((1 - 2 * (bt w 9 : Int)) - (1 - 2 * (bt w 7 : Int)))) - (((1 - 2 * (bt w 6 : Int)) - (1 - 2 * (bt w 13 : Int))) + ((1 - 2 * (bt w 11 : Int)) - (1 - 2 * (bt w 12 : Int)))))) ∧ 2 * (popN (19906 ^^^ w) : Int) = 15 + ((((0 - (1 - 2 * (bt w 0 : Int))) + ((1 - 2 * (bt w 1 : Int)) - (1 - 2 * (bt w 4 : Int)))) - (((1 - 2 * (bt w 2 : Int)) - (1 - 2 * (bt w 8 : Int))) + ((1 - 2 * (bt w 5 : Int)) - (1 - 2 * (bt w 10 : Int))))) - ((((1 - 2 * (bt w 3 : Int)) - (1 - 2 * (bt w 14 : Int))) + ((1 - 2 * (bt w 9 : Int)) - (1 - 2 * (bt w 7 : Int)))) - (((1 - 2 * (bt w 6 : Int)) - (1 - 2 * (bt w 13 : Int))) + ((1 - 2 * (bt w 11 : Int)) - (1 - 2 * (bt w 12 : Int)))))) := by
  rw [pop_cw, pop_cw]
  simp only [show bt 12861 0 = 1 from rfl, show bt 12861 1 = 0 from rfl, show bt 12861 2 = 1 from rfl, show bt 12861 3 = 1 from rfl, show bt 12861 4 = 1 from rfl, show bt 12861 5 = 1 from rfl, show bt 12861 6 = 0 from rfl, show bt 12861 7 = 0 from rfl, show bt 12861 8 = 0 from rfl, show bt 12861 9 = 1 from rfl, show bt 12861 10 = 0 from rfl, show bt 12861 11 = 0 from rfl, show bt 12861 12 = 1 from rfl, show bt 12861 13 = 1 from rfl, show bt 12861 14 = 0 from rfl, show bt 19906 0 = 0 from rfl, show bt 19906 1 = 1 from rfl, show bt 19906 2 = 0 from rfl, show bt 19906 3 = 0 from rfl, show bt 19906 4 = 0 from rfl, show bt 19906 5 = 0 from rfl, show bt 19906 6 = 1 from rfl, show bt 19906 7 = 1 from rfl, show bt 19906 8 = 1 from rfl, show bt 19906 9 = 0 from rfl, show bt 19906 10 = 1 from rfl, show bt 19906 11 = 1 from rfl, show bt 19906 12 = 0 from rfl, show bt 19906 13 = 0 from rfl, show bt 19906 14 = 1 from rfl, m0, m1]
  omega
theorem core14 (w : Nat) : 2 * (popN (22814 ^^^ w) : Int) = 15 - ((((0 + (1 - 2 * (bt w 0 : Int))) - ((1 - 2 * (bt w 1 : Int)) + (1 - 2 * (bt w 4 : Int)))) - (((1 - 2 * (bt w 2 : Int)) + (1 - 2 * (bt w 8 : Int))) - ((1 - 2 * (bt w 5 : Int)) + (1 - 2 * (bt w 10 : Int))))) - ((((1 - 2 * (bt w 3 : Int)) + (1 - 2 * (bt w 14 : Int))) - ((1 - 2 * (bt w 9 : Int)) + (1 - 2 * (bt w 7 : Int)))) - (((1 - 2 * (bt w 6 : Int)) + (1 - 2 * (bt w 13 : Int))) - ((1 - 2 * (bt w 11 : Int)) + (1 - 2 * (bt w 12 : Int)))))) ∧ 2 * (popN (9953 ^^^ w) : Int) = 15 + ((((0 + (1 - 2 * (bt w 0 : Int))) - ((1 - 2 * (bt w 1 : Int)) + (1 - 2 * (bt w 4 : Int)))) - (((1 - 2 * (bt w 2 : Int)) + (1 - 2 * (bt w 8 : Int))) - ((1 - 2 * (bt w 5 : Int)) + (1 - 2 * (bt w 10 : Int))))) - ((((1 - 2 * (bt w 3 : Int)) + (1 - 2 * (bt w 14 : Int))) - ((1 - 2 * (bt w 9 : Int)) + (1 - 2 * (bt w 7 : Int)))) - (((1 - 2 * (bt w 6 : Int)) + (1 - 2 * (bt w 13 : Int))) - ((1 - 2 * (bt w 11 : Int)) + (1 - 2 * (bt w 12 : Int)))))) := by
  rw [pop_cw, pop_cw]
  simp only [show bt 22814 0 = 0 from rfl, show bt 22814 1 = 1 from rfl, show bt 22814 2 = 1 from rfl, show bt 22814 3 = 1 from rfl, show bt 22814 4 = 1 from rfl, show bt 22814 5 = 0 from rfl, show bt 22814 6 = 0 from rfl, show bt 22814 7 = 0 from rfl, show bt 22814 8 = 1 from rfl, show bt 22814 9 = 0 from rfl, show bt 22814 10 = 0 from rfl, show bt 22814 11 = 1 from rfl, show bt 22814 12 = 1 from rfl, show bt 22814 13 = 0 from rfl, show bt 22814 14 = 1 from rfl, show bt 9953 0 = 1 from rfl, show bt 9953 1 = 0 from rfl, show bt 9953 2 = 0 from rfl, show bt 9953 3 = 0 from rfl, show bt 9953 4 = 0 from rfl, show bt 9953 5 = 1 from rfl, show bt 9953 6 = 1 from rfl, show bt 9953 7 = 1 from rfl, show bt 9953 8 = 0 from rfl, show bt 9953 9 = 1 from rfl, show bt 9953 10 = 1 from rfl, show bt 9953 11 = 0 from rfl, show bt 9953 12 = 0 from rfl, show bt 9953 13 = 1 from rfl, show bt 9953 14 = 0 from rfl, m0, m1]
  omega
theorem core15 (w : Nat) : 2 * (popN (11407 ^^^ w) : Int) = 15 - ((((0 - (1 - 2 * (bt w 0 : Int))) - ((1 - 2 * (bt w 1 : Int)) - (1 - 2 * (bt w 4 : Int)))) - (((1 - 2 * (bt w 2 : Int)) - (1 - 2 * (bt w 8 : Int))) - ((1 - 2 * (bt w 5 : Int)) - (1 - 2 * (bt w 10 : Int))))) - ((((1 - 2 * (bt w 3 : Int)) - (1 - 2 * (bt w 14 : Int))) - ((1 - 2 * (bt w 9 : Int)) - (1 - 2 * (bt w 7 : Int)))) - (((1 - 2 * (bt w 6 : Int)) - (1 - 2 * (bt w 13 : Int))) - ((1 - 2 * (bt w 11 : Int)) - (1 - 2 * (bt w 12 : Int)))))) ∧ 2 * (popN (21360 ^^^ w) : Int) = 15 + ((((0 - (1 - 2 * (bt w 0 : Int))) - ((1 - 2 * (bt w 1 : Int)) - (1 - 2 * (bt w 4 : Int)))) - (((1 - 2 * (bt w 2 : Int)) - (1 - 2 * (bt w 8 : Int))) - ((1 - 2 * (bt w 5 : Int)) - (1 - 2 * (bt w 10 : Int))))) - ((((1 - 2 * (bt w 3 : Int)) - (1 - 2 * (bt w 14 : Int))) - ((1 - 2 * (bt w 9 : Int)) - (1 - 2 * (bt w 7 : Int)))) - (((1 - 2 * (bt w 6 : Int)) - (1 - 2 * (bt w 13 : Int))) - ((1 - 2 * (bt w 11 : Int)) - (1 - 2 * (bt w 12 : Int)))))) := by
  rw [pop_cw, pop_cw]
  simp only [show bt 11407 0 = 1 from rfl, show bt 11407 1 = 1 from rfl, show bt 11407 2 = 1 from rfl, show bt 11407 3 = 1 from rfl, show bt 11407 4 = 0 from rfl, show bt 11407 5 = 0 from rfl, show bt 11407 6 = 0 from rfl, show bt 11407 7 = 1 from rfl, show bt 11407 8 = 0 from rfl, show bt 11407 9 = 0 from rfl, show bt 11407 10 = 1 from rfl, show bt 11407 11 = 1 from rfl, show bt 11407 12 = 0 from rfl, show bt 11407 13 = 1 from rfl, show bt 11407 14 = 0 from rfl, show bt 21360 0 = 0 from rfl, show bt 21360 1 = 0 from rfl, show bt 21360 2 = 0 from rfl, show bt 21360 3 = 0 from rfl, show bt 21360 4 = 1 from rfl, show bt 21360 5 = 1 from rfl, show bt 21360 6 = 1 from rfl, show bt 21360 7 = 0 from rfl, show bt 21360 8 = 1 from rfl, show bt 21360 9 = 1 from rfl, show bt 21360 10 = 0 from rfl, show bt 21360 11 = 0 from rfl, show bt 21360 12 = 1 from rfl, show bt 21360 13 = 0 from rfl, show bt 21360 14 = 1 from rfl, m0, m1]
  omega
theorem core (w i : Nat) (hi : i < 16) : 2 * (popN ((cwT.getD i (0, 0)).1 ^^^ w) : Int) = 15 - (xs w).getD i 0 ∧ 2 * (popN ((cwT.getD i (0, 0)).2 ^^^ w) : Int) = 15 + (xs w).getD i 0 := by
  rw [xs_eq]
  have h : i = 0 ∨ i = 1 ∨ i = 2 ∨ i = 3 ∨ i = 4 ∨ i = 5 ∨ i = 6 ∨ i = 7 ∨ i = 8 ∨ i = 9 ∨ i = 10 ∨ i = 11 ∨ i = 12 ∨ i = 13 ∨ i = 14 ∨ i = 15 := by omega
  rcases h with rfl | rfl | rfl | rfl | rfl | rfl | rfl | rfl | rfl | rfl | rfl | rfl | rfl | rfl | rfl | rfl
  · exact core0 w
  · exact core1 w
  · exact core2 w
  · exact core3 w
  · exact core4 w
  · exact core5 w
  · exact core6 w
  · exact core7 w
  · exact core8 w
  · exact core9 w
  · exact core10 w
  · exact core11 w
  · exact core12 w
  · exact core13 w
  · exact core14 w
  · exact core15 w
end
section
def fwN (a : Nat) : Nat := (fw a).toNat
theorem fw_chk : ∀ a : Nat, a < 32 → Builtin.bitXor (infoI a) 21522 = (fwN a : Int) ∧ fwN a < 32768 := by decide +kernel
theorem fw_far : ∀ a : Nat, a < 32 → ∀ b : Nat, b < 32 → popN (fwN a ^^^ fwN b) ≤ 6 → a = b := by decide +kernel
theorem pow_one : ∀ n : Nat, n < 15 → popN (2 ^ n) = 1 ∧ 2 ^ n < 32768 := by decide +kernel

def FlipInv (cell : Int) (i : Nat) (word : Int) : Prop := ∃ W : Nat, word = (W : Int) ∧ W < 32768 ∧ popN (fwN ((cell.fdiv 2).fmod 32).toNat ^^^ W) ≤ i
theorem asked_nat (cell : Int) : ((cell.fdiv 2).fmod 32).toNat < 32 ∧ (((cell.fdiv 2).fmod 32).toNat : Int) = (cell.fdiv 2).fmod 32 := by
  have h1 := fmod_lo (cell.fdiv 2) (n := 32) (by decide)
  have h2 := fmod_hi (cell.fdiv 2) (n := 32) (by decide)
  omega
theorem flip_start {cell r : Int} (e : r = infoI ((cell.fdiv 2).fmod 32)) : FlipInv cell ([] : List Int).length (Builtin.bitXor r 21522) := by
  obtain ⟨h1, h2⟩ := asked_nat cell
  obtain ⟨h3, h4⟩ := fw_chk _ h1
  refine ⟨fwN ((cell.fdiv 2).fmod 32).toNat, ?_, h4, ?_⟩
  · rw [e, ← h3, h2]
  · rw [Nat.xor_self]; decide
theorem flip_keep {cell word k : Int} {pre : List Int} (h : FlipInv cell pre.length word) : FlipInv cell (pre ++ [k]).length word := by
  obtain ⟨W, h1, h2, h3⟩ := h
  exact ⟨W, h1, h2, by simp only [List.length_append, List.length_cons, List.length_nil]; omega⟩
theorem flip_turn {cell word k p : Int} {pre : List Int} (h : FlipInv cell pre.length word) (hp : p < 15) : FlipInv cell (pre ++ [k]).length (Builtin.bitXor word (2 ^ p.toNat)) := by
  obtain ⟨W, rfl, h2, h3⟩ := h
  obtain ⟨h4, h5⟩ := pow_one p.toNat (by omega)
  have e : (2 : Int) ^ p.toNat = ((2 ^ p.toNat : Nat) : Int) := by push_cast; rfl
  refine ⟨W ^^^ 2 ^ p.toNat, by rw [e, xor_nat], ?_, ?_⟩
  · exact Nat.xor_lt_two_pow (n := 15) h2 h5
  · have h6 := pop_tri (fwN ((cell.fdiv 2).fmod 32).toNat) (W ^^^ 2 ^ p.toNat) W
    have h7 : (W ^^^ 2 ^ p.toNat) ^^^ W = 2 ^ p.toNat := by rw [Nat.xor_comm W, Nat.xor_assoc, Nat.xor_self, Nat.xor_zero]
    rw [h7, h4] at h6
    simp only [List.length_append, List.length_cons, List.length_nil]
    omega
theorem flip_dom {c : Int} {i : Nat} {w : Int} (h : FlipInv c i w) : 0 ≤ w ∧ w < 32768 := by
  obtain ⟨W, rfl, h2, _⟩ := h
  omega

theorem told_dom {i : Nat} {t : Int} {ns : List Int} (hl : ns.length = 16) (hi : i < ns.length) (ht : t = 0 ∨ t = 1) : 0 ≤ toldI i t ∧ toldI i t < 32 := by
  obtain ⟨h1, h2⟩ := told_rng i (by omega)
  rcases ht with rfl | rfl
  · exact h1
  · exact h2

theorem abs_get {ns : List Int} {i : Nat} (hi : i < ns.length) : (List.map (fun k' : Int => if k' < 0 then -k' else k') ns).getD i 0 = if ns.getD i 0 < 0 then -(ns.getD i 0) else ns.getD i 0 := by
  rw [List.getD_eq_getElem?_getD, List.getD_eq_getElem?_getD, List.getElem?_map, List.getElem?_eq_getElem hi]
  rfl
/-- the first thing asked: the word that is told is as far as the entry says -/
theorem end_pop2 {word M r t : Int} {ns : List Int} {i : Nat} (hw : 0 ≤ word ∧ word < 32768) (e1 : ns = trf word) (e2 : ns.length = 16) (hg : (List.map (fun k' : Int => if k' < 0 then -k' else k') ns).getD i 0 = M) (hi : i < ns.length)
    (ht : (t = 1 ∧ ns.getD (i : Int).toNat 0 < 0) ∨ (t = 0 ∧ ¬ ns.getD (i : Int).toNat 0 < 0)) (er : r = infoI (toldI i t)) : 2 * popI (Builtin.bitXor (Builtin.bitXor r 21522) word) = 15 - M := by
  obtain ⟨w, rfl⟩ := Int.eq_ofNat_of_zero_le hw.1
  have h16 : i < 16 := by omega
  obtain ⟨c1, c2⟩ := core w i h16
  obtain ⟨t1, t2⟩ := cw_tab i h16
  rw [abs_get hi] at hg
  have ei : (i : Int).toNat = i := Int.toNat_natCast i
  rw [ei] at ht
  have ex : xs w = ns := e1.symm
  rw [ex] at c1 c2
  rcases ht with ⟨rfl, hx⟩ | ⟨rfl, hx⟩
  · have e3 : Builtin.bitXor r 21522 = ((cwT.getD i (0, 0)).2 : Int) := by rw [er]; exact t2
    rw [e3, xor_nat, pop_nat, c2, ← hg, if_pos hx]
    omega
  · have e3 : Builtin.bitXor r 21522 = ((cwT.getD i (0, 0)).1 : Int) := by rw [er]; exact t1
    rw [e3, xor_nat, pop_nat, c1, ← hg, if_neg hx]
theorem end_pop {word M r t : Int} {ns : List Int} {i : Nat} (hw : 0 ≤ word ∧ word < 32768) (e1 : ns = trf word) (e2 : ns.length = 16) (hg : (List.map (fun k' : Int => if k' < 0 then -k' else k') ns).getD i 0 = M) (hi : i < ns.length)
    (ht : (t = 1 ∧ ns.getD (i : Int).toNat 0 < 0) ∨ (t = 0 ∧ ¬ ns.getD (i : Int).toNat 0 < 0)) (er : r = infoI (toldI i t)) : popI (Builtin.bitXor (Builtin.bitXor r 21522) word) = (15 - M).fdiv 2 := by
  have h := end_pop2 hw e1 e2 hg hi ht er
  rw [Int.fdiv_eq_ediv_of_nonneg _ (by decide)]
  omega
theorem pop_if {P : Prop} [Decidable P] (h : P) (x : Int) : (List.map (fun k' : Int => if P then (x.fdiv (2 ^ k'.toNat)).fmod 2 else k') (rangeKs 0 (15 - 0 : Int).toNat)).sum = popI x := by
  simp only [if_pos h]
theorem flip3 {c w : Int} (h : FlipInv c (rangeKs 0 (3 - 0 : Int).toNat).length w) : FlipInv c 3 w := by
  rw [rangeKs_length] at h
  exact h
/-- the second: within three bits of a format word that word is told -/
theorem end_told {cell word M t : Int} {ns : List Int} {i : Nat} (hF : FlipInv cell 3 word) (e1 : ns = trf word) (e2 : ns.length = 16) (hM : ∀ a : Int, a ∈ List.map (fun k' : Int => if k' < 0 then -k' else k') ns → a ≤ M)
    (hg : (List.map (fun k' : Int => if k' < 0 then -k' else k') ns).getD i 0 = M) (hi : i < ns.length)
    (ht : (t = 1 ∧ ns.getD (i : Int).toNat 0 < 0) ∨ (t = 0 ∧ ¬ ns.getD (i : Int).toNat 0 < 0)) : toldI i t = (cell.fdiv 2).fmod 32 := by
  have hpop := end_pop2 (flip_dom hF) e1 e2 hg hi ht rfl
  have hdom := told_dom e2 hi (t := t) (by rcases ht with h | h; exact .inr h.1; exact .inl h.1)
  obtain ⟨h1, h2⟩ := asked_nat cell
  obtain ⟨W, rfl, hW, hp⟩ := hF
  obtain ⟨b, hb⟩ := Int.eq_ofNat_of_zero_le hdom.1
  have hb32 : b < 32 := by omega
  rw [hb] at hpop ⊢
  rw [← h2]
  generalize ((cell.fdiv 2).fmod 32).toNat = a at *
  rw [(fw_chk b hb32).1, xor_nat, pop_nat] at hpop
  -- some entry is the asked word's own
  obtain ⟨j, hj, hja⟩ := told_all a h1
  obtain ⟨c1, c2⟩ := core W j hj
  obtain ⟨t1, t2⟩ := cw_tab j hj
  have ex : xs W = ns := e1.symm
  rw [ex] at c1 c2
  have hjn : j < ns.length := by omega
  have hle := hM _ (List.mem_map.mpr ⟨ns.getD j 0, by rw [List.getD_eq_getElem?_getD, List.getElem?_eq_getElem hjn]; exact List.getElem_mem hjn, rfl⟩)
  have hbig : 9 ≤ M := by
    have hfa := (fw_chk a h1).1
    rcases hja with e | e
    · have e3 : ((cwT.getD j (0, 0)).1 : Int) = (fwN a : Int) := by rw [← t1, ← hfa]; unfold cwI; rw [e]
      have e4 : (cwT.getD j (0, 0)).1 = fwN a := by omega
      rw [e4] at c1
      split at hle <;> omega
    · have e3 : ((cwT.getD j (0, 0)).2 : Int) = (fwN a : Int) := by rw [← t2, ← hfa]; unfold cwI; rw [e]
      have e4 : (cwT.getD j (0, 0)).2 = fwN a := by omega
      rw [e4] at c2
      split at hle <;> omega
  have htri := pop_tri (fwN a) (fwN b) W
  have := fw_far a h1 b hb32 (by omega)
  omega
end
section
abbrev prg := PySem.Challenge.rw_bq0022_01.row.prog
abbrev Clm (dd du : Nat) (w : World) (loose : List Str) (mean : ExcName → Option Value) (mg mb : Str → Option Value) (f : Addr) (news : List (Addr × Obj)) (pre : Prop) (vs : List Value)
    (Ret : Heap → Addr → (Str → Option Value) → Shared → (Value → Shared → Prop) → Prop) : Prop :=
  ∀ (dp un : Nat) (gd : Option (List Code)) (cn : Str) (cs : Scope) (a : Addr) (ccd : Value) (cl : List (Str × Addr)) (outer : List Env) (A₀ : Around) (base h₀ : Heap) (L : Addr) (m : Str → Option Value) (s : Shared) (Q E : Value → Shared → Prop),
    Below A₀ base outer h₀ → Fr h₀ L s.heap m → (hd.heap_39 w.params).In h₀ → News h₀ L s.heap news → Top hd.view_39 loose mean mg mb h₀ → cs.kind = .function →
    pre → dp + dd < recursionLimit → un + du < cLine → Ret h₀ L m s Q →
      wpAny (model prg w) (ktrTop dp un gd cn cs L a ccd cl outer) (call (.ref f) vs) Q E s
abbrev RetInt (news : List (Addr × Obj)) (r : Int) (h₀ : Heap) (L : Addr) (m : Str → Option Value) (s : Shared) (Q : Value → Shared → Prop) : Prop :=
  ∀ (t : Tok) (h' : Heap) (tk' : Nat), Fr h₀ L h' m → News h₀ L h' news → Q (.int r t) { s with heap := h', toks := tk' }
abbrev RetIf (news : List (Addr × Obj)) (P : Int → Prop) (h₀ : Heap) (L : Addr) (m : Str → Option Value) (s : Shared) (Q : Value → Shared → Prop) : Prop :=
  ∀ (r : Int) (t : Tok) (h' : Heap) (tk' : Nat), P r → Fr h₀ L h' m → News h₀ L h' news → Q (.int r t) { s with heap := h', toks := tk' }
abbrev RetList (news : List (Addr × Obj)) (P : List Int → Prop) (h₀ : Heap) (L : Addr) (m : Str → Option Value) (s : Shared) (Q : Value → Shared → Prop) : Prop :=
  ∀ (D : Addr) (vs : List Value) (ns : List Int) (c : Nat) (h' : Heap) (tk' : Nat), IntsAre vs ns → P ns → Fr h₀ L h' m → News h₀ L h' ((D, listOf vs.toArray c) :: news) → (∀ p ∈ news, p.1 < D) → Q (.ref D) { s with heap := h', toks := tk' }

abbrev RetNew (news : List (Addr × Obj)) (P : List Int → Prop) (h₀ : Heap) (L : Addr) (m : Str → Option Value) (s : Shared) (Q : Value → Shared → Prop) : Prop :=
  ∀ (D : Addr) (vs : List Value) (ns : List Int) (c : Nat) (h' : Heap) (tk' : Nat), IntsAre vs ns → P ns → Fr h₀ L h' m → News h₀ L h' ((D, listOf vs.toArray c) :: news) → (∀ p ∈ news, p.1 ≠ D) → Q (.ref D) { s with heap := h', toks := tk' }

section
open PySem.Calls
/-- a def is entered over the very heap: all that stands is base for it -/
theorem enter_over {prog : Program} {w : World} {A₀ A : Around} {s : Shared} {K : Frag} {h₀ base : Heap} {L : Addr} {m mg mb : Str → Option Value} {p : Program} {loose : List Str} {mean : ExcName → Option Value}
    {env : Env} {outer : List Env} {R : Result → Shared → Prop} {name qual : Str} {params : Arguments} {body : List Stmt} {scope : Scope} {dV kV doc pm cdv ct oc : Value} {an od : Option Addr} {osl : Array (Option Value)} {f : Addr} {args : Args} {binds : List (Str × Value)}
    (B : Below A₀ base outer h₀) (F : Fr h₀ L s.heap m) (X₀ : K.In h₀) (T : Top p loose mean mg mb h₀) (hA : A.frames = some (env :: outer)) (hf : env.frame = some L) (hke : env.scope.kind = .function)
    (ho : K.lookup f = some ⟨oc, od, .func (fnOf name qual params body scope dV kV doc pm an cdv ct), osl⟩) (hcd : codeIn K cdv qual = true) (hroom : A.depth < recursionLimit)
    (hbind : BindsTo s (fnOf name qual params body scope dV kV doc pm an cdv ct) args binds) (hloc : ∀ y ∈ binds, scope.names.lookup y.1 = some .local)
    (h : ∀ L' h₁, Fr s.heap L' h₁ (fun y => binds.reverse.lookup y) → News s.heap L' h₁ [] → Below A base (env :: outer) s.heap → K.In s.heap → Top p loose mean mg mb s.heap →
      wpAny (model prog w) (A.deeper (envOf qual scope L' f cdv)) (execs body (envOf qual scope L' f cdv))
        (fun fl s' => LeaveK h₀ L m s.heap R (match fl with | .ret v => v | _ => .none) s')
        (fun e s' => wpAny (model prog w) (A.deeper (envOf qual scope L' f cdv)) (leaving (envOf qual scope L' f cdv) e) (fun _ s'' => R (.error e) s'') (fun e' s'' => R (.error e') s'') s')
        { s with heap := h₁, toks := s.toks + binds.length })
    (hco : scope.isCoroutine = false) (hgen : scope.isGenerator = false) (hk : scope.kind = .function)
    (hcell : ∀ x ∈ scope.names, x.2 ≠ .cell) : codeAny (model prog w) A (.call (.ref f) args) R s := by
  obtain ⟨FG, BG, st, lv⟩ := groundX (R := R) B F (News.nil (h₀ := h₀) (L := L)) hA hf hke
  have hX := X₀.keeps F.keep
  refine codeAny_call_def (fd := fnOf name qual params body scope dV kV doc pm an cdv ct) (body := body) (binds := binds) hroom (hX _ _ ho) rfl (T.nolimit.keeps F.keep) (codeRec_of hX hcd) rfl hbind hcell hloc (fun h₁ hns hk₁ => ?_) hco hgen hk
  exact wpAny_mono (h s.heap.objs.size h₁ ⟨hns, hk₁, Nat.le_refl _⟩ News.nil BG hX (T.keeps F.keep)) (fun fl s' hl => lv _ _ hl) fun _ _ y => y
end
/-- what the frame's base keeps, and the ledger with it -/
theorem news_over {h₀ h h' : Heap} {L L' D : Addr} {o : Obj} {m' : Str → Option Value} {news led : List (Addr × Obj)} (N : News h₀ L h news) (F' : Fr h L' h' m') (N' : News h₀ L h' led) (hm : (D, o) ∈ led) : News h₀ L h' ((D, o) :: news) := by
  intro p hp
  rcases List.mem_cons.mp hp with rfl | hp
  · exact N' _ hm
  · exact ⟨F'.keep _ _ (N p hp).1, (N p hp).2⟩
theorem news_ne {h₀ h h' : Heap} {L L' D : Addr} {o : Obj} {news led : List (Addr × Obj)} (N : News h₀ L h news) (N' : News h L' h' led) (hm : (D, o) ∈ led) : ∀ p ∈ news, p.1 ≠ D := by
  intro p hp e
  have h1 := (N p hp).1
  have h2 := (N' _ hm).2.2
  rw [e] at h1
  have h3 : h.get? D = none := h2
  rw [h3] at h1
  cases h1
theorem base_list {h₀ h : Heap} {L P : Addr} {vs : List Value} {c : Nat} {news : List (Addr × Obj)} (N : News h₀ L h news) (hm : (P, listOf vs.toArray c) ∈ news) : h.IsList P vs.toArray := ⟨_, (N _ hm).1, rfl, c, rfl⟩
end
section
/-- the number of bits, by fuel -/
noncomputable def blF : Nat → Nat → Nat
  | 0, _ => 0
  | f + 1, n => if n = 0 then 0 else blF f (n / 2) + 1
noncomputable def blen (n : Int) : Int := (blF 15 n.toNat : Nat)
theorem blF_succ : ∀ (f n : Nat), n < 2 ^ f → blF (f + 1) n = blF f n := by
  intro f
  induction f with
  | zero => intro n h; have : n = 0 := by omega
            subst this; rfl
  | succ f ih =>
    intro n h
    rw [blF]
    conv => rhs; rw [blF]
    by_cases h0 : n = 0
    · simp [h0]
    · simp only [h0, if_false]; rw [ih (n / 2) (by omega)]
theorem blF_le : ∀ (f n : Nat), blF f n ≤ f := by
  intro f
  induction f with
  | zero => intro n; exact Nat.le_refl _
  | succ f ih => intro n; rw [blF]; split; omega; have := ih (n / 2); omega
theorem blen_rng (n : Int) : 0 ≤ blen n ∧ blen n ≤ 15 := by
  unfold blen
  have := blF_le 15 n.toNat
  omega
theorem blen_zero : blen 0 = 0 := by decide
theorem blen_step (n : Int) (h0 : 0 < n) (h1 : n < 32768) : blen n = blen (n / 2) + 1 := by
  unfold blen
  obtain ⟨k, rfl⟩ := Int.eq_ofNat_of_zero_le (Int.le_of_lt h0)
  have e : ((k : Int) / 2).toNat = k / 2 := by omega
  rw [e]
  simp only [Int.toNat_natCast]
  rw [← blF_succ 14 (k / 2) (by omega) |>.symm]
  have : blF 15 k = blF 14 (k / 2) + 1 := by rw [blF]; rw [if_neg (by omega)]
  rw [this]; push_cast; rfl

def DigInv (d0 : Int) (digit data : Int) : Prop := 0 ≤ data ∧ data ≤ d0 ∧ d0 < 32768 ∧ digit + blen data = blen d0

theorem fdiv2 (n : Int) (h : 0 ≤ n) : n.fdiv (2 ^ Int.toNat 1) = n / 2 := by
  have : (2 : Int) ^ Int.toNat 1 = 2 := by decide
  rw [this, Int.fdiv_eq_ediv_of_nonneg _ (by omega)]
theorem dig_start {n : Int} (h : 0 ≤ n ∧ n < 32768) : DigInv n 0 n := ⟨h.1, Int.le_refl _, h.2, by omega⟩
theorem dig_turn {d0 digit data : Int} (h : DigInv d0 digit data) (hn : data ≠ 0) : DigInv d0 (digit + 1) (data.fdiv (2 ^ Int.toNat 1)) := by
  obtain ⟨h1, h2, h3, h4⟩ := h
  rw [fdiv2 _ h1]
  have := blen_step data (by omega) (by omega)
  exact ⟨by omega, by omega, h3, by omega⟩
theorem dig_less {d0 digit data : Int} (h : DigInv d0 digit data) (hn : data ≠ 0) : (data.fdiv (2 ^ Int.toNat 1)).toNat < data.toNat := by
  obtain ⟨h1, h2, h3, h4⟩ := h
  rw [fdiv2 _ h1]
  omega
theorem dig_end {d0 digit data : Int} (h : DigInv d0 digit data) (hn : data = 0) : digit = blen d0 ∧ 0 ≤ digit ∧ digit ≤ 15 := by
  obtain ⟨h1, h2, h3, h4⟩ := h
  subst hn
  rw [blen_zero] at h4
  have := blen_rng d0
  omega

set_option maxHeartbeats 8000000 in
theorem digit_c {w : World} {loose : List Str} {mean : ExcName → Option Value} {mg mb : Str → Option Value} (news : List (Addr × Obj)) (n : Int) (t : Tok) :
    Clm 1 8 w loose mean mg mb 28 news (0 ≤ n ∧ n < 32768) [.int n t] (RetIf news (fun r => r = blen n ∧ 0 ≤ r ∧ r ≤ 15)) := by
  w_top off
  k_with_none
  dsimp only [prg, Clm, RetIf]
  k_fill

  intros
  rename_i hret
  have cbI : CbIn 28 := CbIn.mk
  k_with "exec While Compare cons nil" => k_while_given ["data!"] (fun d0 script digit data => DigInv d0 digit data) (fun d0 script digit data => data.toNat) "digit" "data"
  k_with "state" => first | exact dig_start (by assumption) | exact dig_turn (by assumption) (by assumption)
  k_with "measure" => exact dig_less (by assumption) (by assumption)
  refine wpAny_call ?_
  k_dflt cell_enter
  k_steps
  exact hret _ _ _ _ (dig_end (by assumption) (by assumption)) (by assumption) (by assumption)
end
section
noncomputable def stepI (d : Int) : Int := Builtin.bitXor d (1335 * 2 ^ (blen d - 11).toNat)
noncomputable def dI (data : Int) : Nat → Int
  | 0 => data * 2 ^ Int.toNat 10
  | j + 1 => stepI (dI data j)
noncomputable def tiChk (n j : Nat) : Bool :=
  let d := dI n j
  decide (0 ≤ d) && decide (d < 32768) &&
  (if 11 ≤ blen d then decide (j + 1 < 6) && decide ((blen (dI n (j + 1))).toNat < (blen d).toNat)
   else decide (Builtin.bitXor (Builtin.bitOr ((n : Int) * 2 ^ Int.toNat 10) d) 21522 = infoI n))
theorem tiAll : ∀ n : Nat, n < 32 → ∀ j : Nat, j < 6 → (if j = 0 ∨ 11 ≤ blen (dI n (j - 1)) then tiChk n j else true) = true := by decide +kernel
theorem g15 : blen 1335 = 11 := by decide
def TiInv (data d : Int) : Prop := ∃ n j : Nat, n < 32 ∧ j < 6 ∧ data = n ∧ d = dI n j ∧ (j = 0 ∨ 11 ≤ blen (dI n (j - 1)))
theorem ti_chk {n j : Nat} (hn : n < 32) (hj : j < 6) (h : j = 0 ∨ 11 ≤ blen (dI n (j - 1))) : tiChk n j = true := by
  have := tiAll n hn j hj
  rwa [if_pos h] at this
theorem ti_dom {data d : Int} (h : TiInv data d) : 0 ≤ d ∧ d < 32768 := by
  obtain ⟨n, j, hn, hj, rfl, rfl, h⟩ := h
  have := ti_chk hn hj h
  simp only [tiChk, Bool.and_eq_true, decide_eq_true_eq] at this
  exact this.1
theorem ti_start {n : Int} (h : 0 ≤ n ∧ n < 32) : TiInv n (n * 2 ^ Int.toNat 10) := by
  obtain ⟨k, rfl⟩ := Int.eq_ofNat_of_zero_le h.1
  exact ⟨k, 0, by omega, by omega, rfl, rfl, .inl rfl⟩
theorem ti_both {data d a b a' b' : Int} (h : TiInv data d) (ha : a = blen d) (hb : b = 11) (ha' : a' = blen d) (hb' : b' = 11) (hge : a - b ≥ 0) :
    TiInv data (Builtin.bitXor d (1335 * 2 ^ (a' - b').toNat)) ∧ (blen (Builtin.bitXor d (1335 * 2 ^ (a' - b').toNat))).toNat < (blen d).toNat := by
  subst ha ha' hb hb'
  obtain ⟨n, j, hn, hj, rfl, rfl, h⟩ := h
  have := ti_chk hn hj h
  have h11 : 11 ≤ blen (dI n j) := by omega
  simp only [tiChk, Bool.and_eq_true, decide_eq_true_eq, if_pos h11] at this
  obtain ⟨⟨h1, h2⟩, h3, h4⟩ := this
  exact ⟨⟨n, j + 1, hn, h3, rfl, rfl, .inr (by simpa using h11)⟩, h4⟩
theorem ti_end {data d a b : Int} (h : TiInv data d) (ha : a = blen d) (hb : b = 11) (hge : ¬ (a - b ≥ 0)) :
    Builtin.bitXor (Builtin.bitOr (data * 2 ^ Int.toNat 10) d) 21522 = infoI data := by
  subst ha hb
  obtain ⟨n, j, hn, hj, rfl, rfl, h⟩ := h
  have := ti_chk hn hj h
  have h11 : ¬ 11 ≤ blen (dI n j) := by omega
  simp only [tiChk, Bool.and_eq_true, decide_eq_true_eq, if_neg h11] at this
  exact this.2
theorem dom_g15 : (0 : Int) ≤ 1335 ∧ (1335 : Int) < 32768 := by decide

set_option maxHeartbeats 8000000 in
theorem info_c {w : World} {loose : List Str} {mean : ExcName → Option Value} {mg mb : Str → Option Value} (news : List (Addr × Obj)) (n : Int) (t : Tok) :
    Clm 2 16 w loose mean mg mb 21 news (0 ≤ n ∧ n < 32) [.int n t] (RetIf news (fun r => r = infoI n)) := by
  w_top off
  k_with_none
  dsimp only [prg, Clm, RetIf]
  k_fill
  intros
  rename_i hret
  k_with "exec While Compare cons nil" => k_while_given ["data"] (fun data script d => TiInv data d) (fun data script d => (blen d).toNat) "d"
  k_with "call ref" => (
    refine' digit_c _ _ _ _ _ _ _ _ _ _ _ _ _ _ _ _ _ _ _ _ ?k1 ?k2 ?k3 ?k4 ?k5 ?kK ?kp ?kd ?ku ?_
    (case k1 => k_asm)
    (case k2 => k_asm)
    (case k3 => k_asm)
    (case k4 => k_asm)
    (case k5 => k_asm)
    (case kK => first | exact rfl | assumption)
    (case kp => first | exact ti_dom (by assumption) | exact dom_g15)
    (case kd => ktr_room)
    (case ku => ktr_units)
    intro r9 t9 h9 tk9 P9 F9 N9
    obtain ⟨e9, lo9, hi9⟩ := P9
    (try rw [g15] at e9)
    (try dsimp only)
    (try k_fold))
  k_with "state" => first | exact ti_start (by assumption) | exact (ti_both (by assumption) (by assumption) (by assumption) (by assumption) (by assumption) (by omega)).1
  k_with "measure" => exact (ti_both (by assumption) (by assumption) (by assumption) (by assumption) (by assumption) (by omega)).2
  refine wpAny_call ?_
  k_dflt cell_enter
  k_steps
  exact hret _ _ _ _ (ti_end (by assumption) (by assumption) (by assumption) (by omega)) (by assumption) (by assumption)
end
section
set_option maxHeartbeats 8000000 in
theorem odd_c {w : World} {loose : List Str} {mean : ExcName → Option Value} {mg mb : Str → Option Value} (news : List (Addr × Obj)) :
    Clm 1 8 w loose mean mg mb 35 news True [] (RetList news (fun r => r = oddL)) := by
  w_top off
  k_with_none
  dsimp only [prg, Clm, RetList]
  k_fill
  intros
  rename_i hret
  refine wpAny_call ?_
  k_dflt cell_enter
  k_steps
  refine' hret _ _ oddL _ _ _ ?i rfl (by assumption) (by assumption) (by assumption)
  unfold oddL
  l_ints
end
section
def TrI1 (word : Int) (pre : List Int) (table : List Int) : Prop := table = pre.foldl (put word) [0, 0, 0, 0, 0, 0, 0, 0, 0, 0, 0, 0, 0, 0, 0, 0]
def TrI2 (step : Int) (t0 pre : List Int) (table : List Int) : Prop := table = pre.foldl (bfly step) t0
theorem t1_start (word : Int) : ([0, 0, 0, 0, 0, 0, 0, 0, 0, 0, 0, 0, 0, 0, 0, 0] : List Int).length = 16 ∧ TrI1 word [] [0, 0, 0, 0, 0, 0, 0, 0, 0, 0, 0, 0, 0, 0, 0, 0] := ⟨rfl, rfl⟩
theorem t1_turn {word k : Int} {pre t : List Int} (hl : t.length = 16) (h : TrI1 word pre t) :
    (t.set (([1, 2, 4, 8, 3, 6, 12, 11, 5, 10, 7, 14, 15, 13, 9] : List Int).getD k.toNat 0).toNat (1 - 2 * (word.fdiv (2 ^ k.toNat)).fmod 2)).length = 16 ∧
    TrI1 word (pre ++ [k]) (t.set (([1, 2, 4, 8, 3, 6, 12, 11, 5, 10, 7, 14, 15, 13, 9] : List Int).getD k.toNat 0).toNat (1 - 2 * (word.fdiv (2 ^ k.toNat)).fmod 2)) := by
  refine ⟨by rw [List.length_set, hl], ?_⟩
  unfold TrI1 at h ⊢
  rw [List.foldl_append, ← h]
  rfl
theorem t2_start {step : Int} {t : List Int} (hl : t.length = 16) : t.length = 16 ∧ TrI2 step t [] t := ⟨hl, rfl⟩
theorem t2_yes {step k : Int} {t0 pre t : List Int} (hl : t.length = 16) (h : TrI2 step t0 pre t) (hb : (k.fdiv step).fmod 2 = 0) :
    ((t.set k.toNat (t.getD k.toNat 0 + t.getD (k + step).toNat 0)).set (k + step).toNat (t.getD k.toNat 0 - t.getD (k + step).toNat 0)).length = 16 ∧
    TrI2 step t0 (pre ++ [k]) ((t.set k.toNat (t.getD k.toNat 0 + t.getD (k + step).toNat 0)).set (k + step).toNat (t.getD k.toNat 0 - t.getD (k + step).toNat 0)) := by
  refine ⟨by rw [List.length_set, List.length_set, hl], ?_⟩
  unfold TrI2 at h ⊢
  rw [List.foldl_append, ← h]
  show _ = bfly step t k
  rw [bfly, if_pos hb]
theorem t2_no {step k : Int} {t0 pre t : List Int} (hl : t.length = 16) (h : TrI2 step t0 pre t) (hb : (k.fdiv step).fmod 2 ≠ 0) :
    t.length = 16 ∧ TrI2 step t0 (pre ++ [k]) t := by
  refine ⟨hl, ?_⟩
  unfold TrI2 at h ⊢
  rw [List.foldl_append, ← h]
  show _ = bfly step t k
  rw [bfly, if_neg hb]
theorem tr_end {word : Int} {t1 t2 t3 t4 t5 : List Int} (h1 : TrI1 word (rangeKs 0 (15 - 0 : Int).toNat) t1) (h2 : TrI2 1 t1 (rangeKs 0 (16 - 0 : Int).toNat) t2) (h3 : TrI2 2 t2 (rangeKs 0 (16 - 0 : Int).toNat) t3)
    (h4 : TrI2 4 t3 (rangeKs 0 (16 - 0 : Int).toNat) t4) (h5 : TrI2 8 t4 (rangeKs 0 (16 - 0 : Int).toNat) t5) (hl : t5.length = 16) : t5 = trf word ∧ t5.length = 16 := by
  refine ⟨?_, hl⟩
  unfold TrI1 at h1
  unfold TrI2 at h2 h3 h4 h5
  rw [h5, h4, h3, h2, h1]
  unfold trf bflies tab0
  with_reducible rfl

local macro_rules | `(tactic| walk_at "InvEndN") => `(tactic| k_dflt kst_close)
set_option maxHeartbeats 8000000 in
theorem trans_c {w : World} {loose : List Str} {mean : ExcName → Option Value} {mg mb : Str → Option Value} (news : List (Addr × Obj)) (word : Int) (t : Tok) (P : Addr) (pvs : List Value) (c : Nat) :
    Clm 1 8 w loose mean mg mb 42 news ((0 ≤ word ∧ word < 32768) ∧ (P, listOf pvs.toArray c) ∈ news ∧ IntsAre pvs ptsL) [.int word t, .ref P] (RetNew news (fun r => r = trf word ∧ r.length = 16)) := by
  w_top off
  k_with_none
  dsimp only [prg, Clm, RetNew]
  k_fill
  intros
  rename_i hpre _ _ hret
  obtain ⟨hw, hP, hpv⟩ := hpre
  unfold ptsL at hpv
  k_with "pyIter ref" => k_state_given ["word"] (fun word pre table => table.length = 16 ∧ TrI1 word pre table) "table"
  k_with "pyIter ref" => k_state_given ["step", "table!"] (fun step t0 pre table => table.length = 16 ∧ TrI2 step t0 pre table) "table"
  k_with "setItem ref int" => (
    fail_if_success (rename List.getD _ _ _ < (16 : Int) => hx9)
    obtain ⟨hx8, hx9⟩ := pts_rng kN.toNat
    walk_at "setItem ref int")
  k_with "state" => first | exact t1_start _ | exact t1_turn (by with_reducible assumption) (by with_reducible assumption) | exact t2_start (by with_reducible assumption) | exact t2_yes (by with_reducible assumption) (by with_reducible assumption) (by with_reducible assumption) | exact t2_no (by with_reducible assumption) (by with_reducible assumption) (by with_reducible assumption)
  refine wpAny_call ?_
  have gL := base_list (by assumption) hP
  k_dflt (refine' enter_over ?k1 ?k2 ?k3 ?k5 ?kA ?kF ?kK ?k6 ?k7 ?k8 ?k9 ?kB ?_ ?c2 ?c3 ?c4 ?c5; (case kA => exact rfl); (case kF => exact rfl); (case kK => assumption); (case k1 => k_asm); (case k2 => k_asm); (case k3 => k_asm); (case k5 => k_asm); (case k6 => k_is); (case k7 => k_is); (case k8 => ktr_room); (case k9 => exact BindsTo.of_eq rfl); (case c5 => decide); (case kB => exact locs rfl); (case c2 => exact rfl); (case c3 => exact rfl); (case c4 => exact rfl); k_whole; intro L' h' F' N' B' X' T'; (try dsimp only); (try k_fold))
  k_steps
  refine' hret _ _ _ _ _ _ ?i ?e ?f (news_over (by with_reducible assumption) (by with_reducible assumption) (by with_reducible assumption) (by k_mem)) (news_ne (by with_reducible assumption) (by with_reducible assumption) (by k_mem))
  (case i => assumption)
  (case e => exact tr_end (by with_reducible assumption) (by with_reducible assumption) (by with_reducible assumption) (by with_reducible assumption) (by with_reducible assumption) (by with_reducible assumption))
  (case f => assumption)
end
section
/-- the law's own statements and names, read off the written part -/
def lawBody (P : Params) : List Stmt := by
  refine (fun (_ : ((hd.heap_39 P).lookup 47).map (·.data) = some (.func (fnOf ?n ?q ?p ?b ?s ?d ?k ?doc ?pm ?an ?cd ?ct))) => ?b) ?h
  case h => exact rfl
def lawScope (P : Params) : Scope := by
  refine (fun (_ : ((hd.heap_39 P).lookup 47).map (·.data) = some (.func (fnOf ?n ?q ?p ?b ?s ?d ?k ?doc ?pm ?an ?cd ?ct))) => ?s) ?h
  case h => exact rfl

def ptsN : List Int := [1, 2, 4, 8, 3, 6, 12, 11, 5, 10, 7, 14, 15, 13, 9, 1]
def PtInv (pre : List Int) (points : List Int) (number : Int) : Prop := pre.length ≤ 15 ∧ points = ptsN.take pre.length ∧ number = ptsN.getD pre.length 0
theorem pt_start : PtInv [] [] 1 := ⟨by decide, rfl, rfl⟩
theorem pt_all : ∀ n : Nat, n < 15 → (ptsN.take n ++ [ptsN.getD n 0] = ptsN.take (n + 1) ∧ (ptsN.getD n 0 < 8 → ptsN.getD n 0 * 2 = ptsN.getD (n + 1) 0) ∧ (¬ ptsN.getD n 0 < 8 → Builtin.bitXor (ptsN.getD n 0 * 2) 19 = ptsN.getD (n + 1) 0) ∧ 0 ≤ ptsN.getD n 0 ∧ ptsN.getD n 0 < 16) := by decide +kernel
theorem pt_lt {pre points : List Int} {number k : Int} (h : PtInv pre points number) (hl : pre.length < 15) (hb : number < 8) : PtInv (pre ++ [k]) (points ++ [number]) (number * 2) := by
  obtain ⟨h0, h1, h2⟩ := h
  have := pt_all pre.length hl
  subst h1 h2
  refine ⟨by simp; omega, ?_, ?_⟩
  · simp only [List.length_append, List.length_cons, List.length_nil]; exact this.1
  · simp only [List.length_append, List.length_cons, List.length_nil]; exact this.2.1 hb
theorem pt_ge {pre points : List Int} {number k : Int} (h : PtInv pre points number) (hl : pre.length < 15) (hb : ¬ number < 8) : PtInv (pre ++ [k]) (points ++ [number]) (Builtin.bitXor (number * 2) 19) := by
  obtain ⟨h0, h1, h2⟩ := h
  have := pt_all pre.length hl
  subst h1 h2
  refine ⟨by simp; omega, ?_, ?_⟩
  · simp only [List.length_append, List.length_cons, List.length_nil]; exact this.1
  · simp only [List.length_append, List.length_cons, List.length_nil]; exact this.2.2.1 hb
theorem pt_end {points : List Int} {number : Int} (h : PtInv (rangeKs 0 (15 - 0 : Int).toNat) points number) : points = ptsL := by
  obtain ⟨h0, h1, h2⟩ := h
  rw [rangeKs_length] at h1
  exact h1

theorem pt_len {pre points : List Int} {number : Int} (h : PtInv pre points number) : points.length ≤ 15 := by
  obtain ⟨h0, h1, h2⟩ := h
  subst h1
  rw [List.length_take]
  omega

/-- the loop that fills points: the list stands behind a cell, so it is named here -/
theorem pts_iter {prog : Program} {w : World} {A : Around} {E : Value → Shared → Prop} {s : Shared} {env : Env} {h₀ : Heap} {x : Str} {body : List Stmt} {Q : Flow → Shared → Prop} {r : Addr} {t₀ u₀ v₀ t₁ : Tok} {m₀ : Str → Option Value}
    {e1 e2 e3 e4 e5 : Addr × Obj} {l : Addr} (stored : List Str)
    (hh : A.handled = none) (hr : IsRange s.heap r 0 15 1 t₀ u₀ v₀) (F : Fr h₀ env.locals s.heap m₀) (N : News h₀ env.locals s.heap [e1, (l, listOf (List.toArray []) 0), e2, e3, e4, e5]) (hk : m₀ (Str.ofString "number") = some (.int 1 t₁))
    (turn : ∀ (vs : List Value) (points : List Int) (c : Nat) (number : Int) (tn : Tok) (pre : List Int) (k : Int) t (u : Str → Option Value) h tk own, k = 0 + (pre.length : Int) → pre.length < 15 → OwnOff own [e1.1, l, e2.1, e3.1, e4.1, e5.1] → IntsAre vs points → PtInv pre points number →
      Fr h₀ env.locals h (fun y => if y = x then some (.int k t) else if y = Str.ofString "number" then some (.int number tn) else if stored.contains y then u y else m₀ y) → News h₀ env.locals h ([e1, (l, listOf vs.toArray c), e2, e3, e4, e5] ++ own) →
      wpAny (model prog w) A (execs body env) (InvPostN h₀ env.locals (KstS (σ := List Value × List Int × Nat × Int × Tok) (fun c => [e1, (l, listOf c.1.toArray c.2.2.1), e2, e3, e4, e5]) (fun c => [(Str.ofString "number", .int c.2.2.2.1 c.2.2.2.2)]) (fun c => IntsAre c.1 c.2.1) x stored m₀ (fun pre c => PtInv pre c.2.1 c.2.2.2.1) (pre ++ [k])) own [e1.1, l, e2.1, e3.1, e4.1, e5.1] { s with heap := h, toks := tk } Q) E { s with heap := h, toks := tk })
    (done : ∀ (vs : List Value) (points : List Int) (c : Nat) (number : Int) (tn : Tok) (u : Str → Option Value) h tk, IntsAre vs points → points = ptsL → Fr h₀ env.locals h (fun y => if y = x then u y else if y = Str.ofString "number" then some (.int number tn) else if stored.contains y then u y else m₀ y) → News h₀ env.locals h [e1, (l, listOf vs.toArray c), e2, e3, e4, e5] → Q .next { s with heap := h, toks := tk }) :
    wpAny (model prog w) A (pyIter (.ref r)) (fun it s₂ => LoopAtV prog w A h₀ env x body Q E it s₂) E s := by
  refine kst_range (σ := List Value × List Int × Nat × Int × Tok) (fun c => [e1, (l, listOf c.1.toArray c.2.2.1), e2, e3, e4, e5]) (fun c => [(Str.ofString "number", .int c.2.2.2.1 c.2.2.2.2)]) (fun c => IntsAre c.1 c.2.1) stored (fun pre c => PtInv pre c.2.1 c.2.2.2.1) ([], [], 0, 1, t₁)
    hh hr (by decide) (rangeSize_nat 0 15) F N IntsAre.nil (fun p hp => by rw [List.mem_singleton.mp hp]; exact hk) pt_start ?_ ?_
  · rintro ⟨vs, points, c, number, tn⟩ pre k t u h tk own h1 h2 h3 h4 h5 h6 h7
    exact turn vs points c number tn pre k t u h tk own h1 h2 h3 h4 h5 h6 h7
  · rintro ⟨vs, points, c, number, tn⟩ u h tk h1 h2 h3 h4
    exact done vs points c number tn u h tk h1 (pt_end h2) h3 h4

/-- the loop over the cells: three of the frame's cells turn with it -/
theorem cells_iter {prog : Program} {w : World} {A : Around} {E : Value → Shared → Prop} {s : Shared} {env : Env} {h₀ : Heap} {x : Str} {body : List Stmt} {Q : Flow → Shared → Prop} {m₀ : Str → Option Value}
    {D a1 a2 a3 a4 : Addr} {ep : Addr × Obj} {ws : List Value} {ns : List Int} {op of ot oa : Obj} {vf vt va : Option Value} {news : List (Addr × Obj)} (stored : List Str)
    (hh : A.handled = none) (hi : IntsAre ws ns) (F : Fr h₀ env.locals s.heap m₀) (N : News h₀ env.locals s.heap news) (hs : ∀ p ∈ [(D, listOf ws.toArray 0), ep, (a4, oa), (a3, ot), (a2, of), (a1, op)], p ∈ news) (hf : of.data = .cell vf) (ht : ot.data = .cell vt) (ha : oa.data = .cell va)
    (turn : ∀ (of ot oa : Obj) (vf vt va : Option Value) (n : Int) t (u : Str → Option Value) h tk own, OwnOff own [D, ep.1, a4, a3, a2, a1] → of.data = .cell vf → ot.data = .cell vt → oa.data = .cell va →
      Fr h₀ env.locals h (fun y => if y = x then some (.int n t) else if stored.contains y then u y else m₀ y) → News h₀ env.locals h ([(D, listOf ws.toArray 0), ep, (a4, oa), (a3, ot), (a2, of), (a1, op)] ++ own) →
      wpAny (model prog w) A (execs body env) (InvPostN h₀ env.locals (KstS (σ := Obj × Obj × Obj) (fun c => [(D, listOf ws.toArray 0), ep, (a4, c.2.2), (a3, c.2.1), (a2, c.1), (a1, op)]) (fun _ => []) (fun c => (∃ v, c.1.data = .cell v) ∧ (∃ v, c.2.1.data = .cell v) ∧ (∃ v, c.2.2.data = .cell v)) x stored m₀ (fun _ _ => True) ([] ++ [n])) own [D, ep.1, a4, a3, a2, a1] { s with heap := h, toks := tk } Q) E { s with heap := h, toks := tk })
    (done : ∀ (of ot oa : Obj) (u : Str → Option Value) h tk, Fr h₀ env.locals h (fun y => if y = x then u y else if stored.contains y then u y else m₀ y) → News h₀ env.locals h [(D, listOf ws.toArray 0), ep, (a4, oa), (a3, ot), (a2, of), (a1, op)] → Q .next { s with heap := h, toks := tk }) :
    wpAny (model prog w) A (pyIter (.ref D)) (fun it s₂ => LoopAtV prog w A h₀ env x body Q E it s₂) E s := by
  refine kst_listL (σ := Obj × Obj × Obj) (nn := 0) (fun c => [(D, listOf ws.toArray 0), ep, (a4, c.2.2), (a3, c.2.1), (a2, c.1), (a1, op)]) (fun _ => []) (fun c => (∃ v, c.1.data = .cell v) ∧ (∃ v, c.2.1.data = .cell v) ∧ (∃ v, c.2.2.data = .cell v)) stored (fun _ _ => True) (of, ot, oa)
    hh (fun c => .head _) hi F (kst_newsOf N hs) ⟨⟨_, hf⟩, ⟨_, ht⟩, ⟨_, ha⟩⟩ (fun p hp => nomatch hp) trivial ?_ ?_
  · rintro ⟨of, ot, oa⟩ pre post n t u h tk own h1 h2 h3 ⟨⟨vf, h4⟩, ⟨vt, h5⟩, ⟨va, h6⟩⟩ _ h7 h8
    exact turn of ot oa vf vt va n t u h tk own h3 h4 h5 h6 h7 h8
  · rintro ⟨of, ot, oa⟩ u h tk _ _ h1 h2
    exact done of ot oa u h tk h1 h2

/-- where a number that a short list of ints holds is found: some place that holds it -/
theorem index_short {prog : Program} {w : World} {A : Around} {E : Value → Shared → Prop} {s : Shared} {l : Addr} {vs : List Value} {ns : List Int} {k : Int} {t : Tok} {Q : Value → Shared → Prop} (hl : s.heap.IsList l vs.toArray) (hi : IntsAre vs ns)
    (hn : ns.length ≤ 64) (hk : k ∈ ns) (h : ∀ i : Nat, i < ns.length → ns.getD i 0 = k → Q (.int (i : Int) s.toks) { s with toks := s.toks + 1 }) :
    wpAny (model prog w) A (call (.builtin "list.index") [.ref l, .int k t]) Q E s := by
  have hj : ns.idxOf k < ns.length := List.idxOf_lt_length_iff.mpr hk
  have hg : ns.getD (ns.idxOf k) 0 = k := by
    rw [List.getD_eq_getElem?_getD, List.getElem?_eq_getElem hj]
    exact List.getElem_idxOf hj
  have hQ := h _ hj hg
  have hlen := hi.length
  obtain ⟨⟨cls, dd, data, sl⟩, ho, hc, n, hd⟩ := id hl
  dsimp only at hc hd
  subst hc hd
  have hs : ns.idxOf k < vs.toArray.size := by rw [List.size_toArray, hlen]; exact hj
  refine call_meets PySem.F.slot_list_index ⟨_, ho, rfl⟩ PySem.F.entry_list_index (PySem.F.args_list_index_2 _ _)
    (PySem.SeqAt.list_indexAt l vs.toArray n dd sl (.int k t) (isInt k) (ns.idxOf k) hs (by omega) ?yes ?no) ⟨ho, fun y hy => (eq_isInt k t hi y (by simpa using hy)).at _ _, hQ⟩
  case yes =>
    have e := isInt_at k hi (ns.idxOf k) (by omega) hj
    have e2 : ns[ns.idxOf k]'hj = k := List.getElem_idxOf hj
    rw [e2] at e
    simpa using e
  case no =>
    intro j hjs hlt
    have hjv : j < vs.length := by simpa using hjs
    have e := isInt_at k hi j hjv (by omega)
    rw [ne_of_lt_idxOf hlt (by omega)] at e
    simpa using e
theorem pow16_ne (n : Nat) : (16 : Int) ^ n ≠ 0 := by
  have : (0 : Int) < 16 ^ n := Int.pow_pos (by decide)
  omega

/-- apart from every entry of a ledger: kept from omega's eyes, which would split each one -/
def ApartAll (D : Addr) (news : List (Addr × Obj)) : Prop := ∀ p ∈ news, p.1 ≠ D
theorem ApartAll.ne {D a : Addr} {o : Obj} {news : List (Addr × Obj)} (h : ApartAll D news) (hm : (a, o) ∈ news) : a ≠ D := h _ hm
theorem ApartAll.en {D a : Addr} {o : Obj} {news : List (Addr × Obj)} (h : ApartAll D news) (hm : (a, o) ∈ news) : D ≠ a := Ne.symm (h _ hm)
theorem apartAll_of {D : Addr} {news : List (Addr × Obj)} (h : ∀ p ∈ news, p.1 ≠ D) : ApartAll D news := h
theorem apartAll_off1 {D : Addr} : ∀ {l : List (Addr × Obj)}, LCg.Off1 D l → ApartAll D l
  | [], _, _, h => nomatch h
  | p :: _, h, q, hq => by
    rcases List.mem_cons.mp hq with rfl | hq
    · exact h.1
    · exact apartAll_off1 h.2 q hq
theorem and_pts (x : Int) (n : Nat) : 0 ≤ Builtin.bitAnd x (([1, 2, 4, 8, 3, 6, 12, 11, 5, 10, 7, 14, 15, 13, 9] : List Int).getD n 0) ∧ Builtin.bitAnd x (([1, 2, 4, 8, 3, 6, 12, 11, 5, 10, 7, 14, 15, 13, 9] : List Int).getD n 0) < 16 := by
  obtain ⟨h1, h2⟩ := pts_rng n
  obtain ⟨h3, h4⟩ := bitAnd_range x h1
  exact ⟨h3, by omega⟩
theorem oddL_len : (oddL.length : Int) = 16 := by decide
theorem pow2_mul {k x : Int} (h1 : k < 0 + ((5 - 0 : Int).toNat : Int)) : PySem.IntMulOk (2 ^ k.toNat) x := by
  refine PySem.IntMulOk.of_left (PySem.intBits_le_64 ?_ ?_)
  · have : (0 : Int) < 2 ^ k.toNat := Int.pow_pos (by decide)
    omega
  · have h2 : k.toNat ≤ 5 := by omega
    have h3 : (2 : Int) ^ k.toNat ≤ 2 ^ 5 := by
      have := Nat.pow_le_pow_right (n := 2) (by decide) h2
      have e : (2 : Int) ^ k.toNat = ((2 ^ k.toNat : Nat) : Int) := by push_cast; rfl
      rw [e]
      exact_mod_cast this
    have h4 : (2 : Int) ^ 5 < 2 ^ 64 := by decide
    omega
theorem toArr_small {vs : List Value} {ns : List Int} (h1 : vs.length = ns.length) (h2 : ns.length ≤ 15) : vs.toArray.size ≤ sizeLine := by
  rw [List.size_toArray, h1, PySem.sizeLine_eq]
  omega
end
section
local macro_rules | `(tactic| walk_at "subscriptTail Name Slice ref ref") => `(tactic| ((with_reducible show wpAny _ _ (subscriptTail _ (PySem.Expr.Slice _ _ none _) (Value.ref _) (Value.ref _)) _ _ _); k_dflt (refine' kmk_slice_ints ?F ?N ?l ?p ?q ?i ?m ?c ?_ ?s ?t ?z; (case F => k_asm); (case N => k_asm); (case l => kmk_list); (case p => kmk_part); (case q => kmk_part); (case i => l_ints); (case m => first | ((with_reducible refine' kmk_upto ?a ?b); (case a => l_ints); (case b => decide)) | ((with_reducible refine' kmk_from ?a ?b); (case a => l_ints); (case b => omega))); (case c => kmk_len); (case s => with_unfolding_all rfl); (case t => kmk_pure); (case z => kmk_size)); intro D' ws' h' F' N' l1 hI' hC' hL'; (try simp only [Int.reduceNeg, Int.neg_neg, Int.reduceToNat] at hI' hC' hL'); (try k_lt l1); (try k_sweep)))
theorem dom32 (a : Int) : 0 ≤ Int.fmod a 32 ∧ Int.fmod a 32 < 32 := ⟨fmod_lo _ (by decide), fmod_hi _ (by decide)⟩
theorem dom15 (a : Int) : 0 ≤ Int.fmod a 32768 ∧ Int.fmod a 32768 < 32768 := ⟨fmod_lo _ (by decide), fmod_hi _ (by decide)⟩
local macro_rules | `(tactic| walk_at "call ref") => `(tactic| ((with_reducible show wpAny _ _ (call (Value.ref 21) _) _ _ _); k_dflt (refine' info_c _ _ _ _ _ _ _ _ _ _ _ _ _ _ _ _ _ _ _ _ ?k1 ?k2 ?k3 ?k4 ?k5 ?kK ?kp ?kd ?ku ?_; (case k1 => k_asm); (case k2 => k_asm); (case k3 => k_asm); (case k4 => k_asm); (case k5 => k_asm); (case kK => first | exact rfl | assumption); (case kp => first | exact dom32 _ | exact told_dom (by with_reducible assumption) (by with_reducible assumption) (by first | exact .inl rfl | exact .inr rfl)); (case kd => ktr_room); (case ku => ktr_units)); (intro r' t' h' tk' e' F' N'); (try dsimp only); (try k_fold)))
local macro_rules | `(tactic| walk_at "call ref") => `(tactic| ((with_reducible show wpAny _ _ (call (Value.ref 42) _) _ _ _); k_dflt (refine' trans_c _ _ _ _ _ _ _ _ _ _ _ _ _ _ _ _ _ _ _ _ _ _ _ ?k1 ?k2 ?k3 ?k4 ?k5 ?kK ?kp ?kd ?ku ?_; (case k1 => k_asm); (case k2 => k_asm); (case k3 => k_asm); (case k4 => k_asm); (case k5 => k_asm); (case kK => first | exact rfl | assumption); (case kp => exact ⟨by first | exact dom15 _ | exact flip_dom (by with_reducible assumption), by k_memK, by with_reducible assumption⟩); (case kd => ktr_room); (case ku => ktr_units)); (intro D' vs' ns' c' h' tk' i' e' F' N' l1); (obtain ⟨e1', e2'⟩ := e'); (replace l1 := apartAll_of l1); (try dsimp only); (try k_fold)))
local macro_rules | `(tactic| walk_at "binaryOp FloorDiv int int") => `(tactic| ((with_reducible show wpAny _ _ (binaryOp _ _ (Value.int (16 ^ _) _)) _ _ _); k_dflt (refine' floordiv_int (pow16_ne _) ?_)))
local macro_rules | `(tactic| walk_at "call builtin:list.index") => `(tactic| (k_dflt (refine' index_short ?l ?i ?n ?k ?_; (case l => exact News.isList (by k_asm) (by k_mem)); (case i => l_ints); (case n => ((simp only [List.length_map]); omega)); (case k => with_reducible assumption)); intro i' hi' hg'; (simp only [List.length_map] at hi')))
local macro_rules | `(tactic| k_ne) => `(tactic| ((try dsimp only); first | exact ApartAll.ne (by with_reducible assumption) (by k_mem) | exact ApartAll.en (by with_reducible assumption) (by k_mem)))
local macro_rules | `(tactic| walk_at "FinE") => `(tactic| ((unfold LCg.FinE); intro D' h' tk' F' N' o1'; (replace o1' := apartAll_off1 o1'); (try simp only [List.nil_append, List.cons_append] at N' o1'); (try dsimp only)))
local macro_rules | `(tactic| walk_at "call ref") => `(tactic| ((with_reducible show wpAny _ _ (call (Value.ref 35) _) _ _ _); k_dflt (refine' odd_c _ _ _ _ _ _ _ _ _ _ _ _ _ _ _ _ _ _ ?k1 ?k2 ?k3 ?k4 ?k5 ?kK ?kp ?kd ?ku ?_; (case k1 => k_asm); (case k2 => k_asm); (case k3 => k_asm); (case k4 => k_asm); (case k5 => k_asm); (case kK => first | exact rfl | assumption); (case kp => trivial); (case kd => ktr_room); (case ku => ktr_units)); (intro D' vs' ns' c' h' tk' i' e' F' N' l1); (subst e'); (try k_lt l1); (try dsimp only); (try k_fold)))
local macro_rules | `(tactic| walk_at "subscriptTail Call") => `(tactic| ((with_reducible show wpAny _ _ (subscriptTail _ _ (Value.ref _) (Value.int (Builtin.bitAnd _ _) _)) _ _ _); k_dflt (refine kba_turn (value' := PySem.Expr.Name (PySem.Str.ofString "_") ⟨0, 0, 0, 0⟩) (fun _ => rfl) ?_; refine' item_list_ints ?k1 ?k2 ?k3 ?k4 ?k5 ?_; (case k1 => is_list); (case k2 => with_reducible assumption); (case k3 => exact (and_pts _ _).1); (case k4 => (rw [oddL_len]; exact (and_pts _ _).2)); (case k5 => exact Int.lt_trans (and_pts _ _).2 (by decide))); intro _))
local macro_rules | `(tactic| walk_at "CompSrc") => `(tactic| (k_here; kcf_src; (try kcf_lens); k_dflt (first
  | (refine LCg.CompSrc.range (by rfl) (by k_asm) (by k_asm) (by assumption) (by decide) (by exact rangeSize_nat _ _) (by exact Nat.le_of_ble_eq_true rfl) ?_; intro g'; (refine' kcf_range _ (fun k' t' I' oI' C' oC' D' m' ys' h' tk' E' hlo' hhi' hC' hx' F' N' off' ne' hMark' => ?_) ?_); (all_goals (try clear ne')); kcf_last)
  | (refine LCg.CompSrc.ledger (by rfl) (by k_asm) (by k_asm) (by k_mem) (by kcf_size) ?_; intro g'; (refine' kcf_list _ (by first | assumption | l_ints) (fun k' t' I' oI' C' oC' D' m' ys' h' tk' E' hk' hC' hx' F' N' off' ne' hMark' => ?_) ?_); (all_goals (try clear ne')); kcf_last))))
local macro_rules | `(tactic| walk_at "binaryOp Mult int int") => `(tactic| ((with_reducible show wpAny _ _ (binaryOp _ (Value.int (2 ^ _) _) _) _ _ _); k_dflt (refine' PyProof.Rows.mul_int ?_ (pow2_mul (by with_reducible assumption)))))
local macro_rules | `(tactic| walk_at "InvEndN") => `(tactic| k_dflt kst_close)
local macro_rules | `(tactic| walk_at "InvEndN") => `(tactic| ((with_reducible show InvEndN _ _ (KstS (σ := Obj × Obj × Obj) _ _ _ _ _ _ _ _) _ _ _ _); k_dflt ((rename News _ _ _ _ => nE'); (refine kst_end (_, _, _) (by k_asm) nE' (by kst_in) (by first | (intro p hp; kst_mem) | kst_anyIn) (by rfl) ⟨⟨_, by with_reducible assumption⟩, ⟨_, by with_reducible assumption⟩, ⟨_, by with_reducible assumption⟩⟩ (fun _ h9 => nomatch h9) (by kst_same) trivial))))
local macro_rules | `(tactic| walk_at "callWith ref") => `(tactic| k_dflt (first | (refine' callWith_K ?k1 ?k2 ?_; (case k1 => with_reducible assumption); (case k2 => k_is); k_whole) | (refine' callWith_K0 ?k1 ?k2 ?_; (case k1 => exact Frag.In.keeps (by with_reducible assumption) (Fr.keep (by with_reducible assumption))); (case k2 => k_is); k_whole)))
local macro_rules | `(tactic| walk_at "call builtin:list.append") => `(tactic| ((with_reducible show wpAny _ _ (call (Value.builtin _) [Value.ref _, _]) _ _ _); k_dflt (refine' append_K ?k1 ?k2 ?k3 ?_ ?z; (case k1 => with_reducible assumption); (case k2 => with_reducible assumption); (case k3 => k_upd); (case z => exact toArr_small (by with_reducible assumption) (by with_reducible assumption)); k_whole); intro h' F' N'; (try k_sweep)))
local macro_rules | `(tactic| walk_at "exec For Name BinOp cons nil") => `(tactic| (k_here; (rename Fr _ _ _ _ => lF'); (with_unfolding_all refine' For_invVF lF' ?k1 ?k2 ?_; (case k1 => exact rfl); (case k2 => exact rfl); k_whole)))
set_option maxHeartbeats 8000000 in
theorem law_walk {w : World} {loose : List Str} {mean : ExcName → Option Value} {mg mb : Str → Option Value} (fa : Addr) (cd : Value) (h₀ : Heap) (L : Addr) (s : Shared) (Q : Flow → Shared → Prop)
    (S : Addr) (vs : List Value) (script : List Int) (o1 o2 o3 o4 : Obj)
    (B : Below callerA h₀ [] h₀) (F : Fr h₀ L s.heap (fun y => if y = Str.ofString "script" then some (.ref S) else none)) (X : (hd.heap_39 w.params).In h₀) (N : News h₀ L s.heap [(L + 1 + 1 + 1 + 1, o4), (L + 1 + 1 + 1, o3), (L + 1 + 1, o2), (L + 1, o1)])
    (T : Top hd.view_39 loose mean mg mb h₀) (hS : h₀.IsList S vs.toArray) (hI : IntsAre vs script) (hlay : (PyData.list (List.map PyData.int script)).layable0 = true)
    (d1 : o1.data = .cell none) (d2 : o2.data = .cell none) (d3 : o3.data = .cell none) (d4 : o4.data = .cell none)
    (hQ : ∀ m' news' h tk, Fr h₀ L h m' → News h₀ L h news' → Q (.ret (.bool true)) { s with heap := h, toks := tk }) :
    wpAny (model PySem.Challenge.rw_bq0022_01.row.prog w) (callerA.deeper (envOfC (Str.ofString "law") (lawScope w.params) L fa cd)) (execs (lawBody w.params) (envOfC (Str.ofString "law") (lawScope w.params) L fa cd)) Q (fun _ _ => False) s := by
  w_top off
  k_with_none
  revert X
  k_fill
  intro X
  dsimp only [lawScope, lawBody]
  k_with "pyIter ref" => (k_of "k" => (
    (rename Fr _ _ _ _ => lF'); (rename News _ _ _ _ => lN'); (rename IsRange _ _ _ _ _ _ _ _ => rgX)
    (with_unfolding_all refine' pts_iter [] (by rfl) rgX lF' lN' (by rfl) ?_ ?_)
    all_goals (try clear lF' lN')
    (intro kvs kpts kc knum ktn kPre kN kT kU kH kTk kOwn kEq kLt kOff kFacts kInv kFr kNews; have kLen := IntsAre.length kFacts; have kL15 := pt_len kInv; (try dsimp only at kFr kNews kOff); (try simp only [List.nil_append, List.cons_append, List.append_nil] at kNews); have kMark := kstMark)
    rotate_left
    (intro kvs kpts kc knum ktn kU kH kTk kFacts kInv kFr kNews; (try dsimp only at kFr kNews); subst kInv; have kFactsL := kFacts; unfold ptsL at kFactsL; have kMark := kstMark)
    rotate_left))
  k_with "pyIter ref" => (k_of "cell" => (
    (rename Fr _ _ _ _ => lF'); (rename News _ _ _ _ => lN')
    refine' cells_iter (a1 := L + 1) (a2 := L + 1 + 1) (a3 := L + 1 + 1 + 1) (a4 := L + 1 + 1 + 1 + 1) (ep := (_, listOf kvs.toArray kc)) [Str.ofString "asked", Str.ofString "word", Str.ofString "k", Str.ofString "place", Str.ofString "table", Str.ofString "best", Str.ofString "told"] (by rfl) ?hi lF' lN' ?hs ?hf ?ht ?ha ?_ ?_
    (case hs => (refine List.forall_mem_cons.mpr ⟨by k_mem, List.forall_mem_cons.mpr ⟨by k_mem, List.forall_mem_cons.mpr ⟨by k_mem, List.forall_mem_cons.mpr ⟨by k_mem, List.forall_mem_cons.mpr ⟨by k_mem, List.forall_mem_cons.mpr ⟨by k_mem, List.forall_mem_nil _⟩⟩⟩⟩⟩⟩))
    (case hi => with_reducible assumption)
    (case hf => with_reducible assumption)
    (case ht => with_reducible assumption)
    (case ha => with_reducible assumption)
    all_goals (try clear lF' lN')
    (intro cof cot coa cvf cvt cva cellN cellT kU kH kTk kOwn kOff kd2 kd3 kd4 kFr kNews; (try dsimp only at kFr kNews kOff); (try simp only [List.nil_append, List.cons_append, List.append_nil] at kNews); have kMark := kstMark)
    rotate_left
    (intro cof cot coa kU kH kTk kFr kNews; (try dsimp only at kFr kNews); have kMark := kstMark)
    rotate_left))
  k_with "pyIter ref" => (k_of "k" => k_state_short (fun pre word => FlipInv cellN pre.length word) "word")
  k_with "state" => first | exact pt_lt (by with_reducible assumption) (by with_reducible assumption) (by with_reducible assumption) | exact pt_ge (by with_reducible assumption) (by with_reducible assumption) (by with_reducible assumption) | exact flip_start (by with_reducible assumption) | exact flip_turn (by with_reducible assumption) (by with_reducible assumption) | exact flip_keep (by with_reducible assumption)
  k_steps
  all_goals first
    | (show Q _ _; exact hQ _ _ _ _ kFr kNews)
    | exact absurd ‹cellN.fmod 2 = 0› ‹cellN.fmod 2 ≠ 0›
    | exact absurd (end_told (cell := cellN) (flip3 kInv) (by with_reducible assumption) (by with_reducible assumption) (by with_reducible assumption) (by with_reducible assumption) (by with_reducible assumption) (by first | exact .inl ⟨rfl, by with_reducible assumption⟩ | exact .inr ⟨rfl, by with_reducible assumption⟩)) (by with_reducible assumption)
    | exact absurd (end_pop (flip_dom (by with_reducible assumption)) (by with_reducible assumption) (by with_reducible assumption) (by with_reducible assumption) (by with_reducible assumption) (by first | exact .inl ⟨rfl, by with_reducible assumption⟩ | exact .inr ⟨rfl, by with_reducible assumption⟩) (by with_reducible assumption)) (by with_reducible assumption)
    | exact absurd ((pop_if (dom15 _) _).trans (end_pop (dom15 _) (by with_reducible assumption) (by with_reducible assumption) (by with_reducible assumption) (by with_reducible assumption) (by first | exact .inl ⟨rfl, by with_reducible assumption⟩ | exact .inr ⟨rfl, by with_reducible assumption⟩) (by with_reducible assumption))) (by with_reducible assumption)
end
end Mine
set_option maxRecDepth 100000 in
set_option maxHeartbeats 8000000 in
theorem PySem.Challenge.cw_bq0022_01_holds : PySem.Challenge.rw_bq0022_01.Holds :=
  Mine.hd (by
  k_with_none
  k_go0
  refine' wpAny_mono (Mine.law_walk _ _ _ _ _ _ _ _ _ _ _ _ _ ?B ?F ?X ?N ?T ?hS ?hI ?hlay ?d1 ?d2 ?d3 ?d4 ?hQ) (fun _ _ h => h) (fun _ _ h => h.elim)
  (case N => assumption)
  (case T => assumption)
  (case X => assumption)
  (case B => assumption)
  (case hS => assumption)
  (case hI => assumption)
  (case hlay => assumption)
  (case F => assumption)
  (case d1 => assumption)
  (case d2 => assumption)
  (case d3 => assumption)
  (case d4 => assumption)
  (case hQ => (intro m' news' h' tk' F' N'; k_steps; (all_goals (try k_data)); all_goals w_report)))
