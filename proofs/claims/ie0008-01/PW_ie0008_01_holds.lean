import PyProof.Rows.All
import Wide.All
import OpenK.AllK
import Wide.FinOn
import KE.BitLaws
import PyProof.Rows.BitMore
import PySem.Challenge.RW_ie0008_01
set_option Elab.async false
section
section
/-! Plain laws of numbers: no program in sight -/
namespace Mine

/-- the k figures of x by 2 ^ n, the lowest first -/
def digs (n : Nat) : Nat → Nat → List Int
  | 0, _ => []
  | k + 1, x => ((x % 2 ^ n : Nat) : Int) :: digs n k (x / 2 ^ n)
theorem digs_length (n : Nat) : ∀ k x, (digs n k x).length = k
  | 0, _ => rfl
  | k + 1, x => by rw [digs, List.length_cons, digs_length]
theorem digs_one {n x : Nat} (h : x < 2 ^ n) : digs n 1 x = [(x : Int)] := by
  rw [digs, digs, Nat.mod_eq_of_lt h]
theorem digs_append (n : Nat) : ∀ j k x, digs n (j + k) x = digs n j (x % 2 ^ (j * n)) ++ digs n k (x / 2 ^ (j * n))
  | 0, k, x => by simp [digs]
  | j + 1, k, x => by
    have e1 : (j + 1) * n = n + j * n := by rw [Nat.succ_mul, Nat.add_comm]
    have e2 : j + 1 + k = (j + k) + 1 := by omega
    rw [e2, digs, digs, digs_append n j k, e1, List.cons_append, Nat.pow_add]
    congr 1
    · rw [Nat.mod_mul_right_mod]
    · congr 1
      · rw [Nat.mod_mul_right_div_self]
      · rw [Nat.div_div_eq_div_mul]
/-- a list with a run of it laid anew -/
def splice (ns : List Int) (l : Nat) (ds : List Int) : List Int := ns.take l ++ (ds ++ ns.drop (l + ds.length))
theorem splice_length {ns : List Int} {l : Nat} {ds : List Int} (h : l + ds.length ≤ ns.length) : (splice ns l ds).length = ns.length := by
  simp only [splice, List.length_append, List.length_take, List.length_drop]
  omega
theorem splice_splice {ns : List Int} {l : Nat} {ds es : List Int} (h : l + ds.length + es.length ≤ ns.length) : splice (splice ns l ds) (l + ds.length) es = splice ns l (ds ++ es) := by
  have h1 : (ns.take l).length = l := by rw [List.length_take]; omega
  have h2 : (ns.take l ++ ds).length = l + ds.length := by rw [List.length_append, h1]
  have e1 : (splice ns l ds).take (l + ds.length) = ns.take l ++ ds := by
    rw [splice, ← List.append_assoc, ← h2, List.take_left]
  have e2 : (splice ns l ds).drop (l + ds.length + es.length) = ns.drop (l + ds.length + es.length) := by
    rw [splice, ← List.append_assoc, ← List.drop_drop, ← h2, List.drop_left, List.drop_drop]
  rw [splice, e1, e2, splice, List.length_append, List.append_assoc, List.append_assoc, Nat.add_assoc]
theorem splice_set {ns : List Int} {l : Nat} {x : Int} (h : l < ns.length) : ns.set l x = splice ns l [x] := by
  rw [splice, List.set_eq_take_append_cons_drop, if_pos h]
  rfl
/-- the number that figures by 2 ^ n tell, the lowest first -/
def undig (n : Nat) : List Int → Int
  | [] => 0
  | d :: r => d + 2 ^ n * undig n r
theorem undig_append (n : Nat) : ∀ ds es : List Int, undig n (ds ++ es) = undig n ds + 2 ^ (ds.length * n) * undig n es
  | [], es => by simp [undig]
  | d :: r, es => by
    rw [List.cons_append, undig, undig, undig_append n r es, List.length_cons, Nat.succ_mul, Nat.add_comm (r.length * n) n, Int.pow_add, Int.mul_add, Int.mul_assoc]
    omega
theorem undig_digs (n : Nat) : ∀ k x, x < 2 ^ (k * n) → undig n (digs n k x) = (x : Int)
  | 0, x, h => by
    have : x = 0 := by simpa using h
    subst this; rfl
  | k + 1, x, h => by
    have e : (k + 1) * n = n + k * n := by rw [Nat.succ_mul, Nat.add_comm]
    have hx : x / 2 ^ n < 2 ^ (k * n) := by
      rw [e, Nat.pow_add] at h
      exact Nat.div_lt_of_lt_mul h
    rw [digs, undig, undig_digs n k _ hx]
    have := Nat.mod_add_div x (2 ^ n)
    have c : ((2 ^ n : Nat) : Int) = (2 : Int) ^ n := by push_cast; rfl
    rw [← c, ← Int.natCast_mul, ← Int.natCast_add, this]
end Mine
end
section
/-! Small laws of whole numbers, each proved where no other fact stands about (omega's proofs grow with what stands about) -/
namespace Mine
theorem half_sum (k : Nat) : k / 2 + (k - k / 2) = k := Nat.add_sub_cancel' (Nat.div_le_self k 2)
theorem mid_cast (l k : Nat) : (((l + (l + k)) / 2 ^ 1 : Nat) : Int) = ((l + k / 2 : Nat) : Int) := by
  rw [← Nat.add_assoc, ← Nat.two_mul, Nat.add_comm, show (2 : Nat) ^ 1 = 2 from rfl, Nat.add_mul_div_left _ _ (by decide), Nat.add_comm]
theorem mid_low (l k : Nat) : ((l + k / 2 : Nat) : Int) - (l : Int) = ((k / 2 : Nat) : Int) := by
  rw [Int.natCast_add, Int.add_comm]; exact Int.add_sub_cancel _ _
theorem half_le {k : Nat} (h : k ≤ 64) : k / 2 ≤ 32 := Nat.div_le_div_right (c := 2) h
theorem half_in {l k m : Nat} (h : l + k ≤ m) : l + k / 2 ≤ m := Nat.le_trans (Nat.add_le_add_left (Nat.div_le_self _ _) _) h
theorem rest_in {l k m : Nat} (h : l + k ≤ m) : l + k / 2 + (k - k / 2) ≤ m := by rw [Nat.add_assoc, half_sum]; exact h
theorem rest_le {l k m : Nat} (h : l + k ≤ m) : k - k / 2 ≤ m := Nat.le_trans (Nat.sub_le _ _) (Nat.le_trans (Nat.le_add_left _ _) h)
theorem half_lt {k : Nat} (h : 1 ≤ k) : k / 2 < k := Nat.div_lt_self h (by decide)
theorem half_pos {k : Nat} (h : 2 ≤ k) : 1 ≤ k / 2 := Nat.div_pos h (by decide)
theorem rest_lt {k : Nat} (h : 2 ≤ k) : k - k / 2 < k := Nat.sub_lt (Nat.lt_of_lt_of_le (by decide) h) (half_pos h)
theorem rest_pos {k : Nat} (h : 1 ≤ k) : 1 ≤ k - k / 2 := Nat.sub_pos_of_lt (half_lt h)
theorem rest_hi {l k : Nat} {hi : Int} (h : hi = ((l + k : Nat) : Int)) : hi = ((l + k / 2 + (k - k / 2) : Nat) : Int) := by rw [Nat.add_assoc, half_sum]; exact h
theorem two_of {l k : Nat} {lo hi : Int} (h : lo = (l : Int)) (h' : hi = ((l + k : Nat) : Int)) (hk : 1 ≤ k) (hn : lo + 1 ≠ hi) : 2 ≤ k := by
  subst h; subst h'
  exact Nat.lt_of_le_of_ne hk fun e => hn (by rw [← e]; rfl)
theorem one_of {l k : Nat} {lo hi : Int} (h : lo = (l : Int)) (h' : hi = ((l + k : Nat) : Int)) (hn : lo + 1 = hi) : k = 1 := by
  subst h; subst h'
  exact (Nat.add_left_cancel (Int.ofNat.inj (show ((l + 1 : Nat) : Int) = ((l + k : Nat) : Int) from hn))).symm
theorem lo_nat {l : Nat} {lo : Int} (h : lo = (l : Int)) : lo.toNat = l := by rw [h]; rfl
theorem lo_in {l m : Nat} (h : l + 1 ≤ m) : l < m := h
theorem room_half {dp k m : Nat} (h : dp + k + 1 < m) (hk : 2 ≤ k) : dp + 1 + k / 2 + 1 < m := by
  rw [Nat.add_right_comm dp 1]
  exact Nat.lt_of_le_of_lt (Nat.succ_le_succ (Nat.add_le_add_left (half_lt (Nat.le_of_succ_le hk)) dp)) h
theorem room_rest {dp k m : Nat} (h : dp + k + 1 < m) (hk : 2 ≤ k) : dp + 1 + (k - k / 2) + 1 < m := by
  rw [Nat.add_right_comm dp 1]
  exact Nat.lt_of_le_of_lt (Nat.succ_le_succ (Nat.add_le_add_left (rest_lt hk) dp)) h
theorem mul_mill {x : Nat} (h : x ≤ 32 * 64) : (x : Int) ≤ 1000000 := Int.ofNat_le.mpr (Nat.le_trans h (by decide : 32 * 64 ≤ 1000000))
theorem abs64 {n : Nat} (h : n ≤ 64) : (n : Int).natAbs < 2 ^ 63 := Nat.lt_of_le_of_lt h (by decide)
theorem cast5 {a : Nat} (h : 1 ≤ a ∧ a ≤ 5) : 1 ≤ (a : Int) ∧ (a : Int) ≤ 5 := ⟨Int.ofNat_le.mpr h.1, Int.ofNat_le.mpr h.2⟩
theorem sum15 {a b c : Nat} (ha : 1 ≤ a ∧ a ≤ 5) (hb : 1 ≤ b ∧ b ≤ 5) (hc : 1 ≤ c ∧ c ≤ 5) : 1 ≤ a + b + c ∧ a + b + c ≤ 15 :=
  ⟨Nat.le_trans ha.1 (Nat.le_trans (Nat.le_add_right _ _) (Nat.le_add_right _ _)), Nat.add_le_add (Nat.add_le_add ha.2 hb.2) hc.2⟩
theorem pow15 {n a b c : Nat} (hn : n ≤ 6) (ha : 1 ≤ a ∧ a ≤ 5) (hb : 1 ≤ b ∧ b ≤ 5) (hc : 1 ≤ c ∧ c ≤ 5) : 0 ≤ ((n : Nat) : Int) ∧ ((n : Nat) : Int) ≤ 1000 ∧ ((a : Int) + (b : Int) + (c : Int)).natAbs < 2 ^ 64 :=
  ⟨Int.natCast_nonneg _, Int.ofNat_le.mpr (Nat.le_trans hn (by decide : 6 ≤ 1000)), Nat.lt_of_le_of_lt (show ((a + b + c : Nat) : Int).natAbs ≤ 15 from (sum15 ha hb hc).2) (by decide)⟩
theorem fit6 {n : Nat} (h : n ≤ 6) : n < 2 ^ 62 := Nat.lt_of_le_of_lt h (by decide)
theorem num30 {nu num p x y w : Nat} (h : nu = num - p) (h1 : num < x + y) (h2 : x + y ≤ w) (h3 : w < 2 ^ 30) : nu < 2 ^ 30 := by
  rw [h]; exact Nat.lt_of_le_of_lt (Nat.sub_le _ _) (Nat.lt_trans (Nat.lt_of_lt_of_le h1 h2) h3)
theorem sub_cast {x y : Nat} (h : y ≤ x) : (x : Int) - (y : Int) = ((x - y : Nat) : Int) := (Int.ofNat_sub h).symm
theorem succ_cast (j : Nat) : ((j + 1 : Nat) : Int) - 1 = (j : Int) := Int.add_sub_cancel (j : Int) 1
theorem betw_cast {x y z : Nat} (h : x ≤ y) (h' : y < x + z) : (x : Int) ≤ (y : Int) ∧ (y : Int) < (x : Int) + (z : Int) := ⟨Int.ofNat_le.mpr h, Int.ofNat_lt.mpr h'⟩
theorem abs_one {x y z : Nat} (h : x + y ≤ z) (hz : z ≤ 15) : (x : Int).natAbs < 2 ^ 63 := Nat.lt_of_le_of_lt (Nat.le_trans (Nat.le_add_right _ _) (Nat.le_trans h hz)) (by decide)
theorem abs_two {x y z : Nat} (h : x + y ≤ z) (hz : z ≤ 15) : (y : Int).natAbs < 2 ^ 63 := Nat.lt_of_le_of_lt (Nat.le_trans (Nat.le_add_left _ _) (Nat.le_trans h hz)) (by decide)
theorem w30 {w : Nat} (h : 1 ≤ w ∧ w ≤ 15) : 1 ≤ w ∧ w < 2 ^ 30 := ⟨h.1, Nat.lt_of_le_of_lt h.2 (by decide)⟩
theorem first_cast {x y : Nat} (h : 0 < y) : (x : Int) + (y : Int) - 1 = ((x + y - 1 : Nat) : Int) := (Int.ofNat_sub (Nat.le_trans h (Nat.le_add_left _ _))).symm
theorem two_mul_cast {x : Nat} : (2 : Int) * (x : Int) = ((x * 2 : Nat) : Int) := by rw [Int.mul_comm]; rfl
theorem abs_big {x y : Nat} (h : x ≤ y) (h' : y < 2 ^ 30) : x < 2 ^ 63 := Nat.lt_of_le_of_lt h (Nat.lt_trans h' (by decide))
theorem cast_pos {y : Nat} (h : 0 < y) : 0 < (y : Int) := Int.ofNat_lt.mpr h
theorem first_low {f r x y : Nat} (h : f + r = x + y - 1) (h' : r < y) : (x : Int) ≤ (f : Int) := by omega
theorem first_high {f r x y z : Nat} (h : f + r = x + y - 1) (hy : 0 < y) (h' : y ≤ z) : (f : Int) < (x : Int) + (z : Int) := by omega
theorem rep_num {f : Int} {c n1 : Nat} (hK : f = (c : Int)) (e3 : 0 ≤ f → (n1 : Int) = ((0 + 1 : Nat) : Int) * f) : (n1 : Int) = (c : Int) := by
  subst hK
  exact (e3 (Int.natCast_nonneg _)).trans (Int.one_mul _)
theorem rep_len {f : Int} {c n1 len : Nat} (hK : f = (c : Int)) (e1 : len = n1) (e3 : 0 ≤ f → (n1 : Int) = ((0 + 1 : Nat) : Int) * f) : len = c :=
  e1.trans (Int.ofNat.inj (rep_num hK e3))
end Mine
end
section
open PySem
namespace Mine
theorem and_high (x s : Nat) : x &&& (x / 2 ^ s * 2 ^ s) = x / 2 ^ s * 2 ^ s := by
  apply Nat.eq_of_testBit_eq
  intro i
  rw [Nat.testBit_and, ← Nat.shiftRight_eq_div_pow, ← Nat.shiftLeft_eq, Nat.testBit_shiftLeft]
  by_cases h : i ≥ s
  · simp only [h, decide_true, Bool.true_and, Nat.testBit_shiftRight]
    rw [show s + (i - s) = i by omega]
    exact Bool.and_self _
  · simp only [h, decide_false, Bool.false_and, Bool.and_false]
theorem xor_low (x s : Nat) : Builtin.bitXor (x : Int) ((x / 2 ^ s * 2 ^ s : Nat) : Int) = ((x % 2 ^ s : Nat) : Int) := by
  rw [PyProof.Rows.bitXor_and, PyProof.Rows.bitAnd_pp (Int.natCast_nonneg _) (Int.natCast_nonneg _), Int.toNat_natCast, Int.toNat_natCast, and_high]
  have h := Nat.div_add_mod x (2 ^ s)
  rw [Nat.mul_comm] at h
  omega
theorem fdiv_pow (x s : Nat) : (x : Int).fdiv (2 ^ s) = ((x / 2 ^ s : Nat) : Int) := by
  have c : ((2 ^ s : Nat) : Int) = (2 : Int) ^ s := by push_cast; rfl
  rw [← c, Int.fdiv_eq_ediv_of_nonneg _ (Int.natCast_nonneg _), Int.natCast_ediv]
theorem mul_pow (x s : Nat) : ((x : Nat) : Int) * 2 ^ s = ((x * 2 ^ s : Nat) : Int) := by
  push_cast; rfl
end Mine
namespace Mine
/-- the bits of a number, and how many figures by 2 ^ n it has -/
def nb (X : Nat) : Nat := Builtin.Int.intBits (X : Int)
def cnt (X n : Nat) : Nat := (nb X + n - 1) / n
theorem nb_eq (X : Nat) : nb X = if X = 0 then 0 else X.log2 + 1 := by
  unfold nb Builtin.Int.intBits
  by_cases h : X = 0
  · subst h; rfl
  · have h' : ¬ ((X : Int) == 0) = true := by simpa using h
    rw [if_neg h', if_neg h, Int.natAbs_natCast]
theorem nb_lt (X : Nat) : X < 2 ^ nb X := by
  rw [nb_eq]
  split
  · rename_i h; subst h; decide
  · exact Nat.lt_log2_self
theorem nb_le {X k : Nat} (h : X < 2 ^ k) : nb X ≤ k := by
  rw [nb_eq]
  split
  · omega
  · rename_i h0
    have := (Nat.log2_lt h0).mpr h
    omega
theorem nb_pos {X : Nat} (h : X ≠ 0) : 1 ≤ nb X := by
  rw [nb_eq, if_neg h]; omega
theorem cnt_fdiv {X n : Nat} (hn : 1 ≤ n) : ((Builtin.Int.intBits (X : Int) : Int) + (n : Int) - 1).fdiv (n : Int) = (cnt X n : Int) := by
  have e : ((Builtin.Int.intBits (X : Int) : Int) + (n : Int) - 1) = ((nb X + n - 1 : Nat) : Int) := by unfold nb; omega
  rw [e, Int.fdiv_eq_ediv_of_nonneg _ (Int.natCast_nonneg _)]
  rfl
theorem cnt_mul {X n : Nat} (hn : 1 ≤ n) : nb X ≤ cnt X n * n := by
  unfold cnt
  have h := Nat.div_add_mod (nb X + n - 1) n
  have h2 := Nat.mod_lt (nb X + n - 1) (show 0 < n by omega)
  rw [Nat.mul_comm] at h
  omega
theorem cnt_lt {X n : Nat} (hn : 1 ≤ n) : X < 2 ^ (cnt X n * n) :=
  Nat.lt_of_lt_of_le (nb_lt X) (Nat.pow_le_pow_right (by decide) (cnt_mul hn))
theorem cnt_le {X n : Nat} (hn : 1 ≤ n) : cnt X n ≤ nb X := by
  unfold cnt
  rcases Nat.eq_zero_or_pos (nb X) with h | h
  · rw [h, Nat.zero_add, Nat.div_eq_of_lt (by omega)]
    omega
  · refine Nat.div_le_of_le_mul ?_
    have h1 : n * 1 ≤ n * nb X := Nat.mul_le_mul_left n h
    have h2 : (n - 1) * (nb X - 1) + (n - 1) = (n - 1) * nb X := by
      rw [← Nat.mul_succ]; congr 1; omega
    have h3 : (n - 1) * nb X + nb X = n * nb X := by
      rw [← Nat.succ_mul]; congr 1; omega
    omega
theorem cnt_mul_le {X n : Nat} : cnt X n * n ≤ nb X + n - 1 := Nat.div_mul_le_self _ _
theorem cnt_one (X : Nat) : cnt X 1 = nb X := by simp [cnt]
theorem cnt_zero {n : Nat} (hn : 1 ≤ n) : cnt 0 n = 0 := Nat.le_zero.mp (Nat.le_trans (cnt_le hn) (nb_le (by decide)))
theorem cnt_pos {X n : Nat} (hn : 1 ≤ n) (h : X ≠ 0) : 1 ≤ cnt X n := by
  have h1 := nb_pos h
  have h2 := cnt_mul (X := X) hn
  rcases Nat.eq_zero_or_pos (cnt X n) with h3 | h3
  · rw [h3] at h2; omega
  · exact h3
theorem splice_all {ns ds : List Int} (h : ds.length = ns.length) : splice ns 0 ds = ds := by
  simp [splice, h]
end Mine
namespace Mine
/-- a run of a list -/
def seg (ns : List Int) (l k : Nat) : List Int := (ns.drop l).take k
theorem seg_length {ns : List Int} {l k : Nat} (h : l + k ≤ ns.length) : (seg ns l k).length = k := by
  simp only [seg, List.length_take, List.length_drop]; omega
theorem seg_append (ns : List Int) (l j k : Nat) : seg ns l j ++ seg ns (l + j) k = seg ns l (j + k) := by
  rw [seg, seg, seg, List.take_add, List.drop_drop]
theorem seg_one {ns : List Int} {l : Nat} (h : l < ns.length) : seg ns l 1 = [ns.getD l 0] := by
  rw [seg, List.drop_eq_getElem_cons h, List.take_succ_cons, List.take_zero]
  simp [h]
theorem seg_all (ns : List Int) : seg ns 0 ns.length = ns := by simp [seg]
theorem seg_mem {ns : List Int} {l k : Nat} {d : Int} (h : d ∈ seg ns l k) : d ∈ ns := List.mem_of_mem_drop (List.mem_of_mem_take h)
theorem two_cast (k : Nat) : ((2 ^ k : Nat) : Int) = (2 : Int) ^ k := by push_cast; rfl
theorem undig_bound (n : Nat) : ∀ ds : List Int, (∀ d ∈ ds, 0 ≤ d ∧ d < 2 ^ n) → 0 ≤ undig n ds ∧ undig n ds < 2 ^ (ds.length * n)
  | [], _ => ⟨Int.le_refl _, by simp [undig]⟩
  | d :: r, h => by
    have h1 := h d (.head _)
    have h2 := undig_bound n r fun e he => h e (.tail _ he)
    have hp : (0 : Int) < 2 ^ n := by rw [← two_cast]; exact Int.natCast_pos.mpr (Nat.pow_pos (by decide))
    rw [undig, List.length_cons, Nat.succ_mul, Nat.add_comm (r.length * n) n, Int.pow_add]
    refine ⟨Int.add_nonneg h1.1 (Int.mul_nonneg (Int.le_of_lt hp) h2.1), ?_⟩
    have h3 : (2 : Int) ^ n * (undig n r + 1) ≤ 2 ^ n * 2 ^ (r.length * n) := Int.mul_le_mul_of_nonneg_left h2.2 (Int.le_of_lt hp)
    rw [Int.mul_add, Int.mul_one] at h3
    omega
theorem undig_small {n m : Nat} {ds : List Int} (h : ∀ d ∈ ds, 0 ≤ d ∧ d < 2 ^ n) (hm : ds.length * n ≤ m) : (undig n ds).natAbs < 2 ^ m := by
  obtain ⟨h1, h2⟩ := undig_bound n ds h
  rw [← two_cast] at h2
  have h3 : 2 ^ (ds.length * n) ≤ 2 ^ m := Nat.pow_le_pow_right (by decide) hm
  omega
end Mine
end
section
open PySem PySem.W PyProof.Rows
namespace Mine
set_option maxRecDepth 100000 in
set_option maxHeartbeats 8000000 in
open_top hd for PySem.Challenge.rw_ie0008_01
end Mine
end
local macro_rules | `(tactic| k_room) => `(tactic| ktr_room)
section
open PySem PySem.W PyProof.Rows PySem.Calls PySem.Spec
set_option maxRecDepth 100000
namespace Mine
/-- a fact that omega shall not see -/
def Ap (p : Prop) : Prop := p
theorem Ap.mk {p : Prop} (h : p) : Ap p := h
theorem Ap.out {p : Prop} (h : Ap p) : p := h

abbrev Led := List (Addr × Obj)
/-- the second heap holds what the first holds, but at the named addresses -/
def Keeps (S : List Addr) (h h' : Heap) : Prop := (∀ b o, h.get? b = some o → b ∉ S → h'.get? b = some o) ∧ h.objs.size ≤ h'.objs.size

def LeaveC (g : Heap) (Q : Value → Shared → Prop) (v : Value) (s' : Shared) : Prop :=
  ∃ L' m' news', Fr g L' s'.heap m' ∧ News g L' s'.heap news' ∧ Q v s'

abbrev BackTo (Q E : Value → Shared → Prop) : Result → Shared → Prop := fun r s' => match r with | .ok (.ret v) => Q v s' | .ok _ => False | .error e => E e s'

theorem leaveK_of {h₀ g : Heap} {L : Addr} {m : Str → Option Value} {Q E : Value → Shared → Prop} {v : Value} {s' : Shared} (h : LeaveC g Q v s') : LeaveK h₀ L m g (BackTo Q E) v s' := by
  obtain ⟨L', m', n', F, N, q⟩ := h
  exact ⟨L', m', n', F, N, fun _ _ => q⟩

section
variable {prog : Program} {w : World} {A₀ A : Around} {s : Shared} {base h₀ : Heap} {outer : List Env} {L : Addr} {m : Str → Option Value} {env : Env} {news : Led}
  {Q E : Value → Shared → Prop} {name qual : Str} {params : Arguments} {body : List Stmt} {scope : Scope} {cl : List (Str × Addr)} {dV kV doc pm cdv ct : Value} {an : Option Addr} {fo : Obj} {f : Addr} {args : Args} {binds : List (Str × Value)}

/-- into a plain def: the new base g holds all that stood but the ledger -/
theorem enterX (B : Below A₀ base outer h₀) (F : Fr h₀ L s.heap m) (N : News h₀ L s.heap news) (hlim : h₀.NoLimit) (hA : A.frames = some (env :: outer)) (hf : env.frame = some L) (hke : env.scope.kind = .function)
    (ho : s.heap.get? f = some fo) (hd : fo.data = .func (fnX name qual params body scope cl dV kV doc pm an cdv ct)) (hcd : s.heap.CodeRec cdv qual) (hroom : A.depth < recursionLimit)
    (hbind : BindsTo s (fnX name qual params body scope cl dV kV doc pm an cdv ct) args binds) (hloc : ∀ y ∈ binds, scope.names.lookup y.1 = some .local)
    (hcell : ∀ x ∈ scope.names, x.2 ≠ .cell) (hco : scope.isCoroutine = false) (hgen : scope.isGenerator = false) (hk : scope.kind = .function)
    (h : ∀ g L' h₁, (∀ b o, s.heap.get? b = some o → b ∉ news.map (·.1) → g.get? b = some o) → s.heap.objs.size ≤ L' → h₀.StaysIn g → Fr g L' h₁ (fun y => binds.reverse.lookup y) → News g L' h₁ news → (∀ p ∈ news, p.1 < L') → Below A base (env :: outer) g →
      wpAny (model prog w) (A.deeper (envX qual scope L' f cdv cl)) (execs body (envX qual scope L' f cdv cl))
        (fun fl s' => LeaveC g Q (match fl with | .ret v => v | _ => .none) s')
        (fun e s' => wpAny (model prog w) (A.deeper (envX qual scope L' f cdv cl)) (leaving (envX qual scope L' f cdv cl) e) (fun _ s'' => E e s'') (fun e' s'' => E e' s'') s')
        { s with heap := h₁, toks := s.toks + binds.length }) : codeAny (model prog w) A (.call (.ref f) args) (BackTo Q E) s := by
  obtain ⟨FG, BG, st, lv⟩ := groundX (R := BackTo Q E) B F N hA hf hke
  refine codeAny_call_def (fd := fnX name qual params body scope cl dV kV doc pm an cdv ct) (body := body) (binds := binds) hroom ho hd (hlim.keeps F.keep) hcd rfl hbind hcell hloc (fun h₁ hns hk₁ => ?_) hco hgen hk
  have lt : ∀ p ∈ news, p.1 < s.heap.objs.size := fun p hp => Heap.lt_size (N p hp).1
  refine wpAny_mono (h _ s.heap.objs.size h₁ (fun b o e n => hideAll_get _ e n) (Nat.le_refl _) st ⟨hns, fun b o e => hk₁ b o (of_hideAll _ e), Nat.le_of_eq (hideAll_size _ _)⟩
    (fun p hp => ⟨hk₁ _ _ (N p hp).1, Nat.ne_of_lt (lt p hp), hideAll_none _ (List.mem_map_of_mem hp)⟩) lt BG) (fun fl s' hl => ?_) fun _ _ y => y
  exact lv _ _ (leaveK_of hl)

/-- into a def with cells -/
theorem enterC (B : Below A₀ base outer h₀) (F : Fr h₀ L s.heap m) (N : News h₀ L s.heap news) (hlim : h₀.NoLimit) (hA : A.frames = some (env :: outer)) (hf : env.frame = some L) (hke : env.scope.kind = .function)
    (ho : s.heap.get? f = some fo) (hd : fo.data = .func (fnX name qual params body scope [] dV kV doc pm an cdv ct)) (hcd : s.heap.CodeRec cdv qual) (hroom : A.depth < recursionLimit)
    (hbind : BindsTo s (fnX name qual params body scope [] dV kV doc pm an cdv ct) args binds)
    (hkind : (binds.all fun y => scope.names.lookup y.1 == some .local || scope.names.lookup y.1 == some .cell) = true)
    (hnd : ((cellsFrom 0 scope.names []).map (·.1)).Nodup) (hco : scope.isCoroutine = false) (hgen : scope.isGenerator = false) (hk : scope.kind = .function)
    (h : ∀ g L' h₁ tk cells, (∀ b o, s.heap.get? b = some o → b ∉ news.map (·.1) → g.get? b = some o) → s.heap.objs.size ≤ L' → h₀.StaysIn g → Fr g L' h₁ (bindL (envOfC qual scope L' f cdv).kindOf binds fun _ => none) → News g L' h₁ (cells ++ news) →
      CellsAre (bindC (envOfC qual scope L' f cdv).kindOf binds fun _ => none) (cellsFrom (L' + 1) scope.names []) cells → (∀ p ∈ news, p.1 < L') → Below A base (env :: outer) g →
      wpAny (model prog w) (A.deeper (envOfC qual scope L' f cdv)) (execs body (envOfC qual scope L' f cdv))
        (fun fl s' => LeaveC g Q (match fl with | .ret v => v | _ => .none) s')
        (fun e s' => wpAny (model prog w) (A.deeper (envOfC qual scope L' f cdv)) (leaving (envOfC qual scope L' f cdv) e) (fun _ s'' => E e s'') (fun e' s'' => E e' s'') s')
        { s with heap := h₁, toks := tk }) : codeAny (model prog w) A (.call (.ref f) args) (BackTo Q E) s := by
  obtain ⟨FG, BG, st, lv⟩ := groundX (R := BackTo Q E) B F N hA hf hke
  refine codeAny_call_function hroom ho hd hco hgen rfl hcd (hbind _ _ _ _ ?_)
  refine wpAny_newFunctionEnv_cells hk (kindsX hkind _) fun env' he s' x => ?_
  subst he
  refine ⟨(hlim.keeps F.keep).keeps x.toInCall.keep, codeAny_func ?_⟩
  obtain ⟨h₁, tk, rfl, _⟩ := x.done
  have hk₁ := x.toInCall.keep
  have lt : ∀ p ∈ news, p.1 < s.heap.objs.size := fun p hp => Heap.lt_size (N p hp).1
  obtain ⟨cells, NC, Y⟩ := Cl.news (h₀ := s.heap) (Nat.le_refl _) fun n c hm => ⟨x.cell n c (lookup_of_mem_nodup (cellsFrom_names scope.names 0 (s.heap.objs.size + 1) [] [] rfl ▸ hnd) hm), x.above n c hm⟩
  refine wpAny_mono (h _ s.heap.objs.size h₁ tk cells (fun b o e n => hideAll_get _ e n) (Nat.le_refl _) st ⟨x.toInCall.ns, fun b o e => hk₁ b o (of_hideAll _ e), Nat.le_of_eq (hideAll_size _ _)⟩ (fun p hp => ?_) Y lt BG) (fun fl s' hl => lv _ _ (leaveK_of hl)) fun _ _ y => y
  rcases List.mem_append.mp hp with hp | hp
  · refine ⟨(NC p hp).1, (NC p hp).2.1, ?_⟩
    cases q : (hideAll s.heap (news.map (·.1))).get? p.1 with
    | none => rfl
    | some o => have := of_hideAll _ q; rw [(NC p hp).2.2] at this; cases this
  · exact ⟨hk₁ _ _ (N p hp).1, Nat.ne_of_lt (lt p hp), hideAll_none _ (List.mem_map_of_mem hp)⟩
end

/-- what a frame has behind a call that keeps all but S -/
theorem fr_keeps {S : List Addr} {h₀ h h' : Heap} {L : Addr} {m : Str → Option Value} {news : Led} (k : Keeps S h h') (F : Fr h₀ L h m) (N : News h₀ L h news) (hS : ∀ b ∈ S, b ∈ news.map (·.1)) : Fr h₀ L h' m := by
  obtain ⟨oL, es, ep, hL, r⟩ := F.ns
  have nm : ∀ b ∈ S, b ≠ L ∧ h₀.get? b = none := fun b hb => by
    obtain ⟨p, hp, rfl⟩ := List.mem_map.mp (hS b hb)
    exact (N p hp).2
  exact ⟨⟨oL, es, ep, k.1 _ _ hL fun q => (nm _ q).1 rfl, r⟩, fun b o e => k.1 b o (F.keep b o e) (fun q => by rw [(nm b q).2] at e; cases e), F.above⟩
theorem news_keeps {S : List Addr} {h₀ h h' : Heap} {L : Addr} {news : Led} (k : Keeps S h h') (N : News h₀ L h news) : ∀ p ∈ news, p.1 ∉ S → h'.get? p.1 = some p.2 ∧ p.1 ≠ L ∧ h₀.get? p.1 = none :=
  fun p hp hs => ⟨k.1 _ _ (N p hp).1 hs, (N p hp).2⟩
/-- a new object, or one of the ledger that was turned -/
theorem news_new {h₀ h h' : Heap} {L a : Addr} {o : Obj} {m : Str → Option Value} (F : Fr h₀ L h m) (ha : h.objs.size ≤ a) (ho : h'.get? a = some o) : h'.get? a = some o ∧ a ≠ L ∧ h₀.get? a = none := by
  have hL := F.ns.lt
  refine ⟨ho, fun q => absurd hL (by rw [← q]; exact Nat.not_lt.mpr ha), ?_⟩
  cases q : h₀.get? a with
  | none => rfl
  | some o' => exact absurd (Heap.lt_size (F.keep _ _ q)) (Nat.not_lt.mpr ha)
theorem news_same {h₀ h h' : Heap} {L a : Addr} {o o' : Obj} {news : Led} (N : News h₀ L h news) (hm : (a, o) ∈ news) (ho : h'.get? a = some o') : h'.get? a = some o' ∧ a ≠ L ∧ h₀.get? a = none := ⟨ho, (N _ hm).2⟩

/-- what a callee's end keeps -/
theorem keeps_end {S : List Addr} {h₀ h g h' : Heap} {L L' : Addr} {m' : Str → Option Value} {led : Led} (hg : ∀ b o, h.get? b = some o → b ∉ led.map (·.1) → g.get? b = some o) (hL : h.objs.size ≤ L') (N : News h₀ L h led) (F' : Fr g L' h' m')
    (hk : ∀ p ∈ led, p.1 ∉ S → h'.get? p.1 = some p.2) : Keeps S h h' := by
  refine ⟨fun b o e n => ?_, Nat.le_trans hL (Nat.le_of_lt F'.ns.lt)⟩
  by_cases hb : b ∈ led.map (·.1)
  · obtain ⟨p, hp, rfl⟩ := List.mem_map.mp hb
    have e2 := (N p hp).1
    rw [e] at e2
    rw [hk p hp n]
    exact e2.symm
  · exact F'.keep b o (hg b o e hb)
end Mine
end
section
open PySem PySem.W PyProof.Rows PySem.Calls PySem.Spec
set_option maxRecDepth 100000
namespace Mine
/-- the parts of a def's statement -/
def bodyS : Stmt → List Stmt
  | .FunctionDef _ _ b _ _ _ _ _ _ _ => b
  | _ => []
def parsS : Stmt → Arguments
  | .FunctionDef _ a _ _ _ _ _ _ _ _ => a
  | _ => { posonlyargs := [], args := [], vararg := none, kwonlyargs := [], kw_defaults := [], kwarg := none, defaults := [] }
def scopeS : Stmt → Scope
  | .FunctionDef _ _ _ _ _ _ sc _ _ _ => sc
  | _ => default
/-- the statement of a place -/
def nthS : Nat → List Stmt → Stmt
  | _, [] => .Pass ⟨0, 0, 0, 0⟩
  | 0, s :: _ => s
  | k + 1, _ :: r => nthS k r
def inner1 : Stmt := nthS 1 (bodyS (nthS 4 PySem.Challenge.pw_ie0008_01.main.body))
def inner2 : Stmt := nthS 0 (bodyS (nthS 5 PySem.Challenge.pw_ie0008_01.main.body))

section
variable {prog : Program} {w : World} {A : Around} {E : Value → Shared → Prop} {s : Shared} {a b r : Int} {t u : Tok} {Q : Value → Shared → Prop}
theorem rsh_to (h0 : 0 ≤ b) (e : a.fdiv (2 ^ b.toNat) = r) (h : Q (.int r s.toks) { s with toks := s.toks + 1 }) : wpAny (model prog w) A (binaryOp .RShift (.int a t) (.int b u)) Q E s :=
  rshift_int h0 (by rw [e]; exact h)
theorem lsh_to (h0 : 0 ≤ b ∧ b ≤ 1000000 ∧ a.natAbs < 2 ^ 64) (e : a * 2 ^ b.toNat = r) (h : Q (.int r s.toks) { s with toks := s.toks + 1 }) : wpAny (model prog w) A (binaryOp .LShift (.int a t) (.int b u)) Q E s :=
  lshift_int_small h0.1 h0.2.1 h0.2.2 (by rw [e]; exact h)
theorem xor_to (e : Builtin.bitXor a b = r) (h : Q (.int r s.toks) { s with toks := s.toks + 1 }) : wpAny (model prog w) A (binaryOp .BitXor (.int a t) (.int b u)) Q E s :=
  xor_int (by rw [e]; exact h)
theorem mul_to (e : a * b = r) (hb : b.natAbs < 2 ^ 63) (h : Q (.int r s.toks) { s with toks := s.toks + 1 }) : wpAny (model prog w) A (binaryOp .Mult (.int a t) (.int b u)) Q E s :=
  mul_int (by rw [e]; exact h) (IntMulOk.of_right (intBits_le_64 (by omega) (by omega)))
end
theorem leaveC_of {g : Heap} {Q : Value → Shared → Prop} {v : Value} {s' : Shared} {L' : Addr} {m' : Str → Option Value} {news' : Led} (F : Fr g L' s'.heap m') (N : News g L' s'.heap news') (h : Q v s') : LeaveC g Q v s' := ⟨L', m', news', F, N, h⟩
/-- behind a call that turns one object of the ledger -/
theorem one_turned {h₀ h h' : Heap} {L d : Addr} {m : Str → Option Value} {o o' : Obj} {rest : Led} (k : Keeps [d] h h') (F : Fr h₀ L h m) (N : News h₀ L h ((d, o) :: rest)) (ho : h'.get? d = some o') (hne : ∀ p ∈ rest, p.1 ≠ d) :
    Fr h₀ L h' m ∧ News h₀ L h' ((d, o') :: rest) := by
  refine ⟨fr_keeps k F N fun b hb => ?_, fun p hp => ?_⟩
  · rw [List.mem_singleton.mp hb]; exact .head _
  · rcases List.mem_cons.mp hp with rfl | hp
    · exact ⟨ho, (N (d, o) (.head _)).2⟩
    · exact news_keeps k N p (.tail _ hp) fun q => hne p hp (List.mem_singleton.mp q)
end Mine
end
section
open PySem PySem.W PyProof.Rows PySem.Calls PySem.Spec
set_option maxRecDepth 100000
namespace Mine
theorem keeps_one {h₀ h g h' : Heap} {L L' d : Addr} {m' : Str → Option Value} {o o' : Obj} {rest : Led} (hg : ∀ b o₁, h.get? b = some o₁ → b ∉ List.map (fun x => x.1) ((d, o) :: rest) → g.get? b = some o₁) (hL : h.objs.size ≤ L') (N : News h₀ L h ((d, o) :: rest)) (F' : Fr g L' h' m')
    (N' : News g L' h' ((d, o') :: rest)) : Keeps [d] h h' := by
  refine keeps_end hg hL N F' fun p hp hs => ?_
  rcases List.mem_cons.mp hp with rfl | hp
  · exact absurd (List.mem_singleton.mpr rfl) hs
  · exact (N' _ (.tail _ hp)).1

def InnerC1 (w : World) (p : Program) (loose : List Str) (mean : ExcName → Option Value) (mg mb : Str → Option Value) (n k : Nat) : Prop :=
  ∀ (X l : Nat), 1 ≤ k → X < 2 ^ (k * n) → X < 2 ^ 64 →
  ∀ (dp un : Nat) (gd : Option (List Code)) (cn : Str) (cs : Scope) (a : Addr) (ccd : Value) (cl : List (Str × Addr)) (outer : List Env) (A₀ : Around) (base h₀ : Heap) (L : Addr) (m : Str → Option Value) (s : Shared) (Q E : Value → Shared → Prop)
    (d f c' ca ci cc sz : Nat) (vs : List Value) (ns : List Int) (nm qual : Str) (doc pm ctv : Value) (oc oa oi on : Obj) (vs' : Array Value) (t' tn tx tl tr : Tok) (x lo hi : Int),
    Below A₀ base outer h₀ → Fr h₀ L s.heap m → (hd.heap_39 w.params).In h₀ → Top p loose mean mg mb h₀ → cs.kind = .function → CodeHd h₀ 34 30 → dp + k + 1 < recursionLimit →
    News h₀ L s.heap [(d, listOf vs.toArray sz), (f, fnMade nm qual (parsS inner1) (bodyS inner1) (scopeS inner1) [(PySem.Str.ofString "n", cc), (PySem.Str.ofString "inner", ci), (PySem.Str.ofString "a_digits", ca)] doc pm c' ctv), (c', oc), (ca, oa), (ci, oi), (cc, on)] →
    (∀ q ∈ [f, c', ca, ci, cc], q ≠ d) → oc.data = .fields vs' → vs'[1]? = some (.str qual t') → oa.data = .cell (some (.ref d)) → oi.data = .cell (some (.ref f)) → on.data = .cell (some (.int (n : Int) tn)) →
    IntsAre vs ns → l + k ≤ ns.length → ns.length ≤ 64 → x = (X : Int) → lo = (l : Int) → hi = ((l + k : Nat) : Int) →
    (∀ h' tk' vs2, Keeps [d] s.heap h' → h'.get? d = some (listOf vs2.toArray sz) → IntsAre vs2 (splice ns l (digs n k X)) → Q .none { s with heap := h', toks := tk' }) →
    wpAny (model PySem.Challenge.rw_ie0008_01.row.prog w) (ktrTop dp un gd cn cs L a ccd cl outer) (call (.ref f) [.int x tx, .int lo tl, .int hi tr]) Q E s

local macro_rules | `(tactic| k_ne) => `(tactic| (refine neN ?_; (try dsimp only); first | exact Ap.out (by assumption) | omega))
local macro_rules | `(tactic| walk_at "binaryOp RShift int int") => `(tactic| (with_reducible refine rsh_to (by first | exact Ap.out (by assumption) | decide) (Ap.out (by assumption)) ?_))
local macro_rules | `(tactic| walk_at "binaryOp LShift int int") => `(tactic| (with_reducible refine lsh_to (Ap.out (by assumption)) (Ap.out (by assumption)) ?_))
local macro_rules | `(tactic| walk_at "binaryOp BitXor int int") => `(tactic| (with_reducible refine xor_to (Ap.out (by assumption)) ?_))
local macro_rules | `(tactic| walk_at "binaryOp Mult int int") => `(tactic| (with_reducible refine mul_to (Ap.out (by assumption)) (Ap.out (by assumption)) ?_))
local macro_rules | `(tactic| walk_at "call ref") => `(tactic| k_dflt (k_extra "my call"))

set_option maxHeartbeats 8000000 in
theorem inner1_step (w : World) (p : Program) (loose : List Str) (mean : ExcName → Option Value) (mg mb : Str → Option Value) (n k : Nat) (hn : 1 ≤ n ∧ n ≤ 64) (hk : k ≤ 64) (ih : ∀ j, j < k → InnerC1 w p loose mean mg mb n j) : InnerC1 w p loose mean mg mb n k := by
  w_top off
  intro X l hk1 hX hX2 dp un gd cn cs a ccd cl outer A₀ base h₀ L m s Q E d f c' ca ci cc sz vs ns nm qual doc pm ctv oc oa oi on vs' t' tn tx tl tr x lo hi B F X0 T hcs C1 hroom N hne hoc hqn hoa hoi hon hI hl hlen hx hlo hhi hret
  revert X0; k_fill; intro X0
  dsimp only [inner1, PySem.Challenge.pw_ie0008_01, nthS, bodyS, parsS, scopeS] at N
  have hne' : f ≠ d ∧ c' ≠ d ∧ ca ≠ d ∧ ci ≠ d ∧ cc ≠ d := by simpa using hne
  have hmid : (lo + hi).fdiv (2 ^ Int.toNat 1) = ((l + k / 2 : Nat) : Int) := by
    rw [hlo, hhi, ← Int.natCast_add, show Int.toNat 1 = 1 from rfl, fdiv_pow]
    exact mid_cast l k
  have hsh : (((l + k / 2 : Nat) : Int) - lo) * (n : Int) = ((k / 2 * n : Nat) : Int) := by
    rw [hlo, mid_low l k, Int.natCast_mul]
  have h0 : 0 ≤ ((k / 2 * n : Nat) : Int) := Int.natCast_nonneg _
  have hup : x.fdiv (2 ^ (((k / 2 * n : Nat) : Int)).toNat) = ((X / 2 ^ (k / 2 * n) : Nat) : Int) := by
    rw [hx, Int.toNat_natCast, fdiv_pow]
  have hls : ((X / 2 ^ (k / 2 * n) : Nat) : Int) * 2 ^ (((k / 2 * n : Nat) : Int)).toNat = ((X / 2 ^ (k / 2 * n) * 2 ^ (k / 2 * n) : Nat) : Int) := by
    rw [Int.toNat_natCast, mul_pow]
  have hlb : 0 ≤ ((k / 2 * n : Nat) : Int) ∧ ((k / 2 * n : Nat) : Int) ≤ 1000000 ∧ ((X / 2 ^ (k / 2 * n) : Nat) : Int).natAbs < 2 ^ 64 := by
    have h1 : k / 2 * n ≤ 32 * 64 := Nat.mul_le_mul (half_le hk) hn.2
    have h2 : X / 2 ^ (k / 2 * n) ≤ X := Nat.div_le_self _ _
    rw [Int.natAbs_natCast]
    refine ⟨h0, ?_, Nat.lt_of_le_of_lt h2 hX2⟩
    exact mul_mill h1
  have hxo : Builtin.bitXor x ((X / 2 ^ (k / 2 * n) * 2 ^ (k / 2 * n) : Nat) : Int) = ((X % 2 ^ (k / 2 * n) : Nat) : Int) := by
    rw [hx, xor_low]
  have hb1 : X % 2 ^ (k / 2 * n) < 2 ^ (k / 2 * n) := Nat.mod_lt _ (Nat.pow_pos (by decide))
  have hb2 : X % 2 ^ (k / 2 * n) < 2 ^ 64 := Nat.lt_of_le_of_lt (Nat.mod_le _ _) hX2
  have hb3 : X / 2 ^ (k / 2 * n) < 2 ^ ((k - k / 2) * n) := by
    refine Nat.div_lt_of_lt_mul ?_
    rw [← Nat.pow_add, ← Nat.add_mul, half_sum k]
    exact hX
  have hb4 : X / 2 ^ (k / 2 * n) < 2 ^ 64 := Nat.lt_of_le_of_lt (Nat.div_le_self _ _) hX2
  have hlen1 : (splice ns l (digs n (k / 2) (X % 2 ^ (k / 2 * n)))).length = ns.length := splice_length (by rw [digs_length]; exact half_in hl)
  replace hmid := Ap.mk hmid
  replace hsh := Ap.mk hsh
  replace h0 := Ap.mk h0
  replace hup := Ap.mk hup
  replace hls := Ap.mk hls
  replace hlb := Ap.mk hlb
  replace hxo := Ap.mk hxo
  replace hb1 := Ap.mk hb1
  replace hb2 := Ap.mk hb2
  replace hb3 := Ap.mk hb3
  replace hb4 := Ap.mk hb4
  replace hlen1 := Ap.mk hlen1
  replace hX := Ap.mk hX
  replace hX2 := Ap.mk hX2
  have hnb := Ap.mk (abs64 hn.2)
  replace hn := Ap.mk hn
  have q1 := Ap.mk hne'.1
  have q2 := Ap.mk hne'.2.1
  have q3 := Ap.mk hne'.2.2.1
  have q4 := Ap.mk hne'.2.2.2.1
  have q5 := Ap.mk hne'.2.2.2.2
  clear hne'
  refine wpAny_call ?_
  k_dflt (
    refine' enterX ?k1 ?k2 ?k4 ?k5 ?kA ?kF ?kK ?ho ?hd ?k7 ?k8 ?k9 ?kB ?kD ?c2 ?c3 ?c4 ?_ 
    case ho => exact (N _ (List.mem_cons_of_mem _ (List.mem_cons_self ..))).1
    case hd => exact rfl
    case kA => exact rfl
    case kF => exact rfl
    case kK => assumption
    case k1 => k_asm
    case k2 => k_asm
    case k4 => exact N
    case k5 => exact Top.nolimit (by k_asm)
    case k7 => exact codeRec_news N (by k_mem) hoc hqn
    case k8 => ktr_room
    case k9 => exact BindsTo.of_eq rfl
    case kB => exact locs rfl
    case kD => decide
    case c2 => exact rfl
    case c3 => exact rfl
    case c4 => exact rfl)
  intro g' L' h' hg hL st F' N' lN B'
  have X' := X0.keeps st
  have T' := T.keeps st
  have C1' := C1.keeps st
  clear X0 T C1 B st
  k_lt lN
  (try dsimp only)
  (try k_fold)
  k_with_none
  k_with "my call" => first
    | (have hk2 := Ap.mk (two_of hlo hhi hk1 (by assumption))
       refine ih (k / 2) (half_lt hk1) (X % 2 ^ (k / 2 * n)) l (half_pos hk2.out) hb1.out hb2.out _ _ _ _ _ _ _ _ _ _ _ _ _ _ _ _ _ d f c' ca ci cc sz _ _ nm qual doc pm ctv oc oa oi on vs' t' tn _ _ _ _ _ _ (by k_asm) (by k_asm) (by k_asm) (by k_asm) rfl (by k_asm) (room_half hroom hk2.out) (by k_asm) hne hoc hqn hoa hoi hon hI (half_in hl) hlen rfl hlo rfl ?_
       intro h9 tk9 vs9 k9 g9 I9
       obtain ⟨F9, N9⟩ := one_turned k9 (by k_asm) (by k_asm) g9 (by simpa using hne)
       try dsimp only
       skip)
    | (have hk2 := Ap.mk (two_of hlo hhi hk1 (by assumption))
       refine ih (k - k / 2) (rest_lt hk2.out) (X / 2 ^ (k / 2 * n)) (l + k / 2) (rest_pos hk1) hb3.out hb4.out _ _ _ _ _ _ _ _ _ _ _ _ _ _ _ _ _ d f c' ca ci cc sz _ _ nm qual doc pm ctv oc oa oi on vs' t' tn _ _ _ _ _ _ (by k_asm) (by k_asm) (by k_asm) (by k_asm) rfl (by k_asm) (room_rest hroom hk2.out) (by k_asm) hne hoc hqn hoa hoi hon (by assumption) (by rw [hlen1.out]; exact rest_in hl) (by rw [hlen1.out]; exact hlen) rfl rfl (rest_hi hhi) ?_
       intro h9 tk9 vs9 k9 g9 I9
       obtain ⟨F9, N9⟩ := one_turned k9 (by k_asm) (by k_asm) g9 (by simpa using hne)
       try dsimp only
       skip)
  k_steps
  · dsimp only
    rename IntsAre _ (List.set _ _ _) => I9
    rename News _ _ _ _ => N9
    refine leaveC_of (by k_asm) N9 (hret _ _ _ (keeps_one hg hL N (by k_asm) N9) (N9 _ (.head _)).1 ?_)
    have e1 : k = 1 := one_of hlo hhi (by assumption)
    subst e1
    have e2 : ns.set lo.toNat x = splice ns l (digs n 1 X) := by
      rw [lo_nat hlo, splice_set (lo_in hl), hx, digs_one (by simpa using hX.out)]
    rw [← e2]
    exact I9
  · refine leaveC_of (by k_asm) (by k_asm) (hret _ _ _ (keeps_one hg hL N (by k_asm) (by k_asm)) (by assumption) ?_)
    rename IntsAre _ (splice (splice _ _ _) _ _) => I9
    rw [show l + k / 2 = l + (digs n (k / 2) (X % 2 ^ (k / 2 * n))).length by rw [digs_length], splice_splice (by rw [digs_length, digs_length]; exact rest_in hl), ← digs_append, half_sum k] at I9
    exact I9
theorem inner1_ok (w : World) (p : Program) (loose : List Str) (mean : ExcName → Option Value) (mg mb : Str → Option Value) (n : Nat) (hn : 1 ≤ n ∧ n ≤ 64) : ∀ k, k ≤ 64 → InnerC1 w p loose mean mg mb n k := fun k => by
  induction k using Nat.strongRecOn with
  | ind k ih => exact fun hk => inner1_step w p loose mean mg mb n k hn hk fun j hj => ih j hj (by omega)
end Mine
end
section
open PySem PySem.W PyProof.Rows PySem.Calls PySem.Spec
set_option maxRecDepth 100000
namespace Mine

/-- a def's table of the defs that it makes: empty, or the one inner def's code stands in it -/
inductive TabSt (P : Addr) (ln col : Int) (qual : Str) (o : Obj) (c : Addr) (oc : Obj) : Prop
  | fresh : o = tabObj #[] → c = P → oc = o → TabSt P ln col qual o c oc
  | made (vs : Array Value) (t : Tok) : o = tabObj #[rawInt ln, rawInt col, .ref c] → oc.data = .fields vs → vs[1]? = some (.str qual t) → TabSt P ln col qual o c oc
abbrev Tab1 (o : Obj) (c : Addr) (oc : Obj) : Prop := TabSt 30 32 4 (PySem.Str.ofString "_int2digits" ++ ".<locals>." ++ PySem.Str.ofString "inner") o c oc

theorem turned {h₀ h h' : Heap} {L d : Addr} {m : Str → Option Value} {o o' : Obj} {led led' : Led} (k : Keeps [d] h h') (F : Fr h₀ L h m) (N : News h₀ L h led) (U : Upd d o o' led led') (ho : h'.get? d = some o') :
    Fr h₀ L h' m ∧ News h₀ L h' led' := by
  obtain ⟨pre, post, e1, e2, h1, h2⟩ := U.split
  subst e1; subst e2
  refine ⟨fr_keeps k F N fun b hb => ?_, fun p hp => ?_⟩
  · rw [List.mem_singleton.mp hb]; simp
  · rcases List.mem_append.mp hp with hp | hp
    · exact news_keeps k N p (List.mem_append_left _ hp) fun q => h1 p hp (List.mem_singleton.mp q)
    · rcases List.mem_cons.mp hp with rfl | hp
      · exact ⟨ho, (N (d, o) (by simp)).2⟩
      · exact news_keeps k N p (List.mem_append_right _ (.tail _ hp)) fun q => h2 p hp (List.mem_singleton.mp q)
theorem news_sub {h₀ h : Heap} {L : Addr} {led l : Led} (N : News h₀ L h led) (hs : ∀ p ∈ l, p ∈ led) : News h₀ L h l := fun p hp => N p (hs p hp)

theorem ints_nil {vs : List Value} {ns : List Int} (h : IntsAre vs ns) (e : ns.length = 0) : IntsAre vs [] := by
  rw [List.eq_nil_of_length_eq_zero e] at h; exact h
theorem turnedF {h₀ h h' : Heap} {L d : Addr} {m : Str → Option Value} {o o' : Obj} {led : Led} {g : Obj → Led} (k : Keeps [d] h h') (F : Fr h₀ L h m) (N : News h₀ L h led) (U : UpdF d o led g) (ho : h'.get? d = some o') :
    Fr h₀ L h' m ∧ News h₀ L h' (g o') := by
  obtain ⟨pre, post, e1, e2, h1, h2⟩ := U.split
  subst e1
  rw [e2]
  refine ⟨fr_keeps k F N fun b hb => ?_, fun p hp => ?_⟩
  · rw [List.mem_singleton.mp hb]; simp
  · rcases List.mem_append.mp hp with hp | hp
    · exact news_keeps k N p (List.mem_append_left _ hp) fun q => h1 p hp (List.mem_singleton.mp q)
    · rcases List.mem_cons.mp hp with rfl | hp
      · exact ⟨ho, (N (d, o) (by simp)).2⟩
      · exact news_keeps k N p (List.mem_append_right _ (.tail _ hp)) fun q => h2 p hp (List.mem_singleton.mp q)

theorem inner1_use {w : World} {p : Program} {loose : List Str} {mean : ExcName → Option Value} {mg mb : Str → Option Value} {n k X : Nat} (hn : 1 ≤ n ∧ n ≤ 64) (hk : k ≤ 64) (hk1 : 1 ≤ k) (hX : X < 2 ^ (k * n)) (hX2 : X < 2 ^ 64)
    {dp un : Nat} {gd : Option (List Code)} {cn : Str} {cs : Scope} {a : Addr} {ccd : Value} {cl : List (Str × Addr)} {outer : List Env} {A₀ : Around} {base h₀ : Heap} {L : Addr} {m : Str → Option Value} {s : Shared} {Q E : Value → Shared → Prop}
    {d f c' ca ci cc sz : Nat} {vs : List Value} {ns : List Int} {nm qual : Str} {doc pm ctv : Value} {oc oa oi on : Obj} {vs' : Array Value} {t' tn tx tl tr : Tok} {x lo hi : Int} {led : Led} {g : Obj → Led}
    (B : Below A₀ base outer h₀) (F : Fr h₀ L s.heap m) (X0 : (hd.heap_39 w.params).In h₀) (T : Top p loose mean mg mb h₀) (hcs : cs.kind = .function) (C1 : CodeHd h₀ 34 30) (hroom : dp + k + 1 < recursionLimit) (N : News h₀ L s.heap led)
    (m1 : (f, fnMade nm qual (parsS inner1) (bodyS inner1) (scopeS inner1) [(PySem.Str.ofString "n", cc), (PySem.Str.ofString "inner", ci), (PySem.Str.ofString "a_digits", ca)] doc pm c' ctv) ∈ led)
    (m2 : (c', oc) ∈ led) (m3 : (ca, oa) ∈ led) (m4 : (ci, oi) ∈ led) (m5 : (cc, on) ∈ led) (e1 : oc.data = .fields vs') (e2 : vs'[1]? = some (.str qual t')) (e3 : oa.data = .cell (some (.ref d))) (e4 : oi.data = .cell (some (.ref f))) (e5 : on.data = .cell (some (.int (n : Int) tn)))
    (m6 : (d, listOf vs.toArray sz) ∈ led) (hne : f ≠ d ∧ c' ≠ d ∧ ca ≠ d ∧ ci ≠ d ∧ cc ≠ d) (hI : IntsAre vs ns) (hlen : ns.length = k) (hx : x = (X : Int)) (hlo : lo = 0) (hhi : hi = (k : Int)) (U : UpdF d (listOf vs.toArray sz) led g)
    (hret : ∀ h' tk' vs2, Fr h₀ L h' m → News h₀ L h' (g (listOf vs2.toArray sz)) → IntsAre vs2 (digs n k X) → Q .none { s with heap := h', toks := tk' }) :
    wpAny (model PySem.Challenge.rw_ie0008_01.row.prog w) (ktrTop dp un gd cn cs L a ccd cl outer) (call (.ref f) [.int x tx, .int lo tl, .int hi tr]) Q E s := by
  refine inner1_ok w p loose mean mg mb n hn k hk X 0 hk1 hX hX2 _ _ _ _ _ _ _ _ _ _ _ _ _ _ _ _ _ d f c' ca ci cc sz vs ns nm qual doc pm ctv oc oa oi on vs' t' tn _ _ _ _ _ _ B F X0 T hcs C1 hroom
    (news_sub N (List.forall_mem_cons.mpr ⟨m6, List.forall_mem_cons.mpr ⟨m1, List.forall_mem_cons.mpr ⟨m2, List.forall_mem_cons.mpr ⟨m3, List.forall_mem_cons.mpr ⟨m4, List.forall_mem_cons.mpr ⟨m5, List.forall_mem_nil _⟩⟩⟩⟩⟩⟩)) (by simpa using hne) e1 e2 e3 e4 e5 hI (by omega) (by omega) hx hlo (by rw [hhi]; simp) fun h' tk' vs2 K g' I => ?_
  obtain ⟨F', N'⟩ := turnedF K F N U g'
  rw [splice_all (by rw [digs_length]; exact hlen.symm)] at I
  exact hret h' tk' vs2 F' N' I

local macro_rules | `(tactic| walk_at "call ref") => `(tactic| k_dflt (k_extra "my call"))

set_option maxHeartbeats 8000000 in
theorem i2d_ok (w : World) (p : Program) (loose : List Str) (mean : ExcName → Option Value) (mg mb : Str → Option Value) (X n : Nat) (hn : 1 ≤ n ∧ n ≤ 64) (hX : X < 2 ^ 64)
    (dp un : Nat) (gd : Option (List Code)) (cn : Str) (cs : Scope) (a : Addr) (ccd : Value) (cl : List (Str × Addr)) (outer : List Env) (A₀ : Around) (base h₀ : Heap) (L : Addr) (m : Str → Option Value) (s : Shared) (Q E : Value → Shared → Prop)
    (o1 : Obj) (c1 : Addr) (oc1 : Obj) (x n' : Int) (tx tn : Tok)
    (B : Below A₀ base outer h₀) (F : Fr h₀ L s.heap m) (X0 : (hd.heap_39 w.params).In h₀) (T : Top p loose mean mg mb h₀) (hcs : cs.kind = .function) (C1 : CodeHd h₀ 34 30) (hroom : dp + 70 < recursionLimit)
    (N : News h₀ L s.heap [(30, o1), (c1, oc1)]) (hT : Tab1 o1 c1 oc1) (hx : x = (X : Int)) (hn' : n' = (n : Int))
    (hret : ∀ h' tk' D sz vs2 o1' c1' oc1', Keeps [30] s.heap h' → s.heap.objs.size ≤ D → h'.get? D = some (listOf vs2.toArray sz) → IntsAre vs2 (digs n (cnt X n) X) →
      h'.get? 30 = some o1' → h'.get? c1' = some oc1' → Tab1 o1' c1' oc1' → (c1' = c1 ∨ s.heap.objs.size ≤ c1') → Q (.ref D) { s with heap := h', toks := tk' }) :
    wpAny (model PySem.Challenge.rw_ie0008_01.row.prog w) (ktrTop dp un gd cn cs L a ccd cl outer) (call (.ref 35) [.int x tx, .int n' tn]) Q E s := by
  w_top off
  subst hx; subst hn'
  revert X0; k_fill; intro X0
  have hK := cnt_fdiv (X := X) hn.1
  have hK1 : X ≠ 0 → 1 ≤ cnt X n := cnt_pos hn.1
  have hK0 : X = 0 → cnt X n = 0 := fun h => by rw [h]; exact cnt_zero hn.1
  have hK2 : cnt X n ≤ 64 := Nat.le_trans (cnt_le hn.1) (nb_le hX)
  have hK3 : X < 2 ^ (cnt X n * n) := cnt_lt hn.1
  k_with_none
  k_with "my call" => (
    refine inner1_use hn hK2 (hK1 (by omega)) hK3 hX (by k_asm) (by k_asm) (by k_asm) (by k_asm) rfl (by k_asm) (by ktr_room) (by k_asm) (by k_mem) (by k_mem) (by k_mem) (by k_mem) (by k_mem) (by assumption) (by assumption) (by assumption) (by assumption) (by assumption) (by k_mem) (by omega) (by assumption) (rep_len hK (by assumption) (by assumption)) rfl rfl (rep_num hK (by assumption)) (by k_updF) ?_
    intro h9 tk9 vs9 F9 N9 I9
    try dsimp only at N9)
  rcases hT with ⟨he, hc, ho⟩ | ⟨vs0, t0, he, hd0, hv0⟩
  · subst he; subst hc; subst ho
    have N := news_sub N (l := [(30, tabObj #[])]) (fun p hp => by simp at hp ⊢; simp [hp])
    refine wpAny_call ?_
    k_dflt (
      refine' enterC ?k1 ?k2 ?k4 ?k5 ?kA ?kF ?kK ?ho ?hd ?k7 ?k8 ?k9 ?kB ?kD ?c2 ?c3 ?c4 ?_
      case ho => exact (Frag.In.keeps X0 F.keep) 35 _ (by k_is)
      case hd => exact rfl
      case kA => exact rfl
      case kF => exact rfl
      case kK => assumption
      case k1 => k_asm
      case k2 => k_asm
      case k4 => exact N
      case k5 => exact Top.nolimit (by k_asm)
      case k7 => exact codeRec_of (Frag.In.keeps X0 F.keep) (by k_is)
      case k8 => ktr_room
      case k9 => exact BindsTo.of_eq rfl
      case kB => exact rfl
      case kD => decide +kernel
      case c2 => exact rfl
      case c3 => exact rfl
      case c4 => exact rfl)
    intro g' L' h' tk' cells' hg hL st F' N' Y' lN B'
    have X' := X0.keeps st
    have T' := T.keeps st
    have C1' := C1.keeps st
    clear X0 T C1 B st
    k_lt lN
    k_cells Y'
    (try simp only [List.cons_append, List.nil_append] at N')
    (try dsimp only)
    (try k_fold)
    k_steps
    · dsimp only
      refine leaveC_of (by k_asm) (by k_asm) ?_
      rename News _ _ _ _ => N9
      rename Fr _ _ _ _ => F9
      rename ((_ : Array Value)[1]? = some _) => hv9
      rename _ = Data.fields _ => hd9
      refine hret _ _ _ _ _ _ _ _ (keeps_end hg hL N F9 ?k) ?D (N9 (_, listOf _ _) (by k_mem)).1 ?I (N9 (30, _) (by k_mem)).1 (N9 (_, _) (by k_mem)).1 (.made _ _ ?e hd9 hv9) (.inr ?c)
      case k => intro p hp hs; rw [List.mem_singleton.mp hp] at hs; exact absurd (List.mem_singleton.mpr rfl) hs
      case D => omega
      case e => exact rfl
      case c => omega
      case I => assumption
    · dsimp only
      refine leaveC_of (by k_asm) (by k_asm) ?_
      rename News _ _ _ _ => N9
      rename Fr _ _ _ _ => F9
      rename ((_ : Array Value)[1]? = some _) => hv9
      rename _ = Data.fields _ => hd9
      refine hret _ _ _ _ _ _ _ _ (keeps_end hg hL N F9 ?k) ?D (N9 (_, listOf _ _) (by k_mem)).1 ?I (N9 (30, _) (by k_mem)).1 (N9 (_, _) (by k_mem)).1 (.made _ _ ?e hd9 hv9) (.inr ?c)
      case k => intro p hp hs; rw [List.mem_singleton.mp hp] at hs; exact absurd (List.mem_singleton.mpr rfl) hs
      case D => omega
      case e => exact rfl
      case c => omega
      case I => 
        rw [show digs n (cnt X n) X = [] from by rw [show X = 0 by omega, cnt_zero hn.1]; rfl]
        exact ints_nil (by assumption) ((rep_len hK (by assumption) (by assumption)).trans (hK0 (by omega)))
  · subst he
    refine wpAny_call ?_
    k_dflt (
      refine' enterC ?k1 ?k2 ?k4 ?k5 ?kA ?kF ?kK ?ho ?hd ?k7 ?k8 ?k9 ?kB ?kD ?c2 ?c3 ?c4 ?_
      case ho => exact (Frag.In.keeps X0 F.keep) 35 _ (by k_is)
      case hd => exact rfl
      case kA => exact rfl
      case kF => exact rfl
      case kK => assumption
      case k1 => k_asm
      case k2 => k_asm
      case k4 => exact N
      case k5 => exact Top.nolimit (by k_asm)
      case k7 => exact codeRec_of (Frag.In.keeps X0 F.keep) (by k_is)
      case k8 => ktr_room
      case k9 => exact BindsTo.of_eq rfl
      case kB => exact rfl
      case kD => decide +kernel
      case c2 => exact rfl
      case c3 => exact rfl
      case c4 => exact rfl)
    intro g' L' h' tk' cells' hg hL st F' N' Y' lN B'
    have X' := X0.keeps st
    have T' := T.keeps st
    have C1' := C1.keeps st
    clear X0 T C1 B st
    k_lt lN
    k_cells Y'
    (try simp only [List.cons_append, List.nil_append] at N')
    (try dsimp only)
    (try k_fold)
    k_steps
    · dsimp only
      refine leaveC_of (by k_asm) (by k_asm) ?_
      rename News _ _ _ _ => N9
      rename Fr _ _ _ _ => F9
      refine hret _ _ _ _ _ _ _ _ (keeps_end hg hL N F9 ?k) ?D (N9 (_, listOf _ _) (by k_mem)).1 ?I (N9 (30, _) (by k_mem)).1 (N9 (c1, oc1) (by k_mem)).1 (.made _ _ rfl hd0 hv0) (.inl rfl)
      case k =>
        intro p hp hs
        rcases List.mem_cons.mp hp with rfl | hp
        · exact absurd (List.mem_singleton.mpr rfl) hs
        · rw [List.mem_singleton.mp hp]; exact (N9 (c1, oc1) (by k_mem)).1
      case D => omega
      case I => assumption
    · dsimp only
      refine leaveC_of (by k_asm) (by k_asm) ?_
      rename News _ _ _ _ => N9
      rename Fr _ _ _ _ => F9
      refine hret _ _ _ _ _ _ _ _ (keeps_end hg hL N F9 ?k) ?D (N9 (_, listOf _ _) (by k_mem)).1 ?I (N9 (30, _) (by k_mem)).1 (N9 (c1, oc1) (by k_mem)).1 (.made _ _ rfl hd0 hv0) (.inl rfl)
      case k =>
        intro p hp hs
        rcases List.mem_cons.mp hp with rfl | hp
        · exact absurd (List.mem_singleton.mpr rfl) hs
        · rw [List.mem_singleton.mp hp]; exact (N9 (c1, oc1) (by k_mem)).1
      case D => omega
      case I => 
        rw [show digs n (cnt X n) X = [] from by rw [show X = 0 by omega, cnt_zero hn.1]; rfl]
        exact ints_nil (by assumption) ((rep_len hK (by assumption) (by assumption)).trans (hK0 (by omega)))
end Mine
end
section
open PySem PySem.W PyProof.Rows PySem.Calls PySem.Spec
set_option maxRecDepth 100000
namespace Mine

theorem kept {h₀ h h' : Heap} {L : Addr} {m : Str → Option Value} {led : Led} (k : Keeps [] h h') (F : Fr h₀ L h m) (N : News h₀ L h led) : Fr h₀ L h' m ∧ News h₀ L h' led :=
  ⟨fr_keeps k F N (fun b hb => nomatch hb), fun p hp => news_keeps k N p hp (fun h => nomatch h)⟩
theorem keeps_none {h₀ h g h' : Heap} {L L' : Addr} {m' : Str → Option Value} {led : Led} (hg : ∀ b o₁, h.get? b = some o₁ → b ∉ List.map (fun x => x.1) led → g.get? b = some o₁) (hL : h.objs.size ≤ L') (N : News h₀ L h led) (F' : Fr g L' h' m')
    (N' : News g L' h' led) : Keeps [] h h' := keeps_end hg hL N F' fun p hp _ => (N' p hp).1

def InnerC2 (w : World) (p : Program) (loose : List Str) (mean : ExcName → Option Value) (mg mb : Str → Option Value) (n k : Nat) : Prop :=
  ∀ (l : Nat), 1 ≤ k →
  ∀ (dp un : Nat) (gd : Option (List Code)) (cn : Str) (cs : Scope) (a : Addr) (ccd : Value) (cl : List (Str × Addr)) (outer : List Env) (A₀ : Around) (base h₀ : Heap) (L : Addr) (m : Str → Option Value) (s : Shared) (Q E : Value → Shared → Prop)
    (d f c' ca ci cc sz : Nat) (vs : List Value) (ns : List Int) (nm qual : Str) (doc pm ctv : Value) (oc oa oi on : Obj) (vs' : Array Value) (t' tn tl tr : Tok) (lo hi : Int),
    Below A₀ base outer h₀ → Fr h₀ L s.heap m → (hd.heap_39 w.params).In h₀ → Top p loose mean mg mb h₀ → cs.kind = .function → CodeHd h₀ 34 30 → dp + k + 1 < recursionLimit →
    News h₀ L s.heap [(d, listOf vs.toArray sz), (f, fnMade nm qual (parsS inner2) (bodyS inner2) (scopeS inner2) [(PySem.Str.ofString "n", cc), (PySem.Str.ofString "inner", ci), (PySem.Str.ofString "digits", ca)] doc pm c' ctv), (c', oc), (ca, oa), (ci, oi), (cc, on)] →
    oc.data = .fields vs' → vs'[1]? = some (.str qual t') → oa.data = .cell (some (.ref d)) → oi.data = .cell (some (.ref f)) → on.data = .cell (some (.int (n : Int) tn)) →
    IntsAre vs ns → l + k ≤ ns.length → ns.length ≤ 64 → (∀ d ∈ ns, 0 ≤ d ∧ d < 2 ^ n) → ns.length * n ≤ 64 → lo = (l : Int) → hi = ((l + k : Nat) : Int) →
    (∀ h' tk' t, Keeps [] s.heap h' → Q (.int (undig n (seg ns l k)) t) { s with heap := h', toks := tk' }) →
    wpAny (model PySem.Challenge.rw_ie0008_01.row.prog w) (ktrTop dp un gd cn cs L a ccd cl outer) (call (.ref f) [.int lo tl, .int hi tr]) Q E s

section
local macro_rules | `(tactic| walk_at "binaryOp RShift int int") => `(tactic| (with_reducible refine rsh_to (by first | exact Ap.out (by assumption) | decide) (Ap.out (by assumption)) ?_))
local macro_rules | `(tactic| walk_at "binaryOp LShift int int") => `(tactic| (with_reducible refine lsh_to (Ap.out (by assumption)) rfl ?_))
local macro_rules | `(tactic| walk_at "binaryOp Mult int int") => `(tactic| (with_reducible refine mul_to (Ap.out (by assumption)) (Ap.out (by assumption)) ?_))
local macro_rules | `(tactic| walk_at "call ref") => `(tactic| k_dflt (k_extra "my call"))

set_option maxHeartbeats 8000000 in
theorem inner2_step (w : World) (p : Program) (loose : List Str) (mean : ExcName → Option Value) (mg mb : Str → Option Value) (n k : Nat) (hn : 1 ≤ n ∧ n ≤ 64) (hk : k ≤ 64) (ih : ∀ j, j < k → InnerC2 w p loose mean mg mb n j) : InnerC2 w p loose mean mg mb n k := by
  w_top off
  intro l hk1 dp un gd cn cs a ccd cl outer A₀ base h₀ L m s Q E d f c' ca ci cc sz vs ns nm qual doc pm ctv oc oa oi on vs' t' tn tl tr lo hi B F X0 T hcs C1 hroom N hoc hqn hoa hoi hon hI hl hlen hdg hsz hlo hhi hret
  revert X0; k_fill; intro X0
  dsimp only [inner2, PySem.Challenge.pw_ie0008_01, nthS, bodyS, parsS, scopeS] at N
  have hmid : (lo + hi).fdiv (2 ^ Int.toNat 1) = ((l + k / 2 : Nat) : Int) := by
    rw [hlo, hhi, ← Int.natCast_add, show Int.toNat 1 = 1 from rfl, fdiv_pow]
    exact mid_cast l k
  have hsh : (((l + k / 2 : Nat) : Int) - lo) * (n : Int) = ((k / 2 * n : Nat) : Int) := by
    rw [hlo, mid_low l k, Int.natCast_mul]
  have h0 : 0 ≤ ((k / 2 * n : Nat) : Int) := Int.natCast_nonneg _
  have hlb : 0 ≤ ((k / 2 * n : Nat) : Int) ∧ ((k / 2 * n : Nat) : Int) ≤ 1000000 ∧ (undig n (seg ns (l + k / 2) (k - k / 2))).natAbs < 2 ^ 64 := by
    have h1 : k / 2 * n ≤ 32 * 64 := Nat.mul_le_mul (half_le hk) hn.2
    refine ⟨h0, mul_mill h1, undig_small (fun d hd => hdg d (seg_mem hd)) ?_⟩
    rw [seg_length (rest_in hl)]
    exact Nat.le_trans (Nat.mul_le_mul_right n (rest_le hl)) hsz
  replace hmid := Ap.mk hmid
  replace hsh := Ap.mk hsh
  replace h0 := Ap.mk h0
  replace hlb := Ap.mk hlb
  replace hsz := Ap.mk hsz
  have hnb := Ap.mk (abs64 hn.2)
  replace hn := Ap.mk hn
  refine wpAny_call ?_
  k_dflt (
    refine' enterX ?k1 ?k2 ?k4 ?k5 ?kA ?kF ?kK ?ho ?hd ?k7 ?k8 ?k9 ?kB ?kD ?c2 ?c3 ?c4 ?_ 
    case ho => exact (N _ (List.mem_cons_of_mem _ (List.mem_cons_self ..))).1
    case hd => exact rfl
    case kA => exact rfl
    case kF => exact rfl
    case kK => assumption
    case k1 => k_asm
    case k2 => k_asm
    case k4 => exact N
    case k5 => exact Top.nolimit (by k_asm)
    case k7 => exact codeRec_news N (by k_mem) hoc hqn
    case k8 => ktr_room
    case k9 => exact BindsTo.of_eq rfl
    case kB => exact locs rfl
    case kD => decide
    case c2 => exact rfl
    case c3 => exact rfl
    case c4 => exact rfl)
  intro g' L' h' hg hL st F' N' lN B'
  have X' := X0.keeps st
  have T' := T.keeps st
  have C1' := C1.keeps st
  clear X0 T C1 B st
  k_lt lN
  (try dsimp only)
  (try k_fold)
  k_with_none
  k_with "my call" => first
    | (have hk2 := Ap.mk (two_of hlo hhi hk1 (by assumption))
       refine ih (k - k / 2) (rest_lt hk2.out) (l + k / 2) (rest_pos hk1) _ _ _ _ _ _ _ _ _ _ _ _ _ _ _ _ _ d f c' ca ci cc sz _ _ nm qual doc pm ctv oc oa oi on vs' t' tn _ _ _ _ (by k_asm) (by k_asm) (by k_asm) (by k_asm) rfl (by k_asm) (room_rest hroom hk2.out) (by k_asm) hoc hqn hoa hoi hon hI (rest_in hl) hlen hdg hsz.out rfl (rest_hi hhi) ?_
       intro h9 tk9 t9 k9
       obtain ⟨F9, N9⟩ := kept k9 (by k_asm) (by k_asm)
       try dsimp only
       skip)
    | (have hk2 := Ap.mk (two_of hlo hhi hk1 (by assumption))
       refine ih (k / 2) (half_lt hk1) l (half_pos hk2.out) _ _ _ _ _ _ _ _ _ _ _ _ _ _ _ _ _ d f c' ca ci cc sz _ _ nm qual doc pm ctv oc oa oi on vs' t' tn _ _ _ _ (by k_asm) (by k_asm) (by k_asm) (by k_asm) rfl (by k_asm) (room_half hroom hk2.out) (by k_asm) hoc hqn hoa hoi hon hI (half_in hl) hlen hdg hsz.out hlo rfl ?_
       intro h9 tk9 t9 k9
       obtain ⟨F9, N9⟩ := kept k9 (by k_asm) (by k_asm)
       try dsimp only
       skip)
  k_steps
  · dsimp only
    rename News _ _ _ _ => N9
    have e1 : k = 1 := one_of hlo hhi (by assumption)
    subst e1
    have e2 : undig n (seg ns l 1) = ns.getD lo.toNat 0 := by
      rw [seg_one (lo_in hl), undig, undig, Int.mul_zero, Int.add_zero, lo_nat hlo]
    rw [← e2]
    exact leaveC_of (by k_asm) N9 (hret _ _ _ (keeps_none hg hL N (by k_asm) N9))
  · dsimp only
    rename News _ _ _ _ => N9
    have e2 : undig n (seg ns (l + k / 2) (k - k / 2)) * 2 ^ (((k / 2 * n : Nat) : Int)).toNat + undig n (seg ns l (k / 2)) = undig n (seg ns l k) := by
      rw [(half_sum k).symm, ← seg_append, undig_append, seg_length (half_in hl), Int.toNat_natCast, half_sum k, Int.mul_comm, Int.add_comm]
    rw [e2]
    exact leaveC_of (by k_asm) N9 (hret _ _ _ (keeps_none hg hL N (by k_asm) N9))
theorem inner2_ok (w : World) (p : Program) (loose : List Str) (mean : ExcName → Option Value) (mg mb : Str → Option Value) (n : Nat) (hn : 1 ≤ n ∧ n ≤ 64) : ∀ k, k ≤ 64 → InnerC2 w p loose mean mg mb n k := fun k => by
  induction k using Nat.strongRecOn with
  | ind k ih => exact fun hk => inner2_step w p loose mean mg mb n k hn hk fun j hj => ih j hj (by omega)
end
end Mine
end
section
open PySem PySem.W PyProof.Rows PySem.Calls PySem.Spec
set_option maxRecDepth 100000
namespace Mine
abbrev Tab2 (o : Obj) (c : Addr) (oc : Obj) : Prop := TabSt 37 47 4 (PySem.Str.ofString "_digits2int" ++ ".<locals>." ++ PySem.Str.ofString "inner") o c oc

theorem inner2_use {w : World} {p : Program} {loose : List Str} {mean : ExcName → Option Value} {mg mb : Str → Option Value} {n k : Nat} (hn : 1 ≤ n ∧ n ≤ 64) (hk : k ≤ 64) (hk1 : 1 ≤ k)
    {dp un : Nat} {gd : Option (List Code)} {cn : Str} {cs : Scope} {a : Addr} {ccd : Value} {cl : List (Str × Addr)} {outer : List Env} {A₀ : Around} {base h₀ : Heap} {L : Addr} {m : Str → Option Value} {s : Shared} {Q E : Value → Shared → Prop}
    {d f c' ca ci cc sz : Nat} {vs : List Value} {ns : List Int} {nm qual : Str} {doc pm ctv : Value} {oc oa oi on : Obj} {vs' : Array Value} {t' tn tl tr : Tok} {lo hi : Int} {led : Led}
    (B : Below A₀ base outer h₀) (F : Fr h₀ L s.heap m) (X0 : (hd.heap_39 w.params).In h₀) (T : Top p loose mean mg mb h₀) (hcs : cs.kind = .function) (C1 : CodeHd h₀ 34 30) (hroom : dp + k + 1 < recursionLimit) (N : News h₀ L s.heap led)
    (m1 : (f, fnMade nm qual (parsS inner2) (bodyS inner2) (scopeS inner2) [(PySem.Str.ofString "n", cc), (PySem.Str.ofString "inner", ci), (PySem.Str.ofString "digits", ca)] doc pm c' ctv) ∈ led)
    (m2 : (c', oc) ∈ led) (m3 : (ca, oa) ∈ led) (m4 : (ci, oi) ∈ led) (m5 : (cc, on) ∈ led) (e1 : oc.data = .fields vs') (e2 : vs'[1]? = some (.str qual t')) (e3 : oa.data = .cell (some (.ref d))) (e4 : oi.data = .cell (some (.ref f))) (e5 : on.data = .cell (some (.int (n : Int) tn)))
    (m6 : (d, listOf vs.toArray sz) ∈ led) (hI : IntsAre vs ns) (hlen : ns.length = k) (hdg : ∀ d ∈ ns, 0 ≤ d ∧ d < 2 ^ n) (hsz : ns.length * n ≤ 64) (hlo : lo = 0) (hhi : hi = (k : Int))
    (hret : ∀ h' tk' t, Fr h₀ L h' m → News h₀ L h' led → Q (.int (undig n ns) t) { s with heap := h', toks := tk' }) :
    wpAny (model PySem.Challenge.rw_ie0008_01.row.prog w) (ktrTop dp un gd cn cs L a ccd cl outer) (call (.ref f) [.int lo tl, .int hi tr]) Q E s := by
  refine inner2_ok w p loose mean mg mb n hn k hk 0 hk1 _ _ _ _ _ _ _ _ _ _ _ _ _ _ _ _ _ d f c' ca ci cc sz vs ns nm qual doc pm ctv oc oa oi on vs' t' tn _ _ _ _ B F X0 T hcs C1 hroom
    (news_sub N (List.forall_mem_cons.mpr ⟨m6, List.forall_mem_cons.mpr ⟨m1, List.forall_mem_cons.mpr ⟨m2, List.forall_mem_cons.mpr ⟨m3, List.forall_mem_cons.mpr ⟨m4, List.forall_mem_cons.mpr ⟨m5, List.forall_mem_nil _⟩⟩⟩⟩⟩⟩)) e1 e2 e3 e4 e5 hI (by omega) (by omega) hdg hsz hlo (by rw [hhi]; simp) fun h' tk' t K => ?_
  obtain ⟨F', N'⟩ := kept K F N
  rw [← hlen, seg_all]
  exact hret h' tk' t F' N'

local macro_rules | `(tactic| walk_at "call ref") => `(tactic| k_dflt (k_extra "my call"))

set_option maxHeartbeats 8000000 in
theorem d2i_ok (w : World) (p : Program) (loose : List Str) (mean : ExcName → Option Value) (mg mb : Str → Option Value) (n : Nat) (hn : 1 ≤ n ∧ n ≤ 64)
    (dp un : Nat) (gd : Option (List Code)) (cn : Str) (cs : Scope) (a : Addr) (ccd : Value) (cl : List (Str × Addr)) (outer : List Env) (A₀ : Around) (base h₀ : Heap) (L : Addr) (m : Str → Option Value) (s : Shared) (Q E : Value → Shared → Prop)
    (o2 : Obj) (c2 : Addr) (oc2 : Obj) (d sz : Nat) (vs : List Value) (ns : List Int) (n' : Int) (tn : Tok)
    (B : Below A₀ base outer h₀) (F : Fr h₀ L s.heap m) (X0 : (hd.heap_39 w.params).In h₀) (T : Top p loose mean mg mb h₀) (hcs : cs.kind = .function) (C1 : CodeHd h₀ 34 30) (C2 : CodeHd h₀ 41 37) (hroom : dp + 70 < recursionLimit)
    (N : News h₀ L s.heap [(37, o2), (c2, oc2), (d, listOf vs.toArray sz)]) (hT : Tab2 o2 c2 oc2) (hd37 : d ≠ 37) (hn' : n' = (n : Int)) (hI : IntsAre vs ns) (hlen : ns.length ≤ 64) (hdg : ∀ d ∈ ns, 0 ≤ d ∧ d < 2 ^ n) (hsz : ns.length * n ≤ 64)
    (hret : ∀ h' tk' t o2' c2' oc2', Keeps [37] s.heap h' → h'.get? 37 = some o2' → h'.get? c2' = some oc2' → Tab2 o2' c2' oc2' → (c2' = c2 ∨ s.heap.objs.size ≤ c2') → Q (.int (undig n ns) t) { s with heap := h', toks := tk' }) :
    wpAny (model PySem.Challenge.rw_ie0008_01.row.prog w) (ktrTop dp un gd cn cs L a ccd cl outer) (call (.ref 42) [.ref d, .int n' tn]) Q E s := by
  w_top off
  subst hn'
  revert X0; k_fill; intro X0
  have hl2 : vs.length = ns.length := hI.length
  k_with_none
  k_with "my call" => (
    refine inner2_use hn hlen (by omega) (by k_asm) (by k_asm) (by k_asm) (by k_asm) rfl (by k_asm) (by ktr_room) (by k_asm) (by k_mem) (by k_mem) (by k_mem) (by k_mem) (by k_mem) (by assumption) (by assumption) (by assumption) (by assumption) (by assumption) (by k_mem) hI rfl hdg hsz rfl (by omega) ?_
    intro h9 tk9 t9 F9 N9
    try dsimp only at N9)
  rcases hT with ⟨he, hc, ho⟩ | ⟨vs0, t0, he, hd0, hv0⟩
  · subst he; subst hc; subst ho
    have N := news_sub N (l := [(37, tabObj #[]), (d, listOf vs.toArray sz)]) (fun p hp => by simp at hp ⊢; rcases hp with h | h <;> simp [h])
    refine wpAny_call ?_
    k_dflt (
      refine' enterC ?k1 ?k2 ?k4 ?k5 ?kA ?kF ?kK ?ho ?hd ?k7 ?k8 ?k9 ?kB ?kD ?c2 ?c3 ?c4 ?_
      case ho => exact (Frag.In.keeps X0 F.keep) 42 _ (by k_is)
      case hd => exact rfl
      case kA => exact rfl
      case kF => exact rfl
      case kK => assumption
      case k1 => k_asm
      case k2 => k_asm
      case k4 => exact N
      case k5 => exact Top.nolimit (by k_asm)
      case k7 => exact codeRec_of (Frag.In.keeps X0 F.keep) (by k_is)
      case k8 => ktr_room
      case k9 => exact BindsTo.of_eq rfl
      case kB => exact rfl
      case kD => decide +kernel
      case c2 => exact rfl
      case c3 => exact rfl
      case c4 => exact rfl)
    intro g' L' h' tk' cells' hg hL st F' N' Y' lN B'
    have X' := X0.keeps st
    have T' := T.keeps st
    have C1' := C1.keeps st
    have C2' := C2.keeps st
    clear X0 T C1 C2 B st
    k_lt lN
    k_cells Y'
    (try simp only [List.cons_append, List.nil_append] at N')
    (try dsimp only)
    (try k_fold)
    k_steps
    · dsimp only
      refine leaveC_of (by k_asm) (by k_asm) ?_
      rename News _ _ _ _ => N9
      rename Fr _ _ _ _ => F9
      rename ((_ : Array Value)[1]? = some _) => hv9
      rename _ = Data.fields _ => hd9
      refine hret _ _ _ _ _ _ (keeps_end hg hL N F9 ?k) (N9 (37, _) (by k_mem)).1 (N9 (_, _) (by k_mem)).1 (.made _ _ ?e hd9 hv9) (.inr ?c)
      case k =>
        intro p hp hs
        rcases List.mem_cons.mp hp with rfl | hp
        · exact absurd (List.mem_singleton.mpr rfl) hs
        · rw [List.mem_singleton.mp hp]; exact (N9 (d, _) (by k_mem)).1
      case e => exact rfl
      case c => omega
    · dsimp only
      refine leaveC_of (by k_asm) (by k_asm) ?_
      rename News _ _ _ _ => N9
      rename Fr _ _ _ _ => F9
      rename ((_ : Array Value)[1]? = some _) => hv9
      rename _ = Data.fields _ => hd9
      rw [show (0 : Int) = undig n ns from by rw [List.eq_nil_of_length_eq_zero (show ns.length = 0 by omega)]; rfl]
      refine hret _ _ _ _ _ _ (keeps_end hg hL N F9 ?k) (N9 (37, _) (by k_mem)).1 (N9 (_, _) (by k_mem)).1 (.made _ _ ?e hd9 hv9) (.inr ?c)
      case k =>
        intro p hp hs
        rcases List.mem_cons.mp hp with rfl | hp
        · exact absurd (List.mem_singleton.mpr rfl) hs
        · rw [List.mem_singleton.mp hp]; exact (N9 (d, _) (by k_mem)).1
      case e => exact rfl
      case c => omega
  · subst he
    refine wpAny_call ?_
    k_dflt (
      refine' enterC ?k1 ?k2 ?k4 ?k5 ?kA ?kF ?kK ?ho ?hd ?k7 ?k8 ?k9 ?kB ?kD ?c2 ?c3 ?c4 ?_
      case ho => exact (Frag.In.keeps X0 F.keep) 42 _ (by k_is)
      case hd => exact rfl
      case kA => exact rfl
      case kF => exact rfl
      case kK => assumption
      case k1 => k_asm
      case k2 => k_asm
      case k4 => exact N
      case k5 => exact Top.nolimit (by k_asm)
      case k7 => exact codeRec_of (Frag.In.keeps X0 F.keep) (by k_is)
      case k8 => ktr_room
      case k9 => exact BindsTo.of_eq rfl
      case kB => exact rfl
      case kD => decide +kernel
      case c2 => exact rfl
      case c3 => exact rfl
      case c4 => exact rfl)
    intro g' L' h' tk' cells' hg hL st F' N' Y' lN B'
    have X' := X0.keeps st
    have T' := T.keeps st
    have C1' := C1.keeps st
    have C2' := C2.keeps st
    clear X0 T C1 C2 B st
    k_lt lN
    k_cells Y'
    (try simp only [List.cons_append, List.nil_append] at N')
    (try dsimp only)
    (try k_fold)
    k_steps
    · dsimp only
      refine leaveC_of (by k_asm) (by k_asm) ?_
      rename News _ _ _ _ => N9
      rename Fr _ _ _ _ => F9
      refine hret _ _ _ _ _ _ (keeps_end hg hL N F9 ?k) (N9 (37, _) (by k_mem)).1 (N9 (c2, oc2) (by k_mem)).1 (.made _ _ rfl hd0 hv0) (.inl rfl)
      case k =>
        intro p hp hs
        rcases List.mem_cons.mp hp with rfl | hp
        · exact absurd (List.mem_singleton.mpr rfl) hs
        · rcases List.mem_cons.mp hp with rfl | hp
          · exact (N9 (c2, oc2) (by k_mem)).1
          · rw [List.mem_singleton.mp hp]; exact (N9 (d, _) (by k_mem)).1
    · dsimp only
      refine leaveC_of (by k_asm) (by k_asm) ?_
      rename News _ _ _ _ => N9
      rename Fr _ _ _ _ => F9
      rw [show (0 : Int) = undig n ns from by rw [List.eq_nil_of_length_eq_zero (show ns.length = 0 by omega)]; rfl]
      refine hret _ _ _ _ _ _ (keeps_end hg hL N F9 ?k) (N9 (37, _) (by k_mem)).1 (N9 (c2, oc2) (by k_mem)).1 (.made _ _ rfl hd0 hv0) (.inl rfl)
      case k =>
        intro p hp hs
        rcases List.mem_cons.mp hp with rfl | hp
        · exact absurd (List.mem_singleton.mpr rfl) hs
        · rcases List.mem_cons.mp hp with rfl | hp
          · exact (N9 (c2, oc2) (by k_mem)).1
          · rw [List.mem_singleton.mp hp]; exact (N9 (d, _) (by k_mem)).1
end Mine
end
section
open PySem PySem.W PyProof.Rows PySem.Calls PySem.Spec
set_option maxRecDepth 100000
namespace Mine

/-- a turn's end: the names ps hold, what is not stored stands, the ledger is that of the new state -/
def TEnd {σ : Type} (Ld : σ → Led) (ps : σ → List (Str × Value)) (stored : List Str) (x : Str) (m₀ : Str → Option Value) (P : σ → Prop) (h₀ : Heap) (L I : Addr) (it : Obj) (s₁ s₂ : Shared) : Prop :=
  ∃ h' tk m' c, s₂ = { s₁ with heap := h', toks := tk } ∧ Fr h₀ L h' m' ∧ News h₀ L h' ((I, it) :: Ld c) ∧ (∀ p ∈ Ld c, p.1 ≠ I) ∧ (∀ p ∈ ps c, m' p.1 = some p.2) ∧ (∀ z, z ≠ x → (∀ p ∈ ps c, z ≠ p.1) → stored.contains z = false → m' z = m₀ z) ∧ P c
def TPost {σ : Type} (Ld : σ → Led) (ps : σ → List (Str × Value)) (stored : List Str) (x : Str) (m₀ : Str → Option Value) (P : σ → Prop) (h₀ : Heap) (L I : Addr) (it : Obj) (s₁ : Shared) (Q : Flow → Shared → Prop) (f : Flow) (s₂ : Shared) : Prop :=
  match f with
  | .ret v => Q (.ret v) s₂
  | .brk => Q .next s₂
  | _ => TEnd Ld ps stored x m₀ P h₀ L I it s₁ s₂

section
variable {prog : Program} {w : World} {A : Around} {E : Value → Shared → Prop} {s : Shared} {env : Env} {h₀ : Heap} {x : Str} {body : List Stmt} {Q : Flow → Shared → Prop} {σ : Type}

theorem loop_core (Ld : σ → Led) (ps : σ → List (Str × Value)) (stored : List Str) (P : Nat → σ → Prop) (c₀ : σ)
    {I : Addr} {fp : List Addr} {n : Nat} {Pv : Nat → Value → Prop} {St : Nat → Heap → Prop} {m₀ : Str → Option Value} {lp : Led}
    (W : Walks prog w A I fp [I] n Pv St) (hfp : ∀ b ∈ fp, b = I ∨ ∃ o, (b, o) ∈ lp) (hlp : ∀ c, ∀ p ∈ lp, p ∈ Ld c) (hI0 : h₀.get? I = none) (hIL : I ≠ env.locals) (hob : ∀ i h, St i h → ∃ o, h.get? I = some o)
    (hst : St 0 s.heap) (F : Fr h₀ env.locals s.heap m₀) (N : News h₀ env.locals s.heap (Ld c₀)) (hoff : ∀ p ∈ Ld c₀, p.1 ≠ I) (hps : ∀ p ∈ ps c₀, m₀ p.1 = some p.2) (hP : P 0 c₀)
    (turn : ∀ i v c (u : Str → Option Value) it h tk, i < n → Pv i v → P i c → (∀ p ∈ Ld c, p.1 ≠ I) →
      Fr h₀ env.locals h (fun y => if y = x then some v else kstB (fun z => if stored.contains z then u z else m₀ z) (ps c) y) → News h₀ env.locals h ((I, it) :: Ld c) →
      wpAny (model prog w) A (execs body env) (TPost Ld ps stored x m₀ (P (i + 1)) h₀ env.locals I it { s with heap := h, toks := tk } Q) E { s with heap := h, toks := tk })
    (done : ∀ c (u : Str → Option Value) h tk, P n c → (∀ p ∈ Ld c, p.1 ≠ I) → Fr h₀ env.locals h (fun y => if y = x then u y else kstB (fun z => if stored.contains z then u z else m₀ z) (ps c) y) → News h₀ env.locals h (Ld c) → Q .next { s with heap := h, toks := tk }) :
    LoopAtV prog w A h₀ env x body Q E (.ref I) s := by
  let J : Nat → (Str → Option Value) → Led → Prop := fun i m nx => ∃ c, nx = Ld c ∧ (∀ p ∈ ps c, m p.1 = some p.2) ∧ (∀ z, z ≠ x → (∀ p ∈ ps c, z ≠ p.1) → stored.contains z = false → m z = m₀ z) ∧ P i c
  refine ⟨I, fp, [I], n, Pv, St, m₀, Ld c₀, J, rfl, W, ?_, ?_, ?_, hst, F, N, ⟨c₀, rfl, hps, fun _ _ _ _ => rfl, hP⟩, ?_, ?_⟩
  · intro hm
    rcases hfp _ hm with h | ⟨o, h⟩
    · exact hIL h.symm
    · exact (N _ (hlp c₀ _ h)).2.1 rfl
  · intro b hb
    rw [List.mem_singleton.mp hb]; exact hI0
  · intro p hp hm
    exact hoff p hp (List.mem_singleton.mp hm)
  · rintro i v m₁ news₁ s₁ own ⟨hh', tk', rfl⟩ hin hPv ⟨c, rfl, h1, h2, hPc⟩ hoff' hown hget hall hst' F₁ N₁
    have hoffI : ∀ p ∈ Ld c, p.1 ≠ I := fun p hp e => hoff' p hp (List.mem_singleton.mpr e)
    obtain ⟨it, hit⟩ := hob _ _ hst'
    have hmI := hall I (W.sub I (List.mem_singleton.mpr rfl)) hI0 it hit
    have N₂ : News h₀ env.locals hh' ((I, it) :: Ld c) := fun p hp => by
      rcases List.mem_cons.mp hp with rfl | hp
      · exact N₁ _ (List.mem_append_left _ hmI)
      · exact N₁ _ (List.mem_append_right _ hp)
    refine wpAny_mono (turn i v c m₁ it hh' tk' hin hPv hPc hoffI (kst_fr h1 h2 F₁) N₂) (fun f s₂ p => ?_) fun _ _ e => e
    have fin : TEnd Ld ps stored x m₀ (P (i + 1)) h₀ env.locals I it { s with heap := hh', toks := tk' } s₂ → LoopStepU h₀ env.locals [I] own (J (i + 1)) { s with heap := hh', toks := tk' } .next s₂ := by
      rintro ⟨h', tk, m', c', e, F', N', ho, q1, q2, q3⟩
      refine ⟨rfl, h', tk, m', Ld c', e, F', fun p hp => ?_, fun p hp hq => ho p hp (List.mem_singleton.mp hq), c', rfl, q1, q2, q3⟩
      rcases List.mem_append.mp hp with hp | hp
      · have h3 := hget p hp
        rcases hfp _ (hown p hp) with hb | ⟨o, hb⟩
        · have : p = (I, it) := by
            rw [hb] at h3
            exact Prod.ext hb (Option.some.inj (h3.symm.trans hit))
          rw [this]; exact N' _ (.head _)
        · have h4 := (N₂ _ (.tail _ (hlp c _ hb))).1
          have : p = (p.1, o) := Prod.ext rfl (Option.some.inj (h3.symm.trans h4))
          rw [this]; exact N' _ (.tail _ (hlp c' _ hb))
      · exact N' _ (.tail _ hp)
    cases f with
    | ret v => exact .ret p
    | brk => exact .brk p
    | next => exact .next (fin p)
    | cont => exact .cont (fin p)
  · rintro h' tk m' news' F' N' hq ⟨c, rfl, h1, h2, hPc⟩
    exact done c m' h' tk hPc (fun p hp e => hq p hp (List.mem_singleton.mpr e)) (kst_frOut h1 h2 F') N'

/-- over a list of the ledger that stays as it is -/
theorem loop_list (Ld : σ → Led) (ps : σ → List (Str × Value)) (stored : List Str) (P : Nat → σ → Prop) (c₀ : σ) {l nn : Nat} {vs : List Value} {ns : List Int} {m₀ : Str → Option Value}
    (hh : A.handled = none) (hi : IntsAre vs ns) (hlp : ∀ c, (l, listOf vs.toArray nn) ∈ Ld c) (F : Fr h₀ env.locals s.heap m₀) (N : News h₀ env.locals s.heap (Ld c₀)) (hps : ∀ p ∈ ps c₀, m₀ p.1 = some p.2) (hP : P 0 c₀)
    (turn : ∀ i d t c (u : Str → Option Value) it I h tk, ns[i]? = some d → P i c → (∀ p ∈ Ld c, p.1 ≠ I) →
      Fr h₀ env.locals h (fun y => if y = x then some (.int d t) else kstB (fun z => if stored.contains z then u z else m₀ z) (ps c) y) → News h₀ env.locals h ((I, it) :: Ld c) →
      wpAny (model prog w) A (execs body env) (TPost Ld ps stored x m₀ (P (i + 1)) h₀ env.locals I it { s with heap := h, toks := tk } Q) E { s with heap := h, toks := tk })
    (done : ∀ c (u : Str → Option Value) h tk, P ns.length c → Fr h₀ env.locals h (fun y => if y = x then u y else kstB (fun z => if stored.contains z then u z else m₀ z) (ps c) y) → News h₀ env.locals h (Ld c) → Q .next { s with heap := h, toks := tk }) :
    wpAny (model prog w) A (pyIter (.ref l)) (fun it s₂ => LoopAtV prog w A h₀ env x body Q E it s₂) E s := by
  have hol : s.heap.get? l = some (listOf vs.toArray nn) := (N _ (hlp c₀)).1
  have hls : s.heap.IsList l vs.toArray := ⟨_, hol, rfl, nn, rfl⟩
  have hne : l ≠ s.heap.objs.size := Nat.ne_of_lt (Heap.lt_size hol)
  refine wpAny_pyIter_list hls ?_
  have W := Walks.list (prog := prog) (w := w) hh s.heap.objs.size l hne vs.toArray
  have hlen : vs.toArray.size = ns.length := by simp [hi.length]
  rw [hlen] at W
  have hsI : ∀ p ∈ Ld c₀, p.1 ≠ s.heap.objs.size := fun p hp => Nat.ne_of_lt (Heap.lt_size (N p hp).1)
  refine loop_core Ld ps stored P c₀ (lp := [(l, listOf vs.toArray nn)]) W ?_ (fun c p hp => by rw [List.mem_singleton.mp hp]; exact hlp c) (next_is_new F) (fun q => absurd F.ns.lt (by rw [← q]; exact Nat.lt_irrefl _)) (fun i h st => let ⟨o, ho, _⟩ := st.1; ⟨o, ho⟩)
    ⟨⟨_, Heap.get?_push_size _ rfl, rfl, rfl⟩, hls.at fun o e => Heap.get?_push_of_some _ e⟩ (F.push _) (fun p hp => ⟨Heap.get?_push_of_some _ (N p hp).1, (N p hp).2⟩) hsI hps hP ?_ ?_
  · intro b hb
    rcases List.mem_cons.mp hb with h | h
    · exact .inl h
    · rw [List.mem_singleton.mp h]; exact .inr ⟨_, .head _⟩
  · intro i v c u it h tk hin hPv hPc ho F₁ N₁
    obtain ⟨t, hx⟩ := hi.get i ns[i] (by simp [hin])
    have hv : v = .int ns[i] t := by
      have hP' : vs[i]? = some v := by simpa using hPv
      rw [hx] at hP'; exact (Option.some.inj hP').symm
    subst hv
    exact turn i ns[i] t c u it _ h tk (by simp [hin]) hPc ho F₁ N₁
  · intro c u h tk hPc _ F' N'
    exact done c u h tk hPc F' N'

/-- over a list of the ledger, from behind -/
theorem loop_rev (Ld : σ → Led) (ps : σ → List (Str × Value)) (stored : List Str) (P : Nat → σ → Prop) (c₀ : σ) {l nn I : Nat} {vs : List Value} {ns : List Int} {m₀ : Str → Option Value}
    (hh : A.handled = none) (hi : IntsAre vs ns) (hlp : ∀ c, (l, listOf vs.toArray nn) ∈ Ld c) (F : Fr h₀ env.locals s.heap m₀) (N : News h₀ env.locals s.heap ((I, revObj l ((vs.length : Int) - 1)) :: Ld c₀)) (hoff : ∀ p ∈ Ld c₀, p.1 ≠ I) (hps : ∀ p ∈ ps c₀, m₀ p.1 = some p.2) (hP : P 0 c₀)
    (turn : ∀ i d t c (u : Str → Option Value) it h tk, ns.reverse[i]? = some d → P i c → (∀ p ∈ Ld c, p.1 ≠ I) →
      Fr h₀ env.locals h (fun y => if y = x then some (.int d t) else kstB (fun z => if stored.contains z then u z else m₀ z) (ps c) y) → News h₀ env.locals h ((I, it) :: Ld c) →
      wpAny (model prog w) A (execs body env) (TPost Ld ps stored x m₀ (P (i + 1)) h₀ env.locals I it { s with heap := h, toks := tk } Q) E { s with heap := h, toks := tk })
    (done : ∀ c (u : Str → Option Value) h tk, P ns.length c → (∀ p ∈ Ld c, p.1 ≠ I) → Fr h₀ env.locals h (fun y => if y = x then u y else kstB (fun z => if stored.contains z then u z else m₀ z) (ps c) y) → News h₀ env.locals h (Ld c) → Q .next { s with heap := h, toks := tk }) :
    wpAny (model prog w) A (pyIter (.ref I)) (fun it s₂ => LoopAtV prog w A h₀ env x body Q E it s₂) E s := by
  have hIx := N _ (List.mem_cons_self ..)
  have N0 : News h₀ env.locals s.heap (Ld c₀) := fun p hp => N p (.tail _ hp)
  have hol : s.heap.get? l = some (listOf vs.toArray nn) := (N0 _ (hlp c₀)).1
  have hls : s.heap.IsList l vs.toArray := ⟨_, hol, rfl, nn, rfl⟩
  have hne : l ≠ I := hoff _ (hlp c₀)
  have hit : s.heap.IsRevIter I l ((vs.length : Int) - 1) := ⟨_, hIx.1, rfl, rfl⟩
  refine wpAny_pyIter_revIter hit ?_
  have W := Walks.listRev (prog := prog) (w := w) hh I l hne vs.toArray
  have hlen : vs.toArray.size = ns.length := by simp [hi.length]
  have hlen2 : vs.length = ns.length := hi.length
  rw [hlen] at W
  refine loop_core Ld ps stored P c₀ (lp := [(l, listOf vs.toArray nn)]) W ?_ (fun c p hp => by rw [List.mem_singleton.mp hp]; exact hlp c) hIx.2.2 hIx.2.1 (fun i h st => let ⟨o, ho, _⟩ := st.2.1; ⟨o, ho⟩)
    ⟨Nat.zero_le _, by rw [← hlen2]; simpa using hit, hls⟩ F N0 hoff hps hP ?_ ?_
  · intro b hb
    rcases List.mem_cons.mp hb with h | h
    · exact .inl h
    · rw [List.mem_singleton.mp h]; exact .inr ⟨_, .head _⟩
  · intro i v c u it h tk hin hPv hPc ho F₁ N₁
    have hj : ns.length - 1 - i < ns.length := by omega
    obtain ⟨t, hx⟩ := hi.get (ns.length - 1 - i) ns[ns.length - 1 - i] (by simp [hj])
    have hv : v = .int ns[ns.length - 1 - i] t := by
      have hP' : vs[ns.length - 1 - i]? = some v := by simpa using hPv
      rw [hx] at hP'; exact (Option.some.inj hP').symm
    subst hv
    refine turn i _ t c u it h tk ?_ hPc ho F₁ N₁
    rw [List.getElem?_reverse hin]
    simp [hj]
  · intro c u h tk hPc ho F' N'
    exact done c u h tk hPc ho F' N'

/-- over a range that begins at nought -/
theorem loop_range (Ld : σ → Led) (ps : σ → List (Str × Value)) (stored : List Str) (P : Nat → σ → Prop) (c₀ : σ) {r : Addr} {t₀ u₀ v₀ : Tok} {n : Nat} {b₀ : Int} {m₀ : Str → Option Value}
    (hh : A.handled = none) (hr : IsRange s.heap r 0 b₀ 1 t₀ u₀ v₀) (hb : b₀ = (n : Int)) (hn : n < 2 ^ 62) (F : Fr h₀ env.locals s.heap m₀) (N : News h₀ env.locals s.heap (Ld c₀)) (hps : ∀ p ∈ ps c₀, m₀ p.1 = some p.2) (hP : P 0 c₀)
    (turn : ∀ i t c (u : Str → Option Value) it I h tk, i < n → P i c → (∀ p ∈ Ld c, p.1 ≠ I) →
      Fr h₀ env.locals h (fun y => if y = x then some (.int (i : Int) t) else kstB (fun z => if stored.contains z then u z else m₀ z) (ps c) y) → News h₀ env.locals h ((I, it) :: Ld c) →
      wpAny (model prog w) A (execs body env) (TPost Ld ps stored x m₀ (P (i + 1)) h₀ env.locals I it { s with heap := h, toks := tk } Q) E { s with heap := h, toks := tk })
    (done : ∀ c (u : Str → Option Value) h tk, P n c → Fr h₀ env.locals h (fun y => if y = x then u y else kstB (fun z => if stored.contains z then u z else m₀ z) (ps c) y) → News h₀ env.locals h (Ld c) → Q .next { s with heap := h, toks := tk }) :
    wpAny (model prog w) A (pyIter (.ref r)) (fun it s₂ => LoopAtV prog w A h₀ env x body Q E it s₂) E s := by
  subst hb
  have hn2 : (n : Int) < 4611686018427387904 := by omega
  have hn' : Builtin.Range.rangeSize 0 (n : Int) 1 = (n : Int) := by rw [rangeSize_nat]; omega
  have hsmall : Builtin.Range.small 0 (n : Int) 1 = true := by
    unfold Builtin.Range.small
    rw [hn']
    simp [Builtin.Range.rangeFitsLong]
    omega
  refine wpAny_pyIter_range hr hsmall ?_
  have W := Walks.range (prog := prog) (w := w) hh s.heap.objs.size 0 1 n
  have hsI : ∀ p ∈ Ld c₀, p.1 ≠ s.heap.objs.size := fun p hp => Nat.ne_of_lt (Heap.lt_size (N p hp).1)
  refine loop_core Ld ps stored P c₀ (lp := []) W (fun b hb => .inl (List.mem_singleton.mp hb)) (fun c p hp => nomatch hp) (next_is_new F) (fun q => absurd F.ns.lt (by rw [← q]; exact Nat.lt_irrefl _)) (fun i h st => ⟨_, st⟩)
    (by show IsRangeIter _ _ _ _ _; rw [hn']; simpa using Heap.get?_push_size _ rfl) (F.push _) (fun p hp => ⟨Heap.get?_push_of_some _ (N p hp).1, (N p hp).2⟩) hsI hps hP ?_ ?_
  · rintro i v c u it h tk hin ⟨t, rfl⟩ hPc ho F₁ N₁
    have e : (0 : Int) + (i : Int) * 1 = (i : Int) := by omega
    rw [e] at F₁
    exact turn i t c u it _ h tk hin hPc ho F₁ N₁
  · intro c u h tk hPc _ F' N'
    exact done c u h tk hPc F' N'
end
end Mine
end
section
open PySem PySem.W PyProof.Rows PySem.Calls PySem.Spec
set_option maxRecDepth 100000
namespace Mine

/-- the walk stops here: no line knows the word -/
def Stop (P : Prop) : Prop := P
theorem stop_of {P : Prop} (h : Stop P) : P := h
theorem Stop.on {P : Prop} (h : P) : Stop P := h
/-- an entry of the ledger, and the rest -/
inductive Pull (p : Addr × Obj) : Led → Led → Prop
  | head {r} : Pull p (p :: r) r
  | tail {q r r'} : Pull p r r' → Pull p (q :: r) (q :: r')
theorem Pull.mem {p : Addr × Obj} : ∀ {l r : Led}, Pull p l r → p ∈ l
  | _, _, .head => .head _
  | _, _, .tail h => .tail _ h.mem
theorem Pull.sub {p : Addr × Obj} : ∀ {l r : Led}, Pull p l r → ∀ q ∈ r, q ∈ l
  | _, _, .head, _, hq => .tail _ hq
  | _, _, .tail h, q, hq => by
    rcases List.mem_cons.mp hq with rfl | hq
    · exact .head _
    · exact .tail _ (h.sub q hq)
/-- no address of the list is d -/
def AllNe (d : Addr) : Led → Prop
  | [] => True
  | p :: r => @Ne Nat p.1 d ∧ AllNe d r
theorem allNe_of {d : Addr} : ∀ {l : Led}, (∀ p ∈ l, p.1 ≠ d) → AllNe d l
  | [], _ => trivial
  | p :: _, h => ⟨h p (.head _), allNe_of fun q hq => h q (.tail _ hq)⟩
theorem allNe_mem {d : Addr} {l : Led} (h : AllNe d l) : ∀ p ∈ l, p.1 ≠ d := by
  induction l with
  | nil => intro p hp; cases hp
  | cons q r ih =>
    intro p hp
    rcases List.mem_cons.mp hp with rfl | hp
    · exact h.1
    · exact ih h.2 p hp

theorem fr_keeps2 {S : List Addr} {h₀ h h' : Heap} {L : Addr} {m : Str → Option Value} (k : Keeps S h h') (F : Fr h₀ L h m) (hS : ∀ b ∈ S, b ≠ L ∧ h₀.get? b = none) : Fr h₀ L h' m := by
  obtain ⟨oL, es, ep, hL, r⟩ := F.ns
  exact ⟨⟨oL, es, ep, k.1 _ _ hL fun q => (hS _ q).1 rfl, r⟩, fun b o e => k.1 b o (F.keep b o e) (fun q => by rw [(hS b q).2] at e; cases e), F.above⟩

theorem i2d_use {w : World} {p : Program} {loose : List Str} {mean : ExcName → Option Value} {mg mb : Str → Option Value} {X n : Nat} (hn : 1 ≤ n ∧ n ≤ 64) (hX : X < 2 ^ 64)
    {dp un : Nat} {gd : Option (List Code)} {cn : Str} {cs : Scope} {a : Addr} {ccd : Value} {cl : List (Str × Addr)} {outer : List Env} {A₀ : Around} {base h₀ : Heap} {L : Addr} {m : Str → Option Value} {s : Shared} {Q E : Value → Shared → Prop}
    {o1 : Obj} {c1 : Addr} {oc1 : Obj} {x n' : Int} {tx tn : Tok} {led led1 own : Led}
    (B : Below A₀ base outer h₀) (F : Fr h₀ L s.heap m) (X0 : (hd.heap_39 w.params).In h₀) (T : Top p loose mean mg mb h₀) (hcs : cs.kind = .function) (C1 : CodeHd h₀ 34 30) (hroom : dp + 70 < recursionLimit)
    (N : News h₀ L s.heap led) (P1 : Pull (30, o1) led led1) (hT : Tab1 o1 c1 oc1) (P2 : Pull (c1, oc1) led1 own) (h30 : AllNe 30 own) (hc1 : AllNe c1 own) (hx : x = (X : Int)) (hn' : n' = (n : Int))
    (hret : ∀ h' tk' D sz vs2 o1' c1' oc1', Fr h₀ L h' m → News h₀ L h' ((D, listOf vs2.toArray sz) :: (30, o1') :: (c1', oc1') :: own) → AllLt D own → 30 < D → AllNe c1' own → IntsAre vs2 (digs n (cnt X n) X) → Tab1 o1' c1' oc1' → @LT.lt Nat _ L D → (@Eq Nat c1' c1 ∨ @LT.lt Nat _ L c1') → Q (.ref D) { s with heap := h', toks := tk' }) :
    wpAny (model PySem.Challenge.rw_ie0008_01.row.prog w) (ktrTop dp un gd cn cs L a ccd cl outer) (call (.ref 35) [.int x tx, .int n' tn]) Q E s := by
  have m1 := P1.mem
  have m2 := P1.sub _ P2.mem
  refine i2d_ok w p loose mean mg mb X n hn hX dp un gd cn cs a ccd cl outer A₀ base h₀ L m s Q E o1 c1 oc1 x n' tx tn B F X0 T hcs C1 hroom (news_sub N (List.forall_mem_cons.mpr ⟨m1, List.forall_mem_cons.mpr ⟨m2, List.forall_mem_nil _⟩⟩)) hT hx hn'
    fun h' tk' D sz vs2 o1' c1' oc1' K hD gD hI g1 gc T' hc => ?_
  have own_lt : ∀ p ∈ own, p.1 < s.heap.objs.size := fun p hp => Heap.lt_size (N p (P1.sub p (P2.sub p hp))).1
  have c1n : h'.get? c1' = some oc1' ∧ c1' ≠ L ∧ h₀.get? c1' = none := by
    rcases hc with rfl | hc
    · exact news_same N m2 gc
    · exact news_new F hc gc
  refine hret h' tk' D sz vs2 o1' c1' oc1' (fr_keeps2 K F fun b hb => by rw [List.mem_singleton.mp hb]; exact (N _ m1).2) (fun p hp => ?_) (allLt_of fun p hp => Nat.lt_of_lt_of_le (own_lt p hp) hD) (Nat.lt_of_lt_of_le (Heap.lt_size (N _ m1).1) hD) (allNe_of fun p hp => ?_) hI T' (Nat.lt_of_lt_of_le F.ns.lt hD) (hc.imp id fun h => Nat.lt_of_lt_of_le F.ns.lt h)
  · rcases List.mem_cons.mp hp with rfl | hp
    · exact news_new F hD gD
    · rcases List.mem_cons.mp hp with rfl | hp
      · exact news_same N m1 g1
      · rcases List.mem_cons.mp hp with rfl | hp
        · exact c1n
        · exact news_keeps K N p (P1.sub p (P2.sub p hp)) fun q => allNe_mem h30 p hp (List.mem_singleton.mp q)
  · rcases hc with rfl | hc
    · exact allNe_mem hc1 p hp
    · exact Nat.ne_of_lt (Nat.lt_of_lt_of_le (own_lt p hp) hc)

theorem d2i_use {w : World} {p : Program} {loose : List Str} {mean : ExcName → Option Value} {mg mb : Str → Option Value} {n : Nat} (hn : 1 ≤ n ∧ n ≤ 64)
    {dp un : Nat} {gd : Option (List Code)} {cn : Str} {cs : Scope} {a : Addr} {ccd : Value} {cl : List (Str × Addr)} {outer : List Env} {A₀ : Around} {base h₀ : Heap} {L : Addr} {m : Str → Option Value} {s : Shared} {Q E : Value → Shared → Prop}
    {o2 : Obj} {c2 : Addr} {oc2 : Obj} {d sz : Nat} {vs : List Value} {ns : List Int} {n' : Int} {tn : Tok} {led led1 own : Led}
    (B : Below A₀ base outer h₀) (F : Fr h₀ L s.heap m) (X0 : (hd.heap_39 w.params).In h₀) (T : Top p loose mean mg mb h₀) (hcs : cs.kind = .function) (C1 : CodeHd h₀ 34 30) (C2 : CodeHd h₀ 41 37) (hroom : dp + 70 < recursionLimit)
    (N : News h₀ L s.heap led) (P1 : Pull (37, o2) led led1) (hT : Tab2 o2 c2 oc2) (P2 : Pull (c2, oc2) led1 own) (hm : (d, listOf vs.toArray sz) ∈ own) (h37 : AllNe 37 own) (hc2 : AllNe c2 own) (hn' : n' = (n : Int)) (hI : IntsAre vs ns) (hlen : ns.length ≤ 64) (hdg : ∀ d ∈ ns, 0 ≤ d ∧ d < 2 ^ n) (hsz : ns.length * n ≤ 64)
    (hret : ∀ h' tk' t o2' c2' oc2', Fr h₀ L h' m → News h₀ L h' ((37, o2') :: (c2', oc2') :: own) → AllNe c2' own → Tab2 o2' c2' oc2' → (@Eq Nat c2' c2 ∨ @LT.lt Nat _ L c2') → Q (.int (undig n ns) t) { s with heap := h', toks := tk' }) :
    wpAny (model PySem.Challenge.rw_ie0008_01.row.prog w) (ktrTop dp un gd cn cs L a ccd cl outer) (call (.ref 42) [.ref d, .int n' tn]) Q E s := by
  have m1 := P1.mem
  have m2 := P1.sub _ P2.mem
  have m3 := P1.sub _ (P2.sub _ hm)
  refine d2i_ok w p loose mean mg mb n hn dp un gd cn cs a ccd cl outer A₀ base h₀ L m s Q E o2 c2 oc2 d sz vs ns n' tn B F X0 T hcs C1 C2 hroom (news_sub N (List.forall_mem_cons.mpr ⟨m1, List.forall_mem_cons.mpr ⟨m2, List.forall_mem_cons.mpr ⟨m3, List.forall_mem_nil _⟩⟩⟩)) hT (allNe_mem h37 _ hm) hn' hI hlen hdg hsz
    fun h' tk' t o2' c2' oc2' K g1 gc T' hc => ?_
  have own_lt : ∀ p ∈ own, p.1 < s.heap.objs.size := fun p hp => Heap.lt_size (N p (P1.sub p (P2.sub p hp))).1
  have c2n : h'.get? c2' = some oc2' ∧ c2' ≠ L ∧ h₀.get? c2' = none := by
    rcases hc with rfl | hc
    · exact news_same N m2 gc
    · exact news_new F hc gc
  refine hret h' tk' t o2' c2' oc2' (fr_keeps2 K F fun b hb => by rw [List.mem_singleton.mp hb]; exact (N _ m1).2) (fun p hp => ?_) (allNe_of fun p hp => ?_) T' (hc.imp id fun h => Nat.lt_of_lt_of_le F.ns.lt h)
  · rcases List.mem_cons.mp hp with rfl | hp
    · exact news_same N m1 g1
    · rcases List.mem_cons.mp hp with rfl | hp
      · exact c2n
      · exact news_keeps K N p (P1.sub p (P2.sub p hp)) fun q => allNe_mem h37 p hp (List.mem_singleton.mp q)
  · rcases hc with rfl | hc
    · exact allNe_mem hc2 p hp
    · exact Nat.ne_of_lt (Nat.lt_of_lt_of_le (own_lt p hp) hc)
end Mine
end
local macro_rules | `(tactic| ktr_rel) => `(tactic| first | exact Mine.Pull.head | exact Mine.Pull.tail (by ktr_rel))
section
namespace Mine
/-- the number that figures by 2 ^ n tell, the highest first -/
def hval (n : Nat) (l : List Int) : Int := l.foldl (fun a d => a * 2 ^ n + d) 0
theorem hval_snoc (n : Nat) (l : List Int) (d : Int) : hval n (l ++ [d]) = hval n l * 2 ^ n + d := by simp [hval]
theorem undig_rev (n : Nat) (l : List Int) : undig n l.reverse = hval n l := by
  have key : ∀ k (l : List Int), l.length = k → undig n l.reverse = hval n l := by
    intro k
    induction k with
    | zero => intro l h; rw [List.eq_nil_of_length_eq_zero h]; rfl
    | succ k ih =>
      intro l h
      have hne : l ≠ [] := by intro e; rw [e] at h; cases h
      rw [← List.dropLast_concat_getLast hne, List.reverse_append, List.reverse_cons, List.reverse_nil, List.nil_append, List.cons_append, List.nil_append, undig, hval_snoc, ih _ (by simp [h]), Int.mul_comm]
      omega
  exact key _ l rfl
theorem pow2_pos (n : Nat) : (0 : Int) < 2 ^ n := by rw [← two_cast]; exact Int.natCast_pos.mpr (Nat.pow_pos (by decide))
def DInv (n : Nat) (b : Int) (rev : List Int) (i : Nat) (r : Int) (qs : List Int) : Prop :=
  qs.length = i ∧ (∀ q ∈ qs, 0 ≤ q ∧ q < 2 ^ n) ∧ 0 ≤ r ∧ r < b ∧ hval n (rev.take i) = hval n qs * b + r
theorem dinv_zero {n : Nat} {b : Int} {rev : List Int} (hb : 0 < b) : DInv n b rev 0 0 [] := ⟨rfl, (fun _ h => nomatch h), Int.le_refl _, hb, by simp [hval]⟩
theorem dstep_bound {n : Nat} {b r d : Int} (h0 : 0 ≤ r) (h1 : r < b) (hd0 : 0 ≤ d) (hd1 : d < 2 ^ n) : 0 ≤ r * 2 ^ n + d ∧ r * 2 ^ n + d < b * 2 ^ n := by
  have hp := pow2_pos n
  have e : (r + 1) * 2 ^ n ≤ b * 2 ^ n := Int.mul_le_mul_of_nonneg_right h1 (Int.le_of_lt hp)
  rw [Int.add_mul, Int.one_mul] at e
  have e0 := Int.mul_nonneg h0 (Int.le_of_lt hp)
  omega
theorem dinv_step {n : Nat} {b : Int} {rev : List Int} {i : Nat} {r d : Int} {qs : List Int} (h : DInv n b rev i r qs) (hd : rev[i]? = some d) (hd0 : 0 ≤ d) (hd1 : d < 2 ^ n) :
    DInv n b rev (i + 1) ((r * 2 ^ n + d) % b) (qs ++ [(r * 2 ^ n + d) / b]) := by
  obtain ⟨h1, h2, h3, h4, h5⟩ := h
  have hb : 0 < b := by omega
  obtain ⟨e0, e1⟩ := dstep_bound h3 h4 hd0 hd1
  refine ⟨by simp [h1], fun q hq => ?_, Int.emod_nonneg _ (Int.ne_of_gt hb), Int.emod_lt_of_pos _ hb, ?_⟩
  · rcases List.mem_append.mp hq with hq | hq
    · exact h2 q hq
    · rw [List.mem_singleton.mp hq]
      exact ⟨Int.ediv_nonneg e0 (Int.le_of_lt hb), Int.ediv_lt_of_lt_mul hb (by rw [Int.mul_comm (2 ^ n) b]; exact e1)⟩
  · rw [List.take_add_one, hd, Option.toList_some, hval_snoc, hval_snoc, h5, Int.add_mul, Int.add_mul, Int.mul_right_comm, Int.add_assoc, Int.add_assoc]
    congr 1
    rw [Int.mul_comm ((r * 2 ^ n + d) / b) b]
    exact (Int.mul_ediv_add_emod _ _).symm
theorem dinv_end {n K X : Nat} {b r : Int} {qs : List Int} (hX : X < 2 ^ (K * n)) (h : DInv n b (digs n K X).reverse K r qs) : undig n qs.reverse = (X : Int) / b ∧ r = (X : Int) % b := by
  obtain ⟨h1, h2, h3, h4, h5⟩ := h
  have e : (digs n K X).reverse.take K = (digs n K X).reverse := List.take_of_length_le (by rw [List.length_reverse, digs_length]; exact Nat.le_refl _)
  rw [e, ← undig_rev, List.reverse_reverse, undig_digs n K X hX] at h5
  rw [undig_rev]
  have hb : 0 < b := by omega
  have u := (Int.ediv_emod_unique (a := (X : Int)) (q := hval n qs) (r := r) hb).mpr ⟨by rw [h5, Int.mul_comm]; omega, h3, h4⟩
  exact ⟨u.1.symm, u.2.symm⟩
theorem digs_bound (n : Nat) : ∀ k x, ∀ d ∈ digs n k x, 0 ≤ d ∧ d < 2 ^ n
  | 0, _, d, h => nomatch h
  | k + 1, x, d, h => by
    rw [digs] at h
    rcases List.mem_cons.mp h with rfl | h
    · refine ⟨Int.natCast_nonneg _, ?_⟩
      rw [← two_cast]
      exact Int.ofNat_lt.mpr (Nat.mod_lt _ (Nat.pow_pos (by decide)))
    · exact digs_bound n k _ d h
end Mine
end
section
open PySem PySem.W PyProof.Rows PySem.Calls PySem.Spec
set_option maxRecDepth 100000
namespace Mine
theorem divmod_to {prog : Program} {w : World} {A : Around} {E : Value → Shared → Prop} {s : Shared} {a b : Int} {t u : Tok} {Q : Value → Shared → Prop} {h₀ : Heap} {L : Addr} {m : Str → Option Value} {news : Led} (F : Fr h₀ L s.heap m) (N : News h₀ L s.heap news) (hb : 0 < b) (hb2 : b < 2 ^ 30)
    (h : ∀ D h' t1 t2, Fr h₀ L h' m → News h₀ L h' ((D, { cls := .type "tuple", data := .seq #[.int (a / b) t1, .int (a % b) t2] }) :: news) → (∀ p ∈ news, p.1 < D) → Q (.ref D) { s with toks := s.toks + 1 + 1, heap := h' }) :
    wpAny (model prog w) A (call (.builtin "divmod") [.int a t, .int b u]) Q E s := by
  refine divmod_N F N (by omega) (fun h' F' N' => ?_) (.inl (PyProof.noPylong_small (by omega)))
  rw [Int.fdiv_eq_ediv_of_nonneg _ (by omega), Int.fmod_eq_emod_of_nonneg _ (by omega)] at N'
  exact h _ h' _ _ F' N' fun p hp => Heap.lt_size (N p hp).1
theorem loop_revL {prog : Program} {w : World} {A : Around} {E : Value → Shared → Prop} {s : Shared} {env : Env} {h₀ : Heap} {x : Str} {body : List Stmt} {Q : Flow → Shared → Prop} {σ : Type}
    (vq : σ → List Value) (sq : σ → Nat) (ps : σ → List (Str × Value)) (stored : List Str) (P : Nat → σ → Prop) (c₀ : σ) {l d nn I sz₀ : Nat} {vs vs₀ : List Value} {ns : List Int} {k : Int} {m₀ : Str → Option Value} {rest : Led}
    (hh : A.handled = none) (hi : IntsAre vs ns) (F : Fr h₀ env.locals s.heap m₀) (N : News h₀ env.locals s.heap ((I, revObj d k) :: (l, listOf vs₀.toArray sz₀) :: rest)) (hk : k = (vs.length : Int) - 1) (h0 : vq c₀ = vs₀ ∧ sq c₀ = sz₀) (hlp : (d, listOf vs.toArray nn) ∈ rest) (hoff : @Ne Nat l I ∧ AllNe I rest) (hps : ∀ p ∈ ps c₀, m₀ p.1 = some p.2) (hP : P 0 c₀)
    (turn : ∀ i d t c (u : Str → Option Value) it h tk, ns.reverse[i]? = some d → P i c → @Ne Nat l I → AllNe I rest →
      Fr h₀ env.locals h (fun y => if y = x then some (.int d t) else kstB (fun z => if stored.contains z then u z else m₀ z) (ps c) y) → News h₀ env.locals h ((I, it) :: (l, listOf (vq c).toArray (sq c)) :: rest) →
      wpAny (model prog w) A (execs body env) (TPost (fun c => (l, listOf (vq c).toArray (sq c)) :: rest) ps stored x m₀ (P (i + 1)) h₀ env.locals I it { s with heap := h, toks := tk } Q) E { s with heap := h, toks := tk })
    (done : ∀ c (u : Str → Option Value) h tk, P ns.length c → Fr h₀ env.locals h (fun y => if y = x then u y else kstB (fun z => if stored.contains z then u z else m₀ z) (ps c) y) → News h₀ env.locals h ((l, listOf (vq c).toArray (sq c)) :: rest) → Q .next { s with heap := h, toks := tk }) :
    wpAny (model prog w) A (pyIter (.ref I)) (fun it s₂ => LoopAtV prog w A h₀ env x body Q E it s₂) E s := by
  obtain ⟨e1, e2⟩ := h0
  subst e1; subst e2; subst hk
  refine loop_rev (fun c => (l, listOf (vq c).toArray (sq c)) :: rest) ps stored P c₀ hh hi (fun c => .tail _ hlp) F N (allNe_mem (l := _ :: _) hoff) hps hP (fun i d t c u it h tk hd hP ho F' N' => turn i d t c u it h tk hd hP hoff.1 hoff.2 F' N') fun c u h tk hP ho F' N' => done c u h tk hP F' N'

local macro_rules | `(tactic| walk_at "call ref") => `(tactic| ((with_reducible show wpAny _ _ (call (Value.ref 35) _) _ _ _); refine stop_of ?_))
local macro_rules | `(tactic| walk_at "call ref") => `(tactic| ((with_reducible show wpAny _ _ (call (Value.ref 42) _) _ _ _); refine stop_of ?_))
local macro_rules | `(tactic| walk_at "call builtin:list.reverse") => `(tactic| refine stop_of ?_)
local macro_rules | `(tactic| walk_at "binaryOp LShift int int") => `(tactic| (with_reducible refine lsh_to (by assumption) rfl ?_))
local macro_rules | `(tactic| walk_at "call builtin:divmod") => `(tactic| ((k_dflt (refine divmod_to (by k_asm) (by k_asm) (by omega) (by omega) ?_)); intro D' h' t1' t2' F' N' l1; (try k_lt l1); (try k_sweep)))
local macro_rules | `(tactic| walk_at "pyIter ref") => `(tactic| refine stop_of ?_)

set_option maxHeartbeats 8000000 in
theorem dmp_ok (w : World) (p : Program) (loose : List Str) (mean : ExcName → Option Value) (mg mb : Str → Option Value) (X B : Nat) (hB : 1 ≤ B ∧ B < 2 ^ 30) (hX : X < 2 ^ 30)
    (dp un : Nat) (gd : Option (List Code)) (cn : Str) (cs : Scope) (a : Addr) (ccd : Value) (cl : List (Str × Addr)) (outer : List Env) (A₀ : Around) (base h₀ : Heap) (L : Addr) (m : Str → Option Value) (s : Shared) (Q E : Value → Shared → Prop)
    (o1 : Obj) (c1 : Addr) (oc1 : Obj) (o2 : Obj) (c2 : Addr) (oc2 : Obj) (x y : Int) (tx ty : Tok)
    (B0 : Below A₀ base outer h₀) (F : Fr h₀ L s.heap m) (X0 : (hd.heap_39 w.params).In h₀) (T : Top p loose mean mg mb h₀) (hcs : cs.kind = .function) (C1 : CodeHd h₀ 34 30) (C2 : CodeHd h₀ 41 37) (hroom : dp + 80 < recursionLimit)
    (N : News h₀ L s.heap [(30, o1), (c1, oc1), (37, o2), (c2, oc2)]) (hT1 : Tab1 o1 c1 oc1) (hT2 : Tab2 o2 c2 oc2) (h12 : @Ne Nat c1 37 ∧ @Ne Nat c2 30 ∧ @Ne Nat c1 c2) (hx : x = (X : Int)) (hy : y = (B : Int))
    (hret : ∀ h' tk' D t1 t2 sz o1' c1' oc1' o2' c2' oc2', Keeps [30, c1, 37, c2] s.heap h' → s.heap.objs.size ≤ D → h'.get? D = some { cls := .type "tuple", data := .seq #[.int ((X : Int) / (B : Int)) t1, .int ((X : Int) % (B : Int)) t2] sz } →
      h'.get? 30 = some o1' → h'.get? c1' = some oc1' → Tab1 o1' c1' oc1' → (c1' = c1 ∨ s.heap.objs.size ≤ c1') → h'.get? 37 = some o2' → h'.get? c2' = some oc2' → Tab2 o2' c2' oc2' → (c2' = c2 ∨ s.heap.objs.size ≤ c2') → (@LT.lt Nat _ c1' D ∧ @LT.lt Nat _ c2' D ∧ @Ne Nat c1' c2') → Q (.ref D) { s with heap := h', toks := tk' }) :
    wpAny (model PySem.Challenge.rw_ie0008_01.row.prog w) (ktrTop dp un gd cn cs L a ccd cl outer) (call (.ref 49) [.int x tx, .int y ty]) Q E s := by
  w_top off
  subst hx; subst hy
  revert X0; k_fill; intro X0
  have hn : 1 ≤ nb B ∧ nb B ≤ 64 := ⟨nb_pos (by omega), Nat.le_trans (nb_le hB.2) (by decide)⟩
  have hX2 : X < 2 ^ 64 := Nat.lt_of_lt_of_le hX (by decide)
  have hK3 : X < 2 ^ (cnt X (nb B) * nb B) := cnt_lt hn.1
  refine wpAny_call ?_
  k_dflt (
    refine' enterX ?k1 ?k2 ?k4 ?k5 ?kA ?kF ?kK ?ho ?hd ?k7 ?k8 ?k9 ?kB ?kD ?c2 ?c3 ?c4 ?_ 
    case ho => exact (Frag.In.keeps X0 F.keep) 49 _ (by k_is)
    case hd => exact rfl
    case kA => exact rfl
    case kF => exact rfl
    case kK => assumption
    case k1 => k_asm
    case k2 => k_asm
    case k4 => exact N
    case k5 => exact Top.nolimit (by k_asm)
    case k7 => exact codeRec_of (Frag.In.keeps X0 F.keep) (by k_is)
    case k8 => ktr_room
    case k9 => exact BindsTo.of_eq rfl
    case kB => exact locs rfl
    case kD => decide
    case c2 => exact rfl
    case c3 => exact rfl
    case c4 => exact rfl)
  intro g' L' h' hg hL st F' N' lN B'
  have X' := X0.keeps st
  have T' := T.keeps st
  have C1' := C1.keeps st
  have C2' := C2.keeps st
  clear X0 T C1 C2 B0 st
  k_lt lN
  (try dsimp only)
  (try k_fold)
  k_steps
  refine Stop.on (i2d_use hn hX2 (by k_asm) (by k_asm) (by k_asm) (by k_asm) rfl (by k_asm) (by ktr_room) (by k_asm) .head (by assumption) .head (by exact ⟨(fun h => absurd (show (37 : Nat) = 30 from h) (by decide)), h12.2.1, trivial⟩) (by exact ⟨h12.1.symm, h12.2.2.symm, trivial⟩) rfl rfl ?_)
  intro h9 tk9 D9 sz9 vs9 o19 c19 oc19 F9 N9 hD9 hD92 hc9 I9 T9 hLD9 hLc9
  simp only [AllLt, AllNe, and_true] at hD9 hc9
  try dsimp only
  try k_fold
  k_steps
  refine Stop.on (loop_revL (σ := Int × Tok × List Int × List Value × Nat) (fun c => c.2.2.2.1) (fun c => c.2.2.2.2) (fun c => [(PySem.Str.ofString "r", .int c.1 c.2.1)]) ["q_digit"] (fun i c => IntsAre c.2.2.2.1 c.2.2.1 ∧ DInv (nb B) B (digs (nb B) (cnt X (nb B)) X).reverse i c.1 c.2.2.1) (0, _, [], [], 0) rfl I9 (by k_asm) (by k_asm) rfl ⟨rfl, rfl⟩ (by k_mem) (by simp only [AllNe, and_true]; omega) (List.forall_mem_cons.mpr ⟨by with_unfolding_all rfl, List.forall_mem_nil _⟩) ⟨.nil, dinv_zero (by omega)⟩ ?turn ?done)
  case turn =>
    rintro i d t ⟨r, tr, qs, vsq, szq⟩ u it h5 tk5 hd ⟨hIq, hDv⟩ hne1 hne2 F5 N5
    try dsimp only at hIq hDv F5 N5
    simp only [AllNe, and_true] at hne2
    try k_fold
    have hK64 : cnt X (nb B) ≤ 64 := Nat.le_trans (cnt_le hn.1) (nb_le hX2)
    have hi64 : vsq.length < 64 := by
      have e1 : vsq.length = qs.length := hIq.length
      have e2 := hDv.1
      have e3 := (List.getElem?_eq_some_iff.mp hd).1
      rw [List.length_reverse, digs_length] at e3
      omega
    have hdb := digs_bound (nb B) _ X d (List.mem_reverse.mp (List.mem_of_getElem? hd))
    have hst := dstep_bound hDv.2.2.1 hDv.2.2.2.1 hdb.1 hdb.2
    have hlb : 0 ≤ ((Builtin.Int.intBits (B : Int) : Nat) : Int) ∧ ((Builtin.Int.intBits (B : Int) : Nat) : Int) ≤ 1000000 ∧ r.natAbs < 2 ^ 64 := by
      have h1 : Builtin.Int.intBits (B : Int) ≤ 64 := hn.2
      have h2 := hDv.2.2.1
      have h3 := hDv.2.2.2.1
      omega
    have hbits : Builtin.Int.intBits (r * 2 ^ ((Builtin.Int.intBits (B : Int) : Nat) : Int).toNat + d) ≤ 64 := by
      rw [Int.toNat_natCast]
      have h1 : (B : Int) * 2 ^ nb B ≤ 2 ^ 30 * 2 ^ 30 := by
        rw [← two_cast, ← Int.natCast_mul]
        have := Nat.mul_le_mul (Nat.le_of_lt hB.2) (Nat.pow_le_pow_right (show 0 < 2 by decide) (nb_le hB.2))
        have e : ((2 : Int) ^ 30 * 2 ^ 30) = ((2 ^ 30 * 2 ^ 30 : Nat) : Int) := by decide
        rw [e]
        exact Int.ofNat_le.mpr this
      have h2 : (2 : Int) ^ 30 * 2 ^ 30 = 2 ^ 60 := by decide
      exact intBits_le_64 (by have := hst.1; show -(2 ^ 64) < r * 2 ^ nb B + d; omega) (by have := hst.2; show r * 2 ^ nb B + d < 2 ^ 64; omega)
    k_steps
    rename News _ _ _ _ => N6
    simp only [List.push_toArray] at N6
    show TEnd _ _ _ _ _ _ _ _ _ _ _ _
    refine ⟨_, _, _, ((r * 2 ^ nb B + d) % B, _, qs ++ [(r * 2 ^ nb B + d) / B], _, _), rfl, by k_asm, fun p hp => N6 p (.tail _ hp), ?off, List.forall_mem_cons.mpr ⟨by with_unfolding_all rfl, List.forall_mem_nil _⟩, ?same, ?I, dinv_step hDv hd hdb.1 hdb.2⟩
    case off => refine allNe_mem ?_; simp only [AllNe, and_true]; omega
    case same =>
      intro z h1 h2 h3
      have h2' := h2 _ (List.mem_cons_self ..)
      have h4 : z ≠ PySem.Str.ofString "q_digit" := by simpa using h3
      simp only [kstB, h1, h2', h3, h4, if_false, Bool.false_eq_true]
    case I => exact IntsAre.append hIq (.cons _ _ .nil)
  case done =>
    rintro ⟨r, tr, qs, vsq, szq⟩ u h5 tk5 ⟨hIq, hDv⟩ F5 N5
    try dsimp only at hIq hDv F5 N5
    rw [digs_length] at hDv
    have hvl : vsq.length = qs.length := hIq.length
    have hql : qs.length = cnt X (nb B) := hDv.1
    have hK64 : cnt X (nb B) ≤ 64 := Nat.le_trans (cnt_le hn.1) (nb_le hX2)
    k_steps
    refine Stop.on ?_
    dsimp only
    refine kl_reverse (its := vsq.toArray) (l := vsq.reverse) (by k_asm) (by k_asm) (by simp) (by k_upd) (by size_fits) ?_
    intro h6 F6 N6
    k_steps
    have hnl : nb X ≤ 30 := nb_le hX
    have hnb : nb B ≤ 30 := nb_le hB.2
    have hcm := cnt_mul_le (X := X) (n := nb B)
    rename (@LT.lt Nat _ D9 _) ∧ _ => hl1
    refine Stop.on (d2i_use (ns := qs.reverse) hn (by k_asm) (by k_asm) (by k_asm) (by k_asm) rfl (by k_asm) (by k_asm) (by ktr_room) (by k_asm) (by ktr_rel) (by assumption) (by ktr_rel) (by k_mem) (by exact ⟨Nat.ne_of_gt hl1.2.2.2.1, Nat.ne_of_gt hD9.1, (fun h => absurd (show (30 : Nat) = 37 from h) (by decide)), hc9.1.symm, trivial⟩) (by exact ⟨Nat.ne_of_gt hl1.2.2.2.2, Nat.ne_of_gt hD9.2, h12.2.1.symm, hc9.2.symm, trivial⟩) rfl (IntsAre.reverse hIq) (by rw [List.length_reverse]; omega) (fun q hq => hDv.2.1 q (List.mem_reverse.mp hq)) (by rw [List.length_reverse, hql]; omega) ?_)
    intro h7 tk7 t7 o29 c29 oc29 F7 N7 hc7 T7 hLc7
    simp only [AllNe, and_true] at hc7
    try dsimp only
    try k_fold
    have hend := dinv_end hK3 hDv
    k_steps
    dsimp only
    refine leaveC_of (by k_asm) (by k_asm) ?_
    rename News _ _ _ _ => N8
    rename Fr _ _ _ _ => F8
    rw [hend.1, hend.2] at N8
    refine hret _ _ _ _ _ _ _ _ _ _ _ _ (keeps_end hg hL N F8 ?zk) ?zD (N8 (_, _) (.head _)).1 (N8 (30, o19) (by k_mem)).1 (N8 (c19, oc19) (by k_mem)).1 T9 ?z1 (N8 (37, o29) (by k_mem)).1 (N8 (c29, oc29) (by k_mem)).1 T7 ?z2 ?z3
    case zk =>
      intro p hp hs
      refine absurd ?_ hs
      simp only [List.mem_cons, List.not_mem_nil, or_false] at hp ⊢
      rcases hp with rfl | rfl | rfl | rfl <;> simp
    case zD => omega
    case z3 => exact ⟨by omega, by omega, by omega⟩
    case z1 => exact hLc9.imp id fun h => Nat.le_trans hL (Nat.le_of_lt h)
    case z2 => exact hLc7.imp id fun h => Nat.le_trans hL (Nat.le_of_lt h)
end Mine
end
section
open PySem PySem.W PyProof.Rows PySem.Calls PySem.Spec
set_option maxRecDepth 100000
namespace Mine
section
local macro_rules | `(tactic| walk_at "call ref") => `(tactic| ((with_reducible show wpAny _ _ (call (Value.ref 49) _) _ _ _); refine stop_of ?_))

set_option maxHeartbeats 8000000 in
theorem idm_ok (w : World) (p : Program) (loose : List Str) (mean : ExcName → Option Value) (mg mb : Str → Option Value) (X B : Nat) (hB : 1 ≤ B ∧ B < 2 ^ 30) (hX : X < 2 ^ 30)
    (dp un : Nat) (gd : Option (List Code)) (cn : Str) (cs : Scope) (a : Addr) (ccd : Value) (cl : List (Str × Addr)) (outer : List Env) (A₀ : Around) (base h₀ : Heap) (L : Addr) (m : Str → Option Value) (s : Shared) (Q E : Value → Shared → Prop)
    (o1 : Obj) (c1 : Addr) (oc1 : Obj) (o2 : Obj) (c2 : Addr) (oc2 : Obj) (x y : Int) (tx ty : Tok)
    (B0 : Below A₀ base outer h₀) (F : Fr h₀ L s.heap m) (X0 : (hd.heap_39 w.params).In h₀) (T : Top p loose mean mg mb h₀) (hcs : cs.kind = .function) (C1 : CodeHd h₀ 34 30) (C2 : CodeHd h₀ 41 37) (hroom : dp + 90 < recursionLimit)
    (N : News h₀ L s.heap [(30, o1), (c1, oc1), (37, o2), (c2, oc2)]) (hT1 : Tab1 o1 c1 oc1) (hT2 : Tab2 o2 c2 oc2) (h12 : @Ne Nat c1 37 ∧ @Ne Nat c2 30 ∧ @Ne Nat c1 c2) (hx : x = (X : Int)) (hy : y = (B : Int))
    (hret : ∀ h' tk' D t1 t2 sz o1' c1' oc1' o2' c2' oc2', Keeps [30, c1, 37, c2] s.heap h' → s.heap.objs.size ≤ D → h'.get? D = some { cls := .type "tuple", data := .seq #[.int ((X : Int) / (B : Int)) t1, .int ((X : Int) % (B : Int)) t2] sz } →
      h'.get? 30 = some o1' → h'.get? c1' = some oc1' → Tab1 o1' c1' oc1' → (c1' = c1 ∨ s.heap.objs.size ≤ c1') → h'.get? 37 = some o2' → h'.get? c2' = some oc2' → Tab2 o2' c2' oc2' → (c2' = c2 ∨ s.heap.objs.size ≤ c2') → (@LT.lt Nat _ c1' D ∧ @LT.lt Nat _ c2' D ∧ @Ne Nat c1' c2') → Q (.ref D) { s with heap := h', toks := tk' }) :
    wpAny (model PySem.Challenge.rw_ie0008_01.row.prog w) (ktrTop dp un gd cn cs L a ccd cl outer) (call (.ref 56) [.int x tx, .int y ty]) Q E s := by
  w_top off
  subst hx; subst hy
  revert X0; k_fill; intro X0
  refine wpAny_call ?_
  k_dflt (
    refine' enterX ?k1 ?k2 ?k4 ?k5 ?kA ?kF ?kK ?ho ?hd ?k7 ?k8 ?k9 ?kB ?kD ?c2 ?c3 ?c4 ?_ 
    case ho => exact (Frag.In.keeps X0 F.keep) 56 _ (by k_is)
    case hd => exact rfl
    case kA => exact rfl
    case kF => exact rfl
    case kK => assumption
    case k1 => k_asm
    case k2 => k_asm
    case k4 => exact N
    case k5 => exact Top.nolimit (by k_asm)
    case k7 => exact codeRec_of (Frag.In.keeps X0 F.keep) (by k_is)
    case k8 => ktr_room
    case k9 => exact BindsTo.of_eq rfl
    case kB => exact locs rfl
    case kD => decide
    case c2 => exact rfl
    case c3 => exact rfl
    case c4 => exact rfl)
  intro g' L' h' hg hL st F' N' lN B'
  have X' := X0.keeps st
  have T' := T.keeps st
  have C1' := C1.keeps st
  have C2' := C2.keeps st
  clear X0 T C1 C2 B0 st
  k_lt lN
  (try dsimp only)
  (try k_fold)
  have hb0 : (B : Int) ≠ 0 := by omega
  have hb1 : ¬ (B : Int) < 0 := by omega
  have ha1 : ¬ (X : Int) < 0 := by omega
  k_steps
  · exfalso; omega
  refine Stop.on (dmp_ok w _ _ _ _ _ X B hB hX _ _ _ _ _ _ _ _ _ _ _ _ _ _ _ _ _ o1 c1 oc1 o2 c2 oc2 _ _ _ _ (by k_asm) (by k_asm) (by k_asm) (by k_asm) rfl (by k_asm) (by k_asm) (by ktr_room) (by k_asm) hT1 hT2 h12 rfl rfl ?_)
  intro h9 tk9 D9 t1 t2 sz9 o1' c1' oc1' o2' c2' oc2' K9 hD9 gD9 g30 gc1 T1' hc1 g37 gc2 T2' hc2 hcc
  rename Fr g' _ _ _ => F5
  rename News g' _ _ _ => N5
  have hlt := F5.ns.lt
  have F9 := fr_keeps K9 F5 N5 (fun b hb => by simpa using hb)
  have K : Keeps [30, c1, 37, c2] s.heap h9 := ⟨fun b o e n => K9.1 b o (F5.keep b o (hg b o e (by simpa using n))) n, Nat.le_trans hL (Nat.le_trans (Nat.le_of_lt hlt) K9.2)⟩
  try dsimp only
  try k_fold
  k_steps
  try dsimp only
  refine leaveC_of F9 News.nil ?_
  exact hret _ _ _ _ _ _ _ _ _ _ _ _ K (Nat.le_trans hL (Nat.le_trans (Nat.le_of_lt hlt) hD9)) gD9 g30 gc1 T1' (hc1.imp id fun h => Nat.le_trans hL (Nat.le_trans (Nat.le_of_lt hlt) h)) g37 gc2 T2' (hc2.imp id fun h => Nat.le_trans hL (Nat.le_trans (Nat.le_of_lt hlt) h)) hcc
end

theorem idm_use {w : World} {p : Program} {loose : List Str} {mean : ExcName → Option Value} {mg mb : Str → Option Value} {X B : Nat} (hB : 1 ≤ B ∧ B < 2 ^ 30) (hX : X < 2 ^ 30)
    {dp un : Nat} {gd : Option (List Code)} {cn : Str} {cs : Scope} {a : Addr} {ccd : Value} {cl : List (Str × Addr)} {outer : List Env} {A₀ : Around} {base h₀ : Heap} {L : Addr} {m : Str → Option Value} {s : Shared} {Q E : Value → Shared → Prop}
    {o1 : Obj} {c1 : Addr} {oc1 : Obj} {o2 : Obj} {c2 : Addr} {oc2 : Obj} {x y : Int} {tx ty : Tok} {led l1 l2 l3 own : Led}
    (B0 : Below A₀ base outer h₀) (F : Fr h₀ L s.heap m) (X0 : (hd.heap_39 w.params).In h₀) (T : Top p loose mean mg mb h₀) (hcs : cs.kind = .function) (C1 : CodeHd h₀ 34 30) (C2 : CodeHd h₀ 41 37) (hroom : dp + 90 < recursionLimit)
    (N : News h₀ L s.heap led) (P1 : Pull (30, o1) led l1) (hT1 : Tab1 o1 c1 oc1) (P2 : Pull (c1, oc1) l1 l2) (P3 : Pull (37, o2) l2 l3) (hT2 : Tab2 o2 c2 oc2) (P4 : Pull (c2, oc2) l3 own)
    (h12 : @Ne Nat c1 37 ∧ @Ne Nat c2 30 ∧ @Ne Nat c1 c2) (hne : AllNe 30 own ∧ AllNe c1 own ∧ AllNe 37 own ∧ AllNe c2 own) (hx : x = (X : Int)) (hy : y = (B : Int))
    (hret : ∀ h' tk' D t1 t2 sz o1' c1' oc1' o2' c2' oc2', Fr h₀ L h' m → News h₀ L h' ((D, { cls := .type "tuple", data := .seq #[.int ((X : Int) / (B : Int)) t1, .int ((X : Int) % (B : Int)) t2] sz }) :: (30, o1') :: (c1', oc1') :: (37, o2') :: (c2', oc2') :: own) →
      AllLt D own → AllNe c1' own → AllNe c2' own → @LT.lt Nat _ L D → Tab1 o1' c1' oc1' → Tab2 o2' c2' oc2' → (@Ne Nat c1' 37 ∧ @Ne Nat c2' 30 ∧ @Ne Nat c1' c2') → (30 < D ∧ 37 < D ∧ @LT.lt Nat _ c1' D ∧ @LT.lt Nat _ c2' D) → ((@Eq Nat c1' c1 ∨ @LT.lt Nat _ L c1') ∧ (@Eq Nat c2' c2 ∨ @LT.lt Nat _ L c2')) → Q (.ref D) { s with heap := h', toks := tk' }) :
    wpAny (model PySem.Challenge.rw_ie0008_01.row.prog w) (ktrTop dp un gd cn cs L a ccd cl outer) (call (.ref 56) [.int x tx, .int y ty]) Q E s := by
  have m1 := P1.mem
  have m2 := P1.sub _ P2.mem
  have m3 := P1.sub _ (P2.sub _ P3.mem)
  have m4 := P1.sub _ (P2.sub _ (P3.sub _ P4.mem))
  have hsub : ∀ p ∈ own, p ∈ led := fun p hp => P1.sub p (P2.sub p (P3.sub p (P4.sub p hp)))
  refine idm_ok w p loose mean mg mb X B hB hX dp un gd cn cs a ccd cl outer A₀ base h₀ L m s Q E o1 c1 oc1 o2 c2 oc2 x y tx ty B0 F X0 T hcs C1 C2 hroom (news_sub N (List.forall_mem_cons.mpr ⟨m1, List.forall_mem_cons.mpr ⟨m2, List.forall_mem_cons.mpr ⟨m3, List.forall_mem_cons.mpr ⟨m4, List.forall_mem_nil _⟩⟩⟩⟩)) hT1 hT2 h12 hx hy
    fun h' tk' D t1 t2 sz o1' c1' oc1' o2' c2' oc2' K hD gD g30 gc1 T1' hc1 g37 gc2 T2' hc2 hcc => ?_
  have lt := fun p hp => Heap.lt_size (N p hp).1
  have l30 : 30 < s.heap.objs.size := lt _ m1
  have l37 : 37 < s.heap.objs.size := lt _ m3
  have lc1 : c1 < s.heap.objs.size := lt _ m2
  have lc2 : c2 < s.heap.objs.size := lt _ m4
  have own_lt : ∀ p ∈ own, p.1 < s.heap.objs.size := fun p hp => lt p (hsub p hp)
  have c1n : h'.get? c1' = some oc1' ∧ c1' ≠ L ∧ h₀.get? c1' = none := by
    rcases hc1 with rfl | hc
    · exact news_same N m2 gc1
    · exact news_new F hc gc1
  have c2n : h'.get? c2' = some oc2' ∧ c2' ≠ L ∧ h₀.get? c2' = none := by
    rcases hc2 with rfl | hc
    · exact news_same N m4 gc2
    · exact news_new F hc gc2
  refine hret h' tk' D t1 t2 sz o1' c1' oc1' o2' c2' oc2' (fr_keeps K F (news_sub N (List.forall_mem_cons.mpr ⟨m1, List.forall_mem_cons.mpr ⟨m2, List.forall_mem_cons.mpr ⟨m3, List.forall_mem_cons.mpr ⟨m4, List.forall_mem_nil _⟩⟩⟩⟩)) (fun b hb => by simpa using hb)) (fun p hp => ?_) (allLt_of fun p hp => Nat.lt_of_lt_of_le (own_lt p hp) hD) (allNe_of fun p hp => ?_) (allNe_of fun p hp => ?_) (Nat.lt_of_lt_of_le F.ns.lt hD) T1' T2' ⟨?_, ?_, hcc.2.2⟩
    ⟨Nat.lt_of_lt_of_le l30 hD, Nat.lt_of_lt_of_le l37 hD, hcc.1, hcc.2.1⟩ ⟨hc1.imp id fun h => Nat.lt_of_lt_of_le F.ns.lt h, hc2.imp id fun h => Nat.lt_of_lt_of_le F.ns.lt h⟩
  · rcases List.mem_cons.mp hp with rfl | hp
    · exact news_new F hD gD
    · rcases List.mem_cons.mp hp with rfl | hp
      · exact news_same N m1 g30
      · rcases List.mem_cons.mp hp with rfl | hp
        · exact c1n
        · rcases List.mem_cons.mp hp with rfl | hp
          · exact news_same N m3 g37
          · rcases List.mem_cons.mp hp with rfl | hp
            · exact c2n
            · refine news_keeps K N p (hsub p hp) fun q => ?_
              simp only [List.mem_cons, List.not_mem_nil, or_false] at q
              rcases q with q | q | q | q
              · exact allNe_mem hne.1 p hp q
              · exact allNe_mem hne.2.1 p hp q
              · exact allNe_mem hne.2.2.1 p hp q
              · exact allNe_mem hne.2.2.2 p hp q
  · rcases hc1 with rfl | hc
    · exact allNe_mem hne.2.1 p hp
    · exact Nat.ne_of_lt (Nat.lt_of_lt_of_le (own_lt p hp) hc)
  · rcases hc2 with rfl | hc
    · exact allNe_mem hne.2.2.2 p hp
    · exact Nat.ne_of_lt (Nat.lt_of_lt_of_le (own_lt p hp) hc)
  · rcases hc1 with rfl | hc
    · exact h12.1
    · exact Nat.ne_of_gt (Nat.lt_of_lt_of_le l37 hc)
  · rcases hc2 with rfl | hc
    · exact h12.2.1
    · exact Nat.ne_of_gt (Nat.lt_of_lt_of_le l30 hc)
end Mine
end
section
open PySem PySem.W PyProof.Rows PySem.Calls PySem.Spec
set_option maxRecDepth 100000
namespace Mine
theorem item_written {prog : Program} {w : World} {A : Around} {E : Value → Shared → Prop} {s : Shared} {h₀ : Heap} {L l n : Nat} {vs : List Value} {news : Led} {value slice : PySem.Expr} {k : Int} {u : Tok} {v : Value} {Q : Value → Shared → Prop}
    (N : News h₀ L s.heap news) (hm : (l, listOf vs.toArray n) ∈ news) (h0 : 0 ≤ k) (hhi : k < 2 ^ 63) (hx : vs[k.toNat]? = some v) (h : Q v s)
    (hs : subscripted slice false (.ref l) (.int k u) = operate [.ref l, .int k u] (getItem (.ref l) (.int k u)) := by with_unfolding_all rfl) :
    wpAny (model prog w) A (subscriptTail value slice (.ref l) (.int k u)) Q E s :=
  have hl : s.heap.IsList l vs.toArray := ⟨_, (N _ hm).1, rfl, n, rfl⟩
  tail_any hl.typeIs slot_list_getitem.lookup (wpAny_getItem_list hl h0 hhi (by simpa using hx) h) hs
theorem newList_L {M : Model} {A : Around} {E : Value → Shared → Prop} {s : Shared} {h₀ : Heap} {L : Addr} {m : Str → Option Value} {news : Led} {vs : List Value} {Q : Value → Shared → Prop} (F : Fr h₀ L s.heap m) (N : News h₀ L s.heap news) (hsz : vs.length ≤ sizeLine)
    (h : ∀ l h', Fr h₀ L h' m → News h₀ L h' ((l, listOf vs.toArray 0) :: news) → (∀ p ∈ news, p.1 < l) → @LT.lt Nat _ L l → Q (.ref l) { s with heap := h' }) : wpAny M A (newList vs) Q E s :=
  newList_N F N (fun h' F' N' => h _ h' F' N' (fun p hp => Heap.lt_size (N p hp).1) F.ns.lt) hsz
section
local macro_rules | `(tactic| walk_at "newList") => `(tactic| (k_here; k_dflt (refine' newList_L ?k1 ?k2 ?k3 ?_; (case k1 => k_asm); (case k2 => k_asm); (case k3 => size_fits); k_whole); intro l' h' F' N' l1 hLl; (try k_lt l1); (try k_sweep)))
local macro_rules | `(tactic| walk_at "subscriptTail") => `(tactic| (k_here; (with_reducible show wpAny _ _ (subscriptTail _ _ (Value.ref _) (Value.int _ _)) _ _ _); (k_dflt (refine' item_written ?k1 ?k2 ?k3 ?k4 ?k5 ?_ ?k6; (case k1 => k_asm); (case k2 => k_mem); (case k3 => decide); (case k4 => decide); (case k5 => rfl); (case k6 => with_unfolding_all rfl)); k_whole)))
local macro_rules | `(tactic| walk_at "subscriptTail Name Name ref int") => `(tactic| (k_here; (with_reducible show wpAny _ _ (subscriptTail _ _ (Value.ref _) (Value.int _ _)) _ _ _); (k_dflt (refine' item_written ?k1 ?k2 ?k3 ?k4 ?k5 ?_ ?k6; (case k1 => k_asm); (case k2 => k_mem); (case k3 => decide); (case k4 => decide); (case k5 => rfl); (case k6 => with_unfolding_all rfl)); k_whole)))
local macro_rules | `(tactic| walk_at "subscriptTail Name Constant ref int") => `(tactic| (k_here; (with_reducible show wpAny _ _ (subscriptTail _ _ (Value.ref _) (Value.int _ _)) _ _ _); (k_dflt (refine' item_written ?k1 ?k2 ?k3 ?k4 ?k5 ?_ ?k6; (case k1 => k_asm); (case k2 => k_mem); (case k3 => decide); (case k4 => decide); (case k5 => rfl); (case k6 => with_unfolding_all rfl)); k_whole)))

local macro_rules | `(tactic| walk1) => `(tactic| ((with_reducible show wpAny _ _ (exec _ _) _ _ _); k_fold))
set_option maxHeartbeats 8000000 in
theorem shares_ok (w : World) (p : Program) (loose : List Str) (mean : ExcName → Option Value) (mg mb : Str → Option Value) (a b c : Int) (ha : 1 ≤ a ∧ a ≤ 5) (hb : 1 ≤ b ∧ b ≤ 5) (hc : 1 ≤ c ∧ c ≤ 5)
    (dp un : Nat) (gd : Option (List Code)) (cn : Str) (cs : Scope) (ad : Addr) (ccd : Value) (cl : List (Str × Addr)) (outer : List Env) (A₀ : Around) (base h₀ : Heap) (L : Addr) (m : Str → Option Value) (s : Shared) (Q E : Value → Shared → Prop)
    (l sz : Nat) (t1 t2 t3 : Tok)
    (B0 : Below A₀ base outer h₀) (F : Fr h₀ L s.heap m) (X0 : (hd.heap_39 w.params).In h₀) (T : Top p loose mean mg mb h₀) (hcs : cs.kind = .function) (C1 : CodeHd h₀ 34 30) (C2 : CodeHd h₀ 41 37) (hroom : dp + 10 < recursionLimit)
    (N : News h₀ L s.heap [(l, listOf [.int a t1, .int b t2, .int c t3].toArray sz)])
    (hret : ∀ h' tk' D Dl szl sz' u1 u2 u3 t, Keeps [] s.heap h' → s.heap.objs.size ≤ D → s.heap.objs.size ≤ Dl → Dl < D → h'.get? D = some { cls := .type "tuple", data := .seq #[.ref Dl, .int (a + b + c) t] sz' } →
      h'.get? Dl = some (listOf [.int 0 u1, .int a u2, .int (a + b) u3].toArray szl) → Q (.ref D) { s with heap := h', toks := tk' }) :
    wpAny (model PySem.Challenge.rw_ie0008_01.row.prog w) (ktrTop dp un gd cn cs L ad ccd cl outer) (call (.ref 90) [.ref l]) Q E s := by
  w_top off
  revert X0; k_fill; intro X0
  have hI : IntsAre [.int a t1, .int b t2, .int c t3] [a, b, c] := .cons _ _ (.cons _ _ (.cons _ _ .nil))
  refine wpAny_call ?_
  k_dflt (
    refine' enterX ?k1 ?k2 ?k4 ?k5 ?kA ?kF ?kK ?ho ?hd ?k7 ?k8 ?k9 ?kB ?kD ?c2 ?c3 ?c4 ?_ 
    case ho => exact (Frag.In.keeps X0 F.keep) 90 _ (by k_is)
    case hd => exact rfl
    case kA => exact rfl
    case kF => exact rfl
    case kK => assumption
    case k1 => k_asm
    case k2 => k_asm
    case k4 => exact N
    case k5 => exact Top.nolimit (by k_asm)
    case k7 => exact codeRec_of (Frag.In.keeps X0 F.keep) (by k_is)
    case k8 => ktr_room
    case k9 => exact BindsTo.of_eq rfl
    case kB => exact locs rfl
    case kD => decide
    case c2 => exact rfl
    case c3 => exact rfl
    case c4 => exact rfl)
  intro g' L' h' hg hL st F' N' lN B'
  have X' := X0.keeps st
  have T' := T.keeps st
  have C1' := C1.keeps st
  have C2' := C2.keeps st
  clear X0 T C1 C2 B0 st
  k_lt lN
  (try dsimp only)
  (try k_fold)
  k_steps
  try dsimp only
  refine leaveC_of (by k_asm) (by k_asm) ?_
  rename News g' _ _ _ => N8
  rename Fr g' _ _ _ => F8
  simp only [Int.add_zero, ← Int.add_assoc] at N8
  refine hret _ _ _ _ _ _ _ _ _ _ (keeps_end hg hL N F8 ?zk) ?zD ?zl ?zo (N8 (_, _) (.head _)).1 (N8 (_, listOf [_, _, _].toArray _) (.tail _ (.tail _ (.tail _ (.tail _ (.head _)))))).1
  case zk =>
    intro p hp hs
    rw [List.mem_singleton.mp hp]
    exact (N8 (l, _) (.tail _ (.tail _ (.tail _ (.tail _ (.tail _ (.head _))))))).1
  case zD => omega
  case zl => omega
  case zo => omega
end
end Mine
end
section
/-! The shares and the stretches: plain numbers -/
namespace Mine
def oft (a b c i : Nat) : Nat := if i = 0 then a else if i = 1 then b else c
def sms (a b i : Nat) : Nat := if i = 0 then 0 else if i = 1 then a else a + b
def stp (a b c : Nat) (lw : Nat × Nat) (i : Nat) : Nat × Nat := (lw.1 + lw.2 / (a + b + c) * sms a b i, lw.2 / (a + b + c) * oft a b c i)
/-- the stretch of the first letters of a row of n letters -/
def part (a b c n : Nat) (p : List Nat) : Nat × Nat := p.foldl (stp a b c) (0, (a + b + c) ^ n)
def stretch (a b c : Nat) (row : List Nat) : Nat × Nat := part a b c row.length row
def prod (a b c : Nat) (row : List Nat) : Nat := row.foldl (fun x i => x * oft a b c i) 1

theorem part_snoc (a b c n : Nat) (p : List Nat) (i : Nat) : part a b c n (p ++ [i]) = stp a b c (part a b c n p) i := by simp [part]
theorem prod_snoc (a b c : Nat) (p : List Nat) (i : Nat) : prod a b c (p ++ [i]) = prod a b c p * oft a b c i := by simp [prod]
theorem sms_oft (a b c i : Nat) : sms a b i + oft a b c i ≤ a + b + c := by
  unfold sms oft; split
  · omega
  · split <;> omega
theorem snoc_ind {α : Type} {P : List α → Prop} (h0 : P []) (hs : ∀ p i, P p → P (p ++ [i])) : ∀ l, P l := by
  have key : ∀ k (l : List α), l.length = k → P l := by
    intro k
    induction k with
    | zero => intro l h; rw [List.eq_nil_of_length_eq_zero h]; exact h0
    | succ k ih =>
      intro l h
      have hne : l ≠ [] := by intro e; rw [e] at h; cases h
      rw [← List.dropLast_concat_getLast hne]
      exact hs _ _ (ih _ (by simp [h]))
  exact fun l => key _ l rfl
theorem part_wide {a b c : Nat} (hw : 0 < a + b + c) (n : Nat) : ∀ p : List Nat, p.length ≤ n → (part a b c n p).2 = prod a b c p * (a + b + c) ^ (n - p.length) := by
  intro p
  induction p using snoc_ind with
  | h0 => intro _; simp [part, prod]
  | hs p i ih =>
    intro h
    rw [List.length_append, List.length_cons, List.length_nil] at h
    have e : n - p.length = (n - (p.length + 1)) + 1 := by omega
    rw [part_snoc, prod_snoc, List.length_append, List.length_cons, List.length_nil]
    show (part a b c n p).2 / (a + b + c) * oft a b c i = _
    rw [ih (by omega), e, Nat.pow_succ, ← Nat.mul_assoc, Nat.mul_div_cancel _ hw, Nat.mul_right_comm]
theorem part_in {a b c : Nat} (n : Nat) : ∀ p : List Nat, (part a b c n p).1 + (part a b c n p).2 ≤ (a + b + c) ^ n := by
  intro p
  induction p using snoc_ind with
  | h0 => simp [part]
  | hs p i ih =>
    rw [part_snoc, stp]
    have h1 := Nat.mul_le_mul_left ((part a b c n p).2 / (a + b + c)) (sms_oft a b c i)
    have h2 := Nat.div_mul_le_self (part a b c n p).2 (a + b + c)
    rw [Nat.mul_add] at h1
    show (part a b c n p).1 + _ + _ ≤ _
    omega
theorem pow_small {w n : Nat} (hw : 1 ≤ w ∧ w ≤ 15) (hn : n ≤ 6) : w ^ n < 2 ^ 30 := by
  have h1 : w ^ n ≤ 15 ^ n := Nat.pow_le_pow_left hw.2 n
  have h2 : 15 ^ n ≤ 15 ^ 6 := Nat.pow_le_pow_right (by decide) hn
  have h3 : 15 ^ 6 < 2 ^ 30 := by decide
  omega
theorem part_small {a b c n : Nat} (hw : 1 ≤ a + b + c ∧ a + b + c ≤ 15) (hn : n ≤ 6) (p : List Nat) : (part a b c n p).1 < 2 ^ 30 ∧ (part a b c n p).2 < 2 ^ 30 := by
  have h1 := part_in (a := a) (b := b) (c := c) n p
  have h2 := pow_small hw hn
  omega
theorem sms_getD (a b : Nat) : ∀ j : Nat, j < 3 → [(0 : Int), (a : Int), (a : Int) + (b : Int)].getD ((j : Int)).toNat 0 = (sms a b j : Int)
  | 0, _ => rfl
  | 1, _ => rfl
  | 2, _ => by simp [sms]
theorem oft_getD (a b c : Nat) : ∀ j : Nat, j < 3 → [(a : Int), (b : Int), (c : Int)].getD ((j : Int)).toNat 0 = (oft a b c j : Int)
  | 0, _ => rfl
  | 1, _ => rfl
  | 2, _ => rfl
theorem oft_le {a b c : Nat} (ha : a ≤ 5) (hb : b ≤ 5) (hc : c ≤ 5) (j : Nat) : oft a b c j ≤ 5 ∧ sms a b j ≤ 10 := by
  unfold oft sms
  refine ⟨?_, ?_⟩
  · split
    · omega
    · split <;> omega
  · split
    · omega
    · split <;> omega
end Mine
namespace Mine
theorem part_nest (a b c n : Nat) (p : List Nat) : ∀ q : List Nat, (part a b c n p).1 ≤ (part a b c n (p ++ q)).1 ∧ (part a b c n (p ++ q)).1 + (part a b c n (p ++ q)).2 ≤ (part a b c n p).1 + (part a b c n p).2 := by
  intro q
  induction q using snoc_ind with
  | h0 => rw [List.append_nil]; exact ⟨Nat.le_refl _, Nat.le_refl _⟩
  | hs q i ih =>
    rw [← List.append_assoc, part_snoc]
    have h1 := Nat.mul_le_mul_left ((part a b c n (p ++ q)).2 / (a + b + c)) (sms_oft a b c i)
    have h2 := Nat.div_mul_le_self (part a b c n (p ++ q)).2 (a + b + c)
    rw [Nat.mul_add] at h1
    simp only [stp]
    omega
/-- a number within the row's stretch, seen from the first i letters -/
theorem back_step {a b c : Nat} {row : List Nat} {i j num : Nat} (hj : row[i]? = some j) (h0 : (stretch a b c row).1 ≤ num) (h1 : num < (stretch a b c row).1 + (stretch a b c row).2) :
    1 ≤ (part a b c row.length (row.take i)).2 / (a + b + c) ∧ (part a b c row.length (row.take i)).1 ≤ num ∧
    sms a b j ≤ (num - (part a b c row.length (row.take i)).1) / ((part a b c row.length (row.take i)).2 / (a + b + c)) ∧
    (num - (part a b c row.length (row.take i)).1) / ((part a b c row.length (row.take i)).2 / (a + b + c)) < sms a b j + oft a b c j ∧
    (part a b c row.length (row.take i)).2 / (a + b + c) * sms a b j ≤ num - (part a b c row.length (row.take i)).1 ∧
    num - (part a b c row.length (row.take i)).1 - (part a b c row.length (row.take i)).2 / (a + b + c) * sms a b j = num - (part a b c row.length (row.take (i + 1))).1 ∧
    (part a b c row.length (row.take i)).2 / (a + b + c) * oft a b c j = (part a b c row.length (row.take (i + 1))).2 := by
  have e : row.take (i + 1) = row.take i ++ [j] := by rw [List.take_add_one, hj]; rfl
  have n1 := part_nest a b c row.length (row.take (i + 1)) (row.drop (i + 1))
  rw [List.take_append_drop] at n1
  have n2 : (stretch a b c row) = part a b c row.length row := rfl
  rw [n2] at h0 h1
  have n3 : part a b c row.length (row.take (i + 1)) = stp a b c (part a b c row.length (row.take i)) j := by rw [e, part_snoc]
  rw [n3] at n1 ⊢
  generalize part a b c row.length (row.take i) = pw at n1 ⊢
  obtain ⟨pl, pr⟩ := pw
  simp only [stp] at n1 ⊢
  generalize hq : pr / (a + b + c) = q at n1 ⊢
  have hq1 : 1 ≤ q := by
    rcases Nat.eq_zero_or_pos q with h | h
    · subst h; rw [Nat.zero_mul, Nat.zero_mul] at n1; omega
    · exact h
  have h2 : q * sms a b j ≤ num - pl := by omega
  have h3 : num - pl < q * sms a b j + q * oft a b c j := by omega
  refine ⟨hq1, by omega, (Nat.le_div_iff_mul_le hq1).mpr (by rw [Nat.mul_comm]; exact h2), (Nat.div_lt_iff_lt_mul hq1).mpr (by rw [Nat.mul_comm, Nat.mul_add]; exact h3), h2, by omega, trivial⟩
end Mine
end
section
open PySem PySem.W PyProof.Rows PySem.Calls PySem.Spec
set_option maxRecDepth 100000
namespace Mine

theorem shares_use {w : World} {p : Program} {loose : List Str} {mean : ExcName → Option Value} {mg mb : Str → Option Value} {a b c : Int} (ha : 1 ≤ a ∧ a ≤ 5) (hb : 1 ≤ b ∧ b ≤ 5) (hc : 1 ≤ c ∧ c ≤ 5)
    {dp un : Nat} {gd : Option (List Code)} {cn : Str} {cs : Scope} {ad : Addr} {ccd : Value} {cl : List (Str × Addr)} {outer : List Env} {A₀ : Around} {base h₀ : Heap} {L : Addr} {m : Str → Option Value} {s : Shared} {Q E : Value → Shared → Prop}
    {l sz : Nat} {t1 t2 t3 : Tok} {led : Led}
    (B0 : Below A₀ base outer h₀) (F : Fr h₀ L s.heap m) (X0 : (hd.heap_39 w.params).In h₀) (T : Top p loose mean mg mb h₀) (hcs : cs.kind = .function) (C1 : CodeHd h₀ 34 30) (C2 : CodeHd h₀ 41 37) (hroom : dp + 10 < recursionLimit)
    (N : News h₀ L s.heap led) (hm : (l, listOf [.int a t1, .int b t2, .int c t3].toArray sz) ∈ led)
    (hret : ∀ h' tk' D Dl szl sz' u1 u2 u3 t, Fr h₀ L h' m → News h₀ L h' ((D, { cls := .type "tuple", data := .seq #[.ref Dl, .int (a + b + c) t] sz' }) :: (Dl, listOf [.int 0 u1, .int a u2, .int (a + b) u3].toArray szl) :: led) →
      AllLt D led → AllLt Dl led → (@LT.lt Nat _ Dl D ∧ @LT.lt Nat _ L Dl) → Q (.ref D) { s with heap := h', toks := tk' }) :
    wpAny (model PySem.Challenge.rw_ie0008_01.row.prog w) (ktrTop dp un gd cn cs L ad ccd cl outer) (call (.ref 90) [.ref l]) Q E s := by
  refine shares_ok w p loose mean mg mb a b c ha hb hc dp un gd cn cs ad ccd cl outer A₀ base h₀ L m s Q E l sz t1 t2 t3 B0 F X0 T hcs C1 C2 hroom (news_sub N (List.forall_mem_cons.mpr ⟨hm, List.forall_mem_nil _⟩)) fun h' tk' D Dl szl sz' u1 u2 u3 t K hD hDl hlt gD gl => ?_
  have lt := fun p hp => Heap.lt_size (N p hp).1
  refine hret h' tk' D Dl szl sz' u1 u2 u3 t (kept K F N).1 (fun p hp => ?_) (allLt_of fun p hp => Nat.lt_of_lt_of_le (lt p hp) hD) (allLt_of fun p hp => Nat.lt_of_lt_of_le (lt p hp) hDl) ⟨hlt, Nat.lt_of_lt_of_le F.ns.lt hDl⟩
  rcases List.mem_cons.mp hp with rfl | hp
  · exact news_new F hD gD
  · rcases List.mem_cons.mp hp with rfl | hp
    · exact news_new F hDl gl
    · exact (kept K F N).2 p hp

section
variable {prog : Program} {w : World} {A : Around} {E : Value → Shared → Prop} {s : Shared} {a b : Int} {t u : Tok} {Q : Value → Shared → Prop}
theorem pow_to {r : Int} (h0 : 0 ≤ b ∧ b ≤ 1000 ∧ a.natAbs < 2 ^ 64) (e : a ^ b.toNat = r) (h : ∀ t tk, Q (.int r t) { s with toks := tk }) : wpAny (model prog w) A (binaryOp .Pow (.int a t) (.int b u)) Q E s :=
  pow_int_small h0.1 (by omega) h0.2.2 (by rw [e]; exact h _ _)
theorem add_to {r : Int} (e : a + b = r) (h : Q (.int r s.toks) { s with toks := s.toks + 1 }) : wpAny (model prog w) A (binaryOp .Add (.int a t) (.int b u)) Q E s :=
  add_int (by rw [e]; exact h)
end
/-- the numbers and the tables between two turns -/
structure StS where
  low : Nat
  wide : Nat
  tl : Tok
  tw : Tok
  o1 : Obj
  c1 : Nat
  oc1 : Obj
  o2 : Obj
  c2 : Nat
  oc2 : Obj
section
local macro_rules | `(tactic| walk_at "call ref") => `(tactic| ((with_reducible show wpAny _ _ (call (Value.ref 90) _) _ _ _); refine stop_of ?_))
local macro_rules | `(tactic| walk_at "call ref") => `(tactic| ((with_reducible show wpAny _ _ (call (Value.ref 56) _) _ _ _); refine stop_of ?_))
local macro_rules | `(tactic| walk_at "pyIter ref") => `(tactic| refine stop_of ?_)
local macro_rules | `(tactic| walk_at "binaryOp Pow int int") => `(tactic| (refine pow_to (by assumption) (by assumption) ?_; intro _ _))
local macro_rules | `(tactic| walk_at "binaryOp Mult int int") => `(tactic| (with_reducible refine mul_to (by assumption) (by assumption) ?_))
local macro_rules | `(tactic| walk_at "binaryOp Add int int") => `(tactic| (with_reducible refine add_to (by assumption) ?_))
local macro_rules | `(tactic| k_mem) => `(tactic| assumption)

local macro_rules | `(tactic| walk1) => `(tactic| ((with_reducible show wpAny _ _ (exec _ _) _ _ _); k_fold))
set_option maxHeartbeats 8000000 in
theorem stretch_ok (w : World) (p : Program) (loose : List Str) (mean : ExcName → Option Value) (mg mb : Str → Option Value) (a b c : Nat) (ha : 1 ≤ a ∧ a ≤ 5) (hb : 1 ≤ b ∧ b ≤ 5) (hc : 1 ≤ c ∧ c ≤ 5) (row : List Nat) (hrow : ∀ i ∈ row, i < 3) (hlen : row.length ≤ 6)
    (dp un : Nat) (gd : Option (List Code)) (cn : Str) (cs : Scope) (ad : Addr) (ccd : Value) (cl : List (Str × Addr)) (outer : List Env) (A₀ : Around) (base h₀ : Heap) (L : Addr) (m : Str → Option Value) (s : Shared) (Q E : Value → Shared → Prop)
    (lr lo szr szo : Nat) (vsr : List Value) (t1 t2 t3 : Tok) (o1 : Obj) (c1 : Addr) (oc1 : Obj) (o2 : Obj) (c2 : Addr) (oc2 : Obj)
    (B0 : Below A₀ base outer h₀) (F : Fr h₀ L s.heap m) (X0 : (hd.heap_39 w.params).In h₀) (T : Top p loose mean mg mb h₀) (hcs : cs.kind = .function) (C1 : CodeHd h₀ 34 30) (C2 : CodeHd h₀ 41 37) (hroom : dp + 100 < recursionLimit)
    (N : News h₀ L s.heap [(lr, listOf vsr.toArray szr), (lo, listOf [.int (a : Int) t1, .int (b : Int) t2, .int (c : Int) t3].toArray szo), (30, o1), (c1, oc1), (37, o2), (c2, oc2)]) (hIr : IntsAre vsr (row.map fun (i : Nat) => (i : Int)))
    (hT1 : Tab1 o1 c1 oc1) (hT2 : Tab2 o2 c2 oc2) (h12 : @Ne Nat c1 37 ∧ @Ne Nat c2 30 ∧ @Ne Nat c1 c2) (hne : (lr ≠ 30 ∧ @Ne Nat lr c1 ∧ lr ≠ 37 ∧ @Ne Nat lr c2) ∧ (lo ≠ 30 ∧ @Ne Nat lo c1 ∧ lo ≠ 37 ∧ @Ne Nat lo c2))
    (hret : ∀ h' tk' D t1 t2 sz o1' c1' oc1' o2' c2' oc2', Keeps [30, c1, 37, c2] s.heap h' → s.heap.objs.size ≤ D → h'.get? D = some { cls := .type "tuple", data := .seq #[.int ((stretch a b c row).1 : Int) t1, .int ((stretch a b c row).2 : Int) t2] sz } →
      h'.get? 30 = some o1' → h'.get? c1' = some oc1' → Tab1 o1' c1' oc1' → (c1' = c1 ∨ s.heap.objs.size ≤ c1') → h'.get? 37 = some o2' → h'.get? c2' = some oc2' → Tab2 o2' c2' oc2' → (c2' = c2 ∨ s.heap.objs.size ≤ c2') → (@LT.lt Nat _ c1' D ∧ @LT.lt Nat _ c2' D ∧ @Ne Nat c1' c2') → Q (.ref D) { s with heap := h', toks := tk' }) :
    wpAny (model PySem.Challenge.rw_ie0008_01.row.prog w) (ktrTop dp un gd cn cs L ad ccd cl outer) (call (.ref 97) [.ref lr, .ref lo]) Q E s := by
  w_top off
  revert X0; k_fill; intro X0
  obtain ⟨⟨x1, x2, x3, x4⟩, ⟨x5, x6, x7, x8⟩⟩ := hne
  obtain ⟨rs, hrs⟩ : ∃ rs : List Int, rs = row.map fun (i : Nat) => (i : Int) := ⟨_, rfl⟩
  rw [← hrs] at hIr
  have hrl : rs.length = row.length := by rw [hrs, List.length_map]
  have hw : 1 ≤ a + b + c ∧ a + b + c ≤ 15 := sum15 ha hb hc
  have hpw : 0 ≤ ((rs.length : Nat) : Int) ∧ ((rs.length : Nat) : Int) ≤ 1000 ∧ ((a : Int) + (b : Int) + (c : Int)).natAbs < 2 ^ 64 := pow15 (by rw [hrl]; exact hlen) ha hb hc
  have hpe : ((a : Int) + (b : Int) + (c : Int)) ^ ((rs.length : Nat) : Int).toNat = (((a + b + c) ^ row.length : Nat) : Int) := by
    rw [Int.toNat_natCast, hrl]; push_cast; rfl
  have hIo : IntsAre [.int (a : Int) t1, .int (b : Int) t2, .int (c : Int) t3] [(a : Int), (b : Int), (c : Int)] := .cons _ _ (.cons _ _ (.cons _ _ .nil))
  refine wpAny_call ?_
  k_dflt (
    refine' enterX ?k1 ?k2 ?k4 ?k5 ?kA ?kF ?kK ?ho ?hd ?k7 ?k8 ?k9 ?kB ?kD ?c2 ?c3 ?c4 ?_ 
    case ho => exact (Frag.In.keeps X0 F.keep) 97 _ (by k_is)
    case hd => exact rfl
    case kA => exact rfl
    case kF => exact rfl
    case kK => assumption
    case k1 => k_asm
    case k2 => k_asm
    case k4 => exact N
    case k5 => exact Top.nolimit (by k_asm)
    case k7 => exact codeRec_of (Frag.In.keeps X0 F.keep) (by k_is)
    case k8 => ktr_room
    case k9 => exact BindsTo.of_eq rfl
    case kB => exact locs rfl
    case kD => decide
    case c2 => exact rfl
    case c3 => exact rfl
    case c4 => exact rfl)
  intro g' L' h' hg hL st F' N' lN B'
  have X' := X0.keeps st
  have T' := T.keeps st
  have C1' := C1.keeps st
  have C2' := C2.keeps st
  clear X0 T C1 C2 B0 st
  k_lt lN
  (try dsimp only)
  (try k_fold)
  k_steps
  refine Stop.on (shares_use (a := (a : Int)) (b := (b : Int)) (c := (c : Int)) (cast5 ha) (cast5 hb) (cast5 hc) (by k_asm) (by k_asm) (by k_asm) (by k_asm) rfl (by k_asm) (by k_asm) (by ktr_room) (by k_asm) (by k_mem) ?_)
  intro h5 tk5 D Dl szl sz' u1 u2 u3 t F5 N5 hD5 hDl5 hlt5
  simp only [AllLt, and_true] at hD5 hDl5
  try dsimp only
  try k_fold
  k_steps
  have hIs : IntsAre [.int 0 u1, .int (a : Int) u2, .int ((a : Int) + (b : Int)) u3] [0, (a : Int), (a : Int) + (b : Int)] := .cons _ _ (.cons _ _ (.cons _ _ .nil))
  rename News g' _ _ _ => N6
  rename Fr g' _ _ _ => F6
  refine Stop.on (loop_list (fun (z : StS) => [(Dl, listOf [.int 0 u1, .int (a : Int) u2, .int ((a : Int) + (b : Int)) u3].toArray szl), (lr, listOf vsr.toArray szr), (lo, listOf [.int (a : Int) t1, .int (b : Int) t2, .int (c : Int) t3].toArray szo), (30, z.o1), (z.c1, z.oc1), (37, z.o2), (z.c2, z.oc2)])
    (fun z => [(PySem.Str.ofString "low", .int (z.low : Int) z.tl), (PySem.Str.ofString "wide", .int (z.wide : Int) z.tw)]) ["part"]
    (fun i z => (z.low, z.wide) = part a b c row.length (row.take i) ∧ Tab1 z.o1 z.c1 z.oc1 ∧ Tab2 z.o2 z.c2 z.oc2 ∧ (@Ne Nat z.c1 37 ∧ @Ne Nat z.c2 30 ∧ @Ne Nat z.c1 z.c2) ∧ (@Ne Nat lr z.c1 ∧ @Ne Nat lr z.c2 ∧ @Ne Nat lo z.c1 ∧ @Ne Nat lo z.c2 ∧ @Ne Nat Dl z.c1 ∧ @Ne Nat Dl z.c2) ∧ ((@Eq Nat z.c1 c1 ∨ @LT.lt Nat _ L' z.c1) ∧ (@Eq Nat z.c2 c2 ∨ @LT.lt Nat _ L' z.c2)))
    ⟨0, (a + b + c) ^ row.length, _, _, o1, c1, oc1, o2, c2, oc2⟩ rfl hIr (fun _ => .tail _ (.head _)) F6 (fun p hp => N6 p (.tail _ (.tail _ hp))) (List.forall_mem_cons.mpr ⟨by with_unfolding_all rfl, List.forall_mem_cons.mpr ⟨by with_unfolding_all rfl, List.forall_mem_nil _⟩⟩) ⟨rfl, hT1, hT2, h12, ⟨x2, x4, x6, x8, Nat.ne_of_gt hDl5.2.2.2.1, Nat.ne_of_gt hDl5.2.2.2.2.2⟩, .inl rfl, .inl rfl⟩ ?turn ?done)
  case turn =>
    rintro i d t ⟨low, wide, tl, tw, o1, c1, oc1, o2, c2, oc2⟩ u it I h5 tk5 hd ⟨hpt, hT1, hT2, h12, hne9, hcs9⟩ ho9 F5 N5
    have ho9 := allNe_of ho9
    dsimp only at hpt hT1 hT2 h12 hne9 hcs9
    try dsimp only at F5 N5
    simp only [AllNe, and_true] at ho9
    obtain ⟨q1, q2, q3, q4, q5, q6, q7⟩ := ho9
    obtain ⟨n1, n2, n3, n4, n5, n6⟩ := hne9
    obtain ⟨j, hj, rfl⟩ : ∃ j : Nat, row[i]? = some j ∧ (j : Int) = d := by
      rw [hrs, List.getElem?_map] at hd
      cases e : row[i]? with
      | none => rw [e] at hd; cases hd
      | some j => rw [e] at hd; exact ⟨j, rfl, Option.some.inj hd⟩
    have hj3 : j < 3 := hrow j (List.mem_of_getElem? hj)
    have hsm := part_small (a := a) (b := b) (c := c) hw hlen (row.take i)
    rw [← hpt] at hsm
    have hol := oft_le ha.2 hb.2 hc.2 j
    try k_fold
    k_steps
    refine Stop.on (idm_use (X := wide) (B := a + b + c) (w30 hw) hsm.2 (by k_asm) (by k_asm) (by k_asm) (by k_asm) rfl (by k_asm) (by k_asm) (by ktr_room) (by k_asm) (by ktr_rel) hT1 (by ktr_rel) (by ktr_rel) hT2 (by ktr_rel) h12 (by exact ⟨⟨q4.symm, Nat.ne_of_gt hDl5.2.2.1, x1, x5, trivial⟩, ⟨q5.symm, n5, n1, n3, trivial⟩, ⟨q6.symm, Nat.ne_of_gt hDl5.2.2.2.2.1, x3, x7, trivial⟩, ⟨q7.symm, n6, n2, n4, trivial⟩⟩) rfl (by push_cast; rfl) ?_)
    intro h7 tk7 D7 t17 t27 sz7 o17 c17 oc17 o27 c27 oc27 F7 N7 hD7 hc17 hc27 hLD7 T17 T27 h127 hD37 hcs7
    simp only [AllLt, AllNe, and_true] at hD7 hc17 hc27
    obtain ⟨r1, r2, r3, r4⟩ := hc17
    obtain ⟨s1, s2, s3, s4⟩ := hc27
    rw [← Int.natCast_ediv, ← Int.natCast_emod] at N7
    try dsimp only
    try k_fold
    have hmul1 : ((wide / (a + b + c) : Nat) : Int) * [0, (a : Int), (a : Int) + (b : Int)].getD ((j : Int)).toNat 0 = ((wide / (a + b + c) * sms a b j : Nat) : Int) := by
      rw [sms_getD a b j hj3, Int.natCast_mul]
    have hmul2 : ((wide / (a + b + c) : Nat) : Int) * [(a : Int), (b : Int), (c : Int)].getD ((j : Int)).toNat 0 = ((wide / (a + b + c) * oft a b c j : Nat) : Int) := by
      rw [oft_getD a b c j hj3, Int.natCast_mul]
    have hadd : (low : Int) + ((wide / (a + b + c) * sms a b j : Nat) : Int) = ((low + wide / (a + b + c) * sms a b j : Nat) : Int) := by push_cast; rfl
    have hb1 : ([0, (a : Int), (a : Int) + (b : Int)].getD ((j : Int)).toNat 0).natAbs < 2 ^ 63 := by rw [sms_getD a b j hj3]; exact abs_one (sms_oft a b c j) hw.2
    have hb2 : ([(a : Int), (b : Int), (c : Int)].getD ((j : Int)).toNat 0).natAbs < 2 ^ 63 := by rw [oft_getD a b c j hj3]; exact abs_two (sms_oft a b c j) hw.2
    k_steps
    rename News g' _ _ _ => N8
    rename Fr g' _ _ _ => F8
    show TEnd _ _ _ _ _ _ _ _ _ _ _ _
    refine ⟨_, _, _, ⟨low + wide / (a + b + c) * sms a b j, wide / (a + b + c) * oft a b c j, _, _, o17, c17, oc17, o27, c27, oc27⟩, rfl, F8, ?nn, ?off, List.forall_mem_cons.mpr ⟨by with_unfolding_all rfl, List.forall_mem_cons.mpr ⟨by with_unfolding_all rfl, List.forall_mem_nil _⟩⟩, ?same, ?pt, T17, T27, h127, ?ne, ?cs⟩
    case nn => exact news_sub N8 (List.forall_mem_cons.mpr ⟨by k_mem, List.forall_mem_cons.mpr ⟨by k_mem, List.forall_mem_cons.mpr ⟨by k_mem, List.forall_mem_cons.mpr ⟨by k_mem, List.forall_mem_cons.mpr ⟨by k_mem, List.forall_mem_cons.mpr ⟨by k_mem, List.forall_mem_cons.mpr ⟨by k_mem, List.forall_mem_cons.mpr ⟨by k_mem, List.forall_mem_nil _⟩⟩⟩⟩⟩⟩⟩⟩)
    case off => exact allNe_mem ⟨q1, q2, q3, q4, r1.symm, q6, s1.symm, trivial⟩
    case same =>
      intro z h1 h2 h3
      have h21 := h2 _ (List.mem_cons_self ..)
      have h22 := h2 _ (List.mem_cons_of_mem _ (List.mem_cons_self ..))
      have h4 : z ≠ PySem.Str.ofString "part" := by simpa using h3
      simp only [kstB, h1, h21, h22, h3, h4, if_false, Bool.false_eq_true]
    case pt =>
      dsimp only
      rw [List.take_add_one, hj, Option.toList_some, part_snoc, ← hpt, stp]
    case ne => exact ⟨r3, s3, r4, s4, r2, s2⟩
    case cs =>
      refine ⟨?_, ?_⟩
      · rcases hcs7.1 with h | h
        · rcases hcs9.1 with h' | h'
          · exact .inl (h.trans h')
          · exact .inr (by rw [h]; exact h')
        · exact .inr h
      · rcases hcs7.2 with h | h
        · rcases hcs9.2 with h' | h'
          · exact .inl (h.trans h')
          · exact .inr (by rw [h]; exact h')
        · exact .inr h
  case done =>
    rintro ⟨low, wide, tl, tw, o17, c17, oc17, o27, c27, oc27⟩ u h5 tk5 ⟨hpt, hT17, hT27, h127, hne7, hcs7⟩ F5 N5
    dsimp only at hpt hT17 hT27 h127 hne7 hcs7
    try dsimp only at F5 N5
    rw [hrl, List.take_length] at hpt
    try k_fold
    k_steps
    try dsimp only
    refine leaveC_of (by k_asm) (by k_asm) ?_
    rename News g' _ _ _ => N8
    rename Fr g' _ _ _ => F8
    have e1 : low = (stretch a b c row).1 := congrArg Prod.fst hpt
    have e2 : wide = (stretch a b c row).2 := congrArg Prod.snd hpt
    rw [e1, e2] at N8
    refine hret _ _ _ _ _ _ _ _ _ _ _ _ (keeps_end hg hL N F8 ?zk) ?zD (N8 (_, _) (.head _)).1 (N8 (30, o17) (by k_mem)).1 (N8 (c17, oc17) (by k_mem)).1 hT17 ?z1 (N8 (37, o27) (by k_mem)).1 (N8 (c27, oc27) (by k_mem)).1 hT27 ?z2 ?z3
    case zk =>
      intro p hp hs
      simp only [List.mem_cons, List.not_mem_nil, or_false] at hp hs
      rcases hp with rfl | rfl | rfl | rfl | rfl | rfl
      · exact (N8 (lr, _) (by k_mem)).1
      · exact (N8 (lo, _) (by k_mem)).1
      · exact absurd (.inl rfl) hs
      · exact absurd (.inr (.inl rfl)) hs
      · exact absurd (.inr (.inr (.inl rfl))) hs
      · exact absurd (.inr (.inr (.inr rfl))) hs
    case zD => omega
    case z1 => exact hcs7.1.imp id fun h => Nat.le_trans hL (Nat.le_of_lt h)
    case z2 => exact hcs7.2.imp id fun h => Nat.le_trans hL (Nat.le_of_lt h)
    case z3 => exact ⟨by omega, by omega, h127.2.2⟩
end
end Mine
end
section
open PySem PySem.W PyProof.Rows PySem.Calls PySem.Spec
set_option maxRecDepth 100000
namespace Mine

/-- what a frame has behind a call that turns the two tables alone and makes one object -/
theorem tab_back {h₀ h h' : Heap} {L : Addr} {m : Str → Option Value} {o1 : Obj} {c1 : Addr} {oc1 : Obj} {o2 : Obj} {c2 : Addr} {oc2 : Obj} {led l1 l2 l3 own : Led} {D : Addr} {oD o1' : Obj} {c1' : Addr} {oc1' o2' : Obj} {c2' : Addr} {oc2' : Obj}
    (K : Keeps [30, c1, 37, c2] h h') (F : Fr h₀ L h m) (N : News h₀ L h led) (P1 : Pull (30, o1) led l1) (P2 : Pull (c1, oc1) l1 l2) (P3 : Pull (37, o2) l2 l3) (P4 : Pull (c2, oc2) l3 own)
    (h12 : @Ne Nat c1 37 ∧ @Ne Nat c2 30 ∧ @Ne Nat c1 c2) (hne : AllNe 30 own ∧ AllNe c1 own ∧ AllNe 37 own ∧ AllNe c2 own)
    (hD : h.objs.size ≤ D) (gD : h'.get? D = some oD) (g30 : h'.get? 30 = some o1') (gc1 : h'.get? c1' = some oc1') (hc1 : c1' = c1 ∨ h.objs.size ≤ c1') (g37 : h'.get? 37 = some o2') (gc2 : h'.get? c2' = some oc2') (hc2 : c2' = c2 ∨ h.objs.size ≤ c2')
    (hcc : @Ne Nat c1' c2') :
    Fr h₀ L h' m ∧ News h₀ L h' ((D, oD) :: (30, o1') :: (c1', oc1') :: (37, o2') :: (c2', oc2') :: own) ∧ AllLt D own ∧ AllNe c1' own ∧ AllNe c2' own ∧ @LT.lt Nat _ L D ∧ (@Ne Nat c1' 37 ∧ @Ne Nat c2' 30 ∧ @Ne Nat c1' c2') ∧ (30 < D ∧ 37 < D) ∧
      ((@Eq Nat c1' c1 ∨ @LT.lt Nat _ L c1') ∧ (@Eq Nat c2' c2 ∨ @LT.lt Nat _ L c2')) := by
  have m1 := P1.mem
  have m2 := P1.sub _ P2.mem
  have m3 := P1.sub _ (P2.sub _ P3.mem)
  have m4 := P1.sub _ (P2.sub _ (P3.sub _ P4.mem))
  have hsub : ∀ p ∈ own, p ∈ led := fun p hp => P1.sub p (P2.sub p (P3.sub p (P4.sub p hp)))
  have lt := fun p hp => Heap.lt_size (N p hp).1
  have l30 : 30 < h.objs.size := lt _ m1
  have l37 : 37 < h.objs.size := lt _ m3
  have own_lt : ∀ p ∈ own, p.1 < h.objs.size := fun p hp => lt p (hsub p hp)
  have c1n : h'.get? c1' = some oc1' ∧ c1' ≠ L ∧ h₀.get? c1' = none := by
    rcases hc1 with rfl | hc
    · exact news_same N m2 gc1
    · exact news_new F hc gc1
  have c2n : h'.get? c2' = some oc2' ∧ c2' ≠ L ∧ h₀.get? c2' = none := by
    rcases hc2 with rfl | hc
    · exact news_same N m4 gc2
    · exact news_new F hc gc2
  refine ⟨fr_keeps K F (news_sub N (List.forall_mem_cons.mpr ⟨m1, List.forall_mem_cons.mpr ⟨m2, List.forall_mem_cons.mpr ⟨m3, List.forall_mem_cons.mpr ⟨m4, List.forall_mem_nil _⟩⟩⟩⟩)) (fun b hb => by simpa using hb), fun p hp => ?_, allLt_of fun p hp => Nat.lt_of_lt_of_le (own_lt p hp) hD, allNe_of fun p hp => ?_, allNe_of fun p hp => ?_, Nat.lt_of_lt_of_le F.ns.lt hD, ⟨?_, ?_, hcc⟩,
    ⟨Nat.lt_of_lt_of_le l30 hD, Nat.lt_of_lt_of_le l37 hD⟩, hc1.imp id fun h => Nat.lt_of_lt_of_le F.ns.lt h, hc2.imp id fun h => Nat.lt_of_lt_of_le F.ns.lt h⟩
  · rcases List.mem_cons.mp hp with rfl | hp
    · exact news_new F hD gD
    · rcases List.mem_cons.mp hp with rfl | hp
      · exact news_same N m1 g30
      · rcases List.mem_cons.mp hp with rfl | hp
        · exact c1n
        · rcases List.mem_cons.mp hp with rfl | hp
          · exact news_same N m3 g37
          · rcases List.mem_cons.mp hp with rfl | hp
            · exact c2n
            · refine news_keeps K N p (hsub p hp) fun q => ?_
              simp only [List.mem_cons, List.not_mem_nil, or_false] at q
              rcases q with q | q | q | q
              · exact allNe_mem hne.1 p hp q
              · exact allNe_mem hne.2.1 p hp q
              · exact allNe_mem hne.2.2.1 p hp q
              · exact allNe_mem hne.2.2.2 p hp q
  · rcases hc1 with rfl | hc
    · exact allNe_mem hne.2.1 p hp
    · exact Nat.ne_of_lt (Nat.lt_of_lt_of_le (own_lt p hp) hc)
  · rcases hc2 with rfl | hc
    · exact allNe_mem hne.2.2.2 p hp
    · exact Nat.ne_of_lt (Nat.lt_of_lt_of_le (own_lt p hp) hc)
  · rcases hc1 with rfl | hc
    · exact h12.1
    · exact Nat.ne_of_gt (Nat.lt_of_lt_of_le l37 hc)
  · rcases hc2 with rfl | hc
    · exact h12.2.1
    · exact Nat.ne_of_gt (Nat.lt_of_lt_of_le l30 hc)

theorem stretch_use {w : World} {p : Program} {loose : List Str} {mean : ExcName → Option Value} {mg mb : Str → Option Value} {a b c : Nat} (ha : 1 ≤ a ∧ a ≤ 5) (hb : 1 ≤ b ∧ b ≤ 5) (hc : 1 ≤ c ∧ c ≤ 5) {row : List Nat} (hrow : ∀ i ∈ row, i < 3) (hlen : row.length ≤ 6)
    {dp un : Nat} {gd : Option (List Code)} {cn : Str} {cs : Scope} {ad : Addr} {ccd : Value} {cl : List (Str × Addr)} {outer : List Env} {A₀ : Around} {base h₀ : Heap} {L : Addr} {m : Str → Option Value} {s : Shared} {Q E : Value → Shared → Prop}
    {lr lo szr szo : Nat} {vsr : List Value} {t1 t2 t3 : Tok} {o1 : Obj} {c1 : Addr} {oc1 : Obj} {o2 : Obj} {c2 : Addr} {oc2 : Obj} {led l1 l2 l3 own : Led}
    (B0 : Below A₀ base outer h₀) (F : Fr h₀ L s.heap m) (X0 : (hd.heap_39 w.params).In h₀) (T : Top p loose mean mg mb h₀) (hcs : cs.kind = .function) (C1 : CodeHd h₀ 34 30) (C2 : CodeHd h₀ 41 37) (hroom : dp + 100 < recursionLimit)
    (N : News h₀ L s.heap led) (P1 : Pull (30, o1) led l1) (hT1 : Tab1 o1 c1 oc1) (P2 : Pull (c1, oc1) l1 l2) (P3 : Pull (37, o2) l2 l3) (hT2 : Tab2 o2 c2 oc2) (P4 : Pull (c2, oc2) l3 own)
    (mr : (lr, listOf vsr.toArray szr) ∈ own) (mo : (lo, listOf [.int (a : Int) t1, .int (b : Int) t2, .int (c : Int) t3].toArray szo) ∈ own) (hIr : IntsAre vsr (row.map fun (i : Nat) => (i : Int)))
    (h12 : @Ne Nat c1 37 ∧ @Ne Nat c2 30 ∧ @Ne Nat c1 c2) (hne : AllNe 30 own ∧ AllNe c1 own ∧ AllNe 37 own ∧ AllNe c2 own)
    (hret : ∀ h' tk' D t1 t2 sz o1' c1' oc1' o2' c2' oc2', Fr h₀ L h' m → News h₀ L h' ((D, { cls := .type "tuple", data := .seq #[.int ((stretch a b c row).1 : Int) t1, .int ((stretch a b c row).2 : Int) t2] sz }) :: (30, o1') :: (c1', oc1') :: (37, o2') :: (c2', oc2') :: own) →
      AllLt D own → AllNe c1' own → AllNe c2' own → @LT.lt Nat _ L D → Tab1 o1' c1' oc1' → Tab2 o2' c2' oc2' → (@Ne Nat c1' 37 ∧ @Ne Nat c2' 30 ∧ @Ne Nat c1' c2') → (30 < D ∧ 37 < D ∧ @LT.lt Nat _ c1' D ∧ @LT.lt Nat _ c2' D) → ((@Eq Nat c1' c1 ∨ @LT.lt Nat _ L c1') ∧ (@Eq Nat c2' c2 ∨ @LT.lt Nat _ L c2')) → Q (.ref D) { s with heap := h', toks := tk' }) :
    wpAny (model PySem.Challenge.rw_ie0008_01.row.prog w) (ktrTop dp un gd cn cs L ad ccd cl outer) (call (.ref 97) [.ref lr, .ref lo]) Q E s := by
  have m1 := P1.mem
  have m2 := P1.sub _ P2.mem
  have m3 := P1.sub _ (P2.sub _ P3.mem)
  have m4 := P1.sub _ (P2.sub _ (P3.sub _ P4.mem))
  have hsub : ∀ p ∈ own, p ∈ led := fun p hp => P1.sub p (P2.sub p (P3.sub p (P4.sub p hp)))
  refine stretch_ok w p loose mean mg mb a b c ha hb hc row hrow hlen dp un gd cn cs ad ccd cl outer A₀ base h₀ L m s Q E lr lo szr szo vsr t1 t2 t3 o1 c1 oc1 o2 c2 oc2 B0 F X0 T hcs C1 C2 hroom
    (news_sub N (List.forall_mem_cons.mpr ⟨hsub _ mr, List.forall_mem_cons.mpr ⟨hsub _ mo, List.forall_mem_cons.mpr ⟨m1, List.forall_mem_cons.mpr ⟨m2, List.forall_mem_cons.mpr ⟨m3, List.forall_mem_cons.mpr ⟨m4, List.forall_mem_nil _⟩⟩⟩⟩⟩⟩)) hIr hT1 hT2 h12
    ⟨⟨allNe_mem hne.1 _ mr, allNe_mem hne.2.1 _ mr, allNe_mem hne.2.2.1 _ mr, allNe_mem hne.2.2.2 _ mr⟩, ⟨allNe_mem hne.1 _ mo, allNe_mem hne.2.1 _ mo, allNe_mem hne.2.2.1 _ mo, allNe_mem hne.2.2.2 _ mo⟩⟩
    fun h' tk' D t1 t2 sz o1' c1' oc1' o2' c2' oc2' K hD gD g30 gc1 T1' hc1 g37 gc2 T2' hc2 hcc => ?_
  obtain ⟨q1, q2, q3, q4, q5, q6, q7, q8, q9⟩ := tab_back K F N P1 P2 P3 P4 h12 hne hD gD g30 gc1 hc1 g37 gc2 hc2 hcc.2.2
  exact hret h' tk' D t1 t2 sz o1' c1' oc1' o2' c2' oc2' q1 q2 q3 q4 q5 q6 T1' T2' q7 ⟨q8.1, q8.2, hcc.1, hcc.2.1⟩ q9

section
local macro_rules | `(tactic| walk_at "subscriptTail Name Name ref int") => `(tactic| (k_here; (with_reducible show wpAny _ _ (subscriptTail _ _ (Value.ref _) (Value.int _ _)) _ _ _); (k_dflt (refine' item_written ?k1 ?k2 ?k3 ?k4 ?k5 ?_ ?k6; (case k1 => k_asm); (case k2 => k_mem); (case k3 => decide); (case k4 => decide); (case k5 => rfl); (case k6 => with_unfolding_all rfl)); k_whole)))

set_option maxHeartbeats 8000000 in
theorem bisect_ok (w : World) (p : Program) (loose : List Str) (mean : ExcName → Option Value) (mg mb : Str → Option Value) (a b c j : Nat) (hj : j < 3) (x : Int) (hx : (sms a b j : Int) ≤ x ∧ x < (sms a b j : Int) + (oft a b c j : Int)) (hab : 1 ≤ a ∧ 1 ≤ b)
    (dp un : Nat) (gd : Option (List Code)) (cn : Str) (cs : Scope) (ad : Addr) (ccd : Value) (cl : List (Str × Addr)) (outer : List Env) (A₀ : Around) (base h₀ : Heap) (L : Addr) (m : Str → Option Value) (s : Shared) (Q E : Value → Shared → Prop)
    (l sz : Nat) (t1 t2 t3 tx : Tok)
    (B0 : Below A₀ base outer h₀) (F : Fr h₀ L s.heap m) (X0 : (hd.heap_39 w.params).In h₀) (T : Top p loose mean mg mb h₀) (hcs : cs.kind = .function) (C1 : CodeHd h₀ 34 30) (C2 : CodeHd h₀ 41 37) (hroom : dp + 10 < recursionLimit)
    (N : News h₀ L s.heap [(l, listOf [.int 0 t1, .int (a : Int) t2, .int ((a : Int) + (b : Int)) t3].toArray sz)])
    (hret : ∀ h' tk' t, Keeps [] s.heap h' → Q (.int ((j + 1 : Nat) : Int) t) { s with heap := h', toks := tk' }) :
    wpAny (model PySem.Challenge.rw_ie0008_01.row.prog w) (ktrTop dp un gd cn cs L ad ccd cl outer) (call (.ref 65) [.ref l, .int x tx]) Q E s := by
  w_top off
  revert X0; k_fill; intro X0
  have hI : IntsAre [.int 0 t1, .int (a : Int) t2, .int ((a : Int) + (b : Int)) t3] [0, (a : Int), (a : Int) + (b : Int)] := .cons _ _ (.cons _ _ (.cons _ _ .nil))
  have hx' : (j = 0 ∧ 0 ≤ x ∧ x < (a : Int)) ∨ (j = 1 ∧ (a : Int) ≤ x ∧ x < (a : Int) + (b : Int)) ∨ (j = 2 ∧ (a : Int) + (b : Int) ≤ x) := by
    have h3 : j = 0 ∨ j = 1 ∨ j = 2 := by omega
    rcases h3 with rfl | rfl | rfl
    · refine .inl ⟨rfl, ?_⟩; simpa [sms, oft] using hx
    · refine .inr (.inl ⟨rfl, ?_⟩); simpa [sms, oft] using hx
    · refine .inr (.inr ⟨rfl, ?_⟩); have := hx.1; simpa [sms] using this
  clear hx
  refine wpAny_call ?_
  k_dflt (
    refine' enterX ?k1 ?k2 ?k4 ?k5 ?kA ?kF ?kK ?ho ?hd ?k7 ?k8 ?k9 ?kB ?kD ?c2 ?c3 ?c4 ?_ 
    case ho => exact (Frag.In.keeps X0 F.keep) 65 _ (by k_is)
    case hd => exact rfl
    case kA => exact rfl
    case kF => exact rfl
    case kK => assumption
    case k1 => k_asm
    case k2 => k_asm
    case k4 => exact N
    case k5 => exact Top.nolimit (by k_asm)
    case k7 => exact codeRec_of (Frag.In.keeps X0 F.keep) (by k_is)
    case k8 => ktr_room
    case k9 => (refine' kp_binds ?kx ?ke; (case kx => k_in); (case ke => exact fun _ => rfl))
    case kB => exact locs rfl
    case kD => decide
    case c2 => exact rfl
    case c3 => exact rfl
    case c4 => exact rfl)
  intro g' L' h' hg hL st F' N' lN B'
  have X' := X0.keeps st
  have T' := T.keeps st
  have C1' := C1.keeps st
  have C2' := C2.keeps st
  clear X0 T C1 C2 B0 st
  k_lt lN
  (try dsimp only)
  rcases hx' with ⟨rfl, hx0, hx1⟩ | ⟨rfl, hx0, hx1⟩ | ⟨rfl, hx0⟩
  all_goals have hr : ∀ h' tk' t (v : Int), v = ((_ + 1 : Nat) : Int) → Keeps [] s.heap h' → Q (.int v t) { s with heap := h', toks := tk' } := fun h' tk' t v e k => by rw [e]; exact hret h' tk' t k
  all_goals (try k_fold)
  all_goals k_steps
  all_goals (
    dsimp only
    rename News g' _ _ _ => N9
    refine leaveC_of (by k_asm) N9 ?_
    exact hr _ _ _ _ (by decide) (keeps_none hg hL N (by k_asm) N9))
end
end Mine
end
section
open PySem PySem.W PyProof.Rows PySem.Calls PySem.Spec
set_option maxRecDepth 100000
namespace Mine

theorem bisect_use {w : World} {p : Program} {loose : List Str} {mean : ExcName → Option Value} {mg mb : Str → Option Value} {a b c j : Nat} (hj : j < 3) {x : Int} (hx : (sms a b j : Int) ≤ x ∧ x < (sms a b j : Int) + (oft a b c j : Int)) (hab : 1 ≤ a ∧ 1 ≤ b)
    {dp un : Nat} {gd : Option (List Code)} {cn : Str} {cs : Scope} {ad : Addr} {ccd : Value} {cl : List (Str × Addr)} {outer : List Env} {A₀ : Around} {base h₀ : Heap} {L : Addr} {m : Str → Option Value} {s : Shared} {Q E : Value → Shared → Prop}
    {l sz : Nat} {t1 t2 t3 tx : Tok} {led : Led}
    (B0 : Below A₀ base outer h₀) (F : Fr h₀ L s.heap m) (X0 : (hd.heap_39 w.params).In h₀) (T : Top p loose mean mg mb h₀) (hcs : cs.kind = .function) (C1 : CodeHd h₀ 34 30) (C2 : CodeHd h₀ 41 37) (hroom : dp + 10 < recursionLimit)
    (N : News h₀ L s.heap led) (hm : (l, listOf [.int 0 t1, .int (a : Int) t2, .int ((a : Int) + (b : Int)) t3].toArray sz) ∈ led)
    (hret : ∀ h' tk' t, Fr h₀ L h' m → News h₀ L h' led → Q (.int ((j + 1 : Nat) : Int) t) { s with heap := h', toks := tk' }) :
    wpAny (model PySem.Challenge.rw_ie0008_01.row.prog w) (ktrTop dp un gd cn cs L ad ccd cl outer) (call (.ref 65) [.ref l, .int x tx]) Q E s :=
  bisect_ok w p loose mean mg mb a b c j hj x hx hab dp un gd cn cs ad ccd cl outer A₀ base h₀ L m s Q E l sz t1 t2 t3 tx B0 F X0 T hcs C1 C2 hroom (news_sub N (List.forall_mem_cons.mpr ⟨hm, List.forall_mem_nil _⟩)) fun h' tk' t K => hret h' tk' t (kept K F N).1 (kept K F N).2

structure StB where
  num : Nat
  wide : Nat
  tn : Tok
  tw : Tok
  us : List Value
  sz : Nat
  o1 : Obj
  c1 : Nat
  oc1 : Obj
  o2 : Obj
  c2 : Nat
  oc2 : Obj
/-- over a range, a list of the ledger growing -/
theorem loop_rangeL {prog : Program} {w : World} {A : Around} {E : Value → Shared → Prop} {s : Shared} {env : Env} {h₀ : Heap} {x : Str} {body : List Stmt} {Q : Flow → Shared → Prop} {σ : Type}
    (vq : σ → List Value) (sq : σ → Nat) (rest : σ → Led) (ps : σ → List (Str × Value)) (stored : List Str) (P : Nat → Nat → σ → Prop) (c₀ : σ) {l : Nat} {led : Led} {r : Addr} {t₀ u₀ v₀ : Tok} {n : Nat} {b₀ : Int} {m₀ : Str → Option Value}
    (hh : A.handled = none) (hr : IsRange s.heap r 0 b₀ 1 t₀ u₀ v₀) (hb : b₀ = (n : Int)) (hn : n < 2 ^ 62) (F : Fr h₀ env.locals s.heap m₀) (N : News h₀ env.locals s.heap led) (hm : (l, listOf (vq c₀).toArray (sq c₀)) ∈ led) (hrest : ∀ p ∈ rest c₀, p ∈ led) (hps : ∀ p ∈ ps c₀, m₀ p.1 = some p.2) (hP : P l 0 c₀)
    (turn : ∀ i t c (u : Str → Option Value) it I h tk, i < n → P l i c → (∀ p ∈ (l, listOf (vq c).toArray (sq c)) :: rest c, p.1 ≠ I) →
      Fr h₀ env.locals h (fun y => if y = x then some (.int (i : Int) t) else kstB (fun z => if stored.contains z then u z else m₀ z) (ps c) y) → News h₀ env.locals h ((I, it) :: (l, listOf (vq c).toArray (sq c)) :: rest c) →
      wpAny (model prog w) A (execs body env) (TPost (fun c => (l, listOf (vq c).toArray (sq c)) :: rest c) ps stored x m₀ (P l (i + 1)) h₀ env.locals I it { s with heap := h, toks := tk } Q) E { s with heap := h, toks := tk })
    (done : ∀ c (u : Str → Option Value) h tk, P l n c → Fr h₀ env.locals h (fun y => if y = x then u y else kstB (fun z => if stored.contains z then u z else m₀ z) (ps c) y) → News h₀ env.locals h ((l, listOf (vq c).toArray (sq c)) :: rest c) → Q .next { s with heap := h, toks := tk }) :
    wpAny (model prog w) A (pyIter (.ref r)) (fun it s₂ => LoopAtV prog w A h₀ env x body Q E it s₂) E s :=
  loop_range (fun c => (l, listOf (vq c).toArray (sq c)) :: rest c) ps stored (P l) c₀ hh hr hb hn F (fun p hp => (List.mem_cons.mp hp).elim (fun e => by rw [e]; exact N _ hm) fun h => N p (hrest p h)) hps hP turn done
section
variable {prog : Program} {w : World} {A : Around} {E : Value → Shared → Prop} {s : Shared} {a b : Int} {t u : Tok} {Q : Value → Shared → Prop}
theorem sub_to {r : Int} (e : a - b = r) (h : Q (.int r s.toks) { s with toks := s.toks + 1 }) : wpAny (model prog w) A (binaryOp .Sub (.int a t) (.int b u)) Q E s :=
  sub_int (by rw [e]; exact h)
end
section
local macro_rules | `(tactic| walk_at "call ref") => `(tactic| ((with_reducible show wpAny _ _ (call (Value.ref 90) _) _ _ _); refine stop_of ?_))
local macro_rules | `(tactic| walk_at "call ref") => `(tactic| ((with_reducible show wpAny _ _ (call (Value.ref 56) _) _ _ _); refine stop_of ?_))
local macro_rules | `(tactic| walk_at "call ref") => `(tactic| ((with_reducible show wpAny _ _ (call (Value.ref 65) _) _ _ _); refine stop_of ?_))
local macro_rules | `(tactic| walk_at "pyIter ref") => `(tactic| refine stop_of ?_)
local macro_rules | `(tactic| walk_at "binaryOp Pow int int") => `(tactic| (refine pow_to (by assumption) (by assumption) ?_; intro _ _))
local macro_rules | `(tactic| walk_at "binaryOp Mult int int") => `(tactic| (with_reducible refine mul_to (by assumption) (by assumption) ?_))
local macro_rules | `(tactic| walk_at "binaryOp Sub int int") => `(tactic| (with_reducible refine sub_to (by assumption) ?_))
local macro_rules | `(tactic| walk_at "newList") => `(tactic| (k_here; k_dflt (refine' newList_L ?k1 ?k2 ?k3 ?_; (case k1 => k_asm); (case k2 => k_asm); (case k3 => size_fits); k_whole); intro l' h' F' N' l1 hLl; (try k_lt l1); (try k_sweep)))
local macro_rules | `(tactic| walk_at "call type:range") => `(tactic| ((k_dflt (refine range1_rows (by k_asm) (by k_asm) ?_)); intro _ _ _ _ _ hR9 F' N' _))
local macro_rules | `(tactic| k_mem) => `(tactic| assumption)

local macro_rules | `(tactic| walk1) => `(tactic| ((with_reducible show wpAny _ _ (exec _ _) _ _ _); k_fold))
set_option maxHeartbeats 8000000 in
theorem back_ok (w : World) (p : Program) (loose : List Str) (mean : ExcName → Option Value) (mg mb : Str → Option Value) (a b c : Nat) (ha : 1 ≤ a ∧ a ≤ 5) (hb : 1 ≤ b ∧ b ≤ 5) (hc : 1 ≤ c ∧ c ≤ 5) (row : List Nat) (hrow : ∀ i ∈ row, i < 3) (hlen : row.length ≤ 6)
    (num : Nat) (hn0 : (stretch a b c row).1 ≤ num) (hn1 : num < (stretch a b c row).1 + (stretch a b c row).2)
    (dp un : Nat) (gd : Option (List Code)) (cn : Str) (cs : Scope) (ad : Addr) (ccd : Value) (cl : List (Str × Addr)) (outer : List Env) (A₀ : Around) (base h₀ : Heap) (L : Addr) (m : Str → Option Value) (s : Shared) (Q E : Value → Shared → Prop)
    (lo szo : Nat) (t1 t2 t3 tx ty : Tok) (x y : Int) (o1 : Obj) (c1 : Addr) (oc1 : Obj) (o2 : Obj) (c2 : Addr) (oc2 : Obj)
    (B0 : Below A₀ base outer h₀) (F : Fr h₀ L s.heap m) (X0 : (hd.heap_39 w.params).In h₀) (T : Top p loose mean mg mb h₀) (hcs : cs.kind = .function) (C1 : CodeHd h₀ 34 30) (C2 : CodeHd h₀ 41 37) (hroom : dp + 100 < recursionLimit)
    (N : News h₀ L s.heap [(lo, listOf [.int (a : Int) t1, .int (b : Int) t2, .int (c : Int) t3].toArray szo), (30, o1), (c1, oc1), (37, o2), (c2, oc2)])
    (hT1 : Tab1 o1 c1 oc1) (hT2 : Tab2 o2 c2 oc2) (h12 : @Ne Nat c1 37 ∧ @Ne Nat c2 30 ∧ @Ne Nat c1 c2) (hne : lo ≠ 30 ∧ @Ne Nat lo c1 ∧ lo ≠ 37 ∧ @Ne Nat lo c2) (hx : x = (num : Int)) (hy : y = (row.length : Int))
    (hret : ∀ h' tk' D sz us o1' c1' oc1' o2' c2' oc2', Keeps [30, c1, 37, c2] s.heap h' → s.heap.objs.size ≤ D → h'.get? D = some (listOf us.toArray sz) → IntsAre us (row.map fun (i : Nat) => (i : Int)) →
      h'.get? 30 = some o1' → h'.get? c1' = some oc1' → Tab1 o1' c1' oc1' → (c1' = c1 ∨ s.heap.objs.size ≤ c1') → h'.get? 37 = some o2' → h'.get? c2' = some oc2' → Tab2 o2' c2' oc2' → (c2' = c2 ∨ s.heap.objs.size ≤ c2') → @Ne Nat c1' c2' → Q (.ref D) { s with heap := h', toks := tk' }) :
    wpAny (model PySem.Challenge.rw_ie0008_01.row.prog w) (ktrTop dp un gd cn cs L ad ccd cl outer) (call (.ref 104) [.int x tx, .int y ty, .ref lo]) Q E s := by
  w_top off
  subst hx; subst hy
  revert X0; k_fill; intro X0
  replace hne := Ap.mk hne
  replace h12 := Ap.mk h12
  have hw : 1 ≤ a + b + c ∧ a + b + c ≤ 15 := sum15 ha hb hc
  have hpw : 0 ≤ ((row.length : Nat) : Int) ∧ ((row.length : Nat) : Int) ≤ 1000 ∧ ((a : Int) + (b : Int) + (c : Int)).natAbs < 2 ^ 64 := pow15 hlen ha hb hc
  have hpe : ((a : Int) + (b : Int) + (c : Int)) ^ ((row.length : Nat) : Int).toNat = (((a + b + c) ^ row.length : Nat) : Int) := by
    rw [Int.toNat_natCast]; push_cast; rfl
  have hIo : IntsAre [.int (a : Int) t1, .int (b : Int) t2, .int (c : Int) t3] [(a : Int), (b : Int), (c : Int)] := .cons _ _ (.cons _ _ (.cons _ _ .nil))
  refine wpAny_call ?_
  k_dflt (
    refine' enterX ?k1 ?k2 ?k4 ?k5 ?kA ?kF ?kK ?ho ?hd ?k7 ?k8 ?k9 ?kB ?kD ?c2 ?c3 ?c4 ?_ 
    case ho => exact (Frag.In.keeps X0 F.keep) 104 _ (by k_is)
    case hd => exact rfl
    case kA => exact rfl
    case kF => exact rfl
    case kK => assumption
    case k1 => k_asm
    case k2 => k_asm
    case k4 => exact N
    case k5 => exact Top.nolimit (by k_asm)
    case k7 => exact codeRec_of (Frag.In.keeps X0 F.keep) (by k_is)
    case k8 => ktr_room
    case k9 => exact BindsTo.of_eq rfl
    case kB => exact locs rfl
    case kD => decide
    case c2 => exact rfl
    case c3 => exact rfl
    case c4 => exact rfl)
  intro g' L' h' hg hL st F' N' lN B'
  have X' := X0.keeps st
  have T' := T.keeps st
  have C1' := C1.keeps st
  have C2' := C2.keeps st
  clear X0 T C1 C2 B0 st
  k_lt lN
  (try dsimp only)
  (try k_fold)
  k_steps
  refine Stop.on (shares_use (a := (a : Int)) (b := (b : Int)) (c := (c : Int)) (cast5 ha) (cast5 hb) (cast5 hc) (by k_asm) (by k_asm) (by k_asm) (by k_asm) rfl (by k_asm) (by k_asm) (by ktr_room) (by k_asm) (by k_mem) ?_)
  intro h5 tk5 D Dl szl sz' u1 u2 u3 t F5 N5 hD5 hDl5 hlt5
  simp only [AllLt, and_true] at hD5 hDl5
  try dsimp only
  try k_fold
  k_steps
  have hIs : IntsAre [.int 0 u1, .int (a : Int) u2, .int ((a : Int) + (b : Int)) u3] [0, (a : Int), (a : Int) + (b : Int)] := .cons _ _ (.cons _ _ (.cons _ _ .nil))
  rename News g' _ _ _ => N6
  rename Fr g' _ _ _ => F6
  rename (@LT.lt Nat _ D _) ∧ _ => hl1
  rename (@LT.lt Nat _ L' _) => hLl
  have hfit : row.length < 2 ^ 62 := fit6 hlen
  refine Stop.on (loop_rangeL (σ := StB) (fun z => z.us) (fun z => z.sz) (fun z => [(Dl, listOf [.int 0 u1, .int (a : Int) u2, .int ((a : Int) + (b : Int)) u3].toArray szl), (lo, listOf [.int (a : Int) t1, .int (b : Int) t2, .int (c : Int) t3].toArray szo), (30, z.o1), (z.c1, z.oc1), (37, z.o2), (z.c2, z.oc2)])
    (fun z => [(PySem.Str.ofString "number", .int (z.num : Int) z.tn), (PySem.Str.ofString "wide", .int (z.wide : Int) z.tw)]) ["part", "place", "letter"]
    (fun l i z => z.num = num - (part a b c row.length (row.take i)).1 ∧ z.wide = (part a b c row.length (row.take i)).2 ∧ IntsAre z.us ((row.take i).map fun (i : Nat) => (i : Int)) ∧ Tab1 z.o1 z.c1 z.oc1 ∧ Tab2 z.o2 z.c2 z.oc2 ∧ Ap (@Ne Nat z.c1 37 ∧ @Ne Nat z.c2 30 ∧ @Ne Nat z.c1 z.c2) ∧ Ap (@Ne Nat l z.c1 ∧ @Ne Nat l z.c2 ∧ @Ne Nat lo z.c1 ∧ @Ne Nat lo z.c2 ∧ @Ne Nat Dl z.c1 ∧ @Ne Nat Dl z.c2) ∧ ((@Eq Nat z.c1 c1 ∨ @LT.lt Nat _ L' z.c1) ∧ (@Eq Nat z.c2 c2 ∨ @LT.lt Nat _ L' z.c2)))
    ⟨num, (a + b + c) ^ row.length, _, _, [], 0, o1, c1, oc1, o2, c2, oc2⟩ rfl (by assumption) rfl hfit F6 N6 (by k_mem) (fun p hp => .tail _ (.tail _ (.tail _ hp))) (List.forall_mem_cons.mpr ⟨by with_unfolding_all rfl, List.forall_mem_cons.mpr ⟨by with_unfolding_all rfl, List.forall_mem_nil _⟩⟩)
    ⟨rfl, rfl, .nil, hT1, hT2, h12, .mk ⟨Nat.ne_of_gt hl1.2.2.2.2.1, Nat.ne_of_gt hl1.2.2.2.2.2.2, hne.out.2.1, hne.out.2.2.2, Nat.ne_of_gt hDl5.2.2.1, Nat.ne_of_gt hDl5.2.2.2.2⟩, .inl rfl, .inl rfl⟩ ?turn ?done)
  case turn =>
    rintro i t ⟨nu, wide, tn, tw, us, szu, o1, c1, oc1, o2, c2, oc2⟩ u it I h5 tk5 hi ⟨hnu, hwi, hIu, hT1, hT2, h12, hne9, hcs9⟩ ho9 F5 N5
    have ho9 := allNe_of ho9
    dsimp only at hnu hwi hIu hT1 hT2 h12 hne9 hcs9
    try dsimp only at F5 N5
    simp only [AllNe, and_true] at ho9
    replace ho9 := Ap.mk ho9
    obtain ⟨j, hj⟩ : ∃ j : Nat, row[i]? = some j := ⟨row[i], by simp [hi]⟩
    have hj3 : j < 3 := hrow j (List.mem_of_getElem? hj)
    have hsm := part_small (a := a) (b := b) (c := c) hw hlen (row.take i)
    have hin := part_in (a := a) (b := b) (c := c) row.length row
    have hpw30 := pow_small hw hlen
    have hst : stretch a b c row = part a b c row.length row := rfl
    rw [← hst] at hin
    have hbk := back_step hj hn0 hn1
    rw [← hwi, ← hnu] at hbk
    rw [← hwi] at hsm
    obtain ⟨k1, k2, k3, k4, k5, k6, k7⟩ := hbk
    have hol := oft_le ha.2 hb.2 hc.2 j
    have hnum30 : nu < 2 ^ 30 := num30 hnu hn1 hin hpw30
    have hq30 : wide / (a + b + c) < 2 ^ 30 := Nat.lt_of_le_of_lt (Nat.div_le_self _ _) hsm.2
    have hu6 : us.length ≤ 6 := by rw [hIu.length, List.length_map, List.length_take]; exact Nat.le_trans (Nat.min_le_right _ _) hlen
    try k_fold
    k_steps
    refine Stop.on (idm_use (X := wide) (B := a + b + c) (w30 hw) hsm.2 (by k_asm) (by k_asm) (by k_asm) (by k_asm) rfl (by k_asm) (by k_asm) (by ktr_room) (by k_asm) (by ktr_rel) hT1 (by ktr_rel) (by ktr_rel) hT2 (by ktr_rel) h12.out (by exact ⟨⟨ho9.out.2.2.2.1.symm, Nat.ne_of_gt hl1.2.2.2.1, Nat.ne_of_gt hDl5.2.1, hne.out.1, trivial⟩, ⟨ho9.out.2.2.2.2.1.symm, hne9.out.1, hne9.out.2.2.2.2.1, hne9.out.2.2.1, trivial⟩, ⟨ho9.out.2.2.2.2.2.1.symm, Nat.ne_of_gt hl1.2.2.2.2.2.1, Nat.ne_of_gt hDl5.2.2.2.1, hne.out.2.2.1, trivial⟩, ⟨ho9.out.2.2.2.2.2.2.symm, hne9.out.2.1, hne9.out.2.2.2.2.2, hne9.out.2.2.2.1, trivial⟩⟩) rfl (by push_cast; rfl) ?_)
    intro h7 tk7 D7 t17 t27 sz7 o17 c17 oc17 o27 c27 oc27 F7 N7 hD7 hc17 hc27 hLD7 T17 T27 h127 hD37 hcs7
    simp only [AllLt, AllNe, and_true] at hD7 hc17 hc27
    replace hc17 := Ap.mk hc17
    replace hc27 := Ap.mk hc27
    replace h127 := Ap.mk h127
    rw [← Int.natCast_ediv, ← Int.natCast_emod] at N7
    try dsimp only
    try k_fold
    k_steps
    refine Stop.on (idm_use (X := nu) (B := wide / (a + b + c)) ⟨k1, hq30⟩ hnum30 (by k_asm) (by k_asm) (by k_asm) (by k_asm) rfl (by k_asm) (by k_asm) (by ktr_room) (by k_asm) (by ktr_rel) T17 (by ktr_rel) (by ktr_rel) T27 (by ktr_rel) h127.out (by exact ⟨⟨Nat.ne_of_gt hD37.1, ho9.out.2.2.2.1.symm, Nat.ne_of_gt hl1.2.2.2.1, Nat.ne_of_gt hDl5.2.1, hne.out.1, trivial⟩, ⟨Nat.ne_of_gt hD37.2.2.1, hc17.out.1, hc17.out.2.1, hc17.out.2.2.1, hc17.out.2.2.2, trivial⟩, ⟨Nat.ne_of_gt hD37.2.1, ho9.out.2.2.2.2.2.1.symm, Nat.ne_of_gt hl1.2.2.2.2.2.1, Nat.ne_of_gt hDl5.2.2.2.1, hne.out.2.2.1, trivial⟩, ⟨Nat.ne_of_gt hD37.2.2.2, hc27.out.1, hc27.out.2.1, hc27.out.2.2.1, hc27.out.2.2.2, trivial⟩⟩) rfl rfl ?_)
    intro h8 tk8 D8 t18 t28 sz8 o18 c18 oc18 o28 c28 oc28 F8 N8 hD8 hc18 hc28 hLD8 T18 T28 h128 hD38 hcs8
    simp only [AllLt, AllNe, and_true] at hD8 hc18 hc28
    replace hc18 := Ap.mk hc18
    replace hc28 := Ap.mk hc28
    replace h128 := Ap.mk h128
    rw [← Int.natCast_ediv, ← Int.natCast_emod] at N8
    try dsimp only
    try k_fold
    have hbx : (sms a b j : Int) ≤ ((nu / (wide / (a + b + c)) : Nat) : Int) ∧ ((nu / (wide / (a + b + c)) : Nat) : Int) < (sms a b j : Int) + (oft a b c j : Int) := betw_cast k3 k4
    have hsub1 : ((j + 1 : Nat) : Int) - 1 = (j : Int) := succ_cast j
    have hmul1 : ((wide / (a + b + c) : Nat) : Int) * [0, (a : Int), (a : Int) + (b : Int)].getD ((j : Int)).toNat 0 = ((wide / (a + b + c) * sms a b j : Nat) : Int) := by
      rw [sms_getD a b j hj3, Int.natCast_mul]
    have hmul2 : ((wide / (a + b + c) : Nat) : Int) * [(a : Int), (b : Int), (c : Int)].getD ((j : Int)).toNat 0 = ((wide / (a + b + c) * oft a b c j : Nat) : Int) := by
      rw [oft_getD a b c j hj3, Int.natCast_mul]
    have hsub2 : (nu : Int) - ((wide / (a + b + c) * sms a b j : Nat) : Int) = ((nu - wide / (a + b + c) * sms a b j : Nat) : Int) := sub_cast k5
    have hb1 : ([0, (a : Int), (a : Int) + (b : Int)].getD ((j : Int)).toNat 0).natAbs < 2 ^ 63 := by rw [sms_getD a b j hj3]; exact abs_one (sms_oft a b c j) hw.2
    have hb2 : ([(a : Int), (b : Int), (c : Int)].getD ((j : Int)).toNat 0).natAbs < 2 ^ 63 := by rw [oft_getD a b c j hj3]; exact abs_two (sms_oft a b c j) hw.2
    k_steps
    refine Stop.on (bisect_use (a := a) (b := b) (c := c) hj3 hbx ⟨ha.1, hb.1⟩ (by k_asm) (by k_asm) (by k_asm) (by k_asm) rfl (by k_asm) (by k_asm) (by ktr_room) (by k_asm) (by k_mem) ?_)
    intro h6 tk6 t6 F6 N6
    try dsimp only
    try k_fold
    have hv1 := hc18.out.2.2.1
    have hv2 := hc28.out.2.2.1
    have hv3 := ho9.out.1
    k_steps
    rename News g' _ _ _ => N9
    rename Fr g' _ _ _ => F9
    simp only [List.push_toArray] at N9
    show TEnd _ _ _ _ _ _ _ _ _ _ _ _
    have e1 : row.take (i + 1) = row.take i ++ [j] := by rw [List.take_add_one, hj]; rfl
    refine ⟨_, _, _, ⟨nu - wide / (a + b + c) * sms a b j, wide / (a + b + c) * oft a b c j, _, _, us ++ [_], _, o18, c18, oc18, o28, c28, oc28⟩, rfl, F9, (by exact news_sub N9 (List.forall_mem_cons.mpr ⟨by k_mem, List.forall_mem_cons.mpr ⟨by k_mem, List.forall_mem_cons.mpr ⟨by k_mem, List.forall_mem_cons.mpr ⟨by k_mem, List.forall_mem_cons.mpr ⟨by k_mem, List.forall_mem_cons.mpr ⟨by k_mem, List.forall_mem_cons.mpr ⟨by k_mem, List.forall_mem_cons.mpr ⟨by k_mem, List.forall_mem_nil _⟩⟩⟩⟩⟩⟩⟩⟩)), ?off, List.forall_mem_cons.mpr ⟨by with_unfolding_all rfl, List.forall_mem_cons.mpr ⟨by with_unfolding_all rfl, List.forall_mem_nil _⟩⟩, ?same, ?p1, ?p2, ?p3, T18, T28, h128, .mk ⟨hv1, hv2, hc18.out.2.2.2.2, hc28.out.2.2.2.2, hc18.out.2.2.2.1, hc28.out.2.2.2.1⟩, ?cs⟩
    case off => exact allNe_mem ⟨ho9.out.1, ho9.out.2.1, ho9.out.2.2.1, ho9.out.2.2.2.1, hc18.out.2.1.symm, ho9.out.2.2.2.2.2.1, hc28.out.2.1.symm, trivial⟩
    case same =>
      intro z h1 h2 h3
      have h21 := h2 _ (List.mem_cons_self ..)
      have h22 := h2 _ (List.mem_cons_of_mem _ (List.mem_cons_self ..))
      have h3' : z ≠ PySem.Str.ofString "part" ∧ z ≠ PySem.Str.ofString "place" ∧ z ≠ PySem.Str.ofString "letter" := by simpa using h3
      simp only [kstB, h1, h21, h22, h3, h3'.1, h3'.2.1, h3'.2.2, if_false, Bool.false_eq_true]
    case p1 => exact (congrArg (fun q => nu - q) rfl).trans k6
    case p2 => exact k7
    case p3 =>
      rw [e1, List.map_append]
      exact IntsAre.append hIu (.cons _ _ .nil)
    case cs =>
      refine ⟨?_, ?_⟩
      · rcases hcs8.1 with h | h
        · rcases hcs7.1 with h' | h'
          · rcases hcs9.1 with h'' | h''
            · exact .inl (h.trans (h'.trans h''))
            · exact .inr (by rw [h, h']; exact h'')
          · exact .inr (by rw [h]; exact h')
        · exact .inr h
      · rcases hcs8.2 with h | h
        · rcases hcs7.2 with h' | h'
          · rcases hcs9.2 with h'' | h''
            · exact .inl (h.trans (h'.trans h''))
            · exact .inr (by rw [h, h']; exact h'')
          · exact .inr (by rw [h]; exact h')
        · exact .inr h
  case done =>
    rintro ⟨nu, wide, tn, tw, us, szu, o17, c17, oc17, o27, c27, oc27⟩ u h5 tk5 ⟨hnu, hwi, hIu, hT17, hT27, h127, hne7, hcs7⟩ F5 N5
    dsimp only at hnu hwi hIu hT17 hT27 h127 hne7 hcs7
    try dsimp only at F5 N5
    rw [List.take_length] at hIu
    try k_fold
    k_steps
    try dsimp only
    refine leaveC_of (by k_asm) (by k_asm) ?_
    rename News g' _ _ _ => N8
    rename Fr g' _ _ _ => F8
    refine hret _ _ _ _ _ _ _ _ _ _ _ (keeps_end hg hL N F8 ?zk) ?zD (N8 (_, _) (.head _)).1 hIu (N8 (30, o17) (by k_mem)).1 (N8 (c17, oc17) (by k_mem)).1 hT17 ?z1 (N8 (37, o27) (by k_mem)).1 (N8 (c27, oc27) (by k_mem)).1 hT27 ?z2 h127.out.2.2
    case zk =>
      intro p hp hs
      simp only [List.mem_cons, List.not_mem_nil, or_false] at hp hs
      rcases hp with rfl | rfl | rfl | rfl | rfl
      · exact (N8 (lo, _) (by k_mem)).1
      · exact absurd (.inl rfl) hs
      · exact absurd (.inr (.inl rfl)) hs
      · exact absurd (.inr (.inr (.inl rfl))) hs
      · exact absurd (.inr (.inr (.inr rfl))) hs
    case zD => exact Nat.le_trans hL (Nat.le_of_lt hLl)
    case z1 => exact hcs7.1.imp id fun h => Nat.le_trans hL (Nat.le_of_lt h)
    case z2 => exact hcs7.2.imp id fun h => Nat.le_trans hL (Nat.le_of_lt h)
end
end Mine
end
section
open PySem PySem.W PyProof.Rows PySem.Calls PySem.Spec
set_option maxRecDepth 100000
namespace Mine
def expd (r : List Nat) : List (List Nat) := [r ++ [0], r ++ [1], r ++ [2]]
def rowsN : Nat → List (List Nat)
  | 0 => [[]]
  | i + 1 => (rowsN i).flatMap expd
theorem expd_take {r : List Nat} {j : Nat} (hj : j < 3) : (expd r).take (j + 1) = (expd r).take j ++ [r ++ [j]] := by
  have : j = 0 ∨ j = 1 ∨ j = 2 := by omega
  rcases this with rfl | rfl | rfl <;> rfl
theorem expd_all (r : List Nat) : (expd r).take 3 = expd r := rfl
theorem rows_step {rows : List (List Nat)} {i : Nat} {r : List Nat} (h : rows[i]? = some r) : (rows.take (i + 1)).flatMap expd = (rows.take i).flatMap expd ++ expd r := by
  rw [List.take_add_one, h, List.flatMap_append]
  simp
theorem rowsN_len : ∀ i, (rowsN i).length = 3 ^ i
  | 0 => rfl
  | i + 1 => by
    have : ∀ l : List (List Nat), (l.flatMap expd).length = 3 * l.length := by
      intro l
      induction l with
      | nil => rfl
      | cons a l ih => rw [List.flatMap_cons, List.length_append, ih, List.length_cons, Nat.mul_succ]; simp [expd]; omega
    rw [rowsN, this, rowsN_len i, Nat.pow_succ, Nat.mul_comm]
theorem rowsN_all : ∀ i, ∀ r ∈ rowsN i, r.length = i ∧ ∀ x ∈ r, x < 3
  | 0, r, h => by
    rw [rowsN, List.mem_singleton] at h
    subst h
    exact ⟨rfl, fun x hx => nomatch hx⟩
  | i + 1, r, h => by
    rw [rowsN, List.mem_flatMap] at h
    obtain ⟨q, hq, h⟩ := h
    have ih := rowsN_all i q hq
    have app : ∀ j, j < 3 → (q ++ [j]).length = i + 1 ∧ ∀ x ∈ q ++ [j], x < 3 := by
      intro j hj
      refine ⟨by rw [List.length_append, ih.1]; rfl, fun x hx => ?_⟩
      rcases List.mem_append.mp hx with hx | hx
      · exact ih.2 x hx
      · rw [List.mem_singleton.mp hx]; exact hj
    simp only [expd, List.mem_cons, List.not_mem_nil, or_false] at h
    rcases h with rfl | rfl | rfl
    · exact app 0 (by decide)
    · exact app 1 (by decide)
    · exact app 2 (by decide)
theorem paired_get {α β : Type} {F : α → β → Prop} : ∀ {l : List α} {k : List β} {i : Nat} {v : α}, Paired F l k → l[i]? = some v → ∃ r, k[i]? = some r ∧ F v r
  | _, _, i, _, .nil, h => by simp at h
  | _, _, 0, _, .cons hf _, h => by
    simp only [List.getElem?_cons_zero, Option.some.injEq] at h
    subst h
    exact ⟨_, rfl, hf⟩
  | _, _, i + 1, _, .cons _ t, h => by
    simp only [List.getElem?_cons_succ] at h ⊢
    exact paired_get t h
theorem paired_mono {α β : Type} {F G : α → β → Prop} (hFG : ∀ a b, F a b → G a b) : ∀ {l : List α} {k : List β}, Paired F l k → Paired G l k
  | _, _, .nil => .nil
  | _, _, .cons h t => .cons (hFG _ _ h) (paired_mono hFG t)
/-- a value is a list of the ledger that holds the row -/
def RowAt (led : Led) (v : Value) (r : List Nat) : Prop := ∃ (a : Nat) (us : List Value) (sz : Nat), v = .ref a ∧ (a, listOf us.toArray sz) ∈ led ∧ IntsAre us (r.map fun (i : Nat) => (i : Int))
theorem RowAt.mono {l l' : Led} (h : ∀ p ∈ l, p ∈ l') : ∀ v r, RowAt l v r → RowAt l' v r :=
  fun _ _ ⟨a, us, sz, e, hm, hi⟩ => ⟨a, us, sz, e, h _ hm, hi⟩
end Mine
end
section
open PySem PySem.W PyProof.Rows PySem.Calls PySem.Spec
set_option maxRecDepth 100000
namespace Mine

section
open PyProof.Rows.LCg
theorem turn_two0 (elt t1 i1 t2 i2 : Expr) (scope : Scope) (pos : Pos) (it acc : Value) (env : Env) :
    compTurn (.ListComp elt [⟨t1, i1, [], 0⟩, ⟨t2, i2, [], 0⟩] scope pos) 0 it acc env = (do
      standAt i1.pos
      match ← pyNext it with
      | none => pure (.done .next)
      | some v =>
        letOwnedTupleGo t1 it v
        assign t1 env v
        let x ← eval i2 env
        standAt i2.pos
        let x ← foldedSetIterable i2 env x
        let _ ← runOwn (.compStart (.ListComp elt [⟨t1, i1, [], 0⟩, ⟨t2, i2, [], 0⟩] scope pos) 1 (← holding [x] (pyIter x)) acc env) env
        again (.compLoop (.ListComp elt [⟨t1, i1, [], 0⟩, ⟨t2, i2, [], 0⟩] scope pos) 0 it acc env)) := by rfl

theorem turn_two1 (elt t1 i1 t2 i2 : Expr) (scope : Scope) (pos : Pos) (it acc : Value) (env : Env) :
    compTurn (.ListComp elt [⟨t1, i1, [], 0⟩, ⟨t2, i2, [], 0⟩] scope pos) 1 it acc env = (do
      standAt i2.pos
      match ← pyNext it with
      | none => pure (.done .next)
      | some v =>
        letOwnedTupleGo t2 it v
        assign t2 env v
        (do let _ ← call (.builtin "list.append") [acc, ← eval elt env])
        again (.compLoop (.ListComp elt [⟨t1, i1, [], 0⟩, ⟨t2, i2, [], 0⟩] scope pos) 1 it acc env)) := by rfl

variable {prog : Program} {w : World} {A : Around} {E : Value → Shared → Prop} {R : Result → Shared → Prop} {s : Shared}

theorem start_two1 {elt t1 i1 t2 i2 : Expr} {scope pos it acc env}
    (h0 : codeAny (model prog w) A (.compLoop (.ListComp elt [⟨t1, i1, [], 0⟩, ⟨t2, i2, [], 0⟩] scope pos) 1 it acc env) R s)
    (h : wpAny (model prog w) A (pyIter it) (fun it' s' => codeAny (model prog w) A (.compLoop (.ListComp elt [⟨t1, i1, [], 0⟩, ⟨t2, i2, [], 0⟩] scope pos) 1 it' acc env) R s')
      (notedBy (model prog w) A env fun x s' => R (.error x) s') s) :
    codeAny (model prog w) A (.compStart (.ListComp elt [⟨t1, i1, [], 0⟩, ⟨t2, i2, [], 0⟩] scope pos) 1 it acc env) R s := by
  refine codeAny_of_tree ?_
  show wpAny _ _ ((compStart (.ListComp elt [⟨t1, i1, [], 0⟩, ⟨t2, i2, [], 0⟩] scope pos) 1 it acc env).onRaise (fun x => do noteFrame x env; standAt theWindowsPlace)) _ _ s
  refine wpAny_notedAt ?_
  unfold compStart
  show wpAny _ _ (ask >>= _) _ _ s
  refine wpAny_bind (wpAny_askSetting (wpAny_ite ?_))
  split
  · first
      | exact wpAny_bind (wpAny_pure (wpAny_pure (And.intro rfl h0)))
      | exact wpAny_pure (And.intro rfl h0)
  · first
      | exact wpAny_bind (wpAny_rule (wpAny_bind (wpAny_standAt (wpAny_bind (wpAny_mono h (fun it' s' h' => wpAny_pure (And.intro rfl h')) fun _ _ x => x)))))
      | (refine wpAny_bind (wpAny_rule ?_); show wpAny _ _ (standAt i2.pos >>= _) _ _ s; exact wpAny_bind (wpAny_standAt (wpAny_bind (wpAny_mono h (fun it' s' h' => wpAny_pure (And.intro rfl h')) fun _ _ x => x))))

theorem loop_two1 {elt t1 i1 t2 i2 : Expr} {scope : Scope} {pos : Pos} {it acc : Value} {env : Env} (I : Nat → Shared → Prop)
    (turn : ∀ n s, I n s → wpAny (model prog w) A (pyNext it) (fun r s₁ => match r with
      | none => R (.ok .next) s₁
      | some v => wpAny (model prog w) A (assign t2 env v) (fun _ s₂ => wpAny (model prog w) A (eval elt env) (fun x s₃ =>
          wpAny (model prog w) A (call (.builtin "list.append") [acc, x]) (fun _ s₄ => ∃ m, m < n ∧ I m s₄) (notedBy (model prog w) A env fun e s' => R (.error e) s') s₃)
          (notedBy (model prog w) A env fun e s' => R (.error e) s') s₂) (notedBy (model prog w) A env fun e s' => R (.error e) s') s₁) (notedBy (model prog w) A env fun e s' => R (.error e) s') s)
    (n : Nat) (h : I n s) (ht : ∀ v, letOwnedTupleGo t2 it v = pure () := by intro _; rfl) :
    codeAny (model prog w) A (.compLoop (.ListComp elt [⟨t1, i1, [], 0⟩, ⟨t2, i2, [], 0⟩] scope pos) 1 it acc env) R s := by
  refine codeAny_loop rfl I (fun n s hI => ?_) n h
  show wpAny _ _ ((compTurn (.ListComp elt [⟨t1, i1, [], 0⟩, ⟨t2, i2, [], 0⟩] scope pos) 1 it acc env).onRaise (fun x => do noteFrame x env; theTreesLotGoes x)) _ _ s
  refine wpAny_noted ?_
  rw [turn_two1]
  refine wpAny_bind (wpAny_standAt (wpAny_bind (wpAny_mono (turn n s hI) (fun r s₁ h₁ => ?_) fun _ _ h' => h')))
  cases r with
  | none => exact wpAny_pure h₁
  | some v =>
    refine wpAny_bind (wpAny_of_eq (ht v) ?_)
    exact wpAny_bind (wpAny_mono h₁ (fun _ s₂ h₂ => wpAny_bind (wpAny_bind (wpAny_mono h₂ (fun x s₃ h₃ => wpAny_bind (wpAny_mono h₃
      (fun _ s₄ h₄ => wpAny_pure (wpAny_pure ⟨rfl, h₄⟩)) fun _ _ h' => h')) fun _ _ h' => h'))) fun _ _ h' => h')

theorem loop_two0 {elt t1 i1 t2 i2 : Expr} {scope : Scope} {pos : Pos} {it acc : Value} {env : Env} (I : Nat → Shared → Prop)
    (turn : ∀ n s, I n s → ∀ E', wpAny (model prog w) A (pyNext it) (fun r s₁ => match r with
      | none => R (.ok .next) s₁
      | some v => wpAny (model prog w) A (assign t1 env v) (fun _ s₂ => wpAny (model prog w) A (eval i2 env) (fun x s₃ =>
          wpAny (model prog w) A (pyIter x) (fun it2 s₄ => codeAny (model prog w) A (.compStart (.ListComp elt [⟨t1, i1, [], 0⟩, ⟨t2, i2, [], 0⟩] scope pos) 1 it2 acc env) (fun r s₅ => r = .ok .next ∧ ∃ m, m < n ∧ I m s₅) s₄) E' s₃)
          E' s₂) E' s₁) E' s)
    (n : Nat) (h : I n s) (ht : ∀ v, letOwnedTupleGo t1 it v = pure () := by intro _; rfl) (hs : ∀ x, foldedSetIterable i2 env x = pure x := by intro _; rfl) :
    codeAny (model prog w) A (.compLoop (.ListComp elt [⟨t1, i1, [], 0⟩, ⟨t2, i2, [], 0⟩] scope pos) 0 it acc env) R s := by
  refine codeAny_loop rfl I (fun n s hI => ?_) n h
  show wpAny _ _ ((compTurn (.ListComp elt [⟨t1, i1, [], 0⟩, ⟨t2, i2, [], 0⟩] scope pos) 0 it acc env).onRaise (fun x => do noteFrame x env; theTreesLotGoes x)) _ _ s
  refine wpAny_noted ?_
  rw [turn_two0]
  refine wpAny_bind (wpAny_standAt (wpAny_bind (wpAny_mono (turn n s hI _) (fun r s₁ h₁ => ?_) fun _ _ h' => h')))
  cases r with
  | none => exact wpAny_pure h₁
  | some v =>
    refine wpAny_bind (wpAny_of_eq (ht v) ?_)
    refine wpAny_bind (wpAny_mono h₁ (fun _ s₂ h₂ => wpAny_bind (wpAny_mono h₂ (fun x s₃ h₃ => ?_) fun _ _ h' => h')) fun _ _ h' => h')
    refine wpAny_bind (wpAny_standAt (wpAny_bind (wpAny_of_eq (hs x) (wpAny_bind (wpAny_holding (wpAny_mono h₃ (fun it2 s₄ h₄ => ?_) fun _ _ h' => h'))))))
    refine wpAny_bind (wpAny_runOwn (codeAny_mono h₄ fun r s₅ h₅ => ?_))
    obtain ⟨rfl, h₅⟩ := h₅
    exact wpAny_pure ⟨rfl, h₅⟩

abbrev TwoC (elt : Expr) (x : Str) (px : Pos) (iter : Expr) (x2 : Str) (px2 : Pos) (iter2 : Expr) (scope : Scope) (pos : Pos) : Expr :=
  .ListComp elt [⟨.Name x px, iter, [], 0⟩, ⟨.Name x2 px2, iter2, [], 0⟩] scope pos
variable {h₀ : Heap} {L : Addr} {m : Str → Option Value} {env : Env}
/-- what one evaluation of the item leaves -/
def TwoEnd (h₀ : Heap) (L : Addr) (m : Str → Option Value) (s₁ : Shared) (I I2 C D : Addr) (oI oI2 oC oD : Obj) (rest : Value → Led → Prop) (y : Value) (s₂ : Shared) : Prop :=
  ∃ h' tk news', s₂ = { s₁ with heap := h', toks := tk } ∧ Fr h₀ L h' m ∧ News h₀ L h' ((I, oI) :: (I2, oI2) :: (C, oC) :: (D, oD) :: news') ∧ (∀ p ∈ news', p.1 ≠ I2) ∧ Off3 I C D news' ∧ rest y news'

abbrev TwoI (h₀ : Heap) (L : Addr) (m : Str → Option Value) (s : Shared) (n2 len : Nat) (I I2 C D : Addr) (oI : Obj) (x : Str) (v : Value) (K : Nat → List Value → Led → Prop) (k : Nat) (s' : Shared) : Prop :=
  ∃ h' tk j ys' oC' m'' news', s' = { s with heap := h', toks := tk } ∧ j ≤ n2 ∧ k = n2 + 1 - j ∧ ys'.length = len + j ∧ IsRangeIter h' I2 (0 + (j : Nat) * 1) ((n2 : Int) - (j : Nat)) 1 ∧ Fr h₀ L h' m ∧
      News h₀ L h' ((I, oI) :: (C, oC') :: (D, lst ys') :: news') ∧ NsObj oC' m'' ∧ m'' x = some v ∧ (∀ p ∈ news', p.1 ≠ I2) ∧ Off3 I C D news' ∧ K j ys' news'
abbrev TwoO (h₀ : Heap) (L : Addr) (m : Str → Option Value) (s : Shared) (n2 : Nat) (I C D ax : Addr) (its : Array Value) (J : Nat → List Value → Led → Prop) (k : Nat) (s' : Shared) : Prop :=
  ∃ h' tk i ys m' news', s' = { s with heap := h', toks := tk } ∧ i ≤ its.size ∧ k = its.size + 1 - i ∧ ys.length = i * n2 ∧ (h'.IsListIter I ax i ∧ h'.IsList ax its) ∧ Fr h₀ L h' m ∧ h'.Ns C m' ∧
        News h₀ L h' ((D, lst ys) :: news') ∧ Off3 I C D news' ∧ J i ys news'

theorem inner_two {elt iter iter2 : Expr} {x x2 : Str} {px px2 : Pos} {scope : Scope} {cl : List (Str × Addr)} {pos : Pos} {n2 : Nat} {v : Value} (K : Nat → List Value → Led → Prop)
    (hh : A.handled = none) (hkind : scope.kind = .function) (hx2 : scope.names.lookup x2 = some .local) (hxx : (x = x2) = False)
    {I I2 C D : Addr} {oI oC : Obj} {m' : Str → Option Value} {ys : List Value} {news : Led}
    (hd : I ≠ C ∧ I ≠ D ∧ C ≠ D) (hd2 : I ≠ I2 ∧ C ≠ I2 ∧ D ≠ I2) (hI2L : L ≠ I2) (hI2₀ : h₀.get? I2 = none)
    (hst : IsRangeIter s.heap I2 0 n2 1) (F : Fr h₀ L s.heap m) (N : News h₀ L s.heap ((I, oI) :: (C, oC) :: (D, lst ys) :: news)) (hC : NsObj oC m') (hx : m' x = some v) (off2 : ∀ p ∈ news, p.1 ≠ I2) (off : Off3 I C D news) (hK : K 0 ys news) (hsz : ys.length + n2 ≤ sizeLine)
    (helt : ∀ j t oI2 oC m' h tk E' ys news, j < n2 → K j ys news → NsObj oC m' → m' x = some v → m' x2 = some (.int (j : Int) t) → Fr h₀ L h m → News h₀ L h ((I, oI) :: (I2, oI2) :: (C, oC) :: (D, lst ys) :: news) → (∀ p ∈ news, p.1 ≠ I2) → Off3 I C D news →
      wpAny (model prog w) A (eval elt (compEnvC scope cl C env)) (TwoEnd h₀ L m { s with heap := h, toks := tk } I I2 C D oI oI2 oC (lst ys) (fun y news' => K (j + 1) (ys ++ [y]) news')) E' { s with heap := h, toks := tk })
    (hR : ∀ h' tk oC' m'' ys' news', ys'.length = ys.length + n2 → Fr h₀ L h' m → News h₀ L h' ((I, oI) :: (C, oC') :: (D, lst ys') :: news') → NsObj oC' m'' → Off3 I C D news' → K n2 ys' news' → R (.ok .next) { s with heap := h', toks := tk }) :
    codeAny (model prog w) A (.compLoop (TwoC elt x px iter x2 px2 iter2 scope pos) 1 (.ref I2) (.ref D) (compEnvC scope cl C env)) R s := by
  have W := range_walks (prog := prog) (w := w) (I := I2) hh 0 n2
  refine loop_two1
    (TwoI h₀ L m s n2 ys.length I I2 C D oI x v K) ?_ (n2 + 1)
    ⟨s.heap, s.toks, 0, ys, oC, m', news, rfl, Nat.zero_le _, rfl, rfl, (by simpa using hst), F, N, hC, hx, off2, off, hK⟩
  rintro k s' ⟨h', tk, j, ys', oC', m'', news', rfl, hj, rfl, hyl, hst', F', N', hC', hx', off2', off', hK'⟩
  by_cases hlt : j < n2
  · refine W.item j _ _ _ hlt hst' fun v2 h₂ tk₂ hPv hst₂ hk₂ => ?_
    obtain ⟨t, rfl⟩ := hPv
    have N₂ : News h₀ L h₂ ((I, oI) :: (C, oC') :: (D, lst ys') :: news') := news_but N' hk₂ fun p hp => by
      rcases List.mem_cons.mp hp with rfl | hp
      · exact hd2.1
      · rcases List.mem_cons.mp hp with rfl | hp
        · exact hd2.2.1
        · rcases List.mem_cons.mp hp with rfl | hp
          · exact hd2.2.2
          · exact off2' p hp
    have F₂ : Fr h₀ L h₂ m := fr_but F' hk₂ hI2L hI2₀
    have nC := N₂ (C, oC') (List.mem_cons_of_mem _ List.mem_cons_self)
    refine wpAny_assign_Name (wpAny_storeName_local (lookup_relabel_local hx2) (hC'.ns nC.1) (fun h₃ hn₃ hs₃ => ?_) (by simp [compEnvC, relabel, hkind]))
    obtain ⟨oC₃, heC, hoC⟩ := ns_obj hn₃
    have off3 := off'.mem
    have hst₃ : IsRangeIter h₃ I2 (0 + ((j + 1 : Nat) : Nat) * 1) ((n2 : Int) - ((j + 1 : Nat) : Nat)) 1 := hs₃.extBut _ _ (Ne.symm hd2.2.1) hst₂
    have F₃ : Fr h₀ L h₃ m := F₂.change hs₃ nC.2.1 nC.2.2
    have N₃ : News h₀ L h₃ ((I, oI) :: (I2, _) :: (C, oC₃) :: (D, lst ys') :: news') := fun p hp => by
      rcases List.mem_cons.mp hp with rfl | hp
      · exact ⟨hs₃.extBut _ _ hd.1 (N₂ _ List.mem_cons_self).1, (N₂ _ List.mem_cons_self).2⟩
      · rcases List.mem_cons.mp hp with rfl | hp
        · exact ⟨hst₃, Ne.symm hI2L, hI2₀⟩
        · rcases List.mem_cons.mp hp with rfl | hp
          · exact ⟨heC, nC.2⟩
          · have z := N₂ p (List.mem_cons_of_mem _ (List.mem_cons_of_mem _ hp))
            refine ⟨hs₃.extBut _ _ ?_ z.1, z.2⟩
            rcases List.mem_cons.mp hp with rfl | hp
            · exact Ne.symm hd.2.2
            · exact (off3 p hp).2.1
    refine wpAny_mono (helt j t _ oC₃ _ h₃ _ _ ys' news' hlt hK' hoC (by rw [if_neg (of_eq_false hxx)]; exact hx') (by simp) F₃ N₃ off2' off') (fun y s₄ h₄ => ?_) fun _ _ e => e
    obtain ⟨h₄, tk₄, news₄, rfl, F₄, N₄, off2₄, off₄, hK₄⟩ := h₄
    have zI := N₄ (I, oI) List.mem_cons_self
    have zI2 := (N₄ _ (List.mem_cons_of_mem _ List.mem_cons_self)).1
    have zC := N₄ (C, oC₃) (List.mem_cons_of_mem _ (List.mem_cons_of_mem _ List.mem_cons_self))
    have zD := N₄ (D, lst ys') (List.mem_cons_of_mem _ (List.mem_cons_of_mem _ (List.mem_cons_of_mem _ List.mem_cons_self)))
    have N₄' : News h₀ L h₄ news₄ := fun p hp => N₄ p (List.mem_cons_of_mem _ (List.mem_cons_of_mem _ (List.mem_cons_of_mem _ (List.mem_cons_of_mem _ hp))))
    refine append_at (hsz := by show ys'.toArray.size ≤ sizeLine; rw [List.size_toArray, hyl]; omega) zD.1 fun h₅ hs₅ hD₅ => ?_
    have off4 := off₄.mem
    refine ⟨n2 + 1 - (j + 1), by omega, h₅, tk₄, j + 1, ys' ++ [y], oC₃, _, news₄, rfl, hlt, rfl, by rw [List.length_append, List.length_singleton, hyl]; omega, hs₅.extBut _ _ (Ne.symm hd2.2.2) zI2, F₄.change hs₅ zD.2.1 zD.2.2, fun p hp => ?_, hoC, (by rw [if_neg (of_eq_false hxx)]; exact hx'), off2₄, off₄, hK₄⟩
    rcases List.mem_cons.mp hp with rfl | hp
    · exact ⟨hs₅.extBut _ _ hd.2.1 zI.1, zI.2⟩
    · rcases List.mem_cons.mp hp with rfl | hp
      · exact ⟨hs₅.extBut _ _ hd.2.2 zC.1, zC.2⟩
      · rcases List.mem_cons.mp hp with rfl | hp
        · exact ⟨hD₅.trans (congrArg some (lst_snoc ys' y)), zD.2⟩
        · exact ⟨hs₅.extBut _ _ (off4 p hp).2.2 (N₄' p hp).1, (N₄' p hp).2⟩
  · obtain rfl : j = n2 := Nat.le_antisymm hj (Nat.not_lt.mp hlt)
    refine W.done _ _ _ hst' fun h₂ tk₂ hk₂ => ?_
    exact hR h₂ tk₂ oC' m'' ys' news' hyl (fr_but F' hk₂ hI2L hI2₀) (news_but N' hk₂ fun p hp => by
      rcases List.mem_cons.mp hp with rfl | hp
      · exact hd2.1
      · rcases List.mem_cons.mp hp with rfl | hp
        · exact hd2.2.1
        · rcases List.mem_cons.mp hp with rfl | hp
          · exact hd2.2.2
          · exact off2' p hp) hC' off' hK'

abbrev TwoOpen (prog : Program) (w : World) (A : Around) (env : Env) (scope : Scope) (cl : List (Str × Addr)) (h₀ : Heap) (L : Addr) (m : Str → Option Value) (s : Shared) (n2 : Nat) (its : Array Value) (iter2 : Expr) (x : Str) (J : Nat → List Value → Led → Prop) : Prop :=
  (∀ i v I oI C oC D m₂ h tk E' ys news, its[i]? = some v → J i ys news → NsObj oC m₂ → m₂ x = some v → Fr h₀ L h m → News h₀ L h ((I, oI) :: (C, oC) :: (D, lst ys) :: news) →
        wpAny (model prog w) A (eval iter2 (compEnvC scope cl C env)) (fun r' s' => Stop (∃ r h' tk' t u w', r' = .ref r ∧ s' = { s with heap := h', toks := tk' } ∧ Fr h₀ L h' m ∧ News h₀ L h' ((I, oI) :: (C, oC) :: (D, lst ys) :: news) ∧ IsRange h' r 0 (n2 : Int) 1 t u w')) E' { s with heap := h, toks := tk })
abbrev TwoElt (prog : Program) (w : World) (A : Around) (env : Env) (scope : Scope) (cl : List (Str × Addr)) (h₀ : Heap) (L : Addr) (m : Str → Option Value) (s : Shared) (n2 : Nat) (its : Array Value) (elt : Expr) (x x2 : Str) (K : Nat → Nat → List Value → Led → Prop) : Prop :=
  (∀ i v I I2 C D oI j t oI2 oC m' h tk E' ys news, its[i]? = some v → j < n2 → K i j ys news → NsObj oC m' → m' x = some v → m' x2 = some (.int (j : Int) t) → Fr h₀ L h m → News h₀ L h ((I, oI) :: (I2, oI2) :: (C, oC) :: (D, lst ys) :: news) → (∀ p ∈ news, p.1 ≠ I2) → Off3 I C D news →
        wpAny (model prog w) A (eval elt (compEnvC scope cl C env)) (TwoEnd h₀ L m { s with heap := h, toks := tk } I I2 C D oI oI2 oC (lst ys) (fun y news' => K i (j + 1) (ys ++ [y]) news')) E' { s with heap := h, toks := tk })
abbrev TwoFin (h₀ : Heap) (L : Addr) (m : Str → Option Value) (s : Shared) (y : Str) (Q : Flow → Shared → Prop) (J : List Value → Led → Prop) : Prop :=
  (∀ D h tk ys news, J ys news → @LT.lt Nat _ L D → (∀ p ∈ news, p.1 ≠ D) → Fr h₀ L h (fun z => if z = y then some (.ref D) else m z) → News h₀ L h ((D, lst ys) :: news) → Q .next { s with heap := h, toks := tk })

theorem Assign_two {elt iter iter2 : Expr} {x x2 y : Str} {px px2 py : Pos} {scope : Scope} {cl : List (Str × Addr)} {pos spos : Pos} {n2 : Nat} {Q : Flow → Shared → Prop} (J : Array Value → Nat → List Value → Led → Prop) (K : Array Value → Nat → Nat → List Value → Led → Prop) (_F0 : Fr h₀ L s.heap m) (hLe : env.locals = L)
    (hsw : swapsWith (TwoC elt x px iter x2 px2 iter2 scope pos) (some (.Name y py)) spos.line env = pure true)
    (hclos : closureFor scope env = pure cl) (hcell : ∀ z ∈ scope.names, z.2 ≠ .cell) (hkind : scope.kind = .function)
    (hnames : ∀ z ∈ scope.names, z.2 = .local → scope.names.lookup z.1 = some .local) (hx : scope.names.lookup x = some .local) (hx2 : scope.names.lookup x2 = some .local) (hxx : (x = x2) = False)
    (hy : env.kindOf y = some .local) (hp : (env.scope.kind == .class || (env.scope.kind == .module && env.locals != env.globals)) = false)
    (hsm : Builtin.Range.small 0 (n2 : Int) 1 = true) (hn : Builtin.Range.rangeSize 0 (n2 : Int) 1 = (n2 : Int)) (hh : A.handled = none)
    (h : wpAny (model prog w) A (eval iter env) (fun xv s₁ => Stop (∃ ax its news, xv = .ref ax ∧ (∃ h tk, s₁ = { s with heap := h, toks := tk }) ∧ Fr h₀ L s₁.heap m ∧ News h₀ L s₁.heap news ∧ J its 0 [] news ∧ its.size * n2 ≤ sizeLine ∧
      (∀ i ys news, J its i ys news → SrcAt h₀ ax its news) ∧ (∀ i ys news, i < its.size → J its i ys news → K its i 0 ys news) ∧ (∀ i ys news, i < its.size → K its i n2 ys news → J its (i + 1) ys news) ∧
      TwoOpen prog w A env scope cl h₀ L m s n2 its iter2 x (J its) ∧
      TwoElt prog w A env scope cl h₀ L m s n2 its elt x x2 (K its) ∧
      TwoFin h₀ L m s y Q (J its its.size))) E s)
    (hs : ∀ x, foldedSetIterable iter env x = pure x := by intro _; rfl) (hs2 : ∀ env x, foldedSetIterable iter2 env x = pure x := by intro _ _; rfl) :
    wpAny (model prog w) A (exec (.Assign [.Name y py] (TwoC elt x px iter x2 px2 iter2 scope pos) spos) env) Q E s := by
  subst hLe
  rw [exec_Assign_Name_used _ _ _ _ hsw]
  refine wpAny_bind (wpAny_standAt (wpAny_bind ?_))
  show wpAny _ A (do let _ ← comprehension (TwoC elt x px iter x2 px2 iter2 scope pos) scope env _ (newList []) false (eval iter env) (some (assign (.Name y py) env))) _ _ s
  refine wpAny_bind (wpAny_mono (wpAny_comprehension_free (use := some (assign (.Name y py) env)) (Q := fun _ s' => Q .next s') rfl hs hclos hkind hnames
    (wpAny_mono h (fun xv s₁ h₁ => ?_) fun _ _ e => e)) (fun _ s' hq => wpAny_pure (wpAny_pure hq)) fun _ _ e => e)
  obtain ⟨ax, its, news, rfl, ⟨hp0, tk0, rfl⟩, F, N, hJ, hsz, hJS, hJK, hKJ, hopen, helt, hQ⟩ := h₁
  have hl := (hJS _ _ _ hJ).list F.keep N
  have hlt : ax < hp0.objs.size := by obtain ⟨_, e, _⟩ := hl; exact Heap.lt_size e
  refine wpAny_pyIter_list hl ?_
  dsimp only at F N hl ⊢
  generalize hI : hp0.objs.size = I at *
  have up : ∀ b o, hp0.get? b = some o → (hp0.push { cls := .type "list_iterator", data := .fields #[.ref ax, .int 0 0] }).get? b = some o := fun b o e => Heap.get?_push_of_some _ e
  have hIit : (hp0.push { cls := .type "list_iterator", data := .fields #[.ref ax, .int 0 0] }).IsListIter I ax 0 := ⟨_, hI ▸ Heap.get?_push_size _ rfl, rfl, rfl⟩
  have hlI : (hp0.push { cls := .type "list_iterator", data := .fields #[.ref ax, .int 0 0] }).IsList ax its := hl.push _
  have hIz : (hp0.push { cls := .type "list_iterator", data := .fields #[.ref ax, .int 0 0] }).objs.size = I + 1 := by rw [Heap.size_push, hI]
  have F₁ := F.keeps up
  have N₁ := N.grown up
  have hI₀ : h₀.get? I = none := hI ▸ next_is_new F
  have hIL : env.locals ≠ I := hI ▸ Nat.ne_of_lt F.ns.lt
  have offI : ∀ p ∈ news, p.1 ≠ I := fun p hp => hI ▸ Nat.ne_of_lt (Heap.lt_size (N p hp).1)
  clear F N hl up
  generalize hp0.push { cls := .type "list_iterator", data := .fields #[.ref ax, .int 0 0] } = h₁ at *
  have W := Walks.list (prog := prog) (w := w) hh I ax (Nat.ne_of_lt hlt) its
  refine wpAny_newObj_type (wpAny_newFunctionEnv hcell (by intro y hy; simp at hy) (fun h₃ hns₁ hsb₁ => ?_) hkind)
  dsimp only at hns₁ hsb₁ ⊢
  generalize hH2 : h₁.push { cls := .type "list", dict := none, data := .seq ([] : List Value).toArray } = H2 at hns₁ hsb₁ ⊢
  have hC : H2.objs.size = h₁.objs.size + 1 := by rw [← hH2, Heap.size_push]
  generalize hCC : H2.objs.size = C at *
  generalize hDD : h₁.objs.size = D at *
  have below : ∀ b, @LT.lt Nat _ b D → b ≠ C ∧ b ≠ D := fun b hb => ⟨Nat.ne_of_lt (by omega), Nat.ne_of_lt hb⟩
  have hDC : D ≠ C := Nat.ne_of_lt (by omega)
  have old : ∀ b o, h₁.get? b = some o → h₃.get? b = some o := fun b o e => hsb₁.extBut b o (below b (hDD ▸ Heap.lt_size e)).1 (Heap.get?_push_of_some _ (hH2 ▸ Heap.get?_push_of_some _ e))
  have hacc : h₃.get? D = some (lst []) := hsb₁.extBut _ _ hDC (Heap.get?_push_of_some _ (hH2 ▸ hDD ▸ Heap.get?_push_size _ rfl))
  have fresh₀ : ∀ a, @LE.le Nat _ D a → h₀.get? a = none := fun a ha => by
    cases e : h₀.get? a with
    | none => rfl
    | some o' => exact absurd (Heap.lt_size (F₁.keep a o' e)) (by show ¬ (@LT.lt Nat _ a h₁.objs.size); omega)
  have hD₀ : h₀.get? D = none := fresh₀ _ (Nat.le_refl _)
  have hC₀ : h₀.get? C = none := fresh₀ _ (by omega)
  have hLlt : @LT.lt Nat _ env.locals D := hDD ▸ F₁.ns.lt
  have hDL : D ≠ env.locals := Ne.symm (below _ hLlt).2
  have hCL : C ≠ env.locals := Ne.symm (below _ hLlt).1
  have hID : @LT.lt Nat _ I D := by omega
  have hCI : I ≠ C := (below I hID).1
  have hDI : I ≠ D := (below I hID).2
  have off₀ : Off3 I C D news := Off3.of fun p hp => ⟨offI p hp, (below _ (hDD ▸ Heap.lt_size (N₁ p hp).1)).1, (below _ (hDD ▸ Heap.lt_size (N₁ p hp).1)).2⟩
  have F₃ : Fr h₀ env.locals h₃ m := F₁.keeps old
  have N₃ : News h₀ env.locals h₃ ((D, lst []) :: news) := fun p hp => by
    rcases List.mem_cons.mp hp with rfl | hp
    · exact ⟨hacc, hDL, hD₀⟩
    · exact ⟨old _ _ (N₁ p hp).1, (N₁ p hp).2⟩
  have hst₃ : h₃.IsListIter I ax 0 ∧ h₃.IsList ax its := W.frame 0 _ _ ⟨hIit, hlI⟩ fun b _ o e => old b o e
  clear F₁ N₁ hIit hlI hsb₁ old hacc
  show codeAny _ A (.compStart (TwoC elt x px iter x2 px2 iter2 scope pos) 0 (.ref I) (.ref D) (compEnvC scope cl C env)) _ _
  have loop : ∀ s₃ : Shared, (∃ tk, s₃ = { s with heap := h₃, toks := tk }) →
      codeAny (model prog w) A (.compLoop (TwoC elt x px iter x2 px2 iter2 scope pos) 0 (.ref I) (.ref D) (compEnvC scope cl C env))
        (compPost (model prog w) A E (some (assign (.Name y py) env)) (fun _ s' => Q .next s') (.ref D) C) s₃ := by
    rintro s₃ ⟨tk₃, rfl⟩
    refine loop_two0
      (TwoO h₀ env.locals m s n2 I C D ax its (J its)) ?_ (its.size + 1)
      ⟨h₃, _, 0, [], _, news, rfl, Nat.zero_le _, rfl, (Nat.zero_mul _).symm, hst₃, F₃, hns₁, N₃, off₀, hJ⟩ (hs := hs2 _)
    rintro k s' ⟨h', tk, i, ys, m', news', rfl, hi, rfl, hyl, hst', F', hn', N', off', hJ'⟩ E'
    have off3 := off'.mem
    by_cases hlt : i < its.size
    · refine W.item i _ _ _ hlt hst' fun v h₂ tk₂ hPv hst₂ hk₂ => ?_
      refine wpAny_assign_Name (wpAny_storeName_local (lookup_relabel_local hx) (hn'.at' fun o e => hk₂ _ o (by simpa using Ne.symm hCI) e) (fun h₄ hn₄ hs₄ => ?_) (by simp [compEnvC, relabel, hkind]))
      obtain ⟨oI, heI', hoI⟩ := hst₂.1
      have heI : h₄.get? I = some oI := hs₄.extBut _ _ hCI heI'
      obtain ⟨oC, heC, hoC⟩ := ns_obj hn₄
      have F₄ : Fr h₀ env.locals h₄ m := (fr_but F' hk₂ hIL hI₀).change hs₄ hCL hC₀
      have N₂ : News h₀ env.locals h₂ ((D, lst ys) :: news') := news_but N' hk₂ fun p hp => by
        rcases List.mem_cons.mp hp with rfl | hp
        · exact Ne.symm hDI
        · exact (off3 p hp).1
      have N₄ : News h₀ env.locals h₄ ((I, oI) :: (C, oC) :: (D, lst ys) :: news') := fun p hp => by
        rcases List.mem_cons.mp hp with rfl | hp
        · exact ⟨heI, Ne.symm hIL, hI₀⟩
        · rcases List.mem_cons.mp hp with rfl | hp
          · exact ⟨heC, hCL, hC₀⟩
          · have z := N₂ p hp
            refine ⟨hs₄.extBut _ _ ?_ z.1, z.2⟩
            rcases List.mem_cons.mp hp with rfl | hp
            · exact hDC
            · exact (off3 p hp).2.1
      refine wpAny_mono (hopen i v I oI C oC D _ h₄ _ _ ys news' hPv hJ' hoC (by simp) F₄ N₄) (fun r' s₅ h₅ => ?_) fun _ _ e => e
      obtain ⟨r, h₅, tk₅, t, u, w', rfl, rfl, F₅, N₅, hr⟩ := h₅
      refine wpAny_pyIter_range hr hsm ?_
      have up : ∀ o b p, h₅.get? b = some p → (h₅.push o).get? b = some p := fun o b p e => Heap.get?_push_of_some _ e
      have z9 := next_is_new F₅
      have hI2L : env.locals ≠ h₅.objs.size := Nat.ne_of_lt F₅.ns.lt
      have offI2 : ∀ p ∈ (I, oI) :: (C, oC) :: (D, lst ys) :: news', p.1 ≠ h₅.objs.size := fun p hp => Nat.ne_of_lt (Heap.lt_size (N₅ p hp).1)
      have hsz' : ys.length + n2 ≤ sizeLine := by
        have : (i + 1) * n2 ≤ its.size * n2 := Nat.mul_le_mul_right _ hlt
        rw [Nat.succ_mul] at this; omega
      have inner : codeAny (model prog w) A (.compLoop (TwoC elt x px iter x2 px2 iter2 scope pos) 1 (.ref h₅.objs.size) (.ref D) (compEnvC scope cl C env)) (fun r s₅ => r = .ok .next ∧ ∃ k', k' < its.size + 1 - i ∧ TwoO h₀ env.locals m s n2 I C D ax its (J its) k' s₅) { s with heap := h₅.push { cls := .type "range_iterator", data := .fields #[.int 0 0, .int (Builtin.Range.rangeSize 0 (n2 : Int) 1) 0, .int 1 0] }, toks := tk₅ } := by
        refine inner_two (K its i) hh hkind hx2 hxx ⟨hCI, hDI, Ne.symm hDC⟩ ⟨offI2 _ List.mem_cons_self, offI2 _ (List.mem_cons_of_mem _ List.mem_cons_self), offI2 _ (List.mem_cons_of_mem _ (List.mem_cons_of_mem _ List.mem_cons_self))⟩ hI2L z9
          (by rw [hn]; exact Heap.get?_push_size _ rfl) (F₅.keeps (up _)) (N₅.grown (up _)) hoC (by simp) (fun p hp => offI2 p (List.mem_cons_of_mem _ (List.mem_cons_of_mem _ (List.mem_cons_of_mem _ hp)))) off' (hJK _ _ _ hlt hJ') hsz'
          (fun j t oI2 oC m' h tk E' ys news => helt i v I _ C D oI j t oI2 oC m' h tk E' ys news hPv) ?_
        intro h₆ tk₆ oC₆ m₆ ys₆ news₆ hyl₆ F₆ N₆ hoC₆ off₆ hK₆
        have hJ₆ := hKJ _ _ _ hlt hK₆
        have zI := N₆ (I, oI) List.mem_cons_self
        have zC := N₆ (C, oC₆) (List.mem_cons_of_mem _ List.mem_cons_self)
        have N₇ : News h₀ env.locals h₆ ((D, lst ys₆) :: news₆) := fun p hp => N₆ p (List.mem_cons_of_mem _ (List.mem_cons_of_mem _ hp))
        exact ⟨rfl, its.size + 1 - (i + 1), by omega, h₆, tk₆, i + 1, ys₆, m₆, news₆, rfl, hlt, rfl, by rw [hyl₆, hyl, Nat.succ_mul], ⟨⟨oI, zI.1, hoI⟩, (hJS _ _ _ hJ₆).list F₆.keep (fun p hp => N₇ p (List.mem_cons_of_mem _ hp))⟩, F₆, hoC₆.ns zC.1, N₇, off₆, hJ₆⟩
      exact start_two1 inner (wpAny_pyIter_rangeiter (by show IsRangeIter _ _ _ _ _; exact Heap.get?_push_size _ rfl) inner)
    · obtain rfl : i = its.size := Nat.le_antisymm hi (Nat.not_lt.mp hlt)
      refine W.done _ _ _ hst' fun h₂ tk₂ hk₂ => ?_
      have F₂ : Fr h₀ env.locals h₂ m := fr_but F' hk₂ hIL hI₀
      have N₂ : News h₀ env.locals h₂ ((D, lst ys) :: news') := news_but N' hk₂ fun p hp => by
        rcases List.mem_cons.mp hp with rfl | hp
        · exact Ne.symm hDI
        · exact (off3 p hp).1
      have hn₂ : h₂.Ns C m' := hn'.at' fun o e => hk₂ _ o (by simpa using Ne.symm hCI) e
      show wpAny _ A (assign (.Name y py) env (.ref D)) _ _ _
      refine wpAny_assign_Name (wpAny_storeName_local hy F₂.ns (fun h₄ hn₄ hs₄ => ?_) hp)
      have hL₀ : h₀.get? env.locals = none := Heap.get?_none_of_le F₂.above
      have F₄ : Fr h₀ env.locals h₄ (fun z => if z = y then some (.ref D) else m z) := ⟨hn₄, fun b o e => hs₄.extBut b o (fun q => by rw [q, hL₀] at e; cases e) (F₂.keep b o e), F₂.above⟩
      refine ⟨m', hn₂.sameBut hs₄ hCL, fun h'' hs'' => hQ D h'' _ ys news' hJ' hLlt (fun p hp => (off3 p hp).2.2) (F₄.change hs'' hCL hC₀) (fun p hp => ?_)⟩
      have z : h₄.get? p.1 = some p.2 := hs₄.extBut _ _ (N₂ p hp).2.1 (N₂ p hp).1
      refine ⟨hs''.extBut _ _ ?_ z, (N₂ p hp).2⟩
      rcases List.mem_cons.mp hp with rfl | hp
      · exact hDC
      · exact (off3 p hp).2.1
  exact codeAny_compStart_list (loop _ ⟨_, rfl⟩) (wpAny_pyIter_listiter hst₃.1 (loop _ ⟨_, rfl⟩))
end
end Mine
end
section
open PySem PySem.W PyProof.Rows PySem.Calls PySem.Spec
set_option maxRecDepth 100000
namespace Mine
section
local macro_rules | `(tactic| walk_at "exec Assign cons ListComp") => `(tactic| refine stop_of ?_)
local macro_rules | `(tactic| walk_at "call type:range") => `(tactic| ((k_dflt (refine range1_rows (by k_asm) (by k_asm) ?_)); intro _ _ _ _ _ hR9 F' N' _))
local macro_rules | `(tactic| walk_at "pyIter ref") => `(tactic| refine stop_of ?_)
local macro_rules | `(tactic| walk_at "newList") => `(tactic| (k_here; k_dflt (refine' newList_L ?k1 ?k2 ?k3 ?_; (case k1 => k_asm); (case k2 => k_asm); (case k3 => size_fits); k_whole); intro l' h' F' N' l1 hLl; (try k_lt l1); (try k_sweep)))

structure StR where
  d : Nat
  ys : List Value
  sz : Nat
  nw : Led
set_option maxHeartbeats 8000000 in
theorem rows_ok (w : World) (p : Program) (loose : List Str) (mean : ExcName → Option Value) (mg mb : Str → Option Value)
    (dp un : Nat) (gd : Option (List Code)) (cn : Str) (cs : Scope) (ad : Addr) (ccd : Value) (cl : List (Str × Addr)) (outer : List Env) (A₀ : Around) (base h₀ : Heap) (L : Addr) (m : Str → Option Value) (s : Shared) (Q E : Value → Shared → Prop) (tx : Tok)
    (B0 : Below A₀ base outer h₀) (F : Fr h₀ L s.heap m) (X0 : (hd.heap_39 w.params).In h₀) (T : Top p loose mean mg mb h₀) (hcs : cs.kind = .function) (C1 : CodeHd h₀ 34 30) (C2 : CodeHd h₀ 41 37) (hroom : dp + 10 < recursionLimit)
    (hret : ∀ h' tk' (D : Nat) ys sz nw, Keeps [] s.heap h' → s.heap.objs.size ≤ D → (∀ p ∈ nw, s.heap.objs.size ≤ p.1) → h'.get? D = some (listOf ys.toArray sz) → (∀ p ∈ nw, h'.get? p.1 = some p.2) → Paired (RowAt nw) ys (rowsN 3) → Q (.ref D) { s with heap := h', toks := tk' }) :
    wpAny (model PySem.Challenge.rw_ie0008_01.row.prog w) (ktrTop dp un gd cn cs L ad ccd cl outer) (call (.ref 109) [.int 3 tx]) Q E s := by
  w_top off
  revert X0; k_fill; intro X0
  refine wpAny_call ?_
  k_dflt (
    refine' enterX ?k1 ?k2 ?k4 ?k5 ?kA ?kF ?kK ?ho ?hd ?k7 ?k8 ?k9 ?kB ?kD ?c2 ?c3 ?c4 ?_ 
    case ho => exact (Frag.In.keeps X0 F.keep) 109 _ (by k_is)
    case hd => exact rfl
    case kA => exact rfl
    case kF => exact rfl
    case kK => assumption
    case k1 => k_asm
    case k2 => k_asm
    case k4 => exact News.nil
    case k5 => exact Top.nolimit (by k_asm)
    case k7 => exact codeRec_of (Frag.In.keeps X0 F.keep) (by k_is)
    case k8 => ktr_room
    case k9 => exact BindsTo.of_eq rfl
    case kB => exact locs rfl
    case kD => decide
    case c2 => exact rfl
    case c3 => exact rfl
    case c4 => exact rfl)
  intro g' L' h' hg hL st F' N' lN B'
  have X' := X0.keeps st
  have T' := T.keeps st
  have C1' := C1.keeps st
  have C2' := C2.keeps st
  clear X0 T C1 C2 B0 st
  (try dsimp only)
  (try k_fold)
  k_steps
  rename News g' _ _ _ => N5
  rename Fr g' _ _ _ => F5
  refine Stop.on (loop_range (σ := StR) (n := 3) (fun z => (z.d, listOf z.ys.toArray z.sz) :: z.nw) (fun z => [(PySem.Str.ofString "rows", .ref z.d)]) []
    (fun i z => Paired (RowAt z.nw) z.ys (rowsN i) ∧ @LT.lt Nat _ L' z.d ∧ ∀ p ∈ z.nw, @LT.lt Nat _ L' p.1) ⟨_, [.ref _], 0, [(_, _)]⟩ rfl (by assumption) rfl (by decide) F5 (by exact N5) (List.forall_mem_cons.mpr ⟨by with_unfolding_all rfl, List.forall_mem_nil _⟩)
    ⟨.cons ⟨_, [], 0, rfl, .head _, .nil⟩ .nil, ?ld, List.forall_mem_cons.mpr ⟨?ln, List.forall_mem_nil _⟩⟩ ?turn ?done)
  case ld => assumption
  case ln => assumption
  case turn =>
    rintro i t ⟨d, ys, sz, nw⟩ u it I h5 tk5 hi ⟨hP, hLd, hLn⟩ ho F5 N5
    dsimp only at hP hLd hLn
    try dsimp only at F5 N5 ho
    try k_fold
    k_steps
    have hlen : ys.length = 3 ^ i := by rw [← rowsN_len]; exact hP.length
    refine Stop.on (Assign_two (n2 := 3) (L := L') (h₀ := g')
      (fun its i' ys' news => ∃ nw', news = (I, it) :: (d, listOf ys.toArray sz) :: nw' ∧ its = ys.toArray ∧ (∀ p ∈ nw', p.1 ≠ I ∧ @LT.lt Nat _ L' p.1) ∧ Paired (RowAt nw') ys (rowsN i) ∧ Paired (RowAt nw') ys' (((rowsN i).take i').flatMap expd))
      (fun its i' j ys' news => ∃ nw', news = (I, it) :: (d, listOf ys.toArray sz) :: nw' ∧ its = ys.toArray ∧ (∀ p ∈ nw', p.1 ≠ I ∧ @LT.lt Nat _ L' p.1) ∧ Paired (RowAt nw') ys (rowsN i) ∧ ∀ r, (rowsN i)[i']? = some r → Paired (RowAt nw') ys' (((rowsN i).take i').flatMap expd ++ (expd r).take j))
      F5 (by rfl) (by with_unfolding_all rfl) (by with_unfolding_all rfl) (by decide) (by rfl) (by decide) (by rfl) (by rfl) (by decide) (by rfl) (by rfl) (by decide) (by decide) (by rfl) ?_)
    k_steps
    refine Stop.on ⟨_, _, _, rfl, ⟨_, _, rfl⟩, F5, N5, ⟨nw, rfl, rfl, fun p hp => ⟨ho p (.tail _ hp), hLn p hp⟩, hP, .nil⟩, ?size, ?src, ?open0, ?close0, ?open1, ?elt, ?fin⟩
    case size =>
      rw [List.size_toArray, hlen]
      show 3 ^ i * 3 ≤ 2 ^ 24
      have : i = 0 ∨ i = 1 ∨ i = 2 := by omega
      rcases this with rfl | rfl | rfl <;> decide
    case src =>
      rintro i' ys' news ⟨nw', rfl, -, -⟩
      exact .inr ⟨_, .tail _ (.head _), rfl, _, rfl⟩
    case open0 =>
      rintro i' ys' news - ⟨nw', rfl, -, h1, h2, h3⟩
      exact ⟨nw', rfl, rfl, h1, h2, fun r hr => by rw [List.take_zero, List.append_nil]; exact h3⟩
    case close0 =>
      rintro i' ys' news hi' ⟨nw', rfl, -, h1, h2, h3⟩
      obtain ⟨r, hr⟩ : ∃ r, (rowsN i)[i']? = some r := ⟨(rowsN i)[i']'(by rw [← hP.length]; simpa using hi'), by simp⟩
      refine ⟨nw', rfl, rfl, h1, h2, ?_⟩
      rw [rows_step hr]
      exact h3 r hr
    case open1 =>
      rintro i' v I1 oI1 C oC D m2 h tk E' ys' news hv ⟨nw', rfl, -, h1, h2, h3⟩ hoC hm2 F6 N6
      try k_fold
      k_steps
      rename News g' _ _ _ => N9
      rename Fr g' _ _ _ => F9
      exact Stop.on ⟨_, _, _, _, _, _, rfl, rfl, F9, N9, by assumption⟩
    case elt =>
      rintro i' v I1 I2 C D oI j t oI2 oC m' h tk E' ys' news hv hj ⟨nw', rfl, -, h1, h2, h3⟩ hoC hm1 hm2 F6 N6 off2 off
      obtain ⟨r, hr, a, us, sza, rfl, hma, hIa⟩ := paired_get h2 (by simpa using hv)
      have N7 : News g' L' h ((a, listOf us.toArray sza) :: (I1, oI) :: (I2, oI2) :: (C, oC) :: (D, LCg.lst ys') :: (I, it) :: (d, listOf ys.toArray sz) :: nw') := fun p hp => by
        rcases List.mem_cons.mp hp with rfl | hp
        · exact N6 _ (.tail _ (.tail _ (.tail _ (.tail _ (.tail _ (.tail _ hma))))))
        · exact N6 p hp
      clear N6
      have hu3 : us.length ≤ 3 := by
        rw [hIa.length, List.length_map, (rowsN_all i r (List.mem_of_getElem? hr)).1]
        omega
      try k_fold
      k_steps
      rename News g' _ _ _ => N9
      rename Fr g' _ _ _ => F9
      rename News g' L' _ (_ :: (a, _) :: _) => N8
      rename (@LT.lt Nat _ L' _) => hLl9
      have lt := fun p hp => Heap.lt_size (N8 p hp).1
      have hI9 := IntsAre.append hIa (.cons _ _ .nil : IntsAre [.int (j : Int) t] [(j : Int)])
      refine ⟨_, _, (I, it) :: (d, listOf ys.toArray sz) :: (_, _) :: nw', rfl, F9, List.forall_mem_cons.mpr ⟨N9 _ (by k_mem), List.forall_mem_cons.mpr ⟨N9 _ (by k_mem), List.forall_mem_cons.mpr ⟨N9 _ (by k_mem), List.forall_mem_cons.mpr ⟨N9 _ (by k_mem), List.forall_mem_cons.mpr ⟨N9 _ (by k_mem), List.forall_mem_cons.mpr ⟨N9 _ (by k_mem), List.forall_mem_cons.mpr ⟨N9 _ (.head _), ?nwk⟩⟩⟩⟩⟩⟩⟩, ?o2, ?o3, ⟨_, rfl, (by first | exact True.intro | rfl), ?oI, paired_mono (RowAt.mono fun p hp => .tail _ hp) h2, ?rest⟩⟩
      case nwk => exact fun p hp => N9 p (.tail _ (.tail _ (.tail _ (.tail _ (.tail _ (.tail _ (.tail _ (.tail _ (.tail _ hp)))))))))
      case o2 =>
        refine List.forall_mem_cons.mpr ⟨off2 _ (.head _), List.forall_mem_cons.mpr ⟨off2 _ (.tail _ (.head _)), List.forall_mem_cons.mpr ⟨Nat.ne_of_gt (lt (I2, oI2) (by k_mem)), fun p hp => off2 p (.tail _ (.tail _ hp))⟩⟩⟩
      case o3 => exact ⟨off.1, off.2.1, ⟨Nat.ne_of_gt (lt (I1, oI) (by k_mem)), Nat.ne_of_gt (lt (C, oC) (by k_mem)), Nat.ne_of_gt (lt (D, LCg.lst ys') (by k_mem))⟩, off.2.2⟩
      case oI => exact List.forall_mem_cons.mpr ⟨⟨Nat.ne_of_gt (lt (I, it) (by k_mem)), Nat.lt_trans hLl9 (lt _ (.head _))⟩, h1⟩
      case rest =>
        intro r' hr'
        rw [hr] at hr'
        obtain rfl := Option.some.inj hr'
        rw [expd_take hj, ← List.append_assoc]
        refine Paired.snoc (paired_mono (RowAt.mono fun p hp => .tail _ hp) (h3 r hr)) ⟨_, _, _, rfl, .head _, ?_⟩
        rw [List.map_append]
        exact hI9
    case fin =>
      rintro D h tk ys' news ⟨nw', rfl, -, h1, h2, h3⟩ hLD hoD F6 N6
      try k_fold
      k_steps
      show TEnd _ _ _ _ _ _ _ _ _ _ _ _
      refine ⟨_, _, _, ⟨D, ys', ys'.length, nw'⟩, rfl, F6, (by exact List.forall_mem_cons.mpr ⟨N6 _ (by k_mem), List.forall_mem_cons.mpr ⟨N6 _ (by k_mem), fun p hp => N6 p (.tail _ (.tail _ (.tail _ hp)))⟩⟩), ?off, List.forall_mem_cons.mpr ⟨by with_unfolding_all rfl, List.forall_mem_nil _⟩, ?same, ?p1, hLD, fun p hp => (h1 p hp).2⟩
      case off => exact List.forall_mem_cons.mpr ⟨(hoD _ (.head _)).symm, fun p hp => (h1 p hp).1⟩
      case same =>
        intro z h1 h2 h3
        have h21 := h2 _ (List.mem_cons_self ..)
        simp only [kstB, h1, h21, if_false, Bool.false_eq_true, List.contains_nil]
      case p1 =>
        rw [List.size_toArray, hP.length, List.take_length] at h3
        exact h3
  case done =>
    rintro ⟨d, ys, sz, nw⟩ u h5 tk5 ⟨hP, hLd, hLn⟩ F5 N5
    dsimp only at hP hLd hLn
    try dsimp only at F5 N5
    try k_fold
    k_steps
    try dsimp only
    refine leaveC_of (by k_asm) (by k_asm) ?_
    exact hret h5 tk5 d ys sz nw (keeps_end (h₀ := h₀) (L := L) hg hL News.nil F5 fun p hp => nomatch hp) (Nat.le_trans hL (Nat.le_of_lt hLd)) (fun p hp => Nat.le_trans hL (Nat.le_of_lt (hLn p hp))) (N5 _ (.head _)).1 (fun p hp => (N5 p (.tail _ hp)).1) hP
end
end Mine
end
section
open PySem PySem.W PyProof.Rows PySem.Calls PySem.Spec
set_option maxRecDepth 100000
namespace Mine

theorem back_use {w : World} {p : Program} {loose : List Str} {mean : ExcName → Option Value} {mg mb : Str → Option Value} {a b c : Nat} (ha : 1 ≤ a ∧ a ≤ 5) (hb : 1 ≤ b ∧ b ≤ 5) (hc : 1 ≤ c ∧ c ≤ 5) {row : List Nat} (hrow : ∀ i ∈ row, i < 3) (hlen : row.length ≤ 6)
    {num : Nat} (hn0 : (stretch a b c row).1 ≤ num) (hn1 : num < (stretch a b c row).1 + (stretch a b c row).2)
    {dp un : Nat} {gd : Option (List Code)} {cn : Str} {cs : Scope} {ad : Addr} {ccd : Value} {cl : List (Str × Addr)} {outer : List Env} {A₀ : Around} {base h₀ : Heap} {L : Addr} {m : Str → Option Value} {s : Shared} {Q E : Value → Shared → Prop}
    {lo szo : Nat} {t1 t2 t3 tx ty : Tok} {x y : Int} {o1 : Obj} {c1 : Addr} {oc1 : Obj} {o2 : Obj} {c2 : Addr} {oc2 : Obj} {led l1 l2 l3 own : Led}
    (B0 : Below A₀ base outer h₀) (F : Fr h₀ L s.heap m) (X0 : (hd.heap_39 w.params).In h₀) (T : Top p loose mean mg mb h₀) (hcs : cs.kind = .function) (C1 : CodeHd h₀ 34 30) (C2 : CodeHd h₀ 41 37) (hroom : dp + 100 < recursionLimit)
    (N : News h₀ L s.heap led) (P1 : Pull (30, o1) led l1) (hT1 : Tab1 o1 c1 oc1) (P2 : Pull (c1, oc1) l1 l2) (P3 : Pull (37, o2) l2 l3) (hT2 : Tab2 o2 c2 oc2) (P4 : Pull (c2, oc2) l3 own)
    (mo : (lo, listOf [.int (a : Int) t1, .int (b : Int) t2, .int (c : Int) t3].toArray szo) ∈ own)
    (h12 : @Ne Nat c1 37 ∧ @Ne Nat c2 30 ∧ @Ne Nat c1 c2) (hne : AllNe 30 own ∧ AllNe c1 own ∧ AllNe 37 own ∧ AllNe c2 own) (hx : x = (num : Int)) (hy : y = (row.length : Int))
    (hret : ∀ h' tk' D sz us o1' c1' oc1' o2' c2' oc2', Fr h₀ L h' m → News h₀ L h' ((D, listOf us.toArray sz) :: (30, o1') :: (c1', oc1') :: (37, o2') :: (c2', oc2') :: own) →
      AllLt D own → AllNe c1' own → AllNe c2' own → @LT.lt Nat _ L D → Tab1 o1' c1' oc1' → Tab2 o2' c2' oc2' → (@Ne Nat c1' 37 ∧ @Ne Nat c2' 30 ∧ @Ne Nat c1' c2') → (30 < D ∧ 37 < D) → ((@Eq Nat c1' c1 ∨ @LT.lt Nat _ L c1') ∧ (@Eq Nat c2' c2 ∨ @LT.lt Nat _ L c2')) →
      IntsAre us (row.map fun (i : Nat) => (i : Int)) → Q (.ref D) { s with heap := h', toks := tk' }) :
    wpAny (model PySem.Challenge.rw_ie0008_01.row.prog w) (ktrTop dp un gd cn cs L ad ccd cl outer) (call (.ref 104) [.int x tx, .int y ty, .ref lo]) Q E s := by
  have m1 := P1.mem
  have m2 := P1.sub _ P2.mem
  have m3 := P1.sub _ (P2.sub _ P3.mem)
  have m4 := P1.sub _ (P2.sub _ (P3.sub _ P4.mem))
  have hsub : ∀ p ∈ own, p ∈ led := fun p hp => P1.sub p (P2.sub p (P3.sub p (P4.sub p hp)))
  refine back_ok w p loose mean mg mb a b c ha hb hc row hrow hlen num hn0 hn1 dp un gd cn cs ad ccd cl outer A₀ base h₀ L m s Q E lo szo t1 t2 t3 tx ty x y o1 c1 oc1 o2 c2 oc2 B0 F X0 T hcs C1 C2 hroom
    (news_sub N (List.forall_mem_cons.mpr ⟨hsub _ mo, List.forall_mem_cons.mpr ⟨m1, List.forall_mem_cons.mpr ⟨m2, List.forall_mem_cons.mpr ⟨m3, List.forall_mem_cons.mpr ⟨m4, List.forall_mem_nil _⟩⟩⟩⟩⟩)) hT1 hT2 h12
    ⟨allNe_mem hne.1 _ mo, allNe_mem hne.2.1 _ mo, allNe_mem hne.2.2.1 _ mo, allNe_mem hne.2.2.2 _ mo⟩ hx hy
    fun h' tk' D sz us o1' c1' oc1' o2' c2' oc2' K hD gD hI g30 gc1 T1' hc1 g37 gc2 T2' hc2 hcc => ?_
  obtain ⟨q1, q2, q3, q4, q5, q6, q7, q8, q9⟩ := tab_back K F N P1 P2 P3 P4 h12 hne hD gD g30 gc1 hc1 g37 gc2 hc2 hcc
  exact hret h' tk' D sz us o1' c1' oc1' o2' c2' oc2' q1 q2 q3 q4 q5 q6 T1' T2' q7 q8 q9 hI

theorem rows_use {w : World} {p : Program} {loose : List Str} {mean : ExcName → Option Value} {mg mb : Str → Option Value}
    {dp un : Nat} {gd : Option (List Code)} {cn : Str} {cs : Scope} {ad : Addr} {ccd : Value} {cl : List (Str × Addr)} {outer : List Env} {A₀ : Around} {base h₀ : Heap} {L : Addr} {m : Str → Option Value} {s : Shared} {Q E : Value → Shared → Prop} {tx : Tok} {led : Led}
    (B0 : Below A₀ base outer h₀) (F : Fr h₀ L s.heap m) (X0 : (hd.heap_39 w.params).In h₀) (T : Top p loose mean mg mb h₀) (hcs : cs.kind = .function) (C1 : CodeHd h₀ 34 30) (C2 : CodeHd h₀ 41 37) (hroom : dp + 10 < recursionLimit)
    (N : News h₀ L s.heap led)
    (hret : ∀ h' tk' (D : Nat) ys sz nw, Fr h₀ L h' m → News h₀ L h' ((D, listOf ys.toArray sz) :: (led ++ nw)) → AllLt D led → (∀ p ∈ nw, ∀ q ∈ led, @LT.lt Nat _ q.1 p.1) → @LT.lt Nat _ L D → (∀ p ∈ nw, @LT.lt Nat _ L p.1) → Paired (RowAt nw) ys (rowsN 3) → Q (.ref D) { s with heap := h', toks := tk' }) :
    wpAny (model PySem.Challenge.rw_ie0008_01.row.prog w) (ktrTop dp un gd cn cs L ad ccd cl outer) (call (.ref 109) [.int 3 tx]) Q E s := by
  refine rows_ok w p loose mean mg mb dp un gd cn cs ad ccd cl outer A₀ base h₀ L m s Q E tx B0 F X0 T hcs C1 C2 hroom fun h' tk' D ys sz nw K hD hnw gD gnw hP => ?_
  have lt := fun p hp => Heap.lt_size (N p hp).1
  have K' := kept K F N
  refine hret h' tk' D ys sz nw K'.1 (List.forall_mem_cons.mpr ⟨news_new F hD gD, fun p hp => ?_⟩) (allLt_of fun p hp => Nat.lt_of_lt_of_le (lt p hp) hD) (fun p hp q hq => Nat.lt_of_lt_of_le (lt q hq) (hnw p hp)) (Nat.lt_of_lt_of_le F.ns.lt hD) (fun p hp => Nat.lt_of_lt_of_le F.ns.lt (hnw p hp)) hP
  rcases List.mem_append.mp hp with hp | hp
  · exact K'.2 p hp
  · exact news_new F (hnw p hp) (gnw p hp)
end Mine
end
section
open PySem PySem.W PyProof.Rows PySem.Calls PySem.Spec
set_option maxRecDepth 100000
namespace Mine
def lawS : Stmt := nthS 17 PySem.Challenge.pw_ie0008_01.main.body
abbrev lawEnv (L fa : Addr) (cdv : Value) : Env := envOfC (PySem.Str.ofString "law") (scopeS lawS) L fa cdv
theorem kstB_self {m : Str → Option Value} : ∀ {ps : List (Str × Value)}, (∀ p ∈ ps, m p.1 = some p.2) → kstB m ps = m
  | [], _ => rfl
  | p :: r, h => by
    funext z
    show (if z = p.1 then some p.2 else kstB m r z) = m z
    by_cases hz : z = p.1
    · rw [if_pos hz, hz, h p (.head _)]
    · rw [if_neg hz, kstB_self fun q hq => h q (.tail _ hq)]
theorem fr_ps {h₀ h : Heap} {L : Addr} {m : Str → Option Value} {ps : List (Str × Value)} (F : Fr h₀ L h m) (e : ∀ p ∈ ps, m p.1 = some p.2) : Fr h₀ L h (kstB m ps) := by rw [kstB_self e]; exact F
/-- the law's frame between two statements -/
def LawAt (h₀ : Heap) (L : Addr) (a b c : Nat) (row : List Nat) (lo szo lr szr : Nat) (t1 t2 t3 : Tok) (vsr : List Value) (oO oE : Obj) (ps : List (Str × Value)) (h : Heap) : Prop :=
  ∃ u o1 c1 oc1 o2 c2 oc2, Fr h₀ L h (kstB u ps) ∧
    News h₀ L h [(lo, listOf [.int (a : Int) t1, .int (b : Int) t2, .int (c : Int) t3].toArray szo), (lr, listOf vsr.toArray szr), (L + 1, oO), (L + 1 + 1, oE), (30, o1), (c1, oc1), (37, o2), (c2, oc2)] ∧
    oO.data = .cell (some (.ref lo)) ∧ ((∃ vE, oE.data = .cell vE) ∧ @Ne Nat lo (L + 1 + 1) ∧ @Ne Nat lr (L + 1 + 1)) ∧ IntsAre vsr (row.map fun (i : Nat) => (i : Int)) ∧
    Tab1 o1 c1 oc1 ∧ Tab2 o2 c2 oc2 ∧ (@Ne Nat c1 37 ∧ @Ne Nat c2 30 ∧ @Ne Nat c1 c2) ∧
    Ap ((lo ≠ 30 ∧ @Ne Nat lo c1 ∧ lo ≠ 37 ∧ @Ne Nat lo c2) ∧ (lr ≠ 30 ∧ @Ne Nat lr c1 ∧ lr ≠ 37 ∧ @Ne Nat lr c2) ∧ (@Ne Nat (L + 1) 30 ∧ @Ne Nat (L + 1) c1 ∧ @Ne Nat (L + 1) 37 ∧ @Ne Nat (L + 1) c2) ∧ (@Ne Nat (L + 1 + 1) 30 ∧ @Ne Nat (L + 1 + 1) c1 ∧ @Ne Nat (L + 1 + 1) 37 ∧ @Ne Nat (L + 1 + 1) c2))
theorem test_link2 {M : Model} {A : Around} {E : Value → Shared → Prop} {s : Shared} {env : Env} {pos : Pos} {a : Value} {op op' : CmpOp} {ops : List CmpOp} {r : Sem Value} {r' : PySem.Expr} {rs : List PySem.Expr} {Q : Bool → Shared → Prop}
    (h : wpAny M A r (fun b s₁ => wpAny M A (compareOp op a b) (fun c s₂ => wpAny M A (truthy c)
      (fun t s₃ => if t then wpAny M A (testChain pos b (op' :: ops) (eval r' env :: evalEach rs env)) Q E s₃ else Q false s₃) E s₂) E s₁) E s) :
    wpAny M A (testChain pos a (op :: op' :: ops) (r :: evalEach (r' :: rs) env)) Q E s := test_link h
section
local macro_rules | `(tactic| walk_at "testChain") => `(tactic| with_reducible refine test_link2 ?_)
local macro_rules | `(tactic| walk_at "call ref") => `(tactic| ((with_reducible show wpAny _ _ (call (Value.ref 90) _) _ _ _); refine stop_of ?_))
local macro_rules | `(tactic| walk_at "call ref") => `(tactic| ((with_reducible show wpAny _ _ (call (Value.ref 97) _) _ _ _); refine stop_of ?_))
local macro_rules | `(tactic| walk_at "pyIter ref") => `(tactic| refine stop_of ?_)
local macro_rules | `(tactic| walk_at "binaryOp Mult int int") => `(tactic| (with_reducible refine mul_to (by assumption) (by assumption) ?_))
local macro_rules | `(tactic| walk_at "binaryOp Pow int int") => `(tactic| (refine pow_to (by assumption) (by assumption) ?_; intro _ _))
local macro_rules | `(tactic| walk_at "subscriptTail Name Name ref int") => `(tactic| (k_here; (with_reducible show wpAny _ _ (subscriptTail _ _ (Value.ref _) (Value.int _ _)) _ _ _); (k_dflt (refine' item_written ?k1 ?k2 ?k3 ?k4 ?k5 ?_ ?k6; (case k1 => k_asm); (case k2 => k_mem); (case k3 => decide); (case k4 => decide); (case k5 => rfl); (case k6 => with_unfolding_all rfl)); k_whole)))
local macro_rules | `(tactic| walk_at "execs cons") => `(tactic| ((with_reducible show wpAny _ _ (execs (Stmt.For (Expr.Name (PySem.Str.ofString "number") _) _ _ _ _ :: _) _) _ _ _); refine stop_of ?_))

set_option maxHeartbeats 8000000 in
theorem lawB (w : World) (p : Program) (loose : List Str) (mean : ExcName → Option Value) (mg mb : Str → Option Value) (a b c : Nat) (ha : 1 ≤ a ∧ a ≤ 5) (hb : 1 ≤ b ∧ b ≤ 5) (hc : 1 ≤ c ∧ c ≤ 5) (row : List Nat) (hrow : ∀ i ∈ row, i < 3) (hlen : row.length ≤ 6)
    (base h₀ : Heap) (L fa : Addr) (cdv : Value) (u : Str → Option Value) (s : Shared) (Q : Flow → Shared → Prop) (Q₁ : Value → Shared → Prop) (E₁ : Value → Shared → Prop)
    (lo szo lr szr : Nat) (t1 t2 t3 : Tok) (vsr : List Value) (oO oE : Obj)
    (B0 : Below callerA base [] h₀) (X0 : (hd.heap_39 w.params).In h₀) (T : Top p loose mean mg mb h₀) (C1 : CodeHd h₀ 34 30) (C2 : CodeHd h₀ 41 37)
    (H : LawAt h₀ L a b c row lo szo lr szr t1 t2 t3 vsr oO oE [(PySem.Str.ofString "row", .ref lr)] s.heap)
    (next : ∀ h' tk' tl tw tW, LawAt h₀ L a b c row lo szo lr szr t1 t2 t3 vsr oO oE [(PySem.Str.ofString "row", .ref lr), (PySem.Str.ofString "low", .int ((stretch a b c row).1 : Int) tl), (PySem.Str.ofString "wide", .int ((stretch a b c row).2 : Int) tw), (PySem.Str.ofString "whole", .int ((a : Int) + (b : Int) + (c : Int)) tW)] h' →
      wpAny (model PySem.Challenge.rw_ie0008_01.row.prog w) (callerA.deeper (lawEnv L fa cdv)) (execs ((bodyS lawS).drop 9) (lawEnv L fa cdv)) Q (fun e s' => wpAny (model PySem.Challenge.rw_ie0008_01.row.prog w) (callerA.deeper (lawEnv L fa cdv)) (leaving (lawEnv L fa cdv) e) (fun _ s'' => Q₁ e s'') E₁ s') { s with heap := h', toks := tk' }) :
    wpAny (model PySem.Challenge.rw_ie0008_01.row.prog w) (callerA.deeper (lawEnv L fa cdv)) (execs ((bodyS lawS).drop 3) (lawEnv L fa cdv)) Q (fun e s' => wpAny (model PySem.Challenge.rw_ie0008_01.row.prog w) (callerA.deeper (lawEnv L fa cdv)) (leaving (lawEnv L fa cdv) e) (fun _ s'' => Q₁ e s'') E₁ s') s := by
  w_top off
  revert X0; k_fill; intro X0
  obtain ⟨u, o1, c1, oc1, o2, c2, oc2, F, N, hO, hE, hIr, hT1, hT2, h12, hne⟩ := H
  replace hne := hne.out
  dsimp only [lawEnv, lawS, PySem.Challenge.pw_ie0008_01, nthS, bodyS, parsS, scopeS, List.drop]
  have hw : 1 ≤ a + b + c ∧ a + b + c ≤ 15 := by omega
  have hIo : IntsAre [.int (a : Int) t1, .int (b : Int) t2, .int (c : Int) t3] [(a : Int), (b : Int), (c : Int)] := .cons _ _ (.cons _ _ (.cons _ _ .nil))
  (try k_fold)
  k_steps
  refine Stop.on (shares_use (a := (a : Int)) (b := (b : Int)) (c := (c : Int)) (by omega) (by omega) (by omega) (by k_asm) (by k_asm) (by k_asm) (by k_asm) rfl (by k_asm) (by k_asm) (by decide) (by k_asm) (by k_mem) ?_)
  intro h5 tk5 D Dl szl sz' u1 u2 u3 t F5 N5 hD5 hDl5 hlt5
  simp only [AllLt, and_true] at hD5 hDl5
  try dsimp only
  try k_fold
  have hvl : vsr.length = row.length := by rw [hIr.length, List.length_map]
  have hpw : 0 ≤ (((row.map fun (i : Nat) => (i : Int)).length : Nat) : Int) ∧ (((row.map fun (i : Nat) => (i : Int)).length : Nat) : Int) ≤ 1000 ∧ ((a : Int) + (b : Int) + (c : Int)).natAbs < 2 ^ 64 := by rw [List.length_map]; omega
  have hpe : ((a : Int) + (b : Int) + (c : Int)) ^ (((row.map fun (i : Nat) => (i : Int)).length : Nat) : Int).toNat = (((a + b + c) ^ row.length : Nat) : Int) := by
    rw [Int.toNat_natCast, List.length_map]; push_cast; rfl
  k_steps
  rotate_left
  · rename ¬ (@Eq (List Int) _ _) => hno
    exact absurd rfl hno
  rename News h₀ _ _ _ => N6
  rename Fr h₀ _ _ _ => F6
  have N7 : News h₀ L _ [(lo, listOf [.int (a : Int) t1, .int (b : Int) t2, .int (c : Int) t3].toArray szo), (lr, listOf vsr.toArray szr), (L + 1, oO), (L + 1 + 1, oE), (30, o1), (c1, oc1), (37, o2), (c2, oc2)] :=
    news_sub N6 (List.forall_mem_cons.mpr ⟨by k_mem, List.forall_mem_cons.mpr ⟨by k_mem, List.forall_mem_cons.mpr ⟨by k_mem, List.forall_mem_cons.mpr ⟨by k_mem, List.forall_mem_cons.mpr ⟨by k_mem, List.forall_mem_cons.mpr ⟨by k_mem, List.forall_mem_cons.mpr ⟨by k_mem, List.forall_mem_cons.mpr ⟨by k_mem, List.forall_mem_nil _⟩⟩⟩⟩⟩⟩⟩⟩)
  clear N6
  refine Stop.on (stretch_use ha hb hc hrow hlen (by k_asm) (by k_asm) (by k_asm) (by k_asm) rfl (by k_asm) (by k_asm) (by decide) N7 (by ktr_rel) hT1 (by ktr_rel) (by ktr_rel) hT2 (by ktr_rel) (by k_mem) (by k_mem) hIr h12
    (by exact ⟨⟨hne.1.1, hne.2.1.1, hne.2.2.1.1, hne.2.2.2.1, trivial⟩, ⟨hne.1.2.1, hne.2.1.2.1, hne.2.2.1.2.1, hne.2.2.2.2.1, trivial⟩, ⟨hne.1.2.2.1, hne.2.1.2.2.1, hne.2.2.1.2.2.1, hne.2.2.2.2.2.1, trivial⟩, ⟨hne.1.2.2.2, hne.2.1.2.2.2, hne.2.2.1.2.2.2, hne.2.2.2.2.2.2, trivial⟩⟩) ?_)
  intro h7 tk7 D7 tl tw sz7 o17 c17 oc17 o27 c27 oc27 F7 N7 hD7 hc17 hc27 hLD7 T17 T27 h127 hD37 hcs7
  simp only [AllLt, AllNe, and_true] at hD7 hc17 hc27
  try dsimp only
  try k_fold
  k_steps
  rename News h₀ _ _ _ => N8
  rename Fr h₀ _ _ _ => F8
  refine Stop.on (loop_list (σ := Nat × Tok) (fun _ => [(D7, { cls := .type "tuple", data := .seq #[.int ((stretch a b c row).1 : Int) tl, .int ((stretch a b c row).2 : Int) tw] sz7 }), (30, o17), (c17, oc17), (37, o27), (c27, oc27), (lo, listOf [.int (a : Int) t1, .int (b : Int) t2, .int (c : Int) t3].toArray szo), (lr, listOf vsr.toArray szr), (L + 1, oO), (L + 1 + 1, oE)])
    (fun z => [(PySem.Str.ofString "product", .int (z.1 : Int) z.2)]) [] (fun i z => z.1 = prod a b c (row.take i)) (1, _) rfl hIr (fun _ => by k_mem) F8 N8 (List.forall_mem_cons.mpr ⟨by with_unfolding_all rfl, List.forall_mem_nil _⟩) rfl ?turn ?done)
  case turn =>
    rintro i d t ⟨pr, tp⟩ u it I h9 tk9 hi hpr ho9 F9 N9
    dsimp only at hpr
    try dsimp only at F9 N9
    rw [List.getElem?_map] at hi
    obtain ⟨j, hj, rfl⟩ := Option.map_eq_some_iff.mp hi
    have hj3 : j < 3 := hrow j (List.mem_of_getElem? hj)
    have hol := oft_le ha.2 hb.2 hc.2 j
    have hmul : (pr : Int) * [(a : Int), (b : Int), (c : Int)].getD ((j : Int)).toNat 0 = ((pr * oft a b c j : Nat) : Int) := by
      rw [oft_getD a b c j hj3, Int.natCast_mul]
    have hbb : ([(a : Int), (b : Int), (c : Int)].getD ((j : Int)).toNat 0).natAbs < 2 ^ 63 := by rw [oft_getD a b c j hj3]; omega
    try k_fold
    k_steps
    rename News h₀ _ _ _ => N10
    rename Fr h₀ _ _ _ => F10
    show TEnd _ _ _ _ _ _ _ _ _ _ _ _
    have e1 : row.take (i + 1) = row.take i ++ [j] := by rw [List.take_add_one, hj]; rfl
    refine ⟨_, _, _, (pr * oft a b c j, _), rfl, F10, N10, ho9, List.forall_mem_cons.mpr ⟨by with_unfolding_all rfl, List.forall_mem_nil _⟩, ?same, ?p1⟩
    case same =>
      intro z h1 h2 h3
      have h21 := h2 _ (List.mem_cons_self ..)
      simp only [kstB, h1, h21, if_false, Bool.false_eq_true, List.contains_nil]
    case p1 =>
      show pr * oft a b c j = _
      rw [e1, prod_snoc, hpr]
  case done =>
    rintro ⟨pr, tp⟩ u h9 tk9 hpr F9 N9
    dsimp only at hpr
    try dsimp only at F9 N9
    have e1 : (stretch a b c row).2 = pr := by
      rw [List.length_map, List.take_length] at hpr
      rw [hpr, stretch, part_wide (by omega) _ _ (Nat.le_refl _), Nat.sub_self, Nat.pow_zero, Nat.mul_one]
    have e2 : ((stretch a b c row).1 : Int) + ((stretch a b c row).2 : Int) ≤ (((a + b + c) ^ row.length : Nat) : Int) := by
      have := part_in (a := a) (b := b) (c := c) row.length row
      rw [← Int.natCast_add]
      exact Int.ofNat_le.mpr this
    have hlr : ((vsr.length : Nat) : Int) = ((row.length : Nat) : Int) := by rw [hIr.length, List.length_map]
    subst e1
    try k_fold
    k_steps
    · rename @Ne Int _ _ => hno
      exact absurd rfl hno
    refine Stop.on (next _ _ tl tw ?zt ⟨_, o17, c17, oc17, o27, c27, oc27, fr_ps F9 ?zf, ?zn, hO, hE, hIr, T17, T27, h127, .mk ?zne⟩)
    case zf => exact List.forall_mem_cons.mpr ⟨by with_unfolding_all rfl, List.forall_mem_cons.mpr ⟨by with_unfolding_all rfl, List.forall_mem_cons.mpr ⟨by with_unfolding_all rfl, List.forall_mem_cons.mpr ⟨by with_unfolding_all rfl, List.forall_mem_nil _⟩⟩⟩⟩
    case zn => exact news_sub N9 (List.forall_mem_cons.mpr ⟨by k_mem, List.forall_mem_cons.mpr ⟨by k_mem, List.forall_mem_cons.mpr ⟨by k_mem, List.forall_mem_cons.mpr ⟨by k_mem, List.forall_mem_cons.mpr ⟨by k_mem, List.forall_mem_cons.mpr ⟨by k_mem, List.forall_mem_cons.mpr ⟨by k_mem, List.forall_mem_cons.mpr ⟨by k_mem, List.forall_mem_nil _⟩⟩⟩⟩⟩⟩⟩⟩)
    case zne => exact ⟨⟨hne.1.1, hc17.1, hne.1.2.2.1, hc27.1⟩, ⟨hne.2.1.1, hc17.2.1, hne.2.1.2.2.1, hc27.2.1⟩, ⟨hne.2.2.1.1, hc17.2.2.1, hne.2.2.1.2.2.1, hc27.2.2.1⟩, ⟨hne.2.2.2.1, hc17.2.2.2, hne.2.2.2.2.2.1, hc27.2.2.2⟩⟩
end
end Mine
end
section
open PySem PySem.W PyProof.Rows PySem.Calls PySem.Spec
set_option maxRecDepth 100000
namespace Mine
theorem prod_pos {a b c : Nat} (ha : 1 ≤ a) (hb : 1 ≤ b) (hc : 1 ≤ c) (row : List Nat) : 1 ≤ prod a b c row := by
  induction row using snoc_ind with
  | h0 => exact Nat.le_refl 1
  | hs p i ih =>
    rw [prod_snoc]
    refine Nat.mul_pos ih ?_
    unfold oft
    split
    · exact ha
    · split
      · exact hb
      · exact hc
theorem wide_pos {a b c : Nat} (ha : 1 ≤ a) (hb : 1 ≤ b) (hc : 1 ≤ c) (row : List Nat) : 1 ≤ (stretch a b c row).2 := by
  rw [stretch, part_wide (by omega) _ _ (Nat.le_refl _), Nat.sub_self, Nat.pow_zero, Nat.mul_one]
  exact prod_pos ha hb hc row
structure StT where
  o1 : Obj
  c1 : Nat
  oc1 : Obj
  o2 : Obj
  c2 : Nat
  oc2 : Obj
section
local macro_rules | `(tactic| walk_at "call ref") => `(tactic| ((with_reducible show wpAny _ _ (call (Value.ref 104) _) _ _ _); refine stop_of ?_))
local macro_rules | `(tactic| walk_at "pyIter ref") => `(tactic| refine stop_of ?_)
local macro_rules | `(tactic| walk_at "execs cons Assign cons") => `(tactic| ((with_reducible show wpAny _ _ (execs (Stmt.Assign [Expr.Name (PySem.Str.ofString "ends") _] _ _ :: _) _) _ _ _); refine stop_of ?_))
local macro_rules | `(tactic| walk_at "newList") => `(tactic| (k_here; k_dflt (refine' newList_L ?k1 ?k2 ?k3 ?_; (case k1 => k_asm); (case k2 => k_asm); (case k3 => size_fits); k_whole); intro l' h' F' N' l1 hLl; (try k_lt l1); (try k_sweep)))

local macro_rules | `(tactic| walk1) => `(tactic| ((with_reducible show wpAny _ _ (exec _ _) _ _ _); k_fold))
set_option maxHeartbeats 8000000 in
theorem lawC (w : World) (p : Program) (loose : List Str) (mean : ExcName → Option Value) (mg mb : Str → Option Value) (a b c : Nat) (ha : 1 ≤ a ∧ a ≤ 5) (hb : 1 ≤ b ∧ b ≤ 5) (hc : 1 ≤ c ∧ c ≤ 5) (row : List Nat) (hrow : ∀ i ∈ row, i < 3) (hlen : row.length ≤ 6)
    (base h₀ : Heap) (L fa : Addr) (cdv : Value) (s : Shared) (Q : Flow → Shared → Prop) (Q₁ : Value → Shared → Prop) (E₁ : Value → Shared → Prop)
    (lo szo lr szr : Nat) (t1 t2 t3 : Tok) (vsr : List Value) (oO oE : Obj) (tl tw tW : Tok)
    (B0 : Below callerA base [] h₀) (X0 : (hd.heap_39 w.params).In h₀) (T : Top p loose mean mg mb h₀) (C1 : CodeHd h₀ 34 30) (C2 : CodeHd h₀ 41 37)
    (H : LawAt h₀ L a b c row lo szo lr szr t1 t2 t3 vsr oO oE [(PySem.Str.ofString "row", .ref lr), (PySem.Str.ofString "low", .int ((stretch a b c row).1 : Int) tl), (PySem.Str.ofString "wide", .int ((stretch a b c row).2 : Int) tw), (PySem.Str.ofString "whole", .int ((a : Int) + (b : Int) + (c : Int)) tW)] s.heap)
    (next : ∀ h' tk', LawAt h₀ L a b c row lo szo lr szr t1 t2 t3 vsr oO oE [(PySem.Str.ofString "row", .ref lr), (PySem.Str.ofString "low", .int ((stretch a b c row).1 : Int) tl), (PySem.Str.ofString "wide", .int ((stretch a b c row).2 : Int) tw), (PySem.Str.ofString "whole", .int ((a : Int) + (b : Int) + (c : Int)) tW)] h' →
      wpAny (model PySem.Challenge.rw_ie0008_01.row.prog w) (callerA.deeper (lawEnv L fa cdv)) (execs ((bodyS lawS).drop 10) (lawEnv L fa cdv)) Q (fun e s' => wpAny (model PySem.Challenge.rw_ie0008_01.row.prog w) (callerA.deeper (lawEnv L fa cdv)) (leaving (lawEnv L fa cdv) e) (fun _ s'' => Q₁ e s'') E₁ s') { s with heap := h', toks := tk' }) :
    wpAny (model PySem.Challenge.rw_ie0008_01.row.prog w) (callerA.deeper (lawEnv L fa cdv)) (execs ((bodyS lawS).drop 9) (lawEnv L fa cdv)) Q (fun e s' => wpAny (model PySem.Challenge.rw_ie0008_01.row.prog w) (callerA.deeper (lawEnv L fa cdv)) (leaving (lawEnv L fa cdv) e) (fun _ s'' => Q₁ e s'') E₁ s') s := by
  w_top off
  revert X0; k_fill; intro X0
  obtain ⟨u, o1, c1, oc1, o2, c2, oc2, F, N, hO, hE, hIr, hT1, hT2, h12, hne⟩ := H
  dsimp only [lawEnv, lawS, PySem.Challenge.pw_ie0008_01, nthS, bodyS, parsS, scopeS, List.drop]
  have hwp := wide_pos ha.1 hb.1 hc.1 row
  (try k_fold)
  k_steps
  rename_i l9 h9 F9 N9 hLl l1
  have hI3 : IntsAre [.int ((stretch a b c row).1 : Int) tl, .int (((stretch a b c row).1 : Int) + ((stretch a b c row).2 : Int) - 1) (s.toks + 1 + 1), .int (((stretch a b c row).1 : Int) + (((stretch a b c row).2 : Int)).fdiv 2) (s.toks + 1 + 1 + 1 + 1 + 1)] [((stretch a b c row).1 : Int), ((stretch a b c row).1 : Int) + ((stretch a b c row).2 : Int) - 1, ((stretch a b c row).1 : Int) + (((stretch a b c row).2 : Int)).fdiv 2] := .cons _ _ (.cons _ _ (.cons _ _ .nil))
  refine Stop.on (loop_list (σ := StT) (fun z => [(l9, listOf [.int ((stretch a b c row).1 : Int) tl, .int (((stretch a b c row).1 : Int) + ((stretch a b c row).2 : Int) - 1) (s.toks + 1 + 1), .int (((stretch a b c row).1 : Int) + (((stretch a b c row).2 : Int)).fdiv 2) (s.toks + 1 + 1 + 1 + 1 + 1)].toArray 0), (lo, listOf [.int (a : Int) t1, .int (b : Int) t2, .int (c : Int) t3].toArray szo), (lr, listOf vsr.toArray szr), (L + 1, oO), (L + 1 + 1, oE), (30, z.o1), (z.c1, z.oc1), (37, z.o2), (z.c2, z.oc2)])
    (fun _ => []) [] (fun _ z => Tab1 z.o1 z.c1 z.oc1 ∧ Tab2 z.o2 z.c2 z.oc2 ∧ (@Ne Nat z.c1 37 ∧ @Ne Nat z.c2 30 ∧ @Ne Nat z.c1 z.c2) ∧ Ap ((lo ≠ 30 ∧ @Ne Nat lo z.c1 ∧ lo ≠ 37 ∧ @Ne Nat lo z.c2) ∧ (lr ≠ 30 ∧ @Ne Nat lr z.c1 ∧ lr ≠ 37 ∧ @Ne Nat lr z.c2) ∧ (@Ne Nat (L + 1) 30 ∧ @Ne Nat (L + 1) z.c1 ∧ @Ne Nat (L + 1) 37 ∧ @Ne Nat (L + 1) z.c2) ∧ (@Ne Nat (L + 1 + 1) 30 ∧ @Ne Nat (L + 1 + 1) z.c1 ∧ @Ne Nat (L + 1 + 1) 37 ∧ @Ne Nat (L + 1 + 1) z.c2)) ∧
      Ap (@Ne Nat l9 30 ∧ @Ne Nat l9 z.c1 ∧ @Ne Nat l9 37 ∧ @Ne Nat l9 z.c2))
    ⟨o1, c1, oc1, o2, c2, oc2⟩ rfl hI3 (fun _ => by k_mem) F9 N9 (List.forall_mem_nil _) ⟨hT1, hT2, h12, hne, .mk ⟨Nat.ne_of_gt l1.2.2.2.2.1, Nat.ne_of_gt l1.2.2.2.2.2.1, Nat.ne_of_gt l1.2.2.2.2.2.2.1, Nat.ne_of_gt l1.2.2.2.2.2.2.2⟩⟩ ?turn ?done)
  case turn =>
    rintro i d t ⟨o1, c1, oc1, o2, c2, oc2⟩ u it I h5 tk5 hi ⟨hT1, hT2, h12, hne, hl9⟩ ho9 F5 N5
    dsimp only at hT1 hT2 h12 hne hl9
    have ho9 := allNe_of ho9
    try dsimp only at F5 N5
    simp only [AllNe, and_true] at ho9
    replace ho9 := Ap.mk ho9
    obtain ⟨num, rfl, hn0, hn1⟩ : ∃ num : Nat, d = (num : Int) ∧ (stretch a b c row).1 ≤ num ∧ num < (stretch a b c row).1 + (stretch a b c row).2 := by
      have h3 := List.mem_of_getElem? hi
      simp only [List.mem_cons, List.not_mem_nil, or_false] at h3
      have hq : ((((stretch a b c row).2 : Nat) : Int)).fdiv 2 = (((stretch a b c row).2 / 2 : Nat) : Int) := by
        rw [Int.fdiv_eq_ediv_of_nonneg _ (by decide)]; omega
      refine ⟨d.toNat, ?_, ?_, ?_⟩ <;> rcases h3 with rfl | rfl | rfl <;> (try rw [hq]) <;> omega
    try k_fold
    k_steps
    have H9 := ho9.out
    have n9 := hne.out
    have m9 := hl9.out
    refine Stop.on (back_use ha hb hc hrow hlen hn0 hn1 (by k_asm) (by k_asm) (by k_asm) (by k_asm) rfl (by k_asm) (by k_asm) (by decide) (by k_asm) (by ktr_rel) hT1 (by ktr_rel) (by ktr_rel) hT2 (by ktr_rel) (by k_mem) h12
      (by exact ⟨⟨H9.2.2.2.2.2.1.symm, m9.1, n9.1.1, n9.2.1.1, n9.2.2.1.1, n9.2.2.2.1, trivial⟩, ⟨H9.2.2.2.2.2.2.1.symm, m9.2.1, n9.1.2.1, n9.2.1.2.1, n9.2.2.1.2.1, n9.2.2.2.2.1, trivial⟩, ⟨H9.2.2.2.2.2.2.2.1.symm, m9.2.2.1, n9.1.2.2.1, n9.2.1.2.2.1, n9.2.2.1.2.2.1, n9.2.2.2.2.2.1, trivial⟩, ⟨H9.2.2.2.2.2.2.2.2.symm, m9.2.2.2, n9.1.2.2.2, n9.2.1.2.2.2, n9.2.2.1.2.2.2, n9.2.2.2.2.2.2, trivial⟩⟩)
      rfl (by rw [List.length_map]) ?_)
    clear H9 n9 m9
    intro h7 tk7 D7 sz7 us7 o17 c17 oc17 o27 c27 oc27 F7 N7 hD7 hc17 hc27 hLD7 T17 T27 h127 hD37 hcs7 hI7
    simp only [AllLt, AllNe, and_true] at hD7 hc17 hc27
    replace hc17 := Ap.mk hc17
    replace hc27 := Ap.mk hc27
    try dsimp only
    try k_fold
    k_steps
    rename Fr h₀ _ _ _ => F10
    have q1 := hc17.out
    have q2 := hc27.out
    have q3 := ho9.out
    have q4 := hne.out
    have q5 := hl9.out
    show TEnd _ _ _ _ _ _ _ _ _ _ _ _
    refine ⟨_, _, _, ⟨o17, c17, oc17, o27, c27, oc27⟩, rfl, F10, (by exact news_sub N7 (List.forall_mem_cons.mpr ⟨by k_mem, List.forall_mem_cons.mpr ⟨by k_mem, List.forall_mem_cons.mpr ⟨by k_mem, List.forall_mem_cons.mpr ⟨by k_mem, List.forall_mem_cons.mpr ⟨by k_mem, List.forall_mem_cons.mpr ⟨by k_mem, List.forall_mem_cons.mpr ⟨by k_mem, List.forall_mem_cons.mpr ⟨by k_mem, List.forall_mem_cons.mpr ⟨by k_mem, List.forall_mem_cons.mpr ⟨by k_mem, List.forall_mem_nil _⟩⟩⟩⟩⟩⟩⟩⟩⟩⟩)), ?off, List.forall_mem_nil _, ?same, T17, T27, h127,
      .mk ⟨⟨q4.1.1, q1.2.2.1, q4.1.2.2.1, q2.2.2.1⟩, ⟨q4.2.1.1, q1.2.2.2.1, q4.2.1.2.2.1, q2.2.2.2.1⟩, ⟨q4.2.2.1.1, q1.2.2.2.2.1, q4.2.2.1.2.2.1, q2.2.2.2.2.1⟩, ⟨q4.2.2.2.1, q1.2.2.2.2.2, q4.2.2.2.2.2.1, q2.2.2.2.2.2⟩⟩,
      .mk ⟨q5.1, q1.2.1, q5.2.2.1, q2.2.1⟩⟩
    case off => exact allNe_mem ⟨q3.1, q3.2.1, q3.2.2.1, q3.2.2.2.1, q3.2.2.2.2.1, q3.2.2.2.2.2.1, q1.1.symm, q3.2.2.2.2.2.2.2.1, q2.1.symm, trivial⟩
    case same =>
      intro z h1 h2 h3
      simp only [kstB, h1, if_false, Bool.false_eq_true, List.contains_nil]
  case done =>
    rintro ⟨o1, c1, oc1, o2, c2, oc2⟩ u h5 tk5 ⟨hT1, hT2, h12, hne, hl9⟩ F5 N5
    dsimp only at hT1 hT2 h12 hne hl9
    try dsimp only at F5 N5
    try k_fold
    k_steps
    refine Stop.on (next _ _ ⟨_, o1, c1, oc1, o2, c2, oc2, fr_ps F5 ?zf, fun p hp => N5 p (.tail _ hp), hO, hE, hIr, hT1, hT2, h12, hne⟩)
    case zf => exact List.forall_mem_cons.mpr ⟨by with_unfolding_all rfl, List.forall_mem_cons.mpr ⟨by with_unfolding_all rfl, List.forall_mem_cons.mpr ⟨by with_unfolding_all rfl, List.forall_mem_cons.mpr ⟨by with_unfolding_all rfl, List.forall_mem_nil _⟩⟩⟩⟩
end
end Mine
end
section
open PySem PySem.W PyProof.Rows PySem.Calls PySem.Spec
set_option maxRecDepth 100000
namespace Mine
open PyProof.Rows.LCg in
theorem compRest_ind {prog : Program} {w : World} {A : Around} {h₀ : Heap} {L : Addr} {m : Str → Option Value} {env : Env} {elt : PySem.Expr} {x : Str} {scope : Scope} {cl : List (Str × Addr)} {s : Shared} {S : Led → Prop} {P : Nat → Value → Prop} {Fin : List Value → Led → Prop}
    (n : Nat) (J : Nat → List Value → Led → Prop) (done : ∀ ys news, J n ys news → Fin ys news)
    (step : ∀ i ys news, i < n → J i ys news → ∀ v I oI C oC D m₂ h tk (E' : Value → Shared → Prop), P i v → NsObj oC m₂ → m₂ x = some v → Fr h₀ L h m → News h₀ L h ((I, oI) :: (C, oC) :: (D, lst ys) :: news) → Off3 I C D news → ((@Ne Nat I C) ∧ (@Ne Nat I D) ∧ (@Ne Nat C D)) →
      wpAny (model prog w) A (eval elt (compEnvC scope cl C env)) (CompEnd h₀ L m { s with heap := h, toks := tk } I oI C oC D (lst ys) S (fun y news' => J (i + 1) (ys ++ [y]) news')) E' { s with heap := h, toks := tk }) :
    ∀ k i ys news, i + k = n → J i ys news → CompRest prog w A h₀ L m env elt x scope cl s S P Fin k i ys news
  | 0, i, ys, news, e, hJ => .zero (done ys news (by rw [← e]; exact hJ))
  | k + 1, i, ys, news, e, hJ => .succ fun v I oI C oC D m₂ h tk E' hP hC hx F N off hd =>
      wpAny_mono (step i ys news (by omega) hJ v I oI C oC D m₂ h tk E' hP hC hx F N off hd)
        (fun y s' ⟨h', tk', news', e1, F', N', off', hS, hr⟩ => ⟨h', tk', news', e1, F', N', off', hS, compRest_ind n J done step k (i + 1) (ys ++ [y]) news' (by omega) hr⟩) fun _ _ q => q
theorem allLt_mem {d : Addr} : ∀ {l : Led}, AllLt d l → ∀ p ∈ l, @LT.lt Nat _ p.1 d
  | [], _, p, hp => nomatch hp
  | q :: r, h, p, hp => by
    rcases List.mem_cons.mp hp with rfl | hp
    · exact h.1
    · exact allLt_mem h.2 p hp
theorem allNe_mem9 {d : Addr} : ∀ {l : Led}, LCg.Off1 d l → ∀ p ∈ l, @Ne Nat p.1 d
  | [], _, p, hp => nomatch hp
  | q :: r, h, p, hp => by
    rcases List.mem_cons.mp hp with rfl | hp
    · exact h.1
    · exact allNe_mem9 h.2 p hp
/-- a value is a pair of the ledger -/
def TupAt (led : Led) (v : Value) (lw : Nat × Nat) : Prop := ∃ (T : Nat) (t1 t2 : Tok) (sz : Nat), v = .ref T ∧ (T, { cls := .type "tuple", data := .seq #[.int (lw.1 : Int) t1, .int (lw.2 : Int) t2] sz }) ∈ led
theorem TupAt.mono {l l' : Led} (h : ∀ p ∈ l, p ∈ l') : ∀ v r, TupAt l v r → TupAt l' v r :=
  fun _ _ ⟨T, t1, t2, sz, e, hm⟩ => ⟨T, t1, t2, sz, e, h _ hm⟩
/-- the law's frame with the ends -/
def EndsAt (h₀ : Heap) (L : Addr) (a b c : Nat) (row : List Nat) (lo szo lr szr : Nat) (t1 t2 t3 : Tok) (vsr : List Value) (oO : Obj) (ps : List (Str × Value)) (h : Heap) : Prop :=
  ∃ u oE o1 c1 oc1 o2 c2 oc2 De ys sze out, Fr h₀ L h (kstB u ps) ∧
    News h₀ L h ((De, listOf ys.toArray sze) :: (lo, listOf [.int (a : Int) t1, .int (b : Int) t2, .int (c : Int) t3].toArray szo) :: (lr, listOf vsr.toArray szr) :: (L + 1, oO) :: (L + 1 + 1, oE) :: (30, o1) :: (c1, oc1) :: (37, o2) :: (c2, oc2) :: out) ∧
    oO.data = .cell (some (.ref lo)) ∧ oE.data = .cell (some (.ref De)) ∧ IntsAre vsr (row.map fun (i : Nat) => (i : Int)) ∧ Paired (TupAt out) ys ((rowsN 3).map (stretch a b c)) ∧
    Tab1 o1 c1 oc1 ∧ Tab2 o2 c2 oc2 ∧ (@Ne Nat c1 37 ∧ @Ne Nat c2 30 ∧ @Ne Nat c1 c2) ∧
    Ap ((lo ≠ 30 ∧ @Ne Nat lo c1 ∧ lo ≠ 37 ∧ @Ne Nat lo c2) ∧ (lr ≠ 30 ∧ @Ne Nat lr c1 ∧ lr ≠ 37 ∧ @Ne Nat lr c2) ∧ (@Ne Nat (L + 1) 30 ∧ @Ne Nat (L + 1) c1 ∧ @Ne Nat (L + 1) 37 ∧ @Ne Nat (L + 1) c2) ∧ (@Ne Nat (L + 1 + 1) 30 ∧ @Ne Nat (L + 1 + 1) c1 ∧ @Ne Nat (L + 1 + 1) 37 ∧ @Ne Nat (L + 1 + 1) c2))
section
local macro_rules | `(tactic| walk_at "call ref") => `(tactic| ((with_reducible show wpAny _ _ (call (Value.ref 97) _) _ _ _); refine stop_of ?_))
local macro_rules | `(tactic| walk_at "call ref") => `(tactic| ((with_reducible show wpAny _ _ (call (Value.ref 109) _) _ _ _); refine stop_of ?_))
local macro_rules | `(tactic| walk_at "eval ListComp") => `(tactic| refine stop_of ?_)
local macro_rules | `(tactic| walk_at "CompSrc") => `(tactic| refine stop_of ?_)
local macro_rules | `(tactic| walk_at "CompEnd") => `(tactic| refine stop_of ?_)
local macro_rules | `(tactic| walk_at "execs cons") => `(tactic| ((with_reducible show wpAny _ _ (execs (Stmt.If _ _ _ _ :: _) _) _ _ _); refine stop_of ?_))

set_option maxHeartbeats 8000000 in
theorem lawD (w : World) (p : Program) (loose : List Str) (mean : ExcName → Option Value) (mg mb : Str → Option Value) (a b c : Nat) (ha : 1 ≤ a ∧ a ≤ 5) (hb : 1 ≤ b ∧ b ≤ 5) (hc : 1 ≤ c ∧ c ≤ 5) (row : List Nat)
    (base h₀ : Heap) (L fa : Addr) (cdv : Value) (s : Shared) (Q : Flow → Shared → Prop) (Q₁ : Value → Shared → Prop) (E₁ : Value → Shared → Prop)
    (lo szo lr szr : Nat) (t1 t2 t3 : Tok) (vsr : List Value) (oO oE : Obj) (tl tw tW : Tok)
    (B0 : Below callerA base [] h₀) (X0 : (hd.heap_39 w.params).In h₀) (T : Top p loose mean mg mb h₀) (C1 : CodeHd h₀ 34 30) (C2 : CodeHd h₀ 41 37)
    (H : LawAt h₀ L a b c row lo szo lr szr t1 t2 t3 vsr oO oE [(PySem.Str.ofString "row", .ref lr), (PySem.Str.ofString "low", .int ((stretch a b c row).1 : Int) tl), (PySem.Str.ofString "wide", .int ((stretch a b c row).2 : Int) tw), (PySem.Str.ofString "whole", .int ((a : Int) + (b : Int) + (c : Int)) tW)] s.heap)
    (next : ∀ h' tk', EndsAt h₀ L a b c row lo szo lr szr t1 t2 t3 vsr oO [(PySem.Str.ofString "row", .ref lr), (PySem.Str.ofString "low", .int ((stretch a b c row).1 : Int) tl), (PySem.Str.ofString "wide", .int ((stretch a b c row).2 : Int) tw), (PySem.Str.ofString "whole", .int ((a : Int) + (b : Int) + (c : Int)) tW)] h' →
      wpAny (model PySem.Challenge.rw_ie0008_01.row.prog w) (callerA.deeper (lawEnv L fa cdv)) (execs ((bodyS lawS).drop 11) (lawEnv L fa cdv)) Q (fun e s' => wpAny (model PySem.Challenge.rw_ie0008_01.row.prog w) (callerA.deeper (lawEnv L fa cdv)) (leaving (lawEnv L fa cdv) e) (fun _ s'' => Q₁ e s'') E₁ s') { s with heap := h', toks := tk' }) :
    wpAny (model PySem.Challenge.rw_ie0008_01.row.prog w) (callerA.deeper (lawEnv L fa cdv)) (execs ((bodyS lawS).drop 10) (lawEnv L fa cdv)) Q (fun e s' => wpAny (model PySem.Challenge.rw_ie0008_01.row.prog w) (callerA.deeper (lawEnv L fa cdv)) (leaving (lawEnv L fa cdv) e) (fun _ s'' => Q₁ e s'') E₁ s') s := by
  w_top off
  revert X0; k_fill; intro X0
  obtain ⟨u, o1, c1, oc1, o2, c2, oc2, F, N, hO, ⟨⟨vE, hE⟩, hlo2, hlr2⟩, hIr, hT1, hT2, h12, hne⟩ := H
  dsimp only [lawEnv, lawS, PySem.Challenge.pw_ie0008_01, nthS, bodyS, parsS, scopeS, List.drop]
  (try k_fold)
  k_steps
  refine Stop.on (LCg.ListComp_U (F₀ := by k_asm) (by with_unfolding_all rfl) (by decide) (by rfl) (by decide) (by rfl) ?_)
  k_steps
  refine Stop.on (rows_use (by k_asm) (by k_asm) (by k_asm) (by k_asm) rfl (by k_asm) (by k_asm) (by decide) N ?_)
  intro h5 tk5 Dr ysr szd nw F5 N5 hDr hnw hLDr hLnw hPr
  simp only [List.cons_append, List.nil_append] at N5
  simp only [AllLt, and_true] at hDr
  clear F N
  try dsimp only
  k_steps
  have hlen27 : ysr.length = 27 := by rw [hPr.length, rowsN_len]
  have N6 : News h₀ L h5 ((30, o1) :: (c1, oc1) :: (37, o2) :: (c2, oc2) :: (Dr, listOf ysr.toArray szd) :: (lo, listOf [.int (a : Int) t1, .int (b : Int) t2, .int (c : Int) t3].toArray szo) :: (lr, listOf vsr.toArray szr) :: (L + 1, oO) :: (L + 1 + 1, oE) :: (nw ++ [])) := by
    rw [List.append_nil]
    exact List.forall_mem_cons.mpr ⟨N5 _ (by k_mem), List.forall_mem_cons.mpr ⟨N5 _ (by k_mem), List.forall_mem_cons.mpr ⟨N5 _ (by k_mem), List.forall_mem_cons.mpr ⟨N5 _ (by k_mem), List.forall_mem_cons.mpr ⟨N5 _ (by k_mem), List.forall_mem_cons.mpr ⟨N5 _ (by k_mem), List.forall_mem_cons.mpr ⟨N5 _ (by k_mem), List.forall_mem_cons.mpr ⟨N5 _ (by k_mem), List.forall_mem_cons.mpr ⟨N5 _ (by k_mem), fun p hp => N5 p (.tail _ (.tail _ (.tail _ (.tail _ (.tail _ (.tail _ (.tail _ (.tail _ (.tail _ hp)))))))))⟩⟩⟩⟩⟩⟩⟩⟩⟩
  refine Stop.on (LCg.CompSrc.ledger rfl F5 N6 (by k_mem) (by rw [List.size_toArray, hlen27]; decide) fun g => compRest_ind ysr.toArray.size
    (fun i ys news => ∃ o1 c1 oc1 o2 c2 oc2 out, news = (30, o1) :: (c1, oc1) :: (37, o2) :: (c2, oc2) :: (Dr, listOf ysr.toArray szd) :: (lo, listOf [.int (a : Int) t1, .int (b : Int) t2, .int (c : Int) t3].toArray szo) :: (lr, listOf vsr.toArray szr) :: (L + 1, oO) :: (L + 1 + 1, oE) :: (nw ++ out) ∧ Tab1 o1 c1 oc1 ∧ Tab2 o2 c2 oc2 ∧ (@Ne Nat c1 37 ∧ @Ne Nat c2 30 ∧ @Ne Nat c1 c2) ∧
      Paired (TupAt out) ys (((rowsN 3).take i).map (stretch a b c)) ∧ (∀ p ∈ out, @LT.lt Nat _ (L + 1 + 1) p.1) ∧ ∀ p ∈ (Dr, listOf ysr.toArray szd) :: (lo, listOf [.int (a : Int) t1, .int (b : Int) t2, .int (c : Int) t3].toArray szo) :: (lr, listOf vsr.toArray szr) :: (L + 1, oO) :: (L + 1 + 1, oE) :: (nw ++ out), @Ne Nat p.1 30 ∧ @Ne Nat p.1 c1 ∧ @Ne Nat p.1 37 ∧ @Ne Nat p.1 c2) ?fin ?step _ 0 [] _ (Nat.zero_add _) ⟨o1, c1, oc1, o2, c2, oc2, [], rfl, hT1, hT2, h12, .nil, (fun p hp => nomatch hp), ?ne0⟩)
  case ne0 =>
    have n9 := hne.out
    refine List.forall_mem_cons.mpr ⟨⟨Nat.ne_of_gt hDr.2.2.2.2.1, Nat.ne_of_gt hDr.2.2.2.2.2.1, Nat.ne_of_gt hDr.2.2.2.2.2.2.1, Nat.ne_of_gt hDr.2.2.2.2.2.2.2⟩, List.forall_mem_cons.mpr ⟨n9.1, List.forall_mem_cons.mpr ⟨n9.2.1, List.forall_mem_cons.mpr ⟨n9.2.2.1, List.forall_mem_cons.mpr ⟨n9.2.2.2, fun p hp => ?_⟩⟩⟩⟩⟩
    rw [List.append_nil] at hp
    exact ⟨Nat.ne_of_gt (hnw p hp (30, o1) (by k_mem)), Nat.ne_of_gt (hnw p hp (c1, oc1) (by k_mem)), Nat.ne_of_gt (hnw p hp (37, o2) (by k_mem)), Nat.ne_of_gt (hnw p hp (c2, oc2) (by k_mem))⟩
  case step =>
    clear N5 N6 F5 hT1 hT2 h12 hne hDr hnw
    rintro i ys news hi ⟨o1, c1, oc1, o2, c2, oc2, out, rfl, hT1, hT2, h12, hP, hout, hne⟩ v I oI C oC D m2 h tk E' hv hoC hm2 F6 N6 off hd3
    obtain ⟨r, hr, ar, us, sza, rfl, hma, hIa⟩ := paired_get hPr (by simpa using hv)
    have hrr := rowsN_all 3 r (List.mem_of_getElem? hr)
    have offm := off.mem
    try k_fold
    k_steps
    refine Stop.on (stretch_use ha hb hc hrr.2 (by omega) (by k_asm) (by k_asm) (by k_asm) (by k_asm) rfl (by k_asm) (by k_asm) (by decide) N6 (by ktr_rel) hT1 (by ktr_rel) (by ktr_rel) hT2 (by ktr_rel) (.tail _ (.tail _ (.tail _ (.tail _ (.tail _ (.tail _ (.tail _ (.tail _ (List.mem_append_left _ hma))))))))) (by k_mem) hIa h12
      (by exact ⟨⟨(offm _ (.head _)).1.symm, (offm _ (.head _)).2.1.symm, (offm _ (.head _)).2.2.symm, allNe_of fun p hp => (hne p hp).1⟩, ⟨(offm _ (.tail _ (.head _))).1.symm, (offm _ (.tail _ (.head _))).2.1.symm, (offm _ (.tail _ (.head _))).2.2.symm, allNe_of fun p hp => (hne p hp).2.1⟩, ⟨(offm _ (.tail _ (.tail _ (.head _)))).1.symm, (offm _ (.tail _ (.tail _ (.head _)))).2.1.symm, (offm _ (.tail _ (.tail _ (.head _)))).2.2.symm, allNe_of fun p hp => (hne p hp).2.2.1⟩, ⟨(offm _ (.tail _ (.tail _ (.tail _ (.head _))))).1.symm, (offm _ (.tail _ (.tail _ (.tail _ (.head _))))).2.1.symm, (offm _ (.tail _ (.tail _ (.tail _ (.head _))))).2.2.symm, allNe_of fun p hp => (hne p hp).2.2.2⟩⟩) ?_)
    intro h7 tk7 D7 tl7 tw7 sz7 o17 c17 oc17 o27 c27 oc27 F7 N7 hD7 hc17 hc27 hLD7 T17 T27 h127 hD37 hcs7
    try dsimp only
    k_steps
    have lt7 := allLt_mem hD7
    have ne1 := allNe_mem hc17
    have ne2 := allNe_mem hc27
    have e1 : (rowsN 3).take (i + 1) = (rowsN 3).take i ++ [r] := by rw [List.take_add_one, hr]; rfl
    have hown : ∀ p ∈ nw ++ ((D7, { cls := .type "tuple", data := .seq #[.int ((stretch a b c r).1 : Int) tl7, .int ((stretch a b c r).2 : Int) tw7] sz7 }) :: out), p ∈ nw ++ out ∨ p = (D7, { cls := .type "tuple", data := .seq #[.int ((stretch a b c r).1 : Int) tl7, .int ((stretch a b c r).2 : Int) tw7] sz7 }) := by
      intro p hp
      rcases List.mem_append.mp hp with hp | hp
      · exact .inl (List.mem_append_left _ hp)
      · rcases List.mem_cons.mp hp with rfl | hp
        · exact .inr rfl
        · exact .inl (List.mem_append_right _ hp)
    refine Stop.on (LCg.CompEnd.intro F7 N7 ((30, o17) :: (c17, oc17) :: (37, o27) :: (c27, oc27) :: (Dr, listOf ysr.toArray szd) :: (lo, listOf [.int (a : Int) t1, .int (b : Int) t2, .int (c : Int) t3].toArray szo) :: (lr, listOf vsr.toArray szr) :: (L + 1, oO) :: (L + 1 + 1, oE) :: (nw ++ ((D7, { cls := .type "tuple", data := .seq #[.int ((stretch a b c r).1 : Int) tl7, .int ((stretch a b c r).2 : Int) tw7] sz7 }) :: out)))
      ?sub (LCg.Off3.of ?off) (.inr ⟨_, .tail _ (.tail _ (.tail _ (.tail _ (.head _)))), rfl, _, rfl⟩) ⟨o17, c17, oc17, o27, c27, oc27, _, rfl, T17, T27, h127, ?pr, List.forall_mem_cons.mpr ⟨lt7 (L + 1 + 1, oE) (by k_mem), hout⟩, ?zne⟩)
    case sub =>
      refine List.forall_mem_cons.mpr ⟨by k_mem, List.forall_mem_cons.mpr ⟨by k_mem, List.forall_mem_cons.mpr ⟨by k_mem, List.forall_mem_cons.mpr ⟨by k_mem, List.forall_mem_cons.mpr ⟨by k_mem, List.forall_mem_cons.mpr ⟨by k_mem, List.forall_mem_cons.mpr ⟨by k_mem, List.forall_mem_cons.mpr ⟨by k_mem, List.forall_mem_cons.mpr ⟨by k_mem, List.forall_mem_cons.mpr ⟨by k_mem, List.forall_mem_cons.mpr ⟨by k_mem, List.forall_mem_cons.mpr ⟨by k_mem, fun p hp => ?_⟩⟩⟩⟩⟩⟩⟩⟩⟩⟩⟩⟩
      rcases hown p hp with hp | rfl
      · exact .tail _ (.tail _ (.tail _ (.tail _ (.tail _ (.tail _ (.tail _ (.tail _ (.tail _ (.tail _ (.tail _ (.tail _ (.tail _ hp))))))))))))
      · exact .head _
    case off =>
      refine List.forall_mem_cons.mpr ⟨offm (30, o1) (by k_mem), List.forall_mem_cons.mpr ⟨⟨(ne1 (I, oI) (by k_mem)).symm, (ne1 (C, oC) (by k_mem)).symm, (ne1 (D, LCg.lst ys) (by k_mem)).symm⟩, List.forall_mem_cons.mpr ⟨offm (37, o2) (by k_mem), List.forall_mem_cons.mpr ⟨⟨(ne2 (I, oI) (by k_mem)).symm, (ne2 (C, oC) (by k_mem)).symm, (ne2 (D, LCg.lst ys) (by k_mem)).symm⟩, List.forall_mem_cons.mpr ⟨offm (Dr, _) (by k_mem), List.forall_mem_cons.mpr ⟨offm (lo, _) (by k_mem), List.forall_mem_cons.mpr ⟨offm (lr, _) (by k_mem), List.forall_mem_cons.mpr ⟨offm (L + 1, oO) (by k_mem), List.forall_mem_cons.mpr ⟨offm (L + 1 + 1, oE) (by k_mem), fun p hp => ?_⟩⟩⟩⟩⟩⟩⟩⟩⟩
      rcases hown p hp with hp | rfl
      · exact offm p (.tail _ (.tail _ (.tail _ (.tail _ (.tail _ (.tail _ (.tail _ (.tail _ (.tail _ hp)))))))))
      · exact ⟨Nat.ne_of_gt (lt7 (I, oI) (by k_mem)), Nat.ne_of_gt (lt7 (C, oC) (by k_mem)), Nat.ne_of_gt (lt7 (D, LCg.lst ys) (by k_mem))⟩
    case pr =>
      rw [e1, List.map_append]
      exact Paired.snoc (paired_mono (TupAt.mono fun p hp => .tail _ hp) hP) ⟨D7, tl7, tw7, sz7, rfl, .head _⟩
    case zne =>
      have old : ∀ p ∈ (Dr, listOf ysr.toArray szd) :: (lo, listOf [.int (a : Int) t1, .int (b : Int) t2, .int (c : Int) t3].toArray szo) :: (lr, listOf vsr.toArray szr) :: (L + 1, oO) :: (L + 1 + 1, oE) :: (nw ++ out), @Ne Nat p.1 30 ∧ @Ne Nat p.1 c17 ∧ @Ne Nat p.1 37 ∧ @Ne Nat p.1 c27 :=
        fun p hp => ⟨(hne p hp).1, ne1 p (.tail _ (.tail _ (.tail _ hp))), (hne p hp).2.2.1, ne2 p (.tail _ (.tail _ (.tail _ hp)))⟩
      refine List.forall_mem_cons.mpr ⟨old _ (by k_mem), List.forall_mem_cons.mpr ⟨old _ (by k_mem), List.forall_mem_cons.mpr ⟨old _ (by k_mem), List.forall_mem_cons.mpr ⟨old _ (by k_mem), List.forall_mem_cons.mpr ⟨old _ (by k_mem), fun p hp => ?_⟩⟩⟩⟩⟩
      rcases hown p hp with hp | rfl
      · exact old p (.tail _ (.tail _ (.tail _ (.tail _ (.tail _ hp)))))
      · exact ⟨Nat.ne_of_gt hD37.1, Nat.ne_of_gt hD37.2.2.1, Nat.ne_of_gt hD37.2.1, Nat.ne_of_gt hD37.2.2.2⟩
  case fin =>
    clear N5 N6 F5 hT1 hT2 h12 hne hDr hnw
    rintro ys news ⟨o1, c1, oc1, o2, c2, oc2, out, rfl, hT1, hT2, h12, hP, hout, hne⟩ De h7 tk7 F7 N7 off
    try dsimp only
    k_steps
    have o9 := allNe_mem9 off
    have N8 : News h₀ L h7 ([] ++ (L + 1 + 1, oE) :: (De, LCg.lst ys) :: (lo, listOf [.int (a : Int) t1, .int (b : Int) t2, .int (c : Int) t3].toArray szo) :: (lr, listOf vsr.toArray szr) :: (L + 1, oO) :: (30, o1) :: (c1, oc1) :: (37, o2) :: (c2, oc2) :: out) :=
      news_sub N7 (List.forall_mem_cons.mpr ⟨by k_mem, List.forall_mem_cons.mpr ⟨by k_mem, List.forall_mem_cons.mpr ⟨by k_mem, List.forall_mem_cons.mpr ⟨by k_mem, List.forall_mem_cons.mpr ⟨by k_mem, List.forall_mem_cons.mpr ⟨by k_mem, List.forall_mem_cons.mpr ⟨by k_mem, List.forall_mem_cons.mpr ⟨by k_mem, List.forall_mem_cons.mpr ⟨by k_mem, fun p hp => .tail _ (.tail _ (.tail _ (.tail _ (.tail _ (.tail _ (.tail _ (.tail _ (.tail _ (.tail _ (List.mem_append_right _ hp))))))))))⟩⟩⟩⟩⟩⟩⟩⟩⟩)
    have nL := hne (L + 1 + 1, oE) (by k_mem)
    refine stCN F7 N8 (by rfl) hE (fun p hp => nomatch hp) (List.forall_mem_cons.mpr ⟨(o9 (L + 1 + 1, oE) (by k_mem)).symm, List.forall_mem_cons.mpr ⟨hlo2, List.forall_mem_cons.mpr ⟨hlr2, List.forall_mem_cons.mpr ⟨Nat.ne_of_lt (Nat.lt_succ_self _), List.forall_mem_cons.mpr ⟨nL.1.symm, List.forall_mem_cons.mpr ⟨nL.2.1.symm, List.forall_mem_cons.mpr ⟨nL.2.2.1.symm, List.forall_mem_cons.mpr ⟨nL.2.2.2.symm, fun p hp => Nat.ne_of_gt (hout p hp)⟩⟩⟩⟩⟩⟩⟩⟩) ?_
    clear N7 F7
    intro h8 oE' F8 N9 hE'
    simp only [List.nil_append] at N9
    try dsimp only
    k_steps
    have n9 := hne
    refine Stop.on (next _ _ ⟨_, oE', o1, c1, oc1, o2, c2, oc2, De, ys, ys.length, out, F8, news_sub N9 (List.forall_mem_cons.mpr ⟨by k_mem, List.forall_mem_cons.mpr ⟨by k_mem, List.forall_mem_cons.mpr ⟨by k_mem, List.forall_mem_cons.mpr ⟨by k_mem, List.forall_mem_cons.mpr ⟨by k_mem, List.forall_mem_cons.mpr ⟨by k_mem, List.forall_mem_cons.mpr ⟨by k_mem, List.forall_mem_cons.mpr ⟨by k_mem, List.forall_mem_cons.mpr ⟨by k_mem, fun p hp => .tail _ (.tail _ (.tail _ (.tail _ (.tail _ (.tail _ (.tail _ (.tail _ (.tail _ hp))))))))⟩⟩⟩⟩⟩⟩⟩⟩⟩), hO, hE', hIr, ?pr, hT1, hT2, h12, .mk ⟨hne _ (.tail _ (.head _)), hne _ (.tail _ (.tail _ (.head _))), hne _ (.tail _ (.tail _ (.tail _ (.head _)))), hne _ (.tail _ (.tail _ (.tail _ (.tail _ (.head _)))))⟩⟩)
    case pr =>
      rw [List.size_toArray, hlen27, show (rowsN 3).take 27 = rowsN 3 from rfl] at hP
      exact hP
end
end Mine
end
section
namespace Mine
/-- stretches that adjoin, from s to e -/
def chain : Nat → List (Nat × Nat) → Nat → Prop
  | s, [], e => s = e
  | s, p :: r, e => p.1 = s ∧ chain (p.1 + p.2) r e
theorem chain_append : ∀ {x y : List (Nat × Nat)} {s m e : Nat}, chain s x m → chain m y e → chain s (x ++ y) e
  | [], _, _, _, _, h, h' => by have h : _ = _ := h; subst h; exact h'
  | _ :: _, _, _, _, _, h, h' => ⟨h.1, chain_append h.2 h'⟩
theorem part_kids {a b c n : Nat} (hw : 0 < a + b + c) (r : List Nat) (hr : r.length < n) :
    chain (part a b c n r).1 ((expd r).map (part a b c n)) ((part a b c n r).1 + (part a b c n r).2) := by
  have hq : (part a b c n r).2 / (a + b + c) * (a + b + c) = (part a b c n r).2 := by
    rw [part_wide hw n r (Nat.le_of_lt hr), show n - r.length = (n - r.length - 1) + 1 by omega, Nat.pow_succ, ← Nat.mul_assoc, Nat.mul_div_cancel _ hw]
  simp only [expd, List.map_cons, List.map_nil, part_snoc, stp, sms, oft]
  generalize (part a b c n r).2 / (a + b + c) = q at *
  generalize (part a b c n r).1 = lo
  rw [← hq]
  simp only [if_true, Nat.mul_zero, Nat.add_zero, if_false, show ¬ ((1 : Nat) = 0) by decide, show ¬ ((2 : Nat) = 0) by decide, show ¬ ((2 : Nat) = 1) by decide]
  refine ⟨rfl, rfl, ?_, ?_⟩
  · show lo + q * (a + b) = lo + q * a + q * b
    rw [Nat.mul_add]; omega
  · show lo + q * (a + b) + q * c = lo + q * (a + b + c)
    rw [Nat.mul_add q (a + b) c]; omega
theorem chain_flat {a b c n : Nat} (hw : 0 < a + b + c) : ∀ {rows : List (List Nat)} {s e : Nat}, (∀ r ∈ rows, r.length < n) → chain s (rows.map (part a b c n)) e → chain s ((rows.flatMap expd).map (part a b c n)) e
  | [], _, _, _, h => h
  | r :: rows, s, e, hr, h => by
    rw [List.flatMap_cons, List.map_append]
    have h1 : (part a b c n r).1 = s := h.1
    refine chain_append (m := (part a b c n r).1 + (part a b c n r).2) ?_ (chain_flat hw (fun q hq => hr q (List.mem_cons_of_mem _ hq)) h.2)
    rw [← h1]
    exact part_kids hw r (hr r (List.mem_cons_self ..))
theorem rows_chain {a b c n : Nat} (hw : 0 < a + b + c) : ∀ i, i ≤ n → chain 0 ((rowsN i).map (part a b c n)) ((a + b + c) ^ n)
  | 0, _ => ⟨rfl, Nat.zero_add _⟩
  | i + 1, h => chain_flat hw (fun r hr => by rw [(rowsN_all i r hr).1]; omega) (rows_chain hw i (by omega))
theorem chain_at : ∀ {l : List (Nat × Nat)} {s e k : Nat} {p q : Nat × Nat}, chain s l e → l[k]? = some p → l[k + 1]? = some q → p.1 + p.2 = q.1
  | [], _, _, _, _, _, _, h, _ => by simp at h
  | [_], _, _, _, _, _, _, _, h => by simp at h
  | x :: y :: r, s, e, 0, p, q, h, hp, hq => by
    simp only [List.getElem?_cons_zero, Option.some.injEq, Nat.zero_add, List.getElem?_cons_succ] at hp hq
    subst hp; subst hq
    exact h.2.1.symm
  | x :: y :: r, s, e, k + 1, p, q, h, hp, hq => by
    simp only [List.getElem?_cons_succ] at hp hq
    exact chain_at (k := k) h.2 hp (by rw [List.getElem?_cons_succ]; exact hq)
theorem chain_last : ∀ {l : List (Nat × Nat)} {s e : Nat} {p : Nat × Nat}, chain s l e → l[l.length - 1]? = some p → p.1 + p.2 = e
  | [], _, _, _, _, h => by simp at h
  | [x], s, e, p, h, hp => by
    simp only [List.length_singleton, Nat.sub_self, List.getElem?_cons_zero, Option.some.injEq] at hp
    subst hp
    exact h.2
  | x :: y :: r, s, e, p, h, hp => by
    have : (x :: y :: r).length - 1 = ((y :: r).length - 1) + 1 := by simp
    rw [this, List.getElem?_cons_succ] at hp
    exact chain_last h.2 hp
theorem rows3_eq (a b c : Nat) : (rowsN 3).map (stretch a b c) = (rowsN 3).map (part a b c 3) :=
  List.map_congr_left fun r hr => by rw [stretch, (rowsN_all 3 r hr).1]
end Mine
end
section
open PySem PySem.W PyProof.Rows PySem.Calls PySem.Spec
set_option maxRecDepth 100000
namespace Mine
theorem item_last {prog : Program} {w : World} {A : Around} {E : Value → Shared → Prop} {s : Shared} {h₀ : Heap} {L l n : Nat} {vs : List Value} {news : Led} {value slice : PySem.Expr} {k : Int} {u : Tok} {v : Value} {Q : Value → Shared → Prop}
    (N : News h₀ L s.heap news) (hm : (l, listOf vs.toArray n) ∈ news) (hk : k = -1) (hv : vs.length = 27) (hx : vs[26]? = some v) (h : Q v s)
    (hs : subscripted slice false (.ref l) (.int k u) = operate [.ref l, .int k u] (getItem (.ref l) (.int k u)) := by with_unfolding_all rfl) :
    wpAny (model prog w) A (subscriptTail value slice (.ref l) (.int k u)) Q E s := by
  have hl : s.heap.IsList l vs.toArray := ⟨_, (N _ hm).1, rfl, n, rfl⟩
  subst hk
  refine tail_any hl.typeIs slot_list_getitem.lookup (wpAny_getItem_list_neg hl (by decide) ?_ (by decide) ?_ h) hs
  · rw [List.size_toArray, hv]; decide
  · rw [List.size_toArray, hv]; simpa using hx
theorem pair_sum {prog : Program} {w : World} {A : Around} {E : Value → Shared → Prop} {s : Shared} {h₀ : Heap} {L t : Addr} {m : Str → Option Value} {news : Led} {x y : Int} {u1 u2 : Tok} {n : Nat} {Q : Value → Shared → Prop}
    (hh : A.handled = none) (F : Fr h₀ L s.heap m) (N : News h₀ L s.heap news) (hm : (t, { cls := .type "tuple", data := .seq #[.int x u1, .int y u2] n }) ∈ news)
    (h : ∀ h' tk t', Fr h₀ L h' m → News h₀ L h' news → Q (.int (x + y) t') { s with heap := h', toks := tk }) :
    wpAny (model prog w) A (call (.builtin "sum") [.ref t]) Q E s := by
  have hl : s.heap.IsTuple t [.int x u1, .int y u2].toArray := ⟨_, (N _ hm).1, rfl, n, rfl⟩
  have hi : IntsAre [.int x u1, .int y u2] [x, y] := .cons _ _ (.cons _ _ .nil)
  obtain ⟨xs, hx⟩ := hi.allInts.items
  have hn : numsOf [Value.int x u1, .int y u2].toArray.toList = [x, y] := by rw [show [Value.int x u1, .int y u2].toArray.toList = [.int x u1, .int y u2] from rfl, hi.numsOf]
  rw [hx] at hl hn
  rw [nums_intItems] at hn
  refine ktm_sumG hh hl fun h' tk t' hk => ?_
  have := h h' tk t' (F.keeps hk) (N.grown hk)
  rw [preSum_eq, List.take_of_length_le (by simp), hn]
  simpa using this
open PyProof.Rows.LCg PyProof.Rows.LCt in
theorem compRestT_ind {prog : Program} {w : World} {A : Around} {h₀ : Heap} {L : Addr} {m : Str → Option Value} {env : Env} {ct elt : PySem.Expr} {x : Str} {scope : Scope} {cl : List (Str × Addr)} {s : Shared} {S : Led → Prop} {P : Nat → Value → Prop} {Fin : List Value → Led → Prop}
    (n : Nat) (ys : List Value) (news : Led) (done : Fin ys news)
    (step : ∀ i, i < n → ∀ v I oI C oC D m₂ h tk (E' : Value → Shared → Prop), P i v → NsObj oC m₂ → m₂ x = some v → Fr h₀ L h m → News h₀ L h ((I, oI) :: (C, oC) :: (D, lst ys) :: news) → Off3 I C D news → ((@Ne Nat I C) ∧ (@Ne Nat I D) ∧ (@Ne Nat C D)) →
      wpAny (model prog w) A (isTrue ct (compEnvC scope cl C env) (eval ct (compEnvC scope cl C env))) (fun ok s' => ok = false ∧ CompEnd h₀ L m { s with heap := h, toks := tk } I oI C oC D (lst ys) S (fun _ news' => news' = news) Value.none s') E' { s with heap := h, toks := tk }) :
    ∀ k i, i + k = n → CompRestT prog w A h₀ L m env ct elt x scope cl s S P Fin k i ys news
  | 0, _, _ => .zero done
  | k + 1, i, e => .succ fun v I oI C oC D m₂ h tk E' hP hC hx F N off hd =>
      wpAny_mono (step i (by omega) v I oI C oC D m₂ h tk E' hP hC hx F N off hd)
        (fun ok s' ⟨e0, h', tk', news', e1, F', N', off', hS, hr⟩ => by
          subst e0; subst hr
          rw [if_neg (by decide)]
          exact ⟨h', tk', news', e1, F', N', off', hS, compRestT_ind n ys news' done step k (i + 1) (by omega)⟩) fun _ _ q => q
section
local macro_rules | `(tactic| walk_at "subscriptTail Name BinOp ref int") => `(tactic| (k_here; (with_reducible show wpAny _ _ (subscriptTail _ _ (Value.ref _) (Value.int _ _)) _ _ _); (k_dflt (refine' item_written ?k1 ?k2 ?k3 ?k4 ?k5 ?_ ?k6; (case k1 => k_asm); (case k2 => k_mem); (case k3 => omega); (case k4 => omega); (case k5 => assumption); (case k6 => with_unfolding_all rfl)); k_whole)))
local macro_rules | `(tactic| walk_at "subscriptTail Name Name ref int") => `(tactic| (k_here; (with_reducible show wpAny _ _ (subscriptTail _ _ (Value.ref _) (Value.int _ _)) _ _ _); (k_dflt (refine' item_written ?k1 ?k2 ?k3 ?k4 ?k5 ?_ ?k6; (case k1 => k_asm); (case k2 => k_mem); (case k3 => omega); (case k4 => omega); (case k5 => assumption); (case k6 => with_unfolding_all rfl)); k_whole)))
local macro_rules | `(tactic| walk_at "call builtin:sum") => `(tactic| (k_here; (with_reducible show wpAny _ _ (call (Value.builtin "sum") [Value.ref _]) _ _ _); k_dflt (refine' pair_sum ?k0 ?k1 ?k2 ?k3 ?_; (case k0 => with_unfolding_all rfl); (case k1 => k_asm); (case k2 => k_asm); (case k3 => k_mem); k_whole); intro h' tk' t' F' N'))
local macro_rules | `(tactic| walk_at "subscriptTail Name Constant ref int") => `(tactic| (k_here; (with_reducible show wpAny _ _ (subscriptTail _ _ (Value.ref _) (Value.int _ _)) _ _ _); (k_dflt (refine' item_written ?k1 ?k2 ?k3 ?k4 ?k5 ?_ ?k6; (case k1 => k_asm); (case k2 => k_mem); (case k3 => decide); (case k4 => decide); (case k5 => assumption); (case k6 => with_unfolding_all rfl)); k_whole)))
local macro_rules | `(tactic| walk_at "subscriptTail Name UnaryOp ref int") => `(tactic| (k_here; (with_reducible show wpAny _ _ (subscriptTail _ _ (Value.ref _) (Value.int _ _)) _ _ _); (k_dflt (refine' item_last ?k1 ?k2 ?k3 ?k4 ?k5 ?_ ?k6; (case k1 => k_asm); (case k2 => k_mem); (case k3 => decide); (case k4 => assumption); (case k5 => assumption); (case k6 => with_unfolding_all rfl)); k_whole)))
local macro_rules | `(tactic| walk_at "eval ListComp") => `(tactic| refine stop_of ?_)
local macro_rules | `(tactic| walk_at "CompSrcT") => `(tactic| refine stop_of ?_)
local macro_rules | `(tactic| walk_at "CompEnd") => `(tactic| refine stop_of ?_)
local macro_rules | `(tactic| walk_at "call type:range") => `(tactic| ((k_dflt (refine range1_rows (by k_asm) (by k_asm) ?_)); intro _ _ _ _ _ hR9 F' N' _))
local macro_rules | `(tactic| walk_at "binaryOp Pow int int") => `(tactic| (refine pow_to (by assumption) (by assumption) ?_; intro _ _))
local macro_rules | `(tactic| walk_at "execs cons Assign cons") => `(tactic| ((with_reducible show wpAny _ _ (execs (Stmt.Assign [Expr.Name (PySem.Str.ofString "best") _] _ _ :: _) _) _ _ _); refine stop_of ?_))

set_option maxHeartbeats 8000000 in
theorem lawE (w : World) (p : Program) (loose : List Str) (mean : ExcName → Option Value) (mg mb : Str → Option Value) (a b c : Nat) (ha : 1 ≤ a ∧ a ≤ 5) (hb : 1 ≤ b ∧ b ≤ 5) (hc : 1 ≤ c ∧ c ≤ 5) (row : List Nat)
    (base h₀ : Heap) (L fa : Addr) (cdv : Value) (s : Shared) (Q : Flow → Shared → Prop) (Q₁ : Value → Shared → Prop) (E₁ : Value → Shared → Prop)
    (lo szo lr szr : Nat) (t1 t2 t3 : Tok) (vsr : List Value) (oO : Obj) (tl tw tW : Tok)
    (B0 : Below callerA base [] h₀) (X0 : (hd.heap_39 w.params).In h₀) (T : Top p loose mean mg mb h₀) (C1 : CodeHd h₀ 34 30) (C2 : CodeHd h₀ 41 37) (hlo2 : @Ne Nat lo (L + 1 + 1) ∧ @Ne Nat lr (L + 1 + 1))
    (H : EndsAt h₀ L a b c row lo szo lr szr t1 t2 t3 vsr oO [(PySem.Str.ofString "row", .ref lr), (PySem.Str.ofString "low", .int ((stretch a b c row).1 : Int) tl), (PySem.Str.ofString "wide", .int ((stretch a b c row).2 : Int) tw), (PySem.Str.ofString "whole", .int ((a : Int) + (b : Int) + (c : Int)) tW)] s.heap)
    (next : ∀ h' tk' oE, LawAt h₀ L a b c row lo szo lr szr t1 t2 t3 vsr oO oE [(PySem.Str.ofString "row", .ref lr), (PySem.Str.ofString "low", .int ((stretch a b c row).1 : Int) tl), (PySem.Str.ofString "wide", .int ((stretch a b c row).2 : Int) tw), (PySem.Str.ofString "whole", .int ((a : Int) + (b : Int) + (c : Int)) tW)] h' →
      wpAny (model PySem.Challenge.rw_ie0008_01.row.prog w) (callerA.deeper (lawEnv L fa cdv)) (execs ((bodyS lawS).drop 12) (lawEnv L fa cdv)) Q (fun e s' => wpAny (model PySem.Challenge.rw_ie0008_01.row.prog w) (callerA.deeper (lawEnv L fa cdv)) (leaving (lawEnv L fa cdv) e) (fun _ s'' => Q₁ e s'') E₁ s') { s with heap := h', toks := tk' }) :
    wpAny (model PySem.Challenge.rw_ie0008_01.row.prog w) (callerA.deeper (lawEnv L fa cdv)) (execs ((bodyS lawS).drop 11) (lawEnv L fa cdv)) Q (fun e s' => wpAny (model PySem.Challenge.rw_ie0008_01.row.prog w) (callerA.deeper (lawEnv L fa cdv)) (leaving (lawEnv L fa cdv) e) (fun _ s'' => Q₁ e s'') E₁ s') s := by
  w_top off
  revert X0; k_fill; intro X0
  obtain ⟨u, oE, o1, c1, oc1, o2, c2, oc2, De, ys, sze, out, F, N, hO, hE, hIr, hP, hT1, hT2, h12, hne⟩ := H
  dsimp only [lawEnv, lawS, PySem.Challenge.pw_ie0008_01, nthS, bodyS, parsS, scopeS, List.drop]
  have hw : 0 < a + b + c := by omega
  have hch := rows_chain (n := 3) hw 3 (Nat.le_refl _)
  rw [← rows3_eq] at hch
  have hST : ((rowsN 3).map (stretch a b c)).length = 27 := by rw [List.length_map, rowsN_len]
  have hlen : ys.length = 27 := by rw [hP.length, hST]
  have item : ∀ k, k < 27 → ∃ (T : Nat) (u1 u2 : Tok) (sz : Nat) (lw : Nat × Nat), ys[k]? = some (.ref T) ∧ ((rowsN 3).map (stretch a b c))[k]? = some lw ∧ (T, { cls := .type "tuple", data := .seq #[.int (lw.1 : Int) u1, .int (lw.2 : Int) u2] sz }) ∈ out := by
    intro k hk
    obtain ⟨v, hv⟩ : ∃ v, ys[k]? = some v := ⟨ys[k]'(by omega), by simp⟩
    obtain ⟨lw, hlw, T, u1, u2, sz, rfl, hm⟩ := paired_get hP hv
    exact ⟨T, u1, u2, sz, lw, hv, hlw, hm⟩
  obtain ⟨T0, v1, v2, sz0, lw0, hy0, hl0, hm0⟩ := item 0 (by decide)
  obtain ⟨T26, w1, w2, sz26, lw26, hy26, hl26, hm26⟩ := item 26 (by decide)
  have hy0' : ys[Int.toNat 0]? = some (.ref T0) := hy0
  have hz : lw0.1 = 0 := by
    revert hch hl0
    generalize (rowsN 3).map (stretch a b c) = l
    intro hch hl0
    cases l with
    | nil => simp at hl0
    | cons x r =>
      simp only [List.getElem?_cons_zero, Option.some.injEq] at hl0
      rw [← hl0]; exact hch.1
  have he : lw26.1 + lw26.2 = (a + b + c) ^ 3 := chain_last hch (by rw [hST]; exact hl26)
  have N1 : News h₀ L s.heap ((T0, { cls := .type "tuple", data := .seq #[.int (lw0.1 : Int) v1, .int (lw0.2 : Int) v2] sz0 }) :: (T26, { cls := .type "tuple", data := .seq #[.int (lw26.1 : Int) w1, .int (lw26.2 : Int) w2] sz26 }) :: (De, listOf ys.toArray sze) :: (lo, listOf [.int (a : Int) t1, .int (b : Int) t2, .int (c : Int) t3].toArray szo) :: (lr, listOf vsr.toArray szr) :: (L + 1, oO) :: (L + 1 + 1, oE) :: (30, o1) :: (c1, oc1) :: (37, o2) :: (c2, oc2) :: out) := by
    have up : ∀ p ∈ out, p ∈ (De, listOf ys.toArray sze) :: (lo, listOf [.int (a : Int) t1, .int (b : Int) t2, .int (c : Int) t3].toArray szo) :: (lr, listOf vsr.toArray szr) :: (L + 1, oO) :: (L + 1 + 1, oE) :: (30, o1) :: (c1, oc1) :: (37, o2) :: (c2, oc2) :: out :=
      fun p hp => .tail _ (.tail _ (.tail _ (.tail _ (.tail _ (.tail _ (.tail _ (.tail _ (.tail _ hp))))))))
    exact List.forall_mem_cons.mpr ⟨N _ (up _ hm0), List.forall_mem_cons.mpr ⟨N _ (up _ hm26), N⟩⟩
  clear N
  have hpw : 0 ≤ (3 : Int) ∧ (3 : Int) ≤ 1000 ∧ ((a : Int) + (b : Int) + (c : Int)).natAbs < 2 ^ 64 := by omega
  have hpe : ((a : Int) + (b : Int) + (c : Int)) ^ (3 : Int).toNat = (((a + b + c) ^ 3 : Nat) : Int) := by
    rw [show (3 : Int).toNat = 3 from rfl]; push_cast; rfl
  have hz' : (lw0.1 : Int) = 0 := by omega
  have he' : (lw26.1 : Int) + (lw26.2 : Int) = (((a + b + c) ^ 3 : Nat) : Int) := by rw [← he]; push_cast; rfl
  (try k_fold)
  k_steps
  · exact absurd hz' (by assumption)
  · exact absurd he' (by assumption)
  refine Stop.on (LCt.ListComp_T (F₀ := by k_asm) (by with_unfolding_all rfl) (by decide) (by rfl) (by decide) (by rfl) ?_)
  k_steps
  rename News h₀ _ _ _ => N9
  rename Fr h₀ _ _ _ => F9
  refine Stop.on (LCt.CompSrcT.range (n := 26) (news := (De, listOf ys.toArray sze) :: (lo, listOf [.int (a : Int) t1, .int (b : Int) t2, .int (c : Int) t3].toArray szo) :: (lr, listOf vsr.toArray szr) :: (L + 1, oO) :: (L + 1 + 1, oE) :: (30, o1) :: (c1, oc1) :: (37, o2) :: (c2, oc2) :: out) rfl F9 (fun p hp => N9 p (.tail _ (.tail _ hp))) (by assumption) (by decide) (by rfl) (by decide) fun g => compRestT_ind 26 [] _ ?fin ?step 26 0 (by rfl))
  case step =>
    clear N9 F9 N1
    rintro i hi v I oI C oC D m2 h tk E' ⟨t, rfl⟩ hoC hm2 F6 N6 off hd3
    obtain ⟨Ta, va1, va2, sza, lwa, hya, hla, hma⟩ := item i (by omega)
    obtain ⟨Tb, vb1, vb2, szb, lwb, hyb, hlb, hmb⟩ := item (i + 1) (by omega)
    have hadj : (lwa.1 : Int) + (lwa.2 : Int) = (lwb.1 : Int) := by
      have := chain_at hch hla hlb
      omega
    have hya' : ys[(1 + (i : Int) - 1).toNat]? = some (.ref Ta) := by rw [show (1 + (i : Int) - 1).toNat = i by omega]; exact hya
    have hyb' : ys[(1 + (i : Int)).toNat]? = some (.ref Tb) := by rw [show (1 + (i : Int)).toNat = i + 1 by omega]; exact hyb
    have up : ∀ p ∈ out, p ∈ (I, oI) :: (C, oC) :: (D, LCg.lst []) :: (De, listOf ys.toArray sze) :: (lo, listOf [.int (a : Int) t1, .int (b : Int) t2, .int (c : Int) t3].toArray szo) :: (lr, listOf vsr.toArray szr) :: (L + 1, oO) :: (L + 1 + 1, oE) :: (30, o1) :: (c1, oc1) :: (37, o2) :: (c2, oc2) :: out :=
      fun p hp => .tail _ (.tail _ (.tail _ (.tail _ (.tail _ (.tail _ (.tail _ (.tail _ (.tail _ (.tail _ (.tail _ (.tail _ hp)))))))))))
    have N7 : News h₀ L h ((Ta, { cls := .type "tuple", data := .seq #[.int (lwa.1 : Int) va1, .int (lwa.2 : Int) va2] sza }) :: (Tb, { cls := .type "tuple", data := .seq #[.int (lwb.1 : Int) vb1, .int (lwb.2 : Int) vb2] szb }) :: (I, oI) :: (C, oC) :: (D, LCg.lst []) :: (De, listOf ys.toArray sze) :: (lo, listOf [.int (a : Int) t1, .int (b : Int) t2, .int (c : Int) t3].toArray szo) :: (lr, listOf vsr.toArray szr) :: (L + 1, oO) :: (L + 1 + 1, oE) :: (30, o1) :: (c1, oc1) :: (37, o2) :: (c2, oc2) :: out) :=
      List.forall_mem_cons.mpr ⟨N6 _ (up _ hma), List.forall_mem_cons.mpr ⟨N6 _ (up _ hmb), N6⟩⟩
    clear N6 up
    try k_fold
    k_steps
    · rw [hadj]; exact bne_self_eq_false _
    rename News h₀ _ _ _ => N8
    rename Fr h₀ _ _ _ => F8
    exact Stop.on (LCg.CompEnd.intro F8 N8 _ (fun p hp => .tail _ (.tail _ hp)) off trivial rfl)
  case fin =>
    clear N9 F9 N1
    rintro D h tk F6 N6 off
    try dsimp only
    k_steps
    rename News h₀ _ _ _ => N8
    rename Fr h₀ _ _ _ => F8
    refine Stop.on (next _ _ oE ⟨_, o1, c1, oc1, o2, c2, oc2, F8, ?zn, hO, ⟨⟨_, hE⟩, hlo2⟩, hIr, hT1, hT2, h12, hne⟩)
    case zn => exact news_sub N8 (List.forall_mem_cons.mpr ⟨by k_mem, List.forall_mem_cons.mpr ⟨by k_mem, List.forall_mem_cons.mpr ⟨by k_mem, List.forall_mem_cons.mpr ⟨by k_mem, List.forall_mem_cons.mpr ⟨by k_mem, List.forall_mem_cons.mpr ⟨by k_mem, List.forall_mem_cons.mpr ⟨by k_mem, List.forall_mem_cons.mpr ⟨by k_mem, List.forall_mem_nil _⟩⟩⟩⟩⟩⟩⟩⟩)
end
end Mine
end
section
open PySem PySem.W PyProof.Rows PySem.Calls PySem.Spec
set_option maxRecDepth 100000
namespace Mine
open PySem.SeqAt in
theorem index_ints {prog : Program} {w : World} {A : Around} {E : Value → Shared → Prop} {s : Shared} {l : Addr} {vs : List Value} {ns : List Int} {k : Int} {t : Tok} {Q : Value → Shared → Prop} (hl : s.heap.IsList l vs.toArray) (hi : IntsAre vs ns)
    (hb : ns.length ≤ 1000) (hk : k ∈ ns) (h : Q (.int (ns.idxOf k : Nat) s.toks) { s with toks := s.toks + 1 }) :
    wpAny (model prog w) A (call (.builtin "list.index") [.ref l, .int k t]) Q E s := by
  obtain ⟨⟨cls, dd, data, sl⟩, ho, hc, n, hd⟩ := id hl
  simp only at hc hd
  subst hc hd
  have hlen := hi.length
  have hj : ns.idxOf k < ns.length := List.idxOf_lt_length_iff.mpr hk
  refine call_meets PySem.F.slot_list_index ⟨_, ho, rfl⟩ PySem.F.entry_list_index (PySem.F.args_list_index_2 _ _)
    (list_indexAt l vs.toArray n dd sl (.int k t) (isInt k) (ns.idxOf k) (by simpa [hlen] using hj) (by omega) ?_ ?_) ⟨ho, fun y hy => (eq_isInt k t hi y (by simpa using hy)).at _ _, h⟩
  · show isInt k vs[ns.idxOf k] = true
    rw [isInt_at k hi _ (by omega) hj]
    simpa using List.getElem_idxOf hj
  · intro j hjs hlt
    show isInt k vs[j] = false
    rw [isInt_at k hi j (by simpa using hjs) (by omega)]
    exact ne_of_lt_idxOf hlt _
theorem flat_one {α : Type} (x : α) : ∀ n : Nat, (List.replicate n [x]).flatten = List.replicate n x
  | 0 => rfl
  | n + 1 => by rw [List.replicate_succ, List.flatten_cons, flat_one x n]; rfl
/-- a row of the commonest letter is the widest -/
theorem best_wide {a b c j : Nat} (hge : ∀ i, oft a b c i ≤ oft a b c j) : ∀ row : List Nat, prod a b c row ≤ prod a b c (List.replicate row.length j) := by
  intro row
  induction row using snoc_ind with
  | h0 => exact Nat.le_refl 1
  | hs p i ih =>
    rw [prod_snoc, List.length_append, List.length_singleton, List.replicate_succ', prod_snoc]
    exact Nat.mul_le_mul ih (hge i)
theorem wide_eq {a b c : Nat} (hw : 0 < a + b + c) (row : List Nat) : (stretch a b c row).2 = prod a b c row := by
  rw [stretch, part_wide hw _ _ (Nat.le_refl _), Nat.sub_self, Nat.pow_zero, Nat.mul_one]
section
local macro_rules | `(tactic| walk_at "call ref") => `(tactic| ((with_reducible show wpAny _ _ (call (Value.ref 97) _) _ _ _); refine stop_of ?_))
local macro_rules | `(tactic| walk_at "call builtin:list.index") => `(tactic| refine stop_of ?_)
local macro_rules | `(tactic| walk_at "execs cons Assign cons") => `(tactic| ((with_reducible show wpAny _ _ (execs (Stmt.Assign [Expr.Name (PySem.Str.ofString "step") _] _ _ :: _) _) _ _ _); refine stop_of ?_))

local macro_rules | `(tactic| walk1) => `(tactic| ((with_reducible show wpAny _ _ (exec _ _) _ _ _); k_fold))
set_option maxHeartbeats 8000000 in
theorem lawF (w : World) (p : Program) (loose : List Str) (mean : ExcName → Option Value) (mg mb : Str → Option Value) (a b c : Nat) (ha : 1 ≤ a ∧ a ≤ 5) (hb : 1 ≤ b ∧ b ≤ 5) (hc : 1 ≤ c ∧ c ≤ 5) (row : List Nat) (hrow : ∀ i ∈ row, i < 3) (hlen : row.length ≤ 6)
    (base h₀ : Heap) (L fa : Addr) (cdv : Value) (s : Shared) (Q : Flow → Shared → Prop) (Q₁ : Value → Shared → Prop) (E₁ : Value → Shared → Prop)
    (lo szo lr szr : Nat) (t1 t2 t3 : Tok) (vsr : List Value) (oO oE : Obj) (tl tw tW : Tok)
    (B0 : Below callerA base [] h₀) (X0 : (hd.heap_39 w.params).In h₀) (T : Top p loose mean mg mb h₀) (C1 : CodeHd h₀ 34 30) (C2 : CodeHd h₀ 41 37)
    (H : LawAt h₀ L a b c row lo szo lr szr t1 t2 t3 vsr oO oE [(PySem.Str.ofString "row", .ref lr), (PySem.Str.ofString "low", .int ((stretch a b c row).1 : Int) tl), (PySem.Str.ofString "wide", .int ((stretch a b c row).2 : Int) tw), (PySem.Str.ofString "whole", .int ((a : Int) + (b : Int) + (c : Int)) tW)] s.heap)
    (next : ∀ h' tk', LawAt h₀ L a b c row lo szo lr szr t1 t2 t3 vsr oO oE [(PySem.Str.ofString "row", .ref lr), (PySem.Str.ofString "low", .int ((stretch a b c row).1 : Int) tl), (PySem.Str.ofString "wide", .int ((stretch a b c row).2 : Int) tw), (PySem.Str.ofString "whole", .int ((a : Int) + (b : Int) + (c : Int)) tW)] h' →
      wpAny (model PySem.Challenge.rw_ie0008_01.row.prog w) (callerA.deeper (lawEnv L fa cdv)) (execs ((bodyS lawS).drop 14) (lawEnv L fa cdv)) Q (fun e s' => wpAny (model PySem.Challenge.rw_ie0008_01.row.prog w) (callerA.deeper (lawEnv L fa cdv)) (leaving (lawEnv L fa cdv) e) (fun _ s'' => Q₁ e s'') E₁ s') { s with heap := h', toks := tk' }) :
    wpAny (model PySem.Challenge.rw_ie0008_01.row.prog w) (callerA.deeper (lawEnv L fa cdv)) (execs ((bodyS lawS).drop 12) (lawEnv L fa cdv)) Q (fun e s' => wpAny (model PySem.Challenge.rw_ie0008_01.row.prog w) (callerA.deeper (lawEnv L fa cdv)) (leaving (lawEnv L fa cdv) e) (fun _ s'' => Q₁ e s'') E₁ s') s := by
  w_top off
  revert X0; k_fill; intro X0
  obtain ⟨u, o1, c1, oc1, o2, c2, oc2, F, N, hO, hE, hIr, hT1, hT2, h12, hne⟩ := H
  dsimp only [lawEnv, lawS, PySem.Challenge.pw_ie0008_01, nthS, bodyS, parsS, scopeS, List.drop]
  have hIo : IntsAre [.int (a : Int) t1, .int (b : Int) t2, .int (c : Int) t3] [(a : Int), (b : Int), (c : Int)] := .cons _ _ (.cons _ _ (.cons _ _ .nil))
  (try k_fold)
  k_steps
  rename_i M t' k' F' N' a' b'
  obtain ⟨j, hj3, hj, hM, hge⟩ : ∃ j : Nat, j < 3 ∧ [(a : Int), (b : Int), (c : Int)].idxOf M = j ∧ M = (oft a b c j : Int) ∧ (∀ i, oft a b c i ≤ oft a b c j) := by
    have hall : ∀ i, (oft a b c i : Int) ≤ M := by
      intro i
      unfold oft
      split
      · exact b'.1
      · split
        · exact b'.2.1
        · exact b'.2.2
    have hmem : M ∈ [(a : Int), (b : Int), (c : Int)] := by simpa using a'
    have hlt := List.idxOf_lt_length_iff.mpr hmem
    have hget := List.getElem_idxOf hlt
    have h3 : [(a : Int), (b : Int), (c : Int)].idxOf M < 3 := hlt
    have hE : M = (oft a b c ([(a : Int), (b : Int), (c : Int)].idxOf M) : Int) := by
      revert hget hlt h3
      generalize [(a : Int), (b : Int), (c : Int)].idxOf M = j
      intro hlt hget h3
      have : j = 0 ∨ j = 1 ∨ j = 2 := by omega
      rcases this with rfl | rfl | rfl
      · exact hget.symm
      · exact hget.symm
      · exact hget.symm
    exact ⟨_, h3, rfl, hE, fun i => by have := hall i; rw [hE] at this; exact Int.ofNat_le.mp this⟩
  have hlo := (N' (lo, _) (by k_mem)).1
  refine Stop.on (index_ints (ns := [(a : Int), (b : Int), (c : Int)]) ⟨_, hlo, rfl, _, rfl⟩ hIo (by simp) (by simpa using a') ?_)
  rw [hj]
  try dsimp only
  try k_fold
  k_steps
  rename News h₀ _ _ _ => N9
  rename Fr h₀ _ _ _ => F9
  rename IntsAre (List.flatten _) _ => hI9
  rw [show (List.replicate ((row.map fun (i : Nat) => (i : Int)).length : Int).toNat [(j : Int)]).flatten = (List.replicate row.length j).map fun (i : Nat) => (i : Int) by
    rw [Int.toNat_natCast, List.length_map, flat_one, List.map_replicate]] at hI9
  rename_i l8 h8 F8 N8 l1a D9 h9 n1 s1 e1 e2 e3 l1b
  have N7 := news_sub N9 (l := [(D9, _), (lo, listOf [.int (a : Int) t1, .int (b : Int) t2, .int (c : Int) t3].toArray szo), (lr, listOf vsr.toArray szr), (L + 1, oO), (L + 1 + 1, oE), (30, o1), (c1, oc1), (37, o2), (c2, oc2)]) (List.forall_mem_cons.mpr ⟨.head _, List.forall_mem_cons.mpr ⟨by k_mem, List.forall_mem_cons.mpr ⟨by k_mem, List.forall_mem_cons.mpr ⟨by k_mem, List.forall_mem_cons.mpr ⟨by k_mem, List.forall_mem_cons.mpr ⟨by k_mem, List.forall_mem_cons.mpr ⟨by k_mem, List.forall_mem_cons.mpr ⟨by k_mem, List.forall_mem_cons.mpr ⟨by k_mem, List.forall_mem_nil _⟩⟩⟩⟩⟩⟩⟩⟩⟩)
  clear N9 e1 e2 e3 s1 n1
  have n9 := hne.out
  have hbw : ((stretch a b c row).2 : Int) ≤ ((stretch a b c (List.replicate row.length j)).2 : Int) := by
    rw [wide_eq (by omega), wide_eq (by omega)]
    exact Int.ofNat_le.mpr (best_wide hge row)
  refine Stop.on (stretch_use (row := List.replicate row.length j) ha hb hc (fun i hi => by rw [(List.mem_replicate.mp hi).2]; exact hj3) (by rw [List.length_replicate]; exact hlen) (by k_asm) (by k_asm) (by k_asm) (by k_asm) rfl (by k_asm) (by k_asm) (by decide) N7 (by ktr_rel) hT1 (by ktr_rel) (by ktr_rel) hT2 (by ktr_rel) (.head _) (by k_mem) hI9 h12
    (by exact ⟨⟨Nat.ne_of_gt l1b.2.2.2.2.2.1, n9.1.1, n9.2.1.1, n9.2.2.1.1, n9.2.2.2.1, trivial⟩, ⟨Nat.ne_of_gt l1b.2.2.2.2.2.2.1, n9.1.2.1, n9.2.1.2.1, n9.2.2.1.2.1, n9.2.2.2.2.1, trivial⟩, ⟨Nat.ne_of_gt l1b.2.2.2.2.2.2.2.1, n9.1.2.2.1, n9.2.1.2.2.1, n9.2.2.1.2.2.1, n9.2.2.2.2.2.1, trivial⟩, ⟨Nat.ne_of_gt l1b.2.2.2.2.2.2.2.2, n9.1.2.2.2, n9.2.1.2.2.2, n9.2.2.1.2.2.2, n9.2.2.2.2.2.2, trivial⟩⟩) ?_)
  intro h7 tk7 D7 tl7 tw7 sz7 o17 c17 oc17 o27 c27 oc27 F7 N6 hD7 hc17 hc27 hLD7 T17 T27 h127 hD37 hcs7
  simp only [AllLt, AllNe, and_true] at hD7 hc17 hc27
  replace hc17 := Ap.mk hc17
  replace hc27 := Ap.mk hc27
  clear n9
  try dsimp only
  try k_fold
  k_steps
  rename Fr h₀ _ _ _ => F10
  have q1 := hc17.out
  have q2 := hc27.out
  have q4 := hne.out
  refine Stop.on (next _ _ ⟨_, o17, c17, oc17, o27, c27, oc27, fr_ps F10 ?zf, ?zn, hO, hE, hIr, T17, T27, h127,
    .mk ⟨⟨q4.1.1, q1.2.1, q4.1.2.2.1, q2.2.1⟩, ⟨q4.2.1.1, q1.2.2.1, q4.2.1.2.2.1, q2.2.2.1⟩, ⟨q4.2.2.1.1, q1.2.2.2.1, q4.2.2.1.2.2.1, q2.2.2.2.1⟩, ⟨q4.2.2.2.1, q1.2.2.2.2, q4.2.2.2.2.2.1, q2.2.2.2.2⟩⟩⟩)
  case zf => exact List.forall_mem_cons.mpr ⟨by with_unfolding_all rfl, List.forall_mem_cons.mpr ⟨by with_unfolding_all rfl, List.forall_mem_cons.mpr ⟨by with_unfolding_all rfl, List.forall_mem_cons.mpr ⟨by with_unfolding_all rfl, List.forall_mem_nil _⟩⟩⟩⟩
  case zn => exact news_sub N6 (List.forall_mem_cons.mpr ⟨by k_mem, List.forall_mem_cons.mpr ⟨by k_mem, List.forall_mem_cons.mpr ⟨by k_mem, List.forall_mem_cons.mpr ⟨by k_mem, List.forall_mem_cons.mpr ⟨by k_mem, List.forall_mem_cons.mpr ⟨by k_mem, List.forall_mem_cons.mpr ⟨by k_mem, List.forall_mem_cons.mpr ⟨by k_mem, List.forall_mem_nil _⟩⟩⟩⟩⟩⟩⟩⟩)
end
end Mine
end
section
open PySem PySem.W PyProof.Rows PySem.Calls PySem.Spec
set_option maxRecDepth 100000
namespace Mine
/-- a while, by a measure -/
def WTurn (Q : Flow → Shared → Prop) (J : Nat → Shared → Prop) (n : Nat) (f : Flow) (s : Shared) : Prop :=
  match f with
  | .next => ∃ m, m < n ∧ J m s
  | .cont => ∃ m, m < n ∧ J m s
  | .brk => Q .next s
  | .ret v => Q (.ret v) s
theorem while_ind {prog : Program} {w : World} {A : Around} {E : Value → Shared → Prop} {env : Env} {test : PySem.Expr} {body : List Stmt} {pos : Pos} {Q : Flow → Shared → Prop} (hE : PassesOwn (model prog w) A env E) (J : Nat → Shared → Prop)
    (turn : ∀ n s, J n s → wpAny (model prog w) A (isTrue test env (eval test env)) (fun b s₂ => WhlIf b (wpAny (model prog w) A (execs body env) (WTurn Q J n) E s₂) (Q .next s₂)) E s) :
    ∀ n s, J n s → wpAny (model prog w) A (exec (.While test body [] pos) env) Q E s := by
  intro n s h
  refine wpAny_While (codeAny_whileLoop J (fun n s hJ => ?_) n h)
  refine wpAny_mono (turn n s hJ) (fun b s₂ h₂ => ?_) hE
  cases b with
  | false =>
    have h₃ : Q .next s₂ := by
      unfold WhlIf at h₂
      rw [if_neg Bool.false_ne_true] at h₂
      exact h₂
    rw [if_neg Bool.false_ne_true]
    exact wpAny_execs_nil h₃
  | true =>
    have h₃ : wpAny (model prog w) A (execs body env) (WTurn Q J n) E s₂ := by
      unfold WhlIf at h₂
      rw [if_pos rfl] at h₂
      exact h₂
    rw [if_pos rfl]
    refine wpAny_mono h₃ (fun f s₃ h₄ => ?_) hE
    cases f with
    | next => exact h₄
    | cont => exact h₄
    | brk => exact h₄
    | ret v => exact h₄
section
local macro_rules | `(tactic| walk_at "call ref") => `(tactic| ((with_reducible show wpAny _ _ (call (Value.ref 35) _) _ _ _); refine stop_of ?_))
local macro_rules | `(tactic| walk_at "WhlIf") => `(tactic| refine stop_of ?_)
local macro_rules | `(tactic| walk_at "exec While") => `(tactic| refine stop_of ?_)
local macro_rules | `(tactic| walk_at "binaryOp Mult int int") => `(tactic| (with_reducible refine mul_to (by assumption) (by assumption) ?_))
local macro_rules | `(tactic| walk_at "execs cons Assign cons") => `(tactic| ((with_reducible show wpAny _ _ (execs (Stmt.Assign [Expr.Name (PySem.Str.ofString "turned") _] _ _ :: _) _) _ _ _); refine stop_of ?_))

local macro_rules | `(tactic| walk1) => `(tactic| ((with_reducible show wpAny _ _ (exec _ _) _ _ _); k_fold))
set_option maxHeartbeats 8000000 in
theorem lawG (w : World) (p : Program) (loose : List Str) (mean : ExcName → Option Value) (mg mb : Str → Option Value) (a b c : Nat) (ha : 1 ≤ a ∧ a ≤ 5) (hb : 1 ≤ b ∧ b ≤ 5) (hc : 1 ≤ c ∧ c ≤ 5) (row : List Nat) (hlen : row.length ≤ 6)
    (base h₀ : Heap) (L fa : Addr) (cdv : Value) (s : Shared) (Q : Flow → Shared → Prop) (Q₁ : Value → Shared → Prop) (E₁ : Value → Shared → Prop)
    (lo szo lr szr : Nat) (t1 t2 t3 : Tok) (vsr : List Value) (oO oE : Obj) (tl tw tW : Tok)
    (B0 : Below callerA base [] h₀) (X0 : (hd.heap_39 w.params).In h₀) (T : Top p loose mean mg mb h₀) (C1 : CodeHd h₀ 34 30) (C2 : CodeHd h₀ 41 37)
    (H : LawAt h₀ L a b c row lo szo lr szr t1 t2 t3 vsr oO oE [(PySem.Str.ofString "row", .ref lr), (PySem.Str.ofString "low", .int ((stretch a b c row).1 : Int) tl), (PySem.Str.ofString "wide", .int ((stretch a b c row).2 : Int) tw), (PySem.Str.ofString "whole", .int ((a : Int) + (b : Int) + (c : Int)) tW)] s.heap)
    (next : ∀ h' tk', LawAt h₀ L a b c row lo szo lr szr t1 t2 t3 vsr oO oE [(PySem.Str.ofString "row", .ref lr), (PySem.Str.ofString "low", .int ((stretch a b c row).1 : Int) tl), (PySem.Str.ofString "wide", .int ((stretch a b c row).2 : Int) tw), (PySem.Str.ofString "whole", .int ((a : Int) + (b : Int) + (c : Int)) tW)] h' →
      wpAny (model PySem.Challenge.rw_ie0008_01.row.prog w) (callerA.deeper (lawEnv L fa cdv)) (execs ((bodyS lawS).drop 18) (lawEnv L fa cdv)) Q (fun e s' => wpAny (model PySem.Challenge.rw_ie0008_01.row.prog w) (callerA.deeper (lawEnv L fa cdv)) (leaving (lawEnv L fa cdv) e) (fun _ s'' => Q₁ e s'') E₁ s') { s with heap := h', toks := tk' }) :
    wpAny (model PySem.Challenge.rw_ie0008_01.row.prog w) (callerA.deeper (lawEnv L fa cdv)) (execs ((bodyS lawS).drop 14) (lawEnv L fa cdv)) Q (fun e s' => wpAny (model PySem.Challenge.rw_ie0008_01.row.prog w) (callerA.deeper (lawEnv L fa cdv)) (leaving (lawEnv L fa cdv) e) (fun _ s'' => Q₁ e s'') E₁ s') s := by
  w_top off
  revert X0; k_fill; intro X0
  obtain ⟨u, o1, c1, oc1, o2, c2, oc2, F, N, hO, hE, hIr, hT1, hT2, h12, hne⟩ := H
  dsimp only [lawEnv, lawS, PySem.Challenge.pw_ie0008_01, nthS, bodyS, parsS, scopeS, List.drop]
  have hwp := wide_pos ha.1 hb.1 hc.1 row
  (try k_fold)
  k_steps
  rename News h₀ _ _ _ => N8
  rename Fr h₀ _ _ _ => F8
  have hws : (stretch a b c row).2 < 2 ^ 30 := (part_small (n := row.length) (sum15 ha hb hc) hlen row).2
  have hls : (stretch a b c row).1 < 2 ^ 30 := (part_small (n := row.length) (sum15 ha hb hc) hlen row).1
  refine Stop.on (while_ind (by passes_own) (fun n s1 => ∃ h tk u' tt e, s1 = { s with heap := h, toks := tk } ∧ 2 ^ e ≤ (stretch a b c row).2 ∧ n = (stretch a b c row).2 - 2 ^ e ∧
    Fr h₀ L h (kstB u' [(PySem.Str.ofString "step", .int ((2 ^ e : Nat) : Int) tt), (PySem.Str.ofString "row", .ref lr), (PySem.Str.ofString "low", .int ((stretch a b c row).1 : Int) tl), (PySem.Str.ofString "wide", .int ((stretch a b c row).2 : Int) tw), (PySem.Str.ofString "whole", .int ((a : Int) + (b : Int) + (c : Int)) tW)]) ∧
    News h₀ L h [(lo, listOf [.int (a : Int) t1, .int (b : Int) t2, .int (c : Int) t3].toArray szo), (lr, listOf vsr.toArray szr), (L + 1, oO), (L + 1 + 1, oE), (30, o1), (c1, oc1), (37, o2), (c2, oc2)]) ?turn _ _ ⟨_, _, _, s.toks, 0, rfl, hwp, rfl, fr_ps F8 (List.forall_mem_cons.mpr ⟨?z1, List.forall_mem_cons.mpr ⟨?z2, List.forall_mem_cons.mpr ⟨?z3, List.forall_mem_cons.mpr ⟨?z4, List.forall_mem_cons.mpr ⟨?z5, List.forall_mem_nil _⟩⟩⟩⟩⟩), N8⟩)
  case z1 => with_unfolding_all rfl
  case z2 => with_unfolding_all rfl
  case z3 => with_unfolding_all rfl
  case z4 => with_unfolding_all rfl
  case z5 => with_unfolding_all rfl
  case turn =>
    clear N8 F8
    rintro n s1 ⟨h, tk, u', tt, e, rfl, hle, rfl, F9, N9⟩
    have hm1 : (2 : Int) * ((2 ^ e : Nat) : Int) = ((2 ^ (e + 1) : Nat) : Int) := by rw [Nat.pow_succ]; exact two_mul_cast
    have hb1 : (((2 ^ e : Nat) : Int)).natAbs < 2 ^ 63 := by rw [Int.natAbs_natCast]; exact abs_big hle hws
    have hp1 : 0 < 2 ^ e := Nat.pow_pos (by decide)
    try dsimp only
    try k_fold
    k_steps
    have hpow : 2 ^ (e + 1) = 2 * 2 ^ e := by rw [Nat.pow_succ, Nat.mul_comm]
    by_cases hlt : 2 ^ (e + 1) ≤ (stretch a b c row).2
    · refine Stop.on (WhlIf.yes (decide_eq_true (Int.ofNat_le.mpr hlt)) ?_)
      k_steps
      rename News h₀ _ _ _ => N10
      rename Fr h₀ _ _ _ => F10
      show WTurn _ _ _ _ _
      refine ⟨(stretch a b c row).2 - 2 ^ (e + 1), by omega, _, _, _, ?zt, e + 1, rfl, hlt, rfl, fr_ps F10 ?zf, N10⟩
      case zf => exact List.forall_mem_cons.mpr ⟨by with_unfolding_all rfl, List.forall_mem_cons.mpr ⟨by with_unfolding_all rfl, List.forall_mem_cons.mpr ⟨by with_unfolding_all rfl, List.forall_mem_cons.mpr ⟨by with_unfolding_all rfl, List.forall_mem_cons.mpr ⟨by with_unfolding_all rfl, List.forall_mem_nil _⟩⟩⟩⟩⟩
    · refine Stop.on (WhlIf.no (decide_eq_false fun h => hlt (Int.ofNat_le.mp h)) ?_)
      have hpp : 0 < ((2 ^ e : Nat) : Int) := cast_pos hp1
      have hpz : ((2 ^ e : Nat) : Int) ≠ 0 := Int.ne_of_gt hpp
      have hfd : (((stretch a b c row).1 : Int) + ((2 ^ e : Nat) : Int) - 1).fdiv ((2 ^ e : Nat) : Int) = ((((stretch a b c row).1 + 2 ^ e - 1) / 2 ^ e : Nat) : Int) := by
        rw [first_cast hp1, Int.fdiv_eq_ediv_of_nonneg _ (Int.natCast_nonneg _)]
        rfl
      have hF := Nat.div_add_mod ((stretch a b c row).1 + 2 ^ e - 1) (2 ^ e)
      have hFm := Nat.mod_lt ((stretch a b c row).1 + 2 ^ e - 1) hp1
      rw [Nat.mul_comm] at hF
      have hm2 : (((stretch a b c row).1 : Int) + ((2 ^ e : Nat) : Int) - 1).fdiv ((2 ^ e : Nat) : Int) * ((2 ^ e : Nat) : Int) = ((((stretch a b c row).1 + 2 ^ e - 1) / 2 ^ e * 2 ^ e : Nat) : Int) := by
        rw [hfd, Int.natCast_mul]
      generalize hgF : ((stretch a b c row).1 + 2 ^ e - 1) / 2 ^ e * 2 ^ e = first at *
      have hg1 : ((stretch a b c row).1 : Int) ≤ (first : Int) := first_low hF hFm
      have hg2 : (first : Int) < ((stretch a b c row).1 : Int) + ((stretch a b c row).2 : Int) := first_high hF hp1 hle
      clear hfd
      try dsimp only
      try k_fold
      k_steps
      have n9 := hne.out
      refine Stop.on (i2d_use (X := 2 ^ e) (n := 1) (by decide) (by omega) (by k_asm) (by k_asm) (by k_asm) (by k_asm) rfl (by k_asm) (by decide) (by k_asm) (by ktr_rel) hT1 (by ktr_rel)
        (by exact ⟨n9.1.1, n9.2.1.1, n9.2.2.1.1, n9.2.2.2.1, (fun h => absurd (show (37 : Nat) = 30 from h) (by decide)), h12.2.1, trivial⟩) (by exact ⟨n9.1.2.1, n9.2.1.2.1, n9.2.2.1.2.1, n9.2.2.2.2.1, h12.1.symm, h12.2.2.symm, trivial⟩) rfl rfl ?_)
      intro h5 tk5 D5 sz5 vs5 o15 c15 oc15 F5 N5 hD5 h305 hc15 hI5 T15 hLD5 hcs5
      simp only [AllLt, AllNe, and_true] at hD5 hc15
      have hl5 : vs5.length = e + 1 := by
        rw [hI5.length, digs_length, cnt_one, nb_eq, if_neg (by omega), Nat.log2_two_pow]
      have he30 : e < 30 := (Nat.pow_lt_pow_iff_right (by decide)).mp (Nat.lt_of_le_of_lt hle hws)
      have hds5 : (digs 1 (cnt (2 ^ e) 1) (2 ^ e)).length = e + 1 := by rw [← hI5.length, hl5]
      generalize digs 1 (cnt (2 ^ e) 1) (2 ^ e) = ds5 at *
      replace hc15 := Ap.mk hc15
      try dsimp only
      try k_fold
      k_steps
      rename Fr h₀ _ _ _ => F6
      rename News h₀ _ _ _ => N6
      have N7 := news_sub N6 (l := [(30, o15), (c15, oc15), (lo, listOf [.int (a : Int) t1, .int (b : Int) t2, .int (c : Int) t3].toArray szo), (lr, listOf vsr.toArray szr), (L + 1, oO), (L + 1 + 1, oE), (37, o2), (c2, oc2)]) (List.forall_mem_cons.mpr ⟨by k_mem, List.forall_mem_cons.mpr ⟨by k_mem, List.forall_mem_cons.mpr ⟨by k_mem, List.forall_mem_cons.mpr ⟨by k_mem, List.forall_mem_cons.mpr ⟨by k_mem, List.forall_mem_cons.mpr ⟨by k_mem, List.forall_mem_cons.mpr ⟨by k_mem, List.forall_mem_cons.mpr ⟨by k_mem, List.forall_mem_nil _⟩⟩⟩⟩⟩⟩⟩⟩)
      clear N6
      have m5 := hc15.out
      refine Stop.on (i2d_use (X := (stretch a b c row).2) (n := 1) (by decide) (by omega) (by k_asm) (by k_asm) (by k_asm) (by k_asm) rfl (by k_asm) (by decide) N7 (by ktr_rel) T15 (by ktr_rel)
        (by exact ⟨n9.1.1, n9.2.1.1, n9.2.2.1.1, n9.2.2.2.1, (fun h => absurd (show (37 : Nat) = 30 from h) (by decide)), h12.2.1, trivial⟩) (by exact ⟨m5.1, m5.2.1, m5.2.2.1, m5.2.2.2.1, m5.2.2.2.2.1, m5.2.2.2.2.2, trivial⟩) rfl rfl ?_)
      clear N7
      intro h6 tk6 D6 sz6 vs6 o16 c16 oc16 F7 N7 hD6 h306 hc16 hI6 T16 hLD6 hcs6
      simp only [AllLt, AllNe, and_true] at hD6 hc16
      have hl6 : vs6.length = e + 1 := by
        rw [hI6.length, digs_length, cnt_one, nb_eq, if_neg (by omega), (Nat.log2_eq_iff (by omega)).mpr ⟨hle, by omega⟩]
      have hds6 : (digs 1 (cnt (stretch a b c row).2 1) (stretch a b c row).2).length = e + 1 := by rw [← hI6.length, hl6]
      generalize digs 1 (cnt (stretch a b c row).2 1) (stretch a b c row).2 = ds6 at *
      have heq : ((ds5.length : Nat) : Int) = ((ds6.length : Nat) : Int) := by rw [hds5, hds6]
      replace hc16 := Ap.mk hc16
      try dsimp only
      try k_fold
      k_steps
      · exact absurd heq (by assumption)
      rename Fr h₀ _ _ _ => F10
      rename News h₀ _ _ _ => N10
      have m6 := hc16.out
      refine Stop.on (next _ _ ⟨_, o16, c16, oc16, o2, c2, oc2, fr_ps F10 ?zf, ?zn, hO, hE, hIr, T16, hT2, ⟨m6.2.2.2.2.1.symm, h12.2.1, m6.2.2.2.2.2.symm⟩,
        .mk ⟨⟨n9.1.1, m6.1, n9.1.2.2⟩, ⟨n9.2.1.1, m6.2.1, n9.2.1.2.2⟩, ⟨n9.2.2.1.1, m6.2.2.1, n9.2.2.1.2.2⟩, ⟨n9.2.2.2.1, m6.2.2.2.1, n9.2.2.2.2.2⟩⟩⟩)
      case zf => exact List.forall_mem_cons.mpr ⟨by with_unfolding_all rfl, List.forall_mem_cons.mpr ⟨by with_unfolding_all rfl, List.forall_mem_cons.mpr ⟨by with_unfolding_all rfl, List.forall_mem_cons.mpr ⟨by with_unfolding_all rfl, List.forall_mem_nil _⟩⟩⟩⟩
      case zn => exact news_sub N10 (List.forall_mem_cons.mpr ⟨by k_mem, List.forall_mem_cons.mpr ⟨by k_mem, List.forall_mem_cons.mpr ⟨by k_mem, List.forall_mem_cons.mpr ⟨by k_mem, List.forall_mem_cons.mpr ⟨by k_mem, List.forall_mem_cons.mpr ⟨by k_mem, List.forall_mem_cons.mpr ⟨by k_mem, List.forall_mem_cons.mpr ⟨by k_mem, List.forall_mem_nil _⟩⟩⟩⟩⟩⟩⟩⟩)
end
end Mine
end
section
open PySem PySem.W PyProof.Rows PySem.Calls PySem.Spec
set_option maxRecDepth 100000
namespace Mine
theorem oft_turn (a b c : Nat) : ∀ i : Nat, i < 3 → oft c a b ((i + 1) % 3) = oft a b c i
  | 0, _ => rfl
  | 1, _ => rfl
  | 2, _ => rfl
theorem prod_turn {a b c : Nat} : ∀ row : List Nat, (∀ i ∈ row, i < 3) → prod c a b (row.map fun i => (i + 1) % 3) = prod a b c row := by
  intro row
  induction row using snoc_ind with
  | h0 => intro _; rfl
  | hs p i ih =>
    intro h
    rw [List.map_append, List.map_singleton, prod_snoc, prod_snoc, ih fun x hx => h x (List.mem_append_left _ hx), oft_turn a b c i (h i (List.mem_append_right _ (List.mem_singleton.mpr rfl)))]
theorem fmod_turn (row : List Nat) : ((row.map fun (i : Nat) => (i : Int)).map fun k' => (k' + 1).fmod 3) = (row.map fun i => (i + 1) % 3).map fun (i : Nat) => (i : Int) := by
  rw [List.map_map, List.map_map]
  refine List.map_congr_left fun i _ => ?_
  show ((i : Int) + 1).fmod 3 = (((i + 1) % 3 : Nat) : Int)
  rw [Int.fmod_eq_emod_of_nonneg _ (by decide)]
  omega
section
local macro_rules | `(tactic| walk_at "call ref") => `(tactic| ((with_reducible show wpAny _ _ (call (Value.ref 35) _) _ _ _); refine stop_of ?_))
local macro_rules | `(tactic| walk_at "call ref") => `(tactic| ((with_reducible show wpAny _ _ (call (Value.ref 97) _) _ _ _); refine stop_of ?_))
local macro_rules | `(tactic| walk_at "subscriptTail Name Constant ref int") => `(tactic| (k_here; (with_reducible show wpAny _ _ (subscriptTail _ _ (Value.ref _) (Value.int _ _)) _ _ _); (k_dflt (refine' item_written ?k1 ?k2 ?k3 ?k4 ?k5 ?_ ?k6; (case k1 => k_asm); (case k2 => k_mem); (case k3 => decide); (case k4 => decide); (case k5 => rfl); (case k6 => with_unfolding_all rfl)); k_whole)))

set_option maxHeartbeats 8000000 in
theorem lawH (w : World) (p : Program) (loose : List Str) (mean : ExcName → Option Value) (mg mb : Str → Option Value) (a b c : Nat) (ha : 1 ≤ a ∧ a ≤ 5) (hb : 1 ≤ b ∧ b ≤ 5) (hc : 1 ≤ c ∧ c ≤ 5) (row : List Nat) (hrow : ∀ i ∈ row, i < 3) (hlen : row.length ≤ 6)
    (base h₀ : Heap) (L fa : Addr) (cdv : Value) (s : Shared) (Q : Flow → Shared → Prop) (Q₁ : Value → Shared → Prop) (E₁ : Value → Shared → Prop)
    (lo szo lr szr : Nat) (t1 t2 t3 : Tok) (vsr : List Value) (oO oE : Obj) (tl tw tW : Tok)
    (B0 : Below callerA base [] h₀) (X0 : (hd.heap_39 w.params).In h₀) (T : Top p loose mean mg mb h₀) (C1 : CodeHd h₀ 34 30) (C2 : CodeHd h₀ 41 37)
    (H : LawAt h₀ L a b c row lo szo lr szr t1 t2 t3 vsr oO oE [(PySem.Str.ofString "row", .ref lr), (PySem.Str.ofString "low", .int ((stretch a b c row).1 : Int) tl), (PySem.Str.ofString "wide", .int ((stretch a b c row).2 : Int) tw), (PySem.Str.ofString "whole", .int ((a : Int) + (b : Int) + (c : Int)) tW)] s.heap)
    (fin : ∀ h' tk' m' o1 c1 oc1 o2 c2 oc2 led, Fr h₀ L h' m' → News h₀ L h' ((30, o1) :: (c1, oc1) :: (37, o2) :: (c2, oc2) :: led) → Tab1 o1 c1 oc1 → Tab2 o2 c2 oc2 → Q (.ret (.bool true)) { s with heap := h', toks := tk' }) :
    wpAny (model PySem.Challenge.rw_ie0008_01.row.prog w) (callerA.deeper (lawEnv L fa cdv)) (execs ((bodyS lawS).drop 18) (lawEnv L fa cdv)) Q (fun e s' => wpAny (model PySem.Challenge.rw_ie0008_01.row.prog w) (callerA.deeper (lawEnv L fa cdv)) (leaving (lawEnv L fa cdv) e) (fun _ s'' => Q₁ e s'') E₁ s') s := by
  w_top off
  revert X0; k_fill; intro X0
  obtain ⟨u, o1, c1, oc1, o2, c2, oc2, F, N, hO, hE, hIr, hT1, hT2, h12, hne⟩ := H
  dsimp only [lawEnv, lawS, PySem.Challenge.pw_ie0008_01, nthS, bodyS, parsS, scopeS, List.drop]
  (try k_fold)
  k_steps
  rename News h₀ _ _ _ => N9
  rename Fr h₀ _ _ _ => F9
  rename (@LT.lt Nat _ lo _) ∧ (@LT.lt Nat _ lr _) ∧ _ => l1
  rename _ ∧ (@Ne Nat lo _) ∧ (@Ne Nat lr _) ∧ _ => q9
  rename IntsAre _ (List.map _ (List.map _ row)) => hI9
  rw [fmod_turn] at hI9
  have n9 := hne.out
  have hwt : ((stretch c a b (row.map fun i => (i + 1) % 3)).2 : Int) = ((stretch a b c row).2 : Int) := by
    rw [wide_eq (by omega), wide_eq (by omega), prod_turn row hrow]
  refine Stop.on (stretch_use (a := c) (b := a) (c := b) (row := row.map fun i => (i + 1) % 3) hc ha hb (fun i hi => by obtain ⟨x, _, rfl⟩ := List.mem_map.mp hi; exact Nat.mod_lt _ (by decide)) (by rw [List.length_map]; exact hlen) (by k_asm) (by k_asm) (by k_asm) (by k_asm) rfl (by k_asm) (by k_asm) (by decide) N9 (by ktr_rel) hT1 (by ktr_rel) (by ktr_rel) hT2 (by ktr_rel) (.head _) (.tail _ (.head _)) hI9 h12
    (by exact ⟨⟨q9.2.2.2.2.2.1.symm, Nat.ne_of_gt l1.2.2.2.2.1, n9.1.1, n9.2.1.1, n9.2.2.1.1, n9.2.2.2.1, trivial⟩, ⟨q9.2.2.2.2.2.2.1.symm, Nat.ne_of_gt l1.2.2.2.2.2.1, n9.1.2.1, n9.2.1.2.1, n9.2.2.1.2.1, n9.2.2.2.2.1, trivial⟩, ⟨q9.2.2.2.2.2.2.2.1.symm, Nat.ne_of_gt l1.2.2.2.2.2.2.1, n9.1.2.2.1, n9.2.1.2.2.1, n9.2.2.1.2.2.1, n9.2.2.2.2.2.1, trivial⟩, ⟨q9.2.2.2.2.2.2.2.2.symm, Nat.ne_of_gt l1.2.2.2.2.2.2.2, n9.1.2.2.2, n9.2.1.2.2.2, n9.2.2.1.2.2.2, n9.2.2.2.2.2.2, trivial⟩⟩) ?_)
  intro h7 tk7 D7 tl7 tw7 sz7 o17 c17 oc17 o27 c27 oc27 F7 N6 hD7 hc17 hc27 hLD7 T17 T27 h127 hD37 hcs7
  simp only [AllLt, AllNe, and_true] at hD7 hc17 hc27
  replace hc17 := Ap.mk hc17
  replace hc27 := Ap.mk hc27
  try dsimp only
  try k_fold
  k_steps
  rotate_left
  · exact absurd hwt (by assumption)
  have N7 := news_sub N6 (l := [(30, o17), (c17, oc17), (lo, listOf [.int (a : Int) t1, .int (b : Int) t2, .int (c : Int) t3].toArray szo), (lr, listOf vsr.toArray szr), (L + 1, oO), (L + 1 + 1, oE), (37, o27), (c27, oc27)]) (List.forall_mem_cons.mpr ⟨by k_mem, List.forall_mem_cons.mpr ⟨by k_mem, List.forall_mem_cons.mpr ⟨by k_mem, List.forall_mem_cons.mpr ⟨by k_mem, List.forall_mem_cons.mpr ⟨by k_mem, List.forall_mem_cons.mpr ⟨by k_mem, List.forall_mem_cons.mpr ⟨by k_mem, List.forall_mem_cons.mpr ⟨by k_mem, List.forall_mem_nil _⟩⟩⟩⟩⟩⟩⟩⟩)
  clear N6
  have m5 := hc17.out
  refine Stop.on (i2d_use (X := a + b + c) (n := 1) (by decide) (by omega) (by k_asm) (by k_asm) (by k_asm) (by k_asm) rfl (by k_asm) (by decide) N7 (by ktr_rel) T17 (by ktr_rel)
    (by exact ⟨n9.1.1, n9.2.1.1, n9.2.2.1.1, n9.2.2.2.1, (fun h => absurd (show (37 : Nat) = 30 from h) (by decide)), h127.2.1, trivial⟩) (by exact ⟨m5.2.2.1, m5.2.2.2.1, m5.2.2.2.2.1, m5.2.2.2.2.2, h127.1.symm, h127.2.2.symm, trivial⟩) (by push_cast; rfl) rfl ?_)
  clear N7
  intro h6 tk6 D6 sz6 vs6 o16 c16 oc16 F8 N8 hD6 h306 hc16 hI6 T16 hLD6 hcs6
  simp only [AllLt, AllNe, and_true] at hD6 hc16
  have hl6 : vs6.length = nb (a + b + c) := by rw [hI6.length, digs_length, cnt_one]
  have hn2 : 2 ≤ nb (a + b + c) := by
    rw [nb_eq, if_neg (by omega)]
    have := (Nat.le_log2 (n := a + b + c) (k := 1) (by omega)).mpr (by omega)
    omega
  have hn9 : nb (a + b + c) ≤ 4 := nb_le (by omega)
  have hds6 : (digs 1 (cnt (a + b + c) 1) (a + b + c)).length = nb (a + b + c) := by rw [← hI6.length, hl6]
  generalize digs 1 (cnt (a + b + c) 1) (a + b + c) = ds6 at *
  replace hc16 := Ap.mk hc16
  try dsimp only
  try k_fold
  k_steps
  rw [decide_eq_true (show (2 : Int) ≤ ((ds6.length : Nat) : Int) by rw [hds6]; omega)]
  exact fin _ _ _ o16 c16 oc16 o27 c27 oc27 _ (by k_asm) (news_sub (by k_asm) (List.forall_mem_cons.mpr ⟨by k_mem, List.forall_mem_cons.mpr ⟨by k_mem, List.forall_mem_cons.mpr ⟨by k_mem, List.forall_mem_cons.mpr ⟨by k_mem, List.forall_mem_nil _⟩⟩⟩⟩)) T16 T27
end
end Mine
end
section
open PySem PySem.W PyProof.Rows PySem.Calls PySem.Spec
namespace Mine
theorem head_one (k : Int) : ∃ a : Nat, 1 + k.fmod 5 = (a : Int) ∧ 1 ≤ a ∧ a ≤ 5 := by
  have h1 := Int.fmod_eq_emod_of_nonneg k (show (0 : Int) ≤ 5 by decide)
  exact ⟨(1 + k.fmod 5).toNat, by omega, by omega, by omega⟩
theorem head_often (ns : List Int) (ys : List Value) (h : IntsAre ys ((List.take 3 (ns ++ [0, 0, 0])).map fun k' => 1 + k'.fmod 5)) :
    ∃ (a b c : Nat) (t1 t2 t3 : Tok), (1 ≤ a ∧ a ≤ 5) ∧ (1 ≤ b ∧ b ≤ 5) ∧ (1 ≤ c ∧ c ≤ 5) ∧ ys = [.int (a : Int) t1, .int (b : Int) t2, .int (c : Int) t3] := by
  have hl : (List.take 3 (ns ++ [0, 0, 0])).length = 3 := by rw [List.length_take, List.length_append]; simp
  generalize List.take 3 (ns ++ [0, 0, 0]) = l at *
  match l, hl, h with
  | [x, y, z], _, h =>
    obtain ⟨a, ea, ha⟩ := head_one x
    obtain ⟨b, eb, hb⟩ := head_one y
    obtain ⟨c, ec, hc⟩ := head_one z
    simp only [List.map_cons, List.map_nil, ea, eb, ec] at h
    cases h with
    | cons _ t1 h =>
      cases h with
      | cons _ t2 h =>
        cases h with
        | cons _ t3 h =>
          cases h
          exact ⟨a, b, c, t1, t2, t3, ha, hb, hc, rfl⟩
theorem head_row : ∀ l : List Int, ∃ row : List Nat, (l.map fun k' => k'.fmod 3) = (row.map fun (i : Nat) => (i : Int)) ∧ (∀ i ∈ row, i < 3) ∧ row.length = l.length
  | [] => ⟨[], rfl, fun _ h => (nomatch h), rfl⟩
  | x :: l => by
    obtain ⟨row, e, h, hl⟩ := head_row l
    have h1 := Int.fmod_eq_emod_of_nonneg x (show (0 : Int) ≤ 3 by decide)
    refine ⟨(x.fmod 3).toNat :: row, ?_, List.forall_mem_cons.mpr ⟨by omega, h⟩, by simp [hl]⟩
    simp only [List.map_cons, e]
    rw [show (((x.fmod 3).toNat : Nat) : Int) = x.fmod 3 by omega]
end Mine
end
section
open PySem PySem.W PyProof.Rows PySem.Calls PySem.Spec
set_option maxRecDepth 100000
namespace Mine
theorem lawAll (w : World) (p : Program) (loose : List Str) (mean : ExcName → Option Value) (mg mb : Str → Option Value) (a b c : Nat) (ha : 1 ≤ a ∧ a ≤ 5) (hb : 1 ≤ b ∧ b ≤ 5) (hc : 1 ≤ c ∧ c ≤ 5) (row : List Nat) (hrow : ∀ i ∈ row, i < 3) (hlen : row.length ≤ 6)
    (base h₀ : Heap) (L fa : Addr) (cdv : Value) (s : Shared) (Q : Flow → Shared → Prop) (Q₁ : Value → Shared → Prop) (E₁ : Value → Shared → Prop)
    (lo szo lr szr : Nat) (t1 t2 t3 : Tok) (vsr : List Value) (oO oE : Obj)
    (B0 : Below callerA base [] h₀) (X0 : (hd.heap_39 w.params).In h₀) (T : Top p loose mean mg mb h₀) (C1 : CodeHd h₀ 34 30) (C2 : CodeHd h₀ 41 37)
    (H : LawAt h₀ L a b c row lo szo lr szr t1 t2 t3 vsr oO oE [(PySem.Str.ofString "row", .ref lr)] s.heap)
    (fin : ∀ h' tk' m' o1 c1 oc1 o2 c2 oc2 led, Fr h₀ L h' m' → News h₀ L h' ((30, o1) :: (c1, oc1) :: (37, o2) :: (c2, oc2) :: led) → Tab1 o1 c1 oc1 → Tab2 o2 c2 oc2 → Q (.ret (.bool true)) { s with heap := h', toks := tk' }) :
    wpAny (model PySem.Challenge.rw_ie0008_01.row.prog w) (callerA.deeper (lawEnv L fa cdv)) (execs ((bodyS lawS).drop 3) (lawEnv L fa cdv)) Q (fun e s' => wpAny (model PySem.Challenge.rw_ie0008_01.row.prog w) (callerA.deeper (lawEnv L fa cdv)) (leaving (lawEnv L fa cdv) e) (fun _ s'' => Q₁ e s'') E₁ s') s := by
  have hlo2 : @Ne Nat lo (L + 1 + 1) ∧ @Ne Nat lr (L + 1 + 1) := by
    obtain ⟨u, o1, c1, oc1, o2, c2, oc2, F, N, hO, hE, r⟩ := H
    exact hE.2
  refine lawB w p loose mean mg mb a b c ha hb hc row hrow hlen base h₀ L fa cdv (fun _ => none) s Q Q₁ E₁ lo szo lr szr t1 t2 t3 vsr oO oE B0 X0 T C1 C2 H fun h1 k1 tl tw tW H1 => ?_
  refine lawC w p loose mean mg mb a b c ha hb hc row hrow hlen base h₀ L fa cdv _ Q Q₁ E₁ lo szo lr szr t1 t2 t3 vsr oO oE tl tw tW B0 X0 T C1 C2 H1 fun h2 k2 H2 => ?_
  refine lawD w p loose mean mg mb a b c ha hb hc row base h₀ L fa cdv _ Q Q₁ E₁ lo szo lr szr t1 t2 t3 vsr oO oE tl tw tW B0 X0 T C1 C2 H2 fun h3 k3 H3 => ?_
  refine lawE w p loose mean mg mb a b c ha hb hc row base h₀ L fa cdv _ Q Q₁ E₁ lo szo lr szr t1 t2 t3 vsr oO tl tw tW B0 X0 T C1 C2 hlo2 H3 fun h4 k4 oE' H4 => ?_
  refine lawF w p loose mean mg mb a b c ha hb hc row hrow hlen base h₀ L fa cdv _ Q Q₁ E₁ lo szo lr szr t1 t2 t3 vsr oO oE' tl tw tW B0 X0 T C1 C2 H4 fun h5 k5 H5 => ?_
  refine lawG w p loose mean mg mb a b c ha hb hc row hlen base h₀ L fa cdv _ Q Q₁ E₁ lo szo lr szr t1 t2 t3 vsr oO oE' tl tw tW B0 X0 T C1 C2 H5 fun h6 k6 H6 => ?_
  exact lawH w p loose mean mg mb a b c ha hb hc row hrow hlen base h₀ L fa cdv _ Q Q₁ E₁ lo szo lr szr t1 t2 t3 vsr oO oE' tl tw tW B0 X0 T C1 C2 H6 fun h7 k7 => fin h7 k7
/-- the frame behind the law's head -/
theorem head_at {h₀ h : Heap} {L : Addr} {m : Str → Option Value} {a b c : Nat} {row : List Nat} {lr x1 lo x3 x4 x5 : Nat} {y1 y3 y4 y5 oO oE : Obj} {ysr : List Value} {t1 t2 t3 : Tok} {vE : Option Value}
    (F : Fr h₀ L h m) (N : News h₀ L h [(lr, LCg.lst ysr), (x1, y1), (lo, LCg.lst [.int (a : Int) t1, .int (b : Int) t2, .int (c : Int) t3]), (x3, y3), (x4, y4), (x5, y5), (L + 1 + 1, oE), (L + 1, oO), (37, tabObj #[]), (30, tabObj #[])])
    (hm : m (PySem.Str.ofString "row") = some (.ref lr)) (hO : oO.data = .cell (some (.ref lo))) (hE : oE.data = .cell vE) (hI : IntsAre ysr (row.map fun (i : Nat) => (i : Int)))
    (q1 : @Ne Nat x1 lr ∧ @Ne Nat lo lr ∧ @Ne Nat x3 lr ∧ @Ne Nat x4 lr ∧ @Ne Nat x5 lr ∧ @Ne Nat (L + 1 + 1) lr ∧ @Ne Nat (L + 1) lr ∧ @Ne Nat 37 lr ∧ @Ne Nat 30 lr)
    (q2 : @Ne Nat x3 lo ∧ @Ne Nat x4 lo ∧ @Ne Nat x5 lo ∧ @Ne Nat (L + 1 + 1) lo ∧ @Ne Nat (L + 1) lo ∧ @Ne Nat 37 lo ∧ @Ne Nat 30 lo) (l0 : @LT.lt Nat _ 37 L ∧ @LT.lt Nat _ 30 L) :
    LawAt h₀ L a b c row lo 3 lr ysr.length t1 t2 t3 ysr oO oE [(PySem.Str.ofString "row", .ref lr)] h := by
  refine ⟨m, tabObj #[], 30, tabObj #[], tabObj #[], 37, tabObj #[], fr_ps F (List.forall_mem_cons.mpr ⟨hm, List.forall_mem_nil _⟩), ?_, hO, ⟨⟨_, hE⟩, q2.2.2.2.1.symm, q1.2.2.2.2.2.1.symm⟩, hI, .fresh rfl rfl rfl, .fresh rfl rfl rfl, ⟨by decide, by decide, by decide⟩,
    .mk ⟨⟨q2.2.2.2.2.2.2.symm, q2.2.2.2.2.2.2.symm, q2.2.2.2.2.2.1.symm, q2.2.2.2.2.2.1.symm⟩, ⟨q1.2.2.2.2.2.2.2.2.symm, q1.2.2.2.2.2.2.2.2.symm, q1.2.2.2.2.2.2.2.1.symm, q1.2.2.2.2.2.2.2.1.symm⟩, ⟨?_, ?_, ?_, ?_⟩, ⟨?_, ?_, ?_, ?_⟩⟩⟩
  · exact List.forall_mem_cons.mpr ⟨N (lo, _) (by k_mem), List.forall_mem_cons.mpr ⟨N (lr, _) (by k_mem), List.forall_mem_cons.mpr ⟨N (L + 1, oO) (by k_mem), List.forall_mem_cons.mpr ⟨N (L + 1 + 1, oE) (by k_mem), List.forall_mem_cons.mpr ⟨N (30, _) (by k_mem), List.forall_mem_cons.mpr ⟨N (30, _) (by k_mem), List.forall_mem_cons.mpr ⟨N (37, _) (by k_mem), List.forall_mem_cons.mpr ⟨N (37, _) (by k_mem), List.forall_mem_nil _⟩⟩⟩⟩⟩⟩⟩⟩
  all_goals (have l1 := l0.1; have l2 := l0.2; intro h; omega)
end Mine
end
section
open PySem PySem.W PyProof.Rows PySem.Calls PySem.Spec
set_option maxRecDepth 100000
namespace Mine
section
local macro_rules | `(tactic| walk_at "execs cons Assign cons") => `(tactic| ((with_reducible show wpAny _ _ (execs (Stmt.Assign [Expr.Tuple _ _ _] _ _ :: _) _) _ _ _); refine stop_of ?_))
local macro_rules | `(tactic| walk_at "subscriptTail") => `(tactic| ((with_reducible show wpAny _ _ (subscriptTail (PySem.Expr.BinOp _ _ _ _) _ _ _) _ _ _); k_dflt (refine kba_turn (value' := PySem.Expr.Name (PySem.Str.ofString "row") ⟨1, 1, 1, 1⟩) (fun _ => rfl) ?_)))
local macro_rules | `(tactic| walk1) => `(tactic| ((with_reducible show wpAny _ _ (exec _ _) _ _ _); k_fold))
set_option maxHeartbeats 8000000 in
theorem law_ok : PySem.Challenge.rw_ie0008_01.Holds := hd (by
  w_top off
  k_go0
  all_goals try k_fold
  k_steps
  rename IntsAre _ (List.map (fun k' => 1 + Int.fmod k' 5) _) => hIo
  rename IntsAre _ (List.map (fun k' => Int.fmod k' 3) _) => hIr
  obtain ⟨a, b, c, t1, t2, t3, ha, hb, hc, rfl⟩ := head_often _ _ hIo
  obtain ⟨row, hrow0, hrow, hrl⟩ := head_row (List.take _ (List.drop 3 _))
  rw [hrow0] at hIr
  rename Fr _ _ _ _ => F9
  rename News _ _ _ _ => N9
  rename Frag.In _ (ghostOf _ _) => X9
  rename Top topProg _ _ _ _ (ghostOf _ _) => T9
  rename Below callerA _ _ _ => B9
  rename CodeHd _ (41, 37).fst _ => C9
  rename CodeHd _ (34, 30).fst _ => C8
  have hrl6 : row.length ≤ 6 := by rw [hrl, List.length_take]; omega
  refine Stop.on (lawAll _ _ _ _ _ _ a b c ha hb hc row hrow hrl6 _ _ _ _ _ _ _ _ _ _ _ _ _ t1 t2 t3 _ _ _ B9 X9 T9 C8 C9 (head_at (vE := ?zv) F9 N9 ?zm ?zO ?zE hIr ?z1 ?z2 ?z3) ?zfin)
  case zE => assumption
  case zO => assumption
  case zm => with_unfolding_all rfl
  case z1 => assumption
  case z2 => assumption
  case z3 => assumption
  case zfin =>
    intro h' tk' m' o1 c1 oc1 o2 c2 oc2 led Fe Ne Ta Tb
    refine ⟨goodW_bool Fe (by assumption) (raisesW_false ?_) ?_, ?_, ?_, True.intro⟩
    · wrow_none_raised
    · kc_post
    · have hT : ∃ ps, o2 = tabObj ps := by
        rcases Tb with e | ⟨vs, t, e⟩
        · exact ⟨_, e⟩
        · exact ⟨_, e⟩
      obtain ⟨ps, rfl⟩ := hT
      exact GrownAt.of Ne (by k_mem)
    · have hT : ∃ ps, o1 = tabObj ps := by
        rcases Ta with e | ⟨vs, t, e⟩
        · exact ⟨_, e⟩
        · exact ⟨_, e⟩
      obtain ⟨ps, rfl⟩ := hT
      exact GrownAt.of Ne (by k_mem))
end
end Mine
end
end
theorem PySem.Challenge.cw_ie0008_01_holds : PySem.Challenge.rw_ie0008_01.Holds := by
  exact Mine.law_ok
