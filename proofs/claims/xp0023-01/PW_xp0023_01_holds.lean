import PyProof.Rows.All
import Wide.All
import OpenK.AllK
import Wide.FinOn
import KE.KState
import KE.BitLaws
import KE.BytesMake
import PyProof.StrLawsReplace
import KE.KxText
import KE.KSuper
import PyProof.Rows.GenRowsK
import PyProof.GenCompT
import PyProof.WalksPairs
import KE.KNestM
import KE.RegLcTurns
import PyProof.Rows.StrJoin2
import KE.LcTurns
import KE.KBytesWalk
import Lean
import PySem.Challenge.RW_xp0023_01
set_option Elab.async false
set_option rowWalk.seconds 0
set_option compiler.extract_closed false
section
local macro_rules | `(tactic| omega) => `(tactic| first | (with_reducible assumption) | lia)

section
open PySem PySem.W
set_option linter.all false
namespace Mine
theorem toNat_sub_le {a b : Int} (h0 : 0 ≤ b) (h : b ≤ a) : (a - b).toNat = a.toNat - b.toNat := by
  obtain ⟨m, rfl⟩ := Int.eq_ofNat_of_zero_le h0
  obtain ⟨n, rfl⟩ := Int.eq_ofNat_of_zero_le (Int.le_trans h0 h)
  exact Int.toNat_sub n m
theorem toNat_le_of_lt {m : Int} {n : Nat} (h : m < n) : m.toNat ≤ n := Int.toNat_le.mpr (Int.le_of_lt h)
theorem toNat_succ {l r : Int} (h : 0 ≤ l) (e : l + 1 = r) : r.toNat = l.toNat + 1 := by subst e; exact Int.toNat_add h (by decide)
theorem toNat_mono {a b : Int} (h : a ≤ b) : a.toNat ≤ b.toNat := Int.toNat_le_toNat h
theorem mid_facts {l M r : Int} (h0 : 0 ≤ l) (h1 : l < M) (h2 : M < r) : (M - l).toNat = M.toNat - l.toNat ∧ (M - l).toNat + (r - M).toNat = (r - l).toNat ∧ (r - M).toNat = r.toNat - M.toNat := by
  have a := toNat_sub_le h0 (Int.le_of_lt h1)
  have b := toNat_sub_le (Int.le_trans h0 (Int.le_of_lt h1)) (Int.le_of_lt h2)
  refine ⟨a, ?_, b⟩
  rw [a, b, toNat_sub_le h0 (Int.le_of_lt (Int.lt_trans h1 h2)), Nat.add_comm]
  exact Nat.sub_add_sub_cancel (toNat_mono (Int.le_of_lt h2)) (toNat_mono (Int.le_of_lt h1))
theorem cut_mid {l M : Int} {n : Nat} (h0 : 0 ≤ l) (h1 : l < M) (h2 : M ≤ n) : min l.toNat n + (M - l).toNat + (n - M.toNat) = n := by
  have b : M.toNat ≤ n := Int.toNat_le.mpr h2
  have a := toNat_mono (Int.le_of_lt h1)
  rw [toNat_sub_le h0 (Int.le_of_lt h1), Nat.min_eq_left (Nat.le_trans a b), Nat.add_sub_cancel' a, Nat.add_sub_cancel' b]
theorem down_one {p : Int} (h : 4 ≤ p) : p.toNat - (p - 1).toNat = 1 := by
  rw [toNat_sub_le (by decide) (Int.le_trans (by decide) h)]
  exact Nat.sub_sub_self (Int.toNat_le_toNat (Int.le_trans (by decide) h))
theorem rot_cut {k mv l : Nat} (h : k ≤ l) (h2 : mv ≤ k) : min mv (l - (k - mv)) + min (k - mv) l + (l - k) = l := by
  have a : mv ≤ l - (k - mv) := Nat.le_sub_of_add_le (by rw [Nat.add_sub_cancel' h2]; exact h)
  rw [Nat.min_eq_left a, Nat.min_eq_left (Nat.le_trans (Nat.sub_le _ _) h), Nat.add_sub_cancel' h2, Nat.add_sub_cancel' h]
noncomputable def fct : Nat → Int
  | 0 => 1
  | n + 1 => ((n : Int) + 1) * fct n
theorem fct_bd : ∀ n, n ≤ 8 → 1 ≤ fct n ∧ fct n ≤ 40320 := by decide
theorem fct_pos : ∀ n, 0 < fct n
  | 0 => by decide
  | n + 1 => Int.mul_pos (by omega) (fct_pos n)
theorem fct_fdiv (n : Nat) : (fct (n + 1)).fdiv ((n : Int) + 1) = fct n := by
  show (((n : Int) + 1) * fct n).fdiv ((n : Int) + 1) = fct n
  exact Int.mul_fdiv_cancel_left _ (by omega)
noncomputable def rotK (k mv : Nat) (l : List Int) : List Int := (l.drop (k - mv)).take mv ++ l.take (k - mv) ++ l.drop k
noncomputable def ordGo (hour : Int) : Nat → List Int → List Int
  | 0, l => l
  | 1, l => l
  | k + 2, l => ordGo hour (k + 1) (rotK (k + 2) ((hour.fdiv (fct (k + 1))).fmod ((k : Int) + 2)).toNat l)
noncomputable def ordSpec (hour p : Int) : List Int := ordGo hour p.toNat (rangeKs 0 p.toNat)
theorem rot_eq {k mv : Int} {ns : List Int} (hl : k.toNat ≤ ns.length) (h0 : 0 ≤ mv) (h1 : mv < k) :
    (ns.drop (k - mv).toNat).take (min k.toNat ns.length - (k - mv).toNat) ++ ns.take (k - mv).toNat ++ ns.drop k.toNat = rotK k.toNat mv.toNat ns := by
  unfold rotK
  have e1 : (k - mv).toNat = k.toNat - mv.toNat := toNat_sub_le h0 (Int.le_of_lt h1)
  have e2 : min k.toNat ns.length - (k - mv).toNat = mv.toNat := by
    rw [Nat.min_eq_left hl, e1]
    exact Nat.sub_sub_self (toNat_mono (Int.le_of_lt h1))
  rw [e2, e1]
theorem ordGo_step {hour k : Int} {kn : Nat} {ns : List Int} (hk : 2 ≤ k) (hkn : k.toNat = kn) (hl : kn ≤ ns.length) :
    ordGo hour (kn - 1) ((ns.drop (k - (hour.fdiv (fct (kn - 1))).fmod k).toNat).take (min k.toNat ns.length - (k - (hour.fdiv (fct (kn - 1))).fmod k).toNat) ++ ns.take (k - (hour.fdiv (fct (kn - 1))).fmod k).toNat ++ ns.drop k.toNat) = ordGo hour kn ns := by
  rw [rot_eq (by omega) (Int.fmod_nonneg_of_pos _ (by omega)) (Int.fmod_lt_of_pos _ (by omega)), hkn]
  obtain ⟨j, rfl⟩ : ∃ j, kn = j + 2 := ⟨kn - 2, by omega⟩
  have e : k = (j : Int) + 2 := by omega
  subst e
  rfl
theorem rotK_length {k mv : Nat} {l : List Int} (h : k ≤ l.length) (h2 : mv ≤ k) : (rotK k mv l).length = l.length := by
  unfold rotK
  simp only [List.length_append, List.length_take, List.length_drop]
  exact rot_cut h h2
theorem ordGo_length {hour : Int} : ∀ {k : Nat} {l : List Int}, k ≤ l.length → (ordGo hour k l).length = l.length
  | 0, _, _ => rfl
  | 1, _, _ => rfl
  | k + 2, l, h => by
    have h1 : ((hour.fdiv (fct (k + 1))).fmod ((k : Int) + 2)).toNat ≤ k + 2 := by
      exact toNat_le_of_lt (n := k + 2) (Int.fmod_lt_of_pos (hour.fdiv (fct (k + 1))) (show 0 < (k : Int) + 2 by omega))
    have h2 := rotK_length (l := l) h h1
    show (ordGo hour (k + 1) _).length = _
    rw [ordGo_length (by rw [h2]; exact Nat.le_of_succ_le h), h2]
theorem ordSpec_length {hour p : Int} : (ordSpec hour p).length = p.toNat := by
  unfold ordSpec
  rw [ordGo_length (by rw [rangeKs_length]; exact Nat.le_refl _), rangeKs_length]
noncomputable def figs : Nat → Int → List Int
  | 0, _ => []
  | 1, _ => []
  | k + 2, r => r.fdiv (fct (k + 1)) :: figs (k + 1) (r.fmod (fct (k + 1)))
noncomputable def toldSpec (hour : Int) (p : Nat) : List Int := hour.fdiv (fct p) :: figs p (hour.fmod (fct p))
theorem figs_length : ∀ {k : Nat} {r : Int}, (figs k r).length = k - 1
  | 0, _ => rfl
  | 1, _ => rfl
  | k + 2, r => by show (figs (k + 1) _).length + 1 = _; rw [figs_length]; omega
theorem toldSpec_length {hour : Int} {p : Nat} (h : 1 ≤ p) : (toldSpec hour p).length = p := by
  show (figs p _).length + 1 = p
  rw [figs_length]; omega
theorem figs_step {k : Nat} {r : Int} (h : 2 ≤ k) : figs k r = r.fdiv (fct (k - 1)) :: figs (k - 1) (r.fmod (fct (k - 1))) := by
  obtain ⟨j, rfl⟩ : ∃ j, k = j + 2 := ⟨k - 2, by omega⟩
  rfl
end Mine
end

section
open PySem PySem.W PyProof.Rows
set_option linter.all false
namespace Mine
noncomputable def dg (B : Int) : Nat → Int → List Int
  | 0, _ => []
  | k + 1, x => x % B :: dg B k (x / B)
theorem dg_length {B : Int} : ∀ {k : Nat} {x : Int}, (dg B k x).length = k
  | 0, _ => rfl
  | k + 1, x => by show (dg B k (x / B)).length + 1 = k + 1; rw [dg_length]
theorem dg_one {B x : Int} (h0 : 0 ≤ x) (h1 : x < B) : dg B 1 x = [x] := by
  show [x % B] = [x]
  rw [Int.emod_eq_of_lt h0 h1]
theorem set_mid {l : List Int} {i : Nat} {x : Int} (h : i < l.length) : l.set i x = l.take i ++ [x] ++ l.drop (i + 1) := by
  rw [List.set_eq_take_append_cons_drop, if_pos h]
  simp
theorem up_bd {x : Int} (h0 : 0 ≤ x) (h1 : x < 2 ^ 60) (k : Nat) : 0 ≤ x.fdiv (2 ^ k) ∧ x.fdiv (2 ^ k) < 2 ^ 60 := by
  have hp : (0 : Int) < 2 ^ k := Int.pow_pos (by decide)
  rw [Int.fdiv_eq_ediv_of_nonneg _ (by omega)]
  exact ⟨Int.ediv_nonneg h0 (by omega), Int.lt_of_le_of_lt (Int.ediv_le_self _ h0) h1⟩
theorem dg_append {B : Int} (hB : 0 < B) : ∀ {a b : Nat} {x : Int}, 0 ≤ x → dg B (a + b) x = dg B a (x % B ^ a) ++ dg B b (x / B ^ a)
  | 0, b, x, _ => by simp [dg]
  | a + 1, b, x, h => by
    rw [show a + 1 + b = (a + b) + 1 by omega]
    show x % B :: dg B (a + b) (x / B) = (x % B ^ (a + 1) % B :: dg B a (x % B ^ (a + 1) / B)) ++ _
    rw [dg_append hB (Int.ediv_nonneg h (by omega)), List.cons_append, Int.emod_emod_of_dvd x (by rw [Int.pow_succ, Int.mul_comm]; exact Int.dvd_mul_right _ _)]
    have e1 : x % B ^ (a + 1) / B = x / B % B ^ a := by
      obtain ⟨xn, rfl⟩ := Int.eq_ofNat_of_zero_le h
      obtain ⟨Bn, rfl⟩ := Int.eq_ofNat_of_zero_le (Int.le_of_lt hB)
      rw [Int.pow_succ, Int.mul_comm]
      exact_mod_cast Nat.mod_mul_right_div_self xn Bn (Bn ^ a)
    have e2 : x / B / B ^ a = x / B ^ (a + 1) := by
      rw [Int.pow_succ, Int.mul_comm (B ^ a) B, Int.ediv_ediv, if_neg (by omega), Int.sub_zero]
    rw [e1, e2]
theorem dg_split {n a b : Nat} {x : Int} (h0 : 0 ≤ x) (h1 : x < (2 ^ n) ^ (a + b)) :
    dg (2 ^ n) (a + b) x = dg (2 ^ n) a (x % (2 ^ n) ^ a) ++ dg (2 ^ n) b (x / (2 ^ n) ^ a) ∧ 0 ≤ x % (2 ^ n) ^ a ∧ x % (2 ^ n) ^ a < (2 ^ n) ^ a ∧ 0 ≤ x / (2 ^ n) ^ a ∧ x / (2 ^ n) ^ a < (2 ^ n) ^ b := by
  have hB : (0 : Int) < 2 ^ n := Int.pow_pos (by decide)
  have hA : (0 : Int) < (2 ^ n) ^ a := Int.pow_pos hB
  refine ⟨dg_append hB h0, Int.emod_nonneg _ (by omega), Int.emod_lt_of_pos _ hA, Int.ediv_nonneg h0 (by omega), ?_⟩
  refine Int.ediv_lt_of_lt_mul hA ?_
  rw [Int.mul_comm, ← Int.pow_add]
  exact h1
theorem nat_and_shift (x s : Nat) : x &&& (x / 2 ^ s * 2 ^ s) = x / 2 ^ s * 2 ^ s := by
  rw [← Nat.shiftRight_eq_div_pow, ← Nat.shiftLeft_eq]
  apply Nat.eq_of_testBit_eq
  intro i
  rw [Nat.testBit_and, Nat.testBit_shiftLeft, Nat.testBit_shiftRight]
  by_cases h : s ≤ i
  · rw [show s + (i - s) = i by omega]
    simp [h]
  · simp [h]
theorem xor_low {x : Int} (h0 : 0 ≤ x) (s : Nat) : Builtin.bitXor x (x.fdiv (2 ^ s) * 2 ^ s) = x % 2 ^ s := by
  obtain ⟨xn, rfl⟩ := Int.eq_ofNat_of_zero_le h0
  have hp : (0 : Int) < 2 ^ s := Int.pow_pos (by decide)
  rw [Int.fdiv_eq_ediv_of_nonneg _ (by omega), bitXor_and]
  have e : ((xn : Int) / 2 ^ s * 2 ^ s) = ((xn / 2 ^ s * 2 ^ s : Nat) : Int) := by push_cast; rfl
  have ea : Builtin.bitAnd (xn : Int) ((xn / 2 ^ s * 2 ^ s : Nat) : Int) = ((xn / 2 ^ s * 2 ^ s : Nat) : Int) := by
    show ((xn &&& (xn / 2 ^ s * 2 ^ s) : Nat) : Int) = _
    rw [nat_and_shift]
  rw [e, ea, ← e]
  have := Int.mul_ediv_add_emod (xn : Int) (2 ^ s)
  rw [Int.mul_comm] at this
  omega
theorem mod_le {x y : Int} (h : 0 ≤ x) (hy : 0 < y) : x % y ≤ x := by
  have h1 := Int.mul_ediv_add_emod x y
  have h2 := Int.mul_nonneg (Int.le_of_lt hy) (Int.ediv_nonneg h (Int.le_of_lt hy))
  omega
theorem splice2 {ns A C : List Int} {l M r : Nat} (hl : l ≤ M) (hM : M ≤ r) (hr : r ≤ ns.length) (hA : A.length = M - l) :
    (ns.take l ++ A ++ ns.drop M).take M ++ C ++ (ns.take l ++ A ++ ns.drop M).drop r = ns.take l ++ (A ++ C) ++ ns.drop r := by
  have e1 : (ns.take l ++ A).length = M := by rw [List.length_append, List.length_take, hA]; omega
  have e2 : (ns.take l ++ A ++ ns.drop M).take M = ns.take l ++ A := by rw [List.take_append_of_le_length (by omega), ← e1, List.take_length]
  have e3 : (ns.take l ++ A ++ ns.drop M).drop r = ns.drop r := by
    rw [List.drop_append, List.drop_eq_nil_of_le (by omega), List.nil_append, List.drop_drop, e1]
    congr 1
    omega
  rw [e2, e3]
  simp only [List.append_assoc]
theorem kdig {a n : Int} (h0 : 0 ≤ a) (h : Builtin.Int.intBits a ≤ 64) (hn : 0 < n) :
    0 ≤ ((Builtin.Int.intBits a : Int) + n - 1).fdiv n ∧ ((Builtin.Int.intBits a : Int) + n - 1).fdiv n ≤ 64 ∧ a < (2 ^ n.toNat) ^ (((Builtin.Int.intBits a : Int) + n - 1).fdiv n).toNat := by
  rw [Int.fdiv_eq_ediv_of_nonneg _ (by omega)]
  have hK0 : 0 ≤ ((Builtin.Int.intBits a : Int) + n - 1) / n := Int.ediv_nonneg (by omega) (by omega)
  have hK1 : ((Builtin.Int.intBits a : Int) + n - 1) / n < 65 := Int.ediv_lt_of_lt_mul hn (by omega)
  refine ⟨hK0, by omega, ?_⟩
  have e1 := Int.mul_ediv_add_emod ((Builtin.Int.intBits a : Int) + n - 1) n
  have e2 := Int.emod_lt_of_pos ((Builtin.Int.intBits a : Int) + n - 1) hn
  have hb : Builtin.Int.intBits a ≤ n.toNat * (((Builtin.Int.intBits a : Int) + n - 1) / n).toNat := by
    have : ((n.toNat * (((Builtin.Int.intBits a : Int) + n - 1) / n).toNat : Nat) : Int) = n * (((Builtin.Int.intBits a : Int) + n - 1) / n) := by
      rw [Int.natCast_mul, Int.toNat_of_nonneg (by omega), Int.toNat_of_nonneg hK0]
    omega
  rw [← Int.pow_mul]
  obtain ⟨an, rfl⟩ := Int.eq_ofNat_of_zero_le h0
  have hlt : an < 2 ^ Builtin.Int.intBits (an : Int) := by
    unfold Builtin.Int.intBits
    by_cases hz : an = 0
    · subst hz; decide
    · rw [if_neg (by simpa using hz)]
      exact Nat.lt_log2_self
  exact_mod_cast Nat.lt_of_lt_of_le hlt (Nat.pow_le_pow_right (by decide) hb)
theorem dg_zero {B : Int} : ∀ {k : Nat}, dg B k 0 = List.replicate k 0
  | 0 => rfl
  | k + 1 => by show 0 % B :: dg B k (0 / B) = _; rw [Int.zero_emod, Int.zero_ediv, dg_zero, List.replicate_succ]
noncomputable def vl (B : Int) : List Int → Int
  | [] => 0
  | d :: ds => d + B * vl B ds
theorem vl_append {B : Int} : ∀ {x y : List Int}, vl B (x ++ y) = vl B x + B ^ x.length * vl B y
  | [], y => by simp [vl]
  | d :: ds, y => by
    show d + B * vl B (ds ++ y) = d + B * vl B ds + B ^ (ds.length + 1) * vl B y
    rw [vl_append, Int.pow_succ, Int.mul_add, Int.add_assoc, Int.mul_comm (B ^ ds.length) B, Int.mul_assoc]
theorem vl_nonneg {B : Int} (hB : 0 ≤ B) : ∀ {x : List Int}, (∀ d ∈ x, 0 ≤ d) → 0 ≤ vl B x
  | [], _ => Int.le_refl _
  | d :: ds, h => Int.add_nonneg (h d (.head _)) (Int.mul_nonneg hB (vl_nonneg hB fun e he => h e (.tail _ he)))
noncomputable def sv (B : Int) (ns : List Int) (l r : Nat) : Int := vl B ((ns.take r).drop l)
theorem sv_split {B : Int} {ns : List Int} {l M r : Nat} (h1 : l ≤ M) (h2 : M ≤ r) (h3 : r ≤ ns.length) : sv B ns l r = sv B ns l M + B ^ (M - l) * sv B ns M r := by
  unfold sv
  have e : (ns.take r).drop l = (ns.take M).drop l ++ (ns.take r).drop M := by
    have e1 : ns.take M = (ns.take r).take M := by rw [List.take_take, Nat.min_eq_left h2]
    rw [e1, ← List.drop_append_of_le_length (by rw [List.length_take, List.length_take]; omega), List.take_append_drop]
  rw [e, vl_append]
  congr 2
  rw [List.length_drop, List.length_take]
  congr 1
  omega
theorem sv_one {B : Int} {ns : List Int} {l : Nat} (h : l < ns.length) : sv B ns l (l + 1) = ns.getD l 0 := by
  unfold sv
  rw [List.take_add_one, List.drop_append, List.drop_eq_nil_of_le (by rw [List.length_take]; omega), List.nil_append, List.length_take, show l - min l ns.length = 0 by omega, List.drop_zero, List.getElem?_eq_getElem h]
  show ns[l] + B * 0 = _
  rw [List.getD_eq_getElem?_getD, List.getElem?_eq_getElem h]
  simp
theorem sv_nonneg {B : Int} {ns : List Int} {l r : Nat} (hB : 0 ≤ B) (h : ∀ d ∈ ns, 0 ≤ d) : 0 ≤ sv B ns l r := vl_nonneg hB fun d hd => h d (List.mem_of_mem_take (List.mem_of_mem_drop hd))
theorem sv_parts {n : Nat} {ns : List Int} {l M r : Nat} (h : ∀ d ∈ ns, 0 ≤ d) (h1 : l ≤ M) (h2 : M ≤ r) (h3 : r ≤ ns.length) (hb : sv (2 ^ n) ns l r < 2 ^ 60) :
    0 ≤ sv (2 ^ n) ns l M ∧ sv (2 ^ n) ns l M < 2 ^ 60 ∧ 0 ≤ sv (2 ^ n) ns M r ∧ sv (2 ^ n) ns M r < 2 ^ 60 ∧ sv (2 ^ n) ns M r * 2 ^ (n * (M - l)) + sv (2 ^ n) ns l M = sv (2 ^ n) ns l r := by
  have hB : (0 : Int) < 2 ^ n := Int.pow_pos (by decide)
  have hA : (0 : Int) < (2 ^ n) ^ (M - l) := Int.pow_pos hB
  have a1 := sv_nonneg (l := l) (r := M) (Int.le_of_lt hB) h
  have a2 := sv_nonneg (l := M) (r := r) (Int.le_of_lt hB) h
  have e := sv_split (B := 2 ^ n) h1 h2 h3
  have a3 : sv (2 ^ n) ns M r ≤ (2 ^ n) ^ (M - l) * sv (2 ^ n) ns M r := by
    have := Int.mul_le_mul_of_nonneg_right (show (1 : Int) ≤ (2 ^ n) ^ (M - l) by omega) a2
    rwa [Int.one_mul] at this
  have a4 : 0 ≤ (2 ^ n) ^ (M - l) * sv (2 ^ n) ns M r := Int.mul_nonneg (Int.le_of_lt hA) a2
  refine ⟨a1, by omega, a2, by omega, ?_⟩
  rw [Int.pow_mul, Int.mul_comm, e, Int.add_comm]
theorem dg_get {B : Int} (hB : 0 < B) : ∀ {K j : Nat} {a : Int}, 0 ≤ a → j < K → (dg B K a)[j]? = some (a / B ^ j % B)
  | 0, _, _, _, h => absurd h (Nat.not_lt_zero _)
  | K + 1, 0, a, _, _ => by rw [Int.pow_zero, Int.ediv_one]; rfl
  | K + 1, j + 1, a, h0, h => by
    show (dg B K (a / B))[j]? = _
    rw [dg_get hB (Int.ediv_nonneg h0 (by omega)) (by omega)]
    congr 2
    rw [Int.ediv_ediv, if_neg (by omega), Int.sub_zero, Int.pow_succ, Int.mul_comm]
theorem ld_step {B a b q r : Int} {K i : Nat} (hB : 0 < B) (hb : 0 < b) (h0 : 0 ≤ a) (hi : i < K) (hq : q = a / B ^ (K - i) / b) (hr : r = a / B ^ (K - i) % b) :
    (r * B + a / B ^ (K - 1 - i) % B) / b + B * q = a / B ^ (K - (i + 1)) / b ∧ (r * B + a / B ^ (K - 1 - i) % B) % b = a / B ^ (K - (i + 1)) % b := by
  have e1 : K - 1 - i = K - (i + 1) := by omega
  have e2 : a / B ^ (K - i) = a / B ^ (K - (i + 1)) / B := by
    rw [show K - i = (K - (i + 1)) + 1 by omega, Int.pow_succ, Int.ediv_ediv, if_neg (fun h => absurd h.1 (Int.not_lt.mpr (Int.le_of_lt (Int.pow_pos hB)))), Int.sub_zero]
  rw [e1]
  have hT : a / B ^ (K - (i + 1)) = B * (a / B ^ (K - i)) + a / B ^ (K - (i + 1)) % B := by
    rw [e2]; exact (Int.mul_ediv_add_emod _ _).symm
  generalize a / B ^ (K - (i + 1)) % B = d at *
  generalize a / B ^ (K - i) = tp at *
  have hd := Int.mul_ediv_add_emod tp b
  rw [← hq, ← hr] at hd
  have e3 : B * tp + d = (r * B + d) + b * (B * q) := by rw [← hd, Int.mul_add, Int.mul_comm B (b * q), Int.mul_assoc, Int.mul_comm q B, Int.mul_comm B r]; omega
  rw [hT, e3]
  constructor
  · rw [Int.add_mul_ediv_left _ _ (by omega)]
  · rw [Int.add_mul_emod_self_left]
theorem vl_snoc {B d : Int} {qs : List Int} : vl B (qs ++ [d]).reverse = d + B * vl B qs.reverse := by rw [List.reverse_append]; rfl
theorem ld_bd {r B d b : Int} (h0 : 0 ≤ r) (h1 : r < b) (hb : b < 2 ^ 20) (hB : 0 < B) (hB1 : B ≤ 2 ^ 20) (d0 : 0 ≤ d) (d1 : d < B) : 0 ≤ r * B ∧ 0 ≤ r * B + d ∧ r * B + d < 2 ^ 60 := by
  have a1 := Int.mul_nonneg h0 (Int.le_of_lt hB)
  have a2 := Int.mul_le_mul (a := r) (b := B) (c := 2 ^ 20) (d := 2 ^ 20) (by omega) hB1 (Int.le_of_lt hB) (by decide)
  have a3 : (2 : Int) ^ 20 * 2 ^ 20 = 2 ^ 40 := by decide
  refine ⟨a1, by omega, by omega⟩
theorem bits_bd {b : Int} (h0 : 0 < b) (h1 : b < 2 ^ 20) : 0 < (Builtin.Int.intBits b : Int) ∧ Builtin.Int.intBits b ≤ 20 ∧ (2 : Int) ^ Builtin.Int.intBits b ≤ 2 ^ 20 ∧ b < 2 ^ Builtin.Int.intBits b := by
  obtain ⟨bn, rfl⟩ := Int.eq_ofNat_of_zero_le (Int.le_of_lt h0)
  have hz : bn ≠ 0 := by omega
  have e : Builtin.Int.intBits (bn : Int) = bn.log2 + 1 := by
    unfold Builtin.Int.intBits
    rw [if_neg (by simpa using hz)]
    rfl
  have h2 : bn.log2 < 20 := (Nat.log2_lt hz).mpr (by exact_mod_cast h1)
  rw [e]
  have h3 : 2 ^ (bn.log2 + 1) ≤ 2 ^ 20 := Nat.pow_le_pow_right (by decide) h2
  exact ⟨by omega, h2, by exact_mod_cast h3, by exact_mod_cast Nat.lt_log2_self⟩
theorem neg_div {a b : Int} (hb : 0 < b) : Builtin.bitNot ((Builtin.bitNot a).fdiv b) = a.fdiv b ∧ b + Builtin.bitNot ((Builtin.bitNot a).fmod b) = a.fmod b := by
  show -((-a - 1).fdiv b) - 1 = a.fdiv b ∧ b + (-((-a - 1).fmod b) - 1) = a.fmod b
  rw [Int.fdiv_eq_ediv_of_nonneg _ (Int.le_of_lt hb), Int.fdiv_eq_ediv_of_nonneg _ (Int.le_of_lt hb), Int.fmod_eq_emod_of_nonneg _ (Int.le_of_lt hb), Int.fmod_eq_emod_of_nonneg _ (Int.le_of_lt hb)]
  have h1 := Int.mul_ediv_add_emod (-a - 1) b
  have h2 := Int.emod_nonneg (-a - 1) (Int.ne_of_gt hb)
  have h3 := Int.emod_lt_of_pos (-a - 1) hb
  have e : a = (b - (-a - 1) % b - 1) + b * (-((-a - 1) / b) - 1) := by rw [Int.mul_sub, Int.mul_neg, Int.mul_one]; omega
  have q1 : a / b = -((-a - 1) / b) - 1 := by
    rw [show a / b = ((b - (-a - 1) % b - 1) + b * (-((-a - 1) / b) - 1)) / b from congrArg (· / b) e, Int.add_mul_ediv_left _ _ (by omega), Int.ediv_eq_zero_of_lt (by omega) (by omega), Int.zero_add]
  have q2 : a % b = b - (-a - 1) % b - 1 := by
    rw [show a % b = ((b - (-a - 1) % b - 1) + b * (-((-a - 1) / b) - 1)) % b from congrArg (· % b) e, Int.add_mul_emod_self_left, Int.emod_eq_of_lt (by omega) (by omega)]
  exact ⟨q1.symm, by rw [q2]; omega⟩
end Mine
end

section
open PySem PySem.W
set_option linter.all false
namespace Mine
theorem rotK_mem {k mv : Nat} {l : List Int} {x : Int} (h : x ∈ rotK k mv l) : x ∈ l := by
  unfold rotK at h
  rcases List.mem_append.mp h with h | h
  · rcases List.mem_append.mp h with h | h
    · exact List.mem_of_mem_drop (List.mem_of_mem_take h)
    · exact List.mem_of_mem_take h
  · exact List.mem_of_mem_drop h
theorem ordGo_mem {hour : Int} : ∀ {k : Nat} {l : List Int} {x : Int}, x ∈ ordGo hour k l → x ∈ l
  | 0, _, _, h => h
  | 1, _, _, h => h
  | _ + 2, _, _, h => rotK_mem (ordGo_mem h)
theorem ord_mem {hour p x : Int} (h : x ∈ ordSpec hour p) (hp : 0 ≤ p) : 0 ≤ x ∧ x < p := by
  have := mem_rangeKs (ordGo_mem h)
  omega
end Mine
end

section
open PySem PySem.W
set_option linter.all false
namespace Mine
theorem fd (h : Int) (n : Nat) : h.fdiv (fct n) = h / fct n := Int.fdiv_eq_ediv_of_nonneg _ (Int.le_of_lt (fct_pos n))
theorem fm (h : Int) (n : Nat) : h.fmod ((n : Int) + 1) = h % ((n : Int) + 1) := Int.fmod_eq_emod_of_nonneg _ (by omega)
noncomputable def mvI (h : Int) (j : Nat) : Int := (h / fct (j - 1)) % (j : Int)
theorem mvI_bd {h : Int} {j : Nat} (hj : 1 ≤ j) : 0 ≤ mvI h j ∧ mvI h j < j := ⟨Int.emod_nonneg _ (by omega), Int.emod_lt_of_pos _ (by omega)⟩
noncomputable def rot (mv : Nat) (a : List Int) : List Int := a.drop (a.length - mv) ++ a.take (a.length - mv)
theorem rot_length {mv : Nat} {a : List Int} : (rot mv a).length = a.length := by
  unfold rot
  rw [List.length_append, List.length_drop, List.length_take, Nat.min_eq_left (Nat.sub_le _ _)]; exact Nat.sub_add_cancel (Nat.sub_le _ _)
theorem rotK_app {k mv : Nat} {a t : List Int} (hk : a.length = k) (hm : mv ≤ k) : rotK k mv (a ++ t) = rot mv a ++ t := by
  have e1 : (a ++ t).drop (k - mv) = a.drop (k - mv) ++ t := List.drop_append_of_le_length (by omega)
  have e2 : (a.drop (k - mv)).length = mv := by rw [List.length_drop, hk]; exact Nat.sub_sub_self hm
  have e3 : (a.drop (k - mv) ++ t).take mv = a.drop (k - mv) := by rw [List.take_append_of_le_length (by omega), List.take_of_length_le (by omega)]
  have e4 : (a ++ t).take (k - mv) = a.take (k - mv) := List.take_append_of_le_length (by omega)
  have e5 : (a ++ t).drop k = t := by rw [← hk, List.drop_left]
  unfold rotK rot
  rw [e1, e3, e4, e5, hk]
theorem ordGo_two {h : Int} {k : Nat} {a : List Int} (hl : a.length = k + 2) : ordGo h (k + 2) a = ordGo h (k + 1) (rot (mvI h (k + 2)).toNat a) := by
  have hb := mvI_bd (h := h) (j := k + 2) (by omega)
  have e : ((h.fdiv (fct (k + 1))).fmod ((k : Int) + 2)).toNat = (mvI h (k + 2)).toNat := by
    unfold mvI
    rw [fd, Int.fmod_eq_emod_of_nonneg _ (by omega)]
    congr 2
  show ordGo h (k + 1) (rotK (k + 2) _ a) = _
  rw [e, ← List.append_nil a, rotK_app (by rw [hl]) (toNat_le_of_lt hb.2), List.append_nil, List.append_nil]
theorem ordGo_app {h : Int} : ∀ {k : Nat} {a t : List Int}, a.length = k → ordGo h k (a ++ t) = ordGo h k a ++ t
  | 0, _, _, _ => rfl
  | 1, _, _, _ => rfl
  | k + 2, a, t, hl => by
    have hb := mvI_bd (h := h) (j := k + 2) (by omega)
    have e : ((h.fdiv (fct (k + 1))).fmod ((k : Int) + 2)).toNat = (mvI h (k + 2)).toNat := by
      unfold mvI
      rw [fd, Int.fmod_eq_emod_of_nonneg _ (by omega)]
      congr 2
    show ordGo h (k + 1) (rotK (k + 2) _ (a ++ t)) = _
    rw [e, rotK_app hl (toNat_le_of_lt hb.2), ordGo_two hl]
    obtain ⟨m, z, hmz⟩ : ∃ m z, rot (mvI h (k + 2)).toNat a = m ++ [z] := by
      have h1 : rot (mvI h (k + 2)).toNat a ≠ [] := by
        intro e
        have := congrArg List.length e
        rw [rot_length, hl] at this
        simp at this
      exact ⟨_, _, (List.dropLast_concat_getLast h1).symm⟩
    have hml : m.length = k + 1 := by
      have := congrArg List.length hmz
      rw [rot_length, hl, List.length_append, List.length_singleton] at this
      omega
    rw [hmz, List.append_assoc, ordGo_app hml, ordGo_app hml, List.append_assoc]
theorem fct_succ (k : Nat) : fct (k + 1) = ((k : Int) + 1) * fct k := rfl
theorem mvI_zero {g : Int} : ∀ {k : Nat}, g % fct k = 0 → ∀ j, 1 ≤ j → j ≤ k → mvI g j = 0
  | 0, _, j, h1, h2 => by omega
  | k + 1, h, j, h1, h2 => by
    obtain ⟨c, hc⟩ := Int.dvd_of_emod_eq_zero h
    have hp := fct_pos k
    rw [fct_succ] at hc
    have hk : g = fct k * (((k : Int) + 1) * c) := by rw [hc, Int.mul_comm ((k : Int) + 1) (fct k), Int.mul_assoc]
    rcases Nat.lt_or_ge j (k + 1) with hj | hj
    · exact mvI_zero (by rw [hk]; exact Int.mul_emod_right _ _) j h1 (by omega)
    · obtain rfl : j = k + 1 := by omega
      unfold mvI
      rw [Nat.add_sub_cancel, hk, Int.mul_ediv_cancel_left _ (by omega), show ((k + 1 : Nat) : Int) = (k : Int) + 1 by omega]
      exact Int.mul_emod_right _ _
theorem of_mvI_zero {g : Int} : ∀ {k : Nat}, (∀ j, 2 ≤ j → j ≤ k → mvI g j = 0) → g % fct k = 0
  | 0, _ => Int.emod_one _
  | 1, _ => by rw [show fct 1 = 1 by decide]; exact Int.emod_one _
  | k + 2, h => by
    have ih := of_mvI_zero (g := g) (k := k + 1) fun j h1 h2 => h j h1 (by omega)
    obtain ⟨c, hc⟩ := Int.dvd_of_emod_eq_zero ih
    have h2 := h (k + 2) (by omega) (Nat.le_refl _)
    have hp := fct_pos (k + 1)
    unfold mvI at h2
    rw [show k + 2 - 1 = k + 1 by omega, hc, Int.mul_ediv_cancel_left _ (by omega)] at h2
    obtain ⟨d, hd⟩ := Int.dvd_of_emod_eq_zero h2
    rw [fct_succ, hc, hd, show ((k + 2 : Nat) : Int) = ((k + 1 : Nat) : Int) + 1 by omega, ← Int.mul_assoc, Int.mul_comm (fct (k + 1))]
    exact Int.mul_emod_right _ _
theorem rot_zero (a : List Int) : rot 0 a = a := by
  unfold rot
  rw [Nat.sub_zero, List.drop_length, List.take_length]
  rfl
theorem rot_all (a : List Int) : rot a.length a = a := by
  unfold rot
  rw [Nat.sub_self, List.drop_zero, List.take_zero, List.append_nil]
theorem ordGo_still {g : Int} : ∀ {k : Nat} {a : List Int}, a.length = k → g % fct k = 0 → ordGo g k a = a
  | 0, _, _, _ => rfl
  | 1, _, _, _ => rfl
  | k + 2, a, hl, h => by
    have h0 := mvI_zero h
    have hd : g % fct (k + 1) = 0 := of_mvI_zero fun j h1 h2 => h0 j (by omega) (by omega)
    rw [ordGo_two hl, h0 (k + 2) (by omega) (Nat.le_refl _), show (0 : Int).toNat = 0 from rfl, rot_zero]
    obtain ⟨m, z, rfl⟩ : ∃ m z, a = m ++ [z] := by
      have h1 : a ≠ [] := by intro e; rw [e] at hl; simp at hl
      exact ⟨_, _, (List.dropLast_concat_getLast h1).symm⟩
    have hml : m.length = k + 1 := by rw [List.length_append, List.length_singleton] at hl; omega
    rw [ordGo_app hml, ordGo_still hml hd]
theorem rot_more {c : Nat} {a m : List Int} {z : Int} (hc : c < a.length) (h : rot c a = m ++ [z]) : rot (c + 1) a = z :: m := by
  unfold rot at h ⊢
  have hlt : a.length - (c + 1) < a.length := by omega
  have e : a.take (a.length - c) = a.take (a.length - (c + 1)) ++ [a[a.length - (c + 1)]] := by
    rw [show a.length - c = a.length - (c + 1) + 1 by omega, List.take_add_one, List.getElem?_eq_getElem hlt]
    rfl
  have e2 : a.drop (a.length - (c + 1)) = a[a.length - (c + 1)] :: a.drop (a.length - c) := by
    rw [List.drop_eq_getElem_cons hlt, show a.length - (c + 1) + 1 = a.length - c by omega]
  rw [e, ← List.append_assoc] at h
  obtain ⟨h1, h2⟩ := List.append_inj' h rfl
  rw [e2, ← h1, ← (List.cons.inj h2).1]
  rfl
theorem snoc_of {a : List Int} {k : Nat} (h : a.length = k + 1) : ∃ m z, a = m ++ [z] ∧ m.length = k := by
  have h1 : a ≠ [] := by intro e; rw [e] at h; simp at h
  refine ⟨_, _, (List.dropLast_concat_getLast h1).symm, ?_⟩
  rw [List.length_dropLast, h]; omega
theorem ordGo_last {h : Int} : ∀ {k : Nat} {a : List Int}, a.length = k → (h + 1) % fct k = 0 → ordGo h k a = a.reverse
  | 0, a, hl, _ => by rw [List.length_eq_zero_iff.mp hl]; rfl
  | 1, a, hl, _ => by
    obtain ⟨x, rfl⟩ := List.length_eq_one_iff.mp hl
    rfl
  | k + 2, a, hl, hh => by
    have h0 := mvI_zero hh
    have hd : (h + 1) % fct (k + 1) = 0 := of_mvI_zero fun j h1 h2 => h0 j (by omega) (by omega)
    obtain ⟨c, hc⟩ := Int.dvd_of_emod_eq_zero hh
    have hp := fct_pos (k + 1)
    have hmv : mvI h (k + 2) = (k : Int) + 1 := by
      unfold mvI
      rw [show k + 2 - 1 = k + 1 by omega]
      rw [fct_succ, show (((k + 1 : Nat) : Int) + 1) = (k : Int) + 2 by omega] at hc
      have e : h = fct (k + 1) * (((k : Int) + 2) * c - 1) + (fct (k + 1) - 1) := by
        rw [Int.mul_sub, Int.mul_one, ← Int.mul_assoc, Int.mul_comm (fct (k + 1)) ((k : Int) + 2)]
        omega
      have e2 : h / fct (k + 1) = ((k : Int) + 2) * c - 1 := by
        rw [e, Int.add_comm, Int.add_mul_ediv_left _ _ (by omega), Int.ediv_eq_zero_of_lt (by omega) (by omega), Int.zero_add]
      rw [e2, show ((k + 2 : Nat) : Int) = (k : Int) + 2 by omega, show ((k : Int) + 2) * c - 1 = ((k : Int) + 1) + ((k : Int) + 2) * (c - 1) by rw [Int.mul_sub]; omega, Int.add_mul_emod_self_left, Int.emod_eq_of_lt (by omega) (by omega)]
    obtain ⟨x, r, rfl⟩ : ∃ x r, a = x :: r := by
      cases a with
      | nil => simp at hl
      | cons x r => exact ⟨x, r, rfl⟩
    have hr : r.length = k + 1 := by rw [List.length_cons] at hl; omega
    have e : rot ((k : Int) + 1).toNat (x :: r) = r ++ [x] := by
      unfold rot
      rw [show (x :: r).length - ((k : Int) + 1).toNat = 1 by rw [hl]; omega]
      rfl
    rw [ordGo_two hl, hmv, e, ordGo_app hr, ordGo_last hr hd, List.reverse_cons]
theorem zaks {h : Int} : ∀ {k : Nat} {a : List Int} {x : Nat}, a.length = k → 2 ≤ x → x ≤ k → (∀ j, 2 ≤ j → j < x → mvI (h + 1) j = 0) → (x = k ∨ mvI (h + 1) x ≠ 0) →
    ((ordGo h k a).take x).reverse ++ (ordGo h k a).drop x = ordGo (h + 1) k a
  | 0, _, x, _, h2, h3, _, _ => by omega
  | 1, _, x, _, h2, h3, _, _ => by omega
  | k + 2, a, x, hl, h2, h3, h4, h5 => by
    have hp := fct_pos (k + 1)
    have hmod := Int.mul_ediv_add_emod (h + 1) (fct (k + 1))
    have hm0 := Int.emod_nonneg (h + 1) (show fct (k + 1) ≠ 0 by omega)
    have hm1 := Int.emod_lt_of_pos (h + 1) hp
    have hrl : ∀ c, (rot c a).length = k + 1 + 1 := fun c => by rw [rot_length, hl]
    by_cases hd : (h + 1) % fct (k + 1) = 0
    · -- a round of the first k + 1 is over
      have hx : x = k + 2 := by
        rcases h5 with h5 | h5
        · exact h5
        · rcases Nat.lt_or_ge x (k + 2) with hlt | hge
          · exact absurd (mvI_zero hd x (by omega) (by omega)) h5
          · omega
      subst hx
      have hq : (h + 1) / fct (k + 1) = h / fct (k + 1) + 1 := by
        have e : h = fct (k + 1) * ((h + 1) / fct (k + 1) - 1) + (fct (k + 1) - 1) := by rw [Int.mul_sub, Int.mul_one]; omega
        have e2 : h / fct (k + 1) = (h + 1) / fct (k + 1) - 1 := by
          conv => lhs; rw [e]
          rw [Int.add_comm, Int.add_mul_ediv_left _ _ (by omega), Int.ediv_eq_zero_of_lt (by omega) (by omega), Int.zero_add]
        omega
      obtain ⟨m, z, hmz, hml⟩ := snoc_of (hrl (mvI h (k + 2)).toNat)
      have hb := mvI_bd (h := h) (j := k + 2) (by omega)
      have hmore := rot_more (by rw [hl]; omega) hmz
      have hnext : rot (mvI (h + 1) (k + 2)).toNat a = z :: m := by
        rw [← hmore]
        have e : mvI (h + 1) (k + 2) = (mvI h (k + 2) + 1) % ((k : Int) + 2) := by
          unfold mvI
          rw [show k + 2 - 1 = k + 1 by omega, hq, show ((k + 2 : Nat) : Int) = (k : Int) + 2 by omega, Int.emod_add_emod]
        rcases Int.lt_or_le (mvI h (k + 2) + 1) ((k : Int) + 2) with hlt | hge
        · rw [e, Int.emod_eq_of_lt (by omega) hlt]
          congr 1
          omega
        · have e3 : mvI h (k + 2) + 1 = (k : Int) + 2 := by omega
          rw [e, e3, Int.emod_self, show (0 : Int).toNat = 0 from rfl, rot_zero, show (mvI h (k + 2)).toNat + 1 = a.length by rw [hl]; omega, rot_all]
      rw [ordGo_two hl, hmz, ordGo_app hml, ordGo_last hml hd, ordGo_two hl, hnext]
      rw [List.take_of_length_le (by rw [List.length_append, List.length_reverse, hml, List.length_singleton]; omega), List.drop_of_length_le (by rw [List.length_append, List.length_reverse, hml, List.length_singleton]; omega), List.append_nil, List.reverse_append, List.reverse_reverse]
      show z :: m = _
      obtain ⟨m', z', hmz', hml'⟩ := snoc_of (show (z :: m).length = k + 1 + 1 by rw [List.length_cons, hml])
      rw [hmz', ordGo_app hml', ordGo_still hml' hd]
    · have hq : (h + 1) / fct (k + 1) = h / fct (k + 1) := by
        have e : h = fct (k + 1) * ((h + 1) / fct (k + 1)) + ((h + 1) % fct (k + 1) - 1) := by omega
        have e2 : (fct (k + 1) * ((h + 1) / fct (k + 1)) + ((h + 1) % fct (k + 1) - 1)) / fct (k + 1) = (h + 1) / fct (k + 1) := by
          rw [Int.add_comm (fct (k + 1) * _), Int.add_mul_ediv_left _ _ (by omega), Int.ediv_eq_zero_of_lt (by omega) (by omega), Int.zero_add]
        rw [← e] at e2
        exact e2.symm
      have hmv : mvI (h + 1) (k + 2) = mvI h (k + 2) := by
        unfold mvI
        rw [show k + 2 - 1 = k + 1 by omega, hq]
      have hx : x ≤ k + 1 := by
        rcases Nat.lt_or_ge x (k + 2) with hlt | hge
        · omega
        · exact absurd (of_mvI_zero fun j h1 h2 => h4 j h1 (by omega)) hd
      have h5' : mvI (h + 1) x ≠ 0 := by
        rcases h5 with h5 | h5
        · omega
        · exact h5
      obtain ⟨m, z, hmz, hml⟩ := snoc_of (hrl (mvI h (k + 2)).toNat)
      have ih := zaks hml h2 hx h4 (.inr h5')
      have hol : (ordGo h (k + 1) m).length = k + 1 := by rw [ordGo_length (by omega), hml]
      rw [ordGo_two hl, ordGo_two hl, hmv, hmz, ordGo_app hml, ordGo_app hml, ← ih, List.take_append_of_le_length (by omega), List.drop_append_of_le_length (by omega), List.append_assoc]
end Mine
end

section
open PySem PySem.W
set_option linter.all false
namespace Mine
noncomputable def mvs (h : Int) : Nat → List Int
  | 0 => []
  | 1 => []
  | k + 2 => mvI h (k + 2) :: mvs h (k + 1)
theorem mvs_length {h : Int} : ∀ {k : Nat}, (mvs h k).length = k - 1
  | 0 => rfl
  | 1 => rfl
  | k + 2 => by show (mvs h (k + 1)).length + 1 = _; rw [mvs_length]; omega
theorem fig_of {h D n : Int} (hD : 0 < D) (hn : 0 < n) : h % (n * D) / D = h / D % n ∧ h % (n * D) % D = h % D := by
  have e1 := Int.mul_ediv_add_emod h D
  have r0 := Int.emod_nonneg h (show D ≠ 0 by omega)
  have r1 := Int.emod_lt_of_pos h hD
  have e2 := Int.mul_ediv_add_emod (h / D) n
  have b0 := Int.emod_nonneg (h / D) (show n ≠ 0 by omega)
  have b1 := Int.emod_lt_of_pos (h / D) hn
  obtain ⟨q, hq⟩ : ∃ q, h / D = q := ⟨_, rfl⟩
  obtain ⟨r, hr⟩ : ∃ r, h % D = r := ⟨_, rfl⟩
  rw [hq, hr] at e1
  rw [hq] at e2 b0 b1
  rw [hr] at r0 r1
  obtain ⟨b, hb⟩ : ∃ b, q % n = b := ⟨_, rfl⟩
  obtain ⟨a, ha⟩ : ∃ a, q / n = a := ⟨_, rfl⟩
  rw [ha, hb] at e2
  rw [hb] at b0 b1
  have e : h = (D * b + r) + n * D * a := by
    rw [← e1, ← e2, Int.mul_add, ← Int.mul_assoc, Int.mul_comm D n]
    omega
  have l1 : D * b ≤ D * (n - 1) := Int.mul_le_mul_of_nonneg_left (by omega) (by omega)
  rw [Int.mul_sub, Int.mul_one, Int.mul_comm D n] at l1
  have l0 : 0 ≤ D * b := Int.mul_nonneg (by omega) b0
  have e3 : h % (n * D) = D * b + r := by
    rw [e, Int.add_mul_emod_self_left, Int.emod_eq_of_lt (by omega) (by omega)]
  rw [e3, hq, hr, hb]
  constructor
  · rw [Int.add_comm, Int.add_mul_ediv_left _ _ (by omega), Int.ediv_eq_zero_of_lt r0 r1, Int.zero_add]
  · rw [Int.add_comm, Int.add_mul_emod_self_left, Int.emod_eq_of_lt r0 r1]
theorem fmn (h : Int) (n : Nat) : h.fmod (fct n) = h % fct n := Int.fmod_eq_emod_of_nonneg _ (Int.le_of_lt (fct_pos n))
theorem figs_eq {h : Int} : ∀ {k : Nat}, figs k (h % fct k) = mvs h k
  | 0 => rfl
  | 1 => rfl
  | k + 2 => by
    obtain ⟨a, b⟩ := fig_of (h := h) (fct_pos (k + 1)) (show (0 : Int) < (k : Int) + 2 by omega)
    have e : fct (k + 2) = ((k : Int) + 2) * fct (k + 1) := by rw [fct_succ, show (((k + 1 : Nat) : Int) + 1) = (k : Int) + 2 by omega]
    show (h % fct (k + 2)).fdiv (fct (k + 1)) :: figs (k + 1) ((h % fct (k + 2)).fmod (fct (k + 1))) = mvI h (k + 2) :: mvs h (k + 1)
    rw [fd, fmn, e, a, b, figs_eq]
    rfl
theorem told_eq {h : Int} {n : Nat} : toldSpec h n = h / fct n :: mvs h n := by
  unfold toldSpec
  rw [fd, fmn, figs_eq]
theorem mvs_at {h : Int} : ∀ {k j : Nat}, 2 ≤ j → j ≤ k → (mvs h k).getD (k - j) 0 = mvI h j
  | 0, j, h1, h2 => by omega
  | 1, j, h1, h2 => by omega
  | k + 2, j, h1, h2 => by
    rcases Nat.lt_or_ge j (k + 2) with hj | hj
    · rw [show k + 2 - j = (k + 1 - j) + 1 by omega]
      show (mvs h (k + 1)).getD (k + 1 - j) 0 = _
      exact mvs_at h1 (by omega)
    · obtain rfl : j = k + 2 := by omega
      rw [Nat.sub_self]
      rfl
theorem told_at {h : Int} {n j : Nat} (h1 : 2 ≤ j) (h2 : j ≤ n) : (toldSpec h n).getD (n + 1 - j) 0 = mvI h j := by
  rw [told_eq, show n + 1 - j = (n - j) + 1 by omega]
  exact mvs_at h1 h2
theorem told_zero {h : Int} {n : Nat} : (toldSpec h n).getD 0 0 = h / fct n := by rw [told_eq]; rfl
theorem horner {h : Int} {k : Nat} (hk : 1 ≤ k) : h / fct k * (k : Int) + mvI h k = h / fct (k - 1) := by
  obtain ⟨j, rfl⟩ : ∃ j, k = j + 1 := ⟨k - 1, by omega⟩
  have hp := fct_pos j
  unfold mvI
  rw [Nat.add_sub_cancel, fct_succ, show ((j + 1 : Nat) : Int) = (j : Int) + 1 by omega, Int.mul_comm ((j : Int) + 1) (fct j), ← Int.ediv_ediv_of_nonneg (by omega), Int.mul_comm]
  exact Int.mul_ediv_add_emod _ _
noncomputable def flip (x : Nat) (l : List Int) : List Int := (l.take x).reverse ++ l.drop x
theorem flip_flip {x : Nat} {l : List Int} (h : x ≤ l.length) : flip x (flip x l) = l := by
  unfold flip
  have e : (l.take x).reverse.length = x := by rw [List.length_reverse, List.length_take]; omega
  rw [List.take_append_of_le_length (by omega), List.take_of_length_le (by omega), List.reverse_reverse, List.drop_append_of_le_length (by omega), List.drop_of_length_le (by omega), List.nil_append, List.take_append_drop]
noncomputable def FrontOf (h : Int) (n : Nat) (x : Int) : Prop := 2 ≤ x ∧ x ≤ n ∧ (∀ j : Int, 2 ≤ j → j < x → (toldSpec h n).getD ((n : Int) + 1 - j).toNat 0 = 0) ∧ (x = n ∨ (toldSpec h n).getD ((n : Int) + 1 - x).toNat 0 ≠ 0)
theorem ord_flip {h p x : Int} (hp : 2 ≤ p) (hx : FrontOf (h + 1) p.toNat x) : flip x.toNat (ordSpec h p) = ordSpec (h + 1) p := by
  obtain ⟨h1, h2, h3, h4⟩ := hx
  unfold ordSpec flip
  refine zaks (by rw [rangeKs_length]) (by omega) (by omega) (fun j ha hb => ?_) ?_
  · have := h3 (j : Int) (by omega) (by omega)
    rw [show ((p.toNat : Int) + 1 - (j : Int)).toNat = p.toNat + 1 - j by omega, told_at ha (by omega)] at this
    exact this
  · rcases h4 with h4 | h4
    · left; omega
    · right
      rw [show ((p.toNat : Int) + 1 - x).toNat = p.toNat + 1 - x.toNat by omega, told_at (by omega) (by omega)] at h4
      exact h4
theorem ord_back {h p x : Int} (hp : 2 ≤ p) (hx : FrontOf (h + 1) p.toNat x) : flip x.toNat (ordSpec (h + 1) p) = ordSpec h p := by
  rw [← ord_flip hp hx, flip_flip]
  obtain ⟨h1, h2, _⟩ := hx
  rw [ordSpec_length]
  omega
end Mine
end

end

section
open PySem PySem.W PySem.Calls PyProof.Rows PyProof.V PySem.Spec
open PySem.Sem (wp)
set_option Elab.async false
set_option maxRecDepth 100000
set_option maxHeartbeats 8000000
set_option linter.all false
namespace Mine

noncomputable def holders : List String := ["bytearray.__contains__", "bytearray.__mod__", "bytearray.__rmod__", "_struct.pack_into.held", "bytearray.find.held"] ++ Builtin.Bytes.decodersThatHold
noncomputable def holdsB : Code → Bool
  | .builtin id _ => holders.contains id
  | _ => false
noncomputable def CleanL (l : List (Code × Pos)) : Prop := ∀ q ∈ l, holdsB q.1 = false
noncomputable def Clean (Γ : PySem.Ctx) : Prop := holdsB Γ.code = false ∧ CleanL Γ.below

noncomputable def wpR {α : Type} (M : Model) (A : Around) (t : Sem α) (Q : α → Shared → Prop) (s : Shared) : Prop :=
  ∀ Γ p, Γ.In A → Clean Γ → wp M Γ t (fun a _ s' => Q a s') (fun _ _ _ => False) p s
noncomputable def codeR (M : Model) (A : Around) (c : Code) (R : Result → Shared → Prop) (s : Shared) : Prop :=
  ∀ Γ p, Γ.code = c → Γ.Below A → CleanL Γ.below → wpCode M Γ R p s

section
variable {α β : Type} {M : Model} {A : Around} {s : Shared}
theorem wpR_of {t : Sem α} {Q : α → Shared → Prop} (h : wpAny M A t Q (fun _ _ => False) s) : wpR M A t Q s := fun Γ p hΓ _ => h Γ p hΓ
theorem wpR_pure {a : α} {Q : α → Shared → Prop} (h : Q a s) : wpR M A (pure a) Q s := fun _ _ _ _ => h
theorem wpR_mono {t : Sem α} {Q Q' : α → Shared → Prop} (h : wpR M A t Q s) (hQ : ∀ a s, Q a s → Q' a s) : wpR M A t Q' s :=
  fun Γ p hΓ hc => Sem.wp_mono M Γ t (fun a _ s => hQ a s) (fun _ _ _ x => x) p s (h Γ p hΓ hc)
theorem wpR_bind {m : Sem α} {f : α → Sem β} {Q : β → Shared → Prop} (h : wpR M A m (fun a s' => wpR M A (f a) Q s') s) : wpR M A (m >>= f) Q s := fun Γ p hΓ hc => by
  rw [Sem.wp_bind']
  exact Sem.wp_mono M Γ m (fun a p' s' h' => h' Γ p' hΓ hc) (fun _ _ _ h' => h') p s (h Γ p hΓ hc)
theorem wpR_step {m : Sem α} {f : α → Sem β} {Q : β → Shared → Prop} (h : wpAny M A m (fun a s' => wpR M A (f a) Q s') (fun _ _ => False) s) : wpR M A (m >>= f) Q s := wpR_bind (wpR_of h)
theorem wpR_map {m : Sem α} {f : α → β} {Q : β → Shared → Prop} (h : wpR M A m (fun a s' => Q (f a) s') s) : wpR M A (f <$> m) Q s := fun Γ p hΓ hc => by rw [Sem.wp_map]; exact h Γ p hΓ hc
theorem wpR_onRaise {m : Sem α} {k : Value → Sem Unit} {Q : α → Shared → Prop} (h : wpR M A m Q s) : wpR M A (m.onRaise k) Q s := fun Γ p hΓ hc => by
  rw [Sem.wp_onRaise]
  exact Sem.wp_mono M Γ m (fun _ _ _ h' => h') (fun _ _ _ h' => h'.elim) p s (h Γ p hΓ hc)
theorem wpR_holding {vs : List Value} {m : Sem α} {Q : α → Shared → Prop} (h : wpR M A m Q s) : wpR M A (holding vs m) Q s :=
  fun Γ p hΓ hc => by rw [Sem.wp_holding]; exact h Γ p hΓ hc
theorem wpR_standAt {pos : Pos} {Q : Unit → Shared → Prop} (h : Q () s) : wpR M A (standAt pos) Q s := fun _ _ _ _ => h
theorem wpR_point {Q : Unit → Shared → Prop} (h : Q () s) : wpR M A point Q s := fun _ _ _ _ => h
theorem wpR_operate {vs : List Value} {m : Sem Value} {Q : Value → Shared → Prop} (h : wpR M A m Q s) : wpR M A (operate vs m) Q s :=
  fun Γ p hΓ hc => by rw [Sem.wp_operate]; exact h Γ p hΓ hc
theorem wpR_of_eq {t : Sem α} {a : α} {Q : α → Shared → Prop} (e : t = pure a) (h : Q a s) : wpR M A t Q s := e ▸ wpR_pure h
theorem wpR_ite_true {c : Prop} [Decidable c] {a b : Sem α} {Q : α → Shared → Prop} (hc : c) (h : wpR M A a Q s) : wpR M A (if c then a else b) Q s := by rw [if_pos hc]; exact h
theorem wpR_ite_false {c : Prop} [Decidable c] {a b : Sem α} {Q : α → Shared → Prop} (hc : ¬ c) (h : wpR M A b Q s) : wpR M A (if c then a else b) Q s := by rw [if_neg hc]; exact h

theorem codeR_of {c : Code} {R : Result → Shared → Prop} (h : codeAny M A c R s) : codeR M A c R s := fun Γ p hc hΓ _ => h Γ p hc hΓ
theorem codeR_mono {c : Code} {R R' : Result → Shared → Prop} (h : codeR M A c R s) (hR : ∀ r s, R r s → R' r s) : codeR M A c R' s :=
  fun Γ p hc hΓ hl => wpCode_mono hR (h Γ p hc hΓ hl)
theorem clean_enter {Γ : PySem.Ctx} {c : Code} {hd : Option Value} {p : Pos} (h : Clean Γ) : CleanL (Γ.enter c hd p).below := by
  intro q hq
  rcases List.mem_cons.mp hq with rfl | hq
  · exact h.1
  · exact h.2 q hq
theorem wpR_run {c : Code} {h : Option Value} {Q : Flow → Shared → Prop}
    (hc : codeR M (A.mark h) c (fun r s' => match r with | .ok f => Q f s' | .error _ => False) s) (hnb : h ≠ some byPass := by intro x; cases x) : wpR M A (run c h) Q s :=
  fun Γ p hΓ hcl => by
    rw [Sem.wp_run]
    exact wpCode_mono (fun r s' x => by cases r <;> exact x) (hc _ p rfl (hΓ.enter c h p hnb) (clean_enter hcl))
theorem wpR_runOwn {c : Code} {env : Env} {Q : Flow → Shared → Prop}
    (hc : codeR M A c (fun r s' => match r with | .ok f => Q f s' | .error _ => False) s) : wpR M A (runOwn c env) Q s := by
  unfold runOwn
  refine wpR_onRaise (wpR_run ?_)
  have e : A.mark none = A := rfl
  rw [e]
  exact hc
theorem wpR_runValue {c : Code} {Q : Value → Shared → Prop} (hc : codeR M A c (fun r s' => match r with | .ok (.ret v) => Q v s' | _ => False) s) : wpR M A (runValue c) Q s := fun Γ p hΓ hcl => by
  rw [Sem.wp_runValue]
  exact wpCode_mono (fun r s' x => by cases r with | error e => exact x | ok f => cases f <;> exact x) (hc _ p rfl (hΓ.enter c none p (by intro x; cases x)) (clean_enter hcl))
theorem wpR_call {f : Value} {pos : List Value} {kw : List (Str × Value)} {Q : Value → Shared → Prop}
    (hc : codeR M A (.call f ⟨pos, kw⟩) (fun r s' => match r with | .ok (.ret v) => Q v s' | _ => False) s) : wpR M A (call f pos kw) Q s := wpR_runValue hc
theorem codeR_of_tree {c : Code} {R : Result → Shared → Prop} (hcl : holdsB c = false)
    (h : wpR M (A.under c) (M.den c) (fun fin s' => match fin with | .done f => R (.ok f) s' | .again c' => c'.quiet = true ∧ codeR M A c' R s') s) : codeR M A c R s := fun Γ p hc hΓ hl => by
  rw [wpCode_iff_wp, hc]
  refine Sem.wp_mono M Γ _ (fun fin p' s' h' => ?_) (fun _ _ _ h' => h'.elim) p s (h Γ p (hc ▸ hΓ.in) ⟨hc ▸ hcl, hl⟩)
  cases fin with
  | done f => exact h'
  | again c' => exact ⟨h'.1, h'.2 (Γ.goto c') p' rfl (hΓ.goto c') hl⟩
theorem codeR_loop {c : Code} {R : Result → Shared → Prop} (hcl : holdsB c = false) (hq : c.quiet = true) (I : Nat → Shared → Prop)
    (turn : ∀ n s, I n s → wpR M (A.under c) (M.den c) (fun fin s' => match fin with | .done f => R (.ok f) s' | .again c' => (c' = c ∧ ∃ m, m < n ∧ I m s') ∨ (c'.quiet = true ∧ codeR M A c' R s')) s)
    (n : Nat) (h : I n s) : codeR M A c R s := by
  induction n using Nat.strongRecOn generalizing s with
  | ind n ih =>
    refine codeR_of_tree hcl (wpR_mono (turn n s h) fun fin s' hf => ?_)
    cases fin with
    | done f => exact hf
    | again c' =>
      rcases hf with ⟨rfl, m, hm, hI⟩ | hf
      · exact ⟨hq, ih m hm hI⟩
      · exact hf
end

section
variable {prog : Program} {w : World} {A : Around} {s : Shared} {env : Env}
theorem codeR_builtin {id : String} {args : Args} {b : Builtin} {R : Result → Shared → Prop} (hb : entryFor table id = some b) (hcl : holders.contains id = false)
    (h : wpR (model prog w) (A.under (.builtin id args)) (b args) (fun fin s' => match fin with | .done f => R (.ok f) s' | .again c' => c'.quiet = true ∧ codeR (model prog w) A c' R s') s) :
    codeR (model prog w) A (.builtin id args) R s := by
  refine codeR_of_tree hcl ?_
  show wpR _ _ (match entryFor table id with | some b => b args | none => unsupported ((withoutEnding? id "#data").getD id)) _ s
  rw [hb]
  exact h
theorem codeR_func {body : List Stmt} {R : Result → Shared → Prop} (h : wpR (model prog w) (A.deeper env) (execs body env) (fun f s' => R (.ok (.ret (match f with | .ret v => v | _ => .none))) s') s) :
    codeR (model prog w) A (.func body env) R s := by
  refine codeR_of_tree rfl ?_
  show wpR _ (A.deeper env) (do point; match ← (execs body env).onRaise (leaving env) with | .ret v => ret v | _ => ret .none) _ s
  refine wpR_bind (wpR_point (wpR_bind (wpR_onRaise (wpR_mono h fun f s' h' => ?_))))
  cases f <;> exact wpR_pure h'
theorem codeR_block {stmts : List Stmt} {R : Result → Shared → Prop} (h : wpR (model prog w) A (execs stmts env) (fun f s' => R (.ok f) s') s) : codeR (model prog w) A (.block stmts env) R s := by
  refine codeR_of_tree rfl ?_
  show wpR _ _ (do return Fin.done (← (execs stmts env).onRaise (fun x => do noteFrame x env; theTreesLotGoes x))) _ s
  exact wpR_bind (wpR_onRaise (wpR_mono h fun f s' h' => wpR_pure h'))
theorem codeR_call_function {a : Addr} {args : Args} {o : Obj} {fd : FuncData} {body : List Stmt} {R : Result → Shared → Prop} (hroom : A.depth < recursionLimit) (ho : s.heap.get? a = some o)
    (hd' : o.data = .func fd) (hco : fd.scope.isCoroutine = false) (hgen : fd.scope.isGenerator = false) (hbody : fd.body = .stmts body) (hcd : s.heap.CodeRec fd.code fd.qualname)
    (h : wpAny (model prog w) A.in1 (bindArgs fd args) (fun binds s₁ =>
      wpAny (model prog w) A.in1 (newFunctionEnv fd.scope fd.globals fd.closure binds (fd.qualname ++ ".<locals>.") (some a) fd.code none fd.builtins)
        (fun env s₂ => s₂.heap.NoLimit ∧ codeR (model prog w) A (.func body env) R s₂) (fun _ _ => False) s₁) (fun _ _ => False) s) :
    codeR (model prog w) A (.call (.ref a) args) R s := by
  refine codeR_of_tree rfl ?_
  show wpR _ A.in1 (callAny (.ref a) args) _ s
  refine wpR_of ?_
  simp only [callAny]
  refine wpAny_bind (wpAny_load ho ?_)
  obtain ⟨c, oc, vs, tq, hc, hoc, hdc, hq⟩ := hcd
  simp only [hd', callFunction, hco, hgen, hbody, hc]
  rw [hc] at h
  refine wpAny_bind (m := field (.ref c) 1) (wpAny_field hoc hdc hq (wpAny_bind (wpAny_pure ?_)))
  exact wpAny_bind (wpAny_mono h (fun binds s₁ h₁ => wpAny_bind (wpAny_mono h₁ (fun env s₂ h₂ => wpAny_bind (wpAny_enterFrame h₂.1 hroom
    (wpAny_pure (And.intro rfl h₂.2)))) fun _ _ h' => h')) fun _ _ h' => h')
theorem codeR_call_def {R : Result → Shared → Prop} {a : Addr} {o : Obj} {fd : FuncData} {body : List Stmt} {args : Args} {binds : List (Str × Value)}
    (hroom : A.depth < recursionLimit) (ho : s.heap.get? a = some o) (hdata : o.data = .func fd) (hlim : s.heap.NoLimit) (hcd : s.heap.CodeRec fd.code fd.qualname)
    (hbody : fd.body = .stmts body) (hbind : BindsTo s fd args binds) (hcell : ∀ x ∈ fd.scope.names, x.2 ≠ .cell) (hloc : ∀ x ∈ binds, fd.scope.names.lookup x.1 = some .local)
    (h : ∀ h₀, h₀.Ns s.heap.objs.size (fun x => binds.reverse.lookup x) → (∀ b o, s.heap.get? b = some o → h₀.get? b = some o) →
      wpR (model prog w) (A.deeper (callEnv fd s.heap.objs.size a)) (execs body (callEnv fd s.heap.objs.size a)) (fun f s' => R (.ok (.ret (match f with | .ret v => v | _ => .none))) s') { s with heap := h₀, toks := s.toks + binds.length })
    (hco : fd.scope.isCoroutine = false := by rfl) (hgen : fd.scope.isGenerator = false := by rfl) (hk : fd.scope.kind = .function := by rfl) : codeR (model prog w) A (.call (.ref a) args) R s := by
  refine codeR_call_function hroom ho hdata hco hgen hbody hcd (hbind _ _ _ _ ?_)
  refine wpAny_newFunctionEnv hcell hloc (fun h₀ hns₀ hsb₀ => ⟨hlim.fresh _ hsb₀, codeR_func (h h₀ hns₀ fun b o e => ?_)⟩) hk
  exact hsb₀.extBut b o (Nat.ne_of_lt (Heap.lt_size e)) (Heap.get?_push_of_some _ e)

theorem codeR_def {env : Env} {outer : List Env} {A₀ : Around} {base h₀ : Heap} {L : Addr} {m : Str → Option Value} {news : List (Addr × Obj)} {K : Frag} {p : Program} {loose : List Str} {mean : ExcName → Option Value} {mg mb : Str → Option Value} {R : Result → Shared → Prop} {name qual : Str} {params : Arguments} {body : List Stmt} {scope : Scope} {dV kV doc pm cdv ct oc : Value} {an od : Option Addr} {osl : Array (Option Value)} {f : Addr} {args : Args} {binds : List (Str × Value)}
    (B : Below A₀ base outer h₀) (F : Fr h₀ L s.heap m) (X₀ : K.In h₀) (N : News h₀ L s.heap news) (T : Top p loose mean mg mb h₀) (hA : A.frames = some (env :: outer)) (hf : env.frame = some L) (hke : env.scope.kind = .function)
    (ho : K.lookup f = some ⟨oc, od, .func (fnOf name qual params body scope dV kV doc pm an cdv ct), osl⟩) (hcd : codeIn K cdv qual = true) (hroom : A.depth < recursionLimit)
    (hbind : BindsTo s (fnOf name qual params body scope dV kV doc pm an cdv ct) args binds) (hloc : ∀ y ∈ binds, scope.names.lookup y.1 = some .local)
    (h : ∀ g L' h₁, Fr h₀ L g m → Fr g L' h₁ (fun y => binds.reverse.lookup y) → News g L' h₁ news → Below A base (env :: outer) g → K.In g → Top p loose mean mg mb g →
      wpR (model prog w) (A.deeper (envOf qual scope L' f cdv)) (execs body (envOf qual scope L' f cdv)) (fun fl s' => LeaveK h₀ L m g R (match fl with | .ret v => v | _ => .none) s') { s with heap := h₁, toks := s.toks + binds.length })
    (hco : scope.isCoroutine = false) (hgen : scope.isGenerator = false) (hk : scope.kind = .function) (hcell : ∀ x ∈ scope.names, x.2 ≠ .cell) : codeR (model prog w) A (.call (.ref f) args) R s := by
  obtain ⟨FG, BG, st, lv⟩ := groundX (R := R) B F N hA hf hke
  refine codeR_call_def (fd := fnOf name qual params body scope dV kV doc pm an cdv ct) (body := body) (binds := binds) hroom ((X₀.keeps F.keep) _ _ ho) rfl (T.nolimit.keeps F.keep) (codeRec_of (X₀.keeps F.keep) hcd) rfl hbind hcell hloc (fun h₁ hns hk₁ => ?_) hco hgen hk
  exact wpR_mono (h _ s.heap.objs.size h₁ FG ⟨hns, fun b o e => hk₁ b o (of_hideAll _ e), Nat.le_of_eq (hideAll_size _ _)⟩
    (fun p hp => ⟨hk₁ _ _ (N p hp).1, Nat.ne_of_lt (Heap.lt_size (N p hp).1), hideAll_none _ (List.mem_map_of_mem hp)⟩) BG (X₀.keeps st) (T.keeps st)) fun fl s' hl => lv _ _ hl

theorem wpR_execs_cons {st : Stmt} {rest : List Stmt} {Q : Flow → Shared → Prop} (h : wpR (model prog w) A (exec st env) (fun f s' => match f with | .next => wpR (model prog w) A (execs rest env) Q s' | f => Q f s') s) : wpR (model prog w) A (execs (st :: rest) env) Q s := by
  rw [execs_cons]
  refine wpR_bind (wpR_mono h fun f s' h' => ?_)
  cases f <;> first | exact h' | exact wpR_pure h'
theorem wpR_execs_step {st : Stmt} {rest : List Stmt} {Q : Flow → Shared → Prop} (h : wpAny (model prog w) A (exec st env) (fun f s' => match f with | .next => wpR (model prog w) A (execs rest env) Q s' | f => Q f s') (fun _ _ => False) s) : wpR (model prog w) A (execs (st :: rest) env) Q s :=
  wpR_execs_cons (wpR_of h)
theorem wpR_If {test : PySem.Expr} {body orelse : List Stmt} {pos : Pos} {Q : Flow → Shared → Prop} (h : wpAny (model prog w) A (isTrue test env (eval test env)) (fun b s' => if b then wpR (model prog w) A (execs body env) Q s' else wpR (model prog w) A (execs orelse env) Q s') (fun _ _ => False) s) :
    wpR (model prog w) A (exec (.If test body orelse pos) env) Q s := by
  rw [exec_If]
  refine wpR_bind (wpR_standAt (wpR_step (wpAny_mono h (fun b s' h' => ?_) fun _ _ x => x)))
  cases b
  · simpa using h'
  · simpa using h'
end
end Mine
end

section
open PySem PySem.W PySem.Calls PyProof.Rows PyProof.V PySem.Spec
open PySem.Sem (wp)
set_option Elab.async false
set_option maxRecDepth 1000000
set_option maxHeartbeats 8000000
set_option linter.all false
namespace Mine
theorem ba_mro : mroOf (.type "bytearray") = pure [.type "bytearray", .type "object"] := by rw [mroOf_type]; kernel_rfl
theorem ba_lookup_new : typeLookup (.type "bytearray") "__new__" = pure (some (.builtin "bytearray.__new__")) := by rw [typeLookup_type, builtinLookup_eq_fast]; kernel_rfl
theorem ba_slot_init : Slot "bytearray" "__init__" "bytearray.__init__" :=
  .of (owner := "bytearray") (n := "__init__") (by rw [typeLookup_type, builtinLookup_eq_fast]; kernel_rfl) (by decide +kernel) (by decide +kernel) (by decide +kernel)
    (by first | exact .inl (by decide +kernel) | exact .inr (by decide +kernel)) (by rw [isSubtype_type]; kernel_rfl)
theorem ba_called : TypeCalled "bytearray" "bytearray.__new__" "bytearray.__init__" :=
  ⟨by decide +kernel, by decide +kernel, ⟨_, _, ba_mro⟩, madeBy_type ba_mro ba_lookup_new (by decide +kernel), by decide +kernel, by rw [isSubtype_type]; kernel_rfl, ba_slot_init⟩
theorem ba_typeCall (a : Value) : checkTypeCall "bytearray" ⟨[a], []⟩ = pure () := by kernel_rfl
theorem ba_newCall (a : Value) : checkBuiltinCall "bytearray.__new__" ⟨[.type "bytearray", a], []⟩ = pure () := by kernel_rfl
theorem ba_plain : plainId "bytearray.__new__" = true := by decide +kernel
theorem ba_entry : entryFor table "bytearray.__new__" = some Builtin.«list.__new__» := entryFor_alias (id' := "list.__new__") (by rw [fastTable_eq_tree]; kernel_rfl) (by first | rfl | decide +kernel) (by decide +kernel) (by rw [fastTable_eq_tree]; kernel_rfl)
theorem ba_entry_init : entryFor table "bytearray.__init__" = some Builtin.«bytearray.__init__» := by first | exact entryFor_of_fast (by kernel_rfl) | exact entryFor_of_tree (by kernel_rfl)
theorem ba_owner : ("bytearray.__new__".splitOn ".__new__").headD "" = "bytearray" := by rw [split_bytearray]; rfl
theorem ba_sub : isSubtype (.type "bytearray") (.type "bytearray") = pure true := by rw [isSubtype_type]; kernel_rfl
theorem ba_release : typeLookup (.type "bytearray") "__release_buffer__" = pure (some (.builtin "bytearray.__release_buffer__")) := by rw [typeLookup_type, builtinLookup_eq_fast]; kernel_rfl
theorem ba_bind (v : Value) : Builtin.Bytes.bindOptional "bytearray.__init__" "bytearray" ["source", "encoding", "errors"] [v] [] = pure [some v, none, none] := by kernel_rfl
theorem ba_int_index : typeLookup (.type "int") "__index__" = pure (some (.builtin "int.__index__")) := by rw [typeLookup_type, builtinLookup_eq_fast]; kernel_rfl
section
variable {prog : Program} {w : World} {A : Around} {E : Value → Shared → Prop} {s : Shared}
theorem ba_code_new (a : Value) {Q₁ : Value → Shared → Prop}
    (h : Q₁ (.ref s.heap.objs.size) { s with heap := s.heap.push { cls := .type "bytearray", data := .bytearray #[] } }) :
    codeAny (model prog w) A (.call (.builtin "bytearray.__new__") ⟨[.type "bytearray", a], []⟩) (wants Q₁ E) s := by
  refine codeAny_of_tree ?_
  show wpAny _ A.in1 (do checkBuiltinCall "bytearray.__new__" ⟨[.type "bytearray", a], []⟩; again (.builtin "bytearray.__new__" ⟨[.type "bytearray", a], []⟩)) _ _ s
  refine wpAny_bind (wpAny_of_eq (ba_newCall a) (wpAny_pure ⟨plainId_quiet ba_plain _, codeAny_builtin_stack ba_entry rfl fun p st => ?_⟩))
  rw [Around.under_plainId ba_plain _]
  have hsub := ba_sub
  have hown := ba_owner
  obtain ⟨hp, g, d, tk, os⟩ := s
  simp only [hown]
  wp_walk
  exact h

theorem no_held {id : String} (h : holders.contains id = false) : id ≠ "bytearray.__contains__" ∧ id ≠ "bytearray.__mod__" ∧ id ≠ "bytearray.__rmod__" ∧ id ≠ "_struct.pack_into.held" ∧ id ≠ "bytearray.find.held" ∧ Builtin.Bytes.decodersThatHold.contains id = false := by
  simp only [holders, List.contains_append, Bool.or_eq_false_iff, List.contains_cons, beq_eq_false_iff_ne] at h
  exact ⟨h.1.1, h.1.2.1, h.1.2.2.1, h.1.2.2.2.1, h.1.2.2.2.2.1, h.2⟩
theorem exported_any (self : Value) : ∃ f : Code × Pos → Bool, Builtin.Bytes.exported self = (do return (← stack).any f) ∧ ∀ q, holdsB q.1 = false → f q = false := by
  refine ⟨_, rfl, fun q h => ?_⟩
  obtain ⟨c, p⟩ := q
  cases c
  case builtin id as =>
    obtain ⟨h1, h2, h3, h4, h5, h6⟩ := no_held h
    obtain ⟨ps, kw⟩ := as
    delta Builtin.Bytes.exported.match_1
    refine (dif_neg h1).trans ((dif_neg h2).trans ((dif_neg h3).trans ((dif_neg h4).trans ((dif_neg h5).trans ?_))))
    cases ps with
    | nil => rfl
    | cons v tl => exact (congrArg (Builtin.Bytes.sameRef v self && ·) h6).trans (Bool.and_false _)
  all_goals rfl
theorem wpR_exported {self : Value} {Q : Bool → Shared → Prop} (h : Q false s) : wpR (model prog w) A (Builtin.Bytes.exported self) Q s := fun Γ p hΓ hc => by
  obtain ⟨f, e1, e2⟩ := exported_any self
  rw [e1]
  show Q ((((Γ.code, p) :: Γ.below)).any f) s
  have e : (((Γ.code, p) :: Γ.below)).any f = false := by
    rw [List.any_eq_false]
    intro q hq
    rw [e2]
    · decide
    · rcases List.mem_cons.mp hq with rfl | hq
      · exact hc.1
      · exact hc.2 q hq
  rw [e]
  exact h
theorem write_ba {a : Addr} {b : Array UInt8} {f : Array UInt8 → Array UInt8} {Q : Unit → Shared → Prop} (hb : s.heap.get? a = some { cls := .type "bytearray", data := .bytearray b }) (hz : (f b).size ≤ sizeLine)
    (hQ : Q () { s with heap := s.heap.update a (Obj.mapBytearray f) }) : wpAny (model prog w) A (Builtin.Bytes.write (.ref a) f) Q E s := by
  show wpAny _ _ (updateBytearray a f) _ _ _
  unfold updateBytearray
  refine wpAny_bind (wpAny_load hb ?_)
  show wpAny _ _ (update a (Obj.mapBytearray f) >>= fun _ => lookBehind a) _ _ _
  refine wpAny_bind (wpAny_update hb ?_)
  refine wpAny_lookBehind (o := { cls := .type "bytearray", data := .bytearray (f b) }) (Heap.get?_update_self (Obj.mapBytearray f) hb rfl) ?_ hQ
  show (if (f b).size > sizeLine then some "bytearray:memory" else none) = none
  rw [if_neg (Nat.not_lt.mpr hz)]
theorem ba_init {a : Addr} {n : Int} {t : Tok} {R : Result → Shared → Prop} (ho : s.heap.get? a = some { cls := .type "bytearray", data := .bytearray #[] }) (h0 : 0 ≤ n) (h1 : n < 1000)
    (h : ∀ h', (∀ b, b ≠ a → h'.get? b = s.heap.get? b) → h'.objs.size = s.heap.objs.size → h'.get? a = some { cls := .type "bytearray", data := .bytearray (Array.replicate n.toNat 0) } → R (.ok (.ret .none)) { s with heap := h' }) :
    codeR (model prog w) A (.builtin "bytearray.__init__" ⟨[.ref a, .int n t], []⟩) R s := by
  refine codeR_builtin ba_entry_init (by decide) ?_
  have hT : s.TypeIs (.ref a) "bytearray" := ⟨_, ho, rfl⟩
  unfold Builtin.«bytearray.__init__»
  refine wpR_step ?_
  unfold Builtin.Bytes.ownRelease Builtin.Bytes.slotIsOwn
  refine wpAny_bind (wpAny_bind (wpAny_specialOf hT ba_release ?_))
  dsimp only
  refine bm_if_false (by decide +kernel) ?_
  have hdr : ("bytearray.__release_buffer__".dropRight ("__release_buffer__".length + 1)) = "bytearray" := by decide +kernel
  rw [hdr]
  refine wpAny_mono (wpAny_isInstance (E := fun _ _ => False) (Q := fun b s' => b = true ∧ s = s') hT ba_sub ⟨rfl, rfl⟩) (fun b s' hb => ?_) (fun _ _ x => x)
  obtain ⟨rfl, rfl⟩ := hb
  refine wpAny_pure ?_
  refine wpR_ite_false (by decide) ?_
  refine wpR_step ?_
  refine wpAny_of_eq (ba_bind _) ?_
  dsimp only
  refine wpR_step (wpAny_of_eq (a := ()) rfl ?_)
  refine wpR_step (wpAny_of_eq (a := ()) rfl ?_)
  refine wpR_bind (wpR_bind (wpR_exported ?_))
  show wpR _ _ (Builtin.Bytes.exportsOf (Value.ref a) >>= _) _ _
  unfold Builtin.Bytes.exportsOf
  refine wpR_step (wpAny_bind (wpAny_load ho ?_))
  dsimp only
  refine wpAny_pure (wpR_pure ?_)
  refine wpR_ite_false (by decide) ?_
  refine wpR_of ?_
  refine wpAny_bind (write_ba ho (by decide) ?_)
  have ho₁ : (s.heap.update a (Obj.mapBytearray fun _ => #[])).get? a = some { cls := .type "bytearray", data := .bytearray #[] } := Heap.get?_update_self (Obj.mapBytearray fun _ => #[]) ho rfl
  refine wpAny_bind (wpAny_of_eq (a := none) rfl ?_)
  refine bm_if_false rfl ?_
  refine wpAny_bind ?_
  refine bm_if_false rfl ?_
  refine bm_if_false rfl ?_
  refine wpAny_pure ?_
  refine wpAny_bind (wpAny_specialOf (T := "int") rfl ba_int_index ?_)
  refine bm_if_true rfl ?_
  refine wpAny_bind (wpAny_attempt (wpAny_of_eq (rfl : asIndex (.int n t) = pure n) ?_))
  dsimp only
  have hf : Builtin.Bytes.fitsIndex n = true := by
    unfold Builtin.Bytes.fitsIndex
    simp only [Bool.and_eq_true, decide_eq_true_eq]
    constructor <;> omega
  refine bm_if_false (by rw [hf]; rfl) ?_
  rw [if_neg (by omega)]
  refine bm_if_false (beq_eq_false_iff_ne.mpr (by omega)) ?_
  have htl : Builtin.Bytes.tooLong n.toNat = false := by
    unfold Builtin.Bytes.tooLong
    have : n.toNat < 1000 := by omega
    exact decide_eq_false (Nat.not_lt.mpr (Nat.le_trans (Nat.le_of_lt this) (by decide)))
  refine bm_if_false htl ?_
  refine wpAny_bind (wpAny_rule ?_)
  by_cases hn : n > 0
  · rw [if_pos hn]
    have hsz : (Array.replicate n.toNat (0 : UInt8)).size ≤ sizeLine := by
      rw [Array.size_replicate]
      have : n.toNat < 1000 := by omega
      exact Nat.le_trans (Nat.le_of_lt this) (by decide)
    refine wpAny_bind (write_ba ho₁ hsz ?_)
    refine wpAny_pure (h _ (fun b hb => ?_) ?_ ?_)
    · rw [Heap.get?_update_other _ _ (Ne.symm hb), Heap.get?_update_other _ _ (Ne.symm hb)]
    · simp [Heap.update]
    · exact Heap.get?_update_self (Obj.mapBytearray fun _ => Array.replicate n.toNat 0) ho₁ rfl
  · rw [if_neg hn]
    refine wpAny_pure (h _ (fun b hb => ?_) ?_ ?_)
    · rw [Heap.get?_update_other _ _ (Ne.symm hb)]
    · simp [Heap.update]
    · rw [ho₁, show n = 0 by omega]
      rfl
end
end Mine
end

section
open PySem PySem.W PySem.Calls PyProof.Rows PyProof.V PySem.Spec
open PySem.Sem (wp)
set_option Elab.async false
set_option maxRecDepth 1000000
set_option maxHeartbeats 8000000
set_option linter.all false
namespace Mine
section
variable {prog : Program} {w : World} {A : Around} {E : Value → Shared → Prop} {s : Shared}
theorem codeR_call_builtin {id : String} {args : Args} {R : Result → Shared → Prop} (hp : plainId id = true)
    (h : wpAny (model prog w) A.in1 (checkBuiltinCall id args) (fun _ s₁ => codeR (model prog w) A (.builtin id args) R s₁) (fun _ _ => False) s) :
    codeR (model prog w) A (.call (.builtin id) args) R s := by
  refine codeR_of_tree rfl ?_
  show wpR _ A.in1 (do checkBuiltinCall id args; again (.builtin id args)) _ s
  exact wpR_step (wpAny_mono h (fun _ s₁ h₁ => wpR_pure ⟨plainId_quiet hp _, h₁⟩) fun _ _ x => x)
theorem ba_args (a : Addr) (n : Int) (t : Tok) : argsOk "bytearray.__init__" ⟨[.ref a, .int n t], []⟩ := by unfold argsOk; kernel_rfl
theorem ba_call {n : Int} {t : Tok} {Q : Value → Shared → Prop} (h0 : 0 ≤ n) (h1 : n < 1000)
    (h : ∀ h', (∀ b o, s.heap.get? b = some o → h'.get? b = some o) → h'.get? s.heap.objs.size = some { cls := .type "bytearray", data := .bytearray (Array.replicate n.toNat 0) } → Q (.ref s.heap.objs.size) { s with heap := h' }) :
    wpR (model prog w) A (call (.type "bytearray") [.int n t]) Q s := by
  obtain ⟨c, tl, hmro⟩ := ba_called.mro
  have hmade := ba_called.made
  have hsub := ba_called.sub
  refine wpR_call (codeR_of_tree rfl ?_)
  show wpR _ _ (callAny (.type "bytearray") _) _ _
  refine wpR_pure ⟨Code.quiet_builtin _ (by decide +kernel), codeR_builtin F.entry_type_call (by decide) ?_⟩
  rw [Around.under_plain (weight_type_call_type "bytearray" [.int n t] []) rfl]
  have h1' := ba_called.notType
  have h2' := ba_called.canCreate
  unfold Builtin.«type.__call__»
  dsimp only
  refine wpR_ite_false (by rw [h1']; decide) ?_
  refine wpR_ite_false (by rw [h2']; decide) ?_
  refine wpR_step (wpAny_of_eq (ba_typeCall _) ?_)
  refine wpR_step (wpAny_of_eq hmro ?_)
  refine wpR_ite_false (by simp) ?_
  refine wpR_step (wpAny_of_eq hmade ?_)
  dsimp only
  refine wpR_step (wpAny_pure ?_)
  refine wpR_step (wpAny_holding (wpAny_call (codeAny_mono (ba_code_new (Q₁ := fun v s' => v = .ref s.heap.objs.size ∧ { s with heap := s.heap.push { cls := .type "bytearray", data := .bytearray #[] } } = s') (E := fun _ _ => False) _ ⟨rfl, rfl⟩) fun r s₁ hr => ?_)))
  cases r with
  | error e => exact hr
  | ok fl =>
    cases fl with
    | ret obj =>
      obtain ⟨rfl, rfl⟩ := hr
      have ho : (s.heap.push { cls := .type "bytearray", data := .bytearray #[] }).get? s.heap.objs.size = some { cls := .type "bytearray", data := .bytearray #[] } := Heap.get?_push_size _ rfl
      have hT : ({ s with heap := s.heap.push { cls := .type "bytearray", data := .bytearray #[] } } : Shared).TypeIs (.ref s.heap.objs.size) "bytearray" := ⟨_, ho, rfl⟩
      refine wpR_step (wpAny_isInstance hT ba_sub ?_)
      refine wpR_ite_false (by decide) ?_
      refine wpR_bind (wpR_holding ?_)
      unfold callSpecial?
      refine wpR_step (wpAny_specialOf hT ba_slot_init.lookup ?_)
      dsimp only
      refine wpR_holding ?_
      refine wpR_step (wpAny_of_eq (ba_slot_init.bind _) ?_)
      dsimp only
      refine wpR_bind (wpR_call ?_)
      refine codeR_call_builtin (by decide +kernel) (ba_slot_init.check _ _ _ _ _ _ _ _ hT ?_ ?_)
      · exact ba_args _ _ _
      · refine codeR_mono (ba_init (R := fun r s' => match r with | .ok (.ret v) => v = .none ∧ Q (.ref s.heap.objs.size) s' | _ => False) ho h0 h1 fun h' hk hsz hg => ⟨rfl, h h' (fun b o e => ?_) hg⟩) fun r s' hr => ?_
        · rw [hk b (Nat.ne_of_lt (Heap.lt_size e))]
          exact Heap.get?_push_of_some _ e
        · cases r with
          | error e => exact hr
          | ok fl =>
            cases fl with
            | ret v =>
              obtain ⟨rfl, hq⟩ := hr
              refine wpR_pure ?_
              dsimp only
              refine wpR_ite_false (by decide) ?_
              exact wpR_pure hq
            | _ => exact hr
    | _ => exact hr.elim
end
end Mine
end

section
open PySem PySem.W PySem.Calls PyProof.Rows PyProof.V PySem.Spec
open PySem.Sem (wp)
set_option Elab.async false
set_option maxRecDepth 1000000
set_option maxHeartbeats 8000000
set_option linter.all false
namespace Mine
theorem thread_R {prog : Program} {w : World} {t : Sem PySem.Fin} {s : Shared} {R : Result → Shared → Prop} (hreg : s.asleep)
    (h : wpR (model prog w) callerA t (fun fin s' => ∃ f, fin = .done f ∧ (R (.ok f) s' ∧ leftWithCleanup s'.gens = false)) s) :
    ∃ n r s' s'', runN (denote table) prog w n s ⟨t, .builtin "claim.caller" {}, default, []⟩ = .halted (outcomeOf r) s' ∧
      schedN (denote table) prog w n (.single s ⟨t, .builtin "claim.caller" {}, default, []⟩) = .halted (outcomeOf r) s' ∧ s'.forget = s''.forget ∧ R r s'' := by
  have hw : wp (model prog w) ⟨.builtin "claim.caller" {}, none, none, [], none⟩ t (Sem.finPost (model prog w) ⟨.builtin "claim.caller" {}, none, none, [], none⟩ fun r s' => R r s' ∧ leftWithCleanup s'.gens = false)
      (fun e _ s' => R (.error e) s' ∧ leftWithCleanup s'.gens = false) default s := by
    refine Sem.wp_mono _ _ t (fun fin p' s' h' => ?_) (fun _ _ _ h' => h'.elim) default s (h _ default caller_in ⟨by decide, fun q hq => by cases hq⟩)
    obtain ⟨f, rfl, hf⟩ := h'
    exact hf
  obtain ⟨n, r, s₁, s₂, hs, hn, hfo, hR⟩ := wp_halts_full (M := model prog w) (R := R) hreg hw
  exact ⟨n, r, s₂, s₁, hn, hs, hfo, hR⟩

theorem callFrom_R {c : ClaimW} {tree : List Value → Sem PySem.Fin} {w : World} {s : Shared} {free : Addr → Prop} {gens : Prop} {kept : Heap → Prop} (hz : s.asleep) (hgens : s.gens = #[])
    (hspec : ∀ args, c.pre args = true → WData.layableAll args = true →
      ∀ ord : List DictEntry → List DictEntry, (∀ l, (ord l).Perm l) →
      ∃ vs s₁, layAllW c.records (classAt s.heap) w.params ord args s = some (vs, s₁) ∧
        wpR (model c.prog w) callerA (tree vs) (fun fin s' => ∃ f, fin = .done f ∧ (c.Ends s args vs s₁ (.ok f) s' ∧ s'.os = s.os ∧ AllBare s'.gens ∧ kept s'.heap)) s₁) :
    c.CallFrom (fun vs => ⟨tree vs, .builtin "claim.caller" {}, default, []⟩) w free gens kept s := by
  intro args hpre hlay ord hord
  obtain ⟨vs, s₁, hlaid, hcode⟩ := hspec args hpre hlay ord hord
  have hal := layAllW_rest _ _ _ hlaid
  obtain ⟨k, r, s', s'', hrun, hsched, hfo, hcase, hos, hkp⟩ := thread_R (prog := c.prog) (w := w) (t := tree vs) (s := s₁)
    (R := fun r s' => c.Ends s args vs s₁ r s' ∧ s'.os = s.os ∧ kept s'.heap)
    (Shared.asleep_of_life hal.2.2.2 hz)
    (wpR_mono hcode (by
      rintro fin s' ⟨f, e, h1, h2, h3, h4⟩
      exact ⟨f, e, ⟨h1, h2, h4⟩, leftWithCleanup_false_of_bare h3⟩))
  obtain ⟨eh, _, _, eo, _⟩ := Shared.forget_eq hfo
  have hcase := hcase.congr eh
  have hkp : kept s'.heap := by first | exact eh ▸ hkp | (rw [eh] at hkp; exact hkp) | (rw [← eh] at hkp; exact hkp)
  rw [← eo] at hos
  have hlife : s'.heap.life = s.heap.life := (runN_life _ _ _ hrun).trans hal.2.2.2
  refine ⟨vs, s₁, hlaid, k, _, s', hsched, ?_, (fun _ i x hx => by rw [hgens] at hx; simp at hx), hkp, by rw [hlife], Shared.rest_eq hos⟩
  rcases hcase with ⟨v, rfl, d1, d2, d3, d4, d5⟩ | ⟨e, ob, cls, rfl, d1, d2, d3, d4, d5⟩
  · exact .inl ⟨v, rfl, d1, d2, d3, fun b o y _ => d4 b o y, d5⟩
  · exact .inr ⟨e, ob, cls, rfl, d1, d2, d3, d4, fun b o y _ => d5 b o y⟩

theorem open_R {r : RowW} {run : Value → List Value → Sem Value} {tree : List Value → Sem PySem.Fin} {q : Program} {loose defs kps : List Str} {writes : Bool} {Xt : Shared → Bool} {XP : (Str → Option Value) → Heap → Prop} {α : Type} {Yf : Shared → α} {Ya : World → α} {YP : World → Heap → Prop} {N : Nat}
    (left : LeftO r.prog q loose Xt Yf Ya N) (hY : ∀ w s, Yf s = Ya w → YP w s.heap) (hYk : ∀ w h h', YP w h → (∀ b o, h.get? b = some o → h'.get? b = some o) → YP w h') (hX : ∀ s, Xt s = true → XP (s.heap.nsMap mainGlobals) s.heap) (hXk : ∀ mg h h', XP mg h → (∀ b o, h.get? b = some o → h'.get? b = some o) → XP mg h')
    (hRf : ∀ s, Xt s = true → RecFacts r.records s.heap) (hwr : (!writes || r.records.isEmpty) = true) (ok : (chainsOk q && opensWell r.prog && (frees r && r.within.isEmpty)) = true) (hb : r.prog.bare) (hw : r.promised)
    (ht : ∀ vs (w : World) (s : Shared) mg f (Q : PySem.Fin → Shared → Prop), s.heap.Ns mainGlobals mg → mg r.name = some f → wpR (model r.prog w) callerA (run f vs) (fun v s' => Q (.done (.ret v)) s') s → wpR (model r.prog w) callerA (tree vs) Q s)
    (pin : ∀ w s, s.heap.isNs mainGlobals = true → Ground q loose [] XP w s (s.heap.nsMap mainGlobals) (s.heap.nsMap builtinsNs) s.heap → ∀ n ∈ defs, isTheDefsW r.prog s.heap n)
    (call : ∀ (w : World) (s₀ s₁ : Shared) (mg mb : Str → Option Value), Ground q loose r.records XP w s₀ mg mb s₁.heap → YP w s₁.heap → ∀ (args : List WData) (vs : List Value) (as : List Addr),
      r.claim.pre args = true → WData.layableAll args = true → Laid r.records w s₀ s₁ args vs as → sysModules < s₀.heap.objs.size → ∃ f, mg r.name = some f ∧
        wpR (model r.prog w) callerA (run f vs) (fun v s' => GoodWG r.claim (classAt s₀.heap) (ExcName.means s₀.heap) args s₁ (.ok (.ret v)) s') s₁) : r.claim.HoldsOpenBy (fun vs => ⟨tree vs, .builtin "claim.caller" {}, default, []⟩) defs kps writes := by
  obtain ⟨ok, k5⟩ := Bool.and_eq_true_iff.mp ok
  obtain ⟨hch, o1⟩ := Bool.and_eq_true_iff.mp ok
  obtain ⟨k5, k6⟩ := Bool.and_eq_true_iff.mp k5
  obtain ⟨hsame, hu, ha, hap, hm⟩ := frees_parts k5
  refine ⟨⟨hb, o1, by show r.makers.map _ = []; rw [hm]; rfl⟩, hw.witness, fun w => ⟨(left.behind hX hch w).1, fun s' hs' => ?_⟩⟩
  obtain ⟨s₀, hf, hg0, s, hT, hz, hgens, hg, G00, y⟩ := (left.behind (XP := fun mg h => XP mg h ∧ RecFacts r.records h) (fun s hs => ⟨hX s hs, hRf s hs⟩) hch w).2 s' hs'
  have G0 : Ground q loose [] XP w s (s.heap.nsMap mainGlobals) (s.heap.nsMap builtinsNs) s.heap := ⟨G00.T, G00.B, G00.D, G00.TE, G00.TD, G00.W, G00.X.1, G00.cls, G00.has, G00.apart, G00.once, G00.K⟩
  have RF := G00.X.2
  have hT' := hT
  refine ⟨s₀, hf, hg0, s, hT, pin w s hg G0, RF.1, RF.2.1, ?_⟩
  have hgens : s.gens = #[] := Array.eq_empty_of_size_eq_zero (beq_iff_eq.mp hgens)
  have G : Ground q loose r.records XP w s _ _ s.heap := RF.ground G0
  refine callFrom_R (c := r.claim) hz hgens fun args hpre hlay ord hord => ?_
  obtain ⟨⟨vs, s₁⟩, hlaid⟩ := Option.isSome_iff_exists.mp (layAllW_isSome (P := w.params) (ord := ord) G.has args r.args s (pre_splitW hpre).1)
  have keeps := layAllW_keeps _ _ _ hlaid
  have hal := layAllW_rest _ _ _ hlaid
  obtain ⟨as, hrd, hin, hold⟩ := reads_layAllW hord _ _ _ hlaid hlay s₁.heap (fun _ _ e => e)
  have L : Laid r.records w s s₁ args vs as := ⟨⟨ord, hord, hlaid⟩, hrd, hin, hold, keeps, hal.1.trans hgens, hal.2.2.1⟩
  have G₁ := G.keeps hXk keeps
  obtain ⟨f, hf, h⟩ := call w s s₁ _ _ G₁ (hYk _ _ _ (hY w s y) keeps) args vs as hpre hlay L G.low
  have hi := ident_freeW hu ha hap
  have hwi : r.claim.within = [] := List.isEmpty_iff.mp k6
  exact ⟨vs, s₁, hlaid, ht vs w s₁ _ f _ G₁.T.g hf (wpR_mono h (fun v s' g => ⟨_, rfl, have z := g.laid (c := r.claim) hsame hwi hi L; ⟨z.1, z.2.1, z.2.2, fun q => ⟨namesKept_of hT' hg kps keeps g.2.1.old, noTable hwr q⟩⟩⟩))⟩

noncomputable abbrev WalkR (q : Program) (loose : List Str) (XP : (Str → Option Value) → Heap → Prop) (YP : World → Heap → Prop) (r : RowW) (d : DefRec) (kwd : List (Str × PySem.Expr)) (run : Value → List Value → Sem Value) : Prop :=
  ∀ (w : World) (s₀ s₁ : Shared) (mg mb : Str → Option Value), Ground q loose r.records XP w s₀ mg mb s₁.heap → YP w s₁.heap → ∀ (a : Addr) (o : Obj) (pm cd doc dV kV : Value), s₁.heap.get? a = some o →
    o.data = .func { docDef d.name d.params d.body d.scope pm cd doc with defaults := dV, kwdefaults := kV } → s₁.heap.CodeRec cd d.name → Dflts mg s₁.heap d.params kwd dV kV → mg d.name = some (.ref a) → s₁.gens = #[] →
    ∀ (args : List WData) (vals : List Value) (as : List Addr), r.claim.pre args = true → WData.layableAll args = true → ReadsAllW r.records (classAt s₀.heap) s₁.heap vals args as → WellAll w.params s₁.heap vals args → (∀ a ∈ as, (a == sysModules) = false) →
      wpR (model r.prog w) callerA (run (.ref a) vals) (fun v s' => GoodWG r.claim (classAt s₀.heap) (ExcName.means s₀.heap) args s₁ (.ok (.ret v)) s') s₁

theorem PySem.W.holds_open {r : OpenRow} {q : Program} {loose : List Str} {Xt : Shared → Bool} {XP : (Str → Option Value) → Heap → Prop} {α : Type} {Yf : Shared → α} {Ya : World → α} {YP : World → Heap → Prop} {d : DefRec} {kwd : List (Str × PySem.Expr)} {N : Nat}
    (left : ∀ w, (openEnds treeTable r.prog w N).map (fun s => (openSeen q loose (importedModules r.prog.main.body) Xt true s, Yf s)) = some (openGood q loose, Ya w)) (hY : ∀ w s, Yf s = Ya w → YP w s.heap) (hYk : ∀ w h h', YP w h → (∀ b o, h.get? b = some o → h'.get? b = some o) → YP w h')
    (hX : ∀ s, Xt s = true → XP (s.heap.nsMap mainGlobals) s.heap) (hXk : ∀ mg h h', XP mg h → (∀ b o, h.get? b = some o → h'.get? b = some o) → XP mg h')
    (hdef : defOf q r.name = some (d, kwd)) (hp : r.prog.theDef r.name = some (d.params, d.body, d.scope)) (hk : kwWritten? d.params.kwonlyargs d.params.kw_defaults = some kwd) (hRf : ∀ s, Xt s = true → RecFacts r.records s.heap) (hwr : (!r.writes || r.records.isEmpty) = true)
    (k1 : r.wellSaid = true) (ok : (chainsOk q && opensWell r.prog && (frees r.toRowW && r.within.isEmpty)) = true) (hb : r.prog.bare) (hw : r.toRowW.promised)
    (call : WalkR q loose XP YP r.toRowW d kwd fun f vs => PySem.call f vs) : r.Holds := by
  refine ⟨k1, hw, open_R (r := r.toRowW) (run := fun f vs => PySem.call f vs) (tree := fun vs => do match ← nsGet mainNs r.name with
      | some f => do ret (← PySem.call f vs)
      | none => unsupported "claim.caller:no-such-global") left hY hYk hX hXk hRf hwr ok hb hw
    (fun vs w s mg f Q hg hf h => wpR_step (wpAny_nsGet hg (by rw [hf]; exact wpR_bind (wpR_mono h (fun _ _ x => wpR_pure x)))))
    (fun w s hg G n hn => ?_) fun w s₀ s₁ mg mb G Y args vs as hpre hlay L low => ?_⟩
  · obtain rfl : n = r.name := by split at hn <;> simp_all
    exact pinned_of_view hg G hdef hp hk
  · obtain ⟨a, o, pm, cd, doc, dV, kV, h1, h2, h3, h4, h5⟩ := G.fn hdef
    exact ⟨.ref a, h1, call w s₀ s₁ mg mb G Y a o pm cd doc dV kV h2 h3 h4 h5 (defOf_name hdef ▸ h1) L.gens args vs as hpre hlay L.reads L.well (L.low low)⟩
end Mine
end

section
open PySem PySem.W PyProof.Rows
set_option Elab.async false
set_option maxRecDepth 100000
set_option maxHeartbeats 8000000
namespace Mine
local macro_rules | `(tactic| o_head ($f $k $a $e $ts)) => `(tactic| o_head (($f $k $a $e) [127, 120, 62, 69]))
local macro_rules | `(tactic| o_law) => `(tactic| refine holds_law (by decide +kernel) fun said => ?_)
open_top hd for PySem.Challenge.rw_xp0023_01
end Mine
end

section
open PySem PySem.W PySem.Calls PyProof.Rows PyProof.V PySem.Spec
set_option Elab.async false
set_option maxRecDepth 100000
set_option maxHeartbeats 8000000
namespace Mine
noncomputable abbrev aTop (dp un : Nat) (gd : Option (List Code)) (env : Env) (outer : List Env) : Around := { handled := none, depth := dp, frames := some (env :: outer), guards := gd, units := un }

structure Here (w : World) (p : Program) (loose : List Str) (mean : ExcName → Option Value) (mg mb : Str → Option Value) (A₀ : Around) (base h₀ : Heap) (outer : List Env) (env : Env) (L : Addr) (m : Str → Option Value) (h : Heap) (news : List (Addr × Obj)) : Prop where
  B : Below A₀ base outer h₀
  F : Fr h₀ L h m
  X : (Mine.hd.heap_1 w.params).In h₀
  N : News h₀ L h news
  T : Top p loose mean mg mb h₀
  hf : env.frame = some L
  hk : env.scope.kind = .function

noncomputable def lkO (y : Str) : List (Str × Option Value) → Option Value
  | [] => none
  | p :: r => if y = p.1 then p.2 else lkO y r
noncomputable def putO (x : Str) (v : Value) : List (Str × Option Value) → List (Str × Option Value)
  | [] => [(x, some v)]
  | p :: r => if p.1 = x then (p.1, some v) :: r else p :: putO x v r
theorem put_lkO {x y : Str} {v : Value} : ∀ {ps : List (Str × Option Value)}, (if y = x then some v else lkO y ps) = lkO y (putO x v ps)
  | [] => rfl
  | p :: r => by
    unfold putO
    by_cases h : p.1 = x
    · rw [if_pos h]
      show (if y = x then some v else if y = p.1 then p.2 else lkO y r) = if y = p.1 then some v else lkO y r
      by_cases e : y = x
      · rw [if_pos e, if_pos (e.trans h.symm)]
      · rw [if_neg e, if_neg fun q => e (q.trans h), if_neg fun q => e (q.trans h)]
    · rw [if_neg h]
      show (if y = x then some v else if y = p.1 then p.2 else lkO y r) = if y = p.1 then p.2 else lkO y (putO x v r)
      rw [← put_lkO]
      by_cases e : y = x
      · rw [if_pos e, if_neg fun q => h (q.symm.trans e), if_pos e]
      · rw [if_neg e, if_neg e]
theorem lkO_none {y : Str} : ∀ {ns : List Str}, lkO y (ns.map fun x => (x, none)) = none
  | [] => rfl
  | x :: r => by
    show (if y = x then none else lkO y (r.map fun x => (x, none))) = none
    rw [lkO_none, ite_self]
theorem lk_lkO {y : Str} (ns : List Str) : ∀ {ps : List (Str × Value)}, List.lookup y ps = lkO y (ps.map (fun p => (p.1, some p.2)) ++ ns.map fun x => (x, none))
  | [] => lkO_none.symm
  | (x, v) :: r => by
    rw [List.lookup_cons]
    show _ = if y = x then some v else lkO y (r.map (fun p => (p.1, some p.2)) ++ ns.map fun x => (x, none))
    rw [← lk_lkO]
    cases hb : (y == x) with
    | true => rw [if_pos (eq_of_beq hb)]
    | false => rw [if_neg fun e => by subst e; simp at hb]
theorem fr_entry {h₀ h : Heap} {L : Addr} {ps : List (Str × Value)} (ns : List Str) (F : Fr h₀ L h (fun y => List.lookup y ps)) : Fr h₀ L h (fun y => lkO y (ps.map (fun p => (p.1, some p.2)) ++ ns.map fun x => (x, none))) :=
  (funext fun y => lk_lkO ns : (fun y => List.lookup y ps) = _) ▸ F
theorem fr_to {h₀ h : Heap} {L : Addr} {m m' : Str → Option Value} (F : Fr h₀ L h m) (e : m = m') : Fr h₀ L h m' := e ▸ F

theorem led_isList {h₀ h : Heap} {L l : Addr} {news : List (Addr × Obj)} {vs : List Value} {n : Nat} (N : News h₀ L h news) (hm : (l, listOf vs.toArray n) ∈ news) : h.IsList l vs.toArray := ⟨_, (N _ hm).1, rfl, n, rfl⟩
theorem len_led {prog : Program} {w : World} {A : Around} {E : Value → Shared → Prop} {s : Shared} {l : Addr} {vs : List Value} {ns : List Int} {Q : Value → Shared → Prop} (hl : s.heap.IsList l vs.toArray) (hi : IntsAre vs ns) (hfit : (ns.length : Int) < 2 ^ 62)
    (h : Q (.int (ns.length : Int) (s.toks + 1)) { s with toks := s.toks + 1 + 1 }) : wpAny (model prog w) A (call (.builtin "len") [.ref l]) Q E s := by
  have e2 : vs.toArray.size = ns.length := by rw [List.size_toArray, hi.length]
  exact len_list hl (by rw [e2]; omega) (by rw [e2]; exact h)

theorem news_sub {h₀ h : Heap} {L : Addr} {l l' : List (Addr × Obj)} (N : News h₀ L h l) (hs : ∀ p ∈ l', p ∈ l) : News h₀ L h l' := fun p hp => N p (hs p hp)

section
variable {prog : Program} {w : World} {A : Around} {E : Value → Shared → Prop} {s : Shared} {env : Env} {h₀ : Heap} {x : Str} {body : List Stmt} {Q : Flow → Shared → Prop}

theorem iter_rangeG {r : Addr} {a b c : Int} {t₀ u₀ v₀ : Tok} {n : Nat} {m₀ : Str → Option Value} {news : List (Addr × Obj)} (J : Nat → (Str → Option Value) → List (Addr × Obj) → Prop)
    (hh : A.handled = none) (hr : IsRange s.heap r a b c t₀ u₀ v₀) (hsmall : Builtin.Range.small a b c = true) (hn : Builtin.Range.rangeSize a b c = (n : Int)) (F : Fr h₀ env.locals s.heap m₀) (N : News h₀ env.locals s.heap news) (hj : J 0 m₀ news)
    (turn : ∀ i t m₁ nx h tk I oI, i < n → J i m₁ nx → (∀ p ∈ nx, p.1 ≠ I) → Fr h₀ env.locals h (fun y => if y = x then some (.int (a + (i : Int) * c) t) else m₁ y) → News h₀ env.locals h ((I, oI) :: nx) →
      wpAny (model prog w) A (execs body env) (InvPostG h₀ env.locals (J (i + 1)) [(I, oI)] { s with heap := h, toks := tk } Q) E { s with heap := h, toks := tk })
    (done : ∀ m₁ nx h tk, J n m₁ nx → Fr h₀ env.locals h m₁ → News h₀ env.locals h nx → Q .next { s with heap := h, toks := tk }) :
    wpAny (model prog w) A (pyIter (.ref r)) (fun it s₂ => LoopAtV prog w A h₀ env x body Q E it s₂) E s := by
  refine wpAny_pyIter_range hr hsmall ?_
  have W : Walks prog w A s.heap.objs.size [s.heap.objs.size] [s.heap.objs.size] n (fun i v => i < n ∧ ∃ t, v = .int (a + i * c) t)
      (fun i h => IsRangeIter h s.heap.objs.size (a + (i : Nat) * c) ((n : Int) - (i : Nat)) c) := (Walks.range hh _ a c n).bound
  refine ⟨_, _, _, n, _, _, m₀, news, J, rfl, W, ?_, ?_, ?_, (by show IsRangeIter _ _ _ _ _; rw [hn]; simpa using Heap.get?_push_size _ rfl), (F.push _), (fun p hp => ⟨Heap.get?_push_of_some _ (N p hp).1, (N p hp).2⟩), hj, ?_, ?_⟩
  · intro hm
    exact absurd F.ns.lt ((List.mem_singleton.mp hm) ▸ Nat.lt_irrefl _)
  · intro b hb
    rw [List.mem_singleton.mp hb]
    exact next_is_new F
  · intro p hp hI
    exact absurd (Heap.lt_size (N p hp).1) ((List.mem_singleton.mp hI) ▸ Nat.lt_irrefl _)
  · rintro i v m₁ news₁ s₁ own ⟨hh', tk', rfl⟩ hin ⟨_, t, rfl⟩ hJ hoff hown hget hfp hst F₁ N₁
    have hI0 : h₀.get? s.heap.objs.size = none := next_is_new F
    obtain ⟨oI, hoI⟩ : ∃ o, hh'.get? s.heap.objs.size = some o := ⟨_, hst⟩
    have hIown := hfp _ (List.mem_singleton.mpr rfl) hI0 _ hoI
    have N₂ : News h₀ env.locals hh' ((s.heap.objs.size, oI) :: news₁) := fun p hp => by
      rcases List.mem_cons.mp hp with rfl | hp
      · exact N₁ _ (List.mem_append.mpr (.inl hIown))
      · exact N₁ _ (List.mem_append.mpr (.inr hp))
    refine wpAny_mono (turn i t m₁ news₁ hh' tk' _ _ hin hJ (fun p hp e => hoff p hp (List.mem_singleton.mpr e)) F₁ N₂) (fun f s₂ p => ?_) fun _ _ e => e
    have fin : InvEndG h₀ env.locals (J (i + 1)) [(s.heap.objs.size, oI)] { s with heap := hh', toks := tk' } s₂ → LoopStepU h₀ env.locals [s.heap.objs.size] own (J (i + 1)) { s with heap := hh', toks := tk' } .next s₂ := by
      rintro ⟨h', tk, m', news', nx, e, F', N', hn', ho, ha, hm⟩
      refine ⟨rfl, h', tk, m', nx, e, F', fun p hp => N' p ((List.mem_append.mp hp).elim (fun hp => ?_) (hn' p)), fun p hp hq => ?_, hm⟩
      · have h1 := List.mem_singleton.mp (hown p hp)
        have h2 : hh'.get? p.1 = some p.2 := hget p hp
        rw [h1, hoI] at h2
        have h3 : p = (s.heap.objs.size, oI) := Prod.ext h1 (Option.some.inj h2).symm
        rw [h3]
        exact ho _ (List.mem_singleton.mpr rfl)
      · exact ha _ (List.mem_singleton.mpr rfl) p.1 (List.mem_map.mpr ⟨p, hp, rfl⟩) (List.mem_singleton.mp hq).symm
    cases f with
    | ret v => exact .ret p
    | brk => exact .brk p
    | next => exact .next (fin p)
    | cont => exact .cont (fin p)
  · rintro h' tk m' news' F' N' _ hJ
    exact done m' news' h' tk hJ F' N'

theorem iter_ledG {l : Addr} {vs : List Value} {nn : Nat} {m₀ : Str → Option Value} {news : List (Addr × Obj)} (J : Nat → (Str → Option Value) → List (Addr × Obj) → Prop)
    (hh : A.handled = none) (hl : (l, listOf vs.toArray nn) ∈ news) (F : Fr h₀ env.locals s.heap m₀) (N : News h₀ env.locals s.heap news) (hj : J 0 m₀ news)
    (hJl : ∀ i m nx, J i m nx → (l, listOf vs.toArray nn) ∈ nx)
    (turn : ∀ i v m₁ nx h tk I oI, vs[i]? = some v → J i m₁ nx → (∀ p ∈ nx, p.1 ≠ I) → Fr h₀ env.locals h (fun y => if y = x then some v else m₁ y) → News h₀ env.locals h ((I, oI) :: nx) →
      wpAny (model prog w) A (execs body env) (InvPostG h₀ env.locals (J (i + 1)) [(I, oI)] { s with heap := h, toks := tk } Q) E { s with heap := h, toks := tk })
    (done : ∀ m₁ nx h tk, J vs.length m₁ nx → Fr h₀ env.locals h m₁ → News h₀ env.locals h nx → Q .next { s with heap := h, toks := tk }) :
    wpAny (model prog w) A (pyIter (.ref l)) (fun it s₂ => LoopAtV prog w A h₀ env x body Q E it s₂) E s := by
  have hol : s.heap.get? l = some (listOf vs.toArray nn) := (N _ hl).1
  have hls : s.heap.IsList l vs.toArray := ⟨_, hol, rfl, nn, rfl⟩
  have hne : l ≠ s.heap.objs.size := Nat.ne_of_lt (Heap.lt_size hol)
  refine wpAny_pyIter_list hls ?_
  have W := Walks.list (prog := prog) (w := w) hh s.heap.objs.size l hne vs.toArray
  have hlen : vs.toArray.size = vs.length := by simp
  rw [hlen] at W
  refine ⟨_, _, _, vs.length, _, _, m₀, news, J, rfl, W, ?_, ?_, ?_, ⟨⟨_, Heap.get?_push_size _ rfl, rfl, rfl⟩, hls.at fun o e => Heap.get?_push_of_some _ e⟩, F.push _, (fun p hp => ⟨Heap.get?_push_of_some _ (N p hp).1, (N p hp).2⟩), hj, ?_, ?_⟩
  · intro hm
    rcases List.mem_cons.mp hm with e | hm
    · exact absurd F.ns.lt (e ▸ Nat.lt_irrefl _)
    · exact (N _ hl).2.1 ((List.mem_singleton.mp hm).symm)
  · intro b hb
    rw [List.mem_singleton.mp hb]
    exact next_is_new F
  · intro p hp hI
    exact absurd (Heap.lt_size (N p hp).1) ((List.mem_singleton.mp hI) ▸ Nat.lt_irrefl _)
  · rintro i v m₁ news₁ s₁ own ⟨hh', tk', rfl⟩ hin hP hJ hoff hown hget hfp hst F₁ N₁
    have hI0 : h₀.get? s.heap.objs.size = none := next_is_new F
    obtain ⟨⟨oI, hoI, _⟩, _⟩ := id hst
    have hIown := hfp _ (List.mem_cons.mpr (.inl rfl)) hI0 _ hoI
    have hl₁ := hJl _ _ _ hJ
    have hlo : hh'.get? l = some (listOf vs.toArray nn) := (N₁ _ (List.mem_append.mpr (.inr hl₁))).1
    have N₂ : News h₀ env.locals hh' ((s.heap.objs.size, oI) :: news₁) := fun p hp => by
      rcases List.mem_cons.mp hp with rfl | hp
      · exact N₁ _ (List.mem_append.mpr (.inl hIown))
      · exact N₁ _ (List.mem_append.mpr (.inr hp))
    refine wpAny_mono (turn i v m₁ news₁ hh' tk' _ _ (by simpa using hP) hJ (fun p hp e => hoff p hp (List.mem_singleton.mpr e)) F₁ N₂) (fun f s₂ p => ?_) fun _ _ e => e
    have fin : InvEndG h₀ env.locals (J (i + 1)) [(s.heap.objs.size, oI)] { s with heap := hh', toks := tk' } s₂ → LoopStepU h₀ env.locals [s.heap.objs.size] own (J (i + 1)) { s with heap := hh', toks := tk' } .next s₂ := by
      rintro ⟨h', tk, m', news', nx, e, F', N', hn', ho, ha, hm⟩
      refine ⟨rfl, h', tk, m', nx, e, F', fun p hp => N' p ((List.mem_append.mp hp).elim (fun hp => ?_) (hn' p)), fun p hp hq => ?_, hm⟩
      · have h2 : hh'.get? p.1 = some p.2 := hget p hp
        rcases List.mem_cons.mp (hown p hp) with h1 | h1
        · rw [h1, hoI] at h2
          have h3 : p = (s.heap.objs.size, oI) := Prod.ext h1 (Option.some.inj h2).symm
          rw [h3]
          exact ho _ (List.mem_singleton.mpr rfl)
        · rw [List.mem_singleton.mp h1, hlo] at h2
          have h3 : p = (l, listOf vs.toArray nn) := Prod.ext (List.mem_singleton.mp h1) (Option.some.inj h2).symm
          rw [h3]
          exact hn' _ (hJl _ _ _ hm)
      · exact ha _ (List.mem_singleton.mpr rfl) p.1 (List.mem_map.mpr ⟨p, hp, rfl⟩) (List.mem_singleton.mp hq).symm
    cases f with
    | ret v => exact .ret p
    | brk => exact .brk p
    | next => exact .next (fin p)
    | cont => exact .cont (fin p)
  · rintro h' tk m' news' F' N' _ hJ
    exact done m' news' h' tk hJ F' N'
theorem iter_revG {I l : Addr} {vs : List Value} {nn : Nat} {m₀ : Str → Option Value} {news nx₀ : List (Addr × Obj)} (J : Nat → (Str → Option Value) → List (Addr × Obj) → Prop)
    (hh : A.handled = none) (hIm : (I, revObj l ((vs.length : Int) - 1)) ∈ news) (hl : (l, listOf vs.toArray nn) ∈ nx₀) (hnx : ∀ p ∈ nx₀, p ∈ news) (hoff : ∀ p ∈ nx₀, p.1 ≠ I) (F : Fr h₀ env.locals s.heap m₀) (N : News h₀ env.locals s.heap news) (hj : J 0 m₀ nx₀)
    (hJl : ∀ i m nx, J i m nx → (l, listOf vs.toArray nn) ∈ nx)
    (turn : ∀ i v m₁ nx h tk oI, i < vs.length → vs[vs.length - 1 - i]? = some v → J i m₁ nx → (∀ p ∈ nx, p.1 ≠ I) → Fr h₀ env.locals h (fun y => if y = x then some v else m₁ y) → News h₀ env.locals h ((I, oI) :: nx) →
      wpAny (model prog w) A (execs body env) (InvPostG h₀ env.locals (J (i + 1)) [(I, oI)] { s with heap := h, toks := tk } Q) E { s with heap := h, toks := tk })
    (done : ∀ m₁ nx h tk, J vs.length m₁ nx → Fr h₀ env.locals h m₁ → News h₀ env.locals h nx → Q .next { s with heap := h, toks := tk }) :
    wpAny (model prog w) A (pyIter (.ref I)) (fun it s₂ => LoopAtV prog w A h₀ env x body Q E it s₂) E s := by
  have hol : s.heap.get? l = some (listOf vs.toArray nn) := (N _ (hnx _ hl)).1
  have hls : s.heap.IsList l vs.toArray := ⟨_, hol, rfl, nn, rfl⟩
  have hI : s.heap.get? I = some (revObj l ((vs.length : Int) - 1)) := (N _ hIm).1
  have hri : s.heap.IsRevIter I l ((vs.length : Int) - 1) := ⟨_, hI, rfl, rfl⟩
  have hne : l ≠ I := hoff _ hl
  refine wpAny_pyIter_revIter hri ?_
  have W := Walks.listRev (prog := prog) (w := w) hh I l hne vs.toArray
  have hlen : vs.toArray.size = vs.length := by simp
  rw [hlen] at W
  have hI0 : h₀.get? I = none := (N _ hIm).2.2
  refine ⟨_, _, _, vs.length, _, _, m₀, nx₀, J, rfl, W, ?_, ?_, ?_, ⟨Nat.zero_le _, by simpa using hri, hls⟩, F, (fun p hp => N p (hnx p hp)), hj, ?_, ?_⟩
  · intro hm
    rcases List.mem_cons.mp hm with e | hm
    · exact (N _ hIm).2.1 e.symm
    · exact (N _ (hnx _ hl)).2.1 ((List.mem_singleton.mp hm).symm)
  · intro b hb
    rw [List.mem_singleton.mp hb]
    exact hI0
  · intro p hp hI
    exact hoff p hp (List.mem_singleton.mp hI)
  · rintro i v m₁ news₁ s₁ own ⟨hh', tk', rfl⟩ hin hP hJ hoff' hown hget hfp hst F₁ N₁
    obtain ⟨_, ⟨oI, hoI, _⟩, _⟩ := id hst
    have hIown := hfp _ (List.mem_cons.mpr (.inl rfl)) hI0 _ hoI
    have hl₁ := hJl _ _ _ hJ
    have hlo : hh'.get? l = some (listOf vs.toArray nn) := (N₁ _ (List.mem_append.mpr (.inr hl₁))).1
    have N₂ : News h₀ env.locals hh' ((I, oI) :: news₁) := fun p hp => by
      rcases List.mem_cons.mp hp with rfl | hp
      · exact N₁ _ (List.mem_append.mpr (.inl hIown))
      · exact N₁ _ (List.mem_append.mpr (.inr hp))
    refine wpAny_mono (turn i v m₁ news₁ hh' tk' _ hin (by simpa using hP) hJ (fun p hp e => hoff' p hp (List.mem_singleton.mpr e)) F₁ N₂) (fun f s₂ p => ?_) fun _ _ e => e
    have fin : InvEndG h₀ env.locals (J (i + 1)) [(I, oI)] { s with heap := hh', toks := tk' } s₂ → LoopStepU h₀ env.locals [I] own (J (i + 1)) { s with heap := hh', toks := tk' } .next s₂ := by
      rintro ⟨h', tk, m', news', nx, e, F', N', hn', ho, ha, hm⟩
      refine ⟨rfl, h', tk, m', nx, e, F', fun p hp => N' p ((List.mem_append.mp hp).elim (fun hp => ?_) (hn' p)), fun p hp hq => ?_, hm⟩
      · have h2 : hh'.get? p.1 = some p.2 := hget p hp
        rcases List.mem_cons.mp (hown p hp) with h1 | h1
        · rw [h1, hoI] at h2
          have h3 : p = (I, oI) := Prod.ext h1 (Option.some.inj h2).symm
          rw [h3]
          exact ho _ (List.mem_singleton.mpr rfl)
        · rw [List.mem_singleton.mp h1, hlo] at h2
          have h3 : p = (l, listOf vs.toArray nn) := Prod.ext (List.mem_singleton.mp h1) (Option.some.inj h2).symm
          rw [h3]
          exact hn' _ (hJl _ _ _ hm)
      · exact ha _ (List.mem_singleton.mpr rfl) p.1 (List.mem_map.mpr ⟨p, hp, rfl⟩) (List.mem_singleton.mp hq).symm
    cases f with
    | ret v => exact .ret p
    | brk => exact .brk p
    | next => exact .next (fin p)
    | cont => exact .cont (fin p)
  · rintro h' tk m' news' F' N' _ hJ
    exact done m' news' h' tk hJ F' N'
end
theorem ownoff_one {I : Addr} {oI : Obj} {l : List (Addr × Obj)} (h : ∀ p ∈ l, p.1 ≠ I) : OwnOff [(I, oI)] (l.map (·.1)) := by
  intro p hp b hb e
  rw [List.mem_singleton.mp hp] at e
  obtain ⟨q, hq, rfl⟩ := List.mem_map.mp hb
  exact h q hq e.symm

section
variable {prog : Program} {w : World} {A : Around} {E : Value → Shared → Prop} {s : Shared} {h₀ : Heap} {L l : Addr} {m : Str → Option Value} {news : List (Addr × Obj)} {value slice : PySem.Expr} {vs : List Value} {ns : List Int} {x y : Int} {tx ty : Tok} {Q : Value → Shared → Prop}
theorem sl_run (F : Fr h₀ L s.heap m) (N : News h₀ L s.heap news) (hl : s.heap.IsList l vs.toArray) (hi : IntsAre vs ns) (h0 : 0 ≤ x) (h1 : 0 ≤ y) (hz : ns.length ≤ 1000)
    (h : ∀ D ws h', Fr h₀ L h' m → News h₀ L h' ((D, listOf (List.toArray ws) 0) :: news) → (∀ p ∈ news, p.1 < D) → IntsAre ws ((ns.drop x.toNat).take (min y.toNat ns.length - x.toNat)) → Q (.ref D) { s with heap := h' })
    (hs : subscripted slice false (.ref l) (.ref s.heap.objs.size) = operate [.ref s.heap.objs.size, .ref l] (getItem (.ref l) (.ref s.heap.objs.size))) (ht : ∀ r, letTemporaryGo value (.ref l) r = pure ()) :
    wpAny (model prog w) A (subscriptTail value slice (.ref l) (.ref s.heap.objs.size)) Q E { s with heap := s.heap.push { cls := .type "slice", data := .fields #[.int x tx, .int y ty, .none] } } :=
  kmk_slice_ints F N hl (.int _ _) (.int _ _) hi (kmk_run hi h0 h1) rfl (fun D ws h' a b c d _ _ => h D ws h' a b c d) hs ht (by rw [List.size_toArray, hi.length]; exact Nat.le_trans hz (by decide))
theorem sl_upto (F : Fr h₀ L s.heap m) (N : News h₀ L s.heap news) (hl : s.heap.IsList l vs.toArray) (hi : IntsAre vs ns) (h1 : 0 ≤ y) (hz : ns.length ≤ 1000)
    (h : ∀ D ws h', Fr h₀ L h' m → News h₀ L h' ((D, listOf (List.toArray ws) 0) :: news) → (∀ p ∈ news, p.1 < D) → IntsAre ws (ns.take y.toNat) → Q (.ref D) { s with heap := h' })
    (hs : subscripted slice false (.ref l) (.ref s.heap.objs.size) = operate [.ref s.heap.objs.size, .ref l] (getItem (.ref l) (.ref s.heap.objs.size))) (ht : ∀ r, letTemporaryGo value (.ref l) r = pure ()) :
    wpAny (model prog w) A (subscriptTail value slice (.ref l) (.ref s.heap.objs.size)) Q E { s with heap := s.heap.push { cls := .type "slice", data := .fields #[.none, .int y ty, .none] } } :=
  kmk_slice_ints F N hl .none (.int _ _) hi (kmk_upto hi h1) rfl (fun D ws h' a b c d _ _ => h D ws h' a b c d) hs ht (by rw [List.size_toArray, hi.length]; exact Nat.le_trans hz (by decide))
theorem sl_from (F : Fr h₀ L s.heap m) (N : News h₀ L s.heap news) (hl : s.heap.IsList l vs.toArray) (hi : IntsAre vs ns) (h0 : 0 ≤ x) (hz : ns.length ≤ 1000)
    (h : ∀ D ws h', Fr h₀ L h' m → News h₀ L h' ((D, listOf (List.toArray ws) 0) :: news) → (∀ p ∈ news, p.1 < D) → IntsAre ws (ns.drop x.toNat) → Q (.ref D) { s with heap := h' })
    (hs : subscripted slice false (.ref l) (.ref s.heap.objs.size) = operate [.ref s.heap.objs.size, .ref l] (getItem (.ref l) (.ref s.heap.objs.size))) (ht : ∀ r, letTemporaryGo value (.ref l) r = pure ()) :
    wpAny (model prog w) A (subscriptTail value slice (.ref l) (.ref s.heap.objs.size)) Q E { s with heap := s.heap.push { cls := .type "slice", data := .fields #[.int x tx, .none, .none] } } :=
  kmk_slice_ints F N hl (.int _ _) .none hi (kmk_from hi h0) rfl (fun D ws h' a b c d _ _ => h D ws h' a b c d) hs ht (by rw [List.size_toArray, hi.length]; exact Nat.le_trans hz (by decide))
end
theorem ownoff_cons {I D : Addr} {oI o : Obj} {l : List (Addr × Obj)} (h1 : D ≠ I) (h2 : OwnOff [(I, oI)] (l.map (·.1))) : OwnOff [(I, oI)] (((D, o) :: l).map (·.1)) := by
  intro p hp b hb
  rw [List.map_cons] at hb
  rcases List.mem_cons.mp hb with rfl | hb
  · rw [List.mem_singleton.mp hp]
    exact fun e => h1 e.symm
  · exact h2 p hp b hb
theorem mul_one_list {prog : Program} {w : World} {A : Around} {E : Value → Shared → Prop} {s : Shared} {h₀ : Heap} {L : Addr} {m : Str → Option Value} {news : List (Addr × Obj)} {l : Addr} {v : Value} {x : Int} {u : Tok} {Q : Value → Shared → Prop}
    (Fm : Fr h₀ L s.heap m) (N : News h₀ L s.heap news) (hl : s.heap.IsList l [v].toArray) (hlo : 0 ≤ x) (hhi : x ≤ 256)
    (h : ∀ D h', Fr h₀ L h' m → News h₀ L h' ((D, listOf (List.replicate x.toNat v).toArray 0) :: news) → (∀ p ∈ news, p.1 < D) → Q (.ref D) { s with heap := h' }) : wpAny (model prog w) A (binaryOp .Mult (.ref l) (.int x u)) Q E s :=
  KMa.mul Fm N hl (by omega) (by omega) (by simp; omega) (by
    induction x.toNat with
    | zero => rfl
    | succ n ih => rw [List.replicate_succ, List.flatten_cons, ih, List.replicate_succ]; rfl) h
theorem mul_one_int {prog : Program} {w : World} {A : Around} {E : Value → Shared → Prop} {s : Shared} {h₀ : Heap} {L : Addr} {m : Str → Option Value} {news : List (Addr × Obj)} {l : Addr} {c : Int} {tc : Tok} {x : Int} {u : Tok} {Q : Value → Shared → Prop}
    (Fm : Fr h₀ L s.heap m) (N : News h₀ L s.heap news) (hl : s.heap.IsList l [Value.int c tc].toArray) (hlo : 0 ≤ x) (hhi : x ≤ 256)
    (h : ∀ D (ws : List Value) h', Fr h₀ L h' m → News h₀ L h' ((D, listOf (List.toArray ws) 0) :: news) → (∀ p ∈ news, p.1 < D) → ∀ ns, IntsAre ws ns → ns = List.replicate x.toNat c → (ns.length : Int) = x → Q (.ref D) { s with heap := h' }) : wpAny (model prog w) A (binaryOp .Mult (.ref l) (.int x u)) Q E s :=
  mul_one_list Fm N hl hlo hhi fun D h' a b d => h D _ h' a b d (List.replicate x.toNat c) (by
    induction x.toNat with
    | zero => exact .nil
    | succ n ih => rw [List.replicate_succ, List.replicate_succ]; exact .cons _ _ ih) rfl (by rw [List.length_replicate]; omega)
theorem append_any {prog : Program} {w : World} {A : Around} {E : Value → Shared → Prop} {s : Shared} {h₀ : Heap} {L D : Addr} {m : Str → Option Value} {news news' : List (Addr × Obj)} {vs : List Value} {nn : Nat} {v : Value} {Q : Value → Shared → Prop} (F : Fr h₀ L s.heap m) (N : News h₀ L s.heap news)
    (U : Upd D (listOf vs.toArray nn) (listOf (vs ++ [v]).toArray (nn + 1)) news news') (hl : vs.length ≤ 1000) (h : ∀ h', Fr h₀ L h' m → News h₀ L h' news' → Q .none { s with heap := h' }) : wpAny (model prog w) A (call (.builtin "list.append") [.ref D, v]) Q E s := by
  refine append_K F N (by rw [List.push_toArray]; exact U) h ?_
  rw [List.size_toArray]
  exact Nat.le_trans hl (by decide)
theorem intsAre_snoc {x : Int} {t : Tok} : ∀ {vs : List Value} {ns : List Int}, IntsAre vs ns → IntsAre (vs ++ [Value.int x t]) (ns ++ [x])
  | _, _, .nil => .cons _ _ .nil
  | _, _, .cons n u h => .cons n u (intsAre_snoc h)
theorem intsAre_rev : ∀ {vs : List Value} {ns : List Int}, IntsAre vs ns → IntsAre vs.reverse ns.reverse
  | _, _, .nil => .nil
  | _, _, .cons n u h => by rw [List.reverse_cons, List.reverse_cons]; exact intsAre_snoc (intsAre_rev h)
theorem append_int {prog : Program} {w : World} {A : Around} {E : Value → Shared → Prop} {s : Shared} {h₀ : Heap} {L D : Addr} {m : Str → Option Value} {news news' : List (Addr × Obj)} {vs : List Value} {ns : List Int} {nn : Nat} {x : Int} {t : Tok} {Q : Value → Shared → Prop} (F : Fr h₀ L s.heap m) (N : News h₀ L s.heap news)
    (U : Upd D (listOf vs.toArray nn) (listOf (vs ++ [Value.int x t]).toArray (nn + 1)) news news') (hi : IntsAre vs ns) (hl : ns.length ≤ 1000) (h : ∀ h', Fr h₀ L h' m → News h₀ L h' news' → IntsAre (vs ++ [Value.int x t]) (ns ++ [x]) → Q .none { s with heap := h' }) : wpAny (model prog w) A (call (.builtin "list.append") [.ref D, .int x t]) Q E s :=
  append_any F N U (by rw [hi.length]; exact hl) fun h' a b => h h' a b (intsAre_snoc hi)
theorem all_ne {l : List (Addr × Obj)} {X d : Addr} (h : ∀ p ∈ l, p.1 < X) (hd : @LE.le Nat _ X d) : ∀ p ∈ l, p.1 ≠ d := fun p hp => Nat.ne_of_lt (Nat.lt_of_lt_of_le (h p hp) hd)
theorem of_allLt {d : Nat} : ∀ {l : List (Addr × Obj)}, AllLt d l → ∀ p ∈ l, @LT.lt Nat _ p.1 d
  | [], _ => fun _ h => nomatch h
  | _ :: _, h => fun q hq => (List.mem_cons.mp hq).elim (fun e => e ▸ h.1) fun hq => of_allLt h.2 q hq
theorem all_ne' {l : List (Addr × Obj)} {X d : Nat} (h : ∀ p ∈ l, @LT.lt Nat _ p.1 X) (hd : X ≤ d) : ∀ p ∈ l, p.1 ≠ d := fun p hp => Nat.ne_of_lt (Nat.lt_of_lt_of_le (h p hp) hd)
theorem all_ne_lo {l : List (Addr × Obj)} {X d : Nat} (h : ∀ p ∈ l, @LT.lt Nat _ X p.1) (hd : d ≤ X) : ∀ p ∈ l, p.1 ≠ d := fun p hp => Nat.ne_of_gt (Nat.lt_of_le_of_lt hd (h p hp))
end Mine
end

section
open PySem PySem.W PySem.Calls PyProof.Rows PyProof.V PySem.Spec
open PySem.Sem (wp)
set_option Elab.async false
set_option maxRecDepth 1000000
set_option maxHeartbeats 8000000
set_option linter.all false
namespace Mine
section
variable {prog : Program} {w : World} {A : Around} {E : Value → Shared → Prop} {s : Shared} {env : Env}
theorem wpR_keep {α : Type} {vs : List Value} {m : Sem α} {Q : α → Shared → Prop} (h : wpR (model prog w) A m Q s) : wpR (model prog w) A (m.keep vs) Q s :=
  fun Γ p hΓ hc => by rw [Sem.wp_keep]; exact h Γ p hΓ hc
theorem callWith_R {pos : Pos} {f : Value} {first : List Value} {Q : Value → Shared → Prop} {P : Heap → Prop} {args : List (Bool × Sem Value)} {keywords : List (Option Str × Sem Value)} (hplain : (args.any (·.1) || keywords.any (·.1.isNone)) = false)
    (hk : ∀ h, P h → ∃ k, (k = Keeper.frame ∨ k = Keeper.machine ∨ k = Keeper.boundFrame) ∧ Looks (model prog w) h (keeperOf f) k)
    (h : wpAny (model prog w) A (evalArgs f true args keywords) (fun a s₁ => P s₁.heap ∧ wpR (model prog w) A (call f (first ++ a.pos) a.kw) Q s₁) (fun _ _ => False) s) : wpR (model prog w) A (callWith pos f first args keywords) Q s := by
  unfold callWith
  refine wpR_step (wpAny_holding (wpAny_mono h (fun a s₁ h₁ => wpR_bind (wpR_standAt ?_)) fun _ _ x => x))
  obtain ⟨k, hk', L⟩ := hk _ h₁.1
  simp only [hplain]
  refine wpR_step (L.here ?_)
  have tail : ∀ {t : Sem Value}, wpR (model prog w) A t Q s₁ → wpR (model prog w) A (t >>= fun r => holding [r] point >>= fun _ => pure r) Q s₁ :=
    fun ht => wpR_bind (wpR_mono ht (fun r s₂ hr => wpR_bind (wpR_holding (wpR_point (wpR_pure hr)))))
  have marked (mk : Value) : wpR (model prog w) A (callMarked mk f (first ++ a.pos) a.kw) Q s₁ := by unfold callMarked; exact wpR_keep h₁.2
  rcases hk' with rfl | rfl | rfl <;> dsimp only <;> first | exact tail h₁.2 | (split <;> first | exact tail h₁.2 | exact tail (marked _))
theorem Call_R {id : Str} {p pos : Pos} {args : List PySem.Expr} {keywords : List Keyword} {Q : Value → Shared → Prop}
    (h : wpAny (model prog w) A (eval (.Name id p) env) (fun f s₁ => wpR (model prog w) A (callWith pos f [] (backTo pos (starEach args env)) (backToKw pos (keywordEach keywords env))) Q s₁) (fun _ _ => False) s) :
    wpR (model prog w) A (eval (.Call (.Name id p) args keywords pos) env) Q s := by
  rw [arm_eval_Call_Name']
  exact wpR_step h
theorem BinOp_R {l r : PySem.Expr} {op : Operator} {pos : Pos} {Q : Value → Shared → Prop}
    (h : wpR (model prog w) A (eval l env) (fun a s₁ => wpAny (model prog w) A (eval r env) (fun b s₂ => wpAny (model prog w) A (binaryOp op a b) Q (fun _ _ => False) s₂) (fun _ _ => False) s₁) s) :
    wpR (model prog w) A (eval (.BinOp l op r pos) env) Q s := by
  rw [eval_BinOp]
  refine wpR_bind (wpR_mono h fun a s₁ h₁ => wpR_step (wpAny_holding (wpAny_mono h₁ (fun b s₂ h₂ => wpR_bind (wpR_standAt (wpR_operate (wpR_of h₂)))) fun _ _ x => x)))
theorem Assign_R {x : Str} {pos' pos : Pos} {value : PySem.Expr} {Q : Flow → Shared → Prop}
    (h : wpR (model prog w) A (eval value env) (fun v s₁ => wpAny (model prog w) A (storeName env x v) (fun _ => Q .next) (fun _ _ => False) s₁) s)
    (hs : swapsWith value (some (.Name x pos')) pos.line env = pure false := by rfl) : wpR (model prog w) A (exec (.Assign [.Name x pos'] value pos) env) Q s := by
  rw [exec_Assign_Name env x pos' value pos hs]
  refine wpR_bind (wpR_standAt (wpR_bind (wpR_mono h fun v s₁ h₁ => wpR_bind (wpR_standAt (wpR_step ?_)))))
  exact wpAny_bindName (wpAny_mono h₁ (fun _ _ x => wpR_pure x) fun _ _ x => x)

theorem codeR_forLoop {R : Result → Shared → Prop} {target : PySem.Expr} {it : Value} {body : List Stmt} (I : Nat → Shared → Prop)
    (turn : ∀ n s, I n s → wpAny (model prog w) A (pyNext it) (fun r s₁ => match r with
      | none => R (.ok .next) s₁
      | some v => wpAny (model prog w) A (assign target env v) (fun _ s₂ => wpR (model prog w) A (execs body env) (fun f s₃ => match f with
          | .next | .cont => ∃ m, m < n ∧ I m s₃
          | .brk => R (.ok .next) s₃
          | .ret v => R (.ok (.ret v)) s₃) s₂) (fun _ _ => False) s₁) (fun _ _ => False) s)
    (n : Nat) (h : I n s) (ht : ∀ v, letOwnedTupleGo target it v = pure () := by intro _; rfl) : codeR (model prog w) A (.forLoop target it body [] env) R s := by
  refine codeR_loop rfl rfl I (fun n s hI => ?_) n h
  show wpR _ A ((forTurn target it body [] env).onRaise (fun x => do noteFrame x env; theTreesLotGoes x)) _ s
  refine wpR_onRaise ?_
  simp only [forTurn]
  refine wpR_bind (wpR_standAt (wpR_bind (wpR_onRaise (wpR_of (wpAny_mono (turn n s hI) (fun r s₁ h₁ => ?_) fun _ _ h' => h')))))
  cases r with
  | none => exact wpR_pure (.inr ⟨rfl, codeR_block (wpR_of (wpAny_execs_nil h₁))⟩)
  | some v =>
    refine wpR_step (wpAny_of_eq (ht v) ?_)
    refine wpR_step (wpAny_mono h₁ (fun _ s₂ h₂ => wpR_bind (wpR_mono h₂ (fun f s₃ h₃ => ?_))) fun _ _ h' => h')
    cases f with
    | next => exact wpR_pure (.inl ⟨rfl, h₃⟩)
    | cont => exact wpR_pure (.inl ⟨rfl, h₃⟩)
    | brk => exact wpR_pure h₃
    | ret v => exact wpR_pure h₃
theorem For_R {target iter : PySem.Expr} {body : List Stmt} {pos : Pos} {Q : Flow → Shared → Prop}
    (h : wpAny (model prog w) A (eval iter env) (fun x s₁ => wpAny (model prog w) A (pyIter x) (fun it s₂ =>
      codeR (model prog w) A (.forLoop target it body [] env) (fun r s' => match r with | .ok f => Q f s' | .error e => False) s₂) (fun _ _ => False) s₁) (fun _ _ => False) s)
    (hs : ∀ x, foldedSetIterable iter env x = pure x := by intro _; rfl) : wpR (model prog w) A (exec (.For target iter body [] pos) env) Q s := by
  rw [exec_For]
  exact wpR_bind (wpR_standAt (wpR_step (wpAny_mono h (fun x s₁ h₁ => wpR_step (wpAny_of_eq (hs x) (wpR_bind (wpR_standAt (wpR_step (wpAny_holding
    (wpAny_mono h₁ (fun it s₂ h₂ => wpR_runOwn h₂) fun _ _ h' => h'))))))) fun _ _ h' => h')))

end
end Mine
end

section
open PySem PySem.W PySem.Calls PyProof.Rows PyProof.V PySem.Spec
open PySem.Sem (wp)
set_option Elab.async false
set_option maxRecDepth 1000000
set_option maxHeartbeats 8000000
set_option linter.all false
namespace Mine
theorem post_pt (w : World) {s₁ : Shared} {cw : ClaimW} {cl : Str → Option Addr} {mean : ExcName → Option Value} {args : List WData} {tabs : List (Addr × Addr)} (hT : TabsAt tabs s₁.heap) (hr : ∀ a x, cw.raises a x = false)
    {r : Result} {s' : Shared} (h : GoodW cw cl mean args { s₁ with heap := ghostOf s₁.heap tabs } r s' ∧ GrownAll tabs s'.heap) : GoodWG cw cl mean args s₁ r s' := by
  let M : Model := ⟨fun _ => (match r with | .ok f => pure (PySem.Fin.done f) | .error e => throw e : Sem PySem.Fin), default, w⟩
  have h1 : codeAny M {} (.block [] default) (fun r s' => GoodW cw cl mean args { s₁ with heap := ghostOf s₁.heap tabs } r s' ∧ GrownAll tabs s'.heap) s' := by
    refine codeAny_of_tree ?_
    show wpAny M _ (match r with | .ok f => pure (PySem.Fin.done f) | .error e => throw e : Sem PySem.Fin) _ _ _
    cases r with
    | ok f => exact wpAny_pure h
    | error e => exact wpAny_throw h
  have h2 := kn_post (M := M) (A := {}) (cd := .block [] default) (s := s') hT hr h1
  have h3 := h2 ⟨.block [] default, none, none, [], none⟩ default rfl ⟨rfl, Nat.le_refl _, fun l e => (nomatch e), fun l e => (nomatch e), Nat.zero_le _⟩
  rw [wpCode_iff_wp] at h3
  change wp M _ (match r with | .ok f => pure (PySem.Fin.done f) | .error e => throw e : Sem PySem.Fin) _ _ _ _ at h3
  cases r with
  | ok f => exact h3
  | error e => exact h3
theorem call_fullR {prog : Program} {w : World} {A : Around} {R : Result → Shared → Prop} {s : Shared} {name : Str} {params : Arguments} {body : List Stmt} {scope : Scope}
    {dV kV pm cd doc : Value} {a : Addr} {o : Obj} {args : Args} {binds : List (Str × Value)}
    (hroom : A.depth < recursionLimit) (ho : s.heap.get? a = some o) (hdata : o.data = .func { docDef name params body scope pm cd doc with defaults := dV, kwdefaults := kV }) (hlim : s.heap.NoLimit) (hcd : s.heap.CodeRec cd name)
    (hbind : BindsTo s { docDef name params body scope pm cd doc with defaults := dV, kwdefaults := kV } args binds)
    (hloc : ∀ x ∈ binds, scope.names.lookup x.1 = some .local)
    (h : ∀ h₁, Fr s.heap s.heap.objs.size h₁ (fun x => binds.reverse.lookup x) →
      wpR (model prog w) (A.deeper (envOf name scope s.heap.objs.size a cd)) (execs body (envOf name scope s.heap.objs.size a cd))
        (fun f s' => R (.ok (.ret (match f with | .ret v => v | _ => .none))) s') { s with heap := h₁, toks := s.toks + binds.length })
    (hco : scope.isCoroutine = false := by rfl) (hgen : scope.isGenerator = false := by rfl) (hk : scope.kind = .function := by rfl)
    (hcell : ∀ x ∈ scope.names, x.2 ≠ .cell := by decide) : codeR (model prog w) A (.call (.ref a) args) R s :=
  codeR_call_def hroom ho hdata hlim hcd rfl hbind hcell hloc (fun h₀ hns hk₀ => h h₀ ⟨hns, hk₀, Nat.le_refl _⟩) hco hgen hk
theorem call_cellsR {prog : Program} {w : World} {A : Around} {R : Result → Shared → Prop} {s : Shared} {name : Str} {params : Arguments} {body : List Stmt} {scope : Scope}
    {pm cd doc : Value} {a : Addr} {o : Obj} {args : List Value} {binds : List (Str × Value)}
    (hroom : A.depth < recursionLimit) (ho : s.heap.get? a = some o) (hdata : o.data = .func (docDef name params body scope pm cd doc)) (hlim : s.heap.NoLimit) (hcd : s.heap.CodeRec cd name)
    (hbind : bindArgs (docDef name params body scope pm cd doc) ⟨args, []⟩ = pure binds)
    (hkind : ∀ x ∈ binds, scope.names.lookup x.1 = some .local ∨ (scope.names.lookup x.1 = some .cell ∧ ((cellsFrom (s.heap.objs.size + 1) scope.names []).lookup x.1).isSome = true))
    (hnd : ((cellsFrom 0 scope.names []).map (·.1)).Nodup)
    (h : ∀ h₁ tk cells, Fr s.heap s.heap.objs.size h₁ (bindL (envOfC name scope s.heap.objs.size a cd).kindOf binds fun _ => none) → News s.heap s.heap.objs.size h₁ cells →
      CellsAre (bindC (envOfC name scope s.heap.objs.size a cd).kindOf binds fun _ => none) (cellsFrom (s.heap.objs.size + 1) scope.names []) cells →
      wpR (model prog w) (A.deeper (envOfC name scope s.heap.objs.size a cd)) (execs body (envOfC name scope s.heap.objs.size a cd))
        (fun f s' => R (.ok (.ret (match f with | .ret v => v | _ => .none))) s') { s with heap := h₁, toks := tk })
    (hco : scope.isCoroutine = false := by rfl) (hgen : scope.isGenerator = false := by rfl) (hk : scope.kind = .function := by rfl) :
    codeR (model prog w) A (.call (.ref a) ⟨args, []⟩) R s := by
  refine codeR_call_function hroom ho hdata hco hgen rfl hcd (BindsTo.of_eq hbind _ _ _ _ ?_)
  refine wpAny_newFunctionEnv_cells hk hkind fun env' he s' X => ?_
  subst he
  refine ⟨hlim.keeps X.toInCall.keep, codeR_func ?_⟩
  obtain ⟨h₁, tk, rfl, _⟩ := X.done
  have hk₁ := X.toInCall.keep
  obtain ⟨cells, NC, Y⟩ := Cl.news (h₀ := s.heap) (Nat.le_refl _) fun n c hm => ⟨X.cell n c (lookup_of_mem_nodup (cellsFrom_names scope.names 0 (s.heap.objs.size + 1) [] [] rfl ▸ hnd) hm), X.above n c hm⟩
  exact h h₁ tk cells ⟨X.toInCall.ns, hk₁, Nat.le_refl _⟩ NC Y
theorem enter_R {prog : Program} {w : World} {f : Value} {vals : List Value} {s₁ : Shared} {cw : ClaimW} {cl : Str → Option Addr} {mean : ExcName → Option Value} {args : List WData} {tabs : List (Addr × Addr)} (hT : TabsAt tabs s₁.heap) (hr : ∀ a x, cw.raises a x = false)
    (h : codeR (model prog w) callerA (.call f ⟨vals, []⟩) (fun r s' => match r with | .ok (.ret v) => GoodW cw cl mean args { s₁ with heap := ghostOf s₁.heap tabs } (.ok (.ret v)) s' ∧ GrownAll tabs s'.heap | _ => False) s₁) :
    wpR (model prog w) callerA (PySem.call f vals) (fun v s' => GoodWG cw cl mean args s₁ (.ok (.ret v)) s') s₁ := by
  refine wpR_call (codeR_mono h fun r s' hr' => ?_)
  cases r with
  | error e => exact hr'
  | ok fl =>
    cases fl with
    | ret v => exact post_pt w hT hr hr'
    | _ => exact hr'
end Mine
end

section
open PySem PySem.W PySem.Calls PyProof.Rows PyProof.V PySem.Spec
open PySem.Sem (wp)
set_option Elab.async false
set_option maxRecDepth 1000000
set_option maxHeartbeats 8000000
set_option linter.all false
namespace Mine
noncomputable abbrev baObj (b : Array UInt8) : Obj := { cls := .type "bytearray", data := .bytearray b }
theorem ba_slot_set : Slot "bytearray" "__setitem__" "bytearray.__setitem__" :=
  .of (owner := "bytearray") (n := "__setitem__") (by rw [typeLookup_type, builtinLookup_eq_fast]; kernel_rfl) (by decide +kernel) (by decide +kernel) (by decide +kernel)
    (by first | exact .inl (by decide +kernel) | exact .inr (by decide +kernel)) (by rw [isSubtype_type]; kernel_rfl)
theorem ba_entry_set : entryFor table "bytearray.__setitem__" = some Builtin.«bytearray.__setitem__» := by first | exact entryFor_of_fast (by kernel_rfl) | exact entryFor_of_tree (by kernel_rfl)
theorem ba_args_set (a b c : Value) : argsOk "bytearray.__setitem__" ⟨[a, b, c], []⟩ := by unfold argsOk; kernel_rfl
theorem ba_no_bytes : typeLookup (.type "bytearray") "__bytes__" = pure none := by rw [typeLookup_type, builtinLookup_eq_fast]; kernel_rfl
theorem ba_no_index : typeLookup (.type "bytearray") "__index__" = pure none := by rw [typeLookup_type, builtinLookup_eq_fast]; kernel_rfl
theorem ba_buffer : typeLookup (.type "bytearray") "__buffer__" = pure (some (.builtin "bytearray.__buffer__")) := by rw [typeLookup_type, builtinLookup_eq_fast]; kernel_rfl
section
variable {prog : Program} {w : World} {A : Around} {E : Value → Shared → Prop} {s : Shared}
theorem ba_subscript {k : Int} {t : Tok} {Q : Option Int → Shared → Prop} (h0 : 0 ≤ k) (h1 : k < 1000) (h : Q (some k) s) : wpAny (model prog w) A (Builtin.Bytes.subscript? (.int k t)) Q E s := by
  have hf : Builtin.Bytes.fitsIndex k = true := by
    unfold Builtin.Bytes.fitsIndex
    simp only [Bool.and_eq_true, decide_eq_true_eq]
    constructor <;> omega
  unfold Builtin.Bytes.subscript?
  refine wpAny_bind (wpAny_specialOf (T := "int") rfl ba_int_index ?_)
  refine bm_if_false rfl ?_
  refine wpAny_bind (wpAny_of_eq (rfl : asIndex (.int k t) = pure k) ?_)
  refine bm_if_false (by rw [hf]; rfl) ?_
  exact wpAny_pure h
theorem ba_setItem {a : Addr} {b : Array UInt8} {k v : Int} {t u : Tok} {Q : Unit → Shared → Prop} (hb : s.heap.get? a = some (baObj b)) (h0 : 0 ≤ k) (h1 : k < b.size) (hz : b.size < 1000) (v0 : 0 ≤ v) (v1 : v < 256)
    (h : ∀ h', h'.get? a = some (baObj (b.setIfInBounds k.toNat v.toNat.toUInt8)) → Heap.SameBut a s.heap h' → Q () { s with heap := h' }) : wpAny (model prog w) A (setItem (.ref a) (.int k t) (.int v u)) Q E s := by
  have hT : s.TypeIs (.ref a) "bytearray" := ⟨_, hb, rfl⟩
  unfold setItem
  try with_reducible refine wpAny_holding ?_
  first | refine wpAny_bind (wpAny_pure ?_) | skip
  refine wpAny_bind (wpAny_sequenceKey hT (by decide) ?_)
  refine wpAny_bind (wpAny_callSpecial?_slot (name := Str.ofString "__setitem__") hT ba_slot_set
    (wpAny_call_entry ba_slot_set hT ba_entry_set ?_ (ba_args_set _ _ _)))
  unfold Builtin.«bytearray.__setitem__»
  refine bm_if_false rfl ?_
  dsimp only
  refine wpAny_bind (ba_subscript h0 (by omega) ?_)
  dsimp only
  unfold Builtin.Bytes.byteValue
  refine wpAny_bind (wpAny_bind (wpAny_of_eq (rfl : asIndex (.int v u) = pure v) ?_))
  refine bm_if_false (by simp only [Bool.or_eq_false_iff, decide_eq_false_iff_not]; omega) ?_
  refine wpAny_pure ?_
  unfold Builtin.Bytes.payload Builtin.Bytes.payload?
  refine wpAny_bind (wpAny_bind (wpAny_bind (wpAny_load hb ?_)))
  refine wpAny_pure (wpAny_pure ?_)
  dsimp only
  have hs : seqIndex? k b.size = some k.toNat := by
    unfold seqIndex?
    rw [if_neg (show ¬ k < 0 by omega)]
    rw [if_pos (by simp only [Bool.and_eq_true, decide_eq_true_eq]; omega)]
  rw [hs]
  dsimp only
  refine wpAny_bind (write_ba hb ?_ ?_)
  · rw [Array.size_setIfInBounds]
    exact Nat.le_trans (Nat.le_of_lt hz) (by decide)
  · refine wpAny_pure ⟨_, rfl, ?_⟩
    refine wpAny_pure (h _ (Heap.get?_update_self (Obj.mapBytearray (·.setIfInBounds k.toNat v.toNat.toUInt8)) hb rfl) (Heap.SameBut.update ..))

theorem ba_bytes {a : Addr} {b : Array UInt8} {Q : Value → Shared → Prop} (hb : s.heap.get? a = some (baObj b)) (hz : b.size < 1000) (h : ∀ t k, Q (.bytes b t) { s with toks := k }) :
    wpAny (model prog w) A (call (.type "bytes") [.ref a]) Q E s := by
  have hT : s.TypeIs (.ref a) "bytearray" := ⟨_, hb, rfl⟩
  refine callType_codes F.bm_called (F.bm_typeCall _) F.entry_object_init (Q₁ := fun obj s₁ => s₁.TypeIs obj "bytes" ∧ Q obj s₁) ?_ fun obj s₁ h₁ => ⟨h₁.1, F.args_object_init_2 obj _, object_init_meets F.bm_called.init.lookup F.bm_called.made (by decide) prog w A.in1 _ s₁ ⟨h₁.1, rfl, h₁.2⟩⟩
  · refine codeAny_of_tree ?_
    show wpAny _ A.in1.in1 (do checkBuiltinCall "bytes.__new__" ⟨[.type "bytes", .ref a], []⟩; again (.builtin "bytes.__new__" ⟨[.type "bytes", .ref a], []⟩)) _ _ s
    refine wpAny_bind (wpAny_of_eq (F.bm_newCall _) (wpAny_pure ⟨plainId_quiet F.bm_plain _, codeAny_builtin F.bm_entry ?_⟩))
    rw [Around.under_plainId F.bm_plain _]
    unfold Builtin.«bytes.__new__»
    refine wpAny_bind (wpAny_of_eq (a := true) rfl ?_)
    refine bm_if_false rfl ?_
    refine wpAny_bind (wpAny_of_eq F.bm_sub ?_)
    refine bm_if_false rfl ?_
    refine wpAny_bind (wpAny_of_eq (F.bm_bind _) ?_)
    refine wpAny_bind (wpAny_of_eq (a := ()) rfl ?_)
    refine wpAny_bind (wpAny_of_eq (a := ()) rfl ?_)
    refine bm_if_false rfl ?_
    refine wpAny_bind (wpAny_specialOf hT ba_no_bytes ?_)
    refine wpAny_bind (wpAny_bind ?_)
    show wpAny _ _ (load a >>= _) _ _ _
    refine wpAny_bind (wpAny_load hb ?_)
    refine wpAny_pure (wpAny_pure ?_)
    refine bm_if_false rfl ?_
    refine wpAny_bind (wpAny_specialOf hT ba_no_index ?_)
    refine bm_if_true rfl ?_
    first
      | show wpAny _ _ (Builtin.Bytes.buffer? "bytes.__new__" (.ref a) true >>= _) _ _ _
      | (refine wpAny_bind ?_; show wpAny _ _ (Builtin.Bytes.buffer? "bytes.__new__" (.ref a) true >>= _) _ _ _)
    refine wpAny_bind ?_
    unfold Builtin.Bytes.buffer?
    refine wpAny_bind (wpAny_specialOf hT ba_buffer ?_)
    dsimp only
    have hown : ∀ (name : String) (id : String) (Q : Bool → Shared → Prop) (E : Value → Shared → Prop) (A : Around), typeLookup (.type "bytearray") (Str.ofString name) = pure (some (.builtin id)) → id.endsWith ("." ++ name) = true → id.dropRight (name.length + 1) = "bytearray" → Q true s → wpAny (model prog w) A (Builtin.Bytes.slotIsOwn (.ref a) name) Q E s := by
      intro name id Q E A h1 h2 h3 hq
      unfold Builtin.Bytes.slotIsOwn
      refine wpAny_bind (wpAny_specialOf hT h1 ?_)
      dsimp only
      refine bm_if_false (by rw [h2]; rfl) ?_
      rw [h3]
      exact wpAny_isInstance hT ba_sub hq
    refine wpAny_bind (hown "__buffer__" _ _ _ _ ba_buffer (by decide +kernel) (by decide +kernel) ?_)
    refine bm_if_false rfl ?_
    refine wpAny_bind (wpAny_specialOf hT ba_buffer ?_)
    unfold Builtin.Bytes.ownRelease
    refine wpAny_bind (wpAny_bind (hown "__release_buffer__" _ _ _ _ ba_release (by decide +kernel) (by decide +kernel) ?_))
    refine wpAny_pure ?_
    refine bm_if_false rfl ?_
    unfold Builtin.Bytes.payload Builtin.Bytes.payload?
    refine wpAny_bind (wpAny_bind (wpAny_bind (wpAny_load hb ?_)))
    refine wpAny_pure (wpAny_pure (wpAny_pure ?_))
    refine wpAny_bind (wpAny_rule ?_)
    refine wpAny_bind (wpAny_mkBytes ?_ (Nat.le_trans (Nat.le_of_lt hz) (by decide)))
    show wpAny _ _ (if (Value.type "bytes" == Value.type "bytes") = true then _ else _) _ _ _
    refine bm_if_true (by decide) ?_
    first
      | exact wpAny_pure ⟨PySem.W.typeIs_bytes _ _ _, h _ _⟩
      | exact wpAny_bind (wpAny_pure (wpAny_pure ⟨PySem.W.typeIs_bytes _ _ _, h _ _⟩))
end
theorem fr_keeps {h₀ h h' : Heap} {L : Addr} {m : Str → Option Value} (F : Fr h₀ L h m) (k : ∀ b o, h.get? b = some o → h'.get? b = some o) : Fr h₀ L h' m := ⟨F.ns.keeps k, fun b o e => k b o (F.keep b o e), F.above⟩
theorem news_keeps {h₀ h h' : Heap} {L : Addr} {news : List (Addr × Obj)} (N : News h₀ L h news) (k : ∀ b o, h.get? b = some o → h'.get? b = some o) : News h₀ L h' news := fun p hp => ⟨k _ _ (N p hp).1, (N p hp).2⟩
theorem news_push {h₀ h h' : Heap} {L : Addr} {m : Str → Option Value} {news : List (Addr × Obj)} {o : Obj} (F : Fr h₀ L h m) (N : News h₀ L h news) (k : ∀ b o, h.get? b = some o → h'.get? b = some o) (ho : h'.get? h.objs.size = some o) : News h₀ L h' ((h.objs.size, o) :: news) := fun p hp => by
  rcases List.mem_cons.mp hp with rfl | hp
  · exact ⟨ho, fun e => absurd F.ns.lt (e ▸ Nat.lt_irrefl _), next_is_new F⟩
  · exact ⟨k _ _ (N p hp).1, (N p hp).2⟩
noncomputable def RevTo (b c : Array UInt8) (j : Nat) : Prop := c.size = b.size ∧ ∀ x, x < j → c[b.size - 1 - x]? = b[x]?
theorem RevTo.zero {b c : Array UInt8} (h : c.size = b.size) : RevTo b c 0 := ⟨h, fun x hx => absurd hx (Nat.not_lt_zero _)⟩
theorem RevTo.step {b c : Array UInt8} {j : Nat} {v : UInt8} (h : RevTo b c j) (hj : j < b.size) (hv : b[j]? = some v) : RevTo b (c.setIfInBounds (b.size - 1 - j) v) (j + 1) := by
  refine ⟨by rw [Array.size_setIfInBounds]; exact h.1, fun x hx => ?_⟩
  rw [Array.getElem?_setIfInBounds]
  by_cases e : b.size - 1 - j = b.size - 1 - x
  · obtain rfl : x = j := by
      have a := Nat.sub_sub_self (Nat.le_sub_one_of_lt hj)
      rw [e, Nat.sub_sub_self (Nat.le_trans (Nat.le_of_lt_succ hx) (Nat.le_sub_one_of_lt hj))] at a
      exact a
    rw [if_pos rfl, if_pos (by rw [h.1]; omega), hv]
  · rw [if_neg e]
    exact h.2 x (Nat.lt_of_le_of_ne (Nat.le_of_lt_succ hx) fun a => e (by rw [a]))
theorem RevTo.done {b c : Array UInt8} (h : RevTo b c b.size) : c = b.reverse := by
  apply Array.ext
  · rw [h.1, Array.size_reverse]
  · intro i h1 h2
    rw [Array.getElem_reverse]
    have := h.2 (b.size - 1 - i) (by have := h.1; omega)
    rw [Nat.sub_sub_self (Nat.le_sub_one_of_lt (h.1 ▸ h1)), Array.getElem?_eq_getElem h1, Array.getElem?_eq_getElem (by have := h.1; omega)] at this
    exact Option.some.inj this
end Mine
end

section
open PySem PySem.W PySem.Calls PyProof.Rows PyProof.V PySem.Spec
set_option Elab.async false
set_option maxRecDepth 100000
set_option maxHeartbeats 8000000
namespace Mine
noncomputable abbrev innerA : { f : Str → List (Str × Addr) → Value → Value → Addr → Value → Obj // ∃ (n : Str) (p : Arguments) (b : List Stmt) (dl : List PySem.Expr) (re : Option PySem.Expr) (tp : List TypeParam) (s : Scope) (ts : Option Scope) (bd : Str) (q : Pos) (r : List Stmt) (n' : Str) (p' : Arguments) (b' : List Stmt) (dl' : List PySem.Expr) (re' : Option PySem.Expr) (tp' : List TypeParam) (s' : Scope) (ts' : Option Scope) (bd' : Str) (q' : Pos) (r' : List Stmt),
    f = (fun q cl doc pm k ct => fnMade n q p b s cl doc pm k ct) ∧ List.drop 8 PySem.Challenge.pw_xp0023_01.main.body = .FunctionDef n' p' b' dl' re' tp' s' ts' bd' q' :: r' ∧ List.drop 1 b' = .FunctionDef n p b dl re tp s ts bd q :: r } := ⟨_, _, _, _, _, _, _, _, _, _, _, _, _, _, _, _, _, _, _, _, _, _, _, rfl, rfl, rfl⟩
noncomputable abbrev innerB : { f : Str → List (Str × Addr) → Value → Value → Addr → Value → Obj // ∃ (n : Str) (p : Arguments) (b : List Stmt) (dl : List PySem.Expr) (re : Option PySem.Expr) (tp : List TypeParam) (s : Scope) (ts : Option Scope) (bd : Str) (q : Pos) (r : List Stmt) (n' : Str) (p' : Arguments) (b' : List Stmt) (dl' : List PySem.Expr) (re' : Option PySem.Expr) (tp' : List TypeParam) (s' : Scope) (ts' : Option Scope) (bd' : Str) (q' : Pos) (r' : List Stmt),
    f = (fun q cl doc pm k ct => fnMade n q p b s cl doc pm k ct) ∧ List.drop 9 PySem.Challenge.pw_xp0023_01.main.body = .FunctionDef n' p' b' dl' re' tp' s' ts' bd' q' :: r' ∧ List.drop 0 b' = .FunctionDef n p b dl re tp s ts bd q :: r } := ⟨_, _, _, _, _, _, _, _, _, _, _, _, _, _, _, _, _, _, _, _, _, _, _, rfl, rfl, rfl⟩
noncomputable abbrev fnA (q : PySem.Str) (cl : List (PySem.Str × Addr)) (doc pm : Value) (c' : Addr) (ct : Value) : Obj := innerA.1 q cl doc pm c' ct
noncomputable abbrev fnB (q : PySem.Str) (cl : List (PySem.Str × Addr)) (doc pm : Value) (c' : Addr) (ct : Value) : Obj := innerB.1 q cl doc pm c' ct
noncomputable def tabA : Option (Addr × Obj) → List (Addr × Obj)
  | none => [(120, tabObj #[])]
  | some p => [(120, tabObj #[rawInt 71, rawInt 4, .ref p.1]), p]
noncomputable def OkA : Option (Addr × Obj) → Prop
  | none => True
  | some p => ∃ vst t, p.2.data = .fields vst ∧ vst[1]? = some (.str "_int2digits.<locals>.inner" t)
noncomputable def tabB : Option (Addr × Obj) → List (Addr × Obj)
  | none => [(127, tabObj #[])]
  | some p => [(127, tabObj #[rawInt 86, rawInt 4, .ref p.1]), p]
noncomputable def OkB : Option (Addr × Obj) → Prop
  | none => True
  | some p => ∃ vst t, p.2.data = .fields vst ∧ vst[1]? = some (.str "_digits2int.<locals>.inner" t)
noncomputable def TGo (news T T' : List (Addr × Obj)) : Prop := ∀ p ∈ T', (∃ q ∈ T, q.1 = p.1) ∨ ∀ q ∈ news, @LT.lt Nat _ q.1 p.1
theorem TGo.refl {news T : List (Addr × Obj)} : TGo news T T := fun p hp => .inl ⟨p, hp, rfl⟩
theorem TGo.trans {news news' T T' T'' : List (Addr × Obj)} (a : TGo news T T') (b : TGo news' T' T'') (h : ∀ p ∈ news, p ∈ news') : TGo news T T'' := fun p hp => by
  rcases b p hp with ⟨q, hq, e⟩ | hb
  · rcases a q hq with ⟨r, hr, e2⟩ | ha
    · exact .inl ⟨r, hr, e2.trans e⟩
    · exact .inr fun x hx => e ▸ ha x hx
  · exact .inr fun x hx => hb x (h x hx)
theorem TGo.weak {news news' T T' : List (Addr × Obj)} (a : TGo news T T') (h : ∀ p ∈ news', p ∈ news) : TGo news' T T' := fun p hp => (a p hp).imp id fun b q hq => b q (h q hq)
theorem TGo.ne {news T T' : List (Addr × Obj)} {x : Addr} (a : TGo news T T') (h1 : ∀ q ∈ T, q.1 ≠ x) (h2 : ∃ p ∈ news, p.1 = x) : ∀ q ∈ T', q.1 ≠ x := fun q hq => by
  rcases a q hq with ⟨r, hr, e⟩ | hb
  · exact e ▸ h1 r hr
  · obtain ⟨p, hp, rfl⟩ := h2
    exact Nat.ne_of_gt (hb p hp)
theorem tabA_mem {st : Option (Addr × Obj)} : ∃ p ∈ tabA st, p.1 = 120 := by cases st <;> exact ⟨_, .head _, rfl⟩
theorem tabB_mem {st : Option (Addr × Obj)} : ∃ p ∈ tabB st, p.1 = 127 := by cases st <;> exact ⟨_, .head _, rfl⟩
theorem TGo.far {news T T' : List (Addr × Obj)} {x : Addr} (a : TGo news T T') (h1 : ∀ q ∈ T, q.1 ≠ x) (h2 : ∃ p ∈ news, @LE.le Nat _ x p.1) : ∀ q ∈ T', q.1 ≠ x := fun q hq => by
  rcases a q hq with ⟨r, hr, e⟩ | hb
  · exact e ▸ h1 r hr
  · obtain ⟨p, hp, hx⟩ := h2
    exact Nat.ne_of_gt (Nat.lt_of_le_of_lt hx (hb p hp))
noncomputable def SepAB (st1 st2 : Option (Addr × Obj)) : Prop := (∀ q ∈ tabB st2, q.1 ≠ 120) ∧ ∀ q ∈ tabA st1, q.1 ≠ 127
theorem SepAB.go {news : List (Addr × Obj)} {st1 st2 st1' st2' : Option (Addr × Obj)} (h : SepAB st1 st2) (a : TGo news (tabA st1) (tabA st1')) (b : TGo news (tabB st2) (tabB st2')) (hx : ∃ p ∈ news, @LT.lt Nat _ 127 p.1) : SepAB st1' st2' :=
  ⟨b.far h.1 (let ⟨p, hp, l⟩ := hx; ⟨p, hp, Nat.le_trans (by decide) (Nat.le_of_lt l)⟩), a.far h.2 (let ⟨p, hp, l⟩ := hx; ⟨p, hp, Nat.le_of_lt l⟩)⟩
theorem SepAB.ne1 {news : List (Addr × Obj)} {st1 st2 : Option (Addr × Obj)} (h : SepAB st1 st2) (hlo : ∀ q ∈ news, @LT.lt Nat _ 127 q.1) : ∀ q ∈ tabB st2 ++ news, q.1 ≠ 120 :=
  List.forall_mem_append.mpr ⟨h.1, fun q hq => Nat.ne_of_gt (Nat.lt_trans (by decide) (hlo q hq))⟩
theorem SepAB.ne2 {news : List (Addr × Obj)} {st1 st2 : Option (Addr × Obj)} (h : SepAB st1 st2) (hlo : ∀ q ∈ news, @LT.lt Nat _ 127 q.1) : ∀ q ∈ tabA st1 ++ news, q.1 ≠ 127 :=
  List.forall_mem_append.mpr ⟨h.2, fun q hq => Nat.ne_of_gt (hlo q hq)⟩
noncomputable def NoTab (news : List (Addr × Obj)) : Prop := ∀ q ∈ news, q.1 ≠ 120 ∧ q.1 ≠ 127
theorem NoTab.of {news : List (Addr × Obj)} (hlo : ∀ q ∈ news, @LT.lt Nat _ 127 q.1) : NoTab news := fun q hq => ⟨Nat.ne_of_gt (Nat.lt_trans (by decide) (hlo q hq)), Nat.ne_of_gt (hlo q hq)⟩
theorem NoTab.cons {p : Addr × Obj} {news : List (Addr × Obj)} (h1 : p.1 ≠ 120 ∧ p.1 ≠ 127) (h : NoTab news) : NoTab (p :: news) := List.forall_mem_cons.mpr ⟨h1, h⟩
theorem NoTab.off {I : Addr} {news : List (Addr × Obj)} {st1 st2 : Option (Addr × Obj)} (h1 : ∀ q ∈ tabA st1, q.1 ≠ I) (h2 : ∀ q ∈ tabB st2, q.1 ≠ I) : I ≠ 120 ∧ I ≠ 127 := by
  obtain ⟨p, hp, e⟩ := tabA_mem (st := st1)
  obtain ⟨q, hq, e2⟩ := tabB_mem (st := st2)
  exact ⟨fun x => h1 p hp (e.trans x.symm), fun x => h2 q hq (e2.trans x.symm)⟩
theorem SepAB.n1 {news : List (Addr × Obj)} {st1 st2 : Option (Addr × Obj)} (h : SepAB st1 st2) (hlo : NoTab news) : ∀ q ∈ tabB st2 ++ news, q.1 ≠ 120 := List.forall_mem_append.mpr ⟨h.1, fun q hq => (hlo q hq).1⟩
theorem SepAB.n2 {news : List (Addr × Obj)} {st1 st2 : Option (Addr × Obj)} (h : SepAB st1 st2) (hlo : NoTab news) : ∀ q ∈ tabA st1 ++ news, q.1 ≠ 127 := List.forall_mem_append.mpr ⟨h.2, fun q hq => (hlo q hq).2⟩
theorem TGo.off {news T T' : List (Addr × Obj)} {I : Addr} {oI : Obj} (a : TGo news T T') (h1 : ∀ q ∈ T, q.1 ≠ I) (h2 : (I, oI) ∈ news) : ∀ q ∈ T', q.1 ≠ I := a.far h1 ⟨_, h2, Nat.le_refl _⟩
end Mine
end

section
open PySem PySem.W PySem.StrLaws
open Builtin Builtin.Str
set_option linter.all false
namespace Mine
noncomputable def repl (c : Nat) (z : List Nat) (l : List Nat) : List Nat := l.flatMap fun k => if k = c then z else [k]
theorem repl_append (c : Nat) (z a b : List Nat) : repl c z (a ++ b) = repl c z a ++ repl c z b := List.flatMap_append ..
theorem repl_free {c : Nat} {z : List Nat} : ∀ {l : List Nat}, c ∉ l → repl c z l = l
  | [], _ => rfl
  | k :: r, h => by
    show (if k = c then z else [k]) ++ repl c z r = k :: r
    rw [if_neg (fun e : k = c => h (by rw [e]; exact List.mem_cons_self ..)), repl_free fun m => h (List.mem_cons_of_mem _ m)]
    rfl
theorem repl_join (c : Nat) (z : PySem.Str) : ∀ parts : List PySem.Str, (∀ p ∈ parts, c ∉ p.cps.toList) → repl c z.cps.toList (PySem.Str.join ⟨#[c]⟩ parts).cps.toList = (PySem.Str.join z parts).cps.toList
  | [], _ => rfl
  | [p], h => repl_free (h p (List.mem_singleton.mpr rfl))
  | p :: q :: r, h => by
    have ih := repl_join c z (q :: r) fun a ha => h a (List.mem_cons_of_mem _ ha)
    show repl c z.cps.toList (p ++ ⟨#[c]⟩ ++ PySem.Str.join ⟨#[c]⟩ (q :: r)).cps.toList = (p ++ z ++ PySem.Str.join z (q :: r)).cps.toList
    simp only [PySem.Str.cps_append, Array.toList_append]
    rw [repl_append, repl_append, ih, repl_free (h p (List.mem_cons_self ..))]
    show p.cps.toList ++ repl c z.cps.toList [c] ++ _ = _
    rw [show repl c z.cps.toList [c] = z.cps.toList by simp [repl]]
theorem replace_repl (x z : PySem.Str) (c : Nat) : (Txt.replace x ⟨#[c]⟩ z).cps.toList = repl c z.cps.toList x.cps.toList := by
  rw [replace_one, ← repl_join c z _ (split_free x c), join_split]
theorem repl_length {c : Nat} {z : List Nat} {n : Nat} (hz : z.length ≤ n) (hn : 1 ≤ n) : ∀ {l : List Nat}, (repl c z l).length ≤ n * l.length
  | [] => Nat.le_refl _
  | k :: r => by
    show ((if k = c then z else [k]) ++ repl c z r).length ≤ n * (r.length + 1)
    have ih := repl_length (c := c) hz hn (l := r)
    rw [List.length_append, Nat.mul_succ]
    split
    · omega
    · show 1 + _ ≤ _; omega
theorem repl_stay {c : Nat} {z : List Nat} {X y : PySem.Str} (hy : y = ⟨#[c]⟩) (h : (Builtin.Str.occurrences X y 0 X.length 1).isEmpty = true) : repl c z X.cps.toList = X.cps.toList := by
  subst hy
  have := found_one X c
  rw [h] at this
  exact repl_free fun hm => absurd (decide_eq_true hm) (by rw [← this]; decide)
noncomputable def escL (l : List Nat) : List Nat := repl 13 [38, 35, 120, 68, 59] (repl 62 [38, 103, 116, 59] (repl 60 [38, 108, 116, 59] (repl 38 [38, 97, 109, 112, 59] l)))
section
variable {prog : Program} {w : World} {A : Around} {E : Value → Shared → Prop} {s : Shared} {X y z : PySem.Str} {t u v : Tok} {Q : Value → Shared → Prop}
theorem rep_rule (B c : Nat) (zl : List Nat) (hu : @LT.lt Nat _ 0 u) (hv : @LT.lt Nat _ 0 v) (huv : @LT.lt Nat _ u v) (hy : y = ⟨#[c]⟩) (hz : z = ⟨zl.toArray⟩) (hyz : (y == z) = false) (hX : X.length ≤ B) (hB : B ≤ 100000) (hzl : zl.length ≤ 5)
    (h : ∀ Y t' k, Y.cps.toList = repl c zl X.cps.toList → Y.length ≤ 5 * B → Q (.str Y t') { s with toks := k }) : wpAny (model prog w) A (call (.builtin "str.replace") [.str X t, .str y u, .str z v]) Q E s := by
  subst hy hz
  refine SC.replaceW (Nat.ne_of_gt hu) (Nat.ne_of_gt hv) (Nat.ne_of_lt huv) hyz (by omega) (by show zl.toArray.size ≤ 14; rw [List.size_toArray]; omega) fun t' k => h _ t' k ?_ ?_
  · rw [replace_repl]
  · show (Txt.replace X ⟨#[c]⟩ ⟨zl.toArray⟩).cps.size ≤ _
    rw [← Array.length_toList, replace_repl]
    have h1 := repl_length (c := c) (z := (⟨zl.toArray⟩ : PySem.Str).cps.toList) (n := 5) hzl (by decide) (l := X.cps.toList)
    have h2 : X.cps.toList.length = X.length := Array.length_toList
    omega
end
end Mine
end

section
open PySem PySem.W PySem.Calls PyProof.Rows PyProof.V PySem.Spec
set_option maxRecDepth 100000
namespace Mine
section
variable {prog : Program} {w : World} {A : Around} {h₀ : Heap} {L : Addr} {m : Str → Option Value} {env : Env} {elt : Expr} {x : Str} {scope : Scope} {cl : List (Str × Addr)} {s : Shared} {S : List (Addr × Obj) → Prop} {P : Nat → Value → Prop} {Fin : List Value → List (Addr × Obj) → Prop} {news : List (Addr × Obj)}
theorem comp_inv {n : Nat} (Inv : Nat → List Value → List (Addr × Obj) → Prop) (h0 : Inv 0 [] news)
    (turn : ∀ i v ys nx I oI C oC D m₂ h tk (E' : Value → Shared → Prop), i < n → P i v → Inv i ys nx → LCg.NsObj oC m₂ → m₂ x = some v → Fr h₀ L h m → News h₀ L h ((I, oI) :: (C, oC) :: (D, LCg.lst ys) :: nx) → LCg.Off3 I C D nx → ((@Ne Nat I C) ∧ (@Ne Nat I D) ∧ (@Ne Nat C D)) →
      wpAny (model prog w) A (eval elt (compEnvC scope cl C env)) (LCg.CompEnd h₀ L m { s with heap := h, toks := tk } I oI C oC D (LCg.lst ys) S (fun y nx' => Inv (i + 1) (ys ++ [y]) nx')) E' { s with heap := h, toks := tk })
    (fin : ∀ ys nx, Inv n ys nx → Fin ys nx) : LCg.CompRest prog w A h₀ L m env elt x scope cl s S P Fin n 0 [] news := by
  have key : ∀ (j i : Nat) (ys : List Value) (nx : List (Addr × Obj)), i + j = n → Inv i ys nx → LCg.CompRest prog w A h₀ L m env elt x scope cl s S P Fin j i ys nx := by
    intro j
    induction j with
    | zero => intro i ys nx hi hy; have e : i = n := by omega
              rw [e] at hy; exact LCg.CompRest.zero (fin ys nx hy)
    | succ j ih =>
      intro i ys nx hi hy
      refine LCg.CompRest.succ ?_
      intro v I oI C oC D m₂ h tk E' hv hC hx F N off ne
      refine wpAny_mono (turn i v ys nx I oI C oC D m₂ h tk E' (by omega) hv hy hC hx F N off ne) (fun y s₂ hq => ?_) fun _ _ e => e
      obtain ⟨h', tk', nw, e, F', N', off', hS, hi'⟩ := hq
      exact ⟨h', tk', nw, e, F', N', off', hS, ih (i + 1) _ _ (by omega) hi'⟩
  exact key n 0 [] news (by omega) h0
end
end Mine
namespace Mine
theorem strs_at {vs : List Value} {xs : List Str} (h : StrsAre vs xs) : ∀ {i : Nat} {v : Value}, vs.toArray[i]? = some v → ∃ x t, xs[i]? = some x ∧ v = .str x t := by
  intro i v
  rw [List.getElem?_toArray]
  induction h generalizing i with
  | nil => intro e; simp at e
  | cons x t _ ih =>
    intro e
    cases i with
    | zero => simp at e; exact ⟨x, t, by simp, e.symm⟩
    | succ i => simp at e; obtain ⟨y, t, h1, h2⟩ := ih e; exact ⟨y, t, by simpa using h1, h2⟩
end Mine
namespace Mine
theorem strs_snoc' {us : List Value} {ws : List PySem.Str} {x y : PySem.Str} {t : Tok} (h : StrsAre us ws) (e : x = y) : StrsAre (us ++ [.str x t]) (ws ++ [y]) := e ▸ h.append' (.cons _ _ .nil)
end Mine
namespace Mine
theorem join_flat : ∀ xs : List PySem.Str, (PySem.Str.join (PySem.Str.ofString "") xs).cps.toList = (xs.map fun x => x.cps.toList).flatten
  | [] => rfl
  | [p] => by simp [PySem.Str.join]
  | p :: q :: r => by
    have ih := join_flat (q :: r)
    show (p ++ PySem.Str.ofString "" ++ PySem.Str.join (PySem.Str.ofString "") (q :: r)).cps.toList = _
    simp only [PySem.Str.cps_append, Array.toList_append, ih]
    have e : (PySem.Str.ofString "").cps.toList = [] := by decide
    rw [e]
    simp
section
variable {prog : Program} {w : World} {A : Around} {E : Value → Shared → Prop} {s : Shared} {t : Tok} {Q : Value → Shared → Prop}
theorem join_rule {D : Addr} {vs : List Value} {xs : List PySem.Str} (hl : s.heap.IsList D vs.toArray) (hx : StrsAre vs xs) (hB : ∀ x ∈ xs, x.length ≤ 8) (hn : xs.length ≤ 8)
    (h : ∀ Y t' k, Y.cps.toList = (xs.map fun x => x.cps.toList).flatten → Q (.str Y t') { s with toks := k }) :
    wpAny (model prog w) A (call (.builtin "str.join") [.str (PySem.Str.ofString "") t, .ref D]) Q E s := by
  refine KT.join_B (l := xs) (g := id) 8 hl (by simpa using hx.carried) hB (by omega) (by decide) fun t' k => h _ t' k ?_
  rw [List.map_id]
  show (Builtin.Str.glued (PySem.Str.ofString "") xs).cps.toList = _
  rw [StrLaws.glued_eq_join]
  exact join_flat xs
end
end Mine
end

section
open PySem PySem.W PySem.Calls PyProof.Rows PyProof.V PySem.Spec Builtin Builtin.ObjectAttr
set_option Elab.async false
set_option maxRecDepth 100000
set_option maxHeartbeats 8000000
set_option linter.all false
namespace Mine
theorem refuse_list (self : Value) (C : Addr) : refuseLoop self "__setattr__" [.ref C, .type "list", .type "object"] = pure () := by
  rw [refuseLoop_ref]
  have h2 := PySem.F.store_object.passes self
  unfold refuseLoop at h2 ⊢
  kernel_rfl
noncomputable def accIn (K : Frag) (C : Addr) : Bool := match K.lookup C with
  | some ⟨_, _, .cls cd, sl⟩ => !cd.abstract && !cd.hasDel && cd.hasDict && cd.mro == [.ref C, .type "list", .type "object"] && (sl.toList[4]?).join == some (.builtin "list.__new__") &&
      specialIn K (.ref C) "__call__" == some (some (.builtin "type.__call__")) && instIn K (.ref C) (.type "type") == some true
  | _ => false

structure MakesL (M : Model) (h : Heap) (C : Addr) : Prop where
  obj : ∃ oc od cd sl, h.get? C = some ⟨oc, od, .cls cd, sl⟩ ∧ cd.abstract = false ∧ cd.hasDel = false ∧ cd.mro.isEmpty = false ∧ cd.hasDict = true
  made : Looks M h (Bind.madeBy (.ref C)) (some "list.__new__")
  base : Looks M h (Bind.staticBase (.ref C)) (.ref C)
  self : Looks M h (isSubtype (.ref C) (.ref C)) true
  lst : Looks M h (isSubtype (.ref C) (.type "list")) true
  top : Looks M h (isSubtype (.ref C) (.type "object")) true
  call : Looks M h (specialOf (.ref C) "__call__") (some (.builtin "type.__call__"))
  typ : Looks M h (isInstance (.ref C) (.type "type")) true
theorem acc_of {K : Frag} {C : Addr} (e : accIn K C = true) : ∃ oc od cd sl, K.lookup C = some ⟨oc, od, .cls cd, sl⟩ ∧ cd.abstract = false ∧ cd.hasDel = false ∧ cd.hasDict = true ∧ cd.mro = [.ref C, .type "list", .type "object"] ∧ (sl.toList[4]?).join = some (.builtin "list.__new__") ∧
      specialIn K (.ref C) "__call__" = some (some (.builtin "type.__call__")) ∧ instIn K (.ref C) (.type "type") = some true ∧ clsIn K C = some cd := by
  unfold accIn at e
  split at e
  · rename_i oc od cd sl ho
    simp only [Bool.and_eq_true, Bool.not_eq_true', beq_iff_eq] at e
    obtain ⟨⟨⟨⟨⟨⟨e1, e2⟩, e3⟩, e4⟩, e5⟩, e6⟩, e7⟩ := e
    exact ⟨oc, od, cd, sl, ho, e1, e2, e3, e4, e5, e6, e7, by unfold clsIn; rw [ho]⟩
  · cases e
theorem makesL_of {K : Frag} {M : Model} {h : Heap} (X : K.In h) {C : Addr} (e : accIn K C = true) : MakesL M h C := by
  obtain ⟨oc, od, cd, sl, ho, e1, e2, e3, e4, e5, e6, e7, hc⟩ := acc_of e
  have hm : Looks M h (mroOf (.ref C)) cd.mro := (looks_clsIn X hc).andThen .now
  have ne : cd.mro.isEmpty = false := by rw [e4]; rfl
  have made : Looks M h (Bind.madeBy (.ref C)) (some "list.__new__") := by
    intro A Q E s k q
    unfold Bind.madeBy
    refine wpAny_bind (hm A _ E s k ?_)
    rw [e4, List.forIn_cons]
    refine wpAny_bind (wpAny_bind (wpAny_bind (wpAny_bind (wpAny_loadPart (k _ _ (X _ _ ho)) (wpAny_pure ?_)))))
    dsimp only
    rw [← Array.getElem?_toList, e5]
    exact wpAny_pure (wpAny_pure (wpAny_pure q))
  have sub : ∀ b, cd.mro.contains b = true → Looks M h (isSubtype (.ref C) b) true := fun b hb => looks_mroIn X (by unfold mroIn; rw [hc, Option.bind_some, if_neg (by rw [ne]; decide), hb])
  refine ⟨⟨oc, od, cd, sl, X _ _ ho, e1, e2, ne, e3⟩, made, ?_, sub _ (by rw [e4]; simp), sub _ (by rw [e4]; simp), sub _ (by rw [e4]; simp), looks_specialIn X e6, looks_instIn X e7⟩
  intro A Q E s k q
  unfold Bind.staticBase
  refine wpAny_bind (hm A _ E s k ?_)
  rw [e4, List.forIn_cons]
  exact wpAny_bind (wpAny_bind (wpAny_bind (made A _ E s k (wpAny_pure (wpAny_pure (wpAny_pure q))))))

noncomputable abbrev accObj (C dx : Addr) (items : Array Value) (n : Nat) : Obj := { cls := .ref C, dict := some dx, data := .seq items n }
theorem ln_kind : builtinKind "list.__new__" = some .builtinFn := by decide +kernel
theorem ln_split : splitId "list.__new__" = some ("list", "__new__") := by decide +kernel
theorem ln_quiet : ("list.__new__" : String).startsWith "lifetime." = false := by decide +kernel
theorem ln_entry : entryFor table "list.__new__" = some Builtin.«list.__new__» := entryFor_of_tree (by kernel_rfl)
theorem ln_args (a v : Value) : (match Manifest.signature? "list.__new__" with | some sig => Bind.checkArgs "list.__new__" sig ⟨a :: [v], []⟩ | none => pure ()) = pure () := by kernel_rfl
section
variable {prog : Program} {w : World} {A : Around} {K : Frag} {C : Addr} {R : Result → Shared → Prop} {h : Heap} {g : Array GenState} {d : Drawn} {t : Nat} {os : OsState}
theorem new_KL {v : Value} (Y : MakesL (model prog w) h C)
    (hq : R (.ok (.ret (.ref (h.objs.size + 1)))) ⟨(h.push emptyDict).push (accObj C h.objs.size #[] 0), g, d, t, os⟩) :
    codeAny (model prog w) A (.call (.builtin "list.__new__") ⟨[.ref C, v], []⟩) R ⟨h, g, d, t, os⟩ := by
  obtain ⟨⟨oc, od, cd, sl, hC, e1, e2, e4, e3⟩, made, base, self, lst, top, call, typ⟩ := Y
  refine codeAny_call_builtin_code (Code.quiet_builtin _ ln_quiet) ?_
  simp only [checkBuiltinCall, ln_kind, ln_split]
  have args : (match Manifest.signature? "list.__new__" with | some sig => Bind.checkArgs "list.__new__" sig ⟨.ref C :: [v], []⟩ | none => pure ()) = pure () := ln_args _ _
  repeat (first | simp only [bne_self_eq_false, Bool.false_eq_true, if_false] | lk)
  refine codeAny_builtin_stack ln_entry rfl fun p st => ?_
  rw [Around.under_plainId F.plain_list_new _]
  simp only [owner_list_new]
  repeat (first | simp only [bne_self_eq_false, Bool.false_eq_true, if_false, e3] | lk)
  refine nd_load (Heap.get?_push_of_some _ (Heap.get?_push_of_some _ hC)) ?_
  refine nd_pure ?_
  dsimp only
  rw [e2]
  refine wpAny_pure (wpAny_pure (wpAny_pure ?_))
  rw [Heap.size_push]
  exact hq

theorem make_coreL {v init : Value} (Y : MakesL (model prog w) h C) (hi : Looks (model prog w) h (typeLookup (.ref C) "__init__") (some init))
    (hb : ∀ self, Looks (model prog w) h (bindSpecial init self) (init, [self]))
    (hq : codeAny (model prog w) (A.under (.builtin "type.__call__" ⟨[.ref C, v], []⟩)) (.call init ⟨[.ref (h.objs.size + 1), v], []⟩) (InitBack (h.objs.size + 1) R) ⟨(h.push emptyDict).push (accObj C h.objs.size #[] 0), g, d, t, os⟩) :
    codeAny (model prog w) A (.call (.ref C) ⟨[v], []⟩) R ⟨h, g, d, t, os⟩ := by
  have Y' := Y
  obtain ⟨⟨oc, od, cd, sl, hC, e1, e2, e4, e3⟩, made, base, self, lst, top, call, typ⟩ := Y
  refine codeAny_of_tree ?_
  show wpAny _ _ (callAny (.ref C) _) _ _ _
  refine nd_load hC ?_
  show wpAny _ _ (callAny.viaDunder (.ref C) _) _ _ _
  unfold callAny.viaDunder
  refine wpAny_bind (call.at ?_)
  dsimp only
  rw [tc_bind]
  refine wpAny_bind (wpAny_pure (wpAny_bind (wpAny_pure ?_)))
  refine wpAny_pure (a := Fin.again (.call (.builtin "type.__call__") ⟨[.ref C, v], []⟩)) (And.intro rfl ?_)
  refine codeAny_call_builtin_at (Code.quiet_builtin _ (by decide +kernel)) entry_typeCall (check_slot tc_kind tc_split typ (tc_args _ _ _) ?_)
  unfold Builtin.«type.__call__»
  have hm : Looks (model prog w) h (mroOf (.ref C)) cd.mro := ((Looks.ld (part := none) hC).andThen .now).andThen .now
  repeat (first | simp only [e4, Bool.false_eq_true, if_false] | with_reducible refine wpAny_call ?_ | lk)
  refine new_KL Y' ?_
  have k : ∀ b o, h.get? b = some o → ((h.push emptyDict).push (accObj C h.objs.size #[] 0)).get? b = some o := fun b o e => Heap.get?_push_of_some _ (Heap.get?_push_of_some _ e)
  have hx : ((h.push emptyDict).push (accObj C h.objs.size #[] 0)).get? (h.objs.size + 1) = some (accObj C h.objs.size #[] 0) := by heap_get
  have t1 : Looks (model prog w) ((h.push emptyDict).push (accObj C h.objs.size #[] 0)) (typeOf (.ref (h.objs.size + 1))) (.ref C) := (Looks.ld hx).andThen .now
  have s1 := self.keeps k
  have i1 := hi.keeps k
  have b1 := (hb (.ref (h.objs.size + 1))).keeps k
  unfold isInstance callSpecial? specialOf
  repeat (first | with_reducible refine wpAny_call ?_ | lk)
  refine codeAny_mono hq fun r s' z => ?_
  rcases r with e | (v | _ | _ | _) <;> first | exact z | exact z.elim | skip
  obtain ⟨rfl, z⟩ := z
  exact wpAny_pure (wpAny_pure z)
end
section
variable {prog : Program} {w : World} {A : Around} {E : Value → Shared → Prop} {K : Frag} {C x : Addr} {s : Shared} {h₀ : Heap} {L : Addr} {m : Str → Option Value} {news : List (Addr × Obj)} {Q : Value → Shared → Prop}
theorem call_acc {v : Value} {fI : Addr} (F : Fr h₀ L s.heap m) (X₀ : K.In h₀) (N : News h₀ L s.heap news) (hm : accIn K C = true)
    (hi : findIn K (.ref C) "__init__" = some (some (.ref fI))) (hf : isFn K (.ref fI) = true)
    (h : ∀ x dx h', Fr h₀ L h' m → News h₀ L h' ((x, accObj C dx #[] 0) :: (dx, emptyDict) :: news) → (∀ p ∈ news, p.1 < dx) → dx < x →
      codeAny (model prog w) (A.under (.builtin "type.__call__" ⟨[.ref C, v], []⟩)) (.call (.ref fI) ⟨[.ref x, v], []⟩) (InitBack x fun r s' => match r with | .ok (.ret v) => Q v s' | .ok _ => False | .error e => E e s') { s with heap := h' }) :
    wpAny (model prog w) A (call (.ref C) [v]) Q E s := by
  obtain ⟨hh, g, d, t, os⟩ := s
  refine wpAny_call ?_
  have X : K.In hh := X₀.keeps F.keep
  refine make_coreL (makesL_of X hm) (looks_findIn X hi) (fun self => bind_fn X self (beq_iff_eq.mp hf)) (h _ hh.objs.size _ ((F.push _).push _) ?_ (fun p hp => Heap.lt_size (N p hp).1) (Nat.lt_succ_self _))
  have := (N.push F emptyDict).push (F.push _) (accObj C hh.objs.size #[] 0)
  rwa [Heap.size_push] at this
end
theorem fillA0 : PySem.Challenge.rw_xp0023_01 = PySem.Challenge.rw_xp0023_01 ∧ Mine.hd.heap_1 = Mine.hd.heap_1 := by
  k_fill
  exact ⟨rfl, rfl⟩
theorem acc100 (P : Params) : accIn (Mine.hd.heap_1 P) 100 = true := by kernel_rfl
end Mine
end

section
open PySem PySem.W PySem.Calls PyProof.Rows PyProof.V PySem.Spec Builtin Builtin.ObjectAttr
set_option Elab.async false
set_option maxRecDepth 100000
set_option maxHeartbeats 8000000
set_option linter.all false
namespace Mine
theorem InstAt_acc {h₀ h : Heap} {L x C dx : Addr} {news : List (Addr × Obj)} {od : Obj} {its : Array Value} {n : Nat} (N : News h₀ L h news) (h1 : (x, accObj C dx its n) ∈ news) (h2 : (dx, od) ∈ news) :
    InstAt h x (accObj C dx its n) C (some od) := ⟨(N _ h1).1, rfl, rfl, (N _ h2).1⟩
section
variable {prog : Program} {w : World} {A : Around} {K : Frag} {C x : Addr} {s : Shared} {h₀ : Heap} {L : Addr} {m : Str → Option Value} {news : List (Addr × Obj)} {R : Result → Shared → Prop}
theorem osa_openL {ox : Obj} {od : Option Obj} {name : Str} {tk : Tok} {v : Value} {r : Option Value} (X : K.In s.heap) (I : InstAt s.heap x ox C od) (hp : accIn K C = true) (ht : takerIn K C name = some r)
    (h : ∀ b, wpAny (model prog w) A.in1 (match r with | some a => setByDescriptor a (.ref x) v | none => storeInOwnDict (.ref x) (.ref C) (.str name tk) name v b)
      (fun fin s' => match fin with | .done f => R (.ok f) s' | .again c' => c'.quiet = true ∧ codeAny (model prog w) A c' R s') (fun e s' => R (.error e) s') s) :
    codeAny (model prog w) A (.call (.builtin "object.__setattr__") ⟨[.ref x, .str name tk, v], []⟩) R s := by
  have SF := PySem.F.store_object
  obtain ⟨_, _, cd, _, _, _, _, _, hmro, _, _, _, hc⟩ := acc_of hp
  have Y := makesL_of (M := model prog w) X hp
  have sub : Looks (model prog w) s.heap (isInstance (.ref x) (.type "object")) true := I.type.andThen Y.top
  refine codeAny_call_builtin SF.slot.plain SF.entry (@check_slot (model prog w) _ _ s "object.__setattr__" "object" "__setattr__" (.ref x) [.str name tk, v] [] _ SF.kind SF.split sub (SF.args (.ref x) (.str name tk) v) ?_)
  obtain ⟨attr, ha, hr⟩ := Option.bind_eq_some_iff.mp ht
  have hm : Looks (model prog w) s.heap (mroOf (.ref C)) cd.mro := (looks_clsIn X hc).andThen .now
  have L3 : Looks (model prog w) s.heap (storeTaker? attr) r := by
    cases attr with
    | none => cases hr; exact .now
    | some a =>
      obtain ⟨b, hb, rfl⟩ := Option.map_eq_some_iff.mp hr
      refine (looks_takesIn X hb).andThen ?_
      cases b <;> exact .now
  rw [osa_eq, refuse_eq]
  refine wpAny_bind (wpAny_bind (I.type.here (wpAny_bind (hm.here ?_))))
  rw [hmro, refuse_list]
  refine wpAny_pure (wpAny_bind (I.type.here (wpAny_bind ((looks_findIn X ha).here (wpAny_bind (L3.here ?_))))))
  exact h _

theorem osa_dictL {ox od od' : Obj} {dx : Addr} {name : Str} {tk : Tok} {v : Value} {pre post : List (Addr × Obj)} {es : List DictEntry} {n : Nat} (F : Fr h₀ L s.heap m) (N : News h₀ L s.heap (pre ++ (dx, od) :: post)) (X : K.In s.heap)
    (I : InstAt s.heap x ox C (some od)) (hns : ∃ its k, ox.data = .seq its k) (hd : ox.dict = some dx) (hp : accIn K C = true) (ht : takerIn K C name = some none)
    (hl : (lookIn name od).isSome = true) (h1 : ∀ p ∈ pre, p.1 ≠ dx) (h2 : ∀ p ∈ post, p.1 ≠ dx)
    (e : Obj.putName name (PyData.keyHash w.params name) (.str name s.toks) v od = od') (e' : od'.data = .dict es.toArray n) (hz : es.length ≤ 1000)
    (h : ∀ h', Fr h₀ L h' m → News h₀ L h' (pre ++ (dx, od') :: post) → R (.ok (.ret .none)) { s with heap := h', toks := s.toks + 1 }) :
    codeAny (model prog w) A (.call (.builtin "object.__setattr__") ⟨[.ref x, .str name tk, v], []⟩) R s := by
  refine osa_openL X I hp ht fun b => ?_
  obtain ⟨_, _, cd, _, _, _, _, hd', _, _, _, _, hc⟩ := acc_of hp
  obtain ⟨U1, U2⟩ := news_upd (f := Obj.putName name (PyData.keyHash w.params name) (.str name s.toks) v) F N h1 h2 e (by obtain ⟨_, _, dd, _⟩ := od'; cases e'; rfl)
  have D := (N (dx, od) (by simp)).1
  have D' := (U2 (dx, od') (by simp)).1
  obtain ⟨hx, hcl, hn, -⟩ := I
  obtain ⟨oc, odi, oda, osl⟩ := ox
  obtain ⟨its, k, hs⟩ := hns
  dsimp only at hcl hd hs
  subst hcl hd hs
  refine wpAny_bind (wpAny_pure (wpAny_bind (wpAny_bind (wpAny_loadPart hx (wpAny_bind ((looks_clsIn X hc).here ?_))))))
  rw [hd']
  refine wpAny_pure (a := some dx) (wpAny_bind (wpAny_pure (wpAny_bind ?_)))
  unfold nsSet
  refine wpAny_bind (wpAny_bind (wpAny_askSetting (wpAny_pure (wpAny_bind (wpAny_mkText (wpAny_bind (wpAny_loadPart D ?_)))))))
  unfold lookIn at hl
  split at hl
  · rename_i es₀ n₀ q
    rw [q]
    dsimp only
    have c : (!es₀.any (·.key.isStr name) && es₀.any (·.refKey)) = false := by
      rw [← Array.any_toList, ← Array.any_toList]
      split at hl
      · rename_i en he
        rw [List.any_eq_true.mpr ⟨en, List.mem_of_find?_eq_some he, List.find?_some he⟩]; rfl
      · split at hl
        · cases hl
        · rename_i z; rw [Bool.not_eq_true] at z; rw [z, Bool.and_false]
    rw [aRefKeyMayBeTheName_at, c]
    refine wpAny_updatePart D ?_
    refine wpAny_bind (wpAny_lookBehind D' (by rw [e']; exact pastItsLine_dict (by rw [List.size_toArray, sizeLine_eq]; omega)) ?_)
    exact wpAny_pure (h _ U1 U2)
  · cases hl
theorem set_dictL {E : Value → Shared → Prop} {Q : Unit → Shared → Prop} {dx : Addr} {es es' : List DictEntry} {n n' : Nat} {name : Str} {v : Value} {news' : List (Addr × Obj)} {its : Array Value} {k : Nat}
    (F : Fr h₀ L s.heap m) (X₀ : K.In h₀) (N : News h₀ L s.heap news) (h1 : (x, accObj C dx its k) ∈ news) (h2 : (dx, dictOf es n) ∈ news)
    (hs : findIn K (.ref C) "__setattr__" = some (some (.builtin "object.__setattr__"))) (hp : accIn K C = true) (ht : takerIn K C name = some none) (hl : (getL name es).isSome = true)
    (e : (putL name (PyData.keyHash w.params name) (.str name (s.toks + 1)) v es, putN name es n) = (es', n')) (U : Upd dx (dictOf es n) (dictOf es' n') news news') (hz : es'.length ≤ 1000)
    (h : ∀ h', Fr h₀ L h' m → News h₀ L h' news' → Q () { s with heap := h', toks := s.toks + 2 }) :
    wpAny (model prog w) A (setAttr (.ref x) name v) Q E s := by
  have I := InstAt_acc N h1 h2
  obtain ⟨pre, post, rfl, rfl, a, b⟩ := U.split
  obtain ⟨e1, e2⟩ := Prod.mk.inj e
  exact set_plain (X₀.keeps F.keep) I hs (osa_dictL (s := { s with toks := s.toks + 1 }) F N (X₀.keeps F.keep) I ⟨_, _, rfl⟩ rfl hp ht hl a b (by rw [putName_dict, e1, e2]) rfl hz fun h' F' N' => h h' F' N')
end
end Mine
end

section
open PySem PySem.W PySem.Calls PyProof.Rows PyProof.V PySem.Spec Builtin Builtin.ObjectAttr
set_option Elab.async false
set_option maxRecDepth 100000
set_option maxHeartbeats 8000000
set_option linter.all false
namespace Mine
theorem check_meth {M : Model} {A : Around} {E : Value → Shared → Prop} {s : Shared} {i owner n : String} {self : Value} {rest : List Value} {kw : List (Str × Value)} {Q : Unit → Shared → Prop}
    (hk : builtinKind i = some .method) (hs : splitId i = some (owner, n)) (hi : Looks M s.heap (isInstance self (.type owner)) true) (ha : argsOk i ⟨self :: rest, kw⟩) (q : Q () s) :
    wpAny M A (checkBuiltinCall i ⟨self :: rest, kw⟩) Q E s := by
  simp only [checkBuiltinCall, hk, hs]
  refine wpAny_bind (hi.here ?_)
  simp only [Bool.not_true, Bool.false_eq_true, if_false]
  cases hsig : Manifest.signature? i with
  | none => exact wpAny_pure q
  | some sig =>
    simp only [argsOk, hsig] at ha
    have h2 : Bind.checkArgs i sig ⟨self :: rest, kw⟩ = pure () := ha
    show wpAny M A (Bind.checkArgs i sig ⟨self :: rest, kw⟩) Q E s
    rw [h2]; exact wpAny_pure q
noncomputable def ga_ok (K : Frag) (C : Addr) : Bool := findIn K (.ref C) "__getattribute__" == some (some (.builtin "list.__getattribute__")) && findIn K (.ref C) "__getattr__" == some none
theorem ga_of {K : Frag} {C : Addr} (h : ga_ok K C = true) : findIn K (.ref C) "__getattribute__" = some (some (.builtin "list.__getattribute__")) ∧ findIn K (.ref C) "__getattr__" = some none := by
  obtain ⟨a, b⟩ := Bool.and_eq_true_iff.mp h
  exact ⟨beq_iff_eq.mp a, beq_iff_eq.mp b⟩
theorem ga100 (P : Params) : ga_ok (Mine.hd.heap_1 P) 100 = true := by kernel_rfl
theorem canon_list_ga : Manifest.canonical "list.__getattribute__" = "object.__getattribute__" := by first | decide +kernel | kernel_rfl
section
variable {prog : Program} {w : World} {A : Around} {E : Value → Shared → Prop} {s : Shared} {K : Frag} {C x dx L : Addr} {h₀ : Heap} {m : Str → Option Value} {news news' : List (Addr × Obj)} {its : Array Value} {k n : Nat} {name : Str} {es : List DictEntry}
theorem acc_inst {h : Heap} (X : K.In h) (hp : accIn K C = true) {ox : Obj} {od : Option Obj} (I : InstAt h x ox C od) : Looks (model prog w) h (isInstance (.ref x) (.type "list")) true := I.type.andThen (makesL_of (M := model prog w) X hp).lst
theorem method_b {pl : Sem Bool} {Q : Value × List Value → Shared → Prop} {i : String} {T : String} (F : Fr h₀ L s.heap m) (X₀ : K.In h₀) (N : News h₀ L s.heap news) (h1 : (x, accObj C dx its k) ∈ news) (h2 : (dx, dictOf es n) ∈ news)
    (hg : ga_ok K C = true) (hf : findIn K (.ref C) name = some (some (.builtin i))) (ht : typeIn K (.builtin i) = some (.type T)) (hT : (T == "method_descriptor" || T == "wrapper_descriptor") = true) (hs : getL name es = some none) (h : Q (.builtin i, [.ref x]) s) :
    wpAny (model prog w) A (getMethod (.ref x) name pl) Q E s := by
  have X := X₀.keeps F.keep
  have I := InstAt_acc N h1 h2
  obtain ⟨hga, hk⟩ := ga_of hg
  have hcan := canon_list_ga
  unfold getMethod specialOf
  refine wpAny_bind (wpAny_bind (I.type.here ((looks_findIn X hga).here ?_)))
  dsimp only
  rw [hcan, if_neg (by decide)]
  refine wpAny_bind (wpAny_bind (I.type.here ((looks_findIn X hk).here ?_)))
  refine wpAny_bind (wpAny_bind (I.type.here ((looks_findIn X hf).here (wpAny_bind ((looks_typeIn X ht).here ?_)))))
  rw [if_neg (by
    rcases Bool.or_eq_true_iff.mp hT with e | e <;> rw [beq_iff_eq.mp e] <;> decide +kernel)]
  refine wpAny_bind (wpAny_loadPart I.at_ ?_)
  refine wpAny_bind (wpAny_bind (wpAny_loadPart (N _ h2).1 ?_))
  rw [nsLook_of (show lookIn name (dictOf es n) = some none from hs)]
  exact wpAny_pure (wpAny_bind (wpAny_rule (wpAny_pure h)))
theorem method_instL {pl : Sem Bool} {Q : Value × List Value → Shared → Prop} {f : Addr} (F : Fr h₀ L s.heap m) (X₀ : K.In h₀) (N : News h₀ L s.heap news) (h1 : (x, accObj C dx its k) ∈ news) (h2 : (dx, dictOf es n) ∈ news) (hg : ga_ok K C = true)
    (hf : findIn K (.ref C) name = some (some (.ref f))) (ht : isFn K (.ref f) = true) (hl : getL name es = some none) (h : Q (.ref f, [.ref x]) s) : wpAny (model prog w) A (getMethod (.ref x) name pl) Q E s := by
  have X := X₀.keeps F.keep
  have I := InstAt_acc N h1 h2
  obtain ⟨hga, hk⟩ := ga_of hg
  have hcan := canon_list_ga
  unfold getMethod specialOf
  refine wpAny_bind (wpAny_bind (I.type.here ((looks_findIn X hga).here ?_)))
  dsimp only
  rw [hcan, if_neg (by decide)]
  refine wpAny_bind (wpAny_bind (I.type.here ((looks_findIn X hk).here ?_)))
  refine wpAny_bind (wpAny_bind (I.type.here ((looks_findIn X hf).here (wpAny_bind ((looks_typeIn X (beq_iff_eq.mp ht)).here ?_)))))
  rw [if_neg (by decide +kernel)]
  refine wpAny_bind (wpAny_loadPart I.at_ ?_)
  refine wpAny_bind (wpAny_bind (wpAny_loadPart (N _ h2).1 ?_))
  rw [nsLook_of (show lookIn name (dictOf es n) = some none from hl)]
  exact wpAny_pure (wpAny_bind (wpAny_rule (wpAny_pure h)))
theorem la_kind : builtinKind "list.append" = some .method := by decide +kernel
theorem la_split : splitId "list.append" = some ("list", "append") := by decide +kernel
theorem append_acc {v : Value} {Q : Value → Shared → Prop} (F : Fr h₀ L s.heap m) (X₀ : K.In h₀) (N : News h₀ L s.heap news) (hp : accIn K C = true) (h2 : (dx, dictOf es n) ∈ news)
    (U : Upd x (accObj C dx its k) (accObj C dx (its.push v) (k + 1)) news news') (hl : its.size ≤ 1000)
    (h : ∀ h', Fr h₀ L h' m → News h₀ L h' news' → Q .none { s with heap := h' }) : wpAny (model prog w) A (call (.builtin "list.append") [.ref x, v]) Q E s := by
  have X := X₀.keeps F.keep
  obtain ⟨pre, post, rfl, rfl, a, b⟩ := U.split
  have h1 : (x, accObj C dx its k) ∈ pre ++ (x, accObj C dx its k) :: post := by simp
  have I := InstAt_acc N h1 h2
  refine wpAny_call (codeAny_call_builtin PySem.F.slot_list_append.plain PySem.F.entry_list_append (check_meth la_kind la_split (acc_inst X hp I) (PySem.F.args_list_append_2 _ _) ?_))
  show wpAny _ _ (updateSeq x (·.push v) >>= fun _ => ret .none) _ _ _
  obtain ⟨U1, U2⟩ := news_upd (f := Obj.mapSeq (·.push v)) (o' := accObj C dx (its.push v) (k + 1)) F N a b (by simp [Obj.mapSeq]) rfl
  exact wpAny_bind (wpAny_updateSeq (hz := by rw [sizeLine_eq]; omega) (N _ h1).1 rfl (wpAny_pure (h _ U1 U2)) (by rw [Array.size_push, sizeLine_eq]; omega))
end
end Mine
end

section
open PySem PySem.W PySem.Calls PyProof.Rows PyProof.V PySem.Spec Builtin Builtin.ObjectAttr
set_option Elab.async false
set_option maxRecDepth 100000
set_option maxHeartbeats 8000000
set_option linter.all false
namespace Mine
theorem wd_slot : Slot "wrapper_descriptor" "__get__" "wrapper_descriptor.__get__" := .of (owner := "wrapper_descriptor") (n := "__get__") (by rw [typeLookup_type, builtinLookup_eq_fast]; kernel_rfl) (by decide +kernel) (by decide +kernel) (by decide +kernel)
  (by first | exact .inl (by decide +kernel) | exact .inr (by decide +kernel)) (by rw [isSubtype_type]; kernel_rfl)
theorem wd_entry : entryFor table "wrapper_descriptor.__get__" = some Builtin.«wrapper_descriptor.__get__» := entryFor_of_tree (by kernel_rfl)
theorem wd_args (a b c : Value) : argsOk "wrapper_descriptor.__get__" ⟨[a, b, c], []⟩ := by unfold argsOk; kernel_rfl
section
variable {prog : Program} {w : World} {M : Model} {A : Around} {E : Value → Shared → Prop} {h : Heap} {g : Array GenState} {d : Drawn} {t : Nat} {os : OsState}
theorem wd_get {x C : Addr} {i : String} {ox : Obj} {Q : PySem.Fin → Shared → Prop} (hx : h.get? x = some ox) (hc : ox.cls = .ref C) (hi : Looks M h (isSubtype (.ref C) (.type "list")) true) (ho : ".".intercalate (i.cutAt '.').dropLast = "list")
    (hq : Q (.done (.ret (.ref h.objs.size))) ⟨h.push {cls := .type "method-wrapper", data := .fields #[.builtin i, .ref x]}, g, d, t, os⟩) :
    wpAny M A (Builtin.«wrapper_descriptor.__get__» ⟨[.builtin i, .ref x, .ref C], []⟩) Q E ⟨h, g, d, t, os⟩ := by
  unfold Builtin.«wrapper_descriptor.__get__»
  repeat wp_step
  rw [hc]
  repeat wp_step
  rw [ho]
  refine Looks.at hi ?_
  unfold newFields
  repeat (first | (with_reducible refine wpAny_newObj_type ?_ (by size_fits)) | wp_step)
  exact hq
theorem super_ga_b {so D x C : Addr} {ox : Obj} {i : String} {l₀ l : List Value} {K : Frag} {name : Str} {tk : Tok} {Q : PySem.Fin → Shared → Prop}
    (hso : h.get? so = some { cls := .type "super", dict := none, data := .fields #[.ref D, .ref x, .ref C], slots := #[] }) (hno : Looks (model prog w) h (opaqueClassAbove (.ref C)) none)
    (hC : Looks (model prog w) h (mroOf (.ref C)) l₀) (hl : (l₀.dropWhile (· != .ref D)).drop 1 = l) (X : K.In h)
    (hf : alongIn K name l = some (some (.builtin i))) (ht : builtinType i = pure (.type "wrapper_descriptor")) (ho : ".".intercalate (i.cutAt '.').dropLast = "list") (hx : h.get? x = some ox) (hc : ox.cls = .ref C) (hi : Looks (model prog w) h (isSubtype (.ref C) (.type "list")) true) (hxC : x ≠ C) (hn : (name == ("__class__" : Str)) = false)
    (hq : Q (.done (.ret (.ref h.objs.size))) ⟨h.push { cls := .type "method-wrapper", data := .fields #[.builtin i, .ref x] }, g, d, t, os⟩) :
    wpAny (model prog w) A (Builtin.«super.__getattribute__» ⟨[.ref so, .str name tk], []⟩) Q E ⟨h, g, d, t, os⟩ := by
  have hlk := wd_slot.lookup
  have hne : (Value.ref x == Value.ref C) = false := by simp [hxC]
  have hTf : (⟨h, g, d, t, os⟩ : Shared).TypeIs (.builtin i) "wrapper_descriptor" := ht
  have hdt : ({ cls := .type "super", dict := none, data := .fields #[.ref D, .ref x, .ref C], slots := #[] } : Obj).data = .fields #[.ref D, .ref x, .ref C] := rfl
  have f0 : (#[.ref D, .ref x, .ref C] : Array Value)[0]? = some (.ref D) := rfl
  have f1 : (#[.ref D, .ref x, .ref C] : Array Value)[1]? = some (.ref x) := rfl
  have f2 : (#[.ref D, .ref x, .ref C] : Array Value)[2]? = some (.ref C) := rfl
  unfold Builtin.«super.__getattribute__»
  repeat (first
    | (with_reducible refine wpAny_field hso hdt f0 ?_) | (with_reducible refine wpAny_field hso hdt f1 ?_) | (with_reducible refine wpAny_field hso hdt f2 ?_)
    | (with_reducible refine ks_wpAny_notOpaque hno ?_)
    | (with_reducible refine Looks.at hC ?_; rw [hl])
    | (refine ks_forIn_along X (fun _ _ => rfl) rfl ?_ hf)
    | (with_reducible refine wpAny_typeOf hTf ?_)
    | (with_reducible refine wpAny_call_entry wd_slot hTf wd_entry ?_ (wd_args _ _ _))
    | (with_reducible refine wd_get hx hc hi ho ?_)
    | (with_reducible refine ⟨_, rfl, ?_⟩)
    | (simp only [hn, hne, Bool.or_false, Bool.false_eq_true, if_false])
    | wp_step
    | dsimp only)
  all_goals exact hq
theorem getMethod_super_b {so D x C : Addr} {ox : Obj} {i : String} {l₀ l : List Value} {K : Frag} {name : Str} {pl : Sem Bool} {Q : Value × List Value → Shared → Prop}
    (hso : h.get? so = some { cls := .type "super", dict := none, data := .fields #[.ref D, .ref x, .ref C], slots := #[] }) (hno : Looks (model prog w) h (opaqueClassAbove (.ref C)) none)
    (hC : Looks (model prog w) h (mroOf (.ref C)) l₀) (hl : (l₀.dropWhile (· != .ref D)).drop 1 = l) (X : K.In h)
    (hf : alongIn K name l = some (some (.builtin i))) (ht : builtinType i = pure (.type "wrapper_descriptor")) (ho : ".".intercalate (i.cutAt '.').dropLast = "list") (hx : h.get? x = some ox) (hc : ox.cls = .ref C) (hi : Looks (model prog w) h (isSubtype (.ref C) (.type "list")) true) (hxC : x ≠ C) (hn : (name == ("__class__" : Str)) = false)
    (hq : Q (.ref h.objs.size, []) ⟨h.push { cls := .type "method-wrapper", data := .fields #[.builtin i, .ref x] }, g, d, t + 1, os⟩) :
    wpAny (model prog w) A (getMethod (.ref so) name pl) Q E ⟨h, g, d, t, os⟩ := by
  have hlk := F.ks_slot_super_ga.lookup
  have hcan := F.ks_canon_super_ga
  have hT : ∀ t', (⟨h, g, d, t', os⟩ : Shared).TypeIs (.ref so) "super" := fun _ => ⟨_, hso, rfl⟩
  unfold getMethod
  refine wpAny_bind (wpAny_specialOf (hT _) hlk ?_)
  show wpAny _ _ (if (Manifest.canonical "super.__getattribute__" != "object.__getattribute__") = true then _ else _) _ _ _
  rw [if_pos hcan]
  unfold getAttr getAttrBy
  refine wpAny_bind (wpAny_bind (wpAny_mkText (wpAny_holding (wpAny_bind (wpAny_typeOf (hT _) (wpAny_bind (wpAny_of_eq hlk ?_)))))))
  show wpAny _ _ (getAttrByItsOwn (.ref so) (.str name t) (.type "super") (.builtin "super.__getattribute__") true false) _ _ _
  unfold getAttrByItsOwn hookBefore callGetattribute boundAndCalled
  refine wpAny_bind (wpAny_of_eq (show (if onTheHeap (.type "super") then typeLookup (.type "super") "__getattr__" else pure none) = pure none from rfl) ?_)
  refine wpAny_bind (wpAny_attempt (wpAny_holding ?_))
  show wpAny _ _ (bindSpecial (.builtin "super.__getattribute__") (.ref so) >>= _) _ _ _
  refine wpAny_bind (wpAny_of_eq (F.ks_slot_super_ga.bind _) ?_)
  refine wpAny_mono (Q := fun v s' => v = .ref h.objs.size ∧ s' = ⟨h.push { cls := .type "method-wrapper", data := .fields #[.builtin i, .ref x] }, g, d, t + 1, os⟩) (E := fun _ _ => False)
    (wpAny_call_entry F.ks_slot_super_ga (hT _) F.ks_entry_super_ga (super_ga_b hso hno hC hl X hf ht ho hx hc hi hxC hn ⟨_, rfl, rfl, rfl⟩) (F.ks_gaArgs_super _ _)) (fun v s' hv => ?_) fun _ _ z => z.elim
  obtain ⟨rfl, rfl⟩ := hv
  exact wpAny_pure (wpAny_pure hq)
end
noncomputable abbrev mwObj (i : String) (x : Addr) : Obj := { cls := .type "method-wrapper", data := .fields #[.builtin i, .ref x] }
theorem mw_li : builtinType "list.__init__" = pure (.type "wrapper_descriptor") := by rw [builtinType_eq_fast]; kernel_rfl
theorem mw_ll : builtinType "list.__len__" = pure (.type "wrapper_descriptor") := by rw [builtinType_eq_fast]; kernel_rfl
theorem mw_li2 : ".".intercalate ("list.__init__".cutAt '.').dropLast = "list" := by decide +kernel
theorem mw_ll2 : ".".intercalate ("list.__len__".cutAt '.').dropLast = "list" := by decide +kernel
theorem li_entry : entryFor table "list.__init__" = some Builtin.«list.__init__» := F.entry_list_init
theorem ll_entry : entryFor table "list.__len__" = some Builtin.«list.__len__» := entryFor_of_tree (by kernel_rfl)
theorem li_args (a : Value) : argsOk "list.__init__" ⟨[a], []⟩ := by unfold argsOk; kernel_rfl
theorem ll_args (a : Value) : argsOk "list.__len__" ⟨[a], []⟩ := by unfold argsOk; kernel_rfl
theorem li_plain : plainId "list.__init__" = true := by decide +kernel
theorem ll_plain : plainId "list.__len__" = true := by decide +kernel
theorem li_kind : builtinKind "list.__init__" = some .slot := by decide +kernel
theorem ll_kind : builtinKind "list.__len__" = some .slot := by decide +kernel
section
variable {prog : Program} {w : World} {A : Around} {E : Value → Shared → Prop} {s : Shared} {h₀ : Heap} {L : Addr} {m : Str → Option Value} {news news' : List (Addr × Obj)} {K : Frag} {x C D dx so q : Addr} {its : Array Value} {k n : Nat} {es : List DictEntry}
theorem super_b {name : Str} {i : String} {pl : Sem Bool} {Q : Value × List Value → Shared → Prop} (F : Fr h₀ L s.heap m) (X₀ : K.In h₀) (N : News h₀ L s.heap news) (hso : (so, ks_superObj D x C) ∈ news) (h1 : (x, accObj C dx its k) ∈ news) (h2 : (dx, dictOf es n) ∈ news) (hp : accIn K C = true) (ho : nsIn K cStatics "thirdparty.any" = some none)
    (hm : ks_superIn K C D name = some (some (.builtin i))) (ht : builtinType i = pure (.type "wrapper_descriptor")) (ho2 : ".".intercalate (i.cutAt '.').dropLast = "list") (hn : (name == ("__class__" : Str)) = false)
    (h : ∀ q h', Fr h₀ L h' m → News h₀ L h' ((q, mwObj i x) :: news) → (∀ p ∈ news, p.1 < q) → Q (.ref q, []) { s with heap := h', toks := s.toks + 1 }) : wpAny (model prog w) A (getMethod (.ref so) name pl) Q E s := by
  have X : K.In s.heap := X₀.keeps F.keep
  have I := InstAt_acc N h1 h2
  obtain ⟨hh, g, d, t, os⟩ := s
  obtain ⟨_, _, cd, _, _, _, _, _, hmro, _, _, _, hc⟩ := acc_of hp
  have Y := makesL_of (M := model prog w) X hp
  unfold ks_superIn at hm
  rw [hc] at hm
  refine getMethod_super_b (N _ hso).1 (looks_opaque X ho) (l₀ := cd.mro) ?_ rfl X hm ht ho2 (N _ h1).1 rfl Y.lst (ks_ne X I hc) hn ?_
  · exact fun A Q E s k q => wpAny_bind ((looks_clsIn X hc) A _ E s k (wpAny_pure q))
  · obtain ⟨F', N', l'⟩ := ks_newsPush (s := ⟨hh, g, d, t, os⟩) (o := mwObj i x) F N rfl (Heap.get?_push_at rfl rfl) (fun b o e => Heap.get?_push_of_some _ e)
    exact h _ _ F' N' l'
theorem mw_keeps {M : Model} {i : String} (h : Heap) (X : h.get? q = some (mwObj i x)) : ∃ k, (k = Keeper.frame ∨ k = Keeper.machine ∨ k = Keeper.boundFrame) ∧ Looks M h (keeperOf (.ref q)) k :=
  ⟨.machine, .inr (.inl rfl), (Looks.ld (part := none) X).andThen .now⟩
theorem callWith_mw {i : String} {pos : Pos} {env : Env} {Q : Value → Shared → Prop} (N : News h₀ L s.heap news) (hq : (q, mwObj i x) ∈ news) (h : wpAny (model prog w) A (call (.ref q) ([] ++ [])) Q E s) :
    wpAny (model prog w) A (callWith pos (.ref q) [] (backTo pos (starEach [] env)) []) Q E s :=
  callWith_of rfl (mw_keeps (i := i) (x := x)) (evalArgs_nil3 ⟨(N _ hq).1, h⟩)
theorem call_mw {i : String} {b : Builtin} {Q : Value → Shared → Prop} (hq : s.heap.get? q = some (mwObj i x)) (hk : builtinKind i = some .slot) (hpl : plainId i = true) (he : entryFor table i = some b) (ha : argsOk i ⟨[.ref x], []⟩)
    (h : wpAny (model prog w) A.in1 (b ⟨[.ref x], []⟩) (fun fin s' => ∃ v, fin = .done (.ret v) ∧ Q v s') E s) : wpAny (model prog w) A (call (.ref q) []) Q E s := by
  refine wpAny_call (codeAny_of_tree ?_)
  show wpAny _ A.in1 (callAny (.ref q) _) _ _ _
  unfold callAny
  refine wpAny_bind (wpAny_load hq ?_)
  show wpAny _ _ (checkBoundCall i ⟨[.ref x], []⟩ >>= fun _ => again (.builtin i ⟨[.ref x], []⟩)) _ _ _
  refine wpAny_bind ?_
  have e : checkBoundCall i ⟨[.ref x], []⟩ = pure () := by
    unfold checkBoundCall
    unfold argsOk at ha
    cases hs : Manifest.signature? i with
    | none => rfl
    | some sig =>
      rw [hs] at ha
      simp only [hk]
      exact ha
  refine wpAny_of_eq e (wpAny_pure ⟨plainId_quiet hpl _, ?_⟩)
  refine codeAny_builtin he ?_
  rw [Around.under_plainId hpl _]
  refine wpAny_mono h (fun fin s' hf => ?_) fun _ _ z => z
  obtain ⟨v, rfl, hv⟩ := hf
  exact hv
theorem call_li {Q : Value → Shared → Prop} (F : Fr h₀ L s.heap m) (N : News h₀ L s.heap news) (hq : (q, mwObj "list.__init__" x) ∈ news) (U : Upd x (accObj C dx #[] k) (accObj C dx #[] k) news news')
    (h : ∀ h', Fr h₀ L h' m → News h₀ L h' news' → Q .none { s with heap := h' }) : wpAny (model prog w) A (call (.ref q) []) Q E s := by
  refine call_mw (N _ hq).1 li_kind li_plain li_entry (li_args _) ?_
  obtain ⟨pre, post, rfl, rfl, a, b⟩ := U.split
  have h1 : (x, accObj C dx #[] k) ∈ pre ++ (x, accObj C dx #[] k) :: post := by simp
  show wpAny _ A.in1 (do let old ← Builtin.List.listItems (.ref x); Builtin.List.listUpdate (.ref x) (fun _ => #[]); letGo old.toList.reverse; ret .none) _ _ s
  obtain ⟨U1, U2⟩ := news_upd (f := Obj.mapSeq (fun _ => #[])) (o' := accObj C dx #[] k) F N a b (by simp [Obj.mapSeq]) rfl
  refine wpAny_bind ?_
  unfold Builtin.List.listItems
  refine wpAny_bind (wpAny_seqItems (N _ h1).1 rfl (wpAny_pure ?_))
  show wpAny _ A.in1 (updateSeq x (fun _ => #[]) >>= fun _ => letGo (#[] : Array Value).toList.reverse >>= fun _ => ret .none) _ _ s
  refine wpAny_bind (wpAny_updateSeq (hz := by rw [sizeLine_eq]; simp) (N _ h1).1 rfl ?_ (by rw [sizeLine_eq]; simp))
  exact wpAny_bind (wpAny_letGo (wpAny_pure ⟨_, rfl, h _ U1 U2⟩))
theorem call_ll {Q : Value → Shared → Prop} (N : News h₀ L s.heap news) (hq : (q, mwObj "list.__len__" x) ∈ news) (h1 : (x, accObj C dx its k) ∈ news)
    (h : Q (.int (its.size : Int) s.toks) { s with toks := s.toks + 1 }) : wpAny (model prog w) A (call (.ref q) []) Q E s := by
  refine call_mw (N _ hq).1 ll_kind ll_plain ll_entry (ll_args _) ?_
  show wpAny _ A.in1 (do let n ← seqSize x; retInt n) _ _ s
  unfold seqSize
  refine wpAny_bind (wpAny_bind (wpAny_load (N _ h1).1 (wpAny_pure ?_)))
  exact wpAny_bind (wpAny_mkInt (wpAny_pure ⟨_, rfl, h⟩))
noncomputable def itemsIn (K : Frag) (C : Addr) : Bool := findIn K (.ref C) "__getitem__" == some (some (.builtin "list.__getitem__")) && findIn K (.ref C) "__setitem__" == some (some (.builtin "list.__setitem__")) && findIn K (.ref C) "__iter__" == some (some (.builtin "list.__iter__")) && mroIn K C (.type "collections.deque") == some false
theorem items_of {K : Frag} {C : Addr} (h : itemsIn K C = true) : findIn K (.ref C) "__getitem__" = some (some (.builtin "list.__getitem__")) ∧ findIn K (.ref C) "__setitem__" = some (some (.builtin "list.__setitem__")) ∧ findIn K (.ref C) "__iter__" = some (some (.builtin "list.__iter__")) ∧ mroIn K C (.type "collections.deque") = some false := by
  unfold itemsIn at h
  simp only [Bool.and_eq_true, beq_iff_eq] at h
  exact ⟨h.1.1.1, h.1.1.2, h.1.2, h.2⟩
theorem items100 (P : Params) : itemsIn (Mine.hd.heap_1 P) 100 = true := by kernel_rfl
theorem acc_seqKey {ox : Obj} {od : Option Obj} {key : Value} {nm : Str} {Q : Value → Shared → Prop} (X : K.In s.heap) (I : InstAt s.heap x ox C od) (hd : mroIn K C (.type "collections.deque") = some false) (h : Q key s) : wpAny (model prog w) A (sequenceKey (.ref x) key nm) Q E s := by
  unfold sequenceKey
  refine wpAny_bind (I.type.here ?_)
  dsimp only
  unfold seqItemTypes
  refine wpAny_bind ?_
  show wpAny _ _ (isSubtype (.ref C) (.type "collections.deque") >>= _) _ _ _
  refine wpAny_bind ((looks_mroIn X hd).here ?_)
  refine wpAny_pure ?_
  exact wpAny_pure h
end
end Mine
end

section
open PySem PySem.W PySem.Calls PyProof.Rows PyProof.V PySem.Spec Builtin Builtin.ObjectAttr
set_option Elab.async false
set_option maxRecDepth 100000
set_option maxHeartbeats 8000000
set_option linter.all false
namespace Mine
section
variable {prog : Program} {w : World} {A : Around} {E : Value → Shared → Prop} {s : Shared} {h₀ : Heap} {L : Addr} {m : Str → Option Value} {news news' : List (Addr × Obj)} {K : Frag} {x C D dx so q : Addr} {its : Array Value} {k n : Nat} {es : List DictEntry}
theorem gi_kind : builtinKind "list.__getitem__" = some .method := by decide +kernel
theorem gi_split : splitId "list.__getitem__" = some ("list", "__getitem__") := by decide +kernel
theorem si_kind : builtinKind "list.__setitem__" = some .slot := by decide +kernel
theorem si_split : splitId "list.__setitem__" = some ("list", "__setitem__") := by decide +kernel
theorem acc_slice {sl : Addr} {vl vu : Value} {lo hi : Option Int} {Q : Value → Shared → Prop} (X : K.In s.heap) (hp : accIn K C = true) (hg : itemsIn K C = true) (hx : s.heap.get? x = some (accObj C dx its k)) (hdx : ∃ od, s.heap.get? dx = some od)
    (hs : s.heap.IsSliceOf sl vl vu .none) (pl : IsPart vl lo) (pu : IsPart vu hi) (hsz : its.size ≤ sizeLine)
    (h : Q (.ref s.heap.objs.size) { s with heap := s.heap.push { cls := .type "list", data := .seq (slicePick its lo hi none) } }) :
    wpAny (model prog w) A (getItem (.ref x) (.ref sl)) Q E s := by
  obtain ⟨od, hdx⟩ := hdx
  have I : InstAt s.heap x (accObj C dx its k) C (some od) := ⟨hx, rfl, rfl, hdx⟩
  obtain ⟨g1, g2, g3, g4⟩ := items_of hg
  obtain ⟨os, hos, hcs, hds⟩ := id hs
  have hTs : s.TypeIs (.ref sl) "slice" := ⟨os, hos, hcs⟩
  unfold getItem
  try with_reducible refine wpAny_holding ?_
  first | refine wpAny_bind (wpAny_pure ?_) | skip
  refine wpAny_bind (acc_seqKey X I g4 ?_)
  unfold callSpecial? specialOf
  refine wpAny_bind (wpAny_bind (wpAny_bind (I.type.here ((looks_findIn X g1).here ?_))))
  dsimp only
  have hb : bindSpecial (.builtin "list.__getitem__") (.ref x) = pure (.builtin "list.__getitem__", [.ref x]) := slot_list_getitem.bind _
  refine wpAny_holding (wpAny_bind (wpAny_of_eq hb ?_))
  dsimp only
  have hI := acc_inst (prog := prog) (w := w) X hp I
  have ha : argsOk "list.__getitem__" ⟨[.ref x, .ref sl], []⟩ := args_list_getitem _ _
  have hpl : plainId "list.__getitem__" = true := slot_list_getitem.plain
  refine wpAny_bind (wpAny_call ?_)
  refine codeAny_call_builtin hpl entry_list_getitem ?_
  simp only [List.cons_append, List.nil_append]
  refine check_meth (i := "list.__getitem__") (self := .ref x) (rest := [.ref sl]) (kw := []) gi_kind gi_split hI ha ?_
  show wpAny _ _ (Builtin.List.listSubscript? (.ref sl) >>= _) _ _ s
  refine wpAny_bind ?_
  unfold Builtin.List.listSubscript?
  refine wpAny_bind (wpAny_specialOf hTs slice_no_index ?_)
  simp only [Option.isNone_none, if_true]
  refine wpAny_pure ?_
  show wpAny _ _ (typeOf (.ref sl) >>= _) _ _ s
  refine wpAny_bind (wpAny_typeOf hTs ?_)
  rw [if_neg (by decide)]
  rw [listSliceParts_eq]
  refine wpAny_bind (wpAny_bind (wpAny_field hos hds (x := Value.none) rfl (wpAny_bind (wpAny_listPart IsPart.none ?_))))
  rw [if_neg (show ¬ ((rawPart none == rawInt 0) = true) from Bool.false_ne_true)]
  refine wpAny_bind (wpAny_field hos hds (x := vl) rfl (wpAny_bind (wpAny_listPart pl ?_)))
  refine wpAny_bind (wpAny_field hos hds (x := vu) rfl (wpAny_bind (wpAny_listPart pu (wpAny_pure ?_))))
  refine wpAny_bind (m := Builtin.List.listItems (.ref x)) ?_
  unfold Builtin.List.listItems
  refine wpAny_bind (wpAny_seqItems hx rfl (wpAny_pure ?_))
  refine wpAny_bind (wpAny_of_eq (sliceIndices_raw lo hi none its.size (by simp)) ?_)
  refine wpAny_bind (wpAny_newObj_type (wpAny_pure ?_) (Nat.le_trans (slicePick_size_le its lo hi none) hsz))
  exact wpAny_pure (wpAny_pure h)
theorem acc_setSlice {sl v : Addr} {vl : Value} {lo : Option Int} {a : Nat} {ys : Array Value} {Q : Unit → Shared → Prop} (X : K.In s.heap) (hp : accIn K C = true) (hg : itemsIn K C = true) (hx : s.heap.get? x = some (accObj C dx its k)) (hdx : ∃ od, s.heap.get? dx = some od)
    (hs : s.heap.IsSliceOf sl vl .none .none) (pl : IsPart vl lo) (hlo : sliceBounds lo none none its.size = ((a : Int), (its.size : Int), 1)) (ha : a ≤ its.size) (hv : s.heap.IsList v ys) (hxv : v ≠ x) (hsz : its.size ≤ 1000) (hsy : ys.size ≤ 1000)
    (h : ∀ h' k', h'.get? x = some (accObj C dx (its.extract 0 a ++ ys) k') → Heap.SameBut x s.heap h' → Q () { s with heap := h' }) :
    wpAny (model prog w) A (setItem (.ref x) (.ref sl) (.ref v)) Q E s := by
  obtain ⟨od, hdx⟩ := hdx
  have I : InstAt s.heap x (accObj C dx its k) C (some od) := ⟨hx, rfl, rfl, hdx⟩
  obtain ⟨g1, g2, g3, g4⟩ := items_of hg
  obtain ⟨os, hos, hcs, hds⟩ := id hs
  obtain ⟨o, ho, hc, ne, hd⟩ := id hv
  have hTs : s.TypeIs (.ref sl) "slice" := ⟨os, hos, hcs⟩
  unfold setItem
  try with_reducible refine wpAny_holding ?_
  first | refine wpAny_bind (wpAny_pure ?_) | skip
  refine wpAny_bind (acc_seqKey X I g4 ?_)
  unfold callSpecial? specialOf
  refine wpAny_bind (wpAny_bind (wpAny_bind (I.type.here ((looks_findIn X g2).here ?_))))
  dsimp only
  have hb : bindSpecial (.builtin "list.__setitem__") (.ref x) = pure (.builtin "list.__setitem__", [.ref x]) := slot_list_setitem.bind _
  refine wpAny_holding (wpAny_bind (wpAny_of_eq hb ?_))
  dsimp only
  have hI := acc_inst (prog := prog) (w := w) X hp I
  have ha : argsOk "list.__setitem__" ⟨[.ref x, .ref sl, .ref v], []⟩ := args_list_setitem _ _ _
  have hpl : plainId "list.__setitem__" = true := slot_list_setitem.plain
  refine wpAny_bind (wpAny_call ?_)
  refine codeAny_call_builtin hpl entry_list_setitem ?_
  simp only [List.cons_append, List.nil_append]
  refine check_slot (i := "list.__setitem__") (self := .ref x) (rest := [.ref sl, .ref v]) (kw := []) si_kind si_split hI ha ?_
  show wpAny _ _ (Builtin.List.listSubscript? (.ref sl) >>= _) _ _ s
  refine wpAny_bind ?_
  unfold Builtin.List.listSubscript?
  refine wpAny_bind (wpAny_specialOf hTs slice_no_index ?_)
  simp only [Option.isNone_none, if_true]
  refine wpAny_pure ?_
  show wpAny _ _ (typeOf (.ref sl) >>= _) _ _ s
  refine wpAny_bind (wpAny_typeOf hTs ?_)
  rw [if_neg (by decide)]
  rw [listSliceParts_eq]
  refine wpAny_bind (wpAny_bind (wpAny_field hos hds (x := Value.none) rfl (wpAny_bind (wpAny_listPart IsPart.none ?_))))
  rw [if_neg (show ¬ ((rawPart none == rawInt 0) = true) from Bool.false_ne_true)]
  refine wpAny_bind (wpAny_field hos hds (x := vl) rfl (wpAny_bind (wpAny_listPart pl ?_)))
  refine wpAny_bind (wpAny_field hos hds (x := Value.none) rfl (wpAny_bind (wpAny_listPart IsPart.none (wpAny_pure ?_))))
  refine bm_if_false (by show (x == v) = false; exact beq_eq_false_iff_ne.mpr (fun e => hxv e.symm)) ?_
  unfold Builtin.List.listAllItems
  refine wpAny_bind (wpAny_bind (wpAny_typeOf (T := "list") ⟨o, ho, hc⟩ ?_))
  refine bm_if_true rfl ?_
  unfold Builtin.List.listItems
  refine wpAny_bind (wpAny_seqItems ho hd (wpAny_pure ?_))
  refine wpAny_bind (wpAny_bind (wpAny_seqItems hx rfl (wpAny_pure ?_)))
  refine wpAny_bind (wpAny_of_eq (sliceIndices_raw lo none none its.size (by simp)) ?_)
  rw [hlo]
  refine bm_if_true rfl ?_
  refine wpAny_bind (wpAny_rule ?_)
  refine bm_if_false (by unfold Builtin.List.listTooLong; rw [sizeLine_eq]; exact decide_eq_false (by omega)) ?_
  have e1 : its.extract 0 ((a : Int)).toNat ++ ys ++ its.extract (Max.max (a : Int) (its.size : Int)).toNat its.size = its.extract 0 a ++ ys := by
    rw [Int.toNat_natCast, show (Max.max (a : Int) (its.size : Int)).toNat = its.size by omega]
    simp
  have hsz1 : (its.extract 0 a ++ ys).size ≤ 2000 := by rw [Array.size_append, Array.size_extract]; omega
  show wpAny _ _ (updateSeq x (fun xs => xs.extract 0 ((a : Int)).toNat ++ ys ++ xs.extract (Max.max (a : Int) (its.size : Int)).toNat xs.size) >>= _) _ _ _
  refine wpAny_bind (wpAny_updateSeq (hz := by rw [sizeLine_eq]; omega) hx rfl ?_ (by rw [e1, sizeLine_eq]; omega))
  refine wpAny_bind (wpAny_letGo (wpAny_pure ?_))
  dsimp only
  refine wpAny_pure ?_
  dsimp only
  refine wpAny_pure ?_
  refine h _ (if (its.extract 0 a ++ ys).size == its.size then k else k + 1) ?_ (Heap.SameBut.update ..)
  rw [Heap.get?_update_self _ hx rfl]
  simp only [Obj.mapSeq, e1]
theorem acc_tail {value slice : PySem.Expr} {i : Value} {ops : List Value} {Q : Value → Shared → Prop} (X : K.In s.heap) (hg : itemsIn K C = true) {od : Option Obj} {ox : Obj} (I : InstAt s.heap x ox C od) (h : wpAny (model prog w) A (getItem (.ref x) i) Q E s)
    (hs : subscripted slice false (.ref x) i = operate ops (getItem (.ref x) i)) (ht : ∀ r, letTemporaryGo value (.ref x) r = pure ()) : wpAny (model prog w) A (subscriptTail value slice (.ref x) i) Q E s := by
  obtain ⟨g1, g2, g3, g4⟩ := items_of hg
  unfold subscriptTail
  refine wpAny_bind ?_
  rw [getitemInPython_of_ne (by intro e; cases e)]
  unfold specialOf
  refine wpAny_bind (wpAny_bind (I.type.here ((looks_findIn X g1).here ?_)))
  have fin : wpAny (model prog w) A (subscripted slice false (.ref x) i) (fun r s₃ => wpAny (model prog w) A (letTemporaryGo value (.ref x) r >>= fun _ => pure r) Q E s₃) E s := by
    rw [hs]
    exact wpAny_operating (wpAny_mono h (fun r s₃ h₃ => wpAny_bind (wpAny_of_eq (ht r) (wpAny_pure h₃))) fun _ _ x => x)
  first
    | exact wpAny_pure (wpAny_bind fin)
    | exact wpAny_bind (wpAny_pure (wpAny_bind fin))
    | exact wpAny_bind fin
theorem acc_sliceK {value slice : PySem.Expr} {vl vu : Value} {lo hi : Option Int} {Q : Value → Shared → Prop} (F : Fr h₀ L s.heap m) (X₀ : K.In h₀) (N : News h₀ L s.heap news) (hp : accIn K C = true) (hg : itemsIn K C = true) (h1 : (x, accObj C dx its k) ∈ news) (h2 : (dx, dictOf es n) ∈ news)
    (pl : IsPart vl lo) (pu : IsPart vu hi) (hsz : its.size ≤ 1000)
    (h : ∀ D h', Fr h₀ L h' m → News h₀ L h' ((D, listOf (slicePick its lo hi none) 0) :: news) → (∀ p ∈ news, p.1 < D) → Q (.ref D) { s with heap := h' })
    (hs : subscripted slice false (.ref x) (.ref s.heap.objs.size) = operate [.ref s.heap.objs.size, .ref x] (getItem (.ref x) (.ref s.heap.objs.size))) (ht : ∀ r, letTemporaryGo value (.ref x) r = pure ()) :
    wpAny (model prog w) A (subscriptTail value slice (.ref x) (.ref s.heap.objs.size)) Q E { s with heap := s.heap.push { cls := .type "slice", data := .fields #[vl, vu, .none] } } := by
  have N0 := N.grown (h' := s.heap.push { cls := .type "slice", data := .fields #[vl, vu, .none] }) fun _ _ e => Heap.get?_push_of_some _ e
  have X : K.In (s.heap.push { cls := .type "slice", data := .fields #[vl, vu, .none] }) := (X₀.keeps F.keep).keeps fun _ _ e => Heap.get?_push_of_some _ e
  refine acc_tail X hg (InstAt_acc N0 h1 h2) (acc_slice X hp hg (N0 _ h1).1 ⟨_, (N0 _ h2).1⟩ (Heap.IsSliceOf.new ..) pl pu (by rw [sizeLine_eq]; omega) ?_) hs ht
  have N1 := News.push (F.push { cls := .type "slice", data := .fields #[vl, vu, .none] }) N0 { cls := .type "list", data := .seq (slicePick its lo hi none) }
  rw [Heap.size_push] at N1
  show Q (.ref (s.heap.push _).objs.size) _
  rw [Heap.size_push]
  exact h _ _ ((F.push _).push _) N1 fun p hp => Nat.lt_succ_of_lt (Heap.lt_size (N p hp).1)
theorem acc_setSliceK {news' : Nat → List (Addr × Obj)} {sl v : Addr} {vl : Value} {lo : Option Int} {a nn : Nat} {ys : List Value} {vs : List Value} {Q : Unit → Shared → Prop} (F : Fr h₀ L s.heap m) (X₀ : K.In h₀) (N : News h₀ L s.heap news) (hp : accIn K C = true) (hg : itemsIn K C = true) (h2 : (dx, dictOf es n) ∈ news)
    (hs : s.heap.IsSliceOf sl vl .none .none) (pl : IsPart vl lo) (hlo : sliceBounds lo none none vs.length = ((a : Int), (vs.length : Int), 1)) (ha : a ≤ vs.length) (hv : (v, listOf ys.toArray nn) ∈ news) (hxv : v ≠ x) (hsz : vs.length ≤ 1000) (hsy : ys.length ≤ 1000)
    (U : ∀ k', Upd x (accObj C dx vs.toArray k) (accObj C dx (vs.take a ++ ys).toArray k') news (news' k'))
    (h : ∀ h' k', Fr h₀ L h' m → News h₀ L h' (news' k') → Q () { s with heap := h' }) :
    wpAny (model prog w) A (setItem (.ref x) (.ref sl) (.ref v)) Q E s := by
  have X := X₀.keeps F.keep
  have h1 : (x, accObj C dx vs.toArray k) ∈ news := by
    obtain ⟨pre, post, e, _, _, _⟩ := (U 0).split
    rw [e]
    simp
  have z := N _ h1
  refine acc_setSlice (a := a) (ys := ys.toArray) X hp hg z.1 ⟨_, (N _ h2).1⟩ hs pl (by rw [List.size_toArray]; exact hlo) (by rw [List.size_toArray]; exact ha) ⟨_, (N _ hv).1, rfl, nn, rfl⟩ hxv (by rw [List.size_toArray]; exact hsz) (by rw [List.size_toArray]; exact hsy) fun h' k' ho' hs' => ?_
  have e : vs.toArray.extract 0 a ++ ys.toArray = (vs.take a ++ ys).toArray := by simp
  rw [e] at ho'
  obtain ⟨pre, post, rfl, e2, aa, bb⟩ := (U k').split
  refine h h' k' (F.change hs' z.2.1 z.2.2) ?_
  rw [e2]
  exact news_set N aa bb hs' ho'
theorem acc_setSliceP {news' : Nat → List (Addr × Obj)} {v : Addr} {vl : Value} {lo : Option Int} {a nn : Nat} {ys : List Value} {vs : List Value} {Q : Unit → Shared → Prop} (F : Fr h₀ L s.heap m) (X₀ : K.In h₀) (N : News h₀ L s.heap news) (hp : accIn K C = true) (hg : itemsIn K C = true) (h2 : (dx, dictOf es n) ∈ news)
    (pl : IsPart vl lo) (hlo : sliceBounds lo none none vs.length = ((a : Int), (vs.length : Int), 1)) (ha : a ≤ vs.length) (hv : (v, listOf ys.toArray nn) ∈ news) (hxv : v ≠ x) (hsz : vs.length ≤ 1000) (hsy : ys.length ≤ 1000)
    (U : ∀ k', Upd x (accObj C dx vs.toArray k) (accObj C dx (vs.take a ++ ys).toArray k') news (news' k'))
    (h : ∀ h' k', Fr h₀ L h' m → News h₀ L h' (news' k') → Q () { s with heap := h' }) :
    wpAny (model prog w) A (setItem (.ref x) (.ref s.heap.objs.size) (.ref v)) Q E { s with heap := s.heap.push { cls := .type "slice", data := .fields #[vl, .none, .none] } } :=
  acc_setSliceK (s := { s with heap := s.heap.push { cls := .type "slice", data := .fields #[vl, .none, .none] } }) (F.push _) X₀ (N.grown fun _ _ e => Heap.get?_push_of_some _ e) hp hg h2 (Heap.IsSliceOf.new ..) pl hlo ha hv hxv hsz hsy U h
theorem pick_from (vs : List Value) {i : Int} (h0 : 0 ≤ i) (h1 : i ≤ vs.length) : slicePick vs.toArray (some i) none none = (vs.drop i.toNat).toArray := by
  rw [kms_pick_eq]
  unfold kms_pick kms_lo kms_hi
  dsimp only
  rw [if_neg (by omega), show min i.toNat vs.length = i.toNat by omega, List.take_of_length_le (by rw [List.length_drop]; exact Nat.le_refl _)]
theorem bounds_from {i : Int} {n : Nat} (h0 : 0 ≤ i) (h1 : i ≤ n) : sliceBounds (some i) none none n = ((i.toNat : Int), (n : Int), 1) := by
  rw [kms_bounds]
  unfold kms_lo kms_hi
  dsimp only
  rw [if_neg (by omega), show min i.toNat n = i.toNat by omega]
theorem bounds_all {n : Nat} : sliceBounds none none none n = (((0 : Nat) : Int), (n : Int), 1) := by
  rw [kms_bounds]
  rfl
end
end Mine
end

section
open PySem PySem.W PySem.Calls PyProof.Rows PyProof.V PySem.Spec Builtin Builtin.ObjectAttr
set_option Elab.async false
set_option maxRecDepth 100000
set_option maxHeartbeats 8000000
set_option linter.all false
namespace Mine
theorem lga_kind : builtinKind "list.__getattribute__" = some .slot := by decide +kernel
theorem lga_split : splitId "list.__getattribute__" = some ("list", "__getattribute__") := by decide +kernel
section
variable {prog : Program} {w : World} {A : Around} {E : Value → Shared → Prop} {s : Shared} {h₀ : Heap} {L : Addr} {m : Str → Option Value} {news news' : List (Addr × Obj)} {K : Frag} {x C D dx so q : Addr} {its : Array Value} {k n : Nat} {es : List DictEntry} {name : Str}
theorem get_ownL {expr : Bool} {Q : Value → Shared → Prop} {attr : Option Value} {v : Value} (F : Fr h₀ L s.heap m) (X₀ : K.In h₀) (N : News h₀ L s.heap news) (h1 : (x, accObj C dx its k) ∈ news) (h2 : (dx, dictOf es n) ∈ news) (hp : accIn K C = true) (hg : ga_ok K C = true) (hh : hasDictIn K C = true)
    (ha : findIn K (.ref C) name = some attr) (hn : noGet K attr = true) (hl : getL name es = some (some v)) (hv : handedIn v = true) (h : Q v { s with toks := s.toks + 1 }) :
    wpAny (model prog w) A (getAttr (.ref x) name expr) Q E s := by
  have X := X₀.keeps F.keep
  have I := InstAt_acc N h1 h2
  obtain ⟨hga, hk⟩ := ga_of hg
  have hI := acc_inst (prog := prog) (w := w) X hp I
  obtain ⟨hh', g, d, t, os⟩ := s
  have L0 := I.type (M := model prog w)
  have L1 := looks_findIn (M := model prog w) X hga
  have L2 := looks_findIn (M := model prog w) X hk
  have L3 := looks_find (M := model prog w) X I (findObj_own hh ha hn hl)
  have hb : bindSpecial (.builtin "list.__getattribute__") (.ref x) = pure (.builtin "list.__getattribute__", [.ref x]) := PySem.F.slot_list_getattribute.bind _
  have hpl : plainId "list.__getattribute__" = true := PySem.F.slot_list_getattribute.plain
  have haa : argsOk "list.__getattribute__" ⟨[.ref x, .str name t], []⟩ := PySem.F.args_list_getattribute_2 _ _
  unfold getAttr getAttrBy
  refine wpAny_bind (wpAny_mkText (wpAny_holding (wpAny_bind (L0.at (wpAny_bind (L1.at ?_))))))
  show wpAny _ _ (getAttrByItsOwn (.ref x) (.str name t) (.ref C) (.builtin "list.__getattribute__") true expr) _ _ _
  unfold getAttrByItsOwn hookBefore callGetattribute boundAndCalled
  refine wpAny_bind ?_
  show wpAny _ _ (typeLookup (.ref C) "__getattr__") _ _ _
  refine L2.at ?_
  refine wpAny_bind (wpAny_attempt (wpAny_holding ?_))
  refine bm_if_false (by show (expr && false) = false; rw [Bool.and_false]) ?_
  refine wpAny_bind (wpAny_of_eq hb ?_)
  dsimp only
  simp only [List.cons_append, List.nil_append]
  refine wpAny_call ?_
  refine codeAny_call_builtin hpl PySem.F.entry_list_ga ?_
  refine check_slot (i := "list.__getattribute__") (self := .ref x) (rest := [.str name t]) (kw := []) lga_kind lga_split hI haa ?_
  show wpAny _ _ (typeOf (.ref x) >>= fun tp => find (.ref x) tp name >>= _) _ _ _
  refine wpAny_bind (L0.at (wpAny_bind (L3.at ?_)))
  refine wpAny_pure ?_
  dsimp only
  show wpAny _ _ (handedOut v) _ _ _
  rw [handedOut_of hv]; exact wpAny_pure h
end
end Mine
end

section
open PySem PySem.W PySem.Calls PyProof.Rows PyProof.V PySem.Spec Builtin Builtin.ObjectAttr
open PySem.Sem (wp)
set_option Elab.async false
set_option maxRecDepth 100000
set_option maxHeartbeats 8000000
set_option linter.all false
namespace Mine
noncomputable def IsSeq (h : Heap) (l : Addr) (items : Array Value) : Prop := ∃ o n, h.get? l = some o ∧ o.data = .seq items n
theorem IsSeq.at {h h' : Heap} {l : Addr} {items : Array Value} (x : IsSeq h l items) (k : ∀ o, h.get? l = some o → h'.get? l = some o) : IsSeq h' l items := let ⟨o, n, e, d⟩ := x; ⟨o, n, k o e, d⟩
section
variable {prog : Program} {w : World} {A : Around} {E : Value → Shared → Prop} {s : Shared}
theorem seq_next {it l : Addr} {i : Nat} {items : Array Value} {x : Value} {Q : Option Value → Shared → Prop} (hit : s.heap.IsListIter it l i) (hl : IsSeq s.heap l items) (hx : items[i]? = some x)
    (hQ : ∀ h', h'.IsListIter it l (i + 1) → Heap.SameBut it s.heap h' → Q (some x) { s with heap := h' }) : wpAny (model prog w) A (pyNext (.ref it)) Q E s := by
  obtain ⟨o, ho, hc, hd⟩ := id hit
  obtain ⟨ol, nl, hol, hdl⟩ := hl
  unfold pyNext
  refine wpAny_bind (wpAny_attempt (wpAny_callSpecial?_slot (name := Str.ofString "__next__") hit.typeIs slot_listiter_next
    (wpAny_call_entry slot_listiter_next hit.typeIs entry_listiter_next ?_ (args_listiter_next _))))
  show wpAny _ _ (field (.ref it) 0 >>= _) _ _ s
  refine wpAny_bind (wpAny_field ho hd (x := .ref l) rfl ?_)
  show wpAny _ _ (if (Value.ref l == Value.none) = true then _ else _) _ _ s
  rw [if_neg (show ¬ ((Value.ref l == Value.none) = true) from Bool.false_ne_true)]
  show wpAny _ _ (field (.ref it) 1 >>= _) _ _ s
  refine wpAny_bind (wpAny_field ho hd (x := .int i 0) rfl ?_)
  show wpAny _ _ (seqItems? (.ref l) >>= _) _ _ s
  refine wpAny_bind (wpAny_seqItems hol hdl ?_)
  simp only [Int.toNat_natCast, hx]
  refine wpAny_bind (wpAny_setField ho hd (by simp) (wpAny_pure ⟨x, rfl, wpAny_pure (hQ _ ?_ (Heap.SameBut.update ..))⟩))
  exact ⟨_, Heap.get?_update_self _ ho (Obj.isFreed_of_fields (Obj.data_mapFields hd _)), (Obj.cls_mapFields ..).trans hc, by
    rw [Obj.data_mapFields hd]; simp [rawInt]⟩
theorem seq_end {it l : Addr} {i : Nat} {items : Array Value} {Q : Option Value → Shared → Prop} (hh : A.handled = none)
    (hit : s.heap.IsListIter it l i) (hl : IsSeq s.heap l items) (hx : items[i]? = none)
    (hQ : ∀ h', Heap.ExtBut it s.heap h' → Q none { s with heap := h' }) : wpAny (model prog w) A (pyNext (.ref it)) Q E s := by
  obtain ⟨o, ho, hc, hd⟩ := id hit
  obtain ⟨ol, nl, hol, hdl⟩ := hl
  unfold pyNext
  refine wpAny_bind (wpAny_attempt (wpAny_callSpecial?_slot (name := Str.ofString "__next__") hit.typeIs slot_listiter_next
    (wpAny_call_entry slot_listiter_next hit.typeIs entry_listiter_next ?_ (args_listiter_next _))))
  show wpAny _ _ (field (.ref it) 0 >>= _) _ _ s
  refine wpAny_bind (wpAny_field ho hd (x := .ref l) rfl ?_)
  show wpAny _ _ (if (Value.ref l == Value.none) = true then _ else _) _ _ s
  rw [if_neg (show ¬ ((Value.ref l == Value.none) = true) from Bool.false_ne_true)]
  show wpAny _ _ (field (.ref it) 1 >>= _) _ _ s
  refine wpAny_bind (wpAny_field ho hd (x := .int i 0) rfl ?_)
  show wpAny _ _ (seqItems? (.ref l) >>= _) _ _ s
  refine wpAny_bind (wpAny_seqItems hol hdl ?_)
  simp only [Int.toNat_natCast, hx]
  refine wpAny_bind (wpAny_rule (wpAny_bind (wpAny_setField ho hd (by simp) ?_)))
  show wpAny _ _ (newExc (.type "StopIteration") [] >>= _) _ _ _
  refine wpAny_bind ?_
  simp only [newExc, newTuple]
  refine wpAny_bind (wpAny_newObj_type ?_ (by size_fits))
  refine wpAny_bind (m := firstArgMember _ _) (wpAny_of_eq (a := Value.none) (by first | rfl | (simp only [firstArgMember]; rfl)) ?_)
  refine wpAny_newObj_type ?_ (by size_fits)
  simp only [raiseNew]
  refine wpAny_bind (wpAny_handled ?_)
  rw [show A.in1.handled = none from hh]
  refine wpAny_bind (wpAny_pure (wpAny_throw ?_))
  refine wpAny_bind (wpAny_isInstance (T := "StopIteration") (b := true) ⟨_, Heap.get?_push_size _ rfl, rfl⟩ isSubtype_stop ?_)
  exact wpAny_pure (hQ _ (((Heap.SameBut.update ..).extBut.push _).push _))
end
theorem walks_acc {prog : Program} {w : World} {A : Around} (hh : A.handled = none) (I ax : Addr) (hne : ax ≠ I) (items : Array Value) (Ts : Nat → Addr) (vals : Nat → Array Value)
    (hit : ∀ j, j < items.size → items[j]? = some (.ref (Ts j))) (hTI : ∀ j, j < items.size → Ts j ≠ I) :
    WalksU prog w A I (I :: ax :: (List.range items.size).map Ts) [I] items.size (fun j v => v = vals j)
      (fun j h => h.IsListIter I ax j ∧ IsSeq h ax items ∧ ∀ k, k < items.size → h.IsTuple (Ts k) (vals k))
      (fun j T h => (j < items.size ∧ T = Ts j) ∧ h.IsListIter I ax (j + 1) ∧ IsSeq h ax items ∧ ∀ k, k < items.size → h.IsTuple (Ts k) (vals k)) where
  sub := fun b hb => by simp at hb; simp [hb]
  frame := fun _ _ _ st hk => ⟨st.1.at fun o e => hk I (by simp) o e, st.2.1.at fun o e => hk ax (by simp) o e,
    fun k hk' => (st.2.2 k hk').at fun o e => hk (Ts k) (List.mem_cons_of_mem _ (List.mem_cons_of_mem _ (List.mem_map.mpr ⟨k, List.mem_range.mpr hk', rfl⟩))) o e⟩
  item := fun i s Q E hi st hQ => by
    refine seq_next st.1 st.2.1 (x := .ref (Ts i)) (hit i hi) fun h' hit' hs' => ?_
    have tup : ∀ k, k < items.size → h'.IsTuple (Ts k) (vals k) := fun k hk' => (st.2.2 k hk').extBut hs'.extBut (hTI k hk')
    exact hQ (Ts i) (vals i) h' s.toks rfl (tup i hi) ⟨⟨hi, rfl⟩, hit', st.2.1.at fun o e => hs'.extBut ax o hne e, tup⟩ fun b o hb e => hs'.extBut b o (fun h => hb (by simp [h])) e
  go := fun _ _ _ _ _ s Q _ hm hQ => wpAny_letOwnedTupleGo_listiter hm.2.1 (hQ s.heap hm.2 fun _ _ _ e => e)
  apart := fun j T _ hm hmem => by
    rcases List.mem_cons.mp hmem with e | e
    · exact hTI j hm.1.1 (hm.1.2 ▸ e)
    · cases e
  done := fun s Q E st hQ => seq_end hh st.1 st.2.1 (by simp) fun h' he' => hQ h' s.toks fun b o hb e => he' b o (fun h => hb (by simp [h])) e
  self := fun _ _ _ _ st hQ => wpAny_pyIter_listiter st.1 hQ
section
variable {prog : Program} {w : World} {M : Model} {A : Around} {E : Value → Shared → Prop} {s : Shared} {h₀ : Heap} {L : Addr} {m : Str → Option Value} {news news' : List (Addr × Obj)} {K : Frag} {x C D dx so q c P : Addr} {its : Array Value} {k n : Nat} {es : List DictEntry} {name : Str}
theorem gen_code {env : Env} {ps : Array Value} {pos : Pos} {qualname : Str} {scope : Scope} {Q : Value → Shared → Prop} (hc : env.code = .ref c) (C : CodeHd s.heap c P) (hP : s.heap.get? P = some (tabObj ps)) (ht : TriplesOk ps.toList)
    (hQ : ∀ code h' tk ps', Heap.ExtBut P s.heap h' → h'.get? P = some (tabObj ps') → TriplesOk ps'.toList → s.heap.objs.size ≤ h'.objs.size → Q code { s with heap := h', toks := tk }) :
    wpAny M A (genexprCode env pos qualname scope) Q E s := by
  cases hnf : codeAmong pos ps.toList with
  | some cv => exact wpAny_genexprCode_hit hc (C.code hP ht) hnf (hQ cv s.heap s.toks ps (Heap.ExtBut.refl _ _) hP ht (Nat.le_refl _))
  | none =>
    refine wpAny_genexprCodeX hc (C.code hP ht) (C.tab hP) hnf fun c' h' tk hx hge hlt hcode _ htab _ => ?_
    refine hQ _ _ _ _ hx htab.2 ?_ (Nat.le_trans hge (Nat.le_of_lt hlt))
    obtain ⟨_, _, _, _, _, _, _, _, _, _, _, _, _, _, _, _, _, _, hop, htr, _⟩ := hcode
    exact htr
theorem fr_extBut {h h' : Heap} (F : Fr h₀ L h m) (hP : h₀.get? P = none) (hLP : P ≠ L) (hx : Heap.ExtBut P h h') : Fr h₀ L h' m :=
  ⟨F.ns.at' fun o e => hx _ _ (fun e => hLP e.symm) e, fun b o e => hx b o (fun e' => by rw [e', hP] at e; cases e) (F.keep b o e), F.above⟩
theorem acc_iter {Q : Value → Shared → Prop} (X : K.In s.heap) (hp : accIn K C = true) (hg : itemsIn K C = true) (hx : s.heap.get? x = some (accObj C dx its k)) (hdx : ∃ od, s.heap.get? dx = some od)
    (h : Q (.ref s.heap.objs.size) { s with heap := s.heap.push { cls := .type "list_iterator", data := .fields #[.ref x, .int 0 0] } }) : wpAny (model prog w) A (pyIter (.ref x)) Q E s := by
  obtain ⟨od, hdx⟩ := hdx
  have I : InstAt s.heap x (accObj C dx its k) C (some od) := ⟨hx, rfl, rfl, hdx⟩
  obtain ⟨g1, g2, g3, g4⟩ := items_of hg
  have hI := acc_inst (prog := prog) (w := w) X hp I
  have hb : bindSpecial (.builtin "list.__iter__") (.ref x) = pure (.builtin "list.__iter__", [.ref x]) := slot_list_iter.bind _
  have hpl : plainId "list.__iter__" = true := slot_list_iter.plain
  have haa : argsOk "list.__iter__" ⟨[.ref x], []⟩ := args_list_iter _
  have L1 := looks_findIn (M := model prog w) X g3
  have fin : wpAny (model prog w) A (call (.builtin "list.__iter__") [.ref x]) (fun it s' => wpAny (model prog w) A (specialOf it (Str.ofString "__next__") >>= fun r => match r with | none => (do rule "iter.non-iterator"; let d ← PySem.typeNameOf it; raiseErrorMade "TypeError" (toString "iter() returned non-iterator of type '" ++ toString d ++ toString "'")) | some _ => pure it) Q E s') E s := by
    refine wpAny_call ?_
    refine codeAny_call_builtin hpl entry_list_iter ?_
    refine check_slot (i := "list.__iter__") (self := .ref x) (rest := []) (kw := []) (by decide +kernel) (n := "__iter__") (by decide +kernel) hI haa ?_
    show wpAny _ _ (do ret (← newFields "list_iterator" [.ref x, rawInt 0])) _ _ s
    refine wpAny_bind (wpAny_newObj_type (wpAny_pure ?_))
    refine wpAny_bind (wpAny_specialOf (T := "list_iterator") ⟨_, Heap.get?_push_size _ rfl, rfl⟩ slot_listiter_next.lookup (wpAny_pure ?_))
    exact h
  unfold pyIter
  refine wpAny_bind ?_
  unfold specialOf
  refine wpAny_bind (I.type.here (L1.here ?_))
  dsimp only
  refine wpAny_bind ?_
  unfold callSpecialIfBoundUnlessNone? bindSpecialIfBound? specialOf
  refine wpAny_holding (wpAny_bind (wpAny_bind (wpAny_bind (I.type.here (L1.here ?_)))))
  simp only [hb]
  refine wpAny_bind (wpAny_askSetting (wpAny_ite ?_))
  split
  · refine wpAny_bind (wpAny_pure (wpAny_pure ?_))
    exact wpAny_bind (wpAny_mono fin (fun v s' h' => wpAny_pure h') fun _ _ h' => h')
  · refine wpAny_tryCatch (wpAny_bind (wpAny_pure (wpAny_pure ?_)))
    exact wpAny_bind (wpAny_mono fin (fun v s' h' => wpAny_pure h') fun _ _ h' => h')
end
end Mine
end

section
open PySem PySem.W PySem.Calls PyProof.Rows PyProof.V PySem.Spec Builtin Builtin.ObjectAttr
open PySem.Sem (wp)
set_option Elab.async false
set_option maxRecDepth 100000
set_option maxHeartbeats 8000000
set_option linter.all false
namespace Mine
theorem passing_all {n : Nat} : passing (fun _ => true) n 0 = List.range n := by
  unfold passing
  rw [List.drop_zero]
  exact List.filter_eq_self.mpr fun _ _ => rfl
section
variable {prog : Program} {w : World} {A : Around} {E : Value → Shared → Prop} {s : Shared} {h₀ : Heap} {L : Addr} {m mg mb : Str → Option Value} {news news' : List (Addr × Obj)} {K : Frag} {x C dx so q c P : Addr} {its : Array Value} {k n : Nat} {es : List DictEntry} {name : Str} {p : Program} {loose : List Str} {mean : ExcName → Option Value} {env : Env}
theorem gen_acc {elt iter : PySem.Expr} {xa xb : Str} {pa pb pt : Pos} {kt : Nat} {scope : Scope} {cl : List (Str × Addr)} {pos : Pos} {Q : Value → Shared → Prop} {ps : Array Value} {g : Obj → List (Addr × Obj)} {Ts : Nat → Addr} {va vb : Nat → Value} {Fy : Nat → Value → Prop}
    (F : Fr h₀ L s.heap m) (X₀ : K.In h₀) (T : Top p loose mean mg mb h₀) (N : News h₀ L s.heap news) (Cd : CodeHd h₀ c P) (hcode : env.code = .ref c) (U : UpdF P (tabObj ps) news g) (ht : TriplesOk ps.toList)
    (h1 : (x, accObj C dx its k) ∈ news) (h2 : (dx, dictOf es n) ∈ news) (hp : accIn K C = true) (hg : itemsIn K C = true)
    (hit : ∀ j, j < its.size → its[j]? = some (.ref (Ts j))) (htup : ∀ j, j < its.size → s.heap.IsTuple (Ts j) #[va j, vb j]) (hge : env.globals = mainGlobals) (G0 : AllBare s.gens)
    (hh : A.handled = none) (hco : scope.isCoroutine = false) (hclos : closureFor scope env = pure cl) (hcell : ∀ y ∈ scope.names, y.2 ≠ .cell) (h0 : scope.names.lookup (".0" : Str) = some NameKind.local)
    (hxa : scope.names.lookup xa = some .local) (hxb : scope.names.lookup xb = some .local) (hab : xa ≠ xb) (hkind : scope.kind = .function) (hroom : A.depth < recursionLimit)
    (hiter : ∀ (Q' : Value → Shared → Prop), Q' (.ref x) s → wpAny (model prog w) A (eval iter env) Q' E s)
    (helt : ∀ (A' : Around) E' i (s₂ : Shared) m₂ C' code, A'.handled = none → @LT.lt Nat _ L C' → i < its.size → s₂.heap.Ns C' m₂ → m₂ xa = some (va i) → m₂ xb = some (vb i) → (∀ b o, h₀.get? b = some o → s₂.heap.get? b = some o) →
      wpAny (model prog w) A' (eval elt (genEnv scope cl C' code builtinsNs env)) (fun y s₃ => Fy i y ∧ Keeps s₂ s₃) E' s₂)
    (hQ : ∀ a s₅ Kk ps', Fr h₀ L s₅.heap m → TriplesOk ps'.toList → News h₀ L s₅.heap (g (tabObj ps')) → AllBare s₅.gens → s₅.os = s.os → L ≤ Kk → (∀ q ∈ g (tabObj ps'), q.1 ≤ Kk) → Gen prog w A Kk a its.size Fy s₅ → Q (.ref a) s₅)
    (hs : ∀ x, genFold iter env x = pure x) :
    wpAny (model prog w) A (eval (.GeneratorExp elt [⟨.Tuple [.Name xa pa, .Name xb pb] kt pt, iter, [], 0⟩] scope pos) env) Q E s := by
  have X := X₀.keeps F.keep
  obtain ⟨hh', gg, d, t, os⟩ := s
  obtain ⟨bm, ob, M⟩ := bmod_of_top T
  rw [← hge] at M
  obtain ⟨pre, post, rfl, hgo, upre, upost⟩ := U.split
  have zP := N (P, tabObj ps) (by simp)
  have zx := N _ h1
  have hPL : P ≠ L := zP.2.1
  have hP0 : h₀.get? P = none := zP.2.2
  have hxP : x ≠ P := fun e => by
    have := zx.1
    rw [e, zP.1] at this
    cases this
  have hTP : ∀ j, j < its.size → Ts j ≠ P := fun j hj e => by
    obtain ⟨o, ho, hc, _⟩ := htup j hj
    rw [e, zP.1] at ho
    cases ho
    cases hc
  have hlim := (T.nolimit.keeps F.keep)
  refine wpAny_GeneratorExp_walksQT hh hco hclos hcell h0 hxa hxb hab hkind hroom (hiter _ (acc_iter X hp hg zx.1 ⟨_, (N _ h2).1⟩ ⟨hlim.push _, ?_⟩)) hs
  have up1 : ∀ b o, hh'.get? b = some o → (hh'.push { cls := .type "list_iterator", data := .fields #[.ref x, .int 0 0] }).get? b = some o := fun b o e => Heap.get?_push_of_some _ e
  refine gen_code hcode ((Cd.keeps F.keep).keeps up1) (up1 _ _ zP.1) ht fun code h₃ tk₃ ps' hx₃ hget₃ ht₃ hsz₃ => ?_
  have hIP : hh'.objs.size ≠ P := fun e => absurd (Heap.lt_size zP.1) (by rw [← e]; exact Nat.lt_irrefl _)
  have F1 := F.push { cls := .type "list_iterator", data := .fields #[.ref x, .int 0 0] }
  have F₃ : Fr h₀ L h₃ m := fr_extBut F1 hP0 hPL hx₃
  have up3 : ∀ b o, b ≠ P → hh'.get? b = some o → h₃.get? b = some o := fun b o hb e => hx₃ b o hb (up1 b o e)
  have N₃ : News h₀ L h₃ (g (tabObj ps')) := by
    rw [hgo]
    intro q hq
    rcases List.mem_append.mp hq with hq | hq
    · have z := N q (List.mem_append_left _ hq)
      exact ⟨up3 _ _ (upre q hq) z.1, z.2⟩
    · rcases List.mem_cons.mp hq with rfl | hq
      · exact ⟨hget₃, hPL, hP0⟩
      · have z := N q (List.mem_append_right _ (List.mem_cons_of_mem _ hq))
        exact ⟨up3 _ _ (upost q hq) z.1, z.2⟩
  have hle : ∀ q ∈ g (tabObj ps'), q.1 < hh'.objs.size := by
    rw [hgo]
    intro q hq
    rcases List.mem_append.mp hq with hq | hq
    · exact Heap.lt_size (N q (List.mem_append_left _ hq)).1
    · rcases List.mem_cons.mp hq with rfl | hq
      · exact Heap.lt_size zP.1
      · exact Heap.lt_size (N q (List.mem_append_right _ (List.mem_cons_of_mem _ hq))).1
  have M₃ := M.keeps F₃.keep
  refine wpAny_builtinsFor M₃.ns M₃.name M₃.ne M₃.obj M₃.cls M₃.dict M₃.data ?_
  have hxI : x ≠ hh'.objs.size := Nat.ne_of_lt (Heap.lt_size zx.1)
  have hTI : ∀ j, j < its.size → Ts j ≠ hh'.objs.size := fun j hj => by
    obtain ⟨o, ho, _⟩ := htup j hj
    exact Nat.ne_of_lt (Heap.lt_size ho)
  have hszl : hh'.objs.size < h₃.objs.size := by
    have : (hh'.push { cls := .type "list_iterator", data := .fields #[.ref x, .int 0 0] }).objs.size ≤ h₃.objs.size := hsz₃
    rw [Heap.size_push] at this
    exact this
  have hI0 : h₀.get? hh'.objs.size = none := next_is_new F
  have hLs : L < hh'.objs.size := F.ns.lt
  refine ⟨hh'.objs.size, _, _, its.size, _, _, _, fun _ => true, Fy, rfl, (fun A' hA => (walks_acc (prog := prog) (w := w) hA hh'.objs.size x hxI its Ts (fun j => #[va j, vb j]) hit hTI).bound), ?_, ?_, ?_, F₃.keep |> (T.nolimit.keeps ·), ?_, ?_, ?_⟩
  · rintro i vals ⟨_, rfl⟩
    exact ⟨_, _, rfl⟩
  · refine ⟨⟨_, hx₃ _ _ hIP (Heap.get?_push_size _ rfl), rfl, rfl⟩, ⟨_, _, up3 _ _ hxP zx.1, rfl⟩, fun j hj => ?_⟩
    obtain ⟨o, ho, r⟩ := htup j hj
    exact ⟨o, up3 _ _ (hTP j hj) ho, r⟩
  · intro b hb
    rcases List.mem_cons.mp hb with rfl | hb
    · exact hszl
    · rcases List.mem_cons.mp hb with rfl | hb
      · exact Nat.lt_trans (Heap.lt_size zx.1) hszl
      · obtain ⟨j, hj, rfl⟩ := List.mem_map.mp hb
        obtain ⟨o, ho, _⟩ := htup j (List.mem_range.mp hj)
        exact Nat.lt_trans (Heap.lt_size ho) hszl
  · intro hm
    have hc : cStatics < hh'.objs.size := let ⟨_, hn, _⟩ := hlim; hn.lt
    rcases List.mem_cons.mp hm with e | hb
    · exact absurd (e ▸ hc) (Nat.lt_irrefl _)
    · cases hb
  · intro href hhref
    refine ⟨fun A' E' i va' vb' s₂ m₂ hA hP hn ha hb hk => ?_, fun A' E' i va' vb' s₂ m₂ hA hP hpz hn ha hb hk => ?_⟩
    · show wpAny _ _ (pure true) _ _ _
      exact wpAny_pure ⟨rfl, s₂.heap, s₂.toks, rfl, fun _ _ e => e⟩
    · obtain ⟨hi, hv⟩ := hP
      obtain ⟨rfl, rfl⟩ : va' = va i ∧ vb' = vb i := by
        have := congrArg Array.toList hv
        simp at this
        exact this
      refine helt A' E' i s₂ m₂ _ _ hA F₃.ns.lt hi hn ha hb fun b o e => ?_
      have e3 := F₃.keep b o e
      refine hk b (List.mem_range.mpr (Heap.lt_size e3)) (fun hm => ?_) o (hhref b o e3)
      rcases List.mem_cons.mp hm with rfl | hm
      · rw [hI0] at e; cases e
      · cases hm
  · intro a h₅ tk gs hgb hag hsz₅ hk₅ W hat
    rw [passing_all] at W
    have hR : ∀ j y, (∃ i, (List.range its.size)[j]? = some i ∧ Fy i y) → Fy j y := fun j y ⟨i, hi, hy⟩ => by
      obtain ⟨hj, rfl⟩ := List.getElem?_eq_some_iff.mp hi
      simpa using hy
    refine hQ a _ (hh'.objs.size - 1) ps' (F₃.keeps hk₅) ht₃ (N₃.grown hk₅) (G0.push hgb) rfl (Nat.le_sub_one_of_lt hLs) (fun q hq => Nat.le_sub_one_of_lt (hle q hq)) ?_
    rw [List.length_range] at W
    refine ⟨_, _, _, _, ⟨W.sub, W.grefl, W.gtrans, W.frame, (fun i s Q E hi st hq => W.item i s Q E hi st fun v s' hP => hq v s' (hR _ _ hP)), W.done, W.self⟩, hat, (fun i s' st => st.1.typeIs), List.mem_cons_self, ?_, ?_⟩
    · intro b hb
      show b < h₅.objs.size
      rw [hsz₅]
      rcases List.mem_cons.mp hb with rfl | hb
      · exact Nat.lt_succ_self _
      · rcases List.mem_cons.mp hb with rfl | hb
        · exact Nat.lt_succ_of_lt hag
        · exact Nat.lt_succ_of_lt (Nat.lt_trans (List.mem_range.mp hb) hag)
    · intro b hb
      rcases List.mem_cons.mp hb with rfl | hb
      · show hh'.objs.size - 1 < h₃.objs.size
        exact Nat.lt_of_le_of_lt (Nat.sub_le _ _) hszl
      · rcases List.mem_cons.mp hb with rfl | hb
        · show hh'.objs.size - 1 < hh'.objs.size
          exact Nat.sub_lt (Nat.lt_of_le_of_lt (Nat.zero_le _) hLs) Nat.one_pos
        · cases hb
end
end Mine
end

section
open PySem PySem.W PySem.Calls PyProof.Rows PyProof.V PySem.Spec Builtin Builtin.ObjectAttr
open PySem.Sem (wp)
set_option Elab.async false
set_option maxRecDepth 100000
set_option maxHeartbeats 8000000
set_option linter.all false
namespace Mine
section
variable {M : Model} {A : Around} {E : Value → Shared → Prop} {s : Shared} {K : Frag} {h₀ : Heap} {L C : Addr} {m mg mb : Str → Option Value} {scope : Scope} {cl : List (Str × Addr)} {code : Value} {env : Env} {p : Program} {loose : List Str} {mean : ExcName → Option Value} {x : Str} {pos : Pos} {v : Value} {Q : Value → Shared → Prop}
theorem gn_global (F : Fr h₀ L s.heap m) (X : K.In h₀) (T : Top p loose mean mg mb h₀) (e : nsIn K mainGlobals x = some (some v)) (h : Q v s) (hg : env.globals = mainGlobals := by rfl)
    (hk : (genEnv scope cl C code builtinsNs env).scope.kind = .function := by rfl) (hx : (genEnv scope cl C code builtinsNs env).kindOf x = some .globalImplicit := by rfl) (hd : (x == ("__debug__" : Str)) = false := by decide) :
    wpAny M A (eval (.Name x pos) (genEnv scope cl C code builtinsNs env)) Q E s :=
  Name_function_global hk hx (loadGlobal_global (env := genEnv scope cl C code builtinsNs env) (show s.heap.Ns env.globals mg from hg ▸ (T.keeps F.keep).g) (mg_of X T.g e) h) hd
theorem gn_built (F : Fr h₀ L s.heap m) (X : K.In h₀) (T : Top p loose mean mg mb h₀) (e : nsIn K mainGlobals x = some none) (hv : bootBuiltins x = some v) (hn : x ≠ "__name__") (h : Q v s) (hg : env.globals = mainGlobals := by rfl)
    (hk : (genEnv scope cl C code builtinsNs env).scope.kind = .function := by rfl) (hx : (genEnv scope cl C code builtinsNs env).kindOf x = some .globalImplicit := by rfl) (hd : (x == ("__debug__" : Str)) = false := by decide) :
    wpAny M A (eval (.Name x pos) (genEnv scope cl C code builtinsNs env)) Q E s :=
  Name_function_global hk hx (loadGlobal_builtin (env := genEnv scope cl C code builtinsNs env) (show s.heap.Ns env.globals mg from hg ▸ (T.keeps F.keep).g) (mg_none_of X T.g e) (T.keeps F.keep).b ((T.builtins x hn).trans hv) h) hd
end
section
variable {prog : Program} {w : World} {A : Around} {E : Value → Shared → Prop} {s : Shared} {K : Frag} {h₀ : Heap} {L C : Addr} {m mg mb : Str → Option Value} {scope : Scope} {cl : List (Str × Addr)} {code : Value} {env : Env} {p : Program} {loose : List Str} {mean : ExcName → Option Value} {x : Str} {pos pp pq : Pos} {v : Value} {Q : Value → Shared → Prop}
theorem gn_len {v : Str} {t : Tok} (F : Fr h₀ C s.heap m) (X : K.In h₀) (T : Top p loose mean mg mb h₀) (e : nsIn K mainGlobals "len" = some none) (hv : m x = some (.str v t)) (hz : v.length ≤ 1000000)
    (hg : env.globals = mainGlobals) (hk : scope.kind = .function) (hl : scope.names.lookup (Str.ofString "len") = some .globalImplicit) (hx : scope.names.lookup x = some .local) (hd : (x == ("__debug__" : Str)) = false)
    (h : Q (.int v.length (s.toks + 1)) { s with toks := s.toks + 1 + 1 }) :
    wpAny (model prog w) A (eval (.Call (.Name (Str.ofString "len") pp) [.Name x pq] [] pos) (genEnv scope cl C code builtinsNs env)) Q E s := by
  refine wpAny_Call_Name_kw (gn_built F X T e (by boot_by_name) (by decide) ?_ hg hk hl (by decide))
  refine callWith_of (P := fun _ => True) rfl (fun _ _ => ⟨.machine, .inr (.inl rfl), Looks.of_pure rfl⟩) ?_
  refine evalArgs_plain ?_
  refine Calls.spliced_cons ?_
  refine ldVarG F hv ?_ hk hx hd
  refine Calls.spliced_nil ⟨trivial, ?_⟩
  refine PyProof.Rows.len_str (by omega) ?_
  exact h
theorem gn_join {a b : Str} {ta tb te : Tok} {xa xb : Str} {pe pa pb pt apos : Pos} {kt : Nat} {pl : Sem Bool}
    (he : eval (.Call (.Attribute (.Name (Str.ofString "EMPTYSTRING") pe) (Str.ofString "join") apos) [.Tuple [.Name xa pa, .Name xb pb] kt pt] [] pos) (genEnv scope cl C code builtinsNs env) = (do
      let ov ← eval (.Name (Str.ofString "EMPTYSTRING") pe) (genEnv scope cl C code builtinsNs env)
      standAt apos.atName
      let (f, first) ← holding [ov] (getMethod ov (Str.ofString "join") pl)
      callWith pos f first (backTo pos (starEach [.Tuple [.Name xa pa, .Name xb pb] kt pt] (genEnv scope cl C code builtinsNs env))) [])) (F : Fr h₀ C s.heap m) (X : K.In h₀) (T : Top p loose mean mg mb h₀) (e : nsIn K mainGlobals "EMPTYSTRING" = some (some (.str "" te)))
    (ha : m xa = some (.str a ta)) (hb : m xb = some (.str b tb)) (hza : a.length ≤ 1000) (hzb : b.length ≤ 1000)
    (hg : env.globals = mainGlobals) (hk : scope.kind = .function) (hl : scope.names.lookup (Str.ofString "EMPTYSTRING") = some .globalImplicit) (hxa : scope.names.lookup xa = some .local) (hxb : scope.names.lookup xb = some .local) (hda : (xa == ("__debug__" : Str)) = false) (hdb : (xb == ("__debug__" : Str)) = false)
    (h : ∀ t' k h', (∀ b o, s.heap.get? b = some o → h'.get? b = some o) → Q (.str (Txt.join "" [a, b]) t') { s with heap := h', toks := k }) :
    wpAny (model prog w) A (eval (.Call (.Attribute (.Name (Str.ofString "EMPTYSTRING") pe) (Str.ofString "join") apos) [.Tuple [.Name xa pa, .Name xb pb] kt pt] [] pos) (genEnv scope cl C code builtinsNs env)) Q E s := by
  refine MethodCall_ ?_ he
  refine gn_global F X T e ?_ hg hk hl (by decide)
  refine getMethod_builtin (typeIs_str _ _ _) PySem.F.plainAttrs_str PySem.F.slot_str_join PySem.F.type_str_join (fun _ e => nomatch e) ?_
  refine callWith_of (P := fun _ => True) rfl (fun _ _ => ⟨.machine, .inr (.inl rfl), Looks.of_pure rfl⟩) ?_
  refine evalArgs_plain ?_
  refine Calls.spliced_cons ?_
  refine Tuple_ (k := kt) ?_
  refine Calls.spliced_cons ?_
  refine ldVarG F ha ?_ hk hxa hda
  refine Calls.spliced_cons ?_
  refine ldVarG F hb ?_ hk hxb hdb
  refine Calls.spliced_nil ?_
  refine wpAny_newObj_type ?_ (by show [Value.str a ta, Value.str b tb].toArray.size ≤ sizeLine; rw [sizeLine_eq]; simp)
  refine Calls.spliced_nil ⟨trivial, ?_⟩
  refine join_tuple (ys := [a, b]) ⟨_, Heap.get?_push_size _ rfl, rfl, _, rfl⟩ (.cons _ _ (.cons _ _ .nil)) (by
    have e0 : (Str.ofString "").length = 0 := by decide
    simp only [List.map_cons, List.map_nil, List.sum_cons, List.sum_nil, List.length_cons, List.length_nil]
    omega) fun t' k => ?_
  exact h t' k _ fun b o e => Heap.get?_push_of_some _ e
end
theorem args_sum2 (a b : Value) : argsOk "sum" ⟨[a, b], []⟩ := by unfold argsOk; kernel_rfl
section
variable {prog : Program} {w : World} {A : Around} {E : Value → Shared → Prop} {s : Shared} {h₀ : Heap} {L : Addr} {m : Str → Option Value} {a Kk : Addr} {n : Nat} {F : Nat → Value → Prop} {Q : Value → Shared → Prop}
theorem gen_later {s' : Shared} (X : Gen prog w A Kk a n F s) (e : s' = { s with toks := s'.toks }) (ht : s.toks ≤ s'.toks) : Gen prog w A Kk a n F s' := by
  obtain ⟨fp, wr, g, St, W, hst, hT, ha, hfp, hwr⟩ := X
  rw [e]
  exact ⟨fp, wr, g, St, W, W.frame 0 s s.heap _ hst ht fun _ _ _ e => e, hT, ha, hfp, hwr⟩
theorem sum2_gen {t0 : Tok} (Fh : Fr h₀ L s.heap m) (G : AllBare s.gens) (X : Gen prog w A Kk a n F s) (hLK : L ≤ Kk) (val : Nat → Int) (hval : ∀ j v, F j v → ∃ t, v = .int (val j) t)
    (hQ : ∀ s' t', Fr h₀ L s'.heap m → AllBare s'.gens → s'.os = s.os → (∀ b o, b ≤ Kk → s.heap.get? b = some o → s'.heap.get? b = some o) → Q (.int (preSum val n) t') s') : wpAny (model prog w) A (call (.builtin "sum") [.ref a, .int 0 t0]) Q E s := by
  obtain ⟨fp, wr, g, St, W, hst, _, _, hfp, hwr⟩ := X
  have W := W.in4_1
  refine call_function_tree PySem.F.kind_sum PySem.F.plain_sum PySem.F.entry_sum (args_sum2 _ _) ?_
  unfold Builtin.«sum»
  simp only [List.length_cons, List.length_nil]
  rw [if_neg (by decide)]
  refine wpAny_bind (wpAny_of_eq (show Builtin.Builtins.bindParams "sum" ["start"] 0 ⟨[.int 0 t0], []⟩ = pure [some (.int 0 t0)] from rfl) ?_)
  refine wpAny_bind (W.self 0 _ _ _ hst ?_)
  refine wpAny_bind ?_
  refine wpAny_rule ?_
  refine wpAny_bind (wpAny_mkInt ?_)
  refine wpAny_bind (wpAny_pure ?_)
  simp only [List.forIn_cons, List.forIn_nil]
  refine wpAny_bind (wpAny_bind (wpAny_bind (wpAny_isInstance (T := "int") (b := false) (typeIs_int _ _ _) PySem.sub_int_str ?_)))
  simp only [Bool.false_eq_true, if_false]
  refine wpAny_pure (wpAny_bind (wpAny_bind (wpAny_isInstance (T := "int") (b := false) (typeIs_int _ _ _) PySem.sub_int_bytes ?_)))
  simp only [Bool.false_eq_true, if_false]
  refine wpAny_pure (wpAny_bind (wpAny_bind (wpAny_isInstance (T := "int") (b := false) (typeIs_int _ _ _) PySem.sub_int_bytearray ?_)))
  simp only [Bool.false_eq_true, if_false]
  refine wpAny_pure (wpAny_pure ?_)
  refine wpAny_bind (wpAny_newObj_type ?_)
  have hSf : s.heap.objs.size ∉ fp := fun hm => Nat.lt_irrefl _ (hfp _ hm)
  refine wpAny_pure ⟨plainId_quiet PySem.F.plain_sum_loop _, codeAny_sum_loopAnyS W val hval s.heap.objs.size hSf n 0 _ s.toks 0 0 (.inl rfl) rfl (Nat.zero_le _)
    (W.frame 0 s _ _ hst (by first | exact Nat.le_refl _ | exact Nat.le_succ _ | omega) fun b _ o e => Heap.get?_push_of_some _ e) (Heap.get?_push_size _ rfl) fun s' t' hm => ?_⟩
  have hm' := hm.drop_new (by first | exact Nat.le_refl _ | exact Nat.le_succ _ | omega)
  exact hQ s' t' (Fh.moved hm' fun b hb => Nat.lt_of_le_of_lt hLK (hwr b hb)) (G.movedS hm') hm'.os fun b o hb e => hm'.heap b o (fun hmem => Nat.lt_irrefl _ (Nat.lt_of_lt_of_le (hwr b hmem) hb)) e
end
theorem updF_mem {d : Addr} {o o' : Obj} {l : List (Addr × Obj)} {g : Obj → List (Addr × Obj)} (U : UpdF d o l g) {q : Addr × Obj} (hq : q ∈ l) (hne : q ≠ (d, o)) : q ∈ g o' := by
  obtain ⟨pre, post, rfl, hgo, _, _⟩ := U.split
  rw [hgo]
  rcases List.mem_append.mp hq with hq | hq
  · exact List.mem_append_left _ hq
  · rcases List.mem_cons.mp hq with rfl | hq
    · exact absurd rfl hne
    · exact List.mem_append_right _ (List.mem_cons_of_mem _ hq)
theorem updF_mem2 {d : Addr} {o o' : Obj} {l : List (Addr × Obj)} {g : Obj → List (Addr × Obj)} (U : UpdF d o l g) : (d, o') ∈ g o' := by
  obtain ⟨pre, post, rfl, hgo, _, _⟩ := U.split
  rw [hgo]
  exact List.mem_append_right _ (.head _)
theorem sum_le_mul {c : Nat} : ∀ {l : List Nat}, (∀ x ∈ l, x ≤ c) → l.sum ≤ l.length * c
  | [], _ => Nat.zero_le _
  | x :: r, h => by
    have h1 := h x (.head _)
    have h2 := sum_le_mul (l := r) fun y hy => h y (.tail _ hy)
    rw [List.sum_cons, List.length_cons, Nat.succ_mul]
    omega
theorem tjoin_flat (xs : List PySem.Str) : (Txt.join (PySem.Str.ofString "") xs).cps.toList = (xs.map fun x => x.cps.toList).flatten := by
  show (Builtin.Str.glued (PySem.Str.ofString "") xs).cps.toList = _
  rw [StrLaws.glued_eq_join]
  exact join_flat xs
theorem tjoin2_flat (a b : PySem.Str) : (Txt.join (PySem.Str.ofString "") [a, b]).cps.toList = a.cps.toList ++ b.cps.toList := by
  rw [tjoin_flat]
  simp
theorem tjoin2_len (a b : PySem.Str) : (Txt.join (PySem.Str.ofString "") [a, b]).length = a.length + b.length := by
  have h1 : ∀ x : PySem.Str, x.cps.toList.length = x.length := fun x => Array.length_toList
  rw [← h1, tjoin2_flat, List.length_append, h1, h1]
theorem gen_joinOk {n : Nat} {va vb : Nat → PySem.Str} (hn : n ≤ 100) (ha : ∀ j, j < n → (va j).length ≤ 1000) (hb : ∀ j, j < n → (vb j).length ≤ 1000) :
    JoinOk (PySem.Str.ofString "") ((List.range n).map fun j => Txt.join (PySem.Str.ofString "") [va j, vb j]) = true := by
  refine joinOk_of ?_
  have e0 : (Str.ofString "").length = 0 := by decide
  rw [e0, List.map_map]
  have := sum_le_mul (c := 2000) (l := (List.range n).map ((·.length) ∘ fun j => Txt.join (PySem.Str.ofString "") [va j, vb j])) (by
    intro x hx
    obtain ⟨j, hj, rfl⟩ := List.mem_map.mp hx
    show (Txt.join (PySem.Str.ofString "") [va j, vb j]).length ≤ 2000
    rw [tjoin2_len]
    have h1 := ha j (List.mem_range.mp hj)
    have h2 := hb j (List.mem_range.mp hj)
    omega)
  rw [List.length_map, List.length_range] at this
  omega
end Mine
end

section
open PySem PySem.W PySem.Calls PyProof.Rows PyProof.V PySem.Spec
set_option Elab.async false
set_option maxRecDepth 100000
set_option maxHeartbeats 8000000
set_option linter.all false
namespace Mine
section
variable {prog : Program} {w : World} {A : Around} {E : Value → Shared → Prop} {s : Shared} {h₀ : Heap} {L l : Addr} {m : Str → Option Value} {news : List (Addr × Obj)} {value slice : PySem.Expr} {vs : List Value} {ns : List Int} {x y : Int} {tx ty : Tok} {Q : Value → Shared → Prop}
theorem tail_opsT {o i : Value} {T id : String} {ops : List Value} {Q : Value → Shared → Prop} (hT : s.TypeIs o T)
    (hl : typeLookup (.type T) "__getitem__" = pure (some (.builtin id))) (h : wpAny (model prog w) A (getItem o i) Q E s)
    (hs : subscripted slice false o i = operate ops (getItem o i)) :
    wpAny (model prog w) A (subscriptTail value slice o i) Q E s := by
  unfold subscriptTail
  refine wpAny_bind ?_
  rw [getitemInPython_of_ne hT.not_modules]
  refine wpAny_bind (wpAny_specialOf hT hl ?_)
  have fin : wpAny (model prog w) A (subscripted slice false o i) (fun r s₃ => wpAny (model prog w) A (letTemporaryGo value o r >>= fun _ => pure r) Q E s₃) E s := by
    rw [hs]
    exact wpAny_operating (wpAny_mono h (fun r s₃ h₃ => wpAny_bind (wpAny_letTemporaryGo (wpAny_pure h₃))) fun _ _ x => x)
  first
    | exact wpAny_pure (wpAny_bind fin)
    | exact wpAny_bind (wpAny_pure (wpAny_bind fin))
    | exact wpAny_bind fin
theorem sl_fromT (F : Fr h₀ L s.heap m) (N : News h₀ L s.heap news) (hl : s.heap.IsList l vs.toArray) (hi : IntsAre vs ns) (h0 : 0 ≤ x) (hz : ns.length ≤ 1000)
    (h : ∀ D ws h', Fr h₀ L h' m → News h₀ L h' ((D, listOf (List.toArray ws) 0) :: news) → (∀ p ∈ news, p.1 < D) → IntsAre ws (ns.drop x.toNat) → Q (.ref D) { s with heap := h' })
    (hs : subscripted slice false (.ref l) (.ref s.heap.objs.size) = operate [.ref s.heap.objs.size, .ref l] (getItem (.ref l) (.ref s.heap.objs.size))) :
    wpAny (model prog w) A (subscriptTail value slice (.ref l) (.ref s.heap.objs.size)) Q E { s with heap := s.heap.push { cls := .type "slice", data := .fields #[.int x tx, .none, .none] } } := by
  have hz' : vs.toArray.size ≤ sizeLine := by rw [List.size_toArray, hi.length]; exact Nat.le_trans hz (by decide)
  refine tail_opsT (Heap.IsList.typeIs (s := { s with heap := s.heap.push { cls := .type "slice", data := .fields #[.int x tx, .none, .none] } }) (hl.push _)) list_getitem_lookup
    (wpAny_getItem_list_slice (hl.push _) (Heap.IsSliceOf.new ..) (.int _ _) .none .none (by simp) ?_ hz') hs
  have N1 := News.push (F.push { cls := .type "slice", data := .fields #[.int x tx, .none, .none] }) (N.grown fun _ _ e => Heap.get?_push_of_some _ e) { cls := .type "list", data := .seq (slicePick vs.toArray (some x) none none) }
  rw [Heap.size_push] at N1
  show Q (.ref (s.heap.push _).objs.size) _
  rw [Heap.size_push]
  refine h _ (slicePick vs.toArray (some x) none none).toList _ ((F.push _).push _) ?_ (fun p hp => Nat.lt_succ_of_lt (Heap.lt_size (N p hp).1)) (kmk_from hi h0)
  rw [Array.toArray_toList]
  exact N1
end
end Mine
end

section
open PySem PySem.W PySem.Calls PyProof.Rows PyProof.V PySem.Spec
open PySem.Sem (wp)
set_option Elab.async false
set_option maxRecDepth 1000000
set_option maxHeartbeats 8000000
set_option linter.all false
namespace Mine
theorem enter_S {prog : Program} {w : World} {f : Value} {vals : List Value} {s₁ : Shared} {cw : ClaimW} {cl : Str → Option Addr} {mean : ExcName → Option Value} {args : List WData} {tabs : List (Addr × Addr)} (hT : TabsAt tabs s₁.heap) (hr : ∀ a x, cw.raises a x = false)
    (h : codeR (model prog w) callerA (.call f ⟨vals, []⟩) (fun r s' => match r with | .ok (.ret v) => GoodW cw cl mean args { s₁ with heap := ghostOf s₁.heap tabs } (.ok (.ret v)) { s' with gens := #[] } ∧ GrownAll tabs s'.heap ∧ AllBare s'.gens | _ => False) s₁) :
    wpR (model prog w) callerA (PySem.call f vals) (fun v s' => GoodWG cw cl mean args s₁ (.ok (.ret v)) s') s₁ := by
  refine wpR_call (codeR_mono h fun r s' hr' => ?_)
  cases r with
  | error e => exact hr'
  | ok fl =>
    cases fl with
    | ret v =>
      obtain ⟨h1, h2, h3⟩ := hr'
      have h4 := post_pt w hT hr (s' := { s' with gens := #[] }) ⟨h1, h2⟩
      exact ⟨h4.1, h4.2.1, h4.2.2.1, h3⟩
    | _ => exact hr'
noncomputable def Later (s s' : Shared) : Prop := s'.os = s.os ∧ AllBare s'.gens
theorem Later.refl {s : Shared} (h : AllBare s.gens) : Later s s := ⟨rfl, h⟩
section
variable {prog : Program} {w : World} {A : Around} {s : Shared} {env : Env}
noncomputable def PostS (h₀ : Heap) (L : Addr) (J : (Str → Option Value) → List (Addr × Obj) → Prop) (I : Addr) (oI : Obj) (s : Shared) (Q : Flow → Shared → Prop) : Flow → Shared → Prop
  | .next, s' => ∃ m' nx, Later s s' ∧ Fr h₀ L s'.heap m' ∧ News h₀ L s'.heap ((I, oI) :: nx) ∧ (∀ p ∈ nx, p.1 ≠ I) ∧ J m' nx
  | .cont, s' => ∃ m' nx, Later s s' ∧ Fr h₀ L s'.heap m' ∧ News h₀ L s'.heap ((I, oI) :: nx) ∧ (∀ p ∈ nx, p.1 ≠ I) ∧ J m' nx
  | .brk, s' => Q .next s'
  | .ret v, s' => Q (.ret v) s'
theorem iter_rangeS {r : Addr} {x : Str} {px : Pos} {body : List Stmt} {h₀ : Heap} {a b c : Int} {t₀ u₀ v₀ : Tok} {n : Nat} {m₀ : Str → Option Value} {news : List (Addr × Obj)} {Q : Flow → Shared → Prop} (J : Nat → (Str → Option Value) → List (Addr × Obj) → Prop)
    (hx : env.kindOf x = some .local) (hp : (env.scope.kind == .class || (env.scope.kind == .module && env.locals != env.globals)) = false) (hG : AllBare s.gens)
    (hh : A.handled = none) (hr : IsRange s.heap r a b c t₀ u₀ v₀) (hsmall : Builtin.Range.small a b c = true) (hn : Builtin.Range.rangeSize a b c = (n : Int)) (F : Fr h₀ env.locals s.heap m₀) (N : News h₀ env.locals s.heap news) (hj : J 0 m₀ news)
    (turn : ∀ i t m₁ nx s₁ I oI, i < n → J i m₁ nx → (∀ p ∈ nx, p.1 ≠ I) → Later s s₁ → Fr h₀ env.locals s₁.heap (fun y => if y = x then some (.int (a + (i : Int) * c) t) else m₁ y) → News h₀ env.locals s₁.heap ((I, oI) :: nx) →
      wpR (model prog w) A (execs body env) (PostS h₀ env.locals (J (i + 1)) I oI s Q) s₁)
    (done : ∀ m₁ nx s₁, J n m₁ nx → Later s s₁ → Fr h₀ env.locals s₁.heap m₁ → News h₀ env.locals s₁.heap nx → Q .next s₁) :
    wpAny (model prog w) A (pyIter (.ref r)) (fun it s₂ => codeR (model prog w) A (.forLoop (.Name x px) it body [] env) (fun r s' => match r with | .ok f => Q f s' | .error e => False) s₂) (fun _ _ => False) s := by
  refine wpAny_pyIter_range hr hsmall ?_
  have W : Walks prog w A s.heap.objs.size [s.heap.objs.size] [s.heap.objs.size] n (fun i v => i < n ∧ ∃ t, v = .int (a + i * c) t)
      (fun i h => IsRangeIter h s.heap.objs.size (a + (i : Nat) * c) ((n : Int) - (i : Nat)) c) := (Walks.range hh _ a c n).bound
  have hI0 : h₀.get? s.heap.objs.size = none := next_is_new F
  have hLI : env.locals ≠ s.heap.objs.size := fun e => absurd F.ns.lt (e ▸ Nat.lt_irrefl _)
  have old : ∀ b o, h₀.get? b = some o → b ∉ [s.heap.objs.size] := fun b o e hb => by rw [List.mem_singleton.mp hb, hI0] at e; cases e
  refine codeR_forLoop (fun k s' => ∃ m' nx i, Later s s' ∧ IsRangeIter s'.heap s.heap.objs.size (a + (i : Nat) * c) ((n : Int) - (i : Nat)) c ∧ Fr h₀ env.locals s'.heap m' ∧ News h₀ env.locals s'.heap nx ∧ (∀ p ∈ nx, p.1 ≠ s.heap.objs.size) ∧ J i m' nx ∧ i ≤ n ∧ k = n + 1 - i) ?_ (n + 1)
    ⟨m₀, news, 0, ⟨rfl, hG⟩, (by show IsRangeIter _ _ _ _ _; rw [hn]; simpa using Heap.get?_push_size _ rfl), F.push _, (fun p hp => ⟨Heap.get?_push_of_some _ (N p hp).1, (N p hp).2⟩), (fun p hp hI => absurd (Heap.lt_size (N p hp).1) (hI ▸ Nat.lt_irrefl _)), hj, Nat.zero_le _, rfl⟩
  rintro k s' ⟨m', nx, i, hlat, hst', F', N', hnw, hJ, hi, rfl⟩
  have next : ∀ h₁ : Heap, (∀ b o, b ∉ [s.heap.objs.size] → s'.heap.get? b = some o → h₁.get? b = some o) → Fr h₀ env.locals h₁ m' ∧ News h₀ env.locals h₁ nx := fun h₁ hk₁ =>
    ⟨⟨F'.ns.at' fun o e => hk₁ _ o (by simpa using hLI) e, fun b o e => hk₁ b o (old b o e) (F'.keep b o e), F'.above⟩, fun p hp => ⟨hk₁ _ _ (by simpa using hnw p hp) (N' p hp).1, (N' p hp).2⟩⟩
  by_cases hlt : i < n
  · refine W.item i _ _ _ hlt hst' fun v h₁ tk₁ hP hst₁ hk₁ => ?_
    obtain ⟨_, t, rfl⟩ := hP
    obtain ⟨F₁, N₁⟩ := next h₁ hk₁
    refine wpAny_assign_Name (wpAny_storeName_local hx F₁.ns (fun h₂ hn₂ hs₂ => ?_) hp)
    have F₂ := F₁.set hn₂ hs₂
    have hst₂ : IsRangeIter h₂ s.heap.objs.size (a + ((i + 1 : Nat) : Int) * c) ((n : Int) - ((i + 1 : Nat) : Int)) c := W.frame (i + 1) _ _ hst₁ fun b hb o e => (hs₂.2 b fun q => hLI (q ▸ List.mem_singleton.mp hb)).trans e
    obtain ⟨oI, hoI⟩ : ∃ o, h₂.get? s.heap.objs.size = some o := ⟨_, hst₂⟩
    have N₂ : News h₀ env.locals h₂ ((s.heap.objs.size, oI) :: nx) := fun p hp => by
      rcases List.mem_cons.mp hp with rfl | hp
      · exact ⟨hoI, fun e => hLI e.symm, hI0⟩
      · exact (N₁.set hs₂) p hp
    refine wpR_mono (turn i t m' nx _ _ _ hlt hJ hnw ⟨hlat.1, hlat.2⟩ F₂ N₂) fun f s₃ p => ?_
    have fin : (∃ m' nx, Later s s₃ ∧ Fr h₀ env.locals s₃.heap m' ∧ News h₀ env.locals s₃.heap ((s.heap.objs.size, oI) :: nx) ∧ (∀ p ∈ nx, p.1 ≠ s.heap.objs.size) ∧ J (i + 1) m' nx) → ∃ k', k' < n + 1 - i ∧ ∃ m' nx i', Later s s₃ ∧ IsRangeIter s₃.heap s.heap.objs.size (a + (i' : Nat) * c) ((n : Int) - (i' : Nat)) c ∧ Fr h₀ env.locals s₃.heap m' ∧ News h₀ env.locals s₃.heap nx ∧ (∀ p ∈ nx, p.1 ≠ s.heap.objs.size) ∧ J i' m' nx ∧ i' ≤ n ∧ k' = n + 1 - i' := by
      rintro ⟨m', nx, hl3, F', N', ha, hm⟩
      refine ⟨n + 1 - (i + 1), by omega, m', nx, i + 1, hl3, ?_, F', fun p hp => N' p (List.mem_cons_of_mem _ hp), ha, hm, hlt, rfl⟩
      refine W.frame (i + 1) _ _ hst₂ fun b hb o e => ?_
      rw [List.mem_singleton.mp hb] at e ⊢
      rw [hoI] at e
      obtain rfl := Option.some.inj e
      exact (N' _ (.head _)).1
    cases f with
    | ret v => exact p
    | brk => exact p
    | next => exact fin p
    | cont => exact fin p
  · have hin : i = n := by omega
    subst hin
    refine W.done _ _ _ hst' fun h₁ tk₁ hk₁ => ?_
    obtain ⟨F₁, N₁⟩ := next h₁ hk₁
    exact done m' nx _ hJ ⟨hlat.1, hlat.2⟩ F₁ N₁
end
end Mine
end

section
open PySem PySem.W PySem.Calls PyProof.Rows PyProof.V PySem.Spec
set_option Elab.async false
set_option maxRecDepth 100000
set_option maxHeartbeats 8000000
set_option linter.all false
namespace Mine
noncomputable def lastS : List Stmt → Stmt
  | [] => .Pass default
  | [s] => s
  | _ :: r => lastS r
noncomputable abbrev lawParts : { x : Str × Arguments × List Stmt × Scope // ∃ a b c d e f, lastS PySem.Challenge.pw_xp0023_01.main.body = .FunctionDef x.1 x.2.1 x.2.2.1 a b c x.2.2.2 d e f } := ⟨(_, _, _, _), _, _, _, _, _, _, rfl⟩
end Mine
namespace Mine
noncomputable abbrev loopBody : { b : List Stmt // ∃ t i e q r, List.drop 10 lawParts.1.2.2.1 = .For t i b e q :: r } := ⟨_, _, _, _, _, _, rfl⟩
end Mine
end

section
open PySem PySem.W PySem.Calls PyProof.Rows PyProof.V PySem.Spec
set_option Elab.async false
set_option maxRecDepth 100000
set_option maxHeartbeats 8000000
set_option linter.all false
namespace Mine
section
variable {prog : Program} {w : World} {A : Around} {E : Value → Shared → Prop} {s : Shared}
noncomputable def ByteAt (b : Array UInt8) (i : Nat) (v : Value) : Prop := ∃ c u, b[i]? = some c ∧ v = .int (c.toNat : Int) u
theorem extend_bytes {R : Result → Shared → Prop} (hh : A.handled = none) (b : Array UInt8) (t : Tok) (S : Addr) (res : Value) (c₀ : Nat) (hS : s.heap.get? S = some { cls := .type "list", data := .seq #[] c₀ })
    (hR : ∀ h' tk acc' c', (∀ b o, b ≠ S → s.heap.get? b = some o → h'.get? b = some o) → h'.get? S = some { cls := .type "list", dict := none, data := .seq acc' c', slots := #[] } →
      ItemsOf (ByteAt b) acc' b.size → R (.ok (.ret res)) { s with heap := h', toks := tk }) (hn : b.size ≤ sizeLine) :
    wpAny (model prog w) A.in1 (Builtin.List.listExtendWith (.ref S) (.bytes b t) res)
      (fun fin s' => match fin with | .done f => R (.ok f) s' | .again c' => c'.quiet = true ∧ codeAny (model prog w) A c' R s') (fun e s' => R (.error e) s') s := by
  have hSI : S ≠ s.heap.objs.size := Nat.ne_of_lt (Heap.lt_size hS)
  have hSf : S ∉ [s.heap.objs.size] := fun hm => hSI (List.mem_singleton.mp hm)
  unfold Builtin.List.listExtendWith
  refine wpAny_bind (wpAny_typeOf (T := "bytes") (v := .bytes b t) rfl ?_)
  have h1 : Builtin.List.listSameRef (.ref S) (.bytes b t) = false := rfl
  have h2 : (Value.type "bytes" == Value.type "list") = false := by decide
  have h3 : (Value.type "bytes" == Value.type "tuple") = false := by decide
  simp only [h1, h2, h3, Bool.or_false, Bool.false_eq_true, if_false]
  refine wpAny_bind (KBw.pyIter_bytes ?_)
  refine wpAny_bind (wpAny_holding ?_)
  unfold Builtin.List.listLengthHint
  refine wpAny_bind (wpAny_specialOf (T := "bytes") (v := .bytes b t) rfl FB.slot_bytes_len.lookup ?_)
  wp_delta
  refine wpAny_bind (wpAny_isInstance (T := "bytes") (v := .bytes b t) (b := true) rfl (by rw [isSubtype_type]; kernel_rfl) ?_)
  show wpAny _ _ (typeOf (Value.bytes b t) >>= _) _ _ _
  refine wpAny_bind (wpAny_typeOf (T := "bytes") (v := .bytes b t) rfl ?_)
  refine wpAny_pure ?_
  rw [if_neg (by decide)]
  refine wpAny_pure ⟨plainId_quiet F.plain_extend_loop _, codeAny_extend_loopS (P := ByteAt b) (KBw.walks (prog := prog) (w := w) (A := A.in1) hh s.heap.objs.size b t).toS hn _ hSf _ b.size 0 _ _ _ rfl (Nat.zero_le _) ⟨_, Heap.get?_push_size _ rfl, rfl, rfl⟩ (Heap.get?_push_of_some _ hS) (ItemsOf.nil _) fun s' acc' c' hm hS' hacc => ?_⟩
  rw [Moved.eq_with hm]
  refine hR s'.heap s'.toks acc' c' (fun b ob hb e => hm.heap b ob (fun hmem => ?_) (Heap.get?_push_of_some _ e)) hS' hacc
  rcases List.mem_cons.mp hmem with e' | hmem
  · exact hb e'
  · exact absurd (Heap.lt_size e) (by rw [List.mem_singleton.mp hmem]; exact Nat.lt_irrefl _)
theorem list_init_bytes {R : Result → Shared → Prop} (hh : A.handled = none) (b : Array UInt8) (t : Tok) (S : Addr) (hS : s.heap.get? S = some { cls := .type "list", data := .seq #[] })
    (hR : ∀ h' tk acc' c', (∀ b o, b ≠ S → s.heap.get? b = some o → h'.get? b = some o) → h'.get? S = some { cls := .type "list", dict := none, data := .seq acc' c', slots := #[] } →
      ItemsOf (ByteAt b) acc' b.size → R (.ok (.ret .none)) { s with heap := h', toks := tk }) (hn : b.size ≤ sizeLine) :
    wpAny (model prog w) A.in1 (Builtin.«list.__init__» ⟨[.ref S, .bytes b t], []⟩)
      (fun fin s' => match fin with | .done f => R (.ok f) s' | .again c' => c'.quiet = true ∧ codeAny (model prog w) A c' R s') (fun e s' => R (.error e) s') s := by
  show wpAny _ _ (do let old ← Builtin.List.listItems (.ref S); Builtin.List.listUpdate (.ref S) (fun _ => #[]); letGo old.toList.reverse; Builtin.List.listExtendWith (.ref S) (.bytes b t) .none) _ _ s
  refine wpAny_bind ?_
  unfold Builtin.List.listItems
  refine wpAny_bind (wpAny_seqItems hS rfl (wpAny_pure ?_))
  show wpAny _ _ (updateSeq S (fun _ => #[]) >>= fun _ => letGo (#[] : Array Value).toList.reverse >>= fun _ => Builtin.List.listExtendWith (.ref S) (.bytes b t) .none) _ _ s
  refine wpAny_bind (wpAny_updateSeq hS rfl ?_)
  have hS₂ := Heap.get?_update_self (Obj.mapSeq (fun _ => (#[] : Array Value))) hS rfl
  have oth : ∀ b o, b ≠ S → s.heap.get? b = some o → (s.heap.update S (Obj.mapSeq (fun _ => (#[] : Array Value)))).get? b = some o :=
    fun b o hb e => (Heap.get?_update_other _ _ (Ne.symm hb)).trans e
  refine wpAny_bind (wpAny_letGo ?_)
  refine extend_bytes (hn := hn) hh b t S .none _ hS₂ fun h' tk acc' c' hk hS' hacc => ?_
  exact hR h' tk acc' c' (fun b o hb e => hk b o hb (oth b o hb e)) hS' hacc
theorem call_list_bytes {Q : Value → Shared → Prop} (hh : A.handled = none) (b : Array UInt8) (t : Tok)
    (hQ : ∀ h' tk acc' c', (∀ b o, s.heap.get? b = some o → h'.get? b = some o) →
      h'.get? s.heap.objs.size = some { cls := .type "list", dict := none, data := .seq acc' c', slots := #[] } → ItemsOf (ByteAt b) acc' b.size → Q (.ref s.heap.objs.size) { s with heap := h', toks := tk }) (hn : b.size ≤ sizeLine) :
    wpAny (model prog w) A (call (.type "list") [.bytes b t]) Q E s := by
  refine callType_codes (Q₁ := fun obj s₁ => obj = .ref s.heap.objs.size ∧ s₁ = { s with heap := s.heap.push { cls := .type "list", data := .seq #[] } }) F.called_list (F.typeCall_list_1 _) F.entry_list_init
    (code_list_new _ ⟨rfl, rfl⟩) fun obj s₁ h₁ => ?_
  obtain ⟨rfl, rfl⟩ := h₁
  have hS : (s.heap.push { cls := .type "list", data := .seq #[] }).get? s.heap.objs.size = some { cls := .type "list", data := .seq #[] } := Heap.get?_push_size _ rfl
  refine ⟨⟨_, hS, rfl⟩, F.args_list_init_2 _ _, list_init_bytes (A := A.in1) (hn := hn) hh b t _ hS fun h' tk acc' c' hk hS' hacc => ?_⟩
  exact ⟨rfl, hQ h' tk acc' c' (fun b o e => hk b o (Nat.ne_of_lt (Heap.lt_size e)) (Heap.get?_push_of_some _ e)) hS' hacc⟩
theorem ints_of_get : ∀ {vs : List Value} {ks : List Int}, vs.length = ks.length → (∀ (j : Nat) (v : Value), vs[j]? = some v → ∃ k t, ks[j]? = some k ∧ v = Value.int k t) → IntsAre vs ks
  | [], [], _, _ => .nil
  | [], _ :: _, h, _ => by simp at h
  | _ :: _, [], h, _ => by simp at h
  | v :: vs, k :: ks, h, hg => by
    obtain ⟨k', t, e1, e2⟩ := hg 0 v rfl
    obtain rfl : k = k' := by simpa using e1
    subst e2
    exact .cons _ _ (ints_of_get (by simpa using h) fun j v hv => by simpa using hg (j + 1) v (by simpa using hv))
theorem list_bytesK {h₀ : Heap} {L : Addr} {m : Str → Option Value} {news : List (Addr × Obj)} {b : Array UInt8} {t : Tok} {ks : List Int} {Q : Value → Shared → Prop} (hh : A.handled = none) (F : Fr h₀ L s.heap m) (N : News h₀ L s.heap news) (hk : KBw.bInts b = ks) (hl : ks.length ≤ 1000)
    (h : ∀ D ys c' h' tk, Fr h₀ L h' m → News h₀ L h' ((D, listOf (List.toArray ys) c') :: news) → (∀ p ∈ news, p.1 < D) → IntsAre ys ks → Q (.ref D) { s with heap := h', toks := tk }) :
    wpAny (model prog w) A (call (.type "list") [.bytes b t]) Q E s := by
  have hbl : b.size = ks.length := by rw [← hk, KBw.ints_length]
  refine call_list_bytes hh b t (fun h' tk acc' c' hkeep hg hacc => ?_) (by rw [sizeLine_eq]; omega)
  refine h _ acc'.toList c' h' tk (F.keeps hkeep) (fun p hp => ?_) (fun p hp => Heap.lt_size (N p hp).1) (ints_of_get ?_ fun j v hv => ?_)
  · rcases List.mem_cons.mp hp with rfl | hp
    · refine ⟨by rw [Array.toArray_toList]; exact hg, fun e => ?_, next_is_new F⟩
      exact absurd F.ns.lt (by rw [← e]; exact Nat.lt_irrefl _)
    · exact ⟨hkeep _ _ (N p hp).1, (N p hp).2⟩
  · rw [Array.length_toList, hacc.1, hbl]
  · obtain ⟨c, u, hc, rfl⟩ := hacc.2 j v (by simpa using hv)
    exact ⟨_, u, by rw [← hk]; exact KBw.ints_get hc, rfl⟩
noncomputable def SrcB (prog : Program) (w : World) (A : Around) (h₀ : Heap) (L : Addr) (m : Str → Option Value) (env : Env) (elt : PySem.Expr) (x : Str) (scope : Scope) (cl : List (Str × Addr)) (Fin : Shared → List Value → List (Addr × Obj) → Prop) (xv : Value) (s₁ : Shared) : Prop :=
  ∃ b t news, xv = .bytes b t ∧ A.handled = none ∧ Fr h₀ L s₁.heap m ∧ News h₀ L s₁.heap news ∧ b.size ≤ sizeLine ∧
    ∀ s₂ : Shared, (∃ h, s₂ = { s₁ with heap := h }) → LCg.CompRest prog w A h₀ L m env elt x scope cl s₂ (fun _ => True) (fun i v => ∃ c u, b[i]? = some c ∧ v = .int (c.toNat : Int) u) (Fin s₂) b.size 0 [] news
theorem ListComp_B {h₀ : Heap} {L : Addr} {m : Str → Option Value} {env : Env} {elt iter : PySem.Expr} {x : Str} {px : Pos} {scope : Scope} {cl : List (Str × Addr)} {pos : Pos} {Q : Value → Shared → Prop} (F₀ : Fr h₀ L s.heap m)
    (hclos : closureFor scope env = pure cl) (hcell : ∀ y ∈ scope.names, y.2 ≠ .cell) (hkind : scope.kind = .function)
    (hnames : ∀ y ∈ scope.names, y.2 = .local → scope.names.lookup y.1 = some .local) (hx : scope.names.lookup x = some .local)
    (h : wpAny (model prog w) A (eval iter env) (SrcB prog w A h₀ L m env elt x scope cl (fun s₂ => LCg.FinE h₀ L m s₂ Q)) E s)
    (hs : ∀ x, foldedSetIterable iter env x = pure x := by intro _; rfl) :
    wpAny (model prog w) A (eval (.ListComp elt [⟨.Name x px, iter, [], 0⟩] scope pos) env) Q E s := by
  rw [eval_ListComp]
  refine wpAny_comprehension_free (use := none) rfl hs hclos hkind hnames (wpAny_mono h (fun xv s₁ h₁ => ?_) fun _ _ e => e)
  obtain ⟨b, t, news, rfl, hh, F, N, hsz, R⟩ := h₁
  refine KBw.pyIter_bytes ?_
  refine LCg.block_U (S := fun _ => True) (KBw.walks hh s₁.heap.objs.size b t) hsz (fun i h st => let ⟨o, e, _⟩ := st; ⟨o, e⟩) (fun i h h' o nw st e e' _ _ _ => let ⟨o1, q, r⟩ := st; ⟨o, e', by rw [e] at q; cases q; exact r⟩) hcell hkind hx ⟨_, Heap.get?_push_size _ rfl, rfl, rfl⟩ (fun b hb => ?_)
    (F.keeps fun _ _ e => Heap.get?_push_of_some _ e) (N.grown fun _ _ e => Heap.get?_push_of_some _ e) (Nat.ne_of_lt F.ns.lt) (next_is_new F) (fun p hp => Nat.ne_of_lt (Heap.lt_size (N p hp).1)) trivial (R _ ⟨_, rfl⟩) ?_
  · rw [List.mem_singleton.mp hb]
    show s₁.heap.objs.size < (s₁.heap.push _).objs.size
    rw [Heap.size_push]; exact Nat.lt_succ_self _
  · intro D C h tk m' ys news' F' N' o1 hn hC₀ hD₀ hCL hDL hCD offC fin
    refine ⟨m', hn, fun h'' hs'' => fin D h'' tk (F'.change hs'' hCL hC₀) (fun p hp => ?_) o1⟩
    refine ⟨hs''.extBut _ _ ?_ (N' p hp).1, (N' p hp).2⟩
    rcases List.mem_cons.mp hp with rfl | hp
    · exact Ne.symm hCD
    · exact offC p hp
end
end Mine
end

section
open PySem PySem.W PySem.Calls PyProof.Rows PyProof.V PySem.Spec
set_option Elab.async false
set_option maxRecDepth 100000
set_option maxHeartbeats 8000000
set_option pp.deepTerms false
set_option pp.deepTerms.threshold 6
set_option pp.proofs.threshold 3
set_option linter.all false
namespace Mine
local macro_rules | `(tactic| is_list) => `(tactic| (refine' Mine.led_isList ?N ?hm; (case N => k_asm); (case hm => k_mem)))
local macro_rules | `(tactic| walk_at "call builtin:len") => `(tactic| (k_here; (with_reducible show wpAny _ _ (call (Value.builtin "len") [Value.ref _]) _ _ _); k_dflt (refine' Mine.len_led ?k1 ?k2 ?k3 ?_; (case k1 => is_list); (case k2 => l_ints); (case k3 => omega)); k_whole))
local macro_rules | `(tactic| ktn_open) => `(tactic| (funext y; simp only [put_lkO]; rfl))
local macro_rules | `(tactic| walk_at "subscriptTail Name Slice ref ref") => `(tactic| (k_here; (with_reducible show wpAny _ _ (subscriptTail _ (PySem.Expr.Slice (some _) (some _) none _) (Value.ref _) (Value.ref _)) _ _ _); k_dflt (refine' Mine.sl_run ?F ?N ?l ?i ?h0 ?h1 ?z ?_ ?s ?t; (case F => k_asm); (case N => k_asm); (case l => is_list); (case i => l_ints); (case h0 => omega); (case h1 => omega); (case z => omega); (case s => with_unfolding_all rfl); (case t => (intro _; with_unfolding_all rfl))); intro D' ws' h' F' N' l1 hI'; (try k_lt l1); (try k_sweep)))
local macro_rules | `(tactic| walk_at "subscriptTail Name Slice ref ref") => `(tactic| (k_here; (with_reducible show wpAny _ _ (subscriptTail _ (PySem.Expr.Slice none (some _) none _) (Value.ref _) (Value.ref _)) _ _ _); k_dflt (refine' Mine.sl_upto ?F ?N ?l ?i ?h1 ?z ?_ ?s ?t; (case F => k_asm); (case N => k_asm); (case l => is_list); (case i => l_ints); (case h1 => omega); (case z => omega); (case s => with_unfolding_all rfl); (case t => (intro _; with_unfolding_all rfl))); intro D' ws' h' F' N' l1 hI'; (try k_lt l1); (try k_sweep)))
local macro_rules | `(tactic| walk_at "subscriptTail Name Slice ref ref") => `(tactic| (k_here; (with_reducible show wpAny _ _ (subscriptTail _ (PySem.Expr.Slice (some _) none none _) (Value.ref _) (Value.ref _)) _ _ _); k_dflt (refine' Mine.sl_from ?F ?N ?l ?i ?h0 ?z ?_ ?s ?t; (case F => k_asm); (case N => k_asm); (case l => is_list); (case i => l_ints); (case h0 => omega); (case z => omega); (case s => with_unfolding_all rfl); (case t => (intro _; with_unfolding_all rfl))); intro D' ws' h' F' N' l1 hI'; (try k_lt l1); (try k_sweep)))
local macro_rules | `(tactic| walk_at "binaryOp Mult ref int") => `(tactic| (k_here; (with_reducible show wpAny _ _ (binaryOp Operator.Mult (Value.ref _) (Value.int _ _)) _ _ _); k_dflt (refine' Mine.mul_one_int ?F ?N ?l ?lo ?hi ?_; (case F => k_asm); (case N => k_asm); (case l => is_list); (case lo => omega); (case hi => omega); k_whole); intro D' ws' h' F' N' l1 ns' hI' he' hl'; (try k_lt l1); (try k_sweep)))
local macro_rules | `(tactic| walk_at "call builtin:list.append") => `(tactic| (k_here; (with_reducible show wpAny _ _ (call (Value.builtin _) [Value.ref _, Value.int _ _]) _ _ _); k_dflt (refine' Mine.append_int ?k1 ?k2 ?k3 ?i ?l ?_; (case k1 => k_asm); (case k2 => k_asm); (case k3 => k_upd); (case i => l_ints); (case l => omega)); intro h' F' N' hI'; (try k_sweep)))
local macro_rules | `(tactic| walk_at "call type:range") => `(tactic| (k_here; (with_reducible show wpAny _ _ (call _ [_, _, _]) _ _ _); (rename Fr _ _ _ _ => F'); (rename News _ _ _ _ => N'); (with_unfolding_all refine range3_rows F' N' (by first | decide | omega) ?_); intro _ _ _ _ _ _ _ _ _))
local macro_rules | `(tactic| kcf_m) => `(tactic| first | exact List.mem_cons_self | assumption | (refine List.mem_cons_of_mem _ ?_; kcf_m) | (refine List.mem_append_left _ ?_; kcf_m) | (refine List.mem_append_right _ ?_; kcf_m))
local macro_rules | `(tactic| kcf_all) => `(tactic| first | exact List.forall_mem_nil _ | (refine List.forall_mem_cons.mpr ⟨?_, ?_⟩; (kcf_m); (kcf_all)) | (refine List.forall_mem_append.mpr ⟨?_, ?_⟩ <;> kcf_all) | (intro q hq; kcf_m))
local macro_rules | `(tactic| kpc_turns) => `(tactic| ((with_reducible rename ∀ p ∈ _, @LT.lt Nat _ (Prod.fst p) _ => hK); first | (with_reducible (refine Mine.all_ne' hK ?_); (try dsimp only); lia) | (clear hK; kpc_turns)))
local macro_rules | `(tactic| kqd_sub) => `(tactic| ((with_reducible rename ∀ p ∈ _, @LT.lt Nat _ _ (Prod.fst p) => hK); first | (with_reducible (refine Mine.all_ne_lo hK ?_); (try dsimp only); lia) | (clear hK; kqd_sub)))
local macro_rules | `(tactic| lsm_bools) => `(tactic| ((with_reducible rename AllLt _ _ => hK); first | (with_reducible (refine Mine.all_ne' (Mine.of_allLt hK) ?_); ((try dsimp only); lia)) | (clear hK; lsm_bools)))
local macro_rules | `(tactic| kpt_turns) => `(tactic| ((with_reducible rename _ ∧ _ => hK); first | ((fail_if_success (fail_if_success ((repeat (with_reducible replace hK := And.right hK)); with_reducible (have hZ : AllLt _ _ := hK)))); (refine' Mine.all_ne' (Mine.of_allLt ?h) ?_; (case h => iterate 26 (first | done | (with_reducible exact hK) | apply And.right)); (try dsimp only); lia)) | (clear hK; kpt_turns)))
local macro_rules | `(tactic| k_all) => `(tactic| first | assumption | kpc_turns | lsm_bools | kqd_sub | kpt_turns)
variable {w : World} {pp : Program} {loose : List Str} {mean : ExcName → Option Value} {mg mb : Str → Option Value} {dp un : Nat} {gd : Option (List Code)} {env : Env} {outer : List Env} {A₀ : Around} {base h₀ : Heap} {L : Addr} {m : Str → Option Value} {s : Shared} {Q E : Value → Shared → Prop} {news : List (Addr × Obj)}

section
theorem gen_toks_pos {prog : Program} {w : World} {A : Around} {α : Type} {t : Sem α} {Q : α → Shared → Prop} {E : Value → Shared → Prop} {h : Heap} {g : Array GenState} {d : Drawn} {X : Nat} {o : OsState} (hX : @LT.lt Nat _ 0 X) (hh : ∀ tk : Nat, @LT.lt Nat _ 0 tk → wpAny (model prog w) A t Q E ⟨h, g, d, tk, o⟩) : wpAny (model prog w) A t Q E ⟨h, g, d, X, o⟩ := hh X hX
local macro_rules | `(tactic| walk_at "execs cons") => `(tactic| (k_here; (with_reducible show wpAny _ _ _ _ _ ⟨_, _, _, _ + _, _⟩); (refine Mine.gen_toks_pos (by (simp only [List.length_cons, List.length_nil]; omega)) fun tk htkp => ?_)))
local macro_rules | `(tactic| walk_at "call builtin:str.replace") => `(tactic| (k_here; first
  | (refine Mine.rep_rule 100 38 [38, 97, 109, 112, 59] (by omega) (by omega) (by omega) (by rfl) (by rfl) (by decide) (by assumption) (by decide) (by decide) ?_; intro Y t' k' hY hL)
  | (refine Mine.rep_rule (5 * 100) 38 [38, 97, 109, 112, 59] (by omega) (by omega) (by omega) (by rfl) (by rfl) (by decide) (by first | assumption | omega) (by decide) (by decide) ?_; intro Y t' k' hY hL)
  | (refine Mine.rep_rule (5 * 100) 60 [38, 108, 116, 59] (by omega) (by omega) (by omega) (by rfl) (by rfl) (by decide) (by first | assumption | omega) (by decide) (by decide) ?_; intro Y t' k' hY hL)
  | (refine Mine.rep_rule (5 * (5 * 100)) 62 [38, 103, 116, 59] (by omega) (by omega) (by omega) (by rfl) (by rfl) (by decide) (by first | assumption | omega) (by decide) (by decide) ?_; intro Y t' k' hY hL)
  | (refine Mine.rep_rule (5 * (5 * (5 * 100))) 13 [38, 35, 120, 68, 59] (by omega) (by omega) (by omega) (by rfl) (by rfl) (by decide) (by first | assumption | omega) (by decide) (by decide) ?_; intro Y t' k' hY hL)))
theorem esc_spec {x : Str} {t1 : Tok}
  (H : Here w pp loose mean mg mb A₀ base h₀ outer env L m s.heap news)
  (hx : x.length ≤ 100)
  (hd : dp + 1 < recursionLimit) (hu : un + 8 < cLine)
  (hret : ∀ (Y : Str) (t : Tok) (h' : Heap) (tk' : Nat), Y.cps.toList = escL x.cps.toList → Fr h₀ L h' m → News h₀ L h' news → Q (.str Y t) { s with heap := h', toks := tk' }) :
  wpAny (model PySem.Challenge.pw_xp0023_01 w) (aTop dp un gd env outer) (call (.ref 167) [.str x t1]) Q E s := by
  w_top off
  obtain ⟨B, F, X, N, T, hf, hk⟩ := H
  refine wpAny_call ?_
  k_dflt ((refine' code_def ?k1x1 ?k2x1 ?k3x1 ?k4x1 ?k5x1 ?kAx1 ?kFx1 ?kKx1 ?k6x1 ?k7x1 ?k8x1 ?k9x1 ?kBx1 ?_ ?c2x1 ?c3x1 ?c4x1 ?c5x1; (case kAx1 => exact rfl); (case kFx1 => first | assumption | exact rfl); (case kKx1 => first | assumption | exact rfl); (case k1x1 => k_asm); (case k2x1 => k_asm); (case k3x1 => k_asm); (case k4x1 => k_asm); (case k5x1 => k_asm); (case k6x1 => k_is); (case k7x1 => k_is); (case k8x1 => ktr_room); (case k9x1 => first | exact BindsTo.of_eq rfl | exact binds_K (by k_in) rfl (by k_is) rfl rfl rfl); (case c5x1 => decide); (case kBx1 => exact locs rfl); (case c2x1 => exact rfl); (case c3x1 => exact rfl); (case c4x1 => exact rfl); k_whole; intro _ _ _ _ _ _ _ _ _; (try dsimp only); (try k_fold)))
  rename_i g' L' h' FG' F' N' B' X' T'
  replace F' : Fr g' L' h' (fun y => lkO y [("text", some (.str x t1))]) := fr_entry [] F'
  (repeat' ((fail_if_success (with_reducible show wpAny _ _ (exec (Stmt.While _ _ _ _) _) _ _ _)); (fail_if_success (with_reducible show wpAny _ _ (pyIter _) _ _ _)); first | (k_unfold; (try dsimp only)) | walk1 | (dsimp only; walk1) | fail "no step"))
  all_goals (
    rename Fr h₀ L _ m => kF
    rename News h₀ L _ _ => kN
    refine hret _ _ _ _ ?_ kF kN
    unfold escL
    first | rw [repl_stay (c := 38) (X := x) (y := Str.ofString "&") rfl (by assumption)] | (rename _ = repl 38 _ _ => h1; rw [← h1])
    first | rw [repl_stay (c := 60) (y := Str.ofString "<") rfl (by assumption)] | (rename _ = repl 60 _ _ => h2; rw [← h2])
    first | rw [repl_stay (c := 62) (y := Str.ofString ">") rfl (by assumption)] | (rename _ = repl 62 _ _ => h3; rw [← h3])
    first | rw [repl_stay (c := 13) (y := Str.ofString "\r") rfl (by assumption)] | (rename _ = repl 13 _ _ => h4; rw [← h4]))
end

section
local macro_rules | `(tactic| walk_at "wpAt") => `(tactic| (ks_step "attributeBase Call"; k_here; k_dflt (refine ks_node (by k_asm) (by k_asm) (by k_asm) (by k_asm) (by k_is) (by rfl) (by rfl) (Mine.InstAt_acc (C := 100) (by k_asm) (by kcf_m) (by kcf_m)) (by k_is) (by rfl) (by first | rfl | decide +kernel) (by k_is) (by k_is) (by k_is) (by k_is) (by decide) (by rfl) (by rfl) (by rfl) (by rfl) (by decide +kernel) (by first | boot_by_name | rfl | kernel_rfl) ?_; intro so' h' F' N' l1; (try k_lt l1))))
local macro_rules | `(tactic| walk_at "callWith") => `(tactic| (k_here; (refine' Mine.callWith_mw ?N ?q (Mine.call_ll ?N2 ?q2 ?h1 ?_); (case N => k_asm); (case q => kcf_m); (case N2 => k_asm); (case q2 => kcf_m); (case h1 => kcf_m))))
local macro_rules | `(tactic| walk_at "callWith") => `(tactic| (k_here; (refine' Mine.callWith_mw ?N ?q (Mine.call_li ?F2 ?N2 ?q2 ?U ?_); (case N => k_asm); (case q => kcf_m); (case F2 => k_asm); (case N2 => k_asm); (case q2 => kcf_m); (case U => k_upd)); intro h' F' N'))
section
local macro_rules | `(tactic| walk_at "getMethod ref") => `(tactic| (k_here; (with_reducible show wpAny _ _ (getMethod (Value.ref _) (Str.ofString "__len__") _) _ _ _); (refine' Mine.super_b (K := Mine.hd.heap_1 _) (C := 100) (i := "list.__len__") ?F ?X ?N ?hso ?h1 ?h2 ?hp ?ho ?hm Mine.mw_ll Mine.mw_ll2 ?hn ?_; (case F => k_asm); (case X => k_asm); (case N => k_asm); (case hso => kcf_m); (case h1 => kcf_m); (case h2 => kcf_m); (case hp => exact Mine.acc100 _); (case ho => k_is); (case hm => first | ks_is | kernel_rfl); (case hn => decide)); intro q' h' F' N' l1; (try k_lt l1)))
theorem count_spec {r dx : Addr} {its : Array Value} {k n : Nat} {es : List DictEntry}
  (H : Here w pp loose mean mg mb A₀ base h₀ outer env L m s.heap ((r, accObj 100 dx its k) :: (dx, dictOf es n) :: news))
  (hd : dp + 5 < recursionLimit) (hu : un + 40 < cLine) 
  (hret : ∀ (t : Tok) (h' : Heap) (tk' : Nat), Fr h₀ L h' m → News h₀ L h' ((r, accObj 100 dx its k) :: (dx, dictOf es n) :: news) → Q (.int its.size t) { s with heap := h', toks := tk' }) :
  wpAny (model PySem.Challenge.pw_xp0023_01 w) (aTop dp un gd env outer) (call (.ref 97) [.ref r]) Q E s := by
  w_top off
  obtain ⟨B, F, X, N, T, hf, hk⟩ := H
  refine wpAny_call ?_
  k_dflt (first | ((refine' ks_code_super ?k1x3 ?k2x3 ?k3x3 ?k4x3 ?k5x3 ?kAx3 ?kFx3 ?kKx3 ?k6x3 ?k7x3 ?k8x3 ?k9x3 ?kBx3 ?_ ?c1x3 ?c2x3 ?c3x3 ?c4x3; (case kAx3 => exact rfl); (case kFx3 => first | assumption | exact rfl); (case kKx3 => first | assumption | exact rfl); (case k1x3 => k_asm); (case k2x3 => k_asm); (case k3x3 => k_asm); (case k4x3 => k_asm); (case k5x3 => k_asm); (case k6x3 => k_is); (case k7x3 => k_is); (case k8x3 => ktr_room); (case k9x3 => first | exact BindsTo.of_eq rfl | exact binds_K (by k_in) rfl (by k_is) rfl rfl rfl); (case kBx3 => exact locs rfl); (case c1x3 => decide); (case c2x3 => exact rfl); (case c3x3 => exact rfl); (case c4x3 => exact rfl); intro _ _ _ _ _ _ _ _ _ l1; (try k_lt l1); (try (revert l1; intro _)); (try dsimp only))) | ((refine' code_def ?k1x4 ?k2x4 ?k3x4 ?k4x4 ?k5x4 ?kAx4 ?kFx4 ?kKx4 ?k6x4 ?k7x4 ?k8x4 ?k9x4 ?kBx4 ?_ ?c2x4 ?c3x4 ?c4x4 ?c5x4; (case kAx4 => exact rfl); (case kFx4 => first | assumption | exact rfl); (case kKx4 => first | assumption | exact rfl); (case k1x4 => k_asm); (case k2x4 => k_asm); (case k3x4 => k_asm); (case k4x4 => k_asm); (case k5x4 => k_asm); (case k6x4 => k_is); (case k7x4 => k_is); (case k8x4 => ktr_room); (case k9x4 => first | exact BindsTo.of_eq rfl | exact binds_K (by k_in) rfl (by k_is) rfl rfl rfl); (case c5x4 => decide); (case kBx4 => exact locs rfl); (case c2x4 => exact rfl); (case c3x4 => exact rfl); (case c4x4 => exact rfl); k_whole; intro _ _ _ _ _ _ _ _ _; (try dsimp only); (try k_fold))))
  (repeat' ((fail_if_success (with_reducible show wpAny _ _ (exec (Stmt.While _ _ _ _) _) _ _ _)); (fail_if_success (with_reducible show wpAny _ _ (pyIter _) _ _ _)); first | (k_unfold; (try dsimp only)) | walk1 | (dsimp only; walk1) | fail "no step"))
  rename Fr h₀ L _ m => kF
  rename News h₀ L _ _ => kN
  exact hret _ _ _ kF (news_sub kN (by kcf_all))
end

section
local macro_rules | `(tactic| walk_at "getMethod ref") => `(tactic| (k_here; (with_reducible show wpAny _ _ (getMethod (Value.ref _) (Str.ofString "__init__") _) _ _ _); (refine' Mine.super_b (K := Mine.hd.heap_1 _) (C := 100) (i := "list.__init__") ?F ?X ?N ?hso ?h1 ?h2 ?hp ?ho ?hm Mine.mw_li Mine.mw_li2 ?hn ?_; (case F => k_asm); (case X => k_asm); (case N => k_asm); (case hso => kcf_m); (case h1 => kcf_m); (case h2 => kcf_m); (case hp => exact Mine.acc100 _); (case ho => k_is); (case hm => first | ks_is | kernel_rfl); (case hn => decide)); intro q' h' F' N' l1; (try k_lt l1)))
local macro_rules | `(tactic| walk_at "setAttr ref") => `(tactic| (k_here; k_dflt (refine' Mine.set_dictL (K := Mine.hd.heap_1 _) (C := 100) ?k1 ?k2 ?k3 ?h1 ?h2 ?k7 ?k8 ?k9 ?k10 ?k11 ?k12 ?k13 ?_; (case k1 => k_asm); (case k2 => k_asm); (case k3 => k_asm); (case h1 => kcf_m); (case h2 => kcf_m); (case k7 => k_is); (case k8 => exact Mine.acc100 _); (case k9 => k_is); (case k10 => k_get); (case k11 => k_put); (case k12 => k_upd); (case k13 => exact Nat.le_of_ble_eq_true rfl); k_whole; intro h' F' N'; (try k_sweep))))
noncomputable abbrev isD (w : World) (tk : Tok) (v : Value) : List DictEntry := [⟨PyData.keyHash w.params (Str.ofString "_initial_size"), .str (Str.ofString "_initial_size") tk, v⟩]
theorem new_spec {p : Int} {t1 : Tok}
  (H : Here w pp loose mean mg mb A₀ base h₀ outer env L m s.heap news)
  (hd : dp + 5 < recursionLimit) (hu : un + 40 < cLine)
  (hret : ∀ (r dx : Addr) (tk : Tok) (h' : Heap) (tk' : Nat), (∀ p ∈ news, p.1 < dx) → dx < r → Fr h₀ L h' m → News h₀ L h' ((r, accObj 100 dx #[] 0) :: (dx, dictOf (isD w tk (.int p t1)) 1) :: news) → Q (.ref r) { s with heap := h', toks := tk' }) :
  wpAny (model PySem.Challenge.pw_xp0023_01 w) (aTop dp un gd env outer) (call (.ref 100) [.int p t1]) Q E s := by
  w_top off
  obtain ⟨B, F, X, N, T, hf, hk⟩ := H
  refine call_acc F X N (acc100 _) (by k_is) (by k_is) fun x dx h' F' N' l1 l2 => ?_
  replace N' : News h₀ L h' ((x, accObj 100 dx #[] 0) :: (dx, dictOf [] 0) :: news) := N'
  have ldx : ∀ p ∈ news, p.1 ≠ dx := fun p hp => Nat.ne_of_lt (l1 p hp)
  have lxx : ∀ p ∈ news, p.1 ≠ x := fun p hp => Nat.ne_of_lt (Nat.lt_trans (l1 p hp) l2)
  have ldd : dx ≠ x := Nat.ne_of_lt l2
  k_dflt (first | ((refine' ks_code_super ?k1x6 ?k2x6 ?k3x6 ?k4x6 ?k5x6 ?kAx6 ?kFx6 ?kKx6 ?k6x6 ?k7x6 ?k8x6 ?k9x6 ?kBx6 ?_ ?c1x6 ?c2x6 ?c3x6 ?c4x6; (case kAx6 => exact rfl); (case kFx6 => first | assumption | exact rfl); (case kKx6 => first | assumption | exact rfl); (case k1x6 => k_asm); (case k2x6 => k_asm); (case k3x6 => k_asm); (case k4x6 => k_asm); (case k5x6 => k_asm); (case k6x6 => k_is); (case k7x6 => k_is); (case k8x6 => ktr_room); (case k9x6 => first | exact BindsTo.of_eq rfl | exact binds_K (by k_in) rfl (by k_is) rfl rfl rfl); (case kBx6 => exact locs rfl); (case c1x6 => decide); (case c2x6 => exact rfl); (case c3x6 => exact rfl); (case c4x6 => exact rfl); intro _ _ _ _ _ _ _ _ _ l1; (try k_lt l1); (try (revert l1; intro _)); (try dsimp only))) | ((refine' code_def ?k1x7 ?k2x7 ?k3x7 ?k4x7 ?k5x7 ?kAx7 ?kFx7 ?kKx7 ?k6x7 ?k7x7 ?k8x7 ?k9x7 ?kBx7 ?_ ?c2x7 ?c3x7 ?c4x7 ?c5x7; (case kAx7 => exact rfl); (case kFx7 => first | assumption | exact rfl); (case kKx7 => first | assumption | exact rfl); (case k1x7 => k_asm); (case k2x7 => k_asm); (case k3x7 => k_asm); (case k4x7 => k_asm); (case k5x7 => k_asm); (case k6x7 => k_is); (case k7x7 => k_is); (case k8x7 => ktr_room); (case k9x7 => first | exact BindsTo.of_eq rfl | exact binds_K (by k_in) rfl (by k_is) rfl rfl rfl); (case c5x7 => decide); (case kBx7 => exact locs rfl); (case c2x7 => exact rfl); (case c3x7 => exact rfl); (case c4x7 => exact rfl); k_whole; intro _ _ _ _ _ _ _ _ _; (try dsimp only); (try k_fold))))
  (repeat' ((fail_if_success (with_reducible show wpAny _ _ (exec (Stmt.While _ _ _ _) _) _ _ _)); (fail_if_success (with_reducible show wpAny _ _ (pyIter _) _ _ _)); first | (k_unfold; (try dsimp only)) | walk1 | (dsimp only; walk1) | fail "no step"))
  rename_i g9 L9 h9 FG9 F9 N9 B9 X9 T9 l9
  refine' Mine.set_dictL (K := Mine.hd.heap_1 _) (C := 100) ?k1 ?k2 ?k3 ?h1 ?h2 ?k7 ?k8 ?k9 ?k10 ?k11 ?k12 ?k13 ?_; (case k1 => k_asm); (case k2 => k_asm); (case k3 => k_asm); (case h1 => kcf_m); (case h2 => kcf_m); (case k7 => k_is); (case k8 => exact Mine.acc100 _)
  (case k9 => k_is)
  (case k10 => k_get)
  (case k11 => k_put)
  (case k12 => exact Upd.tail (fun e => ldd e.symm) (Upd.head ldx))
  (case k13 => exact Nat.le_of_ble_eq_true rfl)
  clear F9 N9
  intro h10 F10 N10
  dsimp only
  refine ks_wpAt_execs_cons ?_
  refine ks_wpAt_Expr_any ?_
  ks_step "eval Call"
  refine ks_wpAt_MethodCall ?_
  (repeat' ((fail_if_success (with_reducible show wpAny _ _ (exec (Stmt.While _ _ _ _) _) _ _ _)); (fail_if_success (with_reducible show wpAny _ _ (pyIter _) _ _ _)); first | (k_unfold; (try dsimp only)) | walk1 | (dsimp only; walk1) | fail "no step"))
  rename Fr h₀ L _ m => kF
  rename News h₀ L _ _ => kN
  exact hret _ _ _ _ _ l1 l2 kF (news_sub kN (by kcf_all))
end

end

section
theorem innA_spec (k : Nat)
  {f c' cn ca ci D : Addr} {oc o1 o2 o3 : Obj} {q : Str} {doc pm ct : Value} {vst : Array Value} {tq tn : Tok} {vs : List Value} {ns : List Int} {nn : Nat} {x l r n : Int} {tx tl tr : Tok}
  (H : Here w pp loose mean mg mb A₀ base h₀ outer env L m s.heap ((D, listOf vs.toArray nn) :: (f, fnA q [("n", cn), ("inner", ci), ("a_digits", ca)] doc pm c' ct) :: (cn, o1) :: (ca, o2) :: (ci, o3) :: (c', oc) :: news))
  (C2 : CodeHd base 124 120) (hc1 : oc.data = .fields vst) (hc2 : vst[1]? = some (.str q tq))
  (h1' : o1.data = .cell (some (.int n tn))) (h2' : o2.data = .cell (some (.ref D))) (h3' : o3.data = .cell (some (.ref f)))
  (hD : ∀ p ∈ (f, fnA q [("n", cn), ("inner", ci), ("a_digits", ca)] doc pm c' ct) :: (cn, o1) :: (ca, o2) :: (ci, o3) :: (c', oc) :: news, p.1 ≠ D) (hi : IntsAre vs ns) (hlen : ns.length ≤ 100) (hn : 0 < n) (hn2 : n < 64) (hl0 : 0 ≤ l) (hlr : l < r) (hr : r ≤ ns.length) (hk : r - l ≤ k) (hx0 : 0 ≤ x) (hx2 : x < 2 ^ 60) (hx1 : x < (2 ^ n.toNat) ^ (r - l).toNat)
  (hd : dp + k + 1 < recursionLimit) (hu : un + 8 * k + 8 < cLine)
  (hret : ∀ (vs' : List Value) (h' : Heap) (tk' : Nat), Fr h₀ L h' m → News h₀ L h' ((D, listOf vs'.toArray nn) :: (f, fnA q [("n", cn), ("inner", ci), ("a_digits", ca)] doc pm c' ct) :: (cn, o1) :: (ca, o2) :: (ci, o3) :: (c', oc) :: news) → IntsAre vs' (ns.take l.toNat ++ dg (2 ^ n.toNat) (r - l).toNat x ++ ns.drop r.toNat) → Q .none { s with heap := h', toks := tk' }) :
  wpAny (model PySem.Challenge.pw_xp0023_01 w) (aTop dp un gd env outer) (call (.ref f) [.int x tx, .int l tl, .int r tr]) Q E s := by
  w_top off
  induction k generalizing dp un env outer A₀ h₀ L m s Q E vs ns x l r tx tl tr with
  | zero => omega
  | succ k ih =>
    obtain ⟨B, F, X, N, T, hf0, hk0⟩ := H
    refine wpAny_call ?_
    k_dflt (refine' code_nest ?k1 ?k2 ?k3 ?k4 ?k5 ?kA ?kF ?kK ?k6 ?k7 ?k8 ?k9 ?kB ?_ ?c2 ?c3 ?c4 ?c5; (case kA => exact rfl); (case kF => exact hf0); (case kK => exact hk0); (case k1 => k_asm); (case k2 => k_asm); (case k3 => k_asm); (case k4 => k_asm); (case k5 => k_asm); (case k6 => exact .tail _ (.head _)); (case k7 => exact codeRec_news N (.tail _ (.tail _ (.tail _ (.tail _ (.tail _ (.head _)))))) hc1 hc2); (case k8 => ktr_room); (case k9 => exact BindsTo.of_eq rfl); (case c5 => decide); (case kB => exact locs rfl); (case c2 => exact rfl); (case c3 => exact rfl); (case c4 => exact rfl); k_whole; intro g' L' h' FG' F' N' B' X' T'; (try dsimp only); (try k_fold))
    have hM : (l + r).fdiv (2 ^ Int.toNat 1) = (l + r) / 2 := by rw [show ((2 : Int) ^ Int.toNat 1) = 2 from rfl, Int.fdiv_eq_ediv_of_nonneg _ (by omega)]
    have hs : l + 1 ≠ r → l < (l + r).fdiv (2 ^ Int.toNat 1) ∧ (l + r).fdiv (2 ^ Int.toNat 1) < r := by omega
    have hs0 : 0 ≤ ((l + r).fdiv (2 ^ Int.toNat 1) - l) * n := Int.mul_nonneg (by omega) (by omega)
    have hs1 : ((l + r).fdiv (2 ^ Int.toNat 1) - l) * n ≤ 10000 := Int.le_trans (Int.mul_le_mul (a := (l + r).fdiv (2 ^ Int.toNat 1) - l) (b := n) (c := 100) (d := 100) (by omega) (by omega) (by omega) (by omega)) (by decide)
    have hup := up_bd hx0 hx2 (((l + r).fdiv (2 ^ Int.toNat 1) - l) * n).toNat
    have hub : Builtin.Int.intBits (x.fdiv (2 ^ (((l + r).fdiv (2 ^ Int.toNat 1) - l) * n).toNat)) ≤ 64 := intBits_le_64 (by omega) (by omega)
    (repeat' ((fail_if_success (with_reducible show wpAny _ _ (exec (Stmt.While _ _ _ _) _) _ _ _)); (fail_if_success (with_reducible show wpAny _ _ (pyIter _) _ _ _)); first | (k_unfold; (try dsimp only)) | walk1 | (dsimp only; walk1) | fail "no step"))
    · rename Fr h₀ L _ m => kF
      rename News h₀ L _ _ => kN
      refine hret _ _ _ kF kN ?_
      rename IntsAre _ (List.set _ _ _) => hi'
      have e : (r - l).toNat = 1 := by omega
      rw [e] at hx1 ⊢
      rw [dg_one hx0 (by rw [Int.pow_succ, Int.pow_zero, Int.one_mul] at hx1; exact hx1), toNat_succ hl0 (show l + 1 = r by assumption), ← set_mid (by omega)]
      exact hi'
    · have hs' := hs (by assumption)
      obtain ⟨hz1, hz2, hz3⟩ := mid_facts hl0 hs'.1 hs'.2
      have hM0 := dg_split (n := n.toNat) (a := ((l + r).fdiv (2 ^ Int.toNat 1) - l).toNat) (b := (r - (l + r).fdiv (2 ^ Int.toNat 1)).toNat) hx0 (by rw [hz2]; exact hx1)
      rename Fr g' L' _ _ => HF
      rename News g' L' _ _ => HN
      have esh : (2 : Int) ^ (((l + r).fdiv (2 ^ Int.toNat 1) - l) * n).toNat = (2 ^ n.toNat) ^ ((l + r).fdiv (2 ^ Int.toNat 1) - l).toNat := by
        rw [← Int.pow_mul, Int.mul_comm, Int.toNat_mul (by omega) (by omega)]
      have ex := xor_low hx0 (((l + r).fdiv (2 ^ Int.toNat 1) - l) * n).toNat
      rw [esh] at ex
      have eu : x.fdiv (2 ^ (((l + r).fdiv (2 ^ Int.toNat 1) - l) * n).toNat) = x / (2 ^ n.toNat) ^ ((l + r).fdiv (2 ^ Int.toNat 1) - l).toNat := by
        rw [Int.fdiv_eq_ediv_of_nonneg _ (Int.le_of_lt (Int.pow_pos (by decide))), esh]
      rw [← esh] at ex
      obtain ⟨hd1, hd2, hd3, hd4, hd5⟩ := hM0
      have hlt : x % (2 ^ n.toNat) ^ ((l + r).fdiv (2 ^ Int.toNat 1) - l).toNat ≤ x := mod_le hx0 (Int.pow_pos (Int.pow_pos (by decide)))
      refine ih ⟨B', HF, X', HN, T', rfl, rfl⟩ hi hlen hl0 hs'.1 ?_ ?_ ?_ ?_ ?_ ?_ ?_ ?_
      · omega
      · omega
      · rw [ex, esh]; exact hd2
      · rw [ex, esh]; omega
      · rw [ex, esh]; exact hd3
      · show dp + 1 + k + 1 < _; omega
      · show un + 3 + 8 * k + 8 < _; omega
      rw [ex, esh]
      rintro vs1 h1 tk1 F1 N1 hi1
      clear HF HN
      (repeat' ((fail_if_success (with_reducible show wpAny _ _ (exec (Stmt.While _ _ _ _) _) _ _ _)); (fail_if_success (with_reducible show wpAny _ _ (pyIter _) _ _ _)); first | (k_unfold; (try dsimp only)) | walk1 | (dsimp only; walk1) | fail "no step"))
      rename Fr g' L' _ _ => HF
      rename News g' L' _ _ => HN
      rw [esh] at eu hup
      have hL1 : (ns.take l.toNat ++ dg (2 ^ n.toNat) ((l + r).fdiv (2 ^ Int.toNat 1) - l).toNat (x % (2 ^ n.toNat) ^ ((l + r).fdiv (2 ^ Int.toNat 1) - l).toNat) ++ ns.drop ((l + r).fdiv (2 ^ Int.toNat 1)).toNat).length = ns.length := by
        rw [List.length_append, List.length_append, dg_length, List.length_take, List.length_drop]
        exact cut_mid hl0 hs'.1 (Int.le_trans (Int.le_of_lt hs'.2) hr)
      refine ih ⟨B', HF, X', HN, T', rfl, rfl⟩ hi1 ?_ ?_ hs'.2 ?_ ?_ ?_ ?_ ?_ ?_ ?_ ?_
      · rw [hL1]; exact hlen
      · omega
      · rw [hL1]; exact hr
      · omega
      · rw [eu]; exact hd4
      · exact hup.2
      · rw [eu]; exact hd5
      · show dp + 1 + k + 1 < _; omega
      · show un + 3 + 8 * k + 8 < _; omega
      rw [eu]
      rintro vs2 h2 tk2 F2 N2 hi2
      clear HF HN
      (repeat' ((fail_if_success (with_reducible show wpAny _ _ (exec (Stmt.While _ _ _ _) _) _ _ _)); (fail_if_success (with_reducible show wpAny _ _ (pyIter _) _ _ _)); first | (k_unfold; (try dsimp only)) | walk1 | (dsimp only; walk1) | fail "no step"))
      rename Fr h₀ L _ m => kF
      rename News h₀ L _ _ => kN
      refine hret _ _ _ kF kN ?_
      rw [splice2 (toNat_mono (Int.le_of_lt hs'.1)) (toNat_mono (Int.le_of_lt hs'.2)) (Int.toNat_le.mpr hr) (by rw [dg_length]; exact hz1), ← hd1, hz2] at hi2
      exact hi2
end

section
theorem innB_spec (k : Nat)
  {f c' cn cd ci D : Addr} {oc o1 o2 o3 : Obj} {q : Str} {doc pm ct : Value} {vst : Array Value} {tq tn : Tok} {vs : List Value} {ns : List Int} {nn : Nat} {l r n : Int} {tl tr : Tok}
  (H : Here w pp loose mean mg mb A₀ base h₀ outer env L m s.heap ((D, listOf vs.toArray nn) :: (f, fnB q [("n", cn), ("inner", ci), ("digits", cd)] doc pm c' ct) :: (cn, o1) :: (cd, o2) :: (ci, o3) :: (c', oc) :: news))
  (C1 : CodeHd base 131 127) (hc1 : oc.data = .fields vst) (hc2 : vst[1]? = some (.str q tq))
  (h1' : o1.data = .cell (some (.int n tn))) (h2' : o2.data = .cell (some (.ref D))) (h3' : o3.data = .cell (some (.ref f)))
  (hi : IntsAre vs ns) (hlen : ns.length ≤ 100) (hnn : ∀ d ∈ ns, 0 ≤ d) (hn : 0 < n) (hn2 : n < 64) (hl0 : 0 ≤ l) (hlr : l < r) (hr : r ≤ ns.length) (hk : r - l ≤ k) (hx1 : sv (2 ^ n.toNat) ns l.toNat r.toNat < 2 ^ 60)
  (hd : dp + k + 1 < recursionLimit) (hu : un + 8 * k + 8 < cLine)
  (hret : ∀ (t : Tok) (h' : Heap) (tk' : Nat), Fr h₀ L h' m → News h₀ L h' ((D, listOf vs.toArray nn) :: (f, fnB q [("n", cn), ("inner", ci), ("digits", cd)] doc pm c' ct) :: (cn, o1) :: (cd, o2) :: (ci, o3) :: (c', oc) :: news) → Q (.int (sv (2 ^ n.toNat) ns l.toNat r.toNat) t) { s with heap := h', toks := tk' }) :
  wpAny (model PySem.Challenge.pw_xp0023_01 w) (aTop dp un gd env outer) (call (.ref f) [.int l tl, .int r tr]) Q E s := by
  w_top off
  induction k generalizing dp un env outer A₀ h₀ L m s Q E l r tl tr with
  | zero => omega
  | succ k ih =>
    obtain ⟨B, F, X, N, T, hf0, hk0⟩ := H
    refine wpAny_call ?_
    k_dflt (refine' code_nest ?k1 ?k2 ?k3 ?k4 ?k5 ?kA ?kF ?kK ?k6 ?k7 ?k8 ?k9 ?kB ?_ ?c2 ?c3 ?c4 ?c5; (case kA => exact rfl); (case kF => exact hf0); (case kK => exact hk0); (case k1 => k_asm); (case k2 => k_asm); (case k3 => k_asm); (case k4 => k_asm); (case k5 => k_asm); (case k6 => exact .tail _ (.head _)); (case k7 => exact codeRec_news N (.tail _ (.tail _ (.tail _ (.tail _ (.tail _ (.head _)))))) hc1 hc2); (case k8 => ktr_room); (case k9 => exact BindsTo.of_eq rfl); (case c5 => decide); (case kB => exact locs rfl); (case c2 => exact rfl); (case c3 => exact rfl); (case c4 => exact rfl); k_whole; intro g' L' h' FG' F' N' B' X' T'; (try dsimp only); (try k_fold))
    have hM : (l + r).fdiv (2 ^ Int.toNat 1) = (l + r) / 2 := by rw [show ((2 : Int) ^ Int.toNat 1) = 2 from rfl, Int.fdiv_eq_ediv_of_nonneg _ (by omega)]
    have hs : l + 1 ≠ r → l < (l + r).fdiv (2 ^ Int.toNat 1) ∧ (l + r).fdiv (2 ^ Int.toNat 1) < r := by omega
    have hs0 : 0 ≤ ((l + r).fdiv (2 ^ Int.toNat 1) - l) * n := Int.mul_nonneg (by omega) (by omega)
    have hs1 : ((l + r).fdiv (2 ^ Int.toNat 1) - l) * n ≤ 10000 := Int.le_trans (Int.mul_le_mul (a := (l + r).fdiv (2 ^ Int.toNat 1) - l) (b := n) (c := 100) (d := 100) (by omega) (by omega) (by omega) (by omega)) (by decide)
    (repeat' ((fail_if_success (with_reducible show wpAny _ _ (exec (Stmt.While _ _ _ _) _) _ _ _)); (fail_if_success (with_reducible show wpAny _ _ (pyIter _) _ _ _)); first | (k_unfold; (try dsimp only)) | walk1 | (dsimp only; walk1) | fail "no step"))
    · rename Fr h₀ L _ m => kF
      rename News h₀ L _ _ => kN
      rename l + 1 = r => hlr1
      have e : sv (2 ^ n.toNat) ns l.toNat r.toNat = ns.getD l.toNat 0 := by
        rw [toNat_succ hl0 (show l + 1 = r by assumption)]
        exact sv_one (by omega)
      rw [e] at hret
      exact hret _ _ _ kF kN
    · have hs' := hs (by assumption)
      obtain ⟨hz1, hz2, hz3⟩ := mid_facts hl0 hs'.1 hs'.2
      obtain ⟨p1, p2, p3, p4, p5⟩ := sv_parts (n := n.toNat) (l := l.toNat) (M := ((l + r).fdiv (2 ^ Int.toNat 1)).toNat) (r := r.toNat) hnn (toNat_mono (Int.le_of_lt hs'.1)) (toNat_mono (Int.le_of_lt hs'.2)) (Int.toNat_le.mpr hr) hx1
      have hb1 : Builtin.Int.intBits (sv (2 ^ n.toNat) ns ((l + r).fdiv (2 ^ Int.toNat 1)).toNat r.toNat) ≤ 64 := intBits_le_64 (by omega) (by omega)
      rename Fr g' L' _ _ => HF
      rename News g' L' _ _ => HN
      refine ih ⟨B', HF, X', HN, T', rfl, rfl⟩ (by omega) hs'.2 hr (by omega) p4 ?_ ?_ ?_
      · show dp + 1 + k + 1 < _; omega
      · show un + 3 + 8 * k + 8 < _; omega
      rintro t1 h1 tk1 F1 N1
      clear HF HN
      (repeat' ((fail_if_success (with_reducible show wpAny _ _ (exec (Stmt.While _ _ _ _) _) _ _ _)); (fail_if_success (with_reducible show wpAny _ _ (pyIter _) _ _ _)); first | (k_unfold; (try dsimp only)) | walk1 | (dsimp only; walk1) | fail "no step"))
      rename Fr g' L' _ _ => HF
      rename News g' L' _ _ => HN
      refine ih ⟨B', HF, X', HN, T', rfl, rfl⟩ hl0 hs'.1 (by omega) (by omega) p2 ?_ ?_ ?_
      · show dp + 1 + k + 1 < _; omega
      · show un + 3 + 8 * k + 8 < _; omega
      rintro t2 h2 tk2 F2 N2
      clear HF HN
      (repeat' ((fail_if_success (with_reducible show wpAny _ _ (exec (Stmt.While _ _ _ _) _) _ _ _)); (fail_if_success (with_reducible show wpAny _ _ (pyIter _) _ _ _)); first | (k_unfold; (try dsimp only)) | walk1 | (dsimp only; walk1) | fail "no step"))
      rename Fr h₀ L _ m => kF
      rename News h₀ L _ _ => kN
      rw [show (((l + r).fdiv (2 ^ Int.toNat 1) - l) * n).toNat = n.toNat * (((l + r).fdiv (2 ^ Int.toNat 1)).toNat - l.toNat) by
        rw [Int.mul_comm, Int.toNat_mul (by omega) (by omega)]; congr 1 <;> omega, p5]
      exact hret _ _ _ kF kN
end

local macro_rules | `(tactic| omega) => `(tactic| first | (with_reducible assumption) | lia)

section
theorem front_spec {l : Addr} {vs : List Value} {ns : List Int} {nn : Nat}
  (H : Here w pp loose mean mg mb A₀ base h₀ outer env L m s.heap news)
  (hl : (l, listOf vs.toArray nn) ∈ news) (hi : IntsAre vs ns) (hlen : ns.length < 100) (hlen2 : 2 ≤ ns.length)
  (hd : dp + 1 < recursionLimit) (hu : un + 8 < cLine)
  (hret : ∀ (x : Int) (t : Tok) (h' : Heap) (tk' : Nat), 2 ≤ x → x ≤ ns.length → (∀ j : Int, 2 ≤ j → j < x → ns.getD ((ns.length : Int) + 1 - j).toNat 0 = 0) → (x = ns.length ∨ ns.getD ((ns.length : Int) + 1 - x).toNat 0 ≠ 0) →
     Fr h₀ L h' m → News h₀ L h' news → Q (.int x t) { s with heap := h', toks := tk' }) :
  wpAny (model PySem.Challenge.pw_xp0023_01 w) (aTop dp un gd env outer) (call (.ref 188) [.ref l]) Q E s := by
  w_top off
  obtain ⟨B, F, X, N, T, hf, hk⟩ := H
  refine wpAny_call ?_
  k_dflt ((refine' code_def ?k1x16 ?k2x16 ?k3x16 ?k4x16 ?k5x16 ?kAx16 ?kFx16 ?kKx16 ?k6x16 ?k7x16 ?k8x16 ?k9x16 ?kBx16 ?_ ?c2x16 ?c3x16 ?c4x16 ?c5x16; (case kAx16 => exact rfl); (case kFx16 => first | assumption | exact rfl); (case kKx16 => first | assumption | exact rfl); (case k1x16 => k_asm); (case k2x16 => k_asm); (case k3x16 => k_asm); (case k4x16 => k_asm); (case k5x16 => k_asm); (case k6x16 => k_is); (case k7x16 => k_is); (case k8x16 => ktr_room); (case k9x16 => first | exact BindsTo.of_eq rfl | exact binds_K (by k_in) rfl (by k_is) rfl rfl rfl); (case c5x16 => decide); (case kBx16 => exact locs rfl); (case c2x16 => exact rfl); (case c3x16 => exact rfl); (case c4x16 => exact rfl); k_whole; intro _ _ _ _ _ _ _ _ _; (try dsimp only); (try k_fold)))
  rename_i g' L' h' FG' F' N' B' X' T'
  replace F' := fr_entry [Str.ofString "front"] F'
  replace F' : Fr g' L' h' (fun y => lkO y [(Str.ofString "told", some (.ref l)), (Str.ofString "front", none)]) := F'
  (repeat' ((fail_if_success (with_reducible show wpAny _ _ (exec (Stmt.While _ _ _ _) _) _ _ _)); (fail_if_success (with_reducible show wpAny _ _ (pyIter _) _ _ _)); first | (k_unfold; (try dsimp only)) | walk1 | (dsimp only; walk1) | fail "no step"))
  rename Fr g' L' _ _ => HF
  rename News g' L' _ _ => HN
  refine While_inv2 (n₀ := ((ns.length : Int) - 2).toNat) (fun n m nx => nx = news ∧ ∃ (k : Int) (t : Tok), 2 ≤ k ∧ k ≤ ns.length ∧ n = ((ns.length : Int) - k).toNat ∧ (∀ j : Int, 2 ≤ j → j < k → ns.getD ((ns.length : Int) + 1 - j).toNat 0 = 0) ∧ m = fun y => lkO y [(Str.ofString "told", some (.ref l)), (Str.ofString "front", some (.int k t))]) HF HN ?_ ?_ (by passes_own)
  · refine' ⟨rfl, 2, _, by omega, by omega, rfl, fun j h1 h2 => by omega, _⟩
    rotate_left
    · funext y
      simp only [put_lkO]
      rfl
  · rintro n m₁ nx h₁ tk₁ F₁ N₁ ⟨rfl, k, t, hk2, hk3, rfl, hall, rfl⟩
    clear HF HN
    (repeat' ((fail_if_success (with_reducible show wpAny _ _ (exec (Stmt.While _ _ _ _) _) _ _ _)); (fail_if_success (with_reducible show wpAny _ _ (pyIter _) _ _ _)); first | (k_unfold; (try dsimp only)) | walk1 | (dsimp only; walk1) | fail "no step"))
    · rename Fr g' L' _ _ => HF
      rename News g' L' _ _ => HN
      rename k < _ => hlt
      rename ns.getD _ 0 = 0 => hz
      refine' ⟨_, _, _, _, ((ns.length : Int) - (k + 1)).toNat, rfl, HF, HN, by omega, rfl, k + 1, _, by omega, by omega, rfl, fun j h1 h2 => _, _⟩
      rotate_left
      · by_cases e : j = k
        · rw [e]; exact hz
        · exact hall j h1 (by omega)
      · funext y
        simp only [put_lkO]
        rfl
    · apply hret <;> first | assumption | omega | (right; assumption)
    · apply hret <;> first | assumption | omega
end

section
noncomputable abbrev tup2 (a : Int) (ta : Tok) (b : Int) (tb : Tok) : Obj := { cls := .type "tuple", data := .seq #[Value.int a ta, Value.int b tb] }
theorem div_spec {a b n : Int} {ta tb tn : Tok}
  (H : Here w pp loose mean mg mb A₀ base h₀ outer env L m s.heap news)
  (ha : 0 ≤ a) (ha2 : a < 2 ^ 60) (hb : 0 < b) (hb2 : b < 2 ^ 20) (hn : 0 ≤ n)
  (hd : dp + 1 < recursionLimit) (hu : un + 8 < cLine)
  (hret : ∀ (r : Addr) (t1 t2 : Tok) (h' : Heap) (tk' : Nat), (∀ p ∈ news, p.1 < r) →
     Fr h₀ L h' m → News h₀ L h' ((r, tup2 (a.fdiv b) t1 (a.fmod b) t2) :: news) → Q (.ref r) { s with heap := h', toks := tk' }) :
  wpAny (model PySem.Challenge.pw_xp0023_01 w) (aTop dp un gd env outer) (call (.ref 111) [.int a ta, .int b tb, .int n tn]) Q E s := by
  w_top off
  obtain ⟨B, F, X, N, T, hf, hk⟩ := H
  refine wpAny_call ?_
  have hb64 : Builtin.Int.intBits a ≤ 64 := intBits_le_64 (by omega) (by omega)
  k_dflt ((refine' code_def ?k1x19 ?k2x19 ?k3x19 ?k4x19 ?k5x19 ?kAx19 ?kFx19 ?kKx19 ?k6x19 ?k7x19 ?k8x19 ?k9x19 ?kBx19 ?_ ?c2x19 ?c3x19 ?c4x19 ?c5x19; (case kAx19 => exact rfl); (case kFx19 => first | assumption | exact rfl); (case kKx19 => first | assumption | exact rfl); (case k1x19 => k_asm); (case k2x19 => k_asm); (case k3x19 => k_asm); (case k4x19 => k_asm); (case k5x19 => k_asm); (case k6x19 => k_is); (case k7x19 => k_is); (case k8x19 => ktr_room); (case k9x19 => first | exact BindsTo.of_eq rfl | exact binds_K (by k_in) rfl (by k_is) rfl rfl rfl); (case c5x19 => decide); (case kBx19 => exact locs rfl); (case c2x19 => exact rfl); (case c3x19 => exact rfl); (case c4x19 => exact rfl); k_whole; intro _ _ _ _ _ _ _ _ _; (try dsimp only); (try k_fold)))
  rename_i g' L' h' FG' F' N' B' X' T'
  replace F' := fr_entry ["pad", "half_n", "mask", "b1", "b2", "q1", "r", "q2"] F'
  replace F' : Fr g' L' h' (fun y => lkO y [("n", some (.int n tn)), ("b", some (.int b tb)), ("a", some (.int a ta)), ("pad", none), ("half_n", none), ("mask", none), ("b1", none), ("b2", none), ("q1", none), ("r", none), ("q2", none)]) := F'
  (repeat' ((fail_if_success (with_reducible show wpAny _ _ (exec (Stmt.While _ _ _ _) _) _ _ _)); (fail_if_success (with_reducible show wpAny _ _ (pyIter _) _ _ _)); first | (k_unfold; (try dsimp only)) | walk1 | (dsimp only; walk1) | fail "no step"))
  rename Fr h₀ L _ m => kF
  rename News h₀ L _ _ => kN
  exact hret _ _ _ _ _ (fun p hp => Heap.lt_size (N' p hp).1) kF kN
end

section
theorem cut_len {c k : Nat} {p : Int} {ns : List Int} (h : ns.length = p.toNat) (hp : p.toNat ≤ 8) (hc : c ≤ k) (hk : k ≤ p.toNat) :
    min (min k ns.length - c) (ns.length - c) + min c ns.length ≤ 16777216 ∧ min (min k ns.length - c) (ns.length - c) + min c ns.length + (ns.length - k) ≤ 16777216 ∧ min (min k ns.length - c) (ns.length - c) + min c ns.length + (ns.length - k) = p.toNat := by
  have e : min (min k ns.length - c) (ns.length - c) + min c ns.length = k := by
    rw [h, Nat.min_eq_left hk, Nat.min_eq_left (Nat.sub_le_sub_right hk c), Nat.min_eq_left (Nat.le_trans hc hk)]
    exact Nat.sub_add_cancel hc
  rw [e, h, Nat.add_sub_cancel' hk]
  exact ⟨Nat.le_trans (Nat.le_trans hk hp) (by decide), Nat.le_trans hp (by decide), rfl⟩
theorem order_spec {hour p : Int} {t1 t2 : Tok}
  (H : Here w pp loose mean mg mb A₀ base h₀ outer env L m s.heap news)
  (ha : -(2 ^ 60) ≤ hour) (ha2 : hour < 2 ^ 60) (hp : 4 ≤ p) (hp2 : p ≤ 8)
  (hd : dp + 1 < recursionLimit) (hu : un + 8 < cLine)
  (hret : ∀ (r : Addr) (vs : List Value) (nn : Nat) (h' : Heap) (tk' : Nat), (∀ p ∈ news, p.1 < r) →
     Fr h₀ L h' m → IntsAre vs (ordSpec hour p) → News h₀ L h' ((r, listOf vs.toArray nn) :: news) → Q (.ref r) { s with heap := h', toks := tk' }) :
  wpAny (model PySem.Challenge.pw_xp0023_01 w) (aTop dp un gd env outer) (call (.ref 174) [.int hour t1, .int p t2]) Q E s := by
  w_top off
  obtain ⟨B, F, X, N, T, hf, hk⟩ := H
  refine wpAny_call ?_
  k_dflt ((refine' code_def ?k1x21 ?k2x21 ?k3x21 ?k4x21 ?k5x21 ?kAx21 ?kFx21 ?kKx21 ?k6x21 ?k7x21 ?k8x21 ?k9x21 ?kBx21 ?_ ?c2x21 ?c3x21 ?c4x21 ?c5x21; (case kAx21 => exact rfl); (case kFx21 => first | assumption | exact rfl); (case kKx21 => first | assumption | exact rfl); (case k1x21 => k_asm); (case k2x21 => k_asm); (case k3x21 => k_asm); (case k4x21 => k_asm); (case k5x21 => k_asm); (case k6x21 => k_is); (case k7x21 => k_is); (case k8x21 => ktr_room); (case k9x21 => first | exact BindsTo.of_eq rfl | exact binds_K (by k_in) rfl (by k_is) rfl rfl rfl); (case c5x21 => decide); (case kBx21 => exact locs rfl); (case c2x21 => exact rfl); (case c3x21 => exact rfl); (case c4x21 => exact rfl); k_whole; intro _ _ _ _ _ _ _ _ _; (try dsimp only); (try k_fold)))
  rename_i g' L' h' FG' F' N' B' X' T'
  replace F' := fr_entry ["weight", "k", "order", "moved"] F'
  replace F' : Fr g' L' h' (fun y => lkO y [("plates", some (.int p t2)), ("hour", some (.int hour t1)), ("weight", none), ("k", none), ("order", none), ("moved", none)]) := F'
  (repeat' ((fail_if_success (with_reducible show wpAny _ _ (exec (Stmt.While _ _ _ _) _) _ _ _)); (fail_if_success (with_reducible show wpAny _ _ (pyIter _) _ _ _)); first | (k_unfold; (try dsimp only)) | walk1 | (dsimp only; walk1) | fail "no step"))
  rename IsRange _ _ _ _ _ _ _ _ => hr
  rename Fr g' L' _ _ => HF
  rename News g' L' _ _ => HN
  refine iter_rangeG (n := (p - 2).toNat) (fun i m nx => nx = news ∧ ∃ (t : Tok) (u : Option Value), m = fun y => lkO y [("plates", some (.int p t2)), ("hour", some (.int hour t1)), ("weight", some (.int (fct (i + 1)) t)), ("k", u), ("order", none), ("moved", none)]) rfl hr (small_one (by omega) (by omega) (by omega) (by omega)) (rangeSize_nat _ _) HF HN ⟨rfl, _, _, funext fun y => by simp only [put_lkO]; rfl⟩ ?_ ?_
  · clear hr HF HN
    rintro i t m₁ nx h₁ tk₁ I oI hi ⟨rfl, t', u, rfl⟩ hI F₁ N₁
    have hbd := fct_bd (i + 1) (by omega)
    (repeat' ((fail_if_success (with_reducible show wpAny _ _ (exec (Stmt.While _ _ _ _) _) _ _ _)); (fail_if_success (with_reducible show wpAny _ _ (pyIter _) _ _ _)); first | (k_unfold; (try dsimp only)) | walk1 | (dsimp only; walk1) | fail "no step"))
    rename Fr g' L' _ _ => HF
    rename News g' L' _ _ => HN
    have e : fct (i + 1) * (2 + (i : Int) * 1) = fct (i + 1 + 1) := by
      show _ = (((i + 1 : Nat) : Int) + 1) * fct (i + 1)
      rw [Int.mul_comm]; congr 1; omega
    rw [e] at HF
    refine InvEndG.intro HF HN ⟨rfl, ?t8, ?u8, ?hm8⟩ (ownoff_one hI) (by ((intro q hq; simp only [List.mem_cons, List.not_mem_nil, or_false, List.mem_append] at hq ⊢; first | exact hq | (simp [hq]; done) | (rcases hq with hq | hq <;> simp [hq]; done) | (rcases hq with hq | hq | hq <;> simp [hq]; done) | (rcases hq with hq | hq | hq | hq <;> simp [hq]; done)))) (by ((intro q hq; simp only [List.mem_cons, List.not_mem_nil, or_false, List.mem_append] at hq ⊢; first | exact hq | (simp [hq]; done) | (rcases hq with hq | hq <;> simp [hq]; done) | (rcases hq with hq | hq | hq <;> simp [hq]; done) | (rcases hq with hq | hq | hq | hq <;> simp [hq]; done))))
    case hm8 => ktn_open
  · clear hr HF HN
    rintro m₁ nx h₁ tk₁ ⟨rfl, t', u, rfl⟩ F₁ N₁
    (repeat' ((fail_if_success (with_reducible show wpAny _ _ (exec (Stmt.While _ _ _ _) _) _ _ _)); (fail_if_success (with_reducible show wpAny _ _ (pyIter _) _ _ _)); first | (k_unfold; (try dsimp only)) | walk1 | (dsimp only; walk1) | fail "no step"))
    rename IsRange _ _ _ _ _ _ _ _ => hr
    rename Fr g' L' _ _ => HF
    rename News g' L' _ _ => HN
    rename IntsAre _ _ => hI
    rename ∀ p ∈ nx, p.1 < _ => hD
    refine iter_rangeG (n := (p - 1).toNat) (fun i m nx' => ∃ D vs nn ns, nx' = (D, listOf vs.toArray nn) :: nx ∧ IntsAre vs ns ∧ ns.length = p.toNat ∧ (∀ q ∈ nx, q.1 < D) ∧ ordGo hour (p.toNat - i) ns = ordGo hour p.toNat (rangeKs 0 p.toNat) ∧ ∃ (t : Tok) (u u2 : Option Value), m = fun y => lkO y [("plates", some (.int p t2)), ("hour", some (.int hour t1)), ("weight", some (.int (fct (p.toNat - i - 1)) t)), ("k", u), ("order", some (.ref D)), ("moved", u2)]) rfl hr (small_down (by omega) (by omega) (by omega) (by omega)) (rangeSize_downNat _ _) HF HN ?_ ?_ ?_
    · refine' ⟨_, _, _, _, rfl, hI, by rw [rangeKs_length]; omega, hD, by simp, _, _, _, _⟩
      rotate_left 3
      · funext y
        simp only [put_lkO]
        have e : (p - 2).toNat + 1 = p.toNat - 0 - 1 := by omega
        rw [e]
        rfl
    · clear hr HF HN hI hD
      rintro i t m₁ nx' h₁ tk₁ I oI hi ⟨D, vs, nn, ns, rfl, hI, hlen, hD, hgo, t', u, u2, rfl⟩ hI F₁ N₁
      have hbd := fct_bd (p.toNat - i - 1) (by omega)
      obtain ⟨k, hk⟩ : ∃ k : Int, p + (i : Int) * (-1) = k := ⟨_, rfl⟩
      rw [hk] at F₁
      have hk2 : 2 ≤ k := by omega
      have hk8 : k ≤ 8 := by omega
      have hm0 := Int.fmod_nonneg_of_pos (hour.fdiv (fct (p.toNat - i - 1))) (show 0 < k by omega)
      have hm1 := Int.fmod_lt_of_pos (hour.fdiv (fct (p.toNat - i - 1))) (show 0 < k by omega)
      obtain ⟨hcA, hcB, hcC⟩ := cut_len (c := (k - (hour.fdiv (fct (p.toNat - i - 1))).fmod k).toNat) (k := k.toNat) hlen (by omega) (by omega) (by omega)
      (repeat' ((fail_if_success (with_reducible show wpAny _ _ (exec (Stmt.While _ _ _ _) _) _ _ _)); (fail_if_success (with_reducible show wpAny _ _ (pyIter _) _ _ _)); first | (k_unfold; (try dsimp only)) | walk1 | (dsimp only; walk1) | fail "no step"))
      rename Fr g' L' _ _ => HF
      rename News g' L' _ _ => HN
      rename IntsAre _ _ => hI'
      rename _ ∧ _ => hlt
      have e : (fct (p.toNat - i - 1)).fdiv (k - 1) = fct (p.toNat - (i + 1) - 1) := by
        rw [show p.toNat - i - 1 = (p.toNat - (i + 1) - 1) + 1 by omega, show k - 1 = ((p.toNat - (i + 1) - 1 : Nat) : Int) + 1 by omega]
        exact fct_fdiv _
      rw [e] at HF
      refine InvEndG.intro HF HN ⟨?D9, _, 0, _, rfl, hI', ?hl9, ?hd9, ?hg9, ?t9, ?u9, ?v9, ?hm9⟩ ?ho9 ?hn9 (by ((intro q hq; simp only [List.mem_cons, List.not_mem_nil, or_false, List.mem_append] at hq ⊢; first | exact hq | (simp [hq]; done) | (rcases hq with hq | hq <;> simp [hq]; done) | (rcases hq with hq | hq | hq <;> simp [hq]; done) | (rcases hq with hq | hq | hq | hq <;> simp [hq]; done))))
      case hm9 => ktn_open
      case hd9 => exact fun q hq => Nat.lt_trans (hD q hq) (by omega)
      case ho9 => exact ownoff_cons (Nat.ne_of_gt (by omega)) (ownoff_one fun q hq => hI q (.tail _ hq))
      case hn9 => ((intro q hq; simp only [List.mem_cons, List.not_mem_nil, or_false, List.mem_append] at hq ⊢; first | exact hq | (simp [hq]; done) | (rcases hq with hq | hq <;> simp [hq]; done) | (rcases hq with hq | hq | hq <;> simp [hq]; done) | (rcases hq with hq | hq | hq | hq <;> simp [hq]; done)))
      case hl9 =>
        simp only [List.length_append, List.length_take, List.length_drop]
        exact hcC
      case hg9 =>
        rw [show p.toNat - (i + 1) = p.toNat - i - 1 by omega, ordGo_step hk2 (by omega) (by omega)]
        exact hgo
    · clear hr HF HN hI hD
      rintro m₁ nx' h₁ tk₁ ⟨D, vs, nn, ns, rfl, hI, hlen, hD, hgo, t', u, u2, rfl⟩ F₁ N₁
      (repeat' ((fail_if_success (with_reducible show wpAny _ _ (exec (Stmt.While _ _ _ _) _) _ _ _)); (fail_if_success (with_reducible show wpAny _ _ (pyIter _) _ _ _)); first | (k_unfold; (try dsimp only)) | walk1 | (dsimp only; walk1) | fail "no step"))
      rename Fr h₀ L _ m => kF
      rename News h₀ L _ _ => kN
      rw [down_one hp] at hgo
      exact hret _ _ _ _ _ hD kF (by rw [ordSpec, ← hgo]; exact hI) kN
end

section
theorem i2d_spec {a n : Int} {ta tn : Tok} {st : Option (Addr × Obj)} (C2 : CodeHd base 124 120)
  (H : Here w pp loose mean mg mb A₀ base h₀ outer env L m s.heap (tabA st ++ news)) (hst : OkA st)
  (hne : ∀ q ∈ news, q.1 ≠ 120) (ha : 0 ≤ a) (ha2 : a < 2 ^ 60) (hn : 0 < n) (hn2 : n < 64)
  (hd : dp + 70 < recursionLimit) (hu : un + 600 < cLine)
  (hret : ∀ (r : Addr) (vs : List Value) (nn : Nat) (st' : Option (Addr × Obj)) (K : Nat) (h' : Heap) (tk' : Nat), (∀ p ∈ news, p.1 < r) →
     Fr h₀ L h' m → OkA st' → TGo news (tabA st) (tabA st') → IntsAre vs (dg (2 ^ n.toNat) K a) → K ≤ 64 → a < (2 ^ n.toNat) ^ K → News h₀ L h' ((r, listOf vs.toArray nn) :: (tabA st' ++ news)) → Q (.ref r) { s with heap := h', toks := tk' }) :
  wpAny (model PySem.Challenge.pw_xp0023_01 w) (aTop dp un gd env outer) (call (.ref 125) [.int a ta, .int n tn]) Q E s := by
  w_top off
  have hb64 : Builtin.Int.intBits a ≤ 64 := intBits_le_64 (by omega) (by omega)
  obtain ⟨hD0, hD1, hD2⟩ := kdig ha hb64 hn
  obtain ⟨B, F, X, N, T, hf, hk⟩ := H
  refine wpAny_call ?_
  cases st with
  | none =>
    simp only [tabA, List.cons_append, List.nil_append] at N
    k_dflt ((refine' code_defC ?k1x31 ?k2x31 ?k3x31 ?k4x31 ?k5x31 ?kAx31 ?kFx31 ?kKx31 ?k6x31 ?k7x31 ?k8x31 ?k9x31 ?kBx31 ?kDx31 ?_ ?c2x31 ?c3x31 ?c4x31; (case kAx31 => exact rfl); (case kFx31 => first | assumption | exact rfl); (case kKx31 => first | assumption | exact rfl); (case k1x31 => k_asm); (case k2x31 => k_asm); (case k3x31 => k_asm); (case k4x31 => k_asm); (case k5x31 => k_asm); (case k6x31 => k_is); (case k7x31 => k_is); (case k8x31 => ktr_room); (case k9x31 => exact BindsTo.of_eq rfl); (case kBx31 => exact rfl); (case kDx31 => decide +kernel); (case c2x31 => exact rfl); (case c3x31 => exact rfl); (case c4x31 => exact rfl); k_whole; intro _ _ _ _ _ _ _ N' Y' _ _ _ l1; (try k_lt l1); (try (revert l1; intro _)); k_cells Y'; (try simp only [List.cons_append, List.nil_append] at N'); (try (revert N'; intro _)); (try dsimp only); (try k_fold)))
    (repeat' ((fail_if_success (with_reducible show wpAny _ _ (exec (Stmt.While _ _ _ _) _) _ _ _)); (fail_if_success (with_reducible show wpAny _ _ (pyIter _) _ _ _)); first | (k_unfold; (try dsimp only)) | walk1 | (dsimp only; walk1) | fail "no step"))
    · rename_i g1 L1 hh5 tk1 FG1 B1 X1 T1 l13 oi oa on d1 d2 d3 lp hh4 l12 D1 ws1 hh3 ns1 hI1 he1 hl1 l11 hh2 oa' da f1 c1 oc1 vst1 t1 ct1 dc1 hh1 tkk d1' d2' l1c l2c hh0 oi' F1 N1 di' ane
      rw [Array.empty_append] at N1
      refine innA_spec 64 (f := f1) (c' := c1) (cn := L1 + 1) (ca := L1 + 1 + 1) (ci := L1 + 1 + 1 + 1) (D := D1) (oc := oc1) (o1 := on) (o2 := oa') (o3 := oi') (vs := ws1) (ns := ns1) (nn := 0) (n := n) (doc := dc1) (pm := (mg "__name__").getD Value.none) (ct := ct1) (news := (lp, listOf #[Value.int 0 tk1] 0) :: (120, tabObj #[rawInt 71, rawInt 4, .ref c1]) :: news) ⟨B1, F1, X1, news_sub N1 (by kcf_all), T1, rfl, rfl⟩ C2 d1' d2' d3 da di' ?_ hI1 ?_ hn hn2 (by omega) ?_ ?_ ?_ ha ha2 ?_ ?_ ?_ ?_
      · k_all
      · omega
      · rcases Int.lt_or_le 0 (ns1.length : Int) with h | h
        · exact h
        · rw [show ((Builtin.Int.intBits a : Int) + n - 1).fdiv n = 0 by omega, Int.toNat_zero, Int.pow_zero] at hD2
          omega
      · exact Int.le_refl _
      · omega
      · rw [show ((ns1.length : Int) - 0).toNat = (((Builtin.Int.intBits a : Int) + n - 1).fdiv n).toNat by omega]
        exact hD2
      · show dp + 1 + 64 + 1 < _; omega
      · show un + 3 + 8 * 64 + 8 < _; omega
      rintro vs' h' tk' F2 N2 hi2
      clear F1 N1
      (repeat' ((fail_if_success (with_reducible show wpAny _ _ (exec (Stmt.While _ _ _ _) _) _ _ _)); (fail_if_success (with_reducible show wpAny _ _ (pyIter _) _ _ _)); first | (k_unfold; (try dsimp only)) | walk1 | (dsimp only; walk1) | fail "no step"))
      rename Fr h₀ L _ m => kF
      rename News h₀ L _ _ => kN
      rw [show List.take (Int.toNat 0) ns1 = [] from rfl, List.nil_append, List.drop_eq_nil_of_le (by omega), List.append_nil] at hi2
      refine hret _ _ 0 (some (c1, oc1)) (ns1.length : Int).toNat _ _ (of_allLt (by exact l11.2.2.2.2.2)) kF ⟨vst1, t1, d1', d2'⟩ ?_ (by rw [Int.sub_zero] at hi2; exact hi2) (by omega) ?_ (news_sub kN ?_)
      · intro q hq
        rcases List.mem_cons.mp hq with rfl | hq
        · exact .inl ⟨_, .head _, rfl⟩
        · rcases List.mem_cons.mp hq with rfl | hq
          · exact .inr (of_allLt l1c.2.2.2.2.2.2)
          · cases hq
      · rw [show ((ns1.length : Int)).toNat = (((Builtin.Int.intBits a : Int) + n - 1).fdiv n).toNat by omega]
        exact hD2
      · simp only [tabA, List.cons_append, List.nil_append]
        kcf_all
    · rename_i g1 L1 hh5 tk1 FG1 B1 X1 T1 l13 oi oa on d1 d2 d3 lp hh4 l12 D1 ws1 hh3 ns1 hI1 he1 hl1 l11 hh2 oa' da f1 c1 oc1 vst1 t1 ct1 dc1 hh1 tkk d1' d2' l1c l2c hh0 oi' F1 N1 di' ane kF kN kX kT
      rw [Array.empty_append] at kN
      refine hret _ ws1 0 (some (c1, oc1)) (ns1.length : Int).toNat _ _ (of_allLt (by exact l11.2.2.2.2.2)) kF ⟨vst1, t1, d1', d2'⟩ ?_ ?_ (by omega) ?_ (news_sub kN ?_)
      · intro q hq
        rcases List.mem_cons.mp hq with rfl | hq
        · exact .inl ⟨_, .head _, rfl⟩
        · rcases List.mem_cons.mp hq with rfl | hq
          · exact .inr (of_allLt l1c.2.2.2.2.2.2)
          · cases hq
      · subst ane
        rw [dg_zero, Int.toNat_natCast]
        rw [show ns1.length = (((Builtin.Int.intBits 0 : Int) + n - 1).fdiv n).toNat by omega, ← he1]
        exact hI1
      · rw [show ((ns1.length : Int)).toNat = (((Builtin.Int.intBits a : Int) + n - 1).fdiv n).toNat by omega]
        exact hD2
      · simp only [tabA, List.cons_append, List.nil_append]
        kcf_all
  | some p =>
    obtain ⟨c1, oc1⟩ := p
    obtain ⟨vst1, t1, d1', d2'⟩ := hst
    simp only [tabA, List.cons_append, List.nil_append] at N
    k_dflt ((refine' code_defC ?k1x34 ?k2x34 ?k3x34 ?k4x34 ?k5x34 ?kAx34 ?kFx34 ?kKx34 ?k6x34 ?k7x34 ?k8x34 ?k9x34 ?kBx34 ?kDx34 ?_ ?c2x34 ?c3x34 ?c4x34; (case kAx34 => exact rfl); (case kFx34 => first | assumption | exact rfl); (case kKx34 => first | assumption | exact rfl); (case k1x34 => k_asm); (case k2x34 => k_asm); (case k3x34 => k_asm); (case k4x34 => k_asm); (case k5x34 => k_asm); (case k6x34 => k_is); (case k7x34 => k_is); (case k8x34 => ktr_room); (case k9x34 => exact BindsTo.of_eq rfl); (case kBx34 => exact rfl); (case kDx34 => decide +kernel); (case c2x34 => exact rfl); (case c3x34 => exact rfl); (case c4x34 => exact rfl); k_whole; intro _ _ _ _ _ _ _ N' Y' _ _ _ l1; (try k_lt l1); (try (revert l1; intro _)); k_cells Y'; (try simp only [List.cons_append, List.nil_append] at N'); (try (revert N'; intro _)); (try dsimp only); (try k_fold)))
    (repeat' ((fail_if_success (with_reducible show wpAny _ _ (exec (Stmt.While _ _ _ _) _) _ _ _)); (fail_if_success (with_reducible show wpAny _ _ (pyIter _) _ _ _)); first | (k_unfold; (try dsimp only)) | walk1 | (dsimp only; walk1) | fail "no step"))
    · rename_i g1 L1 hh5 tk1 FG1 B1 X1 T1 l13 oi oa on d1 d2 d3 lp hh4 l12 D1 ws1 hh3 ns1 hI1 he1 hl1 l11 hh2 oa' da f1 ct1 dc1 hh1 tkk l1c hh0 oi' F1 N1 di' ane
      refine innA_spec 64 (f := f1) (c' := c1) (cn := L1 + 1) (ca := L1 + 1 + 1) (ci := L1 + 1 + 1 + 1) (D := D1) (oc := oc1) (o1 := on) (o2 := oa') (o3 := oi') (vs := ws1) (ns := ns1) (nn := 0) (n := n) (doc := dc1) (pm := (mg "__name__").getD Value.none) (ct := ct1) (q := "_int2digits.<locals>.inner") (news := (lp, listOf #[Value.int 0 tk1] 0) :: (120, tabObj #[rawInt 71, rawInt 4, .ref c1]) :: news) ⟨B1, F1, X1, news_sub N1 (by kcf_all), T1, rfl, rfl⟩ C2 d1' d2' d3 da di' ?_ hI1 ?_ hn hn2 (by omega) ?_ ?_ ?_ ha ha2 ?_ ?_ ?_ ?_
      · k_all
      · omega
      · rcases Int.lt_or_le 0 (ns1.length : Int) with h | h
        · exact h
        · rw [show ((Builtin.Int.intBits a : Int) + n - 1).fdiv n = 0 by omega, Int.toNat_zero, Int.pow_zero] at hD2
          omega
      · exact Int.le_refl _
      · omega
      · rw [show ((ns1.length : Int) - 0).toNat = (((Builtin.Int.intBits a : Int) + n - 1).fdiv n).toNat by omega]
        exact hD2
      · show dp + 1 + 64 + 1 < _; omega
      · show un + 3 + 8 * 64 + 8 < _; omega
      rintro vs' h' tk' F2 N2 hi2
      clear F1 N1
      (repeat' ((fail_if_success (with_reducible show wpAny _ _ (exec (Stmt.While _ _ _ _) _) _ _ _)); (fail_if_success (with_reducible show wpAny _ _ (pyIter _) _ _ _)); first | (k_unfold; (try dsimp only)) | walk1 | (dsimp only; walk1) | fail "no step"))
      rename Fr h₀ L _ m => kF
      rename News h₀ L _ _ => kN
      rw [show List.take (Int.toNat 0) ns1 = [] from rfl, List.nil_append, List.drop_eq_nil_of_le (by omega), List.append_nil] at hi2
      refine hret _ _ 0 (some (c1, oc1)) (ns1.length : Int).toNat _ _ (of_allLt (by exact l11.2.2.2.2.2.2)) kF ⟨vst1, t1, d1', d2'⟩ .refl (by rw [Int.sub_zero] at hi2; exact hi2) (by omega) ?_ (news_sub kN ?_)
      · rw [show ((ns1.length : Int)).toNat = (((Builtin.Int.intBits a : Int) + n - 1).fdiv n).toNat by omega]
        exact hD2
      · simp only [tabA, List.cons_append, List.nil_append]
        kcf_all
    · rename_i g1 L1 hh5 tk1 FG1 B1 X1 T1 l13 oi oa on d1 d2 d3 lp hh4 l12 D1 ws1 hh3 ns1 hI1 he1 hl1 l11 hh2 oa' da f1 ct1 dc1 hh1 tkk l1c hh0 oi' F1 N1 di' ane kF kN kX kT
      refine hret _ ws1 0 (some (c1, oc1)) (ns1.length : Int).toNat _ _ (of_allLt (by exact l11.2.2.2.2.2.2)) kF ⟨vst1, t1, d1', d2'⟩ .refl ?_ (by omega) ?_ (news_sub kN ?_)
      · subst ane
        rw [dg_zero, Int.toNat_natCast]
        rw [show ns1.length = (((Builtin.Int.intBits 0 : Int) + n - 1).fdiv n).toNat by omega, ← he1]
        exact hI1
      · rw [show ((ns1.length : Int)).toNat = (((Builtin.Int.intBits a : Int) + n - 1).fdiv n).toNat by omega]
        exact hD2
      · simp only [tabA, List.cons_append, List.nil_append]
        kcf_all
end

section
theorem d2i_spec {D : Addr} {n : Int} {tn : Tok} {vs : List Value} {ns : List Int} {nn : Nat} {st : Option (Addr × Obj)} (C1 : CodeHd base 131 127)
  (H : Here w pp loose mean mg mb A₀ base h₀ outer env L m s.heap (tabB st ++ (D, listOf vs.toArray nn) :: news)) (hst : OkB st)
  (hne : ∀ q ∈ (D, listOf vs.toArray nn) :: news, q.1 ≠ 127) (hi : IntsAre vs ns) (hlen : ns.length ≤ 64) (hn : 0 < n) (hn2 : n < 64) (hnn : ∀ d ∈ ns, 0 ≤ d) (hx1 : vl (2 ^ n.toNat) ns < 2 ^ 60)
  (hd : dp + 70 < recursionLimit) (hu : un + 600 < cLine)
  (hret : ∀ (t : Tok) (st' : Option (Addr × Obj)) (h' : Heap) (tk' : Nat), Fr h₀ L h' m → OkB st' → TGo ((D, listOf vs.toArray nn) :: news) (tabB st) (tabB st') → News h₀ L h' (tabB st' ++ (D, listOf vs.toArray nn) :: news) → Q (.int (vl (2 ^ n.toNat) ns) t) { s with heap := h', toks := tk' }) :
  wpAny (model PySem.Challenge.pw_xp0023_01 w) (aTop dp un gd env outer) (call (.ref 132) [.ref D, .int n tn]) Q E s := by
  w_top off
  obtain ⟨B, F, X, N, T, hf, hk⟩ := H
  have hne' := List.forall_mem_cons.mp hne
  have hDne := hne'.1
  have hnne := hne'.2
  have hsv : sv (2 ^ n.toNat) ns (Int.toNat 0) ((ns.length : Int)).toNat = vl (2 ^ n.toNat) ns := by
    unfold sv
    rw [Int.toNat_natCast, List.take_length]; rfl
  refine wpAny_call ?_
  cases st with
  | none =>
    simp only [tabB, List.cons_append, List.nil_append] at N
    k_dflt ((refine' code_defC ?k1x37 ?k2x37 ?k3x37 ?k4x37 ?k5x37 ?kAx37 ?kFx37 ?kKx37 ?k6x37 ?k7x37 ?k8x37 ?k9x37 ?kBx37 ?kDx37 ?_ ?c2x37 ?c3x37 ?c4x37; (case kAx37 => exact rfl); (case kFx37 => first | assumption | exact rfl); (case kKx37 => first | assumption | exact rfl); (case k1x37 => k_asm); (case k2x37 => k_asm); (case k3x37 => k_asm); (case k4x37 => k_asm); (case k5x37 => k_asm); (case k6x37 => k_is); (case k7x37 => k_is); (case k8x37 => ktr_room); (case k9x37 => exact BindsTo.of_eq rfl); (case kBx37 => exact rfl); (case kDx37 => decide +kernel); (case c2x37 => exact rfl); (case c3x37 => exact rfl); (case c4x37 => exact rfl); k_whole; intro _ _ _ _ _ _ _ N' Y' _ _ _ l1; (try k_lt l1); (try (revert l1; intro _)); k_cells Y'; (try simp only [List.cons_append, List.nil_append] at N'); (try (revert N'; intro _)); (try dsimp only); (try k_fold)))
    (repeat' ((fail_if_success (with_reducible show wpAny _ _ (exec (Stmt.While _ _ _ _) _) _ _ _)); (fail_if_success (with_reducible show wpAny _ _ (pyIter _) _ _ _)); first | (k_unfold; (try dsimp only)) | walk1 | (dsimp only; walk1) | fail "no step"))
    · rename_i g1 L1 hh2 tk1 FG1 B1 X1 T1 l11 oi on od d1 d2 d3 f1 c1 oc1 vst1 t1 ct1 dc1 hh1 tkk d1' d2' l1c l2c hh0 oi' F1 N1 di' ane
      rw [Array.empty_append] at N1
      refine innB_spec 64 (f := f1) (c' := c1) (cn := L1 + 1 + 1) (cd := L1 + 1) (ci := L1 + 1 + 1 + 1) (D := D) (oc := oc1) (o1 := on) (o2 := od) (o3 := oi') (vs := vs) (ns := ns) (nn := nn) (n := n) (doc := dc1) (pm := (mg "__name__").getD Value.none) (ct := ct1) (q := "_digits2int.<locals>.inner") (news := (127, tabObj #[rawInt 86, rawInt 4, .ref c1]) :: news) ⟨B1, F1, X1, news_sub N1 (by kcf_all), T1, rfl, rfl⟩ C1 d1' d2' d2 d3 di' hi ?_ hnn hn hn2 (by omega) ?_ ?_ ?_ ?_ ?_ ?_ ?_
      · omega
      · omega
      · exact Int.le_refl _
      · omega
      · rw [hsv]; exact hx1
      · show dp + 1 + 64 + 1 < _; omega
      · show un + 3 + 8 * 64 + 8 < _; omega
      rw [hsv]
      rintro tv h' tk' F2 N2
      clear F1 N1
      (repeat' ((fail_if_success (with_reducible show wpAny _ _ (exec (Stmt.While _ _ _ _) _) _ _ _)); (fail_if_success (with_reducible show wpAny _ _ (pyIter _) _ _ _)); first | (k_unfold; (try dsimp only)) | walk1 | (dsimp only; walk1) | fail "no step"))
      rename Fr h₀ L _ m => kF
      rename News h₀ L _ _ => kN
      refine hret _ (some (c1, oc1)) _ _ kF ⟨vst1, t1, d1', d2'⟩ ?_ (news_sub kN ?_)
      · intro q hq
        rcases List.mem_cons.mp hq with rfl | hq
        · exact .inl ⟨_, .head _, rfl⟩
        · rcases List.mem_cons.mp hq with rfl | hq
          · exact .inr (List.forall_mem_cons.mpr ⟨l1c.2.2.2.2.1, of_allLt l1c.2.2.2.2.2⟩)
          · cases hq
      · simp only [tabB, List.cons_append, List.nil_append]
        kcf_all
    · rename_i g1 L1 hh2 tk1 FG1 B1 X1 T1 l11 oi on od d1 d2 d3 f1 c1 oc1 vst1 t1 ct1 dc1 hh1 tkk d1' d2' l1c l2c hh0 oi' F1 N1 di' ane kF kN kX kT
      rw [Array.empty_append] at kN
      have hnil : ns = [] := List.eq_nil_of_length_eq_zero (by omega)
      subst hnil
      refine hret _ (some (c1, oc1)) _ _ kF ⟨vst1, t1, d1', d2'⟩ ?_ (news_sub kN ?_)
      · intro q hq
        rcases List.mem_cons.mp hq with rfl | hq
        · exact .inl ⟨_, .head _, rfl⟩
        · rcases List.mem_cons.mp hq with rfl | hq
          · exact .inr (List.forall_mem_cons.mpr ⟨l1c.2.2.2.2.1, of_allLt l1c.2.2.2.2.2⟩)
          · cases hq
      · simp only [tabB, List.cons_append, List.nil_append]
        kcf_all
  | some p =>
    obtain ⟨c1, oc1⟩ := p
    obtain ⟨vst1, t1, d1', d2'⟩ := hst
    simp only [tabB, List.cons_append, List.nil_append] at N
    k_dflt ((refine' code_defC ?k1x40 ?k2x40 ?k3x40 ?k4x40 ?k5x40 ?kAx40 ?kFx40 ?kKx40 ?k6x40 ?k7x40 ?k8x40 ?k9x40 ?kBx40 ?kDx40 ?_ ?c2x40 ?c3x40 ?c4x40; (case kAx40 => exact rfl); (case kFx40 => first | assumption | exact rfl); (case kKx40 => first | assumption | exact rfl); (case k1x40 => k_asm); (case k2x40 => k_asm); (case k3x40 => k_asm); (case k4x40 => k_asm); (case k5x40 => k_asm); (case k6x40 => k_is); (case k7x40 => k_is); (case k8x40 => ktr_room); (case k9x40 => exact BindsTo.of_eq rfl); (case kBx40 => exact rfl); (case kDx40 => decide +kernel); (case c2x40 => exact rfl); (case c3x40 => exact rfl); (case c4x40 => exact rfl); k_whole; intro _ _ _ _ _ _ _ N' Y' _ _ _ l1; (try k_lt l1); (try (revert l1; intro _)); k_cells Y'; (try simp only [List.cons_append, List.nil_append] at N'); (try (revert N'; intro _)); (try dsimp only); (try k_fold)))
    (repeat' ((fail_if_success (with_reducible show wpAny _ _ (exec (Stmt.While _ _ _ _) _) _ _ _)); (fail_if_success (with_reducible show wpAny _ _ (pyIter _) _ _ _)); first | (k_unfold; (try dsimp only)) | walk1 | (dsimp only; walk1) | fail "no step"))
    · rename_i g1 L1 hh2 tk1 FG1 B1 X1 T1 l11 oi on od d1 d2 d3 f1 ct1 dc1 hh1 tkk l1c hh0 oi' F1 N1 di' ane
      refine innB_spec 64 (f := f1) (c' := c1) (cn := L1 + 1 + 1) (cd := L1 + 1) (ci := L1 + 1 + 1 + 1) (D := D) (oc := oc1) (o1 := on) (o2 := od) (o3 := oi') (vs := vs) (ns := ns) (nn := nn) (n := n) (doc := dc1) (pm := (mg "__name__").getD Value.none) (ct := ct1) (q := "_digits2int.<locals>.inner") (news := (127, tabObj #[rawInt 86, rawInt 4, .ref c1]) :: news) ⟨B1, F1, X1, news_sub N1 (by kcf_all), T1, rfl, rfl⟩ C1 d1' d2' d2 d3 di' hi ?_ hnn hn hn2 (by omega) ?_ ?_ ?_ ?_ ?_ ?_ ?_
      · omega
      · omega
      · exact Int.le_refl _
      · omega
      · rw [hsv]; exact hx1
      · show dp + 1 + 64 + 1 < _; omega
      · show un + 3 + 8 * 64 + 8 < _; omega
      rw [hsv]
      rintro tv h' tk' F2 N2
      clear F1 N1
      (repeat' ((fail_if_success (with_reducible show wpAny _ _ (exec (Stmt.While _ _ _ _) _) _ _ _)); (fail_if_success (with_reducible show wpAny _ _ (pyIter _) _ _ _)); first | (k_unfold; (try dsimp only)) | walk1 | (dsimp only; walk1) | fail "no step"))
      rename Fr h₀ L _ m => kF
      rename News h₀ L _ _ => kN
      refine hret _ (some (c1, oc1)) _ _ kF ⟨vst1, t1, d1', d2'⟩ .refl (news_sub kN ?_)
      · simp only [tabB, List.cons_append, List.nil_append]
        kcf_all
    · rename_i g1 L1 hh2 tk1 FG1 B1 X1 T1 l11 oi on od d1 d2 d3 f1 ct1 dc1 hh1 tkk l1c hh0 oi' F1 N1 di' ane kF kN kX kT
      have hnil : ns = [] := List.eq_nil_of_length_eq_zero (by omega)
      subst hnil
      refine hret _ (some (c1, oc1)) _ _ kF ⟨vst1, t1, d1', d2'⟩ .refl (news_sub kN ?_)
      · simp only [tabB, List.cons_append, List.nil_append]
        kcf_all
end

section
theorem dmp_spec {a b : Int} {ta tb : Tok} {st1 st2 : Option (Addr × Obj)} (C2 : CodeHd base 124 120) (C1 : CodeHd base 131 127)
  (H : Here w pp loose mean mg mb A₀ base h₀ outer env L m s.heap (tabA st1 ++ (tabB st2 ++ news))) (hst1 : OkA st1) (hst2 : OkB st2)
  (hne1 : ∀ q ∈ tabB st2 ++ news, q.1 ≠ 120) (hne2 : ∀ q ∈ tabA st1 ++ news, q.1 ≠ 127)
  (ha : 0 ≤ a) (ha2 : a < 2 ^ 60) (hb : 0 < b) (hb2 : b < 2 ^ 20)
  (hd : dp + 80 < recursionLimit) (hu : un + 700 < cLine)
  (hret : ∀ (r : Addr) (t1 t2 : Tok) (st1' st2' : Option (Addr × Obj)) (h' : Heap) (tk' : Nat), (∀ p ∈ news, p.1 < r) → OkA st1' → OkB st2' → TGo news (tabA st1) (tabA st1') → TGo news (tabB st2) (tabB st2') →
     Fr h₀ L h' m → News h₀ L h' ((r, tup2 (a.fdiv b) t1 (a.fmod b) t2) :: (tabA st1' ++ (tabB st2' ++ news))) → Q (.ref r) { s with heap := h', toks := tk' }) :
  wpAny (model PySem.Challenge.pw_xp0023_01 w) (aTop dp un gd env outer) (call (.ref 139) [.int a ta, .int b tb]) Q E s := by
  w_top off
  obtain ⟨B, F, X, N, T, hf, hk⟩ := H
  refine wpAny_call ?_
  obtain ⟨hb0, hb20, hB20, hbB⟩ := bits_bd hb hb2
  k_dflt ((refine' code_def ?k1x43 ?k2x43 ?k3x43 ?k4x43 ?k5x43 ?kAx43 ?kFx43 ?kKx43 ?k6x43 ?k7x43 ?k8x43 ?k9x43 ?kBx43 ?_ ?c2x43 ?c3x43 ?c4x43 ?c5x43; (case kAx43 => exact rfl); (case kFx43 => first | assumption | exact rfl); (case kKx43 => first | assumption | exact rfl); (case k1x43 => k_asm); (case k2x43 => k_asm); (case k3x43 => k_asm); (case k4x43 => k_asm); (case k5x43 => k_asm); (case k6x43 => k_is); (case k7x43 => k_is); (case k8x43 => ktr_room); (case k9x43 => first | exact BindsTo.of_eq rfl | exact binds_K (by k_in) rfl (by k_is) rfl rfl rfl); (case c5x43 => decide); (case kBx43 => exact locs rfl); (case c2x43 => exact rfl); (case c3x43 => exact rfl); (case c4x43 => exact rfl); k_whole; intro _ _ _ _ _ _ _ _ _; (try dsimp only); (try k_fold)))
  rename_i g' L' h' FG' F' N' B' X' T'
  replace F' := fr_entry ["n", "a_digits", "r", "q_digits", "a_digit", "q_digit", "q"] F'
  replace F' : Fr g' L' h' (fun y => lkO y [("b", some (.int b tb)), ("a", some (.int a ta)), ("n", none), ("a_digits", none), ("r", none), ("q_digits", none), ("a_digit", none), ("q_digit", none), ("q", none)]) := F'
  (repeat' ((fail_if_success (with_reducible show wpAny _ _ (exec (Stmt.While _ _ _ _) _) _ _ _)); (fail_if_success (with_reducible show wpAny _ _ (pyIter _) _ _ _)); first | (k_unfold; (try dsimp only)) | walk1 | (dsimp only; walk1) | fail "no step"))
  rename Fr g' L' _ _ => HF
  rename News g' L' _ _ => HN
  refine i2d_spec C2 ⟨B', HF, X', HN, T', rfl, rfl⟩ hst1 hne1 ha ha2 (by omega) (by omega) (by show dp + 1 + 70 < _; omega) (by show un + 3 + 600 < _; omega) ?_
  rintro D vs nn st1' K h1 tk1 hD F1 ok1 go1 hi hK hlt N1
  clear HF HN
  (repeat' ((fail_if_success (with_reducible show wpAny _ _ (exec (Stmt.While _ _ _ _) _) _ _ _)); (fail_if_success (with_reducible show wpAny _ _ (pyIter _) _ _ _)); first | (k_unfold; (try dsimp only)) | walk1 | (dsimp only; walk1) | fail "no step"))
  rename Fr g' L' _ _ => HF
  rename News g' L' _ _ => HN
  rename_i lq hx2 l11 hx1 Rv hx0 l12
  have hB0 : (0 : Int) < 2 ^ Builtin.Int.intBits b := Int.pow_pos (by decide)
  have hBe : ((Builtin.Int.intBits b : Int)).toNat = Builtin.Int.intBits b := Int.toNat_natCast _
  rw [hBe] at hi hlt
  have hvl : vs.length = K := by rw [hi.length, dg_length]
  refine iter_revG (nx₀ := (lq, listOf #[] 0) :: (D, listOf vs.toArray nn) :: (tabA st1' ++ (tabB st2 ++ news))) (fun i m nx => ∃ (vq : List Value) (nq : Nat) (qs : List Int) (r : Int), nx = (lq, listOf vq.toArray nq) :: (D, listOf vs.toArray nn) :: (tabA st1' ++ (tabB st2 ++ news)) ∧ IntsAre vq qs ∧ qs.length = i ∧ (∀ d ∈ qs, 0 ≤ d) ∧ vl (2 ^ Builtin.Int.intBits b) qs.reverse = a / (2 ^ Builtin.Int.intBits b) ^ (K - i) / b ∧ r = a / (2 ^ Builtin.Int.intBits b) ^ (K - i) % b ∧ ∃ (t1 t2 : Tok) (u1 u2 : Option Value),
    m = fun y => lkO y [("b", some (.int b tb)), ("a", some (.int a ta)), ("n", some (.int (Builtin.Int.intBits b) t1)), ("a_digits", some (.ref D)), ("r", some (.int r t2)), ("q_digits", some (.ref lq)), ("a_digit", u1), ("q_digit", u2), ("q", none)]) rfl (.head _) (.tail _ (.head _)) (by kcf_all) ?_ HF HN ?_ ?_ ?_ ?_
  · k_all
  · refine' ⟨[], 0, [], 0, rfl, .nil, rfl, (fun d hd => nomatch hd), _, _, _, _, none, none, _⟩
    rotate_left 4
    · ktn_open
    · rw [Nat.sub_zero, Int.ediv_eq_zero_of_lt ha hlt]
      simp [vl]
    · rw [Nat.sub_zero, Int.ediv_eq_zero_of_lt ha hlt]
      simp
  · rintro i m1 nx ⟨vq, nq, qs, r, rfl, _⟩
    kcf_m
  · clear HF HN
    rintro i v m₁ nx h₁ tk₁ oI hi1 hv ⟨vq, nq, qs, r, rfl, hq, hql, hq0, hqv, hr, t1, t2, u1, u2, rfl⟩ hI F₁ N₁
    obtain ⟨n0, t0, rfl, hn0⟩ := IntsAre.at hi _ _ hv
    rw [hvl] at hn0 hi1
    rw [dg_get hB0 ha (by omega)] at hn0
    obtain rfl := Option.some.inj hn0
    have hr0 : 0 ≤ r := hr ▸ Int.emod_nonneg _ (by omega)
    have hr1 : r < b := hr ▸ Int.emod_lt_of_pos _ hb
    have hd0 := Int.emod_nonneg (a / (2 ^ Builtin.Int.intBits b) ^ (K - 1 - i)) (Int.ne_of_gt hB0)
    have hd1 := Int.emod_lt_of_pos (a / (2 ^ Builtin.Int.intBits b) ^ (K - 1 - i)) hB0
    obtain ⟨hbd0, hbd1, hbd2⟩ := ld_bd hr0 hr1 hb2 hB0 hB20 hd0 hd1
    obtain ⟨hs1, hs2⟩ := ld_step hB0 hb ha hi1 hqv hr
    have hrb : Builtin.Int.intBits r ≤ 64 := intBits_le_64 (by omega) (by omega)
    (repeat' ((fail_if_success (with_reducible show wpAny _ _ (exec (Stmt.While _ _ _ _) _) _ _ _)); (fail_if_success (with_reducible show wpAny _ _ (pyIter _) _ _ _)); first | (k_unfold; (try dsimp only)) | walk1 | (dsimp only; walk1) | fail "no step"))
    rename Fr g' L' _ _ => HF
    rename News g' L' _ _ => HN
    rw [hBe]
    refine div_spec ⟨B', HF, X', HN, T', rfl, rfl⟩ hbd1 hbd2 hb hb2 (by omega) (by show dp + 1 + 1 < _; omega) (by show un + 3 + 8 < _; omega) ?_
    rw [Int.fdiv_eq_ediv_of_nonneg _ (Int.le_of_lt hb), Int.fmod_eq_emod_of_nonneg _ (Int.le_of_lt hb)]
    rintro Tp t4 t5 h2 tk2 hTp F2 N2
    clear HF HN
    k_lt hTp
    (repeat' ((fail_if_success (with_reducible show wpAny _ _ (exec (Stmt.While _ _ _ _) _) _ _ _)); (fail_if_success (with_reducible show wpAny _ _ (pyIter _) _ _ _)); first | (k_unfold; (try dsimp only)) | walk1 | (dsimp only; walk1) | fail "no step"))
    rename Fr g' L' _ _ => HF
    rename News g' L' _ _ => HN
    rename IntsAre _ (qs ++ _) => hq'
    refine InvEndG.intro HF HN ⟨_, nq + 1, _, ?r8, rfl, hq', ?l9, ?p9, ?v9, ?r9, ?t8, ?t9, ?u8, ?u9, ?m9⟩ ?o9 ?n9 ?b9
    case m9 => ktn_open
    case l9 => rw [List.length_append, hql]; rfl
    case p9 =>
      intro d hd
      rcases List.mem_append.mp hd with hd | hd
      · exact hq0 d hd
      · rw [List.mem_singleton.mp hd]; exact Int.ediv_nonneg hbd1 (Int.le_of_lt hb)
    case v9 => rw [vl_snoc]; exact hs1
    case r9 => exact hs2
    case o9 => 
      refine ownoff_cons (Nat.ne_of_lt l12.1) (ownoff_one fun q hq => hI q (.tail _ hq))
    case n9 => kcf_all
    case b9 => kcf_all
  · clear HF HN
    rintro m₁ nx h₁ tk₁ ⟨vq, nq, qs, r, rfl, hq, hql, hq0, hqv, hr, t1, t2, u1, u2, rfl⟩ F₁ N₁
    (repeat' ((fail_if_success (with_reducible show wpAny _ _ (exec (Stmt.While _ _ _ _) _) _ _ _)); (fail_if_success (with_reducible show wpAny _ _ (pyIter _) _ _ _)); first | (k_unfold; (try dsimp only)) | walk1 | (dsimp only; walk1) | fail "no step"))
    rename Fr g' L' _ _ => HF
    rename News g' L' _ _ => HN
    refine kl_reverse (its := vq.toArray) (n := nq) (l := vq.reverse) (news' := (lq, listOf vq.reverse.toArray nq) :: (D, listOf vs.toArray nn) :: (tabA st1' ++ (tabB st2 ++ news))) HF HN (by simp) (Upd.head (List.forall_mem_cons.mpr ⟨Nat.ne_of_lt l11.1, fun p hp => Nat.ne_of_lt (of_allLt l11.2 p hp)⟩)) (by rw [List.toList_toArray, hq.length]; exact Nat.le_trans (Nat.le_of_eq hql) (Nat.le_trans (hvl ▸ hK) (by decide))) ?_
    rintro h2 F2 N2
    clear HF HN
    (repeat' ((fail_if_success (with_reducible show wpAny _ _ (exec (Stmt.While _ _ _ _) _) _ _ _)); (fail_if_success (with_reducible show wpAny _ _ (pyIter _) _ _ _)); first | (k_unfold; (try dsimp only)) | walk1 | (dsimp only; walk1) | fail "no step"))
    rename Fr g' L' _ _ => HF
    rename News g' L' _ _ => HN
    have hqr : IntsAre vq.reverse qs.reverse := intsAre_rev hq
    have hqr0 : vl (2 ^ Builtin.Int.intBits b) qs.reverse = a / b := by rw [hqv, hvl, Nat.sub_self, Int.pow_zero, Int.ediv_one]
    refine d2i_spec (nn := nq) (news := (D, listOf vs.toArray nn) :: (tabA st1' ++ news)) C1 ⟨B', HF, X', news_sub HN (by kcf_all), T', rfl, rfl⟩ hst2 ?_ hqr ?_ (by omega) (by omega) (fun d hd => hq0 d (List.mem_reverse.mp hd)) ?_ (by show dp + 1 + 70 < _; omega) (by show un + 3 + 600 < _; omega) ?_
    · obtain ⟨p, hp, hp2⟩ := tabB_mem (st := st2)
      have h127 : @LT.lt Nat _ 127 D := hp2 ▸ hD p (List.mem_append_left _ hp)
      refine List.forall_mem_cons.mpr ⟨Nat.ne_of_gt (Nat.lt_trans h127 l11.1), List.forall_mem_cons.mpr ⟨Nat.ne_of_gt h127, List.forall_mem_append.mpr ⟨go1.ne (fun q hq => hne2 q (List.mem_append_left _ hq)) ⟨p, List.mem_append_left _ hp, hp2⟩, fun q hq => hne2 q (List.mem_append_right _ hq)⟩⟩⟩
    · rw [List.length_reverse]; omega
    · rw [hBe, hqr0]
      exact Int.lt_of_le_of_lt (Int.ediv_le_self _ ha) ha2
    rw [hBe, hqr0]
    rintro t5 st2' h3 tk3 F3 ok2 go2 N3
    clear HF HN
    (repeat' ((fail_if_success (with_reducible show wpAny _ _ (exec (Stmt.While _ _ _ _) _) _ _ _)); (fail_if_success (with_reducible show wpAny _ _ (pyIter _) _ _ _)); first | (k_unfold; (try dsimp only)) | walk1 | (dsimp only; walk1) | fail "no step"))
    rename Fr h₀ L _ m => kF
    rename News h₀ L _ _ => kN
    rename_i l13 _
    rename ∀ p ∈ tabB st2' ++ _, p.1 < _ => hl13
    rw [Int.fdiv_eq_ediv_of_nonneg _ (Int.le_of_lt hb), Int.fmod_eq_emod_of_nonneg _ (Int.le_of_lt hb)] at hret
    rw [hvl, Nat.sub_self, Int.pow_zero, Int.ediv_one] at hr
    subst hr
    refine hret _ _ _ st1' st2' _ _ (fun p hp => hl13 p (by kcf_m)) ok1 ok2 (go1.weak fun p hp => List.mem_append_right _ hp) (go2.weak (by kcf_all)) kF (news_sub kN (by kcf_all))
end

section
theorem idm0_spec {a b : Int} {ta tb : Tok} {st1 st2 : Option (Addr × Obj)} (C2 : CodeHd base 124 120) (C1 : CodeHd base 131 127)
  (H : Here w pp loose mean mg mb A₀ base h₀ outer env L m s.heap (tabA st1 ++ (tabB st2 ++ news))) (hst1 : OkA st1) (hst2 : OkB st2)
  (hne1 : ∀ q ∈ tabB st2 ++ news, q.1 ≠ 120) (hne2 : ∀ q ∈ tabA st1 ++ news, q.1 ≠ 127)
  (ha : 0 ≤ a) (ha2 : a < 2 ^ 60) (hb : 0 < b) (hb2 : b < 2 ^ 20)
  (hd : dp + 82 < recursionLimit) (hu : un + 720 < cLine)
  (hret : ∀ (r : Addr) (t1 t2 : Tok) (st1' st2' : Option (Addr × Obj)) (h' : Heap) (tk' : Nat), (∀ p ∈ news, p.1 < r) → OkA st1' → OkB st2' → TGo news (tabA st1) (tabA st1') → TGo news (tabB st2) (tabB st2') →
     Fr h₀ L h' m → News h₀ L h' ((r, tup2 (a.fdiv b) t1 (a.fmod b) t2) :: (tabA st1' ++ (tabB st2' ++ news))) → Q (.ref r) { s with heap := h', toks := tk' }) :
  wpAny (model PySem.Challenge.pw_xp0023_01 w) (aTop dp un gd env outer) (call (.ref 146) [.int a ta, .int b tb]) Q E s := by
  w_top off
  obtain ⟨B, F, X, N, T, hf, hk⟩ := H
  refine wpAny_call ?_
  k_dflt ((refine' code_def ?k1x51 ?k2x51 ?k3x51 ?k4x51 ?k5x51 ?kAx51 ?kFx51 ?kKx51 ?k6x51 ?k7x51 ?k8x51 ?k9x51 ?kBx51 ?_ ?c2x51 ?c3x51 ?c4x51 ?c5x51; (case kAx51 => exact rfl); (case kFx51 => first | assumption | exact rfl); (case kKx51 => first | assumption | exact rfl); (case k1x51 => k_asm); (case k2x51 => k_asm); (case k3x51 => k_asm); (case k4x51 => k_asm); (case k5x51 => k_asm); (case k6x51 => k_is); (case k7x51 => k_is); (case k8x51 => ktr_room); (case k9x51 => first | exact BindsTo.of_eq rfl | exact binds_K (by k_in) rfl (by k_is) rfl rfl rfl); (case c5x51 => decide); (case kBx51 => exact locs rfl); (case c2x51 => exact rfl); (case c3x51 => exact rfl); (case c4x51 => exact rfl); k_whole; intro _ _ _ _ _ _ _ _ _; (try dsimp only); (try k_fold)))
  rename_i g' L' h' FG' F' N' B' X' T'
  replace F' := fr_entry ["q", "r"] F'
  replace F' : Fr g' L' h' (fun y => lkO y [("b", some (.int b tb)), ("a", some (.int a ta)), ("q", none), ("r", none)]) := F'
  (repeat' ((fail_if_success (with_reducible show wpAny _ _ (exec (Stmt.While _ _ _ _) _) _ _ _)); (fail_if_success (with_reducible show wpAny _ _ (pyIter _) _ _ _)); first | (k_unfold; (try dsimp only)) | walk1 | (dsimp only; walk1) | fail "no step"))
  all_goals try (exfalso; omega; done)
  rename Fr g' L' _ _ => HF
  rename News g' L' _ _ => HN
  refine dmp_spec C2 C1 ⟨B', HF, X', HN, T', by rfl, by rfl⟩ hst1 hst2 hne1 hne2 ha ha2 hb hb2 (by show dp + 1 + 80 < _; omega) (by show un + 3 + 700 < _; omega) ?_
  rintro r t1 t2 st1' st2' h1 tk1 hr ok1 ok2 go1 go2 F1 N1
  clear HF HN
  (repeat' ((fail_if_success (with_reducible show wpAny _ _ (exec (Stmt.While _ _ _ _) _) _ _ _)); (fail_if_success (with_reducible show wpAny _ _ (pyIter _) _ _ _)); first | (k_unfold; (try dsimp only)) | walk1 | (dsimp only; walk1) | fail "no step"))
  rename Fr h₀ L _ m => kF
  rename News h₀ L _ _ => kN
  exact hret _ _ _ st1' st2' _ _ hr ok1 ok2 go1 go2 kF kN

theorem idm_spec {a b : Int} {ta tb : Tok} {st1 st2 : Option (Addr × Obj)} (C2 : CodeHd base 124 120) (C1 : CodeHd base 131 127)
  (H : Here w pp loose mean mg mb A₀ base h₀ outer env L m s.heap (tabA st1 ++ (tabB st2 ++ news))) (hst1 : OkA st1) (hst2 : OkB st2)
  (hne1 : ∀ q ∈ tabB st2 ++ news, q.1 ≠ 120) (hne2 : ∀ q ∈ tabA st1 ++ news, q.1 ≠ 127)
  (ha : -(2 ^ 60) < a) (ha2 : a < 2 ^ 60) (hb : 0 < b) (hb2 : b < 2 ^ 20)
  (hd : dp + 90 < recursionLimit) (hu : un + 740 < cLine)
  (hret : ∀ (r : Addr) (t1 t2 : Tok) (st1' st2' : Option (Addr × Obj)) (h' : Heap) (tk' : Nat), (∀ p ∈ news, p.1 < r) → OkA st1' → OkB st2' → TGo news (tabA st1) (tabA st1') → TGo news (tabB st2) (tabB st2') →
     Fr h₀ L h' m → News h₀ L h' ((r, tup2 (a.fdiv b) t1 (a.fmod b) t2) :: (tabA st1' ++ (tabB st2' ++ news))) → Q (.ref r) { s with heap := h', toks := tk' }) :
  wpAny (model PySem.Challenge.pw_xp0023_01 w) (aTop dp un gd env outer) (call (.ref 146) [.int a ta, .int b tb]) Q E s := by
  w_top off
  rcases Int.lt_or_le a 0 with hneg | hpos
  · obtain ⟨B, F, X, N, T, hf, hk⟩ := H
    refine wpAny_call ?_
    k_dflt ((refine' code_def ?k1x54 ?k2x54 ?k3x54 ?k4x54 ?k5x54 ?kAx54 ?kFx54 ?kKx54 ?k6x54 ?k7x54 ?k8x54 ?k9x54 ?kBx54 ?_ ?c2x54 ?c3x54 ?c4x54 ?c5x54; (case kAx54 => exact rfl); (case kFx54 => first | assumption | exact rfl); (case kKx54 => first | assumption | exact rfl); (case k1x54 => k_asm); (case k2x54 => k_asm); (case k3x54 => k_asm); (case k4x54 => k_asm); (case k5x54 => k_asm); (case k6x54 => k_is); (case k7x54 => k_is); (case k8x54 => ktr_room); (case k9x54 => first | exact BindsTo.of_eq rfl | exact binds_K (by k_in) rfl (by k_is) rfl rfl rfl); (case c5x54 => decide); (case kBx54 => exact locs rfl); (case c2x54 => exact rfl); (case c3x54 => exact rfl); (case c4x54 => exact rfl); k_whole; intro _ _ _ _ _ _ _ _ _; (try dsimp only); (try k_fold)))
    rename_i g' L' h' FG' F' N' B' X' T'
    replace F' := fr_entry ["q", "r"] F'
    replace F' : Fr g' L' h' (fun y => lkO y [("b", some (.int b tb)), ("a", some (.int a ta)), ("q", none), ("r", none)]) := F'
    (repeat' ((fail_if_success (with_reducible show wpAny _ _ (exec (Stmt.While _ _ _ _) _) _ _ _)); (fail_if_success (with_reducible show wpAny _ _ (pyIter _) _ _ _)); first | (k_unfold; (try dsimp only)) | walk1 | (dsimp only; walk1) | fail "no step"))
    all_goals try (exfalso; omega; done)
    rename Fr g' L' _ _ => HF
    rename News g' L' _ _ => HN
    refine idm0_spec C2 C1 ⟨B', HF, X', HN, T', by rfl, by rfl⟩ hst1 hst2 hne1 hne2 (by show 0 ≤ -a - 1; omega) (by show -a - 1 < _; omega) hb hb2 (by show dp + 1 + 82 < _; omega) (by show un + 3 + 720 < _; omega) ?_
    rintro r t1 t2 st1' st2' h1 tk1 hr ok1 ok2 go1 go2 F1 N1
    clear HF HN
    (repeat' ((fail_if_success (with_reducible show wpAny _ _ (exec (Stmt.While _ _ _ _) _) _ _ _)); (fail_if_success (with_reducible show wpAny _ _ (pyIter _) _ _ _)); first | (k_unfold; (try dsimp only)) | walk1 | (dsimp only; walk1) | fail "no step"))
    rename Fr h₀ L _ m => kF
    rename News h₀ L _ _ => kN
    obtain ⟨e1, e2⟩ := neg_div (a := a) hb
    rename _ ∧ AllLt _ _ => hl
    rw [← e1, ← e2] at hret
    exact hret _ _ _ st1' st2' _ _ (fun p hp => of_allLt hl.2 p (by kcf_m)) ok1 ok2 go1 go2 kF (news_sub kN (by kcf_all))
  · exact idm0_spec C2 C1 H hst1 hst2 hne1 hne2 hpos ha2 hb hb2 (by omega) (by omega) hret
end

section
theorem told_spec {hour p : Int} {t1 t2 : Tok} {st1 st2 : Option (Addr × Obj)} (C2 : CodeHd base 124 120) (C1 : CodeHd base 131 127)
  (H : Here w pp loose mean mg mb A₀ base h₀ outer env L m s.heap (tabA st1 ++ (tabB st2 ++ news))) (hst1 : OkA st1) (hst2 : OkB st2)
  (sep : SepAB st1 st2) (hlo : NoTab news) (hbig : ∃ q ∈ news, @LT.lt Nat _ 127 q.1)
  (ha : -(2 ^ 60) < hour) (ha2 : hour < 2 ^ 60) (hp : 4 ≤ p) (hp2 : p ≤ 8)
  (hd : dp + 100 < recursionLimit) (hu : un + 800 < cLine)
  (hret : ∀ (r : Addr) (vs : List Value) (nn : Nat) (st1' st2' : Option (Addr × Obj)) (h' : Heap) (tk' : Nat), (∀ p ∈ news, p.1 < r) → OkA st1' → OkB st2' → SepAB st1' st2' → TGo news (tabA st1) (tabA st1') → TGo news (tabB st2) (tabB st2') →
     Fr h₀ L h' m → IntsAre vs (toldSpec hour p.toNat) → News h₀ L h' ((r, listOf vs.toArray nn) :: (tabA st1' ++ (tabB st2' ++ news))) → Q (.ref r) { s with heap := h', toks := tk' }) :
  wpAny (model PySem.Challenge.pw_xp0023_01 w) (aTop dp un gd env outer) (call (.ref 181) [.int hour t1, .int p t2]) Q E s := by
  w_top off
  obtain ⟨B, F, X, N, T, hf, hk⟩ := H
  refine wpAny_call ?_
  k_dflt ((refine' code_def ?k1x57 ?k2x57 ?k3x57 ?k4x57 ?k5x57 ?kAx57 ?kFx57 ?kKx57 ?k6x57 ?k7x57 ?k8x57 ?k9x57 ?kBx57 ?_ ?c2x57 ?c3x57 ?c4x57 ?c5x57; (case kAx57 => exact rfl); (case kFx57 => first | assumption | exact rfl); (case kKx57 => first | assumption | exact rfl); (case k1x57 => k_asm); (case k2x57 => k_asm); (case k3x57 => k_asm); (case k4x57 => k_asm); (case k5x57 => k_asm); (case k6x57 => k_is); (case k7x57 => k_is); (case k8x57 => ktr_room); (case k9x57 => first | exact BindsTo.of_eq rfl | exact binds_K (by k_in) rfl (by k_is) rfl rfl rfl); (case c5x57 => decide); (case kBx57 => exact locs rfl); (case c2x57 => exact rfl); (case c3x57 => exact rfl); (case c4x57 => exact rfl); k_whole; intro _ _ _ _ _ _ _ _ _; (try dsimp only); (try k_fold)))
  rename_i g' L' h' FG' F' N' B' X' T'
  replace F' := fr_entry ["weight", "k", "rounds", "rest", "told", "figure"] F'
  replace F' : Fr g' L' h' (fun y => lkO y [("plates", some (.int p t2)), ("hour", some (.int hour t1)), ("weight", none), ("k", none), ("rounds", none), ("rest", none), ("told", none), ("figure", none)]) := F'
  (repeat' ((fail_if_success (with_reducible show wpAny _ _ (exec (Stmt.While _ _ _ _) _) _ _ _)); (fail_if_success (with_reducible show wpAny _ _ (pyIter _) _ _ _)); first | (k_unfold; (try dsimp only)) | walk1 | (dsimp only; walk1) | fail "no step"))
  rename IsRange _ _ _ _ _ _ _ _ => hr
  rename Fr g' L' _ _ => HF
  rename News g' L' _ _ => HN
  refine iter_rangeG (n := (p + 1 - 2).toNat) (fun i m nx => nx = tabA st1 ++ (tabB st2 ++ news) ∧ ∃ (t : Tok) (u : Option Value), m = fun y => lkO y [("plates", some (.int p t2)), ("hour", some (.int hour t1)), ("weight", some (.int (fct (i + 1)) t)), ("k", u), ("rounds", none), ("rest", none), ("told", none), ("figure", none)]) rfl hr (small_one (by omega) (by omega) (by omega) (by omega)) (rangeSize_nat _ _) HF HN ⟨rfl, _, _, funext fun y => by simp only [put_lkO]; rfl⟩ ?_ ?_
  · clear hr HF HN
    rintro i t m₁ nx h₁ tk₁ I oI hi ⟨rfl, t', u, rfl⟩ hI F₁ N₁
    have hbd := fct_bd (i + 1) (by omega)
    (repeat' ((fail_if_success (with_reducible show wpAny _ _ (exec (Stmt.While _ _ _ _) _) _ _ _)); (fail_if_success (with_reducible show wpAny _ _ (pyIter _) _ _ _)); first | (k_unfold; (try dsimp only)) | walk1 | (dsimp only; walk1) | fail "no step"))
    rename Fr g' L' _ _ => HF
    rename News g' L' _ _ => HN
    have e : fct (i + 1) * (2 + (i : Int) * 1) = fct (i + 1 + 1) := by
      show _ = (((i + 1 : Nat) : Int) + 1) * fct (i + 1)
      rw [Int.mul_comm]; congr 1; omega
    rw [e] at HF
    refine InvEndG.intro HF HN ⟨rfl, ?t8, ?u8, ?hm8⟩ (ownoff_one hI) (by kcf_all) (by kcf_all)
    case hm8 => ktn_open
  · clear hr HF HN
    rintro m₁ nx h₁ tk₁ ⟨rfl, t', u, rfl⟩ F₁ N₁
    rw [show (p + 1 - 2).toNat + 1 = p.toNat by omega] at F₁
    have hbd := fct_bd p.toNat (by omega)
    (repeat' ((fail_if_success (with_reducible show wpAny _ _ (exec (Stmt.While _ _ _ _) _) _ _ _)); (fail_if_success (with_reducible show wpAny _ _ (pyIter _) _ _ _)); first | (k_unfold; (try dsimp only)) | walk1 | (dsimp only; walk1) | fail "no step"))
    rename Fr g' L' _ _ => HF
    rename News g' L' _ _ => HN
    refine idm_spec C2 C1 ⟨B', HF, X', HN, T', by rfl, by rfl⟩ hst1 hst2 (sep.n1 hlo) (sep.n2 hlo) ha ha2 (by omega) (by omega) (by show dp + 1 + 90 < _; omega) (by show un + 3 + 740 < _; omega) ?_
    rintro r1 t3 t4 st1' st2' h2 tk2 hr1 ok1 ok2 go1 go2 F2 N2
    have sep' := sep.go go1 go2 hbig
    clear HF HN
    (repeat' ((fail_if_success (with_reducible show wpAny _ _ (exec (Stmt.While _ _ _ _) _) _ _ _)); (fail_if_success (with_reducible show wpAny _ _ (pyIter _) _ _ _)); first | (k_unfold; (try dsimp only)) | walk1 | (dsimp only; walk1) | fail "no step"))
    rename_i lt hx2 hlt hx1 F3 N3 hx0 tk0 ta0 tb0 tc0 x3 x2 x1 x0
    rename IsRange _ _ _ _ _ _ _ _ => hr
    rename Fr g' L' _ _ => HF
    rename News g' L' _ _ => HN
    have hrest0 := Int.fmod_nonneg_of_pos hour (show 0 < fct p.toNat by omega)
    have hrest1 := Int.fmod_lt_of_pos hour (show 0 < fct p.toNat by omega)
    refine iter_rangeG (n := (p - 1).toNat) (fun i m nx' => ∃ (vs : List Value) (nn : Nat) (ns : List Int) (rest : Int) (sa sb : Option (Addr × Obj)), nx' = (lt, listOf vs.toArray nn) :: (tabA sa ++ (tabB sb ++ news)) ∧ OkA sa ∧ OkB sb ∧ SepAB sa sb ∧ TGo news (tabA st1) (tabA sa) ∧ TGo news (tabB st2) (tabB sb) ∧ IntsAre vs ns ∧ (∀ q ∈ tabA sa ++ tabB sb, q.1 ≠ lt) ∧ ns.length = i + 1 ∧ 0 ≤ rest ∧ rest < 40321 ∧ ns ++ figs (p.toNat - i) rest = toldSpec hour p.toNat ∧
      ∃ (t ta : Tok) (rounds : Value) (u u2 : Option Value), m = fun y => lkO y [("plates", some (.int p t2)), ("hour", some (.int hour t1)), ("weight", some (.int (fct (p.toNat - i)) t)), ("k", u), ("rounds", some rounds), ("rest", some (.int rest ta)), ("told", some (.ref lt)), ("figure", u2)]) rfl hr (small_down (by omega) (by omega) (by omega) (by omega)) (rangeSize_downNat _ _) HF (news_sub HN (l' := (lt, listOf [Value.int (hour.fdiv (fct p.toNat)) t3].toArray 0) :: (tabA st1' ++ (tabB st2' ++ news))) (by kcf_all)) ?_ ?_ ?_
    · refine' ⟨_, 0, _, hour.fmod (fct p.toNat), st1', st2', rfl, ok1, ok2, sep', go1, go2, (.cons _ _ .nil), (fun q hq => Nat.ne_of_lt (of_allLt hlt.2 q ((List.mem_append.mp hq).elim (fun h => by kcf_m) (fun h => by kcf_m)))), rfl, hrest0, by omega, rfl, _, _, _, _, _, _⟩
      rotate_left 5
      · ktn_open
    · clear hr HF HN
      rintro i t m₁ nx' h₁ tk₁ I oI hi ⟨vs, nn, ns, rest, sa, sb, rfl, oka, okb, sep2, ga, gb, hI, hol, hlen, hre0, hre1, hsp, t', ta, rounds, u, u2, rfl⟩ hI' F₁ N₁
      have hbd := fct_bd (p.toNat - i) (by omega)
      have hbd2 := fct_bd (p.toNat - (i + 1)) (by omega)
      obtain ⟨k, hk⟩ : ∃ k : Int, p + (i : Int) * (-1) = k := ⟨_, rfl⟩
      rw [hk] at F₁
      have hk2 : 2 ≤ k := by omega
      have hk8 : k ≤ 8 := by omega
      have e : (fct (p.toNat - i)).fdiv k = fct (p.toNat - (i + 1)) := by
        rw [show p.toNat - i = (p.toNat - (i + 1)) + 1 by omega, show k = ((p.toNat - (i + 1) : Nat) : Int) + 1 by omega]
        exact fct_fdiv _
      (repeat' ((fail_if_success (with_reducible show wpAny _ _ (exec (Stmt.While _ _ _ _) _) _ _ _)); (fail_if_success (with_reducible show wpAny _ _ (pyIter _) _ _ _)); first | (k_unfold; (try dsimp only)) | walk1 | (dsimp only; walk1) | fail "no step"))
      rename Fr g' L' _ _ => HF
      rename News g' L' _ _ => HN
      rw [e] at HF ⊢
      have hI3 := List.forall_mem_append.mp (List.forall_mem_cons.mp hI').2
      have hI4 := List.forall_mem_append.mp hI3.2
      have hlt2 : @LT.lt Nat _ 127 lt := by
        obtain ⟨q, hq, e⟩ := tabB_mem (st := st2')
        exact e ▸ of_allLt hlt.2 q (by kcf_m)
      have hnt : NoTab ((I, oI) :: (lt, listOf vs.toArray nn) :: news) := .cons (NoTab.off (news := news) hI3.1 hI4.1) (.cons ⟨Nat.ne_of_gt (Nat.lt_trans (by decide) hlt2), Nat.ne_of_gt hlt2⟩ hlo)
      refine idm_spec (news := (I, oI) :: (lt, listOf vs.toArray nn) :: news) C2 C1 ⟨B', HF, X', news_sub HN (by kcf_all), T', by rfl, by rfl⟩ oka okb (sep2.n1 hnt) (sep2.n2 hnt) (by omega) (by omega) (by omega) (by omega) (by show dp + 1 + 90 < _; omega) (by show un + 3 + 740 < _; omega) ?_
      rintro r2 t5 t6 sa' sb' h3 tk3 hr2 oka' okb' ga' gb' F4 N4
      have sep3 := sep2.go ga' gb' (let ⟨q, hq, l⟩ := hbig; ⟨q, .tail _ (.tail _ hq), l⟩)
      clear HF HN
      replace N4 := news_sub N4 (l' := (r2, tup2 (rest.fdiv (fct (p.toNat - (i + 1)))) t5 (rest.fmod (fct (p.toNat - (i + 1)))) t6) :: (I, oI) :: (lt, listOf vs.toArray nn) :: (tabA sa' ++ (tabB sb' ++ news))) (by kcf_all)
      have hoff1 : ∀ q ∈ tabA sa', q.1 ≠ I := ga'.off hI3.1 (.head _)
      have hoff2 : ∀ q ∈ tabB sb', q.1 ≠ I := gb'.off hI4.1 (.head _)
      have hltI : @Ne Nat lt I := (List.forall_mem_cons.mp hI').1
      have hla : ∀ q ∈ tabA sa' ++ (tabB sb' ++ news), q.1 ≠ lt := by
        have h1 := List.forall_mem_append.mp hol
        refine List.forall_mem_append.mpr ⟨ga'.off (oI := listOf vs.toArray nn) h1.1 (.tail _ (.head _)), List.forall_mem_append.mpr ⟨gb'.off (oI := listOf vs.toArray nn) h1.2 (.tail _ (.head _)), fun q hq => Nat.ne_of_lt (of_allLt hlt.2 q (by kcf_m))⟩⟩
      k_lt hr2
      (repeat' ((fail_if_success (with_reducible show wpAny _ _ (exec (Stmt.While _ _ _ _) _) _ _ _)); (fail_if_success (with_reducible show wpAny _ _ (pyIter _) _ _ _)); first | (k_unfold; (try dsimp only)) | walk1 | (dsimp only; walk1) | fail "no step"))
      rename Fr g' L' _ _ => HF
      rename News g' L' _ _ => HN
      rename IntsAre _ (ns ++ _) => hq'
      refine InvEndG.intro HF HN ⟨_, nn + 1, _, ?r8, sa', sb', rfl, oka', okb', sep3, ?ga9, ?gb9, hq', ?hl9, ?l9, ?a9, ?b9, ?s9, ?t18, ?t19, ?t20, ?u18, ?u19, ?m9⟩ ?o9 ?n9 ?bb9
      case m9 => ktn_open
      case ga9 => exact ga.trans ga' fun q hq => .tail _ (.tail _ hq)
      case gb9 => exact gb.trans gb' fun q hq => .tail _ (.tail _ hq)
      case hl9 => exact fun q hq => hla q ((List.mem_append.mp hq).elim (fun h => List.mem_append_left _ h) (fun h => List.mem_append_right _ (List.mem_append_left _ h)))
      case l9 => rw [List.length_append, hlen]; rfl
      case a9 => exact Int.fmod_nonneg_of_pos _ (by omega)
      case b9 =>
        have := Int.fmod_lt_of_pos rest (show 0 < fct (p.toNat - (i + 1)) by omega)
        omega
      case s9 =>
        rw [← hsp, figs_step (show 2 ≤ p.toNat - i by omega), List.append_assoc]
        rfl
      case o9 => 
        refine ownoff_cons hltI (ownoff_one ?_)
        exact List.forall_mem_append.mpr ⟨hoff1, List.forall_mem_append.mpr ⟨hoff2, hI4.2⟩⟩
      case n9 => kcf_all
      case bb9 => kcf_all
    · clear hr HF HN
      rintro m₁ nx' h₁ tk₁ ⟨vs, nn, ns, rest, sa, sb, rfl, oka, okb, sep2, ga, gb, hI, hol, hlen, hre0, hre1, hsp, t', ta, rounds, u, u2, rfl⟩ F₁ N₁
      (repeat' ((fail_if_success (with_reducible show wpAny _ _ (exec (Stmt.While _ _ _ _) _) _ _ _)); (fail_if_success (with_reducible show wpAny _ _ (pyIter _) _ _ _)); first | (k_unfold; (try dsimp only)) | walk1 | (dsimp only; walk1) | fail "no step"))
      rename Fr h₀ L _ m => kF
      rename News h₀ L _ _ => kN
      rw [down_one hp] at hsp
      refine hret _ _ _ sa sb _ _ ?_ oka okb sep2 ga gb kF ?_ kN
      · exact of_allLt (allLt_of fun q hq => of_allLt hlt.2 q (by kcf_m))
      · rw [← hsp, show figs 1 rest = [] from rfl, List.append_nil]
        exact hI
end

section
theorem ba_setK {prog : Program} {w : World} {A : Around} {E : Value → Shared → Prop} {s : Shared} {h₀ : Heap} {L S : Addr} {m : Str → Option Value} {news news' : List (Addr × Obj)} {b : Array UInt8} {k v : Int} {t u : Tok} {Q : Unit → Shared → Prop} (F : Fr h₀ L s.heap m) (N : News h₀ L s.heap news)
    (U : Upd S (baObj b) (baObj (b.setIfInBounds k.toNat v.toNat.toUInt8)) news news') (h0 : 0 ≤ k) (h1 : k < b.size) (hz : b.size < 1000) (v0 : 0 ≤ v) (v1 : v < 256) (h : ∀ h', Fr h₀ L h' m → News h₀ L h' news' → Q () { s with heap := h' }) : wpAny (model prog w) A (setItem (.ref S) (.int k t) (.int v u)) Q E s := by
  obtain ⟨pre, post, rfl, rfl, a, c⟩ := U.split
  have z := N (S, baObj b) (List.mem_append.mpr (.inr (.head _)))
  exact ba_setItem z.1 h0 h1 hz v0 v1 fun h' ho' hs => h h' (F.change hs z.2.1 z.2.2) (news_set N a c hs ho')
theorem bsw_spec {l : List UInt8} {width : Int} {t1 t2 : Tok} {Q : Value → Shared → Prop}
  (H : Here w pp loose mean mg mb A₀ base h₀ outer env L m s.heap news)
  (hw1 : 2 ≤ width) (hw2 : width ≤ 8) (hb : (l.length : Int) = width)
  (hd : dp + 1 < recursionLimit) (hu : un + 8 < cLine)
  (hret : ∀ (t : Tok) (h' : Heap) (tk' : Nat), Fr h₀ L h' m → News h₀ L h' news → Q (.bytes l.reverse.toArray t) { s with heap := h', toks := tk' }) :
  wpR (model PySem.Challenge.pw_xp0023_01 w) (aTop dp un gd env outer) (call (.ref 153) [.bytes l.toArray t1, .int width t2]) Q s := by
  w_top off
  obtain ⟨B, F, X, N, T, hf, hk⟩ := H
  refine wpR_call ?_
  k_dflt (first | ((refine' codeR_def ?k1x65 ?k2x65 ?k3x65 ?k4x65 ?k5x65 ?kAx65 ?kFx65 ?kKx65 ?k6x65 ?k7x65 ?k8x65 ?k9x65 ?kBx65 ?_ ?c2x65 ?c3x65 ?c4x65 ?c5x65; (case kAx65 => exact rfl); (case kFx65 => first | assumption | exact rfl); (case kKx65 => first | assumption | exact rfl); (case k1x65 => k_asm); (case k2x65 => k_asm); (case k3x65 => k_asm); (case k4x65 => k_asm); (case k5x65 => k_asm); (case k6x65 => k_is); (case k7x65 => k_is); (case k8x65 => ktr_room); (case k9x65 => exact BindsTo.of_eq rfl); (case c5x65 => decide); (case kBx65 => exact locs rfl); (case c2x65 => exact rfl); (case c3x65 => exact rfl); (case c4x65 => exact rfl); intro _ _ _ _ _ _ _ _ _; (try dsimp only); (try k_fold))) | ((refine' code_def ?k1x66 ?k2x66 ?k3x66 ?k4x66 ?k5x66 ?kAx66 ?kFx66 ?kKx66 ?k6x66 ?k7x66 ?k8x66 ?k9x66 ?kBx66 ?_ ?c2x66 ?c3x66 ?c4x66 ?c5x66; (case kAx66 => exact rfl); (case kFx66 => first | assumption | exact rfl); (case kKx66 => first | assumption | exact rfl); (case k1x66 => k_asm); (case k2x66 => k_asm); (case k3x66 => k_asm); (case k4x66 => k_asm); (case k5x66 => k_asm); (case k6x66 => k_is); (case k7x66 => k_is); (case k8x66 => ktr_room); (case k9x66 => first | exact BindsTo.of_eq rfl | exact binds_K (by k_in) rfl (by k_is) rfl rfl rfl); (case c5x66 => decide); (case kBx66 => exact locs rfl); (case c2x66 => exact rfl); (case c3x66 => exact rfl); (case c4x66 => exact rfl); k_whole; intro _ _ _ _ _ _ _ _ _; (try dsimp only); (try k_fold))))
  rename_i g' L' h' FG' F' N' B' X' T'
  replace F' := fr_entry ["swapped_data", "i", "j"] F'
  replace F' : Fr g' L' h' (fun y => lkO y [("width", some (.int width t2)), ("data", some (.bytes l.toArray t1)), ("swapped_data", none), ("i", none), ("j", none)]) := F'
  refine wpR_execs_cons (Assign_R (Call_R ?_))
  (repeat' ((fail_if_success (with_reducible show wpAny _ _ (exec (Stmt.While _ _ _ _) _) _ _ _)); (fail_if_success (with_reducible show wpAny _ _ (pyIter _) _ _ _)); first | (k_unfold; (try dsimp only)) | walk1 | (dsimp only; walk1) | fail "no step"))
  refine callWith_R (P := fun _ => True) rfl (fun _ _ => ⟨.machine, .inr (.inl rfl), Looks.of_pure rfl⟩) ?_
  (repeat' ((fail_if_success (with_reducible show wpAny _ _ (exec (Stmt.While _ _ _ _) _) _ _ _)); (fail_if_success (with_reducible show wpAny _ _ (pyIter _) _ _ _)); first | (k_unfold; (try dsimp only)) | walk1 | (dsimp only; walk1) | fail "no step"))
  · trivial
  rename Fr g' L' _ _ => HF
  rename News g' L' _ _ => HN
  show wpR _ _ (call (Value.type "bytearray") [Value.int (l.length : Int) _]) _ _
  refine ba_call (by omega) (by omega) fun h1 keep hget => ?_
  have F1 := fr_keeps HF keep
  have N1 := news_push HF HN keep hget
  have hlt : ∀ p ∈ news, p.1 < _ := fun p hp => Heap.lt_size (HN p hp).1
  clear HF HN keep hget
  obtain ⟨S, hS⟩ : ∃ S : Addr, h'.objs.size = S := ⟨_, rfl⟩
  simp only [hS] at N1 hlt ⊢
  have hbs : l.length < 1000 := by omega
  (repeat' ((fail_if_success (with_reducible show wpAny _ _ (exec (Stmt.While _ _ _ _) _) _ _ _)); (fail_if_success (with_reducible show wpAny _ _ (pyIter _) _ _ _)); first | (k_unfold; (try dsimp only)) | walk1 | (dsimp only; walk1) | fail "no step"))
  refine wpR_of ?_
  (repeat' ((fail_if_success (with_reducible show wpAny _ _ (exec (Stmt.While _ _ _ _) _) _ _ _)); (fail_if_success (with_reducible show wpAny _ _ (pyIter _) _ _ _)); first | (k_unfold; (try dsimp only)) | walk1 | (dsimp only; walk1) | fail "no step"))
  rename IsRange _ _ _ _ _ _ _ _ => hr
  rename Fr g' L' _ _ => HF
  rename News g' L' _ _ => HN
  refine iter_rangeG (n := 1) (fun i m nx => ∃ (c : Array UInt8) (u u2 : Option Value), nx = (S, baObj c) :: news ∧ c.size = l.length ∧ (i = 1 → c = l.reverse.toArray) ∧ m = fun y => lkO y [("width", some (.int width t2)), ("data", some (.bytes l.toArray t1)), ("swapped_data", some (.ref S)), ("i", u), ("j", u2)]) rfl hr ?_ ?_ HF HN ?_ ?_ ?_
  · rw [List.size_toArray, hb]
    have hc8 : width = 2 ∨ width = 3 ∨ width = 4 ∨ width = 5 ∨ width = 6 ∨ width = 7 ∨ width = 8 := by omega
    rcases hc8 with e | e | e | e | e | e | e <;> (rw [e]; decide)
  · rw [List.size_toArray, hb]
    unfold Builtin.Range.rangeSize
    rw [if_pos (by omega), if_pos (by omega), Int.ediv_eq_zero_of_lt (by omega) (by omega)]
    rfl
  · refine ⟨_, none, none, rfl, by rw [Array.size_replicate]; omega, fun e => (nomatch e), ?_⟩
    ktn_open
  · clear hr HF HN
    rintro i t m₁ nx h₁ tk₁ I oI hi ⟨c, u, u2, rfl, hc, _, rfl⟩ hI F₁ N₁
    obtain rfl : i = 0 := by omega
    rw [show (0 : Int) + ((0 : Nat) : Int) * width = 0 by rw [Int.natCast_zero, Int.zero_mul]; rfl] at F₁
    (repeat' ((fail_if_success (with_reducible show wpAny _ _ (exec (Stmt.While _ _ _ _) _) _ _ _)); (fail_if_success (with_reducible show wpAny _ _ (pyIter _) _ _ _)); first | (k_unfold; (try dsimp only)) | walk1 | (dsimp only; walk1) | fail "no step"))
    rename IsRange _ _ _ _ _ _ _ _ => hr
    rename Fr g' L' _ _ => HF
    rename News g' L' _ _ => HN
    have hIS := (List.forall_mem_cons.mp hI).1
    have hIn := (List.forall_mem_cons.mp hI).2
    refine iter_rangeG (n := width.toNat) (fun j m nx => ∃ (c : Array UInt8) (ti : Tok) (u2 : Option Value), nx = (I, oI) :: (S, baObj c) :: news ∧ RevTo l.toArray c j ∧ m = fun y => lkO y [("width", some (.int width t2)), ("data", some (.bytes l.toArray t1)), ("swapped_data", some (.ref S)), ("i", some (.int 0 ti)), ("j", u2)]) rfl hr (small_one (by omega) (by omega) (by omega) (by omega)) (by rw [rangeSize_nat]; omega) HF HN ?_ ?_ ?_
    · refine' ⟨_, _, _, rfl, .zero hc, _⟩
      rotate_left 2
      · ktn_open
    · clear hr HF HN
      rintro j t' m₂ nx h₂ tk₂ I2 oI2 hj ⟨c2, ti, u3, rfl, hrev, rfl⟩ hI2 F₂ N₂
      have hv : (l.toArray)[j]? = some (l.getD j 0) := by
        rw [List.getElem?_toArray, List.getElem?_eq_getElem (by omega), List.getD_eq_getElem?_getD, List.getElem?_eq_getElem (by omega)]
        rfl
      have hrev' := hrev.step (v := l.getD j 0) (by rw [List.size_toArray]; omega) hv
      have hI2' : ∀ p ∈ (I, oI) :: (S, baObj (c2.setIfInBounds (l.toArray.size - 1 - j) (l.getD j 0))) :: news, p.1 ≠ I2 := List.forall_mem_cons.mpr ⟨(List.forall_mem_cons.mp hI2).1, List.forall_mem_cons.mpr ⟨(List.forall_mem_cons.mp (List.forall_mem_cons.mp hI2).2).1, (List.forall_mem_cons.mp (List.forall_mem_cons.mp hI2).2).2⟩⟩
      have hIS3 := (List.forall_mem_cons.mp (List.forall_mem_cons.mp hI2).2).1
      (repeat' ((fail_if_success (with_reducible show wpAny _ _ (exec (Stmt.While _ _ _ _) _) _ _ _)); (fail_if_success (with_reducible show wpAny _ _ (pyIter _) _ _ _)); first | (k_unfold; (try dsimp only)) | walk1 | (dsimp only; walk1) | fail "no step"))
      rename Fr g' _ _ _ => HF
      rename News g' _ _ _ => HN
      have hx : (0 + (0 + (j : Int) * 1)).toNat = j := by omega
      have hy : (0 + width - 1 - (0 + (j : Int) * 1)).toNat = l.toArray.size - 1 - j := by rw [List.size_toArray]; omega
      rw [hx]
      have hlt8 := UInt8.toNat_lt (l.getD j 0)
      refine ba_setK (b := c2) (news' := (I2, oI2) :: (I, oI) :: (S, baObj (c2.setIfInBounds (l.toArray.size - 1 - j) (l.getD j 0))) :: news) HF HN ?_ (by omega) ?_ ?_ (by omega) (by omega) ?_
      · refine Upd.tail (fun e => hIS3 e.symm) (Upd.tail (fun e => hIS e.symm) ?_)
        rw [hy, Int.toNat_natCast, Nat.toUInt8_eq, UInt8.ofNat_toNat]
        exact Upd.head fun p hp => Nat.ne_of_lt (hlt p hp)
      · rw [hrev.1, List.size_toArray]; omega
      · rw [hrev.1, List.size_toArray]; omega
      rintro h3 F3 N3
      clear HF HN
      (repeat' ((fail_if_success (with_reducible show wpAny _ _ (exec (Stmt.While _ _ _ _) _) _ _ _)); (fail_if_success (with_reducible show wpAny _ _ (pyIter _) _ _ _)); first | (k_unfold; (try dsimp only)) | walk1 | (dsimp only; walk1) | fail "no step"))
      rename Fr g' _ _ _ => HF
      rename News g' _ _ _ => HN
      refine InvEndG.intro HF HN ⟨_, ?t9, ?u9, rfl, hrev', ?m9⟩ ?o9 ?n9 ?b9
      case m9 => ktn_open
      case o9 => exact ownoff_one hI2'
      case n9 => kcf_all
      case b9 => kcf_all
    · clear hr HF HN
      rintro m₂ nx h₂ tk₂ ⟨c2, ti, u3, rfl, hrev, rfl⟩ F₂ N₂
      (repeat' ((fail_if_success (with_reducible show wpAny _ _ (exec (Stmt.While _ _ _ _) _) _ _ _)); (fail_if_success (with_reducible show wpAny _ _ (pyIter _) _ _ _)); first | (k_unfold; (try dsimp only)) | walk1 | (dsimp only; walk1) | fail "no step"))
      rename Fr g' _ _ _ => HF
      rename News g' _ _ _ => HN
      refine InvEndG.intro HF HN ⟨c2, ?u19, ?v19, rfl, ?hs9, ?hr9, ?m19⟩ ?o19 ?n19 ?b19
      case m19 => exact rfl
      case hs9 => rw [hrev.1]; exact List.size_toArray
      case hr9 =>
        intro _
        rw [show width.toNat = l.toArray.size by rw [List.size_toArray]; omega] at hrev
        rw [hrev.done, List.reverse_toArray]
      case o19 => exact ownoff_cons hIS (ownoff_one hIn)
      case n19 => kcf_all
      case b19 => kcf_all
  · clear hr HF HN
    rintro m₁ nx h₁ tk₁ ⟨c, u, u2, rfl, hc, hfin, rfl⟩ F₁ N₁
    obtain rfl := hfin rfl
    (repeat' ((fail_if_success (with_reducible show wpAny _ _ (exec (Stmt.While _ _ _ _) _) _ _ _)); (fail_if_success (with_reducible show wpAny _ _ (pyIter _) _ _ _)); first | (k_unfold; (try dsimp only)) | walk1 | (dsimp only; walk1) | fail "no step"))
    rename Fr g' L' _ _ => HF
    rename News g' L' _ _ => HN
    refine ba_bytes (HN _ (.head _)).1 (by simp; omega) fun tz kz => ?_
    (repeat' ((fail_if_success (with_reducible show wpAny _ _ (exec (Stmt.While _ _ _ _) _) _ _ _)); (fail_if_success (with_reducible show wpAny _ _ (pyIter _) _ _ _)); first | (k_unfold; (try dsimp only)) | walk1 | (dsimp only; walk1) | fail "no step"))
    rename Fr h₀ L _ m => kF
    rename News h₀ L _ _ => kN
    exact hret _ _ _ kF (news_sub kN (by kcf_all))
end

section
noncomputable def rowS : List Str := ["&", "<", ">", "\r", "a", "m", "p", ";", "#", "x", "D"].map Str.ofString
noncomputable def wrS (x : Str) : Str := if x = Str.ofString "&" then Str.ofString "&amp;" else if x = Str.ofString "<" then Str.ofString "&lt;" else if x = Str.ofString ">" then Str.ofString "&gt;" else if x = Str.ofString "\r" then Str.ofString "&#xD;" else x
theorem wri_spec {l : Addr} {vs : List Value} {xs : List Str} {nn : Nat}
  (H : Here w pp loose mean mg mb A₀ base h₀ outer env L m s.heap news)
  (hl : (l, listOf vs.toArray nn) ∈ news) (hx : StrsAre vs xs) (hr : ∀ x ∈ xs, x ∈ rowS) (hlen : vs.length ≤ 8)
  (hd : dp + 3 < recursionLimit) (hu : un + 30 < cLine)
  (hret : ∀ (x : Str) (t : Tok) (h' : Heap) (tk' : Nat), x.cps.toList = (xs.map fun x => (wrS x).cps.toList).flatten → Fr h₀ L h' m → News h₀ L h' news → Q (.str x t) { s with heap := h', toks := tk' }) :
  wpAny (model PySem.Challenge.pw_xp0023_01 w) (aTop dp un gd env outer) (call (.ref 193) [.ref l]) Q E s := by
  w_top off
  obtain ⟨B, F, X, N, T, hf, hk⟩ := H
  refine wpAny_call ?_
  k_dflt ((refine' code_defC ?k1x77 ?k2x77 ?k3x77 ?k4x77 ?k5x77 ?kAx77 ?kFx77 ?kKx77 ?k6x77 ?k7x77 ?k8x77 ?k9x77 ?kBx77 ?kDx77 ?_ ?c2x77 ?c3x77 ?c4x77; (case kAx77 => exact rfl); (case kFx77 => first | assumption | exact rfl); (case kKx77 => first | assumption | exact rfl); (case k1x77 => k_asm); (case k2x77 => k_asm); (case k3x77 => k_asm); (case k4x77 => k_asm); (case k5x77 => k_asm); (case k6x77 => k_is); (case k7x77 => k_is); (case k8x77 => ktr_room); (case k9x77 => exact BindsTo.of_eq rfl); (case kBx77 => exact rfl); (case kDx77 => decide +kernel); (case c2x77 => exact rfl); (case c3x77 => exact rfl); (case c4x77 => exact rfl); k_whole; intro _ _ _ _ _ _ _ N' Y' _ _ _ l1; (try k_lt l1); (try (revert l1; intro _)); k_cells Y'; (try simp only [List.cons_append, List.nil_append] at N'); (try (revert N'; intro _)); (try dsimp only); (try k_fold)))
  (repeat' ((fail_if_success (with_reducible show wpAny _ _ (exec (Stmt.While _ _ _ _) _) _ _ _)); (fail_if_success (with_reducible show wpAny _ _ (pyIter _) _ _ _)); first | (k_unfold; (try dsimp only)) | walk1 | (dsimp only; walk1) | fail "no step"))
  rename Fr _ _ _ _ => HF
  rename News _ _ _ _ => HN
  refine LCg.CompSrc.ledger (its := vs.toArray) (k := nn) (by rfl) HF HN (by first | k_mem | kcf_m) (by rw [PySem.sizeLine_eq]; simp; omega) ?_
  intro g9
  refine comp_inv (fun i ys nx => nx = _ ∧ StrsAre ys ((xs.take i).map wrS)) ⟨rfl, by rw [List.take_zero]; exact .nil⟩ ?_ ?_
  · intro i v ys nx I oI C oC D m₂ h9 tk9 E9 hi hv ⟨e, hy⟩ hC hxx F9 N9 off9 ne9
    subst e
    obtain ⟨x, t, hx1, rfl⟩ := strs_at hx hv
    have hm := hr x (List.mem_of_getElem? hx1)
    have hstep : (xs.take (i + 1)).map wrS = (xs.take i).map wrS ++ [wrS x] := by rw [List.take_add_one, hx1]; simp
    have hxlen : xs[i]? = some x := hx1
    clear hx1 hxlen hr hv hlen
    simp only [rowS, List.map_cons, List.map_nil, List.mem_cons, List.not_mem_nil, or_false] at hm
    rcases hm with rfl | rfl | rfl | rfl | rfl | rfl | rfl | rfl | rfl | rfl | rfl <;>
    · (repeat' ((fail_if_success (with_reducible show wpAny _ _ (exec (Stmt.While _ _ _ _) _) _ _ _)); (fail_if_success (with_reducible show wpAny _ _ (pyIter _) _ _ _)); first | (k_unfold; (try dsimp only)) | walk1 | (dsimp only; walk1) | fail "no step"))
      rename Fr _ _ _ _ => HF'
      rename News _ _ _ _ => HN'
      exact LCg.CompEnd.intro HF' HN' _ (by first | exact fun q hq => hq | kcf_all) off9 (by first | exact LCg.SrcAt.of_mem (by kcf_m) | exact .inr ⟨_, by first | k_mem | kcf_m, rfl, _, rfl⟩) ⟨rfl, by rw [hstep]; exact strs_snoc' hy (by decide)⟩
  · rintro ys nx ⟨e, hy⟩
    subst e
    have hlen2 : ys.length ≤ 8 := by rw [StrsAre.length hy]; have := StrsAre.length hx; simp; omega
    rw [List.take_of_length_le (by have := StrsAre.length hx; simp; omega)] at hy
    intro D9 h9 tk9 F9 N9 off9
    clear hl
    (repeat' ((fail_if_success (with_reducible show wpAny _ _ (exec (Stmt.While _ _ _ _) _) _ _ _)); (fail_if_success (with_reducible show wpAny _ _ (pyIter _) _ _ _)); first | (k_unfold; (try dsimp only)) | walk1 | (dsimp only; walk1) | fail "no step"))
    refine join_rule (News.isList N9 (by kcf_m)) hy (by
      intro x hx8
      obtain ⟨z, hz, rfl⟩ := List.mem_map.1 hx8
      have hm := hr z hz
      simp only [rowS, List.map_cons, List.map_nil, List.mem_cons, List.not_mem_nil, or_false] at hm
      rcases hm with rfl | rfl | rfl | rfl | rfl | rfl | rfl | rfl | rfl | rfl | rfl <;> decide) (by have := StrsAre.length hx; simp; omega) fun Y t' k hY => ?_
    (repeat' ((fail_if_success (with_reducible show wpAny _ _ (exec (Stmt.While _ _ _ _) _) _ _ _)); (fail_if_success (with_reducible show wpAny _ _ (pyIter _) _ _ _)); first | (k_unfold; (try dsimp only)) | walk1 | (dsimp only; walk1) | fail "no step"))
    rename Fr h₀ L _ m => kF
    rename News h₀ L _ _ => kN
    exact hret _ _ _ _ (by rw [hY, List.map_map]; rfl) kF (news_sub kN (by kcf_all))
end

section
theorem ty_append (K : Frag) : typeIn K (.builtin "list.append") = some (.type "method_descriptor") := by kernel_rfl
local macro_rules | `(tactic| walk_at "getMethod ref") => `(tactic| (k_here; (with_reducible show wpAny _ _ (getMethod (Value.ref _) (Str.ofString "append") _) _ _ _); (refine' Mine.method_b (K := Mine.hd.heap_1 _) (C := 100) ?F ?X ?N ?h1 ?h2 ?hg ?hf (ty_append _) ?hT ?hs ?_; (case F => k_asm); (case X => k_asm); (case N => k_asm); (case h1 => kcf_m); (case h2 => kcf_m); (case hg => exact Mine.ga100 _); (case hf => k_is); (case hT => decide); (case hs => assumption))))
local macro_rules | `(tactic| walk_at "call builtin:list.append") => `(tactic| (k_here; (refine' Mine.append_acc (K := Mine.hd.heap_1 _) (C := 100) ?F ?X ?N ?hp ?h2 ?U ?hl ?_; (case F => k_asm); (case X => k_asm); (case N => k_asm); (case hp => exact Mine.acc100 _); (case h2 => kcf_m); (case U => k_upd); (case hl => (first | omega | (simp; omega)))); intro h' F' N'))
theorem push_spec {a b : Str} {t1 t2 : Tok} {r dx : Addr} {its : List Value} {k n : Nat} {es : List DictEntry} {p0 : Int} {tp tk0 : Tok}
  (H : Here w pp loose mean mg mb A₀ base h₀ outer env L m s.heap ((r, accObj 100 dx its.toArray k) :: (dx, dictOf es n) :: news))
  (hes : getL "append" es = some none) (hne : dx ≠ r) (hr : ∀ q ∈ news, q.1 ≠ r) (hlen : its.length ≤ 100)
  (hd : dp + 5 < recursionLimit) (hu : un + 40 < cLine) 
  (hret : ∀ (T : Addr) (h' : Heap) (tk' : Nat), (∀ p ∈ news, p.1 < T) → Fr h₀ L h' m → News h₀ L h' ((r, accObj 100 dx (its ++ [Value.ref T]).toArray (k + 1)) :: (dx, dictOf es n) :: (T, ({ cls := .type "tuple", data := .seq [.str a t1, .str b t2].toArray } : Obj)) :: news) → Q .none { s with heap := h', toks := tk' }) :
  wpAny (model PySem.Challenge.pw_xp0023_01 w) (aTop dp un gd env outer) (call (.ref 45) [.ref r, .str a t1, .str b t2]) Q E s := by
  w_top off
  obtain ⟨B, F, X, N, T, hf, hk⟩ := H
  have hlz : its.toArray.size ≤ 1000 := by simp; omega
  refine wpAny_call ?_
  k_dflt ((refine' code_def ?k1x82 ?k2x82 ?k3x82 ?k4x82 ?k5x82 ?kAx82 ?kFx82 ?kKx82 ?k6x82 ?k7x82 ?k8x82 ?k9x82 ?kBx82 ?_ ?c2x82 ?c3x82 ?c4x82 ?c5x82; (case kAx82 => exact rfl); (case kFx82 => first | assumption | exact rfl); (case kKx82 => first | assumption | exact rfl); (case k1x82 => k_asm); (case k2x82 => k_asm); (case k3x82 => k_asm); (case k4x82 => k_asm); (case k5x82 => k_asm); (case k6x82 => k_is); (case k7x82 => k_is); (case k8x82 => ktr_room); (case k9x82 => first | exact BindsTo.of_eq rfl | exact binds_K (by k_in) rfl (by k_is) rfl rfl rfl); (case c5x82 => decide); (case kBx82 => exact locs rfl); (case c2x82 => exact rfl); (case c3x82 => exact rfl); (case c4x82 => exact rfl); k_whole; intro _ _ _ _ _ _ _ _ _; (try dsimp only); (try k_fold)))
  (repeat' ((fail_if_success (with_reducible show wpAny _ _ (exec (Stmt.While _ _ _ _) _) _ _ _)); (fail_if_success (with_reducible show wpAny _ _ (pyIter _) _ _ _)); first | (k_unfold; (try dsimp only)) | walk1 | (dsimp only; walk1) | fail "no step"))
  rename _ ∧ _ ∧ _ => l9
  rename Fr h₀ L _ m => kF
  rename News h₀ L _ _ => kN
  rw [List.push_toArray] at kN
  exact hret _ _ _ (of_allLt l9.2.2) kF (news_sub kN (by kcf_all))
end

section
local macro_rules | `(tactic| walk_at "subscriptTail Name Slice ref ref") => `(tactic| (k_here; (with_reducible show wpAny _ _ (subscriptTail _ (PySem.Expr.Slice _ none none _) (Value.ref _) (Value.ref _)) _ _ _); k_dflt (refine' Mine.acc_sliceK (K := Mine.hd.heap_1 _) (C := 100) ?F ?X ?N (Mine.acc100 _) (Mine.items100 _) ?h1 ?h2 ?p ?q ?z ?_ ?s ?t; (case F => k_asm); (case X => k_asm); (case N => k_asm); (case h1 => kcf_m); (case h2 => kcf_m); (case p => first | exact IsPart.int _ _ | exact IsPart.none); (case q => exact IsPart.none); (case z => (simp; omega)); (case s => with_unfolding_all rfl); (case t => (intro _; with_unfolding_all rfl))); intro D' h' F' N' l1; (try k_lt l1); (try k_sweep)))
section
theorem pop_spec {r dx : Addr} {its : List Value} {k n : Nat} {es : List DictEntry} {i : Int} {ti : Tok}
  (H : Here w pp loose mean mg mb A₀ base h₀ outer env L m s.heap ((r, accObj 100 dx its.toArray k) :: (dx, dictOf es n) :: news))
  (hne : dx ≠ r) (hr : ∀ q ∈ news, q.1 ≠ r) (hlen : its.length ≤ 100) (h0 : 0 ≤ i) (h1 : i ≤ its.length)
  (hd : dp + 5 < recursionLimit) (hu : un + 40 < cLine) 
  (hret : ∀ (D : Addr) (k' : Nat) (h' : Heap) (tk' : Nat), (∀ p ∈ (r, accObj 100 dx its.toArray k) :: (dx, dictOf es n) :: news, p.1 < D) → Fr h₀ L h' m → News h₀ L h' ((r, accObj 100 dx (its.take i.toNat).toArray k') :: (dx, dictOf es n) :: (D, listOf (its.drop i.toNat).toArray 0) :: news) → Q (.ref D) { s with heap := h', toks := tk' }) :
  wpAny (model PySem.Challenge.pw_xp0023_01 w) (aTop dp un gd env outer) (call (.ref 53) [.ref r, .int i ti]) Q E s := by
  w_top off
  obtain ⟨B, F, X, N, T, hf, hk⟩ := H
  refine wpAny_call ?_
  k_dflt ((refine' code_def ?k1x84 ?k2x84 ?k3x84 ?k4x84 ?k5x84 ?kAx84 ?kFx84 ?kKx84 ?k6x84 ?k7x84 ?k8x84 ?k9x84 ?kBx84 ?_ ?c2x84 ?c3x84 ?c4x84 ?c5x84; (case kAx84 => exact rfl); (case kFx84 => first | assumption | exact rfl); (case kKx84 => first | assumption | exact rfl); (case k1x84 => k_asm); (case k2x84 => k_asm); (case k3x84 => k_asm); (case k4x84 => k_asm); (case k5x84 => k_asm); (case k6x84 => k_is); (case k7x84 => k_is); (case k8x84 => ktr_room); (case k9x84 => first | exact BindsTo.of_eq rfl | exact binds_K (by k_in) rfl (by k_is) rfl rfl rfl); (case c5x84 => decide); (case kBx84 => exact locs rfl); (case c2x84 => exact rfl); (case c3x84 => exact rfl); (case c4x84 => exact rfl); k_whole; intro _ _ _ _ _ _ _ _ _; (try dsimp only); (try k_fold)))
  (repeat' ((fail_if_success (with_reducible show wpAny _ _ (exec (Stmt.While _ _ _ _) _) _ _ _)); (fail_if_success (with_reducible show wpAny _ _ (pyIter _) _ _ _)); first | (k_unfold; (try dsimp only)) | walk1 | (dsimp only; walk1) | fail "no step"))
  rename_i D h4 l3 h5 v h6 F6 N6 l6
  refine' acc_setSliceP (K := Mine.hd.heap_1 _) (C := 100) (dx := dx) (vs := its) (ys := []) (nn := 0) (a := i.toNat) F6 ?X N6 (acc100 _) (items100 _) ?h2 (.int i _) (bounds_from h0 h1) (by omega) ?h3 ?hv (by omega) (by simp) (fun k' => ?U) fun h' k' F7 N7 => ?_
  case X => k_asm
  case h2 => kcf_m
  case h3 => kcf_m
  case hv => exact Nat.ne_of_gt l6.2.1
  case U => exact Upd.tail (Nat.ne_of_gt l6.2.1) (Upd.tail (Nat.ne_of_gt l3.1) (Upd.head (List.forall_mem_cons.mpr ⟨hne, hr⟩)))
  clear F6 N6
  rw [pick_from its h0 h1] at N7
  (repeat' ((fail_if_success (with_reducible show wpAny _ _ (exec (Stmt.While _ _ _ _) _) _ _ _)); (fail_if_success (with_reducible show wpAny _ _ (pyIter _) _ _ _)); first | (k_unfold; (try dsimp only)) | walk1 | (dsimp only; walk1) | fail "no step"))
  rename Fr h₀ L _ m => kF
  rename News h₀ L _ _ => kN
  rw [List.append_nil] at kN
  refine hret _ _ _ _ ?_ kF (news_sub kN (by kcf_all))
  exact List.forall_mem_cons.mpr ⟨l3.1, List.forall_mem_cons.mpr ⟨l3.2.1, of_allLt l3.2.2⟩⟩
theorem pop0_spec {r dx : Addr} {its : List Value} {k n : Nat} {es : List DictEntry}
  (H : Here w pp loose mean mg mb A₀ base h₀ outer env L m s.heap ((r, accObj 100 dx its.toArray k) :: (dx, dictOf es n) :: news))
  (hne : dx ≠ r) (hr : ∀ q ∈ news, q.1 ≠ r) (hlen : its.length ≤ 100)
  (hd : dp + 5 < recursionLimit) (hu : un + 40 < cLine) 
  (hret : ∀ (D : Addr) (k' : Nat) (h' : Heap) (tk' : Nat), (∀ p ∈ (r, accObj 100 dx its.toArray k) :: (dx, dictOf es n) :: news, p.1 < D) → Fr h₀ L h' m → News h₀ L h' ((r, accObj 100 dx [].toArray k') :: (dx, dictOf es n) :: (D, listOf its.toArray 0) :: news) → Q (.ref D) { s with heap := h', toks := tk' }) :
  wpAny (model PySem.Challenge.pw_xp0023_01 w) (aTop dp un gd env outer) (call (.ref 53) [.ref r]) Q E s := by
  w_top off
  obtain ⟨B, F, X, N, T, hf, hk⟩ := H
  refine wpAny_call ?_
  k_dflt ((refine' code_def ?k1x87 ?k2x87 ?k3x87 ?k4x87 ?k5x87 ?kAx87 ?kFx87 ?kKx87 ?k6x87 ?k7x87 ?k8x87 ?k9x87 ?kBx87 ?_ ?c2x87 ?c3x87 ?c4x87 ?c5x87; (case kAx87 => exact rfl); (case kFx87 => first | assumption | exact rfl); (case kKx87 => first | assumption | exact rfl); (case k1x87 => k_asm); (case k2x87 => k_asm); (case k3x87 => k_asm); (case k4x87 => k_asm); (case k5x87 => k_asm); (case k6x87 => k_is); (case k7x87 => k_is); (case k8x87 => ktr_room); (case k9x87 => first | exact BindsTo.of_eq rfl | exact binds_K (by k_in) rfl (by k_is) rfl rfl rfl); (case c5x87 => decide); (case kBx87 => exact locs rfl); (case c2x87 => exact rfl); (case c3x87 => exact rfl); (case c4x87 => exact rfl); k_whole; intro _ _ _ _ _ _ _ _ _; (try dsimp only); (try k_fold)))
  (repeat' ((fail_if_success (with_reducible show wpAny _ _ (exec (Stmt.While _ _ _ _) _) _ _ _)); (fail_if_success (with_reducible show wpAny _ _ (pyIter _) _ _ _)); first | (k_unfold; (try dsimp only)) | walk1 | (dsimp only; walk1) | fail "no step"))
  rename_i D h4 l3 h5 v h6 F6 N6 l6
  refine' acc_setSliceP (K := Mine.hd.heap_1 _) (C := 100) (dx := dx) (vs := its) (ys := []) (nn := 0) (a := 0) F6 ?X N6 (acc100 _) (items100 _) ?h2 (.int 0 _) (bounds_from (by omega) (by omega)) (by omega) ?h3 ?hv (by omega) (by simp) (fun k' => ?U) fun h' k' F7 N7 => ?_
  case X => k_asm
  case h2 => kcf_m
  case h3 => kcf_m
  case hv => exact Nat.ne_of_gt l6.2.1
  case U => exact Upd.tail (Nat.ne_of_gt l6.2.1) (Upd.tail (Nat.ne_of_gt l3.1) (Upd.head (List.forall_mem_cons.mpr ⟨hne, hr⟩)))
  clear F6 N6
  rw [pick_from its (by omega) (by omega)] at N7
  (repeat' ((fail_if_success (with_reducible show wpAny _ _ (exec (Stmt.While _ _ _ _) _) _ _ _)); (fail_if_success (with_reducible show wpAny _ _ (pyIter _) _ _ _)); first | (k_unfold; (try dsimp only)) | walk1 | (dsimp only; walk1) | fail "no step"))
  rename Fr h₀ L _ m => kF
  rename News h₀ L _ _ => kN
  rw [List.append_nil] at kN
  refine hret _ _ _ _ ?_ kF (news_sub kN (by kcf_all))
  exact List.forall_mem_cons.mpr ⟨l3.1, List.forall_mem_cons.mpr ⟨l3.2.1, of_allLt l3.2.2⟩⟩
end

section
local macro_rules | `(tactic| walk_at "setAttr ref") => `(tactic| (k_here; k_dflt (refine' Mine.set_dictL (K := Mine.hd.heap_1 _) (C := 100) ?k1 ?k2 ?k3 ?h1 ?h2 ?k7 ?k8 ?k9 ?k10 ?k11 ?k12 ?k13 ?_; (case k1 => k_asm); (case k2 => k_asm); (case k3 => k_asm); (case h1 => kcf_m); (case h2 => kcf_m); (case k7 => k_is); (case k8 => exact Mine.acc100 _); (case k9 => k_is); (case k10 => k_get); (case k11 => k_put); (case k12 => k_upd); (case k13 => exact Nat.le_of_ble_eq_true rfl); k_whole; intro h' F' N'; (try k_sweep))))
theorem reset_spec {r dx v : Addr} {its ys : List Value} {k nn n : Nat} {tk0 : Tok} {v0 : Value}
  (H : Here w pp loose mean mg mb A₀ base h₀ outer env L m s.heap ((r, accObj 100 dx its.toArray k) :: (dx, dictOf (isD w tk0 v0) n) :: news))
  (hv : (v, listOf ys.toArray nn) ∈ news) (hne : dx ≠ r) (hr : ∀ q ∈ news, q.1 ≠ r) (hdx : ∀ q ∈ news, q.1 ≠ dx) (hlen : its.length ≤ 100) (hlen2 : ys.length ≤ 100)
  (hd : dp + 5 < recursionLimit) (hu : un + 40 < cLine) 
  (hret : ∀ (k' : Nat) (t1 : Tok) (h' : Heap) (tk' : Nat), Fr h₀ L h' m → News h₀ L h' ((r, accObj 100 dx ys.toArray k') :: (dx, dictOf (isD w tk0 (.int 0 t1)) n) :: news) → Q .none { s with heap := h', toks := tk' }) :
  wpAny (model PySem.Challenge.pw_xp0023_01 w) (aTop dp un gd env outer) (call (.ref 82) [.ref r, .ref v]) Q E s := by
  w_top off
  obtain ⟨B, F, X, N, T, hf, hk⟩ := H
  have hvr := hr _ hv
  refine wpAny_call ?_
  k_dflt ((refine' code_def ?k1x90 ?k2x90 ?k3x90 ?k4x90 ?k5x90 ?kAx90 ?kFx90 ?kKx90 ?k6x90 ?k7x90 ?k8x90 ?k9x90 ?kBx90 ?_ ?c2x90 ?c3x90 ?c4x90 ?c5x90; (case kAx90 => exact rfl); (case kFx90 => first | assumption | exact rfl); (case kKx90 => first | assumption | exact rfl); (case k1x90 => k_asm); (case k2x90 => k_asm); (case k3x90 => k_asm); (case k4x90 => k_asm); (case k5x90 => k_asm); (case k6x90 => k_is); (case k7x90 => k_is); (case k8x90 => ktr_room); (case k9x90 => first | exact BindsTo.of_eq rfl | exact binds_K (by k_in) rfl (by k_is) rfl rfl rfl); (case c5x90 => decide); (case kBx90 => exact locs rfl); (case c2x90 => exact rfl); (case c3x90 => exact rfl); (case c4x90 => exact rfl); k_whole; intro _ _ _ _ _ _ _ _ _; (try dsimp only); (try k_fold)))
  (repeat' ((fail_if_success (with_reducible show wpAny _ _ (exec (Stmt.While _ _ _ _) _) _ _ _)); (fail_if_success (with_reducible show wpAny _ _ (pyIter _) _ _ _)); first | (k_unfold; (try dsimp only)) | walk1 | (dsimp only; walk1) | fail "no step"))
  rename Fr _ _ _ _ => F6
  rename News _ _ _ _ => N6
  refine' acc_setSliceP (K := Mine.hd.heap_1 _) (C := 100) (dx := dx) (vs := its) (ys := ys) (nn := nn) (a := 0) F6 ?X N6 (acc100 _) (items100 _) ?h2 .none bounds_all (by omega) ?h3 ?hv (by omega) (by omega) (fun k' => ?U) fun h' k' F7 N7 => ?_
  case X => k_asm
  case h2 => kcf_m
  case h3 => kcf_m
  case hv => exact hvr
  case U => exact Upd.head (List.forall_mem_cons.mpr ⟨hne, hr⟩)
  clear F6 N6
  (repeat' ((fail_if_success (with_reducible show wpAny _ _ (exec (Stmt.While _ _ _ _) _) _ _ _)); (fail_if_success (with_reducible show wpAny _ _ (pyIter _) _ _ _)); first | (k_unfold; (try dsimp only)) | walk1 | (dsimp only; walk1) | fail "no step"))
  rename Fr _ _ _ _ => F8
  rename News _ _ _ _ => N8
  have F8' := F8
  refine' Mine.set_dictL (K := Mine.hd.heap_1 _) (C := 100) F8 ?X N8 ?h1 ?h2 ?k7 (Mine.acc100 _) ?k9 ?k10 ?k11 ?k12 ?k13 ?_
  case X => k_asm
  case h1 => kcf_m
  case h2 => kcf_m
  case k7 => k_is
  case k9 => k_is
  case k10 => rfl
  case k11 => first | k_put | rfl
  case k12 => exact Upd.tail (fun e => hne e.symm) (Upd.head hdx)
  case k13 => exact Nat.le_of_ble_eq_true rfl
  clear F8 N8 F8'
  intro h9 F9 N9
  dsimp only
  (repeat' ((fail_if_success (with_reducible show wpAny _ _ (exec (Stmt.While _ _ _ _) _) _ _ _)); (fail_if_success (with_reducible show wpAny _ _ (pyIter _) _ _ _)); first | (k_unfold; (try dsimp only)) | walk1 | (dsimp only; walk1) | fail "no step"))
  rename Fr h₀ L _ m => kF
  rename News h₀ L _ _ => kN
  exact hret _ _ _ _ kF kN
end

section
local macro_rules | `(tactic| walk_at "my.other") => `(tactic| skip)
local macro_rules | `(tactic| walk_at "getAttr ref") => `(tactic| (k_here; (refine' Mine.get_ownL (K := Mine.hd.heap_1 _) (C := 100) ?F ?X ?N ?h1 ?h2 (Mine.acc100 _) (Mine.ga100 _) ?hh ?ha ?hn ?hl ?hv ?_; (case F => k_asm); (case X => k_asm); (case N => k_asm); (case h1 => assumption); (case h2 => assumption); (case hh => k_is); (case ha => k_is); (case hn => k_is); (case hl => rfl); (case hv => rfl))))
noncomputable abbrev tupS (a : Str) (t1 : Tok) (b : Str) (t2 : Tok) : Obj := { cls := .type "tuple", data := .seq [.str a t1, .str b t2].toArray }
theorem len_spec {r dx : Addr} {its : List Value} {k n : Nat} {ps : Array Value} {g : Obj → List (Addr × Obj)} {Ts : Nat → Addr} {va vb : Nat → Str} {ta tb : Nat → Tok} {tk0 t0 : Tok}
  (H : Here w pp loose mean mg mb A₀ base h₀ outer env L m s.heap news) (C3 : CodeHd base 66 62) (U : UpdF 62 (tabObj ps) news g) (ht : TriplesOk ps.toList) (G0 : AllBare s.gens)
  (h1 : (r, accObj 100 dx its.toArray k) ∈ news) (h2 : (dx, dictOf (isD w tk0 (.int 0 t0)) n) ∈ news)
  (hit : ∀ j, j < its.length → its[j]? = some (.ref (Ts j))) (htup : ∀ j, j < its.length → (Ts j, tupS (va j) (ta j) (vb j) (tb j)) ∈ news)
  (hsa : ∀ j, j < its.length → (va j).length ≤ 1000000) (hsb : ∀ j, j < its.length → (vb j).length ≤ 1000000)
  (hd : dp + 8 < recursionLimit) (hu : un + 40 < cLine)
  (hret : ∀ (s' : Shared) (t : Tok) (ps' : Array Value), Fr h₀ L s'.heap m → TriplesOk ps'.toList → News h₀ L s'.heap (g (tabObj ps')) → AllBare s'.gens → s'.os = s.os → Q (.int (preSum (fun j => (((va j).length + (vb j).length : Nat) : Int)) its.length) t) s') :
  wpAny (model PySem.Challenge.pw_xp0023_01 w) (aTop dp un gd env outer) (call (.ref 67) [.ref r]) Q E s := by
  w_top off
  obtain ⟨B, F, X, N, T, hf, hk⟩ := H
  refine wpAny_call ?_
  k_dflt ((refine' code_def ?k1x94 ?k2x94 ?k3x94 ?k4x94 ?k5x94 ?kAx94 ?kFx94 ?kKx94 ?k6x94 ?k7x94 ?k8x94 ?k9x94 ?kBx94 ?_ ?c2x94 ?c3x94 ?c4x94 ?c5x94; (case kAx94 => exact rfl); (case kFx94 => first | assumption | exact rfl); (case kKx94 => first | assumption | exact rfl); (case k1x94 => k_asm); (case k2x94 => k_asm); (case k3x94 => k_asm); (case k4x94 => k_asm); (case k5x94 => k_asm); (case k6x94 => k_is); (case k7x94 => k_is); (case k8x94 => ktr_room); (case k9x94 => first | exact BindsTo.of_eq rfl | exact binds_K (by k_in) rfl (by k_is) rfl rfl rfl); (case c5x94 => decide); (case kBx94 => exact locs rfl); (case c2x94 => exact rfl); (case c3x94 => exact rfl); (case c4x94 => exact rfl); k_whole; intro _ _ _ _ _ _ _ _ _; (try dsimp only); (try k_fold)))
  (repeat' ((fail_if_success (with_reducible show wpAny _ _ (exec (Stmt.While _ _ _ _) _) _ _ _)); (fail_if_success (with_reducible show wpAny _ _ (pyIter _) _ _ _)); first | (k_unfold; (try dsimp only)) | walk1 | (dsimp only; walk1) | fail "no step"))
  rename Fr _ _ _ _ => F6
  rename News _ _ _ _ => N6
  rename Top _ _ _ _ _ _ => T6
  rename Below _ _ _ _ => B6
  rename Frag.In _ _ => X6
  refine' gen_acc (K := Mine.hd.heap_1 _) (C := 100) (c := 66) (P := 62) (va := fun j => .str (va j) (ta j)) (vb := fun j => .str (vb j) (tb j)) (Fy := fun i v => ∃ t, v = .int ((va i).length + (vb i).length : Nat) t) F6 X6 T6 N6 (C3.keeps B6.stays) rfl U ht h1 h2 (acc100 _) (items100 _) ?hit ?htup rfl G0 rfl rfl ?hclos ?hcell ?h0 ?hxa ?hxb ?hab ?hkind ?hroom ?hiter ?helt ?hQ ?hs
  case hit => intro j hj; rw [List.getElem?_toArray]; exact hit j (by simpa using hj)
  case htup => intro j hj; exact ⟨_, (N6 _ (htup j (by simpa using hj))).1, rfl, _, rfl⟩
  case hclos => rfl
  case hcell => decide
  case h0 => rfl
  case hxa => rfl
  case hxb => rfl
  case hab => decide
  case hkind => rfl
  case hroom => ktr_room
  case hs => intro _; rfl
  case hiter =>
    intro Q' hQ'
    (repeat' ((fail_if_success (with_reducible show wpAny _ _ (exec (Stmt.While _ _ _ _) _) _ _ _)); (fail_if_success (with_reducible show wpAny _ _ (pyIter _) _ _ _)); first | (k_unfold; (try dsimp only)) | walk1 | (dsimp only; walk1) | fail "no step"))
    exact hQ'
  case helt =>
    intro A' E' i s₂ m₂ C' code hA hLC hi hn ha hb hk
    have F8 : Fr _ C' s₂.heap m₂ := ⟨hn, hk, Nat.le_trans F6.above (Nat.le_of_lt hLC)⟩
    clear F6 N6
    refine wpAny_BinOp ?_
    refine gn_len F8 X6 T6 (by k_is) ha (hsa i (by simpa using hi)) rfl rfl rfl rfl (by decide) ?_
    refine gn_len (s := { s₂ with toks := s₂.toks + 1 + 1 }) F8 X6 T6 (by k_is) hb (hsb i (by simpa using hi)) rfl rfl rfl rfl (by decide) ?_
    refine wpAny_add_int ?_
    exact ⟨⟨_, by rw [Int.natCast_add]⟩, _, _, rfl, fun _ _ e => e⟩
  case hQ =>
    intro a s₅ Kk ps' F7 ht7 N7 G7 os7 hL7 hle7 X7
    have h1' : (r, accObj 100 dx its.toArray k) ∈ g (tabObj ps') := updF_mem U h1 (fun e => by cases e)
    have h2' : (dx, dictOf (isD w tk0 (.int 0 t0)) n) ∈ g (tabObj ps') := updF_mem U h2 (fun e => by cases e)
    clear F6 N6
    (repeat' ((fail_if_success (with_reducible show wpAny _ _ (exec (Stmt.While _ _ _ _) _) _ _ _)); (fail_if_success (with_reducible show wpAny _ _ (pyIter _) _ _ _)); first | (k_unfold; (try dsimp only)) | walk1 | (dsimp only; walk1) | fail "no step"))
    refine sum2_gen F7 G7 (gen_later X7 rfl (Nat.le_succ _)) hL7 (fun j => (((va j).length + (vb j).length : Nat) : Int)) (fun j v h => h) fun s' t' F9 G9 os9 k9 => ?_
    have N9 := News.kept N7 hle7 k9
    clear F7 N7
    (repeat' ((fail_if_success (with_reducible show wpAny _ _ (exec (Stmt.While _ _ _ _) _) _ _ _)); (fail_if_success (with_reducible show wpAny _ _ (pyIter _) _ _ _)); first | (k_unfold; (try dsimp only)) | walk1 | (dsimp only; walk1) | fail "no step"))
    rename Fr h₀ L _ m => kF
    rename News h₀ L _ _ => kN
    rw [List.size_toArray]
    exact hret _ _ _ kF ht7 kN G9 (os9.trans os7)
end

section
theorem str_spec {r dx : Addr} {its : List Value} {k n : Nat} {es : List DictEntry} {ps : Array Value} {g : Obj → List (Addr × Obj)} {Ts : Nat → Addr} {va vb : Nat → Str} {ta tb : Nat → Tok} {tk0 t0 : Tok}
  (H : Here w pp loose mean mg mb A₀ base h₀ outer env L m s.heap news) (C3 : CodeHd base 73 69) (U : UpdF 69 (tabObj ps) news g) (ht : TriplesOk ps.toList) (G0 : AllBare s.gens)
  (h1 : (r, accObj 100 dx its.toArray k) ∈ news) (h2 : (dx, dictOf es n) ∈ news) (hlen : its.length ≤ 100)
  (hit : ∀ j, j < its.length → its[j]? = some (.ref (Ts j))) (htup : ∀ j, j < its.length → (Ts j, tupS (va j) (ta j) (vb j) (tb j)) ∈ news)
  (hsa : ∀ j, j < its.length → (va j).length ≤ 1000) (hsb : ∀ j, j < its.length → (vb j).length ≤ 1000)
  (hd : dp + 8 < recursionLimit) (hu : un + 40 < cLine)
  (hret : ∀ (s' : Shared) (t : Tok) (Y : Str) (ps' : Array Value), Y.cps.toList = ((List.range its.length).map fun j => (va j).cps.toList ++ (vb j).cps.toList).flatten → Fr h₀ L s'.heap m → TriplesOk ps'.toList → News h₀ L s'.heap (g (tabObj ps')) → AllBare s'.gens → s'.os = s.os → Q (.str Y t) s') :
  wpAny (model PySem.Challenge.pw_xp0023_01 w) (aTop dp un gd env outer) (call (.ref 74) [.ref r]) Q E s := by
  w_top off
  obtain ⟨B, F, X, N, T, hf, hk⟩ := H
  refine wpAny_call ?_
  k_dflt ((refine' code_def ?k1x99 ?k2x99 ?k3x99 ?k4x99 ?k5x99 ?kAx99 ?kFx99 ?kKx99 ?k6x99 ?k7x99 ?k8x99 ?k9x99 ?kBx99 ?_ ?c2x99 ?c3x99 ?c4x99 ?c5x99; (case kAx99 => exact rfl); (case kFx99 => first | assumption | exact rfl); (case kKx99 => first | assumption | exact rfl); (case k1x99 => k_asm); (case k2x99 => k_asm); (case k3x99 => k_asm); (case k4x99 => k_asm); (case k5x99 => k_asm); (case k6x99 => k_is); (case k7x99 => k_is); (case k8x99 => ktr_room); (case k9x99 => first | exact BindsTo.of_eq rfl | exact binds_K (by k_in) rfl (by k_is) rfl rfl rfl); (case c5x99 => decide); (case kBx99 => exact locs rfl); (case c2x99 => exact rfl); (case c3x99 => exact rfl); (case c4x99 => exact rfl); k_whole; intro _ _ _ _ _ _ _ _ _; (try dsimp only); (try k_fold)))
  (repeat' ((fail_if_success (with_reducible show wpAny _ _ (exec (Stmt.While _ _ _ _) _) _ _ _)); (fail_if_success (with_reducible show wpAny _ _ (pyIter _) _ _ _)); first | (k_unfold; (try dsimp only)) | walk1 | (dsimp only; walk1) | fail "no step"))
  rename Fr _ _ _ _ => F6
  rename News _ _ _ _ => N6
  rename Top _ _ _ _ _ _ => T6
  rename Below _ _ _ _ => B6
  rename Frag.In _ _ => X6
  refine' gen_acc (K := Mine.hd.heap_1 _) (C := 100) (c := 73) (P := 69) (va := fun j => .str (va j) (ta j)) (vb := fun j => .str (vb j) (tb j)) (Fy := fun i v => ∃ t, v = .str (Txt.join "" [va i, vb i]) t) F6 X6 T6 N6 (C3.keeps B6.stays) rfl U ht h1 h2 (acc100 _) (items100 _) ?hit ?htup rfl G0 rfl rfl ?hclos ?hcell ?h0 ?hxa ?hxb ?hab ?hkind ?hroom ?hiter ?helt ?hQ ?hs
  case hit => intro j hj; rw [List.getElem?_toArray]; exact hit j (by simpa using hj)
  case htup => intro j hj; exact ⟨_, (N6 _ (htup j (by simpa using hj))).1, rfl, _, rfl⟩
  case hclos => rfl
  case hcell => decide
  case h0 => rfl
  case hxa => rfl
  case hxb => rfl
  case hab => decide
  case hkind => rfl
  case hroom => ktr_room
  case hs => intro _; rfl
  case hiter =>
    intro Q' hQ'
    (repeat' ((fail_if_success (with_reducible show wpAny _ _ (exec (Stmt.While _ _ _ _) _) _ _ _)); (fail_if_success (with_reducible show wpAny _ _ (pyIter _) _ _ _)); first | (k_unfold; (try dsimp only)) | walk1 | (dsimp only; walk1) | fail "no step"))
    exact hQ'
  case helt =>
    intro A' E' i s₂ m₂ C' code hA hLC hi hn ha hb hk
    have F8 : Fr _ C' s₂.heap m₂ := ⟨hn, hk, Nat.le_trans F6.above (Nat.le_of_lt hLC)⟩
    clear F6 N6
    refine gn_join (by rfl) F8 X6 T6 (by k_is) ha hb (hsa i (by simpa using hi)) (hsb i (by simpa using hi)) rfl rfl rfl rfl rfl (by decide) (by decide) fun t' k h' hk' => ?_
    exact ⟨⟨_, rfl⟩, _, _, rfl, hk'⟩
  case hQ =>
    intro a s₅ Kk ps' F7 ht7 N7 G7 os7 hL7 hle7 X7
    clear F6 N6
    (repeat' ((fail_if_success (with_reducible show wpAny _ _ (exec (Stmt.While _ _ _ _) _) _ _ _)); (fail_if_success (with_reducible show wpAny _ _ (pyIter _) _ _ _)); first | (k_unfold; (try dsimp only)) | walk1 | (dsimp only; walk1) | fail "no step"))
    rw [List.size_toArray] at X7
    refine join_rowsK F7 G7 X7 hL7 (fun j => Txt.join "" [va j, vb j]) (fun j v h => h) (gen_joinOk hlen hsa hsb) (fun s' t' F9 G9 os9 k9 => ?_) (by rw [sizeLine_eq]; omega)
    have N9 := News.kept N7 hle7 k9
    clear F7 N7
    (repeat' ((fail_if_success (with_reducible show wpAny _ _ (exec (Stmt.While _ _ _ _) _) _ _ _)); (fail_if_success (with_reducible show wpAny _ _ (pyIter _) _ _ _)); first | (k_unfold; (try dsimp only)) | walk1 | (dsimp only; walk1) | fail "no step"))
    rename Fr h₀ L _ m => kF
    rename News h₀ L _ _ => kN
    refine hret _ _ _ _ ?_ kF ht7 kN G9 (os9.trans os7)
    rw [tjoin_flat, List.map_map]
    congr 1
    refine List.map_congr_left fun j hj => ?_
    exact tjoin2_flat _ _
end

end

section
local macro_rules | `(tactic| walk_at "subscriptTail") => `(tactic| (k_here; (with_reducible show wpAny _ _ (subscriptTail (PySem.Expr.List _ _) (PySem.Expr.Slice (some _) none none _) (Value.ref _) (Value.ref _)) _ _ _); k_dflt (refine' Mine.sl_fromT ?F ?N ?l ?i ?h0 ?z ?_ ?s; (case F => k_asm); (case N => k_asm); (case l => is_list); (case i => l_ints); (case h0 => omega); (case z => (simp; done)); (case s => with_unfolding_all rfl)); intro D' ws' h' F' N' l1 hI'; (try k_lt l1); (try k_sweep)))
local macro_rules | `(tactic| walk_at "subscriptTail List Slice ref ref") => `(tactic| walk_at "subscriptTail")

section
noncomputable def rowStr : Str := "&<>\ramp;#xD"
noncomputable def sgAt (d1 : Int) (k : Nat) : Str := rowS.getD ((d1.fdiv 5 + (k : Int)).fmod 11).toNat (Str.ofString "&")
inductive ItsAre (d1 : Int) (zs : List (Addr × Obj)) : List Value → List Int → Prop
  | nil : ItsAre d1 zs [] []
  | cons {T : Addr} {x : Int} {ta tb : Tok} {Y : Str} {vs : List Value} {xs : List Int} : (T, tupS (Str.ofString "") ta Y tb) ∈ zs → Y.cps.toList = escL (sgAt d1 x.toNat).cps.toList → ItsAre d1 zs vs xs → ItsAre d1 zs (.ref T :: vs) (x :: xs)
theorem ItsAre.length {d1 : Int} {zs : List (Addr × Obj)} {vs : List Value} {xs : List Int} (h : ItsAre d1 zs vs xs) : vs.length = xs.length := by
  induction h with
  | nil => rfl
  | cons _ _ _ ih => simp [ih]
theorem ItsAre.mono {d1 : Int} {zs zs' : List (Addr × Obj)} {vs : List Value} {xs : List Int} (h : ItsAre d1 zs vs xs) (hs : ∀ q ∈ zs, q ∈ zs') : ItsAre d1 zs' vs xs := by
  induction h with
  | nil => exact .nil
  | cons a b _ ih => exact .cons (hs _ a) b ih
theorem ItsAre.append {d1 : Int} {zs : List (Addr × Obj)} {vs vs' : List Value} {xs xs' : List Int} (h : ItsAre d1 zs vs xs) (h' : ItsAre d1 zs vs' xs') : ItsAre d1 zs (vs ++ vs') (xs ++ xs') := by
  induction h with
  | nil => exact h'
  | cons a b _ ih => exact .cons a b ih
theorem ItsAre.take {d1 : Int} {zs : List (Addr × Obj)} {vs : List Value} {xs : List Int} (h : ItsAre d1 zs vs xs) : ∀ n, ItsAre d1 zs (vs.take n) (xs.take n) := by
  induction h with
  | nil => intro n; simp; exact .nil
  | cons a b _ ih =>
    intro n
    cases n with
    | zero => simp; exact .nil
    | succ n => simp; exact .cons a b (ih n)
theorem ItsAre.drop {d1 : Int} {zs : List (Addr × Obj)} {vs : List Value} {xs : List Int} (h : ItsAre d1 zs vs xs) : ∀ n, ItsAre d1 zs (vs.drop n) (xs.drop n) := by
  induction h with
  | nil => intro n; simp; exact .nil
  | cons a b c ih =>
    intro n
    cases n with
    | zero => simp; exact .cons a b c
    | succ n => simp; exact ih n
theorem ItsAre.snoc {d1 : Int} {zs : List (Addr × Obj)} {vs : List Value} {xs : List Int} {T : Addr} {x : Int} {ta tb : Tok} {Y : Str} (h : ItsAre d1 zs vs xs) (a : (T, tupS (Str.ofString "") ta Y tb) ∈ zs) (b : Y.cps.toList = escL (sgAt d1 x.toNat).cps.toList) :
    ItsAre d1 zs (vs ++ [.ref T]) (xs ++ [x]) := h.append (.cons a b .nil)
theorem ItsAre.rot {d1 : Int} {zs : List (Addr × Obj)} {vs : List Value} {xs : List Int} {k mv : Nat} (h : ItsAre d1 zs vs xs) :
    ItsAre d1 zs ((vs.drop (k - mv)).take mv ++ vs.take (k - mv) ++ vs.drop k) (rotK k mv xs) := (((h.drop _).take _).append (h.take _)).append (h.drop _)
theorem item_row {i : Int} (h0 : 0 ≤ i) (h1 : i < 11) : Txt.item rowStr i = rowS.getD i.toNat (Str.ofString "&") := by
  obtain ⟨n, rfl⟩ := Int.eq_ofNat_of_zero_le h0
  have hn : n < 11 := by omega
  clear h0 h1
  have key : ∀ n : Fin 11, Txt.item rowStr (n.val : Int) = rowS.getD (n.val : Int).toNat (Str.ofString "&") := by decide +kernel
  exact key ⟨n, hn⟩
theorem strs_to {vs : List Value} {a b : List Str} (h : StrsAre vs a) (e : a = b) : StrsAre vs b := e ▸ h
theorem off1_mem {D : Addr} {l : List (Addr × Obj)} (h : LCg.Off1 D l) : ∀ p ∈ l, p.1 ≠ D := by
  induction l with
  | nil => intro p hp; cases hp
  | cons a r ih =>
    intro p hp
    rcases List.mem_cons.mp hp with rfl | hp
    · exact h.1
    · exact ih h.2 p hp
theorem gen_toks {prog : Program} {w : World} {A : Around} {α : Type} {t : Sem α} {Q : α → Shared → Prop} {h : Heap} {g : Array GenState} {d : Drawn} {X : Nat} {o : OsState} (hh : ∀ tk, wpR (model prog w) A t Q ⟨h, g, d, tk, o⟩) : wpR (model prog w) A t Q ⟨h, g, d, X, o⟩ := hh X
noncomputable abbrev lawEnv (L fa : Addr) (cd : Value) : Env := envOfC (Str.ofString "law") lawParts.1.2.2.2 L fa cd
theorem ints_at {vs : List Value} {xs : List Int} (h : IntsAre vs xs) : ∀ {i : Nat} {v : Value}, vs[i]? = some v → ∃ x t, xs[i]? = some x ∧ v = .int x t := by
  intro i v
  induction h generalizing i with
  | nil => intro e; simp at e
  | cons x t _ ih =>
    intro e
    cases i with
    | zero => simp at e; exact ⟨x, t, by simp, e.symm⟩
    | succ i => simp at e; obtain ⟨y, t, h1, h2⟩ := ih e; exact ⟨y, t, by simpa using h1, h2⟩
noncomputable def StepsBy (hs : List Int) : Prop := ∀ j, j + 1 < hs.length → hs.getD (j + 1) 0 = hs.getD j 0 + 1 ∨ hs.getD (j + 1) 0 = hs.getD j 0 - 1
theorem StepsBy.one {x : Int} : StepsBy [x] := fun j h => by simp at h
theorem getD_left {a b : List Int} {j : Nat} (h : j < a.length) : (a ++ b).getD j 0 = a.getD j 0 := by
  rw [List.getD_eq_getElem?_getD, List.getD_eq_getElem?_getD, List.getElem?_append_left h]
theorem getD_last {a : List Int} {z : Int} : (a ++ [z]).getD a.length 0 = z := by
  rw [List.getD_eq_getElem?_getD, List.getElem?_append_right (Nat.le_refl _), Nat.sub_self]
  rfl
theorem steps_snoc {hs : List Int} {z : Int} (h : StepsBy hs) (hz : z = hs.getD (hs.length - 1) 0 + 1 ∨ z = hs.getD (hs.length - 1) 0 - 1) : StepsBy (hs ++ [z]) := by
  intro j hj
  rw [List.length_append, List.length_singleton] at hj
  by_cases e : j + 1 < hs.length
  · rw [getD_left e, getD_left (by omega)]
    exact h j e
  · rw [getD_left (show j < hs.length by omega), show j + 1 = hs.length by omega, getD_last, show j = hs.length - 1 by omega]
    exact hz
theorem step_val {hs : List Int} {a : Nat} {r : Int} (ha : a = hs.length - 1) (h0 : 0 ≤ r) (h1 : r < 2) : hs.getD a 0 + 1 - 2 * r = hs.getD (hs.length - 1) 0 + 1 ∨ hs.getD a 0 + 1 - 2 * r = hs.getD (hs.length - 1) 0 - 1 := by
  subst ha
  omega
theorem bd_snoc {hs : List Int} {i a : Nat} {r : Int} (h : ∀ x ∈ hs, -1000000000000 - (i : Int) ≤ x ∧ x ≤ 1000000000000 + (i : Int)) (ha : a < hs.length) (h0 : 0 ≤ r) (h1 : r < 2) :
    ∀ x ∈ hs ++ [hs.getD a 0 + 1 - 2 * r], -1000000000000 - ((i + 1 : Nat) : Int) ≤ x ∧ x ≤ 1000000000000 + ((i + 1 : Nat) : Int) := by
  have hm : hs.getD a 0 ∈ hs := by
    rw [List.getD_eq_getElem?_getD, List.getElem?_eq_getElem ha]
    exact List.getElem_mem ha
  have := h _ hm
  intro x hx
  rcases List.mem_append.mp hx with hx | hx
  · have := h _ hx
    omega
  · rw [List.mem_singleton.mp hx]
    omega
theorem getD_mem {hs : List Int} {a : Nat} (ha : a < hs.length) : hs.getD a 0 ∈ hs := by
  rw [List.getD_eq_getElem?_getD, List.getElem?_eq_getElem ha]
  exact List.getElem_mem ha
theorem off3_mem {I C D : Addr} {l : List (Addr × Obj)} (h : LCg.Off3 I C D l) : ∀ p ∈ l, (@Ne Nat p.1 I) ∧ (@Ne Nat p.1 C) ∧ (@Ne Nat p.1 D) := by
  induction l with
  | nil => intro p hp; cases hp
  | cons a r ih =>
    intro p hp
    rcases List.mem_cons.mp hp with rfl | hp
    · exact h.1
    · exact ih h.2 p hp
theorem off3_of {I C D : Addr} {l : List (Addr × Obj)} (h : ∀ p ∈ l, (@Ne Nat p.1 I) ∧ (@Ne Nat p.1 C) ∧ (@Ne Nat p.1 D)) : LCg.Off3 I C D l := by
  induction l with
  | nil => trivial
  | cons a r ih => exact ⟨h a (.head _), ih fun p hp => h p (.tail _ hp)⟩
noncomputable abbrev lawFr (SL HR TB : Addr) (u1 u2 : Option Value) (pl : Array UInt8) (tpl : Tok) (v : Nat → Option Value) : List (Str × Option Value) := [("script", some (.ref SL)), ("first", u1), ("hours", some (.ref HR)), ("move", u2), ("tables", some (.ref TB)), ("pile", some (.bytes pl tpl)), ("step", v 0), ("told", v 1), ("front", v 2), ("ring", v 3), ("sign", v 4), ("again", v 5), ("k", v 6), ("figure", v 7), ("cut", v 8), ("due", v 9), ("written", v 10)]
noncomputable abbrev lawLed (L HR SG TB : Nat) (c4 c3 c2 c1 : Obj) (hv sgv tbv : List Value) (nn nsg ntb : Nat) (ps1 ps2 pa pb : Array Value) (tl : List (Addr × Obj)) : List (Addr × Obj) :=
  (L + 1 + 1 + 1 + 1, c4) :: (L + 1 + 1 + 1, c3) :: (L + 1 + 1, c2) :: (L + 1, c1) :: (HR, listOf hv.toArray nn) :: (SG, listOf sgv.toArray nsg) :: (TB, listOf tbv.toArray ntb) :: (62, tabObj ps1) :: (69, tabObj ps2) :: (120, tabObj pa) :: (127, tabObj pb) :: tl
theorem item_rule {prog : Program} {w : World} {A : Around} {E : Value → Shared → Prop} {s : Shared} {value slice : PySem.Expr} {l : Addr} {vs : List Value} {k : Int} {u : Tok} {v : Value} {Q : Value → Shared → Prop}
    (hl : s.heap.IsList l vs.toArray) (h0 : 0 ≤ k) (hhi : k < 2 ^ 63) (hx : vs[k.toNat]? = some v) (h : Q v s)
    (hs : subscripted slice false (.ref l) (.int k u) = operate [.ref l, .int k u] (getItem (.ref l) (.int k u)) := by with_unfolding_all rfl) :
    wpAny (model prog w) A (subscriptTail value slice (.ref l) (.int k u)) Q E s :=
  tail_any hl.typeIs slot_list_getitem.lookup (wpAny_getItem_list hl h0 hhi (by simpa using hx) h) hs
theorem front_of {h p x : Int} (hp : 4 ≤ p) (h1 : 2 ≤ x) (h2 : x ≤ ((toldSpec h p.toNat).length : Int)) (h3 : ∀ j : Int, 2 ≤ j → j < x → (toldSpec h p.toNat).getD (((toldSpec h p.toNat).length : Int) + 1 - j).toNat 0 = 0)
    (h4 : x = ((toldSpec h p.toNat).length : Int) ∨ (toldSpec h p.toNat).getD (((toldSpec h p.toNat).length : Int) + 1 - x).toNat 0 ≠ 0) : FrontOf h p.toNat x ∧ x ≤ p := by
  rw [toldSpec_length (by omega)] at h2 h3 h4
  exact ⟨⟨h1, h2, h3, h4⟩, by omega⟩
theorem way_up {hs : List Int} {i : Nat} {p x : Int} (hst : StepsBy hs) (hi0 : 0 < 0 + (i : Int) * 1) (hi : i < hs.length) (hlt : hs.getD (0 + (i : Int) * 1 - 1).toNat 0 < hs.getD (0 + (i : Int) * 1).toNat 0) (hp : 4 ≤ p)
    (h : FrontOf (hs.getD i 0) p.toNat x) : flip x.toNat (ordSpec (hs.getD (i - 1) 0) p) = ordSpec (hs.getD i 0) p := by
  rw [show (0 + (i : Int) * 1 - 1).toNat = i - 1 by omega, show (0 + (i : Int) * 1).toNat = i by omega] at hlt
  have := hst (i - 1) (by omega)
  rw [show i - 1 + 1 = i by omega] at this
  have e : hs.getD i 0 = hs.getD (i - 1) 0 + 1 := by omega
  rw [e] at h ⊢
  exact ord_flip (by omega) h
theorem way_down {hs : List Int} {i : Nat} {p x : Int} (hst : StepsBy hs) (hi0 : 0 < 0 + (i : Int) * 1) (hi : i < hs.length) (hlt : ¬ hs.getD (0 + (i : Int) * 1 - 1).toNat 0 < hs.getD (0 + (i : Int) * 1).toNat 0) (hp : 4 ≤ p)
    (h : FrontOf (hs.getD (i - 1) 0) p.toNat x) : flip x.toNat (ordSpec (hs.getD (i - 1) 0) p) = ordSpec (hs.getD i 0) p := by
  rw [show (0 + (i : Int) * 1 - 1).toNat = i - 1 by omega, show (0 + (i : Int) * 1).toNat = i by omega] at hlt
  have := hst (i - 1) (by omega)
  rw [show i - 1 + 1 = i by omega] at this
  have e : hs.getD (i - 1) 0 = hs.getD i 0 + 1 := by omega
  rw [e] at h ⊢
  exact ord_back (by omega) h
noncomputable abbrev ifBody : { b : List Stmt // ∃ t q p r, List.drop 1 loopBody.1 = .If t b q p :: r } := ⟨_, _, _, _, _, rfl⟩
noncomputable abbrev lawFr2 (SL HR TB a : Addr) (u1 u2 : Option Value) (pl : Array UInt8) (tpl : Tok) (i : Nat) (ts : Tok) (v : Nat → Option Value) : List (Str × Option Value) := [("script", some (.ref SL)), ("first", u1), ("hours", some (.ref HR)), ("move", u2), ("tables", some (.ref TB)), ("pile", some (.bytes pl tpl)), ("step", some (.int (0 + (i : Int) * 1) ts)), ("told", some (.ref a)), ("front", v 2), ("ring", v 3), ("sign", v 4), ("again", v 5), ("k", v 6), ("figure", v 7), ("cut", v 8), ("due", v 9), ("written", v 10)]
theorem byteArr_bInts {b : Array UInt8} : byteArr (KBw.bInts b) = b := by
  obtain ⟨l⟩ := b
  unfold byteArr KBw.bInts
  show (((l.map fun c => ((c.toNat : Nat) : Int)).map fun n => n.toNat.toUInt8)).toArray = _
  rw [List.map_map, show ((fun (n : Int) => n.toNat.toUInt8) ∘ fun (c : UInt8) => ((c.toNat : Nat) : Int)) = id from by funext c; simp, List.map_id]
theorem mem_led {L HR SG TB : Nat} {c4 c3 c2 c1 oI : Obj} {I : Addr} {hv sgv tbv : List Value} {nn nsg ntb : Nat} {ps1 ps2 pa pb : Array Value} {tl : List (Addr × Obj)} {q : Addr × Obj} (h : q ∈ tl) : q ∈ (I, oI) :: lawLed L HR SG TB c4 c3 c2 c1 hv sgv tbv nn nsg ntb ps1 ps2 pa pb tl := by
  iterate 12 (refine List.mem_cons_of_mem _ ?_)
  exact h
theorem strs_atL {vs : List Value} {xs : List Str} (h : StrsAre vs xs) : ∀ {i : Nat} {v : Value}, vs[i]? = some v → ∃ x t, xs[i]? = some x ∧ v = .str x t := by
  intro i v
  induction h generalizing i with
  | nil => intro e; simp at e
  | cons x t _ ih =>
    intro e
    cases i with
    | zero => simp at e; exact ⟨x, t, by simp, e.symm⟩
    | succ i => simp at e; obtain ⟨y, t, h1, h2⟩ := ih e; exact ⟨y, t, by simpa using h1, h2⟩
theorem sg_at {sgv : List Value} {d1 : Int} {n j : Nat} {x : Value} (h : StrsAre sgv ((List.range n).map (sgAt d1))) (hj : sgv[j]? = some x) : j < n ∧ ∃ t, x = .str (sgAt d1 j) t := by
  obtain ⟨y, t, h1, h2⟩ := strs_atL h hj
  rw [List.getElem?_map] at h1
  rcases Nat.lt_or_ge j n with hl | hl
  · rw [List.getElem?_range hl] at h1
    exact ⟨hl, t, by rw [h2]; congr 1; simpa using h1.symm⟩
  · rw [List.getElem?_eq_none (by simpa using hl)] at h1
    cases h1
theorem sign_at {sgv : List Value} {d1 x : Int} {n : Nat} (h : StrsAre sgv ((List.range n).map (sgAt d1))) (h0 : 0 ≤ x) (h1 : x < n) : ∃ t, sgv[x.toNat]? = some (.str (sgAt d1 x.toNat) t) := by
  have hl : sgv.length = n := by rw [StrsAre.length h, List.length_map, List.length_range]
  have hx : x.toNat < sgv.length := by omega
  obtain ⟨_, t, e⟩ := sg_at h (List.getElem?_eq_getElem hx)
  exact ⟨t, by rw [List.getElem?_eq_getElem hx, e]⟩
theorem sg_mem {d1 : Int} {k : Nat} : sgAt d1 k ∈ rowS := by
  unfold sgAt
  obtain ⟨n, hn⟩ : ∃ n, ((d1.fdiv 5 + (k : Int)).fmod 11).toNat = n := ⟨_, rfl⟩
  rw [hn, List.getD_eq_getElem?_getD]
  rcases Nat.lt_or_ge n rowS.length with h | h
  · rw [List.getElem?_eq_getElem h]
    exact List.getElem_mem h
  · rw [List.getElem?_eq_none h]
    exact List.mem_cons_self
theorem row_short : ∀ x ∈ rowS, x.length ≤ 1 := by decide
theorem row_esc : ∀ x ∈ rowS, escL x.cps.toList = (wrS x).cps.toList := by decide
theorem row_wr : ∀ x ∈ rowS, (wrS x).cps.toList.length ≤ 5 := by decide
theorem escL_append (a b : List Nat) : escL (a ++ b) = escL a ++ escL b := by
  unfold escL
  rw [repl_append, repl_append, repl_append, repl_append]
theorem escL_flatten : ∀ l : List (List Nat), escL l.flatten = (l.map escL).flatten
  | [] => rfl
  | a :: r => by rw [List.flatten_cons, escL_append, escL_flatten r, List.map_cons, List.flatten_cons]
theorem news_ne {h₀ h : Heap} {L a b : Addr} {oa ob : Obj} {nx : List (Addr × Obj)} (N : News h₀ L h nx) (ha : (a, oa) ∈ nx) (hb : (b, ob) ∈ nx) (hne : oa.cls ≠ ob.cls) : a ≠ b := by
  rintro rfl
  have h1 := (N _ ha).1
  have h2 := (N _ hb).1
  rw [show ((a, oa) : Addr × Obj).1 = a from rfl] at h1
  rw [show ((a, ob) : Addr × Obj).1 = a from rfl, h1] at h2
  exact hne (congrArg Obj.cls (Option.some.inj h2))
theorem rangeKs_succ {j : Nat} : rangeKs 0 (j + 1) = rangeKs 0 j ++ [(j : Int)] := by
  unfold rangeKs
  rw [List.range_succ, List.map_append, List.map_singleton, Int.zero_add]
noncomputable abbrev lawFr3 (SL HR TB a r : Addr) (u1 u2 : Option Value) (pl : Array UInt8) (tpl : Tok) (i : Nat) (ts : Tok) (v : Nat → Option Value) : List (Str × Option Value) := [("script", some (.ref SL)), ("first", u1), ("hours", some (.ref HR)), ("move", u2), ("tables", some (.ref TB)), ("pile", some (.bytes pl tpl)), ("step", some (.int (0 + (i : Int) * 1) ts)), ("told", some (.ref a)), ("front", v 2), ("ring", some (.ref r)), ("sign", v 4), ("again", v 5), ("k", v 6), ("figure", v 7), ("cut", v 8), ("due", v 9), ("written", v 10)]
noncomputable abbrev ringLed (w : World) (r dx : Addr) (tk : Tok) (v0 : Value) (its : List Value) (k : Nat) (rest : List (Addr × Obj)) : List (Addr × Obj) :=
  (r, accObj 100 dx its.toArray k) :: (dx, dictOf (isD w tk v0) 1) :: rest
theorem ItsAre.vlen {d1 : Int} {zs : List (Addr × Obj)} {vs : List Value} {xs : List Int} {n : Nat} (h : ItsAre d1 zs vs xs) (hx : xs.length = n) : vs.length = n := by rw [h.length, hx]
theorem led_split {L HR SG TB : Nat} {c4 c3 c2 c1 oI : Obj} {I : Addr} {hv sgv tbv : List Value} {nn nsg ntb : Nat} {ps1 ps2 pa pb : Array Value} {zs tl : List (Addr × Obj)} {q : Addr × Obj} (h : q ∈ (I, oI) :: lawLed L HR SG TB c4 c3 c2 c1 hv sgv tbv nn nsg ntb ps1 ps2 pa pb (zs ++ tl)) : q ∈ zs ∨ q ∈ (I, oI) :: lawLed L HR SG TB c4 c3 c2 c1 hv sgv tbv nn nsg ntb ps1 ps2 pa pb tl := by
  rcases List.mem_append.mp (show q ∈ [(I, oI), (L + 1 + 1 + 1 + 1, c4), (L + 1 + 1 + 1, c3), (L + 1 + 1, c2), (L + 1, c1), (HR, listOf hv.toArray nn), (SG, listOf sgv.toArray nsg), (TB, listOf tbv.toArray ntb), (62, tabObj ps1), (69, tabObj ps2), (120, tabObj pa), (127, tabObj pb)] ++ (zs ++ tl) from h) with h | h
  · exact .inr (List.mem_append_left tl h)
  · rcases List.mem_append.mp h with h | h
    · exact .inl h
    · exact .inr (mem_led h)
theorem led_weak {L HR SG TB : Nat} {c4 c3 c2 c1 oI : Obj} {I : Addr} {hv sgv tbv : List Value} {nn nsg ntb : Nat} {ps1 ps2 pa pb : Array Value} {tl tl' : List (Addr × Obj)} (h : ∀ q ∈ tl, q ∈ tl') : ∀ q ∈ (I, oI) :: lawLed L HR SG TB c4 c3 c2 c1 hv sgv tbv nn nsg ntb ps1 ps2 pa pb tl, q ∈ (I, oI) :: lawLed L HR SG TB c4 c3 c2 c1 hv sgv tbv nn nsg ntb ps1 ps2 pa pb tl' := by
  intro q hq
  rcases List.mem_append.mp (show q ∈ [(I, oI), (L + 1 + 1 + 1 + 1, c4), (L + 1 + 1 + 1, c3), (L + 1 + 1, c2), (L + 1, c1), (HR, listOf hv.toArray nn), (SG, listOf sgv.toArray nsg), (TB, listOf tbv.toArray ntb), (62, tabObj ps1), (69, tabObj ps2), (120, tabObj pa), (127, tabObj pb)] ++ tl from hq) with hq | hq
  · exact List.mem_append_left tl' hq
  · exact mem_led (h q hq)
theorem sl_uptoV {prog : Program} {w : World} {A : Around} {E : Value → Shared → Prop} {s : Shared} {h₀ : Heap} {L l : Addr} {m : Str → Option Value} {news : List (Addr × Obj)} {value slice : PySem.Expr} {vs : List Value} {y : Int} {ty : Tok} {Q : Value → Shared → Prop}
    (F : Fr h₀ L s.heap m) (N : News h₀ L s.heap news) (hl : s.heap.IsList l vs.toArray) (h1 : 0 ≤ y) (hz : vs.length ≤ 1000)
    (h : ∀ D h', Fr h₀ L h' m → News h₀ L h' ((D, listOf (vs.take y.toNat).toArray 0) :: news) → (∀ p ∈ news, p.1 < D) → Q (.ref D) { s with heap := h' })
    (hs : subscripted slice false (.ref l) (.ref s.heap.objs.size) = operate [.ref s.heap.objs.size, .ref l] (getItem (.ref l) (.ref s.heap.objs.size))) (ht : ∀ r, letTemporaryGo value (.ref l) r = pure ()) :
    wpAny (model prog w) A (subscriptTail value slice (.ref l) (.ref s.heap.objs.size)) Q E { s with heap := s.heap.push { cls := .type "slice", data := .fields #[.none, .int y ty, .none] } } := by
  obtain ⟨n, rfl⟩ := Int.eq_ofNat_of_zero_le h1
  exact kmk_slice_lit F N hl .none (.int _ _) (by rw [slicePick_upto']; rfl) h hs ht (by rw [List.size_toArray]; exact Nat.le_trans hz (by decide))
theorem sl_fromV {prog : Program} {w : World} {A : Around} {E : Value → Shared → Prop} {s : Shared} {h₀ : Heap} {L l : Addr} {m : Str → Option Value} {news : List (Addr × Obj)} {value slice : PySem.Expr} {vs : List Value} {x : Int} {tx : Tok} {Q : Value → Shared → Prop}
    (F : Fr h₀ L s.heap m) (N : News h₀ L s.heap news) (hl : s.heap.IsList l vs.toArray) (h1 : 0 ≤ x) (hz : vs.length ≤ 1000)
    (h : ∀ D h', Fr h₀ L h' m → News h₀ L h' ((D, listOf (vs.drop x.toNat).toArray 0) :: news) → (∀ p ∈ news, p.1 < D) → Q (.ref D) { s with heap := h' })
    (hs : subscripted slice false (.ref l) (.ref s.heap.objs.size) = operate [.ref s.heap.objs.size, .ref l] (getItem (.ref l) (.ref s.heap.objs.size))) (ht : ∀ r, letTemporaryGo value (.ref l) r = pure ()) :
    wpAny (model prog w) A (subscriptTail value slice (.ref l) (.ref s.heap.objs.size)) Q E { s with heap := s.heap.push { cls := .type "slice", data := .fields #[.int x tx, .none, .none] } } := by
  obtain ⟨n, rfl⟩ := Int.eq_ofNat_of_zero_le h1
  exact kmk_slice_lit F N hl (.int _ _) .none (by rw [slicePick_from']; rfl) h hs ht (by rw [List.size_toArray]; exact Nat.le_trans hz (by decide))
theorem add_V {prog : Program} {w : World} {A : Around} {E : Value → Shared → Prop} {s : Shared} {h₀ : Heap} {L a b : Addr} {m : Str → Option Value} {news : List (Addr × Obj)} {vs ws : List Value} {Q : Value → Shared → Prop}
    (F : Fr h₀ L s.heap m) (N : News h₀ L s.heap news) (ha : s.heap.IsList a vs.toArray) (hb : s.heap.IsList b ws.toArray) (h1 : vs.length ≤ 1000) (h2 : ws.length ≤ 1000)
    (h : ∀ D h', Fr h₀ L h' m → News h₀ L h' ((D, listOf (vs ++ ws).toArray 0) :: news) → (∀ p ∈ news, p.1 < D) → Q (.ref D) { s with heap := h' }) : wpAny (model prog w) A (binaryOp .Add (.ref a) (.ref b)) Q E s :=
  kmk_add_lit F N ha hb rfl h (by rw [sizeLine_eq]; show vs.length + ws.length ≤ _; omega)
noncomputable abbrev lawFr4 (SL HR TB a r : Addr) (u1 u2 : Option Value) (pl : Array UInt8) (tpl : Tok) (i : Nat) (ts : Tok) (ag : Value) (v : Nat → Option Value) : List (Str × Option Value) := [("script", some (.ref SL)), ("first", u1), ("hours", some (.ref HR)), ("move", u2), ("tables", some (.ref TB)), ("pile", some (.bytes pl tpl)), ("step", some (.int (0 + (i : Int) * 1) ts)), ("told", some (.ref a)), ("front", v 2), ("ring", some (.ref r)), ("sign", v 4), ("again", some ag), ("k", v 6), ("figure", v 7), ("cut", v 8), ("due", v 9), ("written", v 10)]
theorem rot_vals {vs : List Value} {k f : Nat} (hk : k ≤ vs.length) (hf : f ≤ k) : (vs.drop (k - f)).take f ++ vs.take (k - f) ++ (vs.drop (k - f)).drop f = (vs.drop (k - f)).take f ++ vs.take (k - f) ++ vs.drop k := by
  rw [List.drop_drop, show k - f + f = k by omega]
theorem fct_fit {h : Int} (hb : -1000000000005 ≤ h ∧ h ≤ 1000000000005) (k : Nat) : -1000000000006 ≤ h / fct k ∧ h / fct k ≤ 1000000000006 := by
  have hp := fct_pos k
  constructor
  · refine (Int.le_ediv_iff_mul_le hp).mpr ?_
    have : (1 : Int) ≤ fct k := hp
    have h2 : (1000000000006 : Int) * 1 ≤ 1000000000006 * fct k := Int.mul_le_mul_of_nonneg_left this (by decide)
    omega
  · have : h / fct k ≤ 1000000000005 := by
      rcases Int.lt_or_le h 0 with h0 | h0
      · have h3 : h / fct k < 0 := Int.ediv_neg_of_neg_of_pos h0 hp
        omega
      · have := Int.ediv_le_self (fct k) h0
        omega
    omega
theorem ring_step {h : Int} {kn : Nat} {xs : List Int} (hk : 2 ≤ kn) (hl : kn ≤ xs.length) : ordGo h (kn - 1) (rotK kn (mvI h kn).toNat xs) = ordGo h kn xs := by
  obtain ⟨j, rfl⟩ : ∃ j, kn = j + 2 := ⟨kn - 2, by omega⟩
  unfold mvI
  rw [← fd, show ((j + 2 : Nat) : Int) = (j : Int) + 2 by omega, ← Int.fmod_eq_emod_of_nonneg _ (show (0 : Int) ≤ (j : Int) + 2 by omega)]
  rfl
noncomputable abbrev lawFr5 (SL HR TB a r D : Addr) (u1 u2 : Option Value) (pl : Array UInt8) (tpl : Tok) (i : Nat) (ts : Tok) (ag : Value) (W : Str) (tw : Tok) (v : Nat → Option Value) : List (Str × Option Value) := [("script", some (.ref SL)), ("first", u1), ("hours", some (.ref HR)), ("move", u2), ("tables", some (.ref TB)), ("pile", some (.bytes pl tpl)), ("step", some (.int (0 + (i : Int) * 1) ts)), ("told", some (.ref a)), ("front", v 2), ("ring", some (.ref r)), ("sign", v 4), ("again", some ag), ("k", v 6), ("figure", v 7), ("cut", v 8), ("due", some (.ref D)), ("written", some (.str W tw))]
theorem strs_getL {vs : List Value} {xs : List Str} (h : StrsAre vs xs) : ∀ {i : Nat} {x : Str}, xs[i]? = some x → ∃ t, vs[i]? = some (.str x t) := by
  intro i y
  induction h generalizing i with
  | nil => intro e; simp at e
  | cons x t _ ih =>
    intro e
    cases i with
    | zero => simp at e; exact ⟨t, by simp [e]⟩
    | succ i => simp at e; obtain ⟨t, h1⟩ := ih e; exact ⟨t, by simpa using h1⟩
theorem sg_get {sgv : List Value} {d1 : Int} {n : Nat} {x : Int} (h : StrsAre sgv ((List.range n).map (sgAt d1))) (h0 : 0 ≤ x) (h1 : x < n) : ∃ t, sgv[x.toNat]? = some (.str (sgAt d1 x.toNat) t) :=
  strs_getL h (by rw [List.getElem?_map, List.getElem?_range (by omega)]; rfl)
noncomputable def sgL (d1 : Int) (l : List Int) : List Str := l.map fun x => sgAt d1 x.toNat
theorem sgL_mem {d1 : Int} {l : List Int} : ∀ x ∈ sgL d1 l, x ∈ rowS := by
  intro x hx
  obtain ⟨y, _, rfl⟩ := List.mem_map.mp hx
  exact sg_mem
theorem sgL_take {d1 : Int} {l : List Int} {i : Nat} {x : Int} (h : l[i]? = some x) : sgL d1 (l.take (i + 1)) = sgL d1 (l.take i) ++ [sgAt d1 x.toNat] := by
  unfold sgL
  rw [List.take_add_one, h, List.map_append]
  rfl
noncomputable def wrL (d1 : Int) (l : List Int) : List Nat := ((sgL d1 l).map fun x => (wrS x).cps.toList).flatten
theorem sg_getD {d1 x : Int} {n : Nat} {y : Str} (h0 : 0 ≤ x) (h1 : x < n) : ((List.range n).map (sgAt d1)).getD x.toNat y = sgAt d1 x.toNat := by
  rw [List.getD_eq_getElem?_getD, List.getElem?_map, List.getElem?_range (by omega)]
  rfl
theorem ItsAre.fns {d1 : Int} {zs : List (Addr × Obj)} {vs : List Value} {xs : List Int} (h : ItsAre d1 zs vs xs) : ∃ (Ts : Nat → Addr) (vb : Nat → Str) (ta tb : Nat → Tok),
    (∀ j, j < vs.length → vs[j]? = some (.ref (Ts j)) ∧ (Ts j, tupS (Str.ofString "") (ta j) (vb j) (tb j)) ∈ zs ∧ (vb j).cps.toList.length ≤ 5) ∧
    (List.range vs.length).map (fun j => (vb j).cps.toList) = (sgL d1 xs).map fun x => (wrS x).cps.toList := by
  induction h with
  | nil => exact ⟨fun _ => 0, fun _ => Str.ofString "", fun _ => (0 : Nat), fun _ => (0 : Nat), fun j hj => absurd hj (Nat.not_lt_zero _), rfl⟩
  | @cons T x ta tb Y vs xs a b _ ih =>
    obtain ⟨Ts, vb, ta', tb', h1, h2⟩ := ih
    have e := b.trans (row_esc _ sg_mem)
    refine ⟨fun j => match j with | 0 => T | j + 1 => Ts j, fun j => match j with | 0 => Y | j + 1 => vb j, fun j => match j with | 0 => ta | j + 1 => ta' j, fun j => match j with | 0 => tb | j + 1 => tb' j, fun j hj => ?_, ?_⟩
    · cases j with
      | zero => exact ⟨rfl, a, by show Y.cps.toList.length ≤ 5; rw [e]; exact row_wr _ sg_mem⟩
      | succ j =>
        obtain ⟨a1, a2, a3⟩ := h1 j (by simpa using hj)
        exact ⟨by simpa using a1, a2, a3⟩
    · rw [List.length_cons, List.range_succ_eq_map, List.map_cons, List.map_map]
      show Y.cps.toList :: (List.range vs.length).map (fun j => (vb j).cps.toList) = _
      rw [h2, e]
      rfl
theorem preSum_flat {g : Nat → List Nat} {f : Nat → Int} (hf : ∀ j, f j = ((g j).length : Int)) : ∀ n, preSum f n = (((List.range n).map g).flatten.length : Int)
  | 0 => rfl
  | n + 1 => by
    show preSum f n + f n = _
    rw [preSum_flat hf n, hf n, List.range_succ, List.map_append, List.flatten_append, List.length_append]
    simp
theorem str_eq {a b : Str} (h : a.cps.toList = b.cps.toList) : a = b := by
  obtain ⟨x⟩ := a
  obtain ⟨y⟩ := b
  exact congrArg Str.mk (Array.ext' h)
theorem wrL_len {d1 : Int} : ∀ {l : List Int}, (wrL d1 l).length ≤ 5 * l.length
  | [] => Nat.le_refl _
  | x :: r => by
    show ((wrS (sgAt d1 x.toNat)).cps.toList ++ wrL d1 r).length ≤ 5 * (r.length + 1)
    have := wrL_len (d1 := d1) (l := r)
    have := row_wr _ (sg_mem (d1 := d1) (k := x.toNat))
    rw [List.length_append]
    omega
theorem sgL_flat {d1 : Int} {l : List Int} : escL ((sgL d1 l).map fun x => x.cps.toList).flatten = wrL d1 l := by
  rw [escL_flatten, List.map_map]
  unfold wrL
  congr 1
  refine List.map_congr_left fun x hx => ?_
  exact row_esc x (sgL_mem x hx)
theorem sgL_flat_len {d1 : Int} : ∀ {l : List Int}, (((sgL d1 l).map fun x => x.cps.toList).flatten).length ≤ l.length
  | [] => Nat.le_refl _
  | x :: r => by
    show ((sgAt d1 x.toNat).cps.toList ++ ((sgL d1 r).map fun x => x.cps.toList).flatten).length ≤ r.length + 1
    have := sgL_flat_len (d1 := d1) (l := r)
    have h1 : (sgAt d1 x.toNat).cps.toList.length ≤ 1 := by rw [Array.length_toList]; exact row_short _ sg_mem
    rw [List.length_append]
    omega
theorem led_off {L HR SG TB : Nat} {c4 c3 c2 c1 : Obj} {I : Addr} {hv sgv tbv : List Value} {nn nsg ntb : Nat} {ps1 ps2 ps1' ps2' pa pb : Array Value} {tl : List (Addr × Obj)}
    (h : ∀ q ∈ lawLed L HR SG TB c4 c3 c2 c1 hv sgv tbv nn nsg ntb ps1 ps2 pa pb tl, q.1 ≠ I) : ∀ q ∈ lawLed L HR SG TB c4 c3 c2 c1 hv sgv tbv nn nsg ntb ps1' ps2' pa pb tl, q.1 ≠ I := by
  intro q hq
  rcases List.mem_append.mp (show q ∈ [(L + 1 + 1 + 1 + 1, c4), (L + 1 + 1 + 1, c3), (L + 1 + 1, c2), (L + 1, c1), (HR, listOf hv.toArray nn), (SG, listOf sgv.toArray nsg), (TB, listOf tbv.toArray ntb)] ++ ((62, tabObj ps1') :: (69, tabObj ps2') :: (120, tabObj pa) :: (127, tabObj pb) :: tl) from hq) with hq | hq
  · exact h q (List.mem_append_left _ hq)
  · rcases List.mem_cons.mp hq with rfl | hq
    · exact h (62, tabObj ps1) (by kcf_m)
    · rcases List.mem_cons.mp hq with rfl | hq
      · exact h (69, tabObj ps2) (by kcf_m)
      · exact h q (List.mem_append_right [(L + 1 + 1 + 1 + 1, c4), (L + 1 + 1 + 1, c3), (L + 1 + 1, c2), (L + 1, c1), (HR, listOf hv.toArray nn), (SG, listOf sgv.toArray nsg), (TB, listOf tbv.toArray ntb), (62, tabObj ps1), (69, tabObj ps2)] hq)
end

section
theorem turn2 {h₀ : Heap} {L SG HR TB : Nat} {u1 u2 : Option Value} {fa SL I : Addr} {cd : Value} {p d1 : Int} {sgv hv tbv : List Value} {hs : List Int} {nn nsg ntb : Nat} {s : Shared} {c1 c2 c3 c4 oI : Obj} {pa pb ps1 ps2 : Array Value} {tl : List (Addr × Obj)} {tp tpl ts : Tok} {R : Flow → Shared → Prop} {i : Nat} {a : Addr} {tv : List Value} {tn : Nat} {v : Nat → Option Value}
  (X : (Mine.hd.heap_1 w.params).In h₀) (T : Top pp loose mean mg mb h₀)
  (F : Fr h₀ L s.heap (fun y => lkO y [("script", some (.ref SL)), ("first", u1), ("hours", some (.ref HR)), ("move", u2), ("tables", some (.ref TB)), ("pile", some (.bytes (byteArr (ordSpec (hs.getD i 0) p)) tpl)), ("step", some (.int (0 + (i : Int) * 1) ts)), ("told", some (.ref a)), ("front", v 2), ("ring", v 3), ("sign", v 4), ("again", v 5), ("k", v 6), ("figure", v 7), ("cut", v 8), ("due", v 9), ("written", v 10)]))
  (N : News h₀ L s.heap ((I, oI) :: lawLed L HR SG TB c4 c3 c2 c1 hv sgv tbv nn nsg ntb ps1 ps2 pa pb tl))
  (hI : ∀ q ∈ lawLed L HR SG TB c4 c3 c2 c1 hv sgv tbv nn nsg ntb ps1 ps2 pa pb tl, q.1 ≠ I)
  (hc2 : c2.data = .cell (some (.int p tp))) (hc4 : c4.data = .cell (some (.ref SG)))
  (l0 : @LT.lt Nat _ 127 L ∧ @LT.lt Nat _ 120 L ∧ @LT.lt Nat _ 62 L ∧ @LT.lt Nat _ 69 L) (lSG : @Ne Nat SG 69 ∧ @Ne Nat SG 62 ∧ @Ne Nat SG 120 ∧ @Ne Nat SG 127) (lHR : @LT.lt Nat _ (L + 1 + 1 + 1 + 1) HR) (lTB : @Ne Nat TB 69 ∧ @Ne Nat TB 62)
  (hIh : IntsAre hv hs) (hi : i < hs.length) (hhl : 4 ≤ hs.length ∧ hs.length ≤ 6) (hst : StepsBy hs) (hbd : ∀ x ∈ hs, -1000000000005 ≤ x ∧ x ≤ 1000000000005) (hp4 : 4 ≤ p) (hp8 : p ≤ 8)
  (hsg : StrsAre sgv ((List.range p.toNat).map (sgAt d1)))
  (htb : tbv.length = hs.length) (hto : ∀ j, j < hs.length → ∃ a tv tn, tbv[j]? = some (.ref a) ∧ (a, listOf tv.toArray tn) ∈ tl ∧ IntsAre tv (toldSpec (hs.getD j 0) p.toNat))
  (ha2 : (a, listOf tv.toArray tn) ∈ tl) (ha3 : IntsAre tv (toldSpec (hs.getD i 0) p.toNat))
  (ht1 : TriplesOk ps1.toList) (ht2 : TriplesOk ps2.toList) (G0 : AllBare s.gens)
  (hnext : ∀ (hp : Heap) (tk' : Nat) (r dx : Nat) (tk : Tok) (its : List Value) (k : Nat) (zs : List (Addr × Obj)) (v' : Nat → Option Value),
     Fr h₀ L hp (fun y => lkO y (lawFr3 SL HR TB a r u1 u2 (byteArr (ordSpec (hs.getD i 0) p)) tpl i ts v')) →
     News h₀ L hp (ringLed w r dx tk (.int p tp) its k ((I, oI) :: lawLed L HR SG TB c4 c3 c2 c1 hv sgv tbv nn nsg ntb ps1 ps2 pa pb (zs ++ tl))) →
     dx ≠ r → (∀ q ∈ (I, oI) :: lawLed L HR SG TB c4 c3 c2 c1 hv sgv tbv nn nsg ntb ps1 ps2 pa pb (zs ++ tl), q.1 ≠ r ∧ q.1 ≠ dx) → (∀ q ∈ zs, q.1 ≠ I ∧ @LT.lt Nat _ L q.1) → ItsAre d1 zs its (rangeKs 0 p.toNat) →
     wpR (model PySem.Challenge.pw_xp0023_01 w) (callerA.deeper (lawEnv L fa cd)) (execs (List.drop 4 loopBody.1) (lawEnv L fa cd)) R { s with heap := hp, toks := tk' }) :
  wpR (model PySem.Challenge.pw_xp0023_01 w) (callerA.deeper (lawEnv L fa cd)) (execs (List.drop 2 loopBody.1) (lawEnv L fa cd)) R s := by
  w_top off
  dsimp only [lawEnv, lawParts, loopBody]
  dsimp only [lawEnv, lawParts, loopBody] at hnext
  have B := below_caller h₀
  have hsl : sgv.length = p.toNat := by rw [StrsAre.length hsg]; simp
  obtain ⟨hp0, gs0, dr0, tk0, os0⟩ := s
  refine wpR_execs_step ?_
  (repeat' ((fail_if_success (with_reducible show wpAny _ _ (PySem.call (Value.ref _) _ _) _ _ _)); (fail_if_success (with_reducible show wpAny _ _ (getMethod (Value.ref _) (Str.ofString "push") _) _ _ _)); (fail_if_success (with_reducible show wpAny _ _ (getMethod (Value.ref _) (Str.ofString "pop_from") _) _ _ _)); (fail_if_success (with_reducible show wpAny _ _ (getMethod (Value.ref _) (Str.ofString "reset") _) _ _ _)); (fail_if_success (with_reducible show wpAny _ _ (getMethod (Value.ref _) (Str.ofString "part_count") _) _ _ _)); (fail_if_success (with_reducible show wpAny _ _ (exec (Stmt.For _ _ _ _ _) _) _ _ _)); (fail_if_success (with_reducible show wpAny _ _ (exec (Stmt.While _ _ _ _) _) _ _ _)); (fail_if_success (with_reducible show wpAny _ _ (pyIter _) _ _ _)); (fail_if_success (with_reducible show wpAny _ _ (PySem.eval (PySem.Expr.ListComp _ _ _ _) _) _ _ _)); (fail_if_success (with_reducible show LCg.CompSrc _ _ _ _ _ _ _ _ _ _ _ _ _ _)); (fail_if_success (with_reducible show LCg.CompEnd _ _ _ _ _ _ _ _ _ _ _ _ _ _)); first | (k_unfold; (try dsimp only)) | walk1 | (dsimp only; walk1) | fail "no step"))
  refine new_spec (base := h₀) (outer := []) ⟨B, F, X, N, T, by rfl, by rfl⟩ (by show callerA.depth + 1 + 5 < _; decide) (by show callerA.units + 3 + 40 < _; decide) ?_
  intro r dx tk h' tk' l1 l2 F1 N1
  clear F N
  (repeat' ((fail_if_success (with_reducible show wpAny _ _ (PySem.call (Value.ref _) _ _) _ _ _)); (fail_if_success (with_reducible show wpAny _ _ (getMethod (Value.ref _) (Str.ofString "push") _) _ _ _)); (fail_if_success (with_reducible show wpAny _ _ (getMethod (Value.ref _) (Str.ofString "pop_from") _) _ _ _)); (fail_if_success (with_reducible show wpAny _ _ (getMethod (Value.ref _) (Str.ofString "reset") _) _ _ _)); (fail_if_success (with_reducible show wpAny _ _ (getMethod (Value.ref _) (Str.ofString "part_count") _) _ _ _)); (fail_if_success (with_reducible show wpAny _ _ (exec (Stmt.For _ _ _ _ _) _) _ _ _)); (fail_if_success (with_reducible show wpAny _ _ (exec (Stmt.While _ _ _ _) _) _ _ _)); (fail_if_success (with_reducible show wpAny _ _ (pyIter _) _ _ _)); (fail_if_success (with_reducible show wpAny _ _ (PySem.eval (PySem.Expr.ListComp _ _ _ _) _) _ _ _)); (fail_if_success (with_reducible show LCg.CompSrc _ _ _ _ _ _ _ _ _ _ _ _ _ _)); (fail_if_success (with_reducible show LCg.CompEnd _ _ _ _ _ _ _ _ _ _ _ _ _ _)); first | (k_unfold; (try dsimp only)) | walk1 | (dsimp only; walk1) | fail "no step"))
  rename Fr _ _ _ _ => F2
  rename News _ _ _ _ => N2
  have F3 := fr_to F2 (m' := fun y => lkO y (lawFr2 SL HR TB a u1 u2 (byteArr (ordSpec (hs.getD i 0) p)) tpl i ts (fun j => if j = 3 then some (.ref r) else v j))) (by ktn_open)
  clear F2
  try dsimp only
  refine gen_toks fun tk9 => ?_
  try dsimp only
  refine wpR_execs_step ?_
  refine For_invV h₀ (by rfl) (by rfl) ?_
  (repeat' ((fail_if_success (with_reducible show wpAny _ _ (PySem.call (Value.ref _) _ _) _ _ _)); (fail_if_success (with_reducible show wpAny _ _ (getMethod (Value.ref _) (Str.ofString "push") _) _ _ _)); (fail_if_success (with_reducible show wpAny _ _ (getMethod (Value.ref _) (Str.ofString "pop_from") _) _ _ _)); (fail_if_success (with_reducible show wpAny _ _ (getMethod (Value.ref _) (Str.ofString "reset") _) _ _ _)); (fail_if_success (with_reducible show wpAny _ _ (getMethod (Value.ref _) (Str.ofString "part_count") _) _ _ _)); (fail_if_success (with_reducible show wpAny _ _ (exec (Stmt.For _ _ _ _ _) _) _ _ _)); (fail_if_success (with_reducible show wpAny _ _ (exec (Stmt.While _ _ _ _) _) _ _ _)); (fail_if_success (with_reducible show wpAny _ _ (pyIter _) _ _ _)); (fail_if_success (with_reducible show wpAny _ _ (PySem.eval (PySem.Expr.ListComp _ _ _ _) _) _ _ _)); (fail_if_success (with_reducible show LCg.CompSrc _ _ _ _ _ _ _ _ _ _ _ _ _ _)); (fail_if_success (with_reducible show LCg.CompEnd _ _ _ _ _ _ _ _ _ _ _ _ _ _)); first | (k_unfold; (try dsimp only)) | walk1 | (dsimp only; walk1) | fail "no step"))
  rename Fr _ _ _ _ => HF
  rename News _ _ _ _ => HN
  refine iter_ledG (l := SG) (vs := sgv) (nn := nsg) (news := (r, accObj 100 dx #[] 0) :: (dx, dictOf (isD w tk (.int p tp)) 1) :: (I, oI) :: lawLed L HR SG TB c4 c3 c2 c1 hv sgv tbv nn nsg ntb ps1 ps2 pa pb tl) (fun j m nx => ∃ (its : List Value) (zs : List (Addr × Obj)) (k : Nat) (u : Option Value), nx = (r, accObj 100 dx its.toArray k) :: (dx, dictOf (isD w tk (.int p tp)) 1) :: (I, oI) :: lawLed L HR SG TB c4 c3 c2 c1 hv sgv tbv nn nsg ntb ps1 ps2 pa pb (zs ++ tl) ∧ ItsAre d1 zs its (rangeKs 0 j) ∧ (∀ q ∈ zs, (@Ne Nat q.1 r) ∧ (@Ne Nat q.1 dx) ∧ q.1 ≠ I ∧ @LT.lt Nat _ L q.1) ∧
    m = fun y => lkO y (lawFr2 SL HR TB a u1 u2 (byteArr (ordSpec (hs.getD i 0) p)) tpl i ts (fun j => if j = 3 then some (.ref r) else if j = 4 then u else v j))) rfl (by kcf_m) HF HN ?_ ?_ ?_ ?_
  · refine ⟨[], [], 0, v 4, rfl, .nil, fun _ h => (nomatch h), ?_⟩
    funext y
    rfl
  · rintro j m nx ⟨its, zs, k, u, rfl, _⟩
    kcf_m
  · clear HF HN
    rintro j x m₁ nx h₁ tk₁ J oJ hj ⟨its, zs, k, u, rfl, hits, hzs, rfl⟩ hJ F₁ N₁
    obtain ⟨hjp, t, rfl⟩ := sg_at hsg hj
    (repeat' ((fail_if_success (with_reducible show wpAny _ _ (PySem.call (Value.ref _) _ _) _ _ _)); (fail_if_success (with_reducible show wpAny _ _ (getMethod (Value.ref _) (Str.ofString "push") _) _ _ _)); (fail_if_success (with_reducible show wpAny _ _ (getMethod (Value.ref _) (Str.ofString "pop_from") _) _ _ _)); (fail_if_success (with_reducible show wpAny _ _ (getMethod (Value.ref _) (Str.ofString "reset") _) _ _ _)); (fail_if_success (with_reducible show wpAny _ _ (getMethod (Value.ref _) (Str.ofString "part_count") _) _ _ _)); (fail_if_success (with_reducible show wpAny _ _ (exec (Stmt.For _ _ _ _ _) _) _ _ _)); (fail_if_success (with_reducible show wpAny _ _ (exec (Stmt.While _ _ _ _) _) _ _ _)); (fail_if_success (with_reducible show wpAny _ _ (pyIter _) _ _ _)); (fail_if_success (with_reducible show wpAny _ _ (PySem.eval (PySem.Expr.ListComp _ _ _ _) _) _ _ _)); (fail_if_success (with_reducible show LCg.CompSrc _ _ _ _ _ _ _ _ _ _ _ _ _ _)); (fail_if_success (with_reducible show LCg.CompEnd _ _ _ _ _ _ _ _ _ _ _ _ _ _)); first | (k_unfold; (try dsimp only)) | walk1 | (dsimp only; walk1) | fail "no step"))
    rename Fr _ _ _ _ => F2
    rename News _ _ _ _ => N2
    refine Mine.method_instL (K := Mine.hd.heap_1 _) (C := 100) (dx := dx) F2 X N2 (by kcf_m) (by kcf_m) (ga100 _) (by k_is) (by k_is) (by rfl) ?_
    (repeat' ((fail_if_success (with_reducible show wpAny _ _ (PySem.call (Value.ref _) _ _) _ _ _)); (fail_if_success (with_reducible show wpAny _ _ (getMethod (Value.ref _) (Str.ofString "push") _) _ _ _)); (fail_if_success (with_reducible show wpAny _ _ (getMethod (Value.ref _) (Str.ofString "pop_from") _) _ _ _)); (fail_if_success (with_reducible show wpAny _ _ (getMethod (Value.ref _) (Str.ofString "reset") _) _ _ _)); (fail_if_success (with_reducible show wpAny _ _ (getMethod (Value.ref _) (Str.ofString "part_count") _) _ _ _)); (fail_if_success (with_reducible show wpAny _ _ (exec (Stmt.For _ _ _ _ _) _) _ _ _)); (fail_if_success (with_reducible show wpAny _ _ (exec (Stmt.While _ _ _ _) _) _ _ _)); (fail_if_success (with_reducible show wpAny _ _ (pyIter _) _ _ _)); (fail_if_success (with_reducible show wpAny _ _ (PySem.eval (PySem.Expr.ListComp _ _ _ _) _) _ _ _)); (fail_if_success (with_reducible show LCg.CompSrc _ _ _ _ _ _ _ _ _ _ _ _ _ _)); (fail_if_success (with_reducible show LCg.CompEnd _ _ _ _ _ _ _ _ _ _ _ _ _ _)); first | (k_unfold; (try dsimp only)) | walk1 | (dsimp only; walk1) | fail "no step"))
    refine esc_spec (base := h₀) (outer := []) ⟨B, F2, X, N2, T, by rfl, by rfl⟩ (Nat.le_trans (row_short _ sg_mem) (by decide)) (by show callerA.depth + 1 + 1 < _; decide) (by show callerA.units + 3 + 8 < _; decide) ?_
    intro Y tY h3 tk3 hY F3 N3
    clear F2 N2
    (repeat' ((fail_if_success (with_reducible show wpAny _ _ (PySem.call (Value.ref _) _ _) _ _ _)); (fail_if_success (with_reducible show wpAny _ _ (getMethod (Value.ref _) (Str.ofString "push") _) _ _ _)); (fail_if_success (with_reducible show wpAny _ _ (getMethod (Value.ref _) (Str.ofString "pop_from") _) _ _ _)); (fail_if_success (with_reducible show wpAny _ _ (getMethod (Value.ref _) (Str.ofString "reset") _) _ _ _)); (fail_if_success (with_reducible show wpAny _ _ (getMethod (Value.ref _) (Str.ofString "part_count") _) _ _ _)); (fail_if_success (with_reducible show wpAny _ _ (exec (Stmt.For _ _ _ _ _) _) _ _ _)); (fail_if_success (with_reducible show wpAny _ _ (exec (Stmt.While _ _ _ _) _) _ _ _)); (fail_if_success (with_reducible show wpAny _ _ (pyIter _) _ _ _)); (fail_if_success (with_reducible show wpAny _ _ (PySem.eval (PySem.Expr.ListComp _ _ _ _) _) _ _ _)); (fail_if_success (with_reducible show LCg.CompSrc _ _ _ _ _ _ _ _ _ _ _ _ _ _)); (fail_if_success (with_reducible show LCg.CompEnd _ _ _ _ _ _ _ _ _ _ _ _ _ _)); first | (k_unfold; (try dsimp only)) | walk1 | (dsimp only; walk1) | fail "no step"))
    have hrr : ∀ q ∈ (J, oJ) :: (I, oI) :: lawLed L HR SG TB c4 c3 c2 c1 hv sgv tbv nn nsg ntb ps1 ps2 pa pb (zs ++ tl), (@Ne Nat q.1 r) ∧ (@Ne Nat q.1 dx) := by
      intro q hq
      rcases List.mem_cons.mp hq with rfl | hq
      · exact ⟨fun e => hJ (r, accObj 100 dx its.toArray k) (by kcf_m) e.symm, fun e => hJ (dx, dictOf (isD w tk (.int p tp)) 1) (by kcf_m) e.symm⟩
      · rcases led_split hq with hq | hq
        · exact ⟨(hzs q hq).1, (hzs q hq).2.1⟩
        · have := l1 q hq
          exact ⟨Nat.ne_of_lt (Nat.lt_trans this l2), Nat.ne_of_lt this⟩
    refine push_spec (base := h₀) (outer := []) (p0 := p) (tp := tp) (tk0 := tk) (es := isD w tk (.int p tp)) (its := its) (k := k) (n := 1) (dx := dx) (news := (J, oJ) :: (I, oI) :: lawLed L HR SG TB c4 c3 c2 c1 hv sgv tbv nn nsg ntb ps1 ps2 pa pb (zs ++ tl)) ⟨B, F3, X, news_sub N3 (by kcf_all), T, by rfl, by rfl⟩ (by rfl) (Nat.ne_of_lt l2) (fun q hq => (hrr q hq).1) (by rw [hits.length, rangeKs_length]; omega) (by show callerA.depth + 1 + 5 < _; decide) (by show callerA.units + 3 + 40 < _; decide) ?_
    intro T9 h9 tk9 hT9 F9 N9
    clear F3 N3
    (repeat' ((fail_if_success (with_reducible show wpAny _ _ (PySem.call (Value.ref _) _ _) _ _ _)); (fail_if_success (with_reducible show wpAny _ _ (getMethod (Value.ref _) (Str.ofString "push") _) _ _ _)); (fail_if_success (with_reducible show wpAny _ _ (getMethod (Value.ref _) (Str.ofString "pop_from") _) _ _ _)); (fail_if_success (with_reducible show wpAny _ _ (getMethod (Value.ref _) (Str.ofString "reset") _) _ _ _)); (fail_if_success (with_reducible show wpAny _ _ (getMethod (Value.ref _) (Str.ofString "part_count") _) _ _ _)); (fail_if_success (with_reducible show wpAny _ _ (exec (Stmt.For _ _ _ _ _) _) _ _ _)); (fail_if_success (with_reducible show wpAny _ _ (exec (Stmt.While _ _ _ _) _) _ _ _)); (fail_if_success (with_reducible show wpAny _ _ (pyIter _) _ _ _)); (fail_if_success (with_reducible show wpAny _ _ (PySem.eval (PySem.Expr.ListComp _ _ _ _) _) _ _ _)); (fail_if_success (with_reducible show LCg.CompSrc _ _ _ _ _ _ _ _ _ _ _ _ _ _)); (fail_if_success (with_reducible show LCg.CompEnd _ _ _ _ _ _ _ _ _ _ _ _ _ _)); first | (k_unfold; (try dsimp only)) | walk1 | (dsimp only; walk1) | fail "no step"))
    obtain ⟨tE, N9⟩ : ∃ tE, News h₀ L h9 ((r, accObj 100 dx (its ++ [Value.ref T9]).toArray (k + 1)) :: (dx, dictOf (isD w tk (.int p tp)) 1) :: (T9, tupS (Str.ofString "") tE Y tY) :: (J, oJ) :: (I, oI) :: lawLed L HR SG TB c4 c3 c2 c1 hv sgv tbv nn nsg ntb ps1 ps2 pa pb (zs ++ tl)) := ⟨_, N9⟩
    refine InvEndG.intro F9 N9 ⟨its ++ [.ref T9], (T9, tupS (Str.ofString "") tE Y tY) :: zs, k + 1, some (Value.str (sgAt d1 j) t), rfl, ?i8, ?z8, ?m8⟩ ?o8 ?n8 ?b8
    case m8 => ktn_open
    case i8 => rw [rangeKs_succ]; exact (hits.mono fun q hq => .tail _ hq).snoc (.head _) (by rw [hY]; rfl)
    case z8 =>
      refine List.forall_mem_cons.mpr ⟨⟨news_ne N9 (ob := accObj 100 dx (its ++ [Value.ref T9]).toArray (k + 1)) (List.mem_cons_of_mem _ (List.mem_cons_of_mem _ (List.mem_cons_self))) (List.mem_cons_self) (fun e => nomatch e), news_ne N9 (ob := dictOf (isD w tk (.int p tp)) 1) (List.mem_cons_of_mem _ (List.mem_cons_of_mem _ (List.mem_cons_self))) (List.mem_cons_of_mem _ List.mem_cons_self) (show Value.type "tuple" ≠ Value.type "dict" by decide), Nat.ne_of_gt (hT9 (I, oI) (by kcf_m)), Nat.lt_trans (Nat.lt_succ_self L) (hT9 (L + 1, c1) (by kcf_m))⟩, hzs⟩
    case o8 =>
      refine ownoff_one (List.forall_mem_cons.mpr ⟨fun e => hJ (r, accObj 100 dx its.toArray k) (by kcf_m) e, List.forall_mem_cons.mpr ⟨fun e => hJ (dx, dictOf (isD w tk (.int p tp)) 1) (by kcf_m) e, fun q hq => ?_⟩⟩)
      rcases led_split (zs := (T9, tupS (Str.ofString "") tE Y tY) :: zs) hq with hq | hq
      · rcases List.mem_cons.mp hq with rfl | hq
        · exact Nat.ne_of_gt (hT9 (J, oJ) (by kcf_m))
        · exact hJ q (by kcf_m)
      · exact hJ q (.tail _ (.tail _ (led_weak (fun q hq => List.mem_append_right _ hq) q hq)))
    case n8 =>
      refine List.forall_mem_cons.mpr ⟨by kcf_m, List.forall_mem_cons.mpr ⟨by kcf_m, fun q hq => ?_⟩⟩
      rcases led_split (zs := (T9, tupS (Str.ofString "") tE Y tY) :: zs) hq with hq | hq
      · rcases List.mem_cons.mp hq with rfl | hq
        · kcf_m
        · exact .tail _ (.tail _ (.tail _ (.tail _ (mem_led (List.mem_append_left _ hq)))))
      · exact .tail _ (.tail _ (.tail _ (.tail _ (led_weak (fun q hq => List.mem_append_right _ hq) q hq))))
    case b8 => kcf_all
  · clear HF HN
    rintro m₁ nx h₁ tk₁ ⟨its, zs, k, u, rfl, hits, hzs, rfl⟩ F₁ N₁
    rw [hsl] at hits
    refine hnext h₁ tk₁ r dx tk its k zs (fun j => if j = 3 then some (.ref r) else if j = 4 then u else v j) F₁ N₁ (Nat.ne_of_lt l2) ?_ (fun q hq => (hzs q hq).2.2) hits
    intro q hq
    rcases led_split hq with hq | hq
    · exact ⟨(hzs q hq).1, (hzs q hq).2.1⟩
    · have := l1 q hq
      exact ⟨Nat.ne_of_lt (Nat.lt_trans this l2), Nat.ne_of_lt this⟩
end

section
local macro_rules | `(tactic| walk_at "subscriptTail Name Slice ref ref") => `(tactic| (k_here; (with_reducible show wpAny _ _ (subscriptTail _ (PySem.Expr.Slice none (some _) none _) (Value.ref _) (Value.ref _)) _ _ _); k_dflt (refine' Mine.sl_uptoV ?F ?N ?l ?h1 ?z ?_ ?s ?t; (case F => k_asm); (case N => k_asm); (case l => is_list); (case h1 => omega); (case z => (simp; omega)); (case s => with_unfolding_all rfl); (case t => (intro _; with_unfolding_all rfl))); intro D' h' F' N' l1; (try k_lt l1); (try k_sweep)))
local macro_rules | `(tactic| walk_at "subscriptTail Name Slice ref ref") => `(tactic| (k_here; (with_reducible show wpAny _ _ (subscriptTail _ (PySem.Expr.Slice (some _) none none _) (Value.ref _) (Value.ref _)) _ _ _); k_dflt (refine' Mine.sl_fromV ?F ?N ?l ?h1 ?z ?_ ?s ?t; (case F => k_asm); (case N => k_asm); (case l => is_list); (case h1 => omega); (case z => (simp; omega)); (case s => with_unfolding_all rfl); (case t => (intro _; with_unfolding_all rfl))); intro D' h' F' N' l1; (try k_lt l1); (try k_sweep)))
noncomputable abbrev ringBody : { b : List Stmt // ∃ t i e q r, List.drop 5 loopBody.1 = .For t i b e q :: r } := ⟨_, _, _, _, _, _, rfl⟩
theorem min_sub (f x : Nat) : min f x + (x - f) = x := by
  rcases Nat.le_total f x with h | h
  · rw [Nat.min_eq_left h, Nat.add_sub_cancel' h]
  · rw [Nat.min_eq_right h, Nat.sub_eq_zero_of_le h, Nat.add_zero]
theorem cut_two {c f l : Nat} : min f (l - c) + min c l ≤ l :=
  Nat.le_trans (Nat.add_le_add_right (Nat.min_le_right _ _) _) (Nat.le_of_eq ((Nat.add_comm _ _).trans (min_sub c l)))
theorem cut_three {c f l : Nat} : min f (l - c) + (min c l + (l - (c + f))) ≤ l := by
  rw [← Nat.sub_sub, Nat.add_left_comm, min_sub f (l - c), min_sub c l]
  exact Nat.le_refl _
theorem ring_bds {l c f : Nat} {p : Int} (h : l = p.toNat) (hp : p ≤ 8) : min c l ≤ 100 ∧ min f (l - c) + min c l ≤ 1000 ∧ min f (l - c) + (min c l + (l - (c + f))) ≤ 100 := by
  have h8 : l ≤ 8 := by omega
  exact ⟨Nat.le_trans (Nat.min_le_right _ _) (Nat.le_trans h8 (by decide)), Nat.le_trans cut_two (Nat.le_trans h8 (by decide)), Nat.le_trans cut_three (Nat.le_trans h8 (by decide))⟩
theorem ringTurn {h₀ : Heap} {L SG HR TB : Nat} {u1 u2 : Option Value} {fa SL I J : Addr} {cd : Value} {p d1 h k : Int} {sgv hv tbv : List Value} {nn nsg ntb : Nat} {s : Shared} {c1 c2 c3 c4 oI oJ : Obj} {pa pb ps1 ps2 : Array Value} {tl : List (Addr × Obj)} {tp tpl ts t tg : Tok} {Q : Flow → Shared → Prop} {E : Value → Shared → Prop} {i : Nat} {a : Addr} {tv : List Value} {tn : Nat} {v : Nat → Option Value} {r dx : Nat} {tq : Tok} {its : List Value} {xs : List Int} {kk : Nat} {v0 : Value} {pl : Array UInt8}
  (X : (Mine.hd.heap_1 w.params).In h₀) (T : Top pp loose mean mg mb h₀)
  (F : Fr h₀ L s.heap (fun y => if y = Str.ofString "k" then some (.int k t) else lkO y (lawFr4 SL HR TB a r u1 u2 pl tpl i ts (.int (h / fct k.toNat) tg) v)))
  (N : News h₀ L s.heap ((J, oJ) :: ringLed w r dx tq v0 its kk ((I, oI) :: lawLed L HR SG TB c4 c3 c2 c1 hv sgv tbv nn nsg ntb ps1 ps2 pa pb tl)))
  (hdr : dx ≠ r) (hoff : ∀ q ∈ (J, oJ) :: (I, oI) :: lawLed L HR SG TB c4 c3 c2 c1 hv sgv tbv nn nsg ntb ps1 ps2 pa pb tl, q.1 ≠ r ∧ q.1 ≠ dx)
  (hits : ItsAre d1 tl its xs) (hxl : xs.length = p.toNat)
  (hc2 : c2.data = .cell (some (.int p tp)))
  (hk2 : 2 ≤ k) (hkp : k ≤ p) (hp4 : 4 ≤ p) (hp8 : p ≤ 8) (ha2 : (a, listOf tv.toArray tn) ∈ tl) (ha3 : IntsAre tv (toldSpec h p.toNat))
  (hnext : ∀ (h' : Heap) (tk' : Nat) (its' : List Value) (k' : Nat) (t0 ta : Tok) (v' : Nat → Option Value),
     Fr h₀ L h' (fun y => lkO y (lawFr4 SL HR TB a r u1 u2 pl tpl i ts (.int (h / fct (k.toNat - 1)) ta) v')) →
     News h₀ L h' ((J, oJ) :: ringLed w r dx tq (.int 0 t0) its' k' ((I, oI) :: lawLed L HR SG TB c4 c3 c2 c1 hv sgv tbv nn nsg ntb ps1 ps2 pa pb tl)) →
     ItsAre d1 tl its' (rotK k.toNat (mvI h k.toNat).toNat xs) → Q .next { s with heap := h', toks := tk' }) :
  wpAny (model PySem.Challenge.pw_xp0023_01 w) (callerA.deeper (lawEnv L fa cd)) (execs ringBody.1 (lawEnv L fa cd)) Q E s := by
  w_top off
  dsimp only [lawEnv, lawParts, loopBody, ringBody]
  have B := below_caller h₀
  obtain ⟨hp0, gs0, dr0, tk0, os0⟩ := s
  have htl : (toldSpec h p.toNat).length = p.toNat := toldSpec_length (by omega)
  obtain ⟨f, hf⟩ : ∃ f, (toldSpec h p.toNat).getD (p + 1 - k).toNat 0 = f := ⟨_, rfl⟩
  have hfm : f = mvI h k.toNat := by rw [← hf, show (p + 1 - k).toNat = p.toNat + 1 - k.toNat by omega, told_at (by omega) (by omega)]
  have hfb := mvI_bd (h := h) (show 1 ≤ k.toNat by omega)
  rw [← hfm] at hfb hnext
  have hil : its.length = p.toNat := by rw [hits.length, hxl]
  have hzD : k.toNat ≤ its.length := by rw [hil]; exact toNat_mono hkp
  obtain ⟨hzA, hzB, hzC⟩ := ring_bds (c := (k - f).toNat) (f := f.toNat) hil hp8
  have haM : (a, listOf tv.toArray tn) ∈ (J, oJ) :: ringLed w r dx tq v0 its kk ((I, oI) :: lawLed L HR SG TB c4 c3 c2 c1 hv sgv tbv nn nsg ntb ps1 ps2 pa pb tl) := List.mem_cons_of_mem _ (List.mem_cons_of_mem _ (List.mem_cons_of_mem _ (mem_led ha2)))
  have hrr : ∀ q ∈ (J, oJ) :: (I, oI) :: lawLed L HR SG TB c4 c3 c2 c1 hv sgv tbv nn nsg ntb ps1 ps2 pa pb tl, q.1 ≠ r := fun q hq => (hoff q hq).1
  (repeat' ((fail_if_success (with_reducible show wpAny _ _ (PySem.call (Value.ref _) _ _) _ _ _)); (fail_if_success (with_reducible show wpAny _ _ (getMethod (Value.ref _) (Str.ofString "push") _) _ _ _)); (fail_if_success (with_reducible show wpAny _ _ (getMethod (Value.ref _) (Str.ofString "pop_from") _) _ _ _)); (fail_if_success (with_reducible show wpAny _ _ (getMethod (Value.ref _) (Str.ofString "reset") _) _ _ _)); (fail_if_success (with_reducible show wpAny _ _ (getMethod (Value.ref _) (Str.ofString "part_count") _) _ _ _)); (fail_if_success (with_reducible show wpAny _ _ (exec (Stmt.For _ _ _ _ _) _) _ _ _)); (fail_if_success (with_reducible show wpAny _ _ (exec (Stmt.While _ _ _ _) _) _ _ _)); (fail_if_success (with_reducible show wpAny _ _ (pyIter _) _ _ _)); (fail_if_success (with_reducible show wpAny _ _ (PySem.eval (PySem.Expr.ListComp _ _ _ _) _) _ _ _)); (fail_if_success (with_reducible show LCg.CompSrc _ _ _ _ _ _ _ _ _ _ _ _ _ _)); (fail_if_success (with_reducible show LCg.CompEnd _ _ _ _ _ _ _ _ _ _ _ _ _ _)); first | (k_unfold; (try dsimp only)) | walk1 | (dsimp only; walk1) | fail "no step"))
  rename Fr _ _ _ _ => F1
  rename News _ _ _ _ => N1
  rename_i tf _
  rw [hf] at F1
  have F2 := fr_to F1 (m' := fun y => lkO y (lawFr4 SL HR TB a r u1 u2 pl tpl i ts (.int (h / fct k.toNat) tg) (fun j => if j = 6 then some (.int k t) else if j = 7 then some (.int f tf) else v j))) (by ktn_open)
  clear F1
  refine Mine.method_instL (K := Mine.hd.heap_1 _) (C := 100) (dx := dx) F2 X N1 (by kcf_m) (by kcf_m) (ga100 _) (by k_is) (by k_is) (by rfl) ?_
  (repeat' ((fail_if_success (with_reducible show wpAny _ _ (PySem.call (Value.ref _) _ _) _ _ _)); (fail_if_success (with_reducible show wpAny _ _ (getMethod (Value.ref _) (Str.ofString "push") _) _ _ _)); (fail_if_success (with_reducible show wpAny _ _ (getMethod (Value.ref _) (Str.ofString "pop_from") _) _ _ _)); (fail_if_success (with_reducible show wpAny _ _ (getMethod (Value.ref _) (Str.ofString "reset") _) _ _ _)); (fail_if_success (with_reducible show wpAny _ _ (getMethod (Value.ref _) (Str.ofString "part_count") _) _ _ _)); (fail_if_success (with_reducible show wpAny _ _ (exec (Stmt.For _ _ _ _ _) _) _ _ _)); (fail_if_success (with_reducible show wpAny _ _ (exec (Stmt.While _ _ _ _) _) _ _ _)); (fail_if_success (with_reducible show wpAny _ _ (pyIter _) _ _ _)); (fail_if_success (with_reducible show wpAny _ _ (PySem.eval (PySem.Expr.ListComp _ _ _ _) _) _ _ _)); (fail_if_success (with_reducible show LCg.CompSrc _ _ _ _ _ _ _ _ _ _ _ _ _ _)); (fail_if_success (with_reducible show LCg.CompEnd _ _ _ _ _ _ _ _ _ _ _ _ _ _)); first | (k_unfold; (try dsimp only)) | walk1 | (dsimp only; walk1) | fail "no step"))
  refine pop_spec (base := h₀) (outer := []) (dx := dx) (its := its) (k := kk) (n := 1) (es := isD w tq v0) (news := (J, oJ) :: (I, oI) :: lawLed L HR SG TB c4 c3 c2 c1 hv sgv tbv nn nsg ntb ps1 ps2 pa pb tl) ⟨B, F2, X, news_sub N1 (by kcf_all), T, by rfl, by rfl⟩ hdr hrr (by omega) (by omega) (by omega) (by show callerA.depth + 1 + 5 < _; decide) (by show callerA.units + 3 + 40 < _; decide) ?_
  intro D k5 h5 tk5 hD F3 N3
  clear F2 N1
  (repeat' ((fail_if_success (with_reducible show wpAny _ _ (PySem.call (Value.ref _) _ _) _ _ _)); (fail_if_success (with_reducible show wpAny _ _ (getMethod (Value.ref _) (Str.ofString "push") _) _ _ _)); (fail_if_success (with_reducible show wpAny _ _ (getMethod (Value.ref _) (Str.ofString "pop_from") _) _ _ _)); (fail_if_success (with_reducible show wpAny _ _ (getMethod (Value.ref _) (Str.ofString "reset") _) _ _ _)); (fail_if_success (with_reducible show wpAny _ _ (getMethod (Value.ref _) (Str.ofString "part_count") _) _ _ _)); (fail_if_success (with_reducible show wpAny _ _ (exec (Stmt.For _ _ _ _ _) _) _ _ _)); (fail_if_success (with_reducible show wpAny _ _ (exec (Stmt.While _ _ _ _) _) _ _ _)); (fail_if_success (with_reducible show wpAny _ _ (pyIter _) _ _ _)); (fail_if_success (with_reducible show wpAny _ _ (PySem.eval (PySem.Expr.ListComp _ _ _ _) _) _ _ _)); (fail_if_success (with_reducible show LCg.CompSrc _ _ _ _ _ _ _ _ _ _ _ _ _ _)); (fail_if_success (with_reducible show LCg.CompEnd _ _ _ _ _ _ _ _ _ _ _ _ _ _)); first | (k_unfold; (try dsimp only)) | walk1 | (dsimp only; walk1) | fail "no step"))
  rename Fr _ _ _ _ => F4
  rename News _ _ _ _ => N4
  have F5 := fr_to F4 (m' := fun y => lkO y (lawFr4 SL HR TB a r u1 u2 pl tpl i ts (.int (h / fct k.toNat) tg) (fun j => if j = 6 then some (.int k t) else if j = 7 then some (.int f tf) else if j = 8 then some (.ref D) else v j))) (by ktn_open)
  clear F4
  refine Mine.method_instL (K := Mine.hd.heap_1 _) (C := 100) (dx := dx) F5 X N4 (by kcf_m) (by kcf_m) (ga100 _) (by k_is) (by k_is) (by rfl) ?_
  (repeat' ((fail_if_success (with_reducible show wpAny _ _ (PySem.call (Value.ref _) _ _) _ _ _)); (fail_if_success (with_reducible show wpAny _ _ (getMethod (Value.ref _) (Str.ofString "push") _) _ _ _)); (fail_if_success (with_reducible show wpAny _ _ (getMethod (Value.ref _) (Str.ofString "pop_from") _) _ _ _)); (fail_if_success (with_reducible show wpAny _ _ (getMethod (Value.ref _) (Str.ofString "reset") _) _ _ _)); (fail_if_success (with_reducible show wpAny _ _ (getMethod (Value.ref _) (Str.ofString "part_count") _) _ _ _)); (fail_if_success (with_reducible show wpAny _ _ (exec (Stmt.For _ _ _ _ _) _) _ _ _)); (fail_if_success (with_reducible show wpAny _ _ (exec (Stmt.While _ _ _ _) _) _ _ _)); (fail_if_success (with_reducible show wpAny _ _ (pyIter _) _ _ _)); (fail_if_success (with_reducible show wpAny _ _ (PySem.eval (PySem.Expr.ListComp _ _ _ _) _) _ _ _)); (fail_if_success (with_reducible show LCg.CompSrc _ _ _ _ _ _ _ _ _ _ _ _ _ _)); (fail_if_success (with_reducible show LCg.CompEnd _ _ _ _ _ _ _ _ _ _ _ _ _ _)); first | (k_unfold; (try dsimp only)) | walk1 | (dsimp only; walk1) | fail "no step"))
  rename_i h7 D1 h8 F6 N6 lD1

  refine Mine.method_instL (K := Mine.hd.heap_1 _) (C := 100) (dx := dx) F6 X N6 (by kcf_m) (by kcf_m) (ga100 _) (by k_is) (by k_is) (by rfl) ?_
  (repeat' ((fail_if_success (with_reducible show wpAny _ _ (PySem.call (Value.ref _) _ _) _ _ _)); (fail_if_success (with_reducible show wpAny _ _ (getMethod (Value.ref _) (Str.ofString "push") _) _ _ _)); (fail_if_success (with_reducible show wpAny _ _ (getMethod (Value.ref _) (Str.ofString "pop_from") _) _ _ _)); (fail_if_success (with_reducible show wpAny _ _ (getMethod (Value.ref _) (Str.ofString "reset") _) _ _ _)); (fail_if_success (with_reducible show wpAny _ _ (getMethod (Value.ref _) (Str.ofString "part_count") _) _ _ _)); (fail_if_success (with_reducible show wpAny _ _ (exec (Stmt.For _ _ _ _ _) _) _ _ _)); (fail_if_success (with_reducible show wpAny _ _ (exec (Stmt.While _ _ _ _) _) _ _ _)); (fail_if_success (with_reducible show wpAny _ _ (pyIter _) _ _ _)); (fail_if_success (with_reducible show wpAny _ _ (PySem.eval (PySem.Expr.ListComp _ _ _ _) _) _ _ _)); (fail_if_success (with_reducible show LCg.CompSrc _ _ _ _ _ _ _ _ _ _ _ _ _ _)); (fail_if_success (with_reducible show LCg.CompEnd _ _ _ _ _ _ _ _ _ _ _ _ _ _)); first | (k_unfold; (try dsimp only)) | walk1 | (dsimp only; walk1) | fail "no step"))
  have hD1 : @Ne Nat D1 r := Nat.ne_of_gt lD1.1
  have hDr : @Ne Nat D r := Nat.ne_of_gt (hD (r, accObj 100 dx its.toArray kk) (by kcf_m))
  refine pop0_spec (base := h₀) (outer := []) (dx := dx) (its := its.take (k - f).toNat) (k := k5) (n := 1) (es := isD w tq v0) (news := (D1, listOf ((its.drop (k - f).toNat).take f.toNat).toArray 0) :: (D, listOf (its.drop (k - f).toNat).toArray 0) :: (J, oJ) :: (I, oI) :: lawLed L HR SG TB c4 c3 c2 c1 hv sgv tbv nn nsg ntb ps1 ps2 pa pb tl) ⟨B, F6, X, news_sub N6 (by kcf_all), T, by rfl, by rfl⟩ hdr (List.forall_mem_cons.mpr ⟨hD1, List.forall_mem_cons.mpr ⟨hDr, hrr⟩⟩) (by rw [List.length_take]; omega) (by show callerA.depth + 1 + 5 < _; decide) (by show callerA.units + 3 + 40 < _; decide) ?_
  intro D2 k9 h9 tk9 hD2 F7 N7
  clear F6 N6
  (repeat' ((fail_if_success (with_reducible show wpAny _ _ (binaryOp Operator.Add (Value.ref _) (Value.ref _)) _ _ _)); (fail_if_success (with_reducible show wpAny _ _ (PySem.call (Value.ref _) _ _) _ _ _)); (fail_if_success (with_reducible show wpAny _ _ (getMethod (Value.ref _) (Str.ofString "push") _) _ _ _)); (fail_if_success (with_reducible show wpAny _ _ (getMethod (Value.ref _) (Str.ofString "pop_from") _) _ _ _)); (fail_if_success (with_reducible show wpAny _ _ (getMethod (Value.ref _) (Str.ofString "reset") _) _ _ _)); (fail_if_success (with_reducible show wpAny _ _ (getMethod (Value.ref _) (Str.ofString "part_count") _) _ _ _)); (fail_if_success (with_reducible show wpAny _ _ (exec (Stmt.For _ _ _ _ _) _) _ _ _)); (fail_if_success (with_reducible show wpAny _ _ (exec (Stmt.While _ _ _ _) _) _ _ _)); (fail_if_success (with_reducible show wpAny _ _ (pyIter _) _ _ _)); (fail_if_success (with_reducible show wpAny _ _ (PySem.eval (PySem.Expr.ListComp _ _ _ _) _) _ _ _)); (fail_if_success (with_reducible show LCg.CompSrc _ _ _ _ _ _ _ _ _ _ _ _ _ _)); (fail_if_success (with_reducible show LCg.CompEnd _ _ _ _ _ _ _ _ _ _ _ _ _ _)); first | (k_unfold; (try dsimp only)) | walk1 | (dsimp only; walk1) | fail "no step"))
  refine add_V (vs := (its.drop (k - f).toNat).take f.toNat) (ws := its.take (k - f).toNat) F7 N7 (News.isList N7 (by kcf_m)) (News.isList N7 (by kcf_m)) (by simp; omega) (by simp; omega) ?_
  intro D3 h10 F8 N8 hD3
  clear F7 N7
  (repeat' ((fail_if_success (with_reducible show wpAny _ _ (binaryOp Operator.Add (Value.ref _) (Value.ref _)) _ _ _)); (fail_if_success (with_reducible show wpAny _ _ (PySem.call (Value.ref _) _ _) _ _ _)); (fail_if_success (with_reducible show wpAny _ _ (getMethod (Value.ref _) (Str.ofString "push") _) _ _ _)); (fail_if_success (with_reducible show wpAny _ _ (getMethod (Value.ref _) (Str.ofString "pop_from") _) _ _ _)); (fail_if_success (with_reducible show wpAny _ _ (getMethod (Value.ref _) (Str.ofString "reset") _) _ _ _)); (fail_if_success (with_reducible show wpAny _ _ (getMethod (Value.ref _) (Str.ofString "part_count") _) _ _ _)); (fail_if_success (with_reducible show wpAny _ _ (exec (Stmt.For _ _ _ _ _) _) _ _ _)); (fail_if_success (with_reducible show wpAny _ _ (exec (Stmt.While _ _ _ _) _) _ _ _)); (fail_if_success (with_reducible show wpAny _ _ (pyIter _) _ _ _)); (fail_if_success (with_reducible show wpAny _ _ (PySem.eval (PySem.Expr.ListComp _ _ _ _) _) _ _ _)); (fail_if_success (with_reducible show LCg.CompSrc _ _ _ _ _ _ _ _ _ _ _ _ _ _)); (fail_if_success (with_reducible show LCg.CompEnd _ _ _ _ _ _ _ _ _ _ _ _ _ _)); first | (k_unfold; (try dsimp only)) | walk1 | (dsimp only; walk1) | fail "no step"))
  rename_i h11 D4 h12 F9 N9 lD4
  refine add_V (vs := (its.drop (k - f).toNat).take f.toNat ++ its.take (k - f).toNat) (ws := (its.drop (k - f).toNat).drop f.toNat) F9 N9 (News.isList N9 (by kcf_m)) (News.isList N9 (by kcf_m)) (by simp; omega) (by simp; omega) ?_
  intro D5 h13 F10 N10 hD5
  clear F9 N9
  (repeat' ((fail_if_success (with_reducible show wpAny _ _ (PySem.call (Value.ref _) _ _) _ _ _)); (fail_if_success (with_reducible show wpAny _ _ (getMethod (Value.ref _) (Str.ofString "push") _) _ _ _)); (fail_if_success (with_reducible show wpAny _ _ (getMethod (Value.ref _) (Str.ofString "pop_from") _) _ _ _)); (fail_if_success (with_reducible show wpAny _ _ (getMethod (Value.ref _) (Str.ofString "reset") _) _ _ _)); (fail_if_success (with_reducible show wpAny _ _ (getMethod (Value.ref _) (Str.ofString "part_count") _) _ _ _)); (fail_if_success (with_reducible show wpAny _ _ (exec (Stmt.For _ _ _ _ _) _) _ _ _)); (fail_if_success (with_reducible show wpAny _ _ (exec (Stmt.While _ _ _ _) _) _ _ _)); (fail_if_success (with_reducible show wpAny _ _ (pyIter _) _ _ _)); (fail_if_success (with_reducible show wpAny _ _ (PySem.eval (PySem.Expr.ListComp _ _ _ _) _) _ _ _)); (fail_if_success (with_reducible show LCg.CompSrc _ _ _ _ _ _ _ _ _ _ _ _ _ _)); (fail_if_success (with_reducible show LCg.CompEnd _ _ _ _ _ _ _ _ _ _ _ _ _ _)); first | (k_unfold; (try dsimp only)) | walk1 | (dsimp only; walk1) | fail "no step"))
  have hD5r : @Ne Nat D5 r := Nat.ne_of_gt (hD5 (r, accObj 100 dx [].toArray k9) (by kcf_m))
  have hD5d : @Ne Nat D5 dx := Nat.ne_of_gt (hD5 (dx, dictOf (isD w tq v0) 1) (by kcf_m))
  refine reset_spec (base := h₀) (outer := []) (dx := dx) (its := []) (k := k9) (n := 1) (tk0 := tq) (v0 := v0) (ys := (its.drop (k - f).toNat).take f.toNat ++ its.take (k - f).toNat ++ (its.drop (k - f).toNat).drop f.toNat) (nn := 0) (news := (D5, listOf ((its.drop (k - f).toNat).take f.toNat ++ its.take (k - f).toNat ++ (its.drop (k - f).toNat).drop f.toNat).toArray 0) :: (J, oJ) :: (I, oI) :: lawLed L HR SG TB c4 c3 c2 c1 hv sgv tbv nn nsg ntb ps1 ps2 pa pb tl) ⟨B, F10, X, news_sub N10 (by kcf_all), T, by rfl, by rfl⟩ (by kcf_m) hdr (List.forall_mem_cons.mpr ⟨hD5r, hrr⟩) (List.forall_mem_cons.mpr ⟨hD5d, fun q hq => (hoff q hq).2⟩) (by simp) (by simp; omega) (by show callerA.depth + 1 + 5 < _; decide) (by show callerA.units + 3 + 40 < _; decide) ?_
  intro k14 t14 h14 tk14 F11 N11
  clear F10 N10
  (repeat' ((fail_if_success (with_reducible show wpAny _ _ (PySem.call (Value.ref _) _ _) _ _ _)); (fail_if_success (with_reducible show wpAny _ _ (getMethod (Value.ref _) (Str.ofString "push") _) _ _ _)); (fail_if_success (with_reducible show wpAny _ _ (getMethod (Value.ref _) (Str.ofString "pop_from") _) _ _ _)); (fail_if_success (with_reducible show wpAny _ _ (getMethod (Value.ref _) (Str.ofString "reset") _) _ _ _)); (fail_if_success (with_reducible show wpAny _ _ (getMethod (Value.ref _) (Str.ofString "part_count") _) _ _ _)); (fail_if_success (with_reducible show wpAny _ _ (exec (Stmt.For _ _ _ _ _) _) _ _ _)); (fail_if_success (with_reducible show wpAny _ _ (exec (Stmt.While _ _ _ _) _) _ _ _)); (fail_if_success (with_reducible show wpAny _ _ (pyIter _) _ _ _)); (fail_if_success (with_reducible show wpAny _ _ (PySem.eval (PySem.Expr.ListComp _ _ _ _) _) _ _ _)); (fail_if_success (with_reducible show LCg.CompSrc _ _ _ _ _ _ _ _ _ _ _ _ _ _)); (fail_if_success (with_reducible show LCg.CompEnd _ _ _ _ _ _ _ _ _ _ _ _ _ _)); first | (k_unfold; (try dsimp only)) | walk1 | (dsimp only; walk1) | fail "no step"))
  rename Fr _ _ _ _ => F12
  rename News _ _ _ _ => N12
  obtain ⟨t12, F13⟩ : ∃ t12, Fr h₀ L _ (fun y => if y = Str.ofString "again" then some (.int (h / fct k.toNat * k + f) t12) else lkO y (lawFr4 SL HR TB a r u1 u2 pl tpl i ts (.int (h / fct k.toNat) tg) (fun j => if j = 6 then some (.int k t) else if j = 7 then some (.int f tf) else if j = 8 then some (.ref D) else v j))) := ⟨_, F12⟩
  have hag : h / fct k.toNat * k + f = h / fct (k.toNat - 1) := by
    have := horner (h := h) (show 1 ≤ k.toNat by omega)
    rw [← hfm, show ((k.toNat : Nat) : Int) = k by omega] at this
    exact this
  rw [hag] at F13
  refine hnext _ _ _ k14 t14 t12 (fun j => if j = 6 then some (.int k t) else if j = 7 then some (.int f tf) else if j = 8 then some (.ref D) else v j) (fr_to F13 (by ktn_open)) (news_sub N12 (by kcf_all)) ?_
  have hr := hits.rot (k := k.toNat) (mv := f.toNat)
  rw [← rot_vals (by omega) (by omega), (toNat_sub_le hfb.1 (Int.le_trans (Int.le_of_lt hfb.2) (Int.le_of_eq (Int.toNat_of_nonneg (Int.le_trans (by decide) hk2))))).symm] at hr
  exact hr
end

section
theorem k_down {p k : Int} {j : Nat} (hk : p + (j : Int) * (-1) = k) (h : 2 ≤ k) : k.toNat = p.toNat - j ∧ k.toNat - 1 = p.toNat - (j + 1) := by omega
theorem turn3 {h₀ : Heap} {L SG HR TB : Nat} {u1 u2 : Option Value} {fa SL I : Addr} {cd : Value} {p d1 : Int} {sgv hv tbv : List Value} {hs : List Int} {nn nsg ntb : Nat} {s : Shared} {c1 c2 c3 c4 oI : Obj} {pa pb ps1 ps2 : Array Value} {tl : List (Addr × Obj)} {tp tpl ts : Tok} {R : Flow → Shared → Prop} {i : Nat} {a : Addr} {tv : List Value} {tn : Nat} {v : Nat → Option Value} {r dx : Nat} {tq : Tok} {its : List Value} {kk : Nat}
  (X : (Mine.hd.heap_1 w.params).In h₀) (T : Top pp loose mean mg mb h₀)
  (F : Fr h₀ L s.heap (fun y => lkO y (lawFr3 SL HR TB a r u1 u2 (byteArr (ordSpec (hs.getD i 0) p)) tpl i ts v)))
  (N : News h₀ L s.heap (ringLed w r dx tq (.int p tp) its kk ((I, oI) :: lawLed L HR SG TB c4 c3 c2 c1 hv sgv tbv nn nsg ntb ps1 ps2 pa pb tl)))
  (hdr : dx ≠ r) (hoff : ∀ q ∈ (I, oI) :: lawLed L HR SG TB c4 c3 c2 c1 hv sgv tbv nn nsg ntb ps1 ps2 pa pb tl, q.1 ≠ r ∧ q.1 ≠ dx)
  (hits : ItsAre d1 tl its (rangeKs 0 p.toNat))
  (hc2 : c2.data = .cell (some (.int p tp))) (hc4 : c4.data = .cell (some (.ref SG)))
  (l0 : @LT.lt Nat _ 127 L ∧ @LT.lt Nat _ 120 L ∧ @LT.lt Nat _ 62 L ∧ @LT.lt Nat _ 69 L) (lSG : @Ne Nat SG 69 ∧ @Ne Nat SG 62 ∧ @Ne Nat SG 120 ∧ @Ne Nat SG 127) (lHR : @LT.lt Nat _ (L + 1 + 1 + 1 + 1) HR) (lTB : @Ne Nat TB 69 ∧ @Ne Nat TB 62)
  (hIh : IntsAre hv hs) (hi : i < hs.length) (hhl : 4 ≤ hs.length ∧ hs.length ≤ 6) (hst : StepsBy hs) (hbd : ∀ x ∈ hs, -1000000000005 ≤ x ∧ x ≤ 1000000000005) (hp4 : 4 ≤ p) (hp8 : p ≤ 8)
  (hsg : StrsAre sgv ((List.range p.toNat).map (sgAt d1)))
  (htb : tbv.length = hs.length) (hto : ∀ j, j < hs.length → ∃ a tv tn, tbv[j]? = some (.ref a) ∧ (a, listOf tv.toArray tn) ∈ tl ∧ IntsAre tv (toldSpec (hs.getD j 0) p.toNat))
  (ha2 : (a, listOf tv.toArray tn) ∈ tl) (ha3 : IntsAre tv (toldSpec (hs.getD i 0) p.toNat))
  (ht1 : TriplesOk ps1.toList) (ht2 : TriplesOk ps2.toList) (G0 : AllBare s.gens)
  (hnext : ∀ (hp : Heap) (tk' : Nat) (its' : List Value) (k' : Nat) (t0 ta : Tok) (v' : Nat → Option Value),
     Fr h₀ L hp (fun y => lkO y (lawFr4 SL HR TB a r u1 u2 (byteArr (ordSpec (hs.getD i 0) p)) tpl i ts (.int (hs.getD i 0) ta) v')) →
     News h₀ L hp (ringLed w r dx tq (.int 0 t0) its' k' ((I, oI) :: lawLed L HR SG TB c4 c3 c2 c1 hv sgv tbv nn nsg ntb ps1 ps2 pa pb tl)) →
     ItsAre d1 tl its' (ordSpec (hs.getD i 0) p) →
     wpR (model PySem.Challenge.pw_xp0023_01 w) (callerA.deeper (lawEnv L fa cd)) (execs (List.drop 6 loopBody.1) (lawEnv L fa cd)) R { s with heap := hp, toks := tk' }) :
  wpR (model PySem.Challenge.pw_xp0023_01 w) (callerA.deeper (lawEnv L fa cd)) (execs (List.drop 4 loopBody.1) (lawEnv L fa cd)) R s := by
  w_top off
  dsimp only [lawEnv, lawParts, loopBody]
  dsimp only [lawEnv, lawParts, loopBody] at hnext
  have B := below_caller h₀
  obtain ⟨hp0, gs0, dr0, tk0, os0⟩ := s
  have htl : (toldSpec (hs.getD i 0) p.toNat).length = p.toNat := toldSpec_length (by omega)
  have haM : (a, listOf tv.toArray tn) ∈ ringLed w r dx tq (.int p tp) its kk ((I, oI) :: lawLed L HR SG TB c4 c3 c2 c1 hv sgv tbv nn nsg ntb ps1 ps2 pa pb tl) := List.mem_cons_of_mem _ (List.mem_cons_of_mem _ (mem_led ha2))
  refine wpR_execs_step ?_
  (repeat' ((fail_if_success (with_reducible show wpAny _ _ (PySem.call (Value.ref _) _ _) _ _ _)); (fail_if_success (with_reducible show wpAny _ _ (getMethod (Value.ref _) (Str.ofString "push") _) _ _ _)); (fail_if_success (with_reducible show wpAny _ _ (getMethod (Value.ref _) (Str.ofString "pop_from") _) _ _ _)); (fail_if_success (with_reducible show wpAny _ _ (getMethod (Value.ref _) (Str.ofString "reset") _) _ _ _)); (fail_if_success (with_reducible show wpAny _ _ (getMethod (Value.ref _) (Str.ofString "part_count") _) _ _ _)); (fail_if_success (with_reducible show wpAny _ _ (exec (Stmt.For _ _ _ _ _) _) _ _ _)); (fail_if_success (with_reducible show wpAny _ _ (exec (Stmt.While _ _ _ _) _) _ _ _)); (fail_if_success (with_reducible show wpAny _ _ (pyIter _) _ _ _)); (fail_if_success (with_reducible show wpAny _ _ (PySem.eval (PySem.Expr.ListComp _ _ _ _) _) _ _ _)); (fail_if_success (with_reducible show LCg.CompSrc _ _ _ _ _ _ _ _ _ _ _ _ _ _)); (fail_if_success (with_reducible show LCg.CompEnd _ _ _ _ _ _ _ _ _ _ _ _ _ _)); first | (k_unfold; (try dsimp only)) | walk1 | (dsimp only; walk1) | fail "no step"))
  rename Fr _ _ _ _ => F1
  rename News _ _ _ _ => N1
  obtain ⟨tg, F1b⟩ : ∃ tg, Fr h₀ L _ (fun y => if y = Str.ofString "again" then some (.int ((toldSpec (hs.getD i 0) p.toNat).getD (Int.toNat 0) 0) tg) else lkO y (lawFr3 SL HR TB a r u1 u2 (byteArr (ordSpec (hs.getD i 0) p)) tpl i ts v)) := ⟨_, F1⟩
  rw [show Int.toNat 0 = 0 from rfl, told_zero] at F1b
  have F2 := fr_to F1b (m' := fun y => lkO y (lawFr4 SL HR TB a r u1 u2 (byteArr (ordSpec (hs.getD i 0) p)) tpl i ts (.int (hs.getD i 0 / fct p.toNat) tg) v)) (by ktn_open)
  clear F1 F1b
  try dsimp only
  refine gen_toks fun tk9 => ?_
  try dsimp only
  refine wpR_execs_step ?_
  refine For_invV h₀ (by rfl) (by rfl) ?_
  (repeat' ((fail_if_success (with_reducible show wpAny _ _ (PySem.call (Value.ref _) _ _) _ _ _)); (fail_if_success (with_reducible show wpAny _ _ (getMethod (Value.ref _) (Str.ofString "push") _) _ _ _)); (fail_if_success (with_reducible show wpAny _ _ (getMethod (Value.ref _) (Str.ofString "pop_from") _) _ _ _)); (fail_if_success (with_reducible show wpAny _ _ (getMethod (Value.ref _) (Str.ofString "reset") _) _ _ _)); (fail_if_success (with_reducible show wpAny _ _ (getMethod (Value.ref _) (Str.ofString "part_count") _) _ _ _)); (fail_if_success (with_reducible show wpAny _ _ (exec (Stmt.For _ _ _ _ _) _) _ _ _)); (fail_if_success (with_reducible show wpAny _ _ (exec (Stmt.While _ _ _ _) _) _ _ _)); (fail_if_success (with_reducible show wpAny _ _ (pyIter _) _ _ _)); (fail_if_success (with_reducible show wpAny _ _ (PySem.eval (PySem.Expr.ListComp _ _ _ _) _) _ _ _)); (fail_if_success (with_reducible show LCg.CompSrc _ _ _ _ _ _ _ _ _ _ _ _ _ _)); (fail_if_success (with_reducible show LCg.CompEnd _ _ _ _ _ _ _ _ _ _ _ _ _ _)); first | (k_unfold; (try dsimp only)) | walk1 | (dsimp only; walk1) | fail "no step"))
  refine Mine.method_instL (K := Mine.hd.heap_1 _) (C := 100) (dx := dx) F2 X N1 (by kcf_m) (by kcf_m) (ga100 _) (by k_is) (by k_is) (by rfl) ?_
  (repeat' ((fail_if_success (with_reducible show wpAny _ _ (PySem.call (Value.ref _) _ _) _ _ _)); (fail_if_success (with_reducible show wpAny _ _ (getMethod (Value.ref _) (Str.ofString "push") _) _ _ _)); (fail_if_success (with_reducible show wpAny _ _ (getMethod (Value.ref _) (Str.ofString "pop_from") _) _ _ _)); (fail_if_success (with_reducible show wpAny _ _ (getMethod (Value.ref _) (Str.ofString "reset") _) _ _ _)); (fail_if_success (with_reducible show wpAny _ _ (getMethod (Value.ref _) (Str.ofString "part_count") _) _ _ _)); (fail_if_success (with_reducible show wpAny _ _ (exec (Stmt.For _ _ _ _ _) _) _ _ _)); (fail_if_success (with_reducible show wpAny _ _ (exec (Stmt.While _ _ _ _) _) _ _ _)); (fail_if_success (with_reducible show wpAny _ _ (pyIter _) _ _ _)); (fail_if_success (with_reducible show wpAny _ _ (PySem.eval (PySem.Expr.ListComp _ _ _ _) _) _ _ _)); (fail_if_success (with_reducible show LCg.CompSrc _ _ _ _ _ _ _ _ _ _ _ _ _ _)); (fail_if_success (with_reducible show LCg.CompEnd _ _ _ _ _ _ _ _ _ _ _ _ _ _)); first | (k_unfold; (try dsimp only)) | walk1 | (dsimp only; walk1) | fail "no step"))
  refine count_spec (base := h₀) (outer := []) ⟨B, F2, X, N1, T, by rfl, by rfl⟩ (by show callerA.depth + 1 + 5 < _; decide) (by show callerA.units + 3 + 40 < _; decide) ?_
  intro t3 h3 tk3 F3 N3
  clear F2 N1
  have hil : its.length = p.toNat := by rw [hits.length, rangeKs_length]
  rw [List.size_toArray, hil, show ((p.toNat : Nat) : Int) = p by omega]
  (repeat' ((fail_if_success (with_reducible show wpAny _ _ (PySem.call (Value.ref _) _ _) _ _ _)); (fail_if_success (with_reducible show wpAny _ _ (getMethod (Value.ref _) (Str.ofString "push") _) _ _ _)); (fail_if_success (with_reducible show wpAny _ _ (getMethod (Value.ref _) (Str.ofString "pop_from") _) _ _ _)); (fail_if_success (with_reducible show wpAny _ _ (getMethod (Value.ref _) (Str.ofString "reset") _) _ _ _)); (fail_if_success (with_reducible show wpAny _ _ (getMethod (Value.ref _) (Str.ofString "part_count") _) _ _ _)); (fail_if_success (with_reducible show wpAny _ _ (exec (Stmt.For _ _ _ _ _) _) _ _ _)); (fail_if_success (with_reducible show wpAny _ _ (exec (Stmt.While _ _ _ _) _) _ _ _)); (fail_if_success (with_reducible show wpAny _ _ (pyIter _) _ _ _)); (fail_if_success (with_reducible show wpAny _ _ (PySem.eval (PySem.Expr.ListComp _ _ _ _) _) _ _ _)); (fail_if_success (with_reducible show LCg.CompSrc _ _ _ _ _ _ _ _ _ _ _ _ _ _)); (fail_if_success (with_reducible show LCg.CompEnd _ _ _ _ _ _ _ _ _ _ _ _ _ _)); first | (k_unfold; (try dsimp only)) | walk1 | (dsimp only; walk1) | fail "no step"))
  rename IsRange _ _ _ _ _ _ _ _ => hr
  rename Fr _ _ _ _ => HF
  rename News _ _ _ _ => HN
  rename Fr _ _ h3 _ => G1
  rename News _ _ h3 _ => G2
  clear G1 G2
  refine iter_rangeG (n := (p - 1).toNat) (fun j m nx => ∃ (its : List Value) (xs : List Int) (k : Nat) (v0 : Value) (tg : Tok) (v' : Nat → Option Value), nx = ringLed w r dx tq v0 its k ((I, oI) :: lawLed L HR SG TB c4 c3 c2 c1 hv sgv tbv nn nsg ntb ps1 ps2 pa pb tl) ∧ (0 < j → ∃ t0, v0 = .int 0 t0) ∧ ItsAre d1 tl its xs ∧ xs.length = p.toNat ∧ ordGo (hs.getD i 0) (p.toNat - j) xs = ordSpec (hs.getD i 0) p ∧
    m = fun y => lkO y (lawFr4 SL HR TB a r u1 u2 (byteArr (ordSpec (hs.getD i 0) p)) tpl i ts (.int (hs.getD i 0 / fct (p.toNat - j)) tg) v')) rfl hr (small_down (by omega) (by omega) (by omega) (by omega)) (rangeSize_downNat _ _) HF HN ⟨its, _, kk, _, tg, v, rfl, fun h => absurd h (Nat.lt_irrefl _), hits, by rw [rangeKs_length], by rw [Nat.sub_zero]; rfl, rfl⟩ ?_ ?_
  · clear hr HF HN hits hil its kk haM tg v
    rintro j t m₁ nx h₁ tk₁ J oJ hj ⟨its, xs, kk, v0, tg, v, rfl, hv0, hits, hxl, hgo, rfl⟩ hJ F₁ N₁
    obtain ⟨k, hk⟩ : ∃ k : Int, p + (j : Int) * (-1) = k := ⟨_, rfl⟩
    rw [hk] at F₁
    have hk2 : 2 ≤ k := by omega
    obtain ⟨hkj, hkj1⟩ := k_down hk hk2
    have hzD : k.toNat ≤ xs.length := by rw [hxl, hkj]; exact Nat.sub_le _ _
    refine ringTurn (h := hs.getD i 0) (k := k) (p := p) (xs := xs) (its := its) (kk := kk) (tv := tv) (tn := tn) (tg := tg) (v := v) (pl := byteArr (ordSpec (hs.getD i 0) p)) (J := J) (oJ := oJ) (tl := tl) (r := r) (dx := dx) X T (by rw [hkj]; exact F₁) N₁ hdr ?_ hits hxl hc2 hk2 (by omega) hp4 hp8 ha2 ha3 ?_
    · refine List.forall_mem_cons.mpr ⟨⟨fun e => hJ (r, accObj 100 dx its.toArray kk) (by kcf_m) e.symm, fun e => hJ (dx, dictOf (isD w tq v0) 1) (by kcf_m) e.symm⟩, hoff⟩
    · intro h' tk' its' k' t0 ta v' F9 N9 hit9
      refine InvEndG.intro F9 N9 ⟨its', rotK k.toNat (mvI (hs.getD i 0) k.toNat).toNat xs, k', .int 0 t0, ta, v', rfl, fun _ => ⟨t0, rfl⟩, hit9, ?l8, ?g8, ?m8⟩ ?o8 ?n8 ?b8
      case m8 => rw [hkj1]
      case l8 => rw [rotK_length (by omega) (by have := mvI_bd (h := hs.getD i 0) (show 1 ≤ k.toNat by omega); omega)]; exact hxl
      case g8 =>
        rw [← hkj1, ring_step (by omega) (by omega), hkj]
        exact hgo
      case o8 => exact ownoff_one (List.forall_mem_cons.mpr ⟨fun e => hJ (r, accObj 100 dx its.toArray kk) (by kcf_m) e, List.forall_mem_cons.mpr ⟨fun e => hJ (dx, dictOf (isD w tq v0) 1) (by kcf_m) e, fun q hq => hJ q (.tail _ (.tail _ hq))⟩⟩)
      case n8 => kcf_all
      case b8 => kcf_all
  · clear hr HF HN
    rintro m₁ nx h₁ tk₁ ⟨its, xs, kk, v0, tg, v, rfl, hv0, hits, hxl, hgo, rfl⟩ F₁ N₁
    obtain ⟨t0, rfl⟩ := hv0 (by omega)
    rw [down_one hp4] at hgo F₁
    rw [show hs.getD i 0 / fct 1 = hs.getD i 0 from Int.ediv_one _] at F₁
    rw [show xs = ordSpec (hs.getD i 0) p from hgo] at hits
    exact hnext h₁ tk₁ its kk t0 tg v F₁ N₁ hits
end

section
theorem turn4 {h₀ : Heap} {L SG HR TB : Nat} {u1 u2 : Option Value} {fa SL I : Addr} {cd : Value} {p d1 : Int} {sgv hv tbv : List Value} {hs : List Int} {nn nsg ntb : Nat} {s : Shared} {c1 c2 c3 c4 oI : Obj} {pa pb ps1 ps2 : Array Value} {tl : List (Addr × Obj)} {tp tpl ts : Tok} {R : Flow → Shared → Prop} {i : Nat} {a : Addr} {tv : List Value} {tn : Nat} {v : Nat → Option Value} {r dx : Nat} {tq : Tok} {its : List Value} {kk : Nat} {v0 ag : Value}
  (X : (Mine.hd.heap_1 w.params).In h₀) (T : Top pp loose mean mg mb h₀)
  (F : Fr h₀ L s.heap (fun y => lkO y (lawFr4 SL HR TB a r u1 u2 (byteArr (ordSpec (hs.getD i 0) p)) tpl i ts ag v)))
  (N : News h₀ L s.heap (ringLed w r dx tq v0 its kk ((I, oI) :: lawLed L HR SG TB c4 c3 c2 c1 hv sgv tbv nn nsg ntb ps1 ps2 pa pb tl)))
  (hc2 : c2.data = .cell (some (.int p tp))) (hc4 : c4.data = .cell (some (.ref SG)))
  (l0 : @LT.lt Nat _ 127 L ∧ @LT.lt Nat _ 120 L ∧ @LT.lt Nat _ 62 L ∧ @LT.lt Nat _ 69 L) (lSG : @Ne Nat SG 69 ∧ @Ne Nat SG 62 ∧ @Ne Nat SG 120 ∧ @Ne Nat SG 127) (lHR : @LT.lt Nat _ (L + 1 + 1 + 1 + 1) HR) (lTB : @Ne Nat TB 69 ∧ @Ne Nat TB 62)
  (hIh : IntsAre hv hs) (hi : i < hs.length) (hhl : 4 ≤ hs.length ∧ hs.length ≤ 6) (hst : StepsBy hs) (hbd : ∀ x ∈ hs, -1000000000005 ≤ x ∧ x ≤ 1000000000005) (hp4 : 4 ≤ p) (hp8 : p ≤ 8)
  (hsg : StrsAre sgv ((List.range p.toNat).map (sgAt d1)))
  (htb : tbv.length = hs.length) (hto : ∀ j, j < hs.length → ∃ a tv tn, tbv[j]? = some (.ref a) ∧ (a, listOf tv.toArray tn) ∈ tl ∧ IntsAre tv (toldSpec (hs.getD j 0) p.toNat))
  (ha2 : (a, listOf tv.toArray tn) ∈ tl) (ha3 : IntsAre tv (toldSpec (hs.getD i 0) p.toNat))
  (ht1 : TriplesOk ps1.toList) (ht2 : TriplesOk ps2.toList) (G0 : AllBare s.gens)
  (hnext : ∀ (hp : Heap) (tk' : Nat) (D : Addr) (dv : List Value) (nd : Nat) (W : Str) (tw : Tok) (v' : Nat → Option Value),
     (∀ q ∈ (I, oI) :: lawLed L HR SG TB c4 c3 c2 c1 hv sgv tbv nn nsg ntb ps1 ps2 pa pb tl, q.1 < D) →
     Fr h₀ L hp (fun y => lkO y (lawFr5 SL HR TB a r D u1 u2 (byteArr (ordSpec (hs.getD i 0) p)) tpl i ts ag W tw v')) →
     News h₀ L hp ((D, listOf dv.toArray nd) :: ringLed w r dx tq v0 its kk ((I, oI) :: lawLed L HR SG TB c4 c3 c2 c1 hv sgv tbv nn nsg ntb ps1 ps2 pa pb tl)) →
     IntsAre dv (ordSpec (hs.getD i 0) p) → W.cps.toList = wrL d1 (ordSpec (hs.getD i 0) p) →
     wpR (model PySem.Challenge.pw_xp0023_01 w) (callerA.deeper (lawEnv L fa cd)) (execs (List.drop 8 loopBody.1) (lawEnv L fa cd)) R { s with heap := hp, toks := tk' }) :
  wpR (model PySem.Challenge.pw_xp0023_01 w) (callerA.deeper (lawEnv L fa cd)) (execs (List.drop 6 loopBody.1) (lawEnv L fa cd)) R s := by
  w_top off
  dsimp only [lawEnv, lawParts, loopBody]
  dsimp only [lawEnv, lawParts, loopBody] at hnext
  have B := below_caller h₀
  obtain ⟨hp0, gs0, dr0, tk0, os0⟩ := s
  refine wpR_execs_step ?_
  (repeat' ((fail_if_success (with_reducible show wpAny _ _ (PySem.call (Value.ref _) _ _) _ _ _)); (fail_if_success (with_reducible show wpAny _ _ (getMethod (Value.ref _) (Str.ofString "push") _) _ _ _)); (fail_if_success (with_reducible show wpAny _ _ (getMethod (Value.ref _) (Str.ofString "pop_from") _) _ _ _)); (fail_if_success (with_reducible show wpAny _ _ (getMethod (Value.ref _) (Str.ofString "reset") _) _ _ _)); (fail_if_success (with_reducible show wpAny _ _ (getMethod (Value.ref _) (Str.ofString "part_count") _) _ _ _)); (fail_if_success (with_reducible show wpAny _ _ (exec (Stmt.For _ _ _ _ _) _) _ _ _)); (fail_if_success (with_reducible show wpAny _ _ (exec (Stmt.While _ _ _ _) _) _ _ _)); (fail_if_success (with_reducible show wpAny _ _ (pyIter _) _ _ _)); (fail_if_success (with_reducible show wpAny _ _ (PySem.eval (PySem.Expr.ListComp _ _ _ _) _) _ _ _)); (fail_if_success (with_reducible show LCg.CompSrc _ _ _ _ _ _ _ _ _ _ _ _ _ _)); (fail_if_success (with_reducible show LCg.CompEnd _ _ _ _ _ _ _ _ _ _ _ _ _ _)); first | (k_unfold; (try dsimp only)) | walk1 | (dsimp only; walk1) | fail "no step"))
  have hh0 := hbd (hs.getD i 0) (getD_mem hi)
  rw [show (0 + (i : Int) * 1).toNat = i by omega]
  refine order_spec (base := h₀) (outer := []) ⟨B, F, X, N, T, by rfl, by rfl⟩ (by omega) (by omega) hp4 hp8 (by show callerA.depth + 1 + 1 < _; decide) (by show callerA.units + 3 + 8 < _; decide) ?_
  rintro D dv nd h' tk' hD F2 hI2 N2
  clear F N
  (repeat' ((fail_if_success (with_reducible show wpAny _ _ (PySem.call (Value.ref _) _ _) _ _ _)); (fail_if_success (with_reducible show wpAny _ _ (getMethod (Value.ref _) (Str.ofString "push") _) _ _ _)); (fail_if_success (with_reducible show wpAny _ _ (getMethod (Value.ref _) (Str.ofString "pop_from") _) _ _ _)); (fail_if_success (with_reducible show wpAny _ _ (getMethod (Value.ref _) (Str.ofString "reset") _) _ _ _)); (fail_if_success (with_reducible show wpAny _ _ (getMethod (Value.ref _) (Str.ofString "part_count") _) _ _ _)); (fail_if_success (with_reducible show wpAny _ _ (exec (Stmt.For _ _ _ _ _) _) _ _ _)); (fail_if_success (with_reducible show wpAny _ _ (exec (Stmt.While _ _ _ _) _) _ _ _)); (fail_if_success (with_reducible show wpAny _ _ (pyIter _) _ _ _)); (fail_if_success (with_reducible show wpAny _ _ (PySem.eval (PySem.Expr.ListComp _ _ _ _) _) _ _ _)); (fail_if_success (with_reducible show LCg.CompSrc _ _ _ _ _ _ _ _ _ _ _ _ _ _)); (fail_if_success (with_reducible show LCg.CompEnd _ _ _ _ _ _ _ _ _ _ _ _ _ _)); first | (k_unfold; (try dsimp only)) | walk1 | (dsimp only; walk1) | fail "no step"))
  rename Fr _ _ _ _ => F3
  rename News _ _ _ _ => N3
  have F4 := fr_to F3 (m' := fun y => lkO y (lawFr4 SL HR TB a r u1 u2 (byteArr (ordSpec (hs.getD i 0) p)) tpl i ts ag (fun j => if j = 9 then some (.ref D) else v j))) (by ktn_open)
  clear F3
  try dsimp only
  refine gen_toks fun tk9 => ?_
  try dsimp only
  refine wpR_execs_step ?_
  (repeat' ((fail_if_success (with_reducible show wpAny _ _ (PySem.call (Value.ref _) _ _) _ _ _)); (fail_if_success (with_reducible show wpAny _ _ (getMethod (Value.ref _) (Str.ofString "push") _) _ _ _)); (fail_if_success (with_reducible show wpAny _ _ (getMethod (Value.ref _) (Str.ofString "pop_from") _) _ _ _)); (fail_if_success (with_reducible show wpAny _ _ (getMethod (Value.ref _) (Str.ofString "reset") _) _ _ _)); (fail_if_success (with_reducible show wpAny _ _ (getMethod (Value.ref _) (Str.ofString "part_count") _) _ _ _)); (fail_if_success (with_reducible show wpAny _ _ (exec (Stmt.For _ _ _ _ _) _) _ _ _)); (fail_if_success (with_reducible show wpAny _ _ (exec (Stmt.While _ _ _ _) _) _ _ _)); (fail_if_success (with_reducible show wpAny _ _ (pyIter _) _ _ _)); (fail_if_success (with_reducible show wpAny _ _ (PySem.eval (PySem.Expr.ListComp _ _ _ _) _) _ _ _)); (fail_if_success (with_reducible show LCg.CompSrc _ _ _ _ _ _ _ _ _ _ _ _ _ _)); (fail_if_success (with_reducible show LCg.CompEnd _ _ _ _ _ _ _ _ _ _ _ _ _ _)); first | (k_unfold; (try dsimp only)) | walk1 | (dsimp only; walk1) | fail "no step"))
  have hdl : dv.length = p.toNat := by rw [hI2.length, ordSpec_length]
  refine LCg.ListComp_U (F₀ := F4) (by with_unfolding_all rfl) (by decide) (by rfl) (by decide) (by rfl) ?_
  (repeat' ((fail_if_success (with_reducible show wpAny _ _ (PySem.call (Value.ref _) _ _) _ _ _)); (fail_if_success (with_reducible show wpAny _ _ (getMethod (Value.ref _) (Str.ofString "push") _) _ _ _)); (fail_if_success (with_reducible show wpAny _ _ (getMethod (Value.ref _) (Str.ofString "pop_from") _) _ _ _)); (fail_if_success (with_reducible show wpAny _ _ (getMethod (Value.ref _) (Str.ofString "reset") _) _ _ _)); (fail_if_success (with_reducible show wpAny _ _ (getMethod (Value.ref _) (Str.ofString "part_count") _) _ _ _)); (fail_if_success (with_reducible show wpAny _ _ (exec (Stmt.For _ _ _ _ _) _) _ _ _)); (fail_if_success (with_reducible show wpAny _ _ (exec (Stmt.While _ _ _ _) _) _ _ _)); (fail_if_success (with_reducible show wpAny _ _ (pyIter _) _ _ _)); (fail_if_success (with_reducible show wpAny _ _ (PySem.eval (PySem.Expr.ListComp _ _ _ _) _) _ _ _)); (fail_if_success (with_reducible show LCg.CompSrc _ _ _ _ _ _ _ _ _ _ _ _ _ _)); (fail_if_success (with_reducible show LCg.CompEnd _ _ _ _ _ _ _ _ _ _ _ _ _ _)); first | (k_unfold; (try dsimp only)) | walk1 | (dsimp only; walk1) | fail "no step"))
  refine LCg.CompSrc.ledger (its := dv.toArray) (k := nd) (by rfl) F4 N3 (by kcf_m) (by rw [PySem.sizeLine_eq, List.size_toArray, hdl]; omega) ?_
  intro g9
  refine comp_inv (fun j ys nx => nx = (D, listOf dv.toArray nd) :: ringLed w r dx tq v0 its kk ((I, oI) :: lawLed L HR SG TB c4 c3 c2 c1 hv sgv tbv nn nsg ntb ps1 ps2 pa pb tl) ∧ StrsAre ys (sgL d1 ((ordSpec (hs.getD i 0) p).take j))) ⟨rfl, .nil⟩ ?_ ?_
  · rintro j v ys nx J oJ C oC C2 m₂ h9 tk9 E9 hj hv ⟨e, hy⟩ hC hxx F9 N9 off9 ne9
    subst e
    rw [List.getElem?_toArray] at hv
    obtain ⟨x, t, hx, rfl⟩ := ints_at hI2 hv
    have hxb := ord_mem (List.mem_of_getElem? hx) (show 0 ≤ p by omega)
    clear F4 N3
    (repeat' ((fail_if_success (with_reducible show wpAny _ _ (subscriptTail _ _ (Value.ref _) (Value.int _ _)) _ _ _)); (fail_if_success (with_reducible show wpAny _ _ (PySem.call (Value.ref _) _ _) _ _ _)); (fail_if_success (with_reducible show wpAny _ _ (getMethod (Value.ref _) (Str.ofString "push") _) _ _ _)); (fail_if_success (with_reducible show wpAny _ _ (getMethod (Value.ref _) (Str.ofString "pop_from") _) _ _ _)); (fail_if_success (with_reducible show wpAny _ _ (getMethod (Value.ref _) (Str.ofString "reset") _) _ _ _)); (fail_if_success (with_reducible show wpAny _ _ (getMethod (Value.ref _) (Str.ofString "part_count") _) _ _ _)); (fail_if_success (with_reducible show wpAny _ _ (exec (Stmt.For _ _ _ _ _) _) _ _ _)); (fail_if_success (with_reducible show wpAny _ _ (exec (Stmt.While _ _ _ _) _) _ _ _)); (fail_if_success (with_reducible show wpAny _ _ (pyIter _) _ _ _)); (fail_if_success (with_reducible show wpAny _ _ (PySem.eval (PySem.Expr.ListComp _ _ _ _) _) _ _ _)); (fail_if_success (with_reducible show LCg.CompSrc _ _ _ _ _ _ _ _ _ _ _ _ _ _)); (fail_if_success (with_reducible show LCg.CompEnd _ _ _ _ _ _ _ _ _ _ _ _ _ _)); first | (k_unfold; (try dsimp only)) | walk1 | (dsimp only; walk1) | fail "no step"))
    obtain ⟨t8, hs8⟩ := sign_at hsg hxb.1 (show x < ((p.toNat : Nat) : Int) by omega)
    refine item_rule (News.isList N9 (by kcf_m)) (by omega) (by omega) (v := .str (sgAt d1 x.toNat) t8) hs8 ?_
    (repeat' ((fail_if_success (with_reducible show wpAny _ _ (PySem.call (Value.ref _) _ _) _ _ _)); (fail_if_success (with_reducible show wpAny _ _ (getMethod (Value.ref _) (Str.ofString "push") _) _ _ _)); (fail_if_success (with_reducible show wpAny _ _ (getMethod (Value.ref _) (Str.ofString "pop_from") _) _ _ _)); (fail_if_success (with_reducible show wpAny _ _ (getMethod (Value.ref _) (Str.ofString "reset") _) _ _ _)); (fail_if_success (with_reducible show wpAny _ _ (getMethod (Value.ref _) (Str.ofString "part_count") _) _ _ _)); (fail_if_success (with_reducible show wpAny _ _ (exec (Stmt.For _ _ _ _ _) _) _ _ _)); (fail_if_success (with_reducible show wpAny _ _ (exec (Stmt.While _ _ _ _) _) _ _ _)); (fail_if_success (with_reducible show wpAny _ _ (pyIter _) _ _ _)); (fail_if_success (with_reducible show wpAny _ _ (PySem.eval (PySem.Expr.ListComp _ _ _ _) _) _ _ _)); (fail_if_success (with_reducible show LCg.CompSrc _ _ _ _ _ _ _ _ _ _ _ _ _ _)); (fail_if_success (with_reducible show LCg.CompEnd _ _ _ _ _ _ _ _ _ _ _ _ _ _)); first | (k_unfold; (try dsimp only)) | walk1 | (dsimp only; walk1) | fail "no step"))
    rename Fr _ _ _ _ => HF'
    rename News _ _ _ _ => HN'
    refine LCg.CompEnd.intro HF' HN' _ (by first | exact fun q hq => hq | kcf_all) off9 (by first | exact LCg.SrcAt.of_mem (by kcf_m) | exact .inr ⟨_, by first | k_mem | kcf_m, rfl, _, rfl⟩) ⟨rfl, ?_⟩
    rw [sgL_take hx]
    exact strs_snoc' hy rfl
  · rintro ys nx ⟨e, hy⟩
    subst e
    intro D9 h9 tk9 F9 N9 off9
    rw [List.take_of_length_le (by rw [ordSpec_length, List.size_toArray, hdl]; exact Nat.le_refl _)] at hy
    clear F4 N3
    (repeat' ((fail_if_success (with_reducible show wpAny _ _ (PySem.call (Value.ref _) _ _) _ _ _)); (fail_if_success (with_reducible show wpAny _ _ (getMethod (Value.ref _) (Str.ofString "push") _) _ _ _)); (fail_if_success (with_reducible show wpAny _ _ (getMethod (Value.ref _) (Str.ofString "pop_from") _) _ _ _)); (fail_if_success (with_reducible show wpAny _ _ (getMethod (Value.ref _) (Str.ofString "reset") _) _ _ _)); (fail_if_success (with_reducible show wpAny _ _ (getMethod (Value.ref _) (Str.ofString "part_count") _) _ _ _)); (fail_if_success (with_reducible show wpAny _ _ (exec (Stmt.For _ _ _ _ _) _) _ _ _)); (fail_if_success (with_reducible show wpAny _ _ (exec (Stmt.While _ _ _ _) _) _ _ _)); (fail_if_success (with_reducible show wpAny _ _ (pyIter _) _ _ _)); (fail_if_success (with_reducible show wpAny _ _ (PySem.eval (PySem.Expr.ListComp _ _ _ _) _) _ _ _)); (fail_if_success (with_reducible show LCg.CompSrc _ _ _ _ _ _ _ _ _ _ _ _ _ _)); (fail_if_success (with_reducible show LCg.CompEnd _ _ _ _ _ _ _ _ _ _ _ _ _ _)); first | (k_unfold; (try dsimp only)) | walk1 | (dsimp only; walk1) | fail "no step"))
    refine wri_spec (base := h₀) (outer := []) (xs := sgL d1 (ordSpec (hs.getD i 0) p)) ⟨B, F9, X, N9, T, by rfl, by rfl⟩ (by kcf_m) hy sgL_mem (by rw [StrsAre.length hy]; unfold sgL; rw [List.length_map, ordSpec_length]; omega) (by show callerA.depth + 1 + 3 < _; decide) (by show callerA.units + 3 + 30 < _; decide) ?_
    intro W tw h7 tk7 hW F7 N7
    clear F9 N9
    (repeat' ((fail_if_success (with_reducible show wpAny _ _ (PySem.call (Value.ref _) _ _) _ _ _)); (fail_if_success (with_reducible show wpAny _ _ (getMethod (Value.ref _) (Str.ofString "push") _) _ _ _)); (fail_if_success (with_reducible show wpAny _ _ (getMethod (Value.ref _) (Str.ofString "pop_from") _) _ _ _)); (fail_if_success (with_reducible show wpAny _ _ (getMethod (Value.ref _) (Str.ofString "reset") _) _ _ _)); (fail_if_success (with_reducible show wpAny _ _ (getMethod (Value.ref _) (Str.ofString "part_count") _) _ _ _)); (fail_if_success (with_reducible show wpAny _ _ (exec (Stmt.For _ _ _ _ _) _) _ _ _)); (fail_if_success (with_reducible show wpAny _ _ (exec (Stmt.While _ _ _ _) _) _ _ _)); (fail_if_success (with_reducible show wpAny _ _ (pyIter _) _ _ _)); (fail_if_success (with_reducible show wpAny _ _ (PySem.eval (PySem.Expr.ListComp _ _ _ _) _) _ _ _)); (fail_if_success (with_reducible show LCg.CompSrc _ _ _ _ _ _ _ _ _ _ _ _ _ _)); (fail_if_success (with_reducible show LCg.CompEnd _ _ _ _ _ _ _ _ _ _ _ _ _ _)); first | (k_unfold; (try dsimp only)) | walk1 | (dsimp only; walk1) | fail "no step"))
    rename Fr _ _ _ _ => F8
    rename News _ _ _ _ => N8
    exact hnext _ _ D dv nd W tw v (fun q hq => hD q (.tail _ (.tail _ hq))) (fr_to F8 (by ktn_open)) (news_sub N8 (by kcf_all)) hI2 hW
end

section
theorem turn5 {h₀ : Heap} {L SG HR TB : Nat} {u1 u2 : Option Value} {fa SL I : Addr} {cd : Value} {p d1 : Int} {sgv hv tbv : List Value} {hs : List Int} {nn nsg ntb : Nat} {s : Shared} {c1 c2 c3 c4 oI : Obj} {pa pb ps1 ps2 : Array Value} {tl : List (Addr × Obj)} {tp tpl ts : Tok} {R : Flow → Shared → Prop} {i : Nat} {a : Addr} {tv : List Value} {tn : Nat} {v : Nat → Option Value} {r dx : Nat} {tq : Tok} {its : List Value} {kk : Nat} {v0 : Value} {D : Addr} {dv : List Value} {nd : Nat} {W : Str} {tw ta : Tok}
  (X : (Mine.hd.heap_1 w.params).In h₀) (T : Top pp loose mean mg mb h₀)
  (F : Fr h₀ L s.heap (fun y => lkO y (lawFr5 SL HR TB a r D u1 u2 (byteArr (ordSpec (hs.getD i 0) p)) tpl i ts (.int (hs.getD i 0) ta) W tw v)))
  (N : News h₀ L s.heap ((D, listOf dv.toArray nd) :: ringLed w r dx tq v0 its kk ((I, oI) :: lawLed L HR SG TB c4 c3 c2 c1 hv sgv tbv nn nsg ntb ps1 ps2 pa pb tl)))
  (hI2 : IntsAre dv (ordSpec (hs.getD i 0) p))
  (hc2 : c2.data = .cell (some (.int p tp))) (hc4 : c4.data = .cell (some (.ref SG)))
  (l0 : @LT.lt Nat _ 127 L ∧ @LT.lt Nat _ 120 L ∧ @LT.lt Nat _ 62 L ∧ @LT.lt Nat _ 69 L) (lSG : @Ne Nat SG 69 ∧ @Ne Nat SG 62 ∧ @Ne Nat SG 120 ∧ @Ne Nat SG 127) (lHR : @LT.lt Nat _ (L + 1 + 1 + 1 + 1) HR) (lTB : @Ne Nat TB 69 ∧ @Ne Nat TB 62)
  (hIh : IntsAre hv hs) (hi : i < hs.length) (hhl : 4 ≤ hs.length ∧ hs.length ≤ 6) (hst : StepsBy hs) (hbd : ∀ x ∈ hs, -1000000000005 ≤ x ∧ x ≤ 1000000000005) (hp4 : 4 ≤ p) (hp8 : p ≤ 8)
  (hsg : StrsAre sgv ((List.range p.toNat).map (sgAt d1)))
  (htb : tbv.length = hs.length) (hto : ∀ j, j < hs.length → ∃ a tv tn, tbv[j]? = some (.ref a) ∧ (a, listOf tv.toArray tn) ∈ tl ∧ IntsAre tv (toldSpec (hs.getD j 0) p.toNat))
  (ha2 : (a, listOf tv.toArray tn) ∈ tl) (ha3 : IntsAre tv (toldSpec (hs.getD i 0) p.toNat))
  (ht1 : TriplesOk ps1.toList) (ht2 : TriplesOk ps2.toList) (G0 : AllBare s.gens)
  (hnext : ∀ (hp : Heap) (tk' : Nat),
     Fr h₀ L hp (fun y => lkO y (lawFr5 SL HR TB a r D u1 u2 (byteArr (ordSpec (hs.getD i 0) p)) tpl i ts (.int (hs.getD i 0) ta) W tw v)) →
     News h₀ L hp ((D, listOf dv.toArray nd) :: ringLed w r dx tq v0 its kk ((I, oI) :: lawLed L HR SG TB c4 c3 c2 c1 hv sgv tbv nn nsg ntb ps1 ps2 pa pb tl)) →
     wpR (model PySem.Challenge.pw_xp0023_01 w) (callerA.deeper (lawEnv L fa cd)) (execs (List.drop 9 loopBody.1) (lawEnv L fa cd)) R { s with heap := hp, toks := tk' }) :
  wpR (model PySem.Challenge.pw_xp0023_01 w) (callerA.deeper (lawEnv L fa cd)) (execs (List.drop 8 loopBody.1) (lawEnv L fa cd)) R s := by
  w_top off
  dsimp only [lawEnv, lawParts, loopBody]
  dsimp only [lawEnv, lawParts, loopBody] at hnext
  have B := below_caller h₀
  obtain ⟨hp0, gs0, dr0, tk0, os0⟩ := s
  have hk : KBw.bInts (byteArr (ordSpec (hs.getD i 0) p)) = ordSpec (hs.getD i 0) p := KBa.ints_make (fun n hn => by have := ord_mem hn (show (0 : Int) ≤ p by omega); omega)
  refine wpR_execs_cons (wpR_If ?_)
  (repeat' ((fail_if_success (with_reducible show wpAny _ _ (PySem.call (Value.ref _) _ _) _ _ _)); (fail_if_success (with_reducible show wpAny _ _ (getMethod (Value.ref _) (Str.ofString "push") _) _ _ _)); (fail_if_success (with_reducible show wpAny _ _ (getMethod (Value.ref _) (Str.ofString "pop_from") _) _ _ _)); (fail_if_success (with_reducible show wpAny _ _ (getMethod (Value.ref _) (Str.ofString "reset") _) _ _ _)); (fail_if_success (with_reducible show wpAny _ _ (getMethod (Value.ref _) (Str.ofString "part_count") _) _ _ _)); (fail_if_success (with_reducible show wpAny _ _ (exec (Stmt.For _ _ _ _ _) _) _ _ _)); (fail_if_success (with_reducible show wpAny _ _ (exec (Stmt.While _ _ _ _) _) _ _ _)); (fail_if_success (with_reducible show wpAny _ _ (pyIter _) _ _ _)); (fail_if_success (with_reducible show wpAny _ _ (PySem.eval (PySem.Expr.ListComp _ _ _ _) _) _ _ _)); (fail_if_success (with_reducible show LCg.CompSrc _ _ _ _ _ _ _ _ _ _ _ _ _ _)); (fail_if_success (with_reducible show LCg.CompEnd _ _ _ _ _ _ _ _ _ _ _ _ _ _)); first | (k_unfold; (try dsimp only)) | walk1 | (dsimp only; walk1) | fail "no step"))
  all_goals try (rename _ ≠ _ => hne; exact absurd (by rw [show (0 + (i : Int) * 1).toNat = i by omega]) hne)
  · refine list_bytesK (by rfl) F N hk (by rw [ordSpec_length]; omega) ?_
    intro D2 ys c' h2 tk2 F2 N2 hD2 hI3
    clear F N
    (repeat' ((fail_if_success (with_reducible show wpAny _ _ (PySem.call (Value.ref _) _ _) _ _ _)); (fail_if_success (with_reducible show wpAny _ _ (getMethod (Value.ref _) (Str.ofString "push") _) _ _ _)); (fail_if_success (with_reducible show wpAny _ _ (getMethod (Value.ref _) (Str.ofString "pop_from") _) _ _ _)); (fail_if_success (with_reducible show wpAny _ _ (getMethod (Value.ref _) (Str.ofString "reset") _) _ _ _)); (fail_if_success (with_reducible show wpAny _ _ (getMethod (Value.ref _) (Str.ofString "part_count") _) _ _ _)); (fail_if_success (with_reducible show wpAny _ _ (exec (Stmt.For _ _ _ _ _) _) _ _ _)); (fail_if_success (with_reducible show wpAny _ _ (exec (Stmt.While _ _ _ _) _) _ _ _)); (fail_if_success (with_reducible show wpAny _ _ (pyIter _) _ _ _)); (fail_if_success (with_reducible show wpAny _ _ (PySem.eval (PySem.Expr.ListComp _ _ _ _) _) _ _ _)); (fail_if_success (with_reducible show LCg.CompSrc _ _ _ _ _ _ _ _ _ _ _ _ _ _)); (fail_if_success (with_reducible show LCg.CompEnd _ _ _ _ _ _ _ _ _ _ _ _ _ _)); first | (k_unfold; (try dsimp only)) | walk1 | (dsimp only; walk1) | fail "no step"))
    refine wpR_of (wpAny_execs_nil ?_)
    exact hnext _ _ F2 (news_sub N2 (by kcf_all))
end

section
theorem turn6 {h₀ : Heap} {L SG HR TB : Nat} {u1 u2 : Option Value} {fa SL I : Addr} {cd : Value} {p d1 : Int} {sgv hv tbv : List Value} {hs : List Int} {nn nsg ntb : Nat} {s : Shared} {c1 c2 c3 c4 oI : Obj} {pa pb ps1 ps2 : Array Value} {tl : List (Addr × Obj)} {tp tpl ts : Tok} {R : Flow → Shared → Prop} {i : Nat} {a : Addr} {tv : List Value} {tn : Nat} {v : Nat → Option Value} {r dx : Nat} {tq : Tok} {its : List Value} {kk : Nat} {t0 : Tok} {D : Addr} {dv : List Value} {nd : Nat} {W : Str} {tw ta : Tok}
  (X : (Mine.hd.heap_1 w.params).In h₀) (T : Top pp loose mean mg mb h₀)
  (F : Fr h₀ L s.heap (fun y => lkO y (lawFr5 SL HR TB a r D u1 u2 (byteArr (ordSpec (hs.getD i 0) p)) tpl i ts (.int (hs.getD i 0) ta) W tw v)))
  (N : News h₀ L s.heap ((D, listOf dv.toArray nd) :: ringLed w r dx tq (.int 0 t0) its kk ((I, oI) :: lawLed L HR SG TB c4 c3 c2 c1 hv sgv tbv nn nsg ntb ps1 ps2 pa pb tl)))
  (hdr : dx ≠ r) (hoff : ∀ q ∈ (I, oI) :: lawLed L HR SG TB c4 c3 c2 c1 hv sgv tbv nn nsg ntb ps1 ps2 pa pb tl, q.1 ≠ r ∧ q.1 ≠ dx) (hD : ∀ q ∈ (I, oI) :: lawLed L HR SG TB c4 c3 c2 c1 hv sgv tbv nn nsg ntb ps1 ps2 pa pb tl, q.1 < D)
  (hlo : ∀ q ∈ tl, @LT.lt Nat _ L q.1) (hIo : I ≠ 69 ∧ I ≠ 62)
  (hits : ItsAre d1 tl its (ordSpec (hs.getD i 0) p)) (hW : W.cps.toList = wrL d1 (ordSpec (hs.getD i 0) p))
  (hc2 : c2.data = .cell (some (.int p tp))) (hc4 : c4.data = .cell (some (.ref SG)))
  (l0 : @LT.lt Nat _ 127 L ∧ @LT.lt Nat _ 120 L ∧ @LT.lt Nat _ 62 L ∧ @LT.lt Nat _ 69 L) (lSG : @Ne Nat SG 69 ∧ @Ne Nat SG 62 ∧ @Ne Nat SG 120 ∧ @Ne Nat SG 127) (lHR : @LT.lt Nat _ (L + 1 + 1 + 1 + 1) HR) (lTB : @Ne Nat TB 69 ∧ @Ne Nat TB 62)
  (hIh : IntsAre hv hs) (hi : i < hs.length) (hhl : 4 ≤ hs.length ∧ hs.length ≤ 6) (hst : StepsBy hs) (hbd : ∀ x ∈ hs, -1000000000005 ≤ x ∧ x ≤ 1000000000005) (hp4 : 4 ≤ p) (hp8 : p ≤ 8)
  (hsg : StrsAre sgv ((List.range p.toNat).map (sgAt d1)))
  (htb : tbv.length = hs.length) (hto : ∀ j, j < hs.length → ∃ a tv tn, tbv[j]? = some (.ref a) ∧ (a, listOf tv.toArray tn) ∈ tl ∧ IntsAre tv (toldSpec (hs.getD j 0) p.toNat))
  (ha2 : (a, listOf tv.toArray tn) ∈ tl) (ha3 : IntsAre tv (toldSpec (hs.getD i 0) p.toNat))
  (ht1 : TriplesOk ps1.toList) (ht2 : TriplesOk ps2.toList) (G0 : AllBare s.gens)
  (hnext : ∀ (s' : Shared) (ps1' ps2' : Array Value), Later s s' → TriplesOk ps1'.toList → TriplesOk ps2'.toList →
     Fr h₀ L s'.heap (fun y => lkO y (lawFr5 SL HR TB a r D u1 u2 (byteArr (ordSpec (hs.getD i 0) p)) tpl i ts (.int (hs.getD i 0) ta) W tw v)) →
     News h₀ L s'.heap ((I, oI) :: lawLed L HR SG TB c4 c3 c2 c1 hv sgv tbv nn nsg ntb ps1' ps2' pa pb tl) →
     wpR (model PySem.Challenge.pw_xp0023_01 w) (callerA.deeper (lawEnv L fa cd)) (execs (List.drop 10 loopBody.1) (lawEnv L fa cd)) R s') :
  wpR (model PySem.Challenge.pw_xp0023_01 w) (callerA.deeper (lawEnv L fa cd)) (execs (List.drop 9 loopBody.1) (lawEnv L fa cd)) R s := by
  w_top off
  dsimp only [lawEnv, lawParts, loopBody]
  dsimp only [lawEnv, lawParts, loopBody] at hnext
  have B := below_caller h₀
  obtain ⟨hp0, gs0, dr0, tk0, os0⟩ := s
  refine wpR_execs_cons (wpR_If ?_)
  (repeat' ((fail_if_success (with_reducible show wpAny _ _ (PySem.call (Value.type _) [Value.ref _] _) _ _ _)); (fail_if_success (with_reducible show wpAny _ _ (PySem.call (Value.ref _) _ _) _ _ _)); (fail_if_success (with_reducible show wpAny _ _ (getMethod (Value.ref _) (Str.ofString "push") _) _ _ _)); (fail_if_success (with_reducible show wpAny _ _ (getMethod (Value.ref _) (Str.ofString "pop_from") _) _ _ _)); (fail_if_success (with_reducible show wpAny _ _ (getMethod (Value.ref _) (Str.ofString "reset") _) _ _ _)); (fail_if_success (with_reducible show wpAny _ _ (getMethod (Value.ref _) (Str.ofString "part_count") _) _ _ _)); (fail_if_success (with_reducible show wpAny _ _ (exec (Stmt.For _ _ _ _ _) _) _ _ _)); (fail_if_success (with_reducible show wpAny _ _ (exec (Stmt.While _ _ _ _) _) _ _ _)); (fail_if_success (with_reducible show wpAny _ _ (pyIter _) _ _ _)); (fail_if_success (with_reducible show wpAny _ _ (PySem.eval (PySem.Expr.ListComp _ _ _ _) _) _ _ _)); (fail_if_success (with_reducible show LCg.CompSrc _ _ _ _ _ _ _ _ _ _ _ _ _ _)); (fail_if_success (with_reducible show LCg.CompEnd _ _ _ _ _ _ _ _ _ _ _ _ _ _)); first | (k_unfold; (try dsimp only)) | walk1 | (dsimp only; walk1) | fail "no step"))
  have C3 : CodeHd h₀ 73 69 := codeHd_of_K X (by kernel_rfl)
  have C4 : CodeHd h₀ 66 62 := codeHd_of_K X (by kernel_rfl)
  have hil : its.length = p.toNat := by rw [hits.length, ordSpec_length]
  obtain ⟨Ts, vb, tta, ttb, hfn, hfl⟩ := hits.fns
  have hDL : @LT.lt Nat _ L D := Nat.lt_trans (Nat.lt_succ_self L) (hD (L + 1, c1) (by kcf_m))
  have hr9 := fun (q : Addr × Obj) hq => hoff q hq
  have hoff9 : ∀ q ∈ (D, listOf dv.toArray nd) :: (r, accObj 100 dx its.toArray kk) :: (dx, dictOf (isD w tq (.int 0 t0)) 1) :: (I, oI) :: (L + 1 + 1 + 1 + 1, c4) :: (L + 1 + 1 + 1, c3) :: (L + 1 + 1, c2) :: (L + 1, c1) :: (HR, listOf hv.toArray nn) :: (SG, listOf sgv.toArray nsg) :: (TB, listOf tbv.toArray ntb) :: (62, tabObj ps1) :: (120, tabObj pa) :: (127, tabObj pb) :: tl, q.1 ≠ 69 := by
    refine List.forall_mem_cons.mpr ⟨?_, List.forall_mem_cons.mpr ⟨?_, List.forall_mem_cons.mpr ⟨?_, List.forall_mem_cons.mpr ⟨hIo.1, List.forall_mem_cons.mpr ⟨?_, List.forall_mem_cons.mpr ⟨?_, List.forall_mem_cons.mpr ⟨?_, List.forall_mem_cons.mpr ⟨?_, List.forall_mem_cons.mpr ⟨?_, List.forall_mem_cons.mpr ⟨?_, List.forall_mem_cons.mpr ⟨?_, List.forall_mem_cons.mpr ⟨(show (62 : Nat) ≠ 69 by decide), List.forall_mem_cons.mpr ⟨(show (120 : Nat) ≠ 69 by decide), List.forall_mem_cons.mpr ⟨(show (127 : Nat) ≠ 69 by decide), ?_⟩⟩⟩⟩⟩⟩⟩⟩⟩⟩⟩⟩⟩⟩
    · show @Ne Nat D 69; omega
    · exact fun e => (hoff (69, tabObj ps2) (by kcf_m)).1 e.symm
    · exact fun e => (hoff (69, tabObj ps2) (by kcf_m)).2 e.symm
    iterate 7 (show @Ne Nat _ 69; omega)
    intro q hq
    have := hlo q hq
    show @Ne Nat q.1 69
    omega
  refine kso_call (C := 100) (f := 74) (by show callerA.units + 3 + 1 + 1 < _; decide) (X.keeps F.keep) (InstAt_acc N (by kcf_m) (by kcf_m)) (by k_is) (by k_is) ?_
  refine str_spec (base := h₀) (outer := []) (its := its) (k := kk) (n := 1) (dx := dx) (es := isD w tq (.int 0 t0)) (Ts := Ts) (va := fun _ => Str.ofString "") (vb := vb) (ta := tta) (tb := ttb) (tk0 := tq) (t0 := t0) (ps := ps2) ⟨B, F, X, news_sub N (l' := (69, tabObj ps2) :: (D, listOf dv.toArray nd) :: (r, accObj 100 dx its.toArray kk) :: (dx, dictOf (isD w tq (.int 0 t0)) 1) :: (I, oI) :: (L + 1 + 1 + 1 + 1, c4) :: (L + 1 + 1 + 1, c3) :: (L + 1 + 1, c2) :: (L + 1, c1) :: (HR, listOf hv.toArray nn) :: (SG, listOf sgv.toArray nsg) :: (TB, listOf tbv.toArray ntb) :: (62, tabObj ps1) :: (120, tabObj pa) :: (127, tabObj pb) :: tl) (by kcf_all), T, by rfl, by rfl⟩ C3 (UpdF.head hoff9) ht2 G0 (by kcf_m) (by kcf_m) (by omega) (fun j hj => (hfn j hj).1) (fun j hj => by have := (hfn j hj).2.1; kcf_m) (fun j hj => Nat.zero_le _) (fun j hj => by have := (hfn j hj).2.2; rw [Array.length_toList] at this; exact Nat.le_trans this (by decide)) (by show callerA.depth + 1 + 8 < _; decide) (by show callerA.units + 3 + 2 + 40 < _; decide) ?_
  intro s' tY Y ps2' hY F3 ht2' N3 G3 os3
  obtain rfl : Y = W := str_eq (by rw [hY, hW]; unfold wrL; rw [← hfl]; rfl)
  obtain ⟨hp3, gs3, dr3, tk3, os3'⟩ := s'
  dsimp only [PySem.W.StrBack]
  (repeat' ((fail_if_success (with_reducible show wpAny _ _ (PySem.call (Value.builtin _) [Value.ref _] _) _ _ _)); (fail_if_success (with_reducible show wpAny _ _ (PySem.call (Value.ref _) _ _) _ _ _)); (fail_if_success (with_reducible show wpAny _ _ (getMethod (Value.ref _) (Str.ofString "push") _) _ _ _)); (fail_if_success (with_reducible show wpAny _ _ (getMethod (Value.ref _) (Str.ofString "pop_from") _) _ _ _)); (fail_if_success (with_reducible show wpAny _ _ (getMethod (Value.ref _) (Str.ofString "reset") _) _ _ _)); (fail_if_success (with_reducible show wpAny _ _ (getMethod (Value.ref _) (Str.ofString "part_count") _) _ _ _)); (fail_if_success (with_reducible show wpAny _ _ (exec (Stmt.For _ _ _ _ _) _) _ _ _)); (fail_if_success (with_reducible show wpAny _ _ (exec (Stmt.While _ _ _ _) _) _ _ _)); (fail_if_success (with_reducible show wpAny _ _ (pyIter _) _ _ _)); (fail_if_success (with_reducible show wpAny _ _ (PySem.eval (PySem.Expr.ListComp _ _ _ _) _) _ _ _)); (fail_if_success (with_reducible show LCg.CompSrc _ _ _ _ _ _ _ _ _ _ _ _ _ _)); (fail_if_success (with_reducible show LCg.CompEnd _ _ _ _ _ _ _ _ _ _ _ _ _ _)); first | (k_unfold; (try dsimp only)) | walk1 | (dsimp only; walk1) | fail "no step"))
  all_goals try (rename (_ != _) = true => hb; simp at hb; done)
  · have hYl : Y.length = (wrL d1 (ordSpec (hs.getD i 0) p)).length := by rw [← hW, Array.length_toList]; rfl
    have hYb : (wrL d1 (ordSpec (hs.getD i 0) p)).length ≤ 5 * p.toNat := by have := wrL_len (d1 := d1) (l := ordSpec (hs.getD i 0) p); rw [ordSpec_length] at this; exact this
    have hoff8 : ∀ q ∈ (D, listOf dv.toArray nd) :: (r, accObj 100 dx its.toArray kk) :: (dx, dictOf (isD w tq (.int 0 t0)) 1) :: (I, oI) :: (L + 1 + 1 + 1 + 1, c4) :: (L + 1 + 1 + 1, c3) :: (L + 1 + 1, c2) :: (L + 1, c1) :: (HR, listOf hv.toArray nn) :: (SG, listOf sgv.toArray nsg) :: (TB, listOf tbv.toArray ntb) :: (69, tabObj ps2') :: (120, tabObj pa) :: (127, tabObj pb) :: tl, q.1 ≠ 62 := by
      refine List.forall_mem_cons.mpr ⟨?_, List.forall_mem_cons.mpr ⟨?_, List.forall_mem_cons.mpr ⟨?_, List.forall_mem_cons.mpr ⟨hIo.2, List.forall_mem_cons.mpr ⟨?_, List.forall_mem_cons.mpr ⟨?_, List.forall_mem_cons.mpr ⟨?_, List.forall_mem_cons.mpr ⟨?_, List.forall_mem_cons.mpr ⟨?_, List.forall_mem_cons.mpr ⟨?_, List.forall_mem_cons.mpr ⟨?_, List.forall_mem_cons.mpr ⟨(show (69 : Nat) ≠ 62 by decide), List.forall_mem_cons.mpr ⟨(show (120 : Nat) ≠ 62 by decide), List.forall_mem_cons.mpr ⟨(show (127 : Nat) ≠ 62 by decide), ?_⟩⟩⟩⟩⟩⟩⟩⟩⟩⟩⟩⟩⟩⟩
      · show @Ne Nat D 62; omega
      · exact fun e => (hoff (62, tabObj ps1) (by kcf_m)).1 e.symm
      · exact fun e => (hoff (62, tabObj ps1) (by kcf_m)).2 e.symm
      iterate 7 (show @Ne Nat _ 62; omega)
      intro q hq
      have := hlo q hq
      show @Ne Nat q.1 62
      omega
    refine PySem.W.len_K (C := 100) (f := 67) F3 X (InstAt_acc N3 (by kcf_m) (by kcf_m)) (by k_is) (by k_is) ?_
    refine len_spec (base := h₀) (outer := []) (its := its) (k := kk) (n := 1) (dx := dx) (Ts := Ts) (va := fun _ => Str.ofString "") (vb := vb) (ta := tta) (tb := ttb) (tk0 := tq) (t0 := t0) (ps := ps1) ⟨B, F3, X, news_sub N3 (l' := (62, tabObj ps1) :: (D, listOf dv.toArray nd) :: (r, accObj 100 dx its.toArray kk) :: (dx, dictOf (isD w tq (.int 0 t0)) 1) :: (I, oI) :: (L + 1 + 1 + 1 + 1, c4) :: (L + 1 + 1 + 1, c3) :: (L + 1 + 1, c2) :: (L + 1, c1) :: (HR, listOf hv.toArray nn) :: (SG, listOf sgv.toArray nsg) :: (TB, listOf tbv.toArray ntb) :: (69, tabObj ps2') :: (120, tabObj pa) :: (127, tabObj pb) :: tl) (by kcf_all), T, by rfl, by rfl⟩ C4 (UpdF.head hoff8) ht1 G3 (by kcf_m) (by kcf_m) (fun j hj => (hfn j hj).1) (fun j hj => by have := (hfn j hj).2.1; kcf_m) (fun j hj => Nat.zero_le _) (fun j hj => by have := (hfn j hj).2.2; rw [Array.length_toList] at this; exact Nat.le_trans this (by decide)) (by show callerA.depth + 1 + 8 < _; decide) (by show callerA.units + 3 + 1 + 40 < _; decide) ?_
    intro s' tl5 ps1' F5 ht1' N5 G5 os5
    have hsum : preSum (fun j => (((Str.ofString "").length + (vb j).length : Nat) : Int)) its.length = (Y.length : Int) := by
      rw [preSum_flat (g := fun j => (vb j).cps.toList) (fun j => by rw [Array.length_toList]; show (((0 + (vb j).cps.size : Nat)) : Int) = _; rw [Nat.zero_add]), hfl, hYl]
      rfl
    rw [hsum]
    obtain ⟨hp5, gs5, dr5, tk5, os5'⟩ := s'
    dsimp only [PySem.W.LenBack]
    refine ⟨⟨by omega, by omega⟩, ?_⟩
    clear F3 N3
    (repeat' ((fail_if_success (with_reducible show wpAny _ _ (PySem.call (Value.ref _) _ _) _ _ _)); (fail_if_success (with_reducible show wpAny _ _ (getMethod (Value.ref _) (Str.ofString "push") _) _ _ _)); (fail_if_success (with_reducible show wpAny _ _ (getMethod (Value.ref _) (Str.ofString "pop_from") _) _ _ _)); (fail_if_success (with_reducible show wpAny _ _ (getMethod (Value.ref _) (Str.ofString "reset") _) _ _ _)); (fail_if_success (with_reducible show wpAny _ _ (getMethod (Value.ref _) (Str.ofString "part_count") _) _ _ _)); (fail_if_success (with_reducible show wpAny _ _ (exec (Stmt.For _ _ _ _ _) _) _ _ _)); (fail_if_success (with_reducible show wpAny _ _ (exec (Stmt.While _ _ _ _) _) _ _ _)); (fail_if_success (with_reducible show wpAny _ _ (pyIter _) _ _ _)); (fail_if_success (with_reducible show wpAny _ _ (PySem.eval (PySem.Expr.ListComp _ _ _ _) _) _ _ _)); (fail_if_success (with_reducible show LCg.CompSrc _ _ _ _ _ _ _ _ _ _ _ _ _ _)); (fail_if_success (with_reducible show LCg.CompEnd _ _ _ _ _ _ _ _ _ _ _ _ _ _)); first | (k_unfold; (try dsimp only)) | walk1 | (dsimp only; walk1) | fail "no step"))
    all_goals try (rename (_ ≠ _) => hb; exact absurd rfl hb)
    · refine wpR_of (wpAny_execs_nil ?_)
      refine hnext _ ps1' ps2' ⟨os5.trans os3, G5⟩ ht1' ht2' F5 (news_sub N5 (by kcf_all))
end

section
theorem turn7 {h₀ : Heap} {L SG HR TB : Nat} {u1 u2 : Option Value} {fa SL I : Addr} {cd : Value} {p d1 : Int} {sgv hv tbv : List Value} {hs : List Int} {nn nsg ntb : Nat} {s : Shared} {c1 c2 c3 c4 oI : Obj} {pa pb ps1 ps2 : Array Value} {tl : List (Addr × Obj)} {tp tpl ts : Tok} {R : Flow → Shared → Prop} {i : Nat} {a : Addr} {tv : List Value} {tn : Nat} {v : Nat → Option Value} {r dx : Nat} {tq : Tok} {its : List Value} {kk : Nat} {t0 : Tok} {D : Addr} {dv : List Value} {nd : Nat} {W : Str} {tw ta : Tok}
  (X : (Mine.hd.heap_1 w.params).In h₀) (T : Top pp loose mean mg mb h₀)
  (F : Fr h₀ L s.heap (fun y => lkO y (lawFr5 SL HR TB a r D u1 u2 (byteArr (ordSpec (hs.getD i 0) p)) tpl i ts (.int (hs.getD i 0) ta) W tw v)))
  (N : News h₀ L s.heap ((I, oI) :: lawLed L HR SG TB c4 c3 c2 c1 hv sgv tbv nn nsg ntb ps1 ps2 pa pb tl))
  (hW : W.cps.toList = wrL d1 (ordSpec (hs.getD i 0) p))
  (hc2 : c2.data = .cell (some (.int p tp))) (hc4 : c4.data = .cell (some (.ref SG)))
  (l0 : @LT.lt Nat _ 127 L ∧ @LT.lt Nat _ 120 L ∧ @LT.lt Nat _ 62 L ∧ @LT.lt Nat _ 69 L) (lSG : @Ne Nat SG 69 ∧ @Ne Nat SG 62 ∧ @Ne Nat SG 120 ∧ @Ne Nat SG 127) (lHR : @LT.lt Nat _ (L + 1 + 1 + 1 + 1) HR) (lTB : @Ne Nat TB 69 ∧ @Ne Nat TB 62)
  (hIh : IntsAre hv hs) (hi : i < hs.length) (hhl : 4 ≤ hs.length ∧ hs.length ≤ 6) (hst : StepsBy hs) (hbd : ∀ x ∈ hs, -1000000000005 ≤ x ∧ x ≤ 1000000000005) (hp4 : 4 ≤ p) (hp8 : p ≤ 8)
  (hsg : StrsAre sgv ((List.range p.toNat).map (sgAt d1)))
  (htb : tbv.length = hs.length) (hto : ∀ j, j < hs.length → ∃ a tv tn, tbv[j]? = some (.ref a) ∧ (a, listOf tv.toArray tn) ∈ tl ∧ IntsAre tv (toldSpec (hs.getD j 0) p.toNat))
  (ha2 : (a, listOf tv.toArray tn) ∈ tl) (ha3 : IntsAre tv (toldSpec (hs.getD i 0) p.toNat))
  (ht1 : TriplesOk ps1.toList) (ht2 : TriplesOk ps2.toList) (G0 : AllBare s.gens)
  (hnext : ∀ (s' : Shared) (v' : Nat → Option Value), Later s s' →
     Fr h₀ L s'.heap (fun y => lkO y (lawFr SL HR TB u1 u2 (byteArr (ordSpec (hs.getD i 0) p)) tpl v')) →
     News h₀ L s'.heap ((I, oI) :: lawLed L HR SG TB c4 c3 c2 c1 hv sgv tbv nn nsg ntb ps1 ps2 pa pb tl) → R .next s') :
  wpR (model PySem.Challenge.pw_xp0023_01 w) (callerA.deeper (lawEnv L fa cd)) (execs (List.drop 10 loopBody.1) (lawEnv L fa cd)) R s := by
  w_top off
  dsimp only [lawEnv, lawParts, loopBody]
  have B := below_caller h₀
  obtain ⟨hp0, gs0, dr0, tk0, os0⟩ := s
  have hk : KBw.bInts (byteArr (ordSpec (hs.getD i 0) p)) = ordSpec (hs.getD i 0) p := KBa.ints_make (fun n hn => by have := ord_mem hn (show (0 : Int) ≤ p by omega); omega)
  refine wpR_execs_cons (wpR_If ?_)
  (repeat' ((fail_if_success (with_reducible show wpAny _ _ (PySem.call (Value.ref _) _ _) _ _ _)); (fail_if_success (with_reducible show wpAny _ _ (getMethod (Value.ref _) (Str.ofString "push") _) _ _ _)); (fail_if_success (with_reducible show wpAny _ _ (getMethod (Value.ref _) (Str.ofString "pop_from") _) _ _ _)); (fail_if_success (with_reducible show wpAny _ _ (getMethod (Value.ref _) (Str.ofString "reset") _) _ _ _)); (fail_if_success (with_reducible show wpAny _ _ (getMethod (Value.ref _) (Str.ofString "part_count") _) _ _ _)); (fail_if_success (with_reducible show wpAny _ _ (exec (Stmt.For _ _ _ _ _) _) _ _ _)); (fail_if_success (with_reducible show wpAny _ _ (exec (Stmt.While _ _ _ _) _) _ _ _)); (fail_if_success (with_reducible show wpAny _ _ (pyIter _) _ _ _)); (fail_if_success (with_reducible show wpAny _ _ (PySem.eval (PySem.Expr.ListComp _ _ _ _) _) _ _ _)); (fail_if_success (with_reducible show LCg.CompSrc _ _ _ _ _ _ _ _ _ _ _ _ _ _)); (fail_if_success (with_reducible show LCg.CompEnd _ _ _ _ _ _ _ _ _ _ _ _ _ _)); first | (k_unfold; (try dsimp only)) | walk1 | (dsimp only; walk1) | fail "no step"))
  refine ListComp_B (F₀ := F) (by with_unfolding_all rfl) (by decide) (by rfl) (by decide) (by rfl) ?_
  (repeat' ((fail_if_success (with_reducible show wpAny _ _ (PySem.call (Value.ref _) _ _) _ _ _)); (fail_if_success (with_reducible show wpAny _ _ (getMethod (Value.ref _) (Str.ofString "push") _) _ _ _)); (fail_if_success (with_reducible show wpAny _ _ (getMethod (Value.ref _) (Str.ofString "pop_from") _) _ _ _)); (fail_if_success (with_reducible show wpAny _ _ (getMethod (Value.ref _) (Str.ofString "reset") _) _ _ _)); (fail_if_success (with_reducible show wpAny _ _ (getMethod (Value.ref _) (Str.ofString "part_count") _) _ _ _)); (fail_if_success (with_reducible show wpAny _ _ (exec (Stmt.For _ _ _ _ _) _) _ _ _)); (fail_if_success (with_reducible show wpAny _ _ (exec (Stmt.While _ _ _ _) _) _ _ _)); (fail_if_success (with_reducible show wpAny _ _ (pyIter _) _ _ _)); (fail_if_success (with_reducible show wpAny _ _ (PySem.eval (PySem.Expr.ListComp _ _ _ _) _) _ _ _)); (fail_if_success (with_reducible show LCg.CompSrc _ _ _ _ _ _ _ _ _ _ _ _ _ _)); (fail_if_success (with_reducible show LCg.CompEnd _ _ _ _ _ _ _ _ _ _ _ _ _ _)); first | (k_unfold; (try dsimp only)) | walk1 | (dsimp only; walk1) | fail "no step"))
  have hbs : (byteArr (ordSpec (hs.getD i 0) p)).size = p.toNat := by rw [← KBw.ints_length, hk, ordSpec_length]
  refine ⟨_, _, (I, oI) :: lawLed L HR SG TB c4 c3 c2 c1 hv sgv tbv nn nsg ntb ps1 ps2 pa pb tl, rfl, by rfl, F, N, by rw [sizeLine_eq, hbs]; omega, ?_⟩
  rintro s₂ ⟨g9, rfl⟩
  refine comp_inv (fun j ys nx => nx = (I, oI) :: lawLed L HR SG TB c4 c3 c2 c1 hv sgv tbv nn nsg ntb ps1 ps2 pa pb tl ∧ StrsAre ys (sgL d1 ((ordSpec (hs.getD i 0) p).take j))) ⟨rfl, .nil⟩ ?_ ?_
  · rintro j v ys nx J oJ C oC C2 m₂ h9 tk9 E9 hj ⟨c, u, hc, rfl⟩ ⟨e, hy⟩ hC hxx F9 N9 off9 ne9
    subst e
    have hx := KBw.ints_get hc
    rw [hk] at hx
    obtain ⟨x, hcx⟩ : ∃ x : Int, (c.toNat : Int) = x := ⟨_, rfl⟩
    rw [hcx] at hx hxx
    have hxb := ord_mem (List.mem_of_getElem? hx) (show 0 ≤ p by omega)
    clear F N
    (repeat' ((fail_if_success (with_reducible show wpAny _ _ (subscriptTail _ _ (Value.ref _) (Value.int _ _)) _ _ _)); (fail_if_success (with_reducible show wpAny _ _ (PySem.call (Value.ref _) _ _) _ _ _)); (fail_if_success (with_reducible show wpAny _ _ (getMethod (Value.ref _) (Str.ofString "push") _) _ _ _)); (fail_if_success (with_reducible show wpAny _ _ (getMethod (Value.ref _) (Str.ofString "pop_from") _) _ _ _)); (fail_if_success (with_reducible show wpAny _ _ (getMethod (Value.ref _) (Str.ofString "reset") _) _ _ _)); (fail_if_success (with_reducible show wpAny _ _ (getMethod (Value.ref _) (Str.ofString "part_count") _) _ _ _)); (fail_if_success (with_reducible show wpAny _ _ (exec (Stmt.For _ _ _ _ _) _) _ _ _)); (fail_if_success (with_reducible show wpAny _ _ (exec (Stmt.While _ _ _ _) _) _ _ _)); (fail_if_success (with_reducible show wpAny _ _ (pyIter _) _ _ _)); (fail_if_success (with_reducible show wpAny _ _ (PySem.eval (PySem.Expr.ListComp _ _ _ _) _) _ _ _)); (fail_if_success (with_reducible show LCg.CompSrc _ _ _ _ _ _ _ _ _ _ _ _ _ _)); (fail_if_success (with_reducible show LCg.CompEnd _ _ _ _ _ _ _ _ _ _ _ _ _ _)); first | (k_unfold; (try dsimp only)) | walk1 | (dsimp only; walk1) | fail "no step"))
    obtain ⟨t8, hs8⟩ := sign_at hsg hxb.1 (show x < ((p.toNat : Nat) : Int) by omega)
    refine item_rule (News.isList N9 (by kcf_m)) (by omega) (by omega) (v := .str (sgAt d1 x.toNat) t8) hs8 ?_
    (repeat' ((fail_if_success (with_reducible show wpAny _ _ (PySem.call (Value.ref _) _ _) _ _ _)); (fail_if_success (with_reducible show wpAny _ _ (getMethod (Value.ref _) (Str.ofString "push") _) _ _ _)); (fail_if_success (with_reducible show wpAny _ _ (getMethod (Value.ref _) (Str.ofString "pop_from") _) _ _ _)); (fail_if_success (with_reducible show wpAny _ _ (getMethod (Value.ref _) (Str.ofString "reset") _) _ _ _)); (fail_if_success (with_reducible show wpAny _ _ (getMethod (Value.ref _) (Str.ofString "part_count") _) _ _ _)); (fail_if_success (with_reducible show wpAny _ _ (exec (Stmt.For _ _ _ _ _) _) _ _ _)); (fail_if_success (with_reducible show wpAny _ _ (exec (Stmt.While _ _ _ _) _) _ _ _)); (fail_if_success (with_reducible show wpAny _ _ (pyIter _) _ _ _)); (fail_if_success (with_reducible show wpAny _ _ (PySem.eval (PySem.Expr.ListComp _ _ _ _) _) _ _ _)); (fail_if_success (with_reducible show LCg.CompSrc _ _ _ _ _ _ _ _ _ _ _ _ _ _)); (fail_if_success (with_reducible show LCg.CompEnd _ _ _ _ _ _ _ _ _ _ _ _ _ _)); first | (k_unfold; (try dsimp only)) | walk1 | (dsimp only; walk1) | fail "no step"))
    rename Fr _ _ _ _ => HF'
    rename News _ _ _ _ => HN'
    refine LCg.CompEnd.intro HF' HN' _ (by first | exact fun q hq => hq | kcf_all) off9 trivial ⟨rfl, ?_⟩
    rw [sgL_take hx]
    exact strs_snoc' hy rfl
  · rintro ys nx ⟨e, hy⟩
    subst e
    intro D9 h9 tk9 F9 N9 off9
    rw [List.take_of_length_le (by rw [ordSpec_length, hbs]; exact Nat.le_refl _)] at hy
    clear F N
    (repeat' ((fail_if_success (with_reducible show wpAny _ _ (PySem.call (Value.ref _) _ _) _ _ _)); (fail_if_success (with_reducible show wpAny _ _ (getMethod (Value.ref _) (Str.ofString "push") _) _ _ _)); (fail_if_success (with_reducible show wpAny _ _ (getMethod (Value.ref _) (Str.ofString "pop_from") _) _ _ _)); (fail_if_success (with_reducible show wpAny _ _ (getMethod (Value.ref _) (Str.ofString "reset") _) _ _ _)); (fail_if_success (with_reducible show wpAny _ _ (getMethod (Value.ref _) (Str.ofString "part_count") _) _ _ _)); (fail_if_success (with_reducible show wpAny _ _ (exec (Stmt.For _ _ _ _ _) _) _ _ _)); (fail_if_success (with_reducible show wpAny _ _ (exec (Stmt.While _ _ _ _) _) _ _ _)); (fail_if_success (with_reducible show wpAny _ _ (pyIter _) _ _ _)); (fail_if_success (with_reducible show wpAny _ _ (PySem.eval (PySem.Expr.ListComp _ _ _ _) _) _ _ _)); (fail_if_success (with_reducible show LCg.CompSrc _ _ _ _ _ _ _ _ _ _ _ _ _ _)); (fail_if_success (with_reducible show LCg.CompEnd _ _ _ _ _ _ _ _ _ _ _ _ _ _)); first | (k_unfold; (try dsimp only)) | walk1 | (dsimp only; walk1) | fail "no step"))
    refine join_rule (News.isList N9 (by kcf_m)) hy (fun x hx => Nat.le_trans (row_short x (sgL_mem x hx)) (by decide)) (by unfold sgL; rw [List.length_map, ordSpec_length]; omega) fun Y t' k hY => ?_
    (repeat' ((fail_if_success (with_reducible show wpAny _ _ (PySem.call (Value.ref _) _ _) _ _ _)); (fail_if_success (with_reducible show wpAny _ _ (getMethod (Value.ref _) (Str.ofString "push") _) _ _ _)); (fail_if_success (with_reducible show wpAny _ _ (getMethod (Value.ref _) (Str.ofString "pop_from") _) _ _ _)); (fail_if_success (with_reducible show wpAny _ _ (getMethod (Value.ref _) (Str.ofString "reset") _) _ _ _)); (fail_if_success (with_reducible show wpAny _ _ (getMethod (Value.ref _) (Str.ofString "part_count") _) _ _ _)); (fail_if_success (with_reducible show wpAny _ _ (exec (Stmt.For _ _ _ _ _) _) _ _ _)); (fail_if_success (with_reducible show wpAny _ _ (exec (Stmt.While _ _ _ _) _) _ _ _)); (fail_if_success (with_reducible show wpAny _ _ (pyIter _) _ _ _)); (fail_if_success (with_reducible show wpAny _ _ (PySem.eval (PySem.Expr.ListComp _ _ _ _) _) _ _ _)); (fail_if_success (with_reducible show LCg.CompSrc _ _ _ _ _ _ _ _ _ _ _ _ _ _)); (fail_if_success (with_reducible show LCg.CompEnd _ _ _ _ _ _ _ _ _ _ _ _ _ _)); first | (k_unfold; (try dsimp only)) | walk1 | (dsimp only; walk1) | fail "no step"))
    have hYl : Y.length ≤ 100 := by
      have := sgL_flat_len (d1 := d1) (l := ordSpec (hs.getD i 0) p)
      rw [← hY, Array.length_toList, ordSpec_length] at this
      show Y.cps.size ≤ 100
      omega
    refine esc_spec (base := h₀) (outer := []) ⟨B, F9, X, N9, T, by rfl, by rfl⟩ hYl (by show callerA.depth + 1 + 1 < _; decide) (by show callerA.units + 3 + 8 < _; decide) ?_
    intro Z tZ h7 tk7 hZ F7 N7
    obtain rfl : Z = W := str_eq (by rw [hZ, hY, hW, sgL_flat])
    clear F9 N9
    (repeat' ((fail_if_success (with_reducible show wpAny _ _ (PySem.call (Value.ref _) _ _) _ _ _)); (fail_if_success (with_reducible show wpAny _ _ (getMethod (Value.ref _) (Str.ofString "push") _) _ _ _)); (fail_if_success (with_reducible show wpAny _ _ (getMethod (Value.ref _) (Str.ofString "pop_from") _) _ _ _)); (fail_if_success (with_reducible show wpAny _ _ (getMethod (Value.ref _) (Str.ofString "reset") _) _ _ _)); (fail_if_success (with_reducible show wpAny _ _ (getMethod (Value.ref _) (Str.ofString "part_count") _) _ _ _)); (fail_if_success (with_reducible show wpAny _ _ (exec (Stmt.For _ _ _ _ _) _) _ _ _)); (fail_if_success (with_reducible show wpAny _ _ (exec (Stmt.While _ _ _ _) _) _ _ _)); (fail_if_success (with_reducible show wpAny _ _ (pyIter _) _ _ _)); (fail_if_success (with_reducible show wpAny _ _ (PySem.eval (PySem.Expr.ListComp _ _ _ _) _) _ _ _)); (fail_if_success (with_reducible show LCg.CompSrc _ _ _ _ _ _ _ _ _ _ _ _ _ _)); (fail_if_success (with_reducible show LCg.CompEnd _ _ _ _ _ _ _ _ _ _ _ _ _ _)); first | (k_unfold; (try dsimp only)) | walk1 | (dsimp only; walk1) | fail "no step"))
    all_goals try (rename (_ != _) = true => hb; simp at hb; done)
    · refine wpR_of (wpAny_execs_nil (wpR_of (wpAny_execs_nil ?_)))
      exact hnext _ (fun j => match j with | 0 => some (.int (0 + (i : Int) * 1) ts) | 1 => some (.ref a) | 3 => some (.ref r) | 5 => some (.int (hs.getD i 0) ta) | 9 => some (.ref D) | 10 => some (.str Z tw) | j => v j) ⟨rfl, G0⟩ F7 (news_sub N7 (by kcf_all))
end

section
theorem turnR {h₀ : Heap} {L SG HR TB : Nat} {u1 u2 : Option Value} {fa SL I : Addr} {cd : Value} {p d1 : Int} {sgv hv tbv : List Value} {hs : List Int} {nn nsg ntb : Nat} {s : Shared} {c1 c2 c3 c4 oI : Obj} {pa pb ps1 ps2 : Array Value} {tl : List (Addr × Obj)} {tp tpl ts : Tok} {R : Flow → Shared → Prop} {i : Nat} {a : Addr} {tv : List Value} {tn : Nat} {v : Nat → Option Value}
  (X : (Mine.hd.heap_1 w.params).In h₀) (T : Top pp loose mean mg mb h₀)
  (F : Fr h₀ L s.heap (fun y => lkO y [("script", some (.ref SL)), ("first", u1), ("hours", some (.ref HR)), ("move", u2), ("tables", some (.ref TB)), ("pile", some (.bytes (byteArr (ordSpec (hs.getD i 0) p)) tpl)), ("step", some (.int (0 + (i : Int) * 1) ts)), ("told", some (.ref a)), ("front", v 2), ("ring", v 3), ("sign", v 4), ("again", v 5), ("k", v 6), ("figure", v 7), ("cut", v 8), ("due", v 9), ("written", v 10)]))
  (N : News h₀ L s.heap ((I, oI) :: lawLed L HR SG TB c4 c3 c2 c1 hv sgv tbv nn nsg ntb ps1 ps2 pa pb tl))
  (hI : ∀ q ∈ lawLed L HR SG TB c4 c3 c2 c1 hv sgv tbv nn nsg ntb ps1 ps2 pa pb tl, q.1 ≠ I)
  (hc2 : c2.data = .cell (some (.int p tp))) (hc4 : c4.data = .cell (some (.ref SG)))
  (l0 : @LT.lt Nat _ 127 L ∧ @LT.lt Nat _ 120 L ∧ @LT.lt Nat _ 62 L ∧ @LT.lt Nat _ 69 L) (lSG : @Ne Nat SG 69 ∧ @Ne Nat SG 62 ∧ @Ne Nat SG 120 ∧ @Ne Nat SG 127) (lHR : @LT.lt Nat _ (L + 1 + 1 + 1 + 1) HR) (lTB : @Ne Nat TB 69 ∧ @Ne Nat TB 62)
  (hIh : IntsAre hv hs) (hi : i < hs.length) (hhl : 4 ≤ hs.length ∧ hs.length ≤ 6) (hst : StepsBy hs) (hbd : ∀ x ∈ hs, -1000000000005 ≤ x ∧ x ≤ 1000000000005) (hp4 : 4 ≤ p) (hp8 : p ≤ 8)
  (hsg : StrsAre sgv ((List.range p.toNat).map (sgAt d1)))
  (htb : tbv.length = hs.length) (hto : ∀ j, j < hs.length → ∃ a tv tn, tbv[j]? = some (.ref a) ∧ (a, listOf tv.toArray tn) ∈ tl ∧ IntsAre tv (toldSpec (hs.getD j 0) p.toNat))
  (ha2 : (a, listOf tv.toArray tn) ∈ tl) (ha3 : IntsAre tv (toldSpec (hs.getD i 0) p.toNat))
  (ht1 : TriplesOk ps1.toList) (ht2 : TriplesOk ps2.toList) (G0 : AllBare s.gens)
  (hlo : ∀ q ∈ tl, @LT.lt Nat _ L q.1)
  (hnext : ∀ (s' : Shared) (t : Tok) (v' : Nat → Option Value) (ps1' ps2' : Array Value), Later s s' → Fr h₀ L s'.heap (fun y => lkO y (lawFr SL HR TB u1 u2 (byteArr (ordSpec (hs.getD i 0) p)) t v')) → TriplesOk ps1'.toList → TriplesOk ps2'.toList →
     News h₀ L s'.heap ((I, oI) :: lawLed L HR SG TB c4 c3 c2 c1 hv sgv tbv nn nsg ntb ps1' ps2' pa pb tl) → R .next s') :
  wpR (model PySem.Challenge.pw_xp0023_01 w) (callerA.deeper (lawEnv L fa cd)) (execs (List.drop 2 loopBody.1) (lawEnv L fa cd)) R s := by
  refine turn2 X T F N hI hc2 hc4 l0 lSG lHR lTB hIh hi hhl hst hbd hp4 hp8 hsg htb hto ha2 ha3 ht1 ht2 G0 ?_
  intro hp tk' r dx tq its k zs v2 F2 N2 hdr hoff hzs hits
  have hto2 : ∀ j, j < hs.length → ∃ a tv tn, tbv[j]? = some (.ref a) ∧ (a, listOf tv.toArray tn) ∈ zs ++ tl ∧ IntsAre tv (toldSpec (hs.getD j 0) p.toNat) := fun j hj => by
    obtain ⟨a, tv, tn, h1, h2, h3⟩ := hto j hj
    exact ⟨a, tv, tn, h1, List.mem_append_right _ h2, h3⟩
  have hlo2 : ∀ q ∈ zs ++ tl, @LT.lt Nat _ L q.1 := fun q hq => (List.mem_append.mp hq).elim (fun h => (hzs q h).2) (hlo q)
  have hIo : I ≠ 69 ∧ I ≠ 62 := ⟨fun e => hI (69, tabObj ps2) (by kcf_m) e.symm, fun e => hI (62, tabObj ps1) (by kcf_m) e.symm⟩
  have ha2' := List.mem_append_right zs ha2
  refine turn3 (tl := zs ++ tl) X T F2 N2 hdr hoff (hits.mono fun q hq => List.mem_append_left _ hq) hc2 hc4 l0 lSG lHR lTB hIh hi hhl hst hbd hp4 hp8 hsg htb hto2 ha2' ha3 ht1 ht2 G0 ?_
  intro hp3 tk3 its3 k3 t0 ta v3 F3 N3 hits3
  refine turn4 (tl := zs ++ tl) X T F3 N3 hc2 hc4 l0 lSG lHR lTB hIh hi hhl hst hbd hp4 hp8 hsg htb hto2 ha2' ha3 ht1 ht2 G0 ?_
  intro hp4' tk4 D dv nd W tw v4 hD F4 N4 hI2 hW
  refine turn5 (tl := zs ++ tl) X T F4 N4 hI2 hc2 hc4 l0 lSG lHR lTB hIh hi hhl hst hbd hp4 hp8 hsg htb hto2 ha2' ha3 ht1 ht2 G0 ?_
  intro hp5 tk5 F5 N5
  refine turn6 (tl := zs ++ tl) X T F5 N5 hdr hoff hD hlo2 hIo hits3 hW hc2 hc4 l0 lSG lHR lTB hIh hi hhl hst hbd hp4 hp8 hsg htb hto2 ha2' ha3 ht1 ht2 G0 ?_
  intro s6 ps1' ps2' hlat6 ht1' ht2' F6 N6
  refine turn7 (tl := zs ++ tl) (dx := dx) (tq := tq) (its := its3) (kk := k3) (t0 := t0) (dv := dv) (nd := nd) X T F6 N6 hW hc2 hc4 l0 lSG lHR lTB hIh hi hhl hst hbd hp4 hp8 hsg htb hto2 ha2' ha3 ht1' ht2' hlat6.2 ?_
  intro s7 v7 hlat7 F7 N7
  exact hnext s7 tpl v7 ps1' ps2' ⟨hlat7.1.trans hlat6.1, hlat7.2⟩ F7 ht1' ht2' (news_sub N7 (led_weak fun q hq => List.mem_append_right _ hq))
end

section
theorem pileStep {h₀ : Heap} {L SL HR TB a : Nat} {u1 u2 : Option Value} {fa : Addr} {cd : Value} {p h h' x : Int} {s : Shared} {news : List (Addr × Obj)} {tpl ts tx : Tok} {R : Flow → Shared → Prop} {i : Nat} {v : Nat → Option Value}
  (X : (Mine.hd.heap_1 w.params).In h₀) (T : Top pp loose mean mg mb h₀)
  (F : Fr h₀ L s.heap (fun y => if y = Str.ofString "front" then some (.int x tx) else lkO y (lawFr2 SL HR TB a u1 u2 (byteArr (ordSpec h p)) tpl i ts v)))
  (N : News h₀ L s.heap news) (hp4 : 4 ≤ p) (hp8 : p ≤ 8) (hx2 : 2 ≤ x) (hxp : x ≤ p) (hfl : flip x.toNat (ordSpec h p) = ordSpec h' p)
  (hnext : ∀ (hq : Heap) (t : Tok) (tk : Nat) (v' : Nat → Option Value), Fr h₀ L hq (fun y => lkO y (lawFr2 SL HR TB a u1 u2 (byteArr (ordSpec h' p)) t i ts v')) → News h₀ L hq news → R .next { s with heap := hq, toks := tk }) :
  wpR (model PySem.Challenge.pw_xp0023_01 w) (callerA.deeper (lawEnv L fa cd)) (execs (List.drop 1 ifBody.1) (lawEnv L fa cd)) R s := by
  w_top off
  dsimp only [lawEnv, lawParts, loopBody, ifBody]
  have B := below_caller h₀
  obtain ⟨hp0, gs0, dr0, tk0, os0⟩ := s
  have F2 := fr_to F (m' := fun y => lkO y (lawFr2 SL HR TB a u1 u2 (byteArr (ordSpec h p)) tpl i ts (fun j => if j = 2 then some (.int x tx) else v j))) (by ktn_open)
  clear F
  refine wpR_execs_cons (Assign_R (BinOp_R (Call_R ?_)))
  (repeat' ((fail_if_success (with_reducible show wpAny _ _ (PySem.call (Value.ref _) _ _) _ _ _)); (fail_if_success (with_reducible show wpAny _ _ (getMethod (Value.ref _) (Str.ofString "push") _) _ _ _)); (fail_if_success (with_reducible show wpAny _ _ (getMethod (Value.ref _) (Str.ofString "pop_from") _) _ _ _)); (fail_if_success (with_reducible show wpAny _ _ (getMethod (Value.ref _) (Str.ofString "reset") _) _ _ _)); (fail_if_success (with_reducible show wpAny _ _ (getMethod (Value.ref _) (Str.ofString "part_count") _) _ _ _)); (fail_if_success (with_reducible show wpAny _ _ (exec (Stmt.For _ _ _ _ _) _) _ _ _)); (fail_if_success (with_reducible show wpAny _ _ (exec (Stmt.While _ _ _ _) _) _ _ _)); (fail_if_success (with_reducible show wpAny _ _ (pyIter _) _ _ _)); (fail_if_success (with_reducible show wpAny _ _ (PySem.eval (PySem.Expr.ListComp _ _ _ _) _) _ _ _)); (fail_if_success (with_reducible show LCg.CompSrc _ _ _ _ _ _ _ _ _ _ _ _ _ _)); (fail_if_success (with_reducible show LCg.CompEnd _ _ _ _ _ _ _ _ _ _ _ _ _ _)); first | (k_unfold; (try dsimp only)) | walk1 | (dsimp only; walk1) | fail "no step"))
  refine callWith_R (P := (Mine.hd.heap_1 w.params).In) rfl (keeps_K (by rfl)) ?_
  (repeat' ((fail_if_success (with_reducible show wpAny _ _ (subscriptTail _ _ (Value.bytes _ _) _) _ _ _)); (fail_if_success (with_reducible show wpAny _ _ (PySem.call (Value.ref _) _ _) _ _ _)); (fail_if_success (with_reducible show wpAny _ _ (getMethod (Value.ref _) (Str.ofString "push") _) _ _ _)); (fail_if_success (with_reducible show wpAny _ _ (getMethod (Value.ref _) (Str.ofString "pop_from") _) _ _ _)); (fail_if_success (with_reducible show wpAny _ _ (getMethod (Value.ref _) (Str.ofString "reset") _) _ _ _)); (fail_if_success (with_reducible show wpAny _ _ (getMethod (Value.ref _) (Str.ofString "part_count") _) _ _ _)); (fail_if_success (with_reducible show wpAny _ _ (exec (Stmt.For _ _ _ _ _) _) _ _ _)); (fail_if_success (with_reducible show wpAny _ _ (exec (Stmt.While _ _ _ _) _) _ _ _)); (fail_if_success (with_reducible show wpAny _ _ (pyIter _) _ _ _)); (fail_if_success (with_reducible show wpAny _ _ (PySem.eval (PySem.Expr.ListComp _ _ _ _) _) _ _ _)); (fail_if_success (with_reducible show LCg.CompSrc _ _ _ _ _ _ _ _ _ _ _ _ _ _)); (fail_if_success (with_reducible show LCg.CompEnd _ _ _ _ _ _ _ _ _ _ _ _ _ _)); first | (k_unfold; (try dsimp only)) | walk1 | (dsimp only; walk1) | fail "no step"))
  have hm := fun (n : Int) (hn : n ∈ ordSpec h p) => ord_mem hn (show (0 : Int) ≤ p by omega)
  have hk : KBw.bInts (byteArr (ordSpec h p)) = ordSpec h p := KBa.ints_make (fun n hn => by have := hm n hn; omega)
  have hlen : (ordSpec h p).length = p.toNat := ordSpec_length
  refine KBc.slice_K (s := ⟨_, _, _, _, _⟩) F2 N hk .none (.int _ _) (by omega) ?_
  intro h1 t1 k1 F3 N3 hb1
  clear F2 N
  obtain ⟨l, hl⟩ : ∃ l : List UInt8, KBy.picked (byteArr (ordSpec h p)) none (some x) = l.toArray := ⟨_, (Array.toArray_toList).symm⟩
  rw [hl] at hb1 ⊢
  obtain ⟨xn, rfl⟩ : ∃ n : Nat, x = (n : Int) := ⟨x.toNat, by omega⟩
  simp only [Option.elim, KBc.clip_lit, clipAt_nat, List.drop_zero, Nat.sub_zero] at hb1
  rw [Nat.min_eq_left (by omega)] at hb1
  (repeat' ((fail_if_success (with_reducible show wpAny _ _ (PySem.call (Value.ref _) _ _) _ _ _)); (fail_if_success (with_reducible show wpAny _ _ (getMethod (Value.ref _) (Str.ofString "push") _) _ _ _)); (fail_if_success (with_reducible show wpAny _ _ (getMethod (Value.ref _) (Str.ofString "pop_from") _) _ _ _)); (fail_if_success (with_reducible show wpAny _ _ (getMethod (Value.ref _) (Str.ofString "reset") _) _ _ _)); (fail_if_success (with_reducible show wpAny _ _ (getMethod (Value.ref _) (Str.ofString "part_count") _) _ _ _)); (fail_if_success (with_reducible show wpAny _ _ (exec (Stmt.For _ _ _ _ _) _) _ _ _)); (fail_if_success (with_reducible show wpAny _ _ (exec (Stmt.While _ _ _ _) _) _ _ _)); (fail_if_success (with_reducible show wpAny _ _ (pyIter _) _ _ _)); (fail_if_success (with_reducible show wpAny _ _ (PySem.eval (PySem.Expr.ListComp _ _ _ _) _) _ _ _)); (fail_if_success (with_reducible show LCg.CompSrc _ _ _ _ _ _ _ _ _ _ _ _ _ _)); (fail_if_success (with_reducible show LCg.CompEnd _ _ _ _ _ _ _ _ _ _ _ _ _ _)); first | (k_unfold; (try dsimp only)) | walk1 | (dsimp only; walk1) | fail "no step"))
  have hll : l.length = xn := by
    have e := congrArg List.length hb1
    rw [KBw.ints_length, List.length_take, hlen, List.size_toArray] at e
    omega
  show wpR _ _ (call (.ref 153) [.bytes l.toArray t1, .int (xn : Int) tx]) _ _
  refine bsw_spec (base := h₀) (outer := []) ⟨B, F3, X, N3, T, by rfl, by rfl⟩ hx2 (by omega) (by omega) (by show callerA.depth + 1 + 1 < _; decide) (by show callerA.units + 3 + 8 < _; decide) ?_
  intro t2 h2 tk2 F4 N4
  clear F3 N3
  (repeat' ((fail_if_success (with_reducible show wpAny _ _ (binaryOp Operator.Add (Value.bytes _ _) _) _ _ _)); (fail_if_success (with_reducible show wpAny _ _ (PySem.call (Value.ref _) _ _) _ _ _)); (fail_if_success (with_reducible show wpAny _ _ (getMethod (Value.ref _) (Str.ofString "push") _) _ _ _)); (fail_if_success (with_reducible show wpAny _ _ (getMethod (Value.ref _) (Str.ofString "pop_from") _) _ _ _)); (fail_if_success (with_reducible show wpAny _ _ (getMethod (Value.ref _) (Str.ofString "reset") _) _ _ _)); (fail_if_success (with_reducible show wpAny _ _ (getMethod (Value.ref _) (Str.ofString "part_count") _) _ _ _)); (fail_if_success (with_reducible show wpAny _ _ (exec (Stmt.For _ _ _ _ _) _) _ _ _)); (fail_if_success (with_reducible show wpAny _ _ (exec (Stmt.While _ _ _ _) _) _ _ _)); (fail_if_success (with_reducible show wpAny _ _ (pyIter _) _ _ _)); (fail_if_success (with_reducible show wpAny _ _ (PySem.eval (PySem.Expr.ListComp _ _ _ _) _) _ _ _)); (fail_if_success (with_reducible show LCg.CompSrc _ _ _ _ _ _ _ _ _ _ _ _ _ _)); (fail_if_success (with_reducible show LCg.CompEnd _ _ _ _ _ _ _ _ _ _ _ _ _ _)); first | (k_unfold; (try dsimp only)) | walk1 | (dsimp only; walk1) | fail "no step"))
  rename KBw.bInts (KBy.picked _ (some _) none) = _ => hb2
  rename Fr _ _ _ _ => F5
  rename News _ _ _ _ => N5
  have hb2' : KBw.bInts (KBy.picked (byteArr (ordSpec h p)) (some (xn : Int)) none) = (ordSpec h p).drop xn := by
    rw [hb2]
    try simp only [Option.elim, KBc.clip_lit, clipAt_nat]
    rw [Nat.min_eq_left (by omega), List.take_of_length_le (by rw [List.length_drop]; omega)]
  have hbr : KBw.bInts l.reverse.toArray = ((ordSpec h p).take xn).reverse := by
    rw [← hb1, KBw.ints_list, KBw.ints_list, List.map_reverse]
  refine KBa.add_K hbr hb2' (by rw [List.length_reverse, List.length_take, List.length_drop]; omega) ?_
  intro t3 k3 hb3
  have hpile := byteArr_bInts (b := l.reverse.toArray ++ KBy.picked (byteArr (ordSpec h p)) (some (xn : Int)) none)
  rw [hb3, show ((ordSpec h p).take xn).reverse ++ (ordSpec h p).drop xn = ordSpec h' p from hfl] at hpile
  rw [← hpile]
  clear hpile hb3 hb2 hb2' hbr hb1 hl hll
  (repeat' ((fail_if_success (with_reducible show wpAny _ _ (PySem.call (Value.ref _) _ _) _ _ _)); (fail_if_success (with_reducible show wpAny _ _ (getMethod (Value.ref _) (Str.ofString "push") _) _ _ _)); (fail_if_success (with_reducible show wpAny _ _ (getMethod (Value.ref _) (Str.ofString "pop_from") _) _ _ _)); (fail_if_success (with_reducible show wpAny _ _ (getMethod (Value.ref _) (Str.ofString "reset") _) _ _ _)); (fail_if_success (with_reducible show wpAny _ _ (getMethod (Value.ref _) (Str.ofString "part_count") _) _ _ _)); (fail_if_success (with_reducible show wpAny _ _ (exec (Stmt.For _ _ _ _ _) _) _ _ _)); (fail_if_success (with_reducible show wpAny _ _ (exec (Stmt.While _ _ _ _) _) _ _ _)); (fail_if_success (with_reducible show wpAny _ _ (pyIter _) _ _ _)); (fail_if_success (with_reducible show wpAny _ _ (PySem.eval (PySem.Expr.ListComp _ _ _ _) _) _ _ _)); (fail_if_success (with_reducible show LCg.CompSrc _ _ _ _ _ _ _ _ _ _ _ _ _ _)); (fail_if_success (with_reducible show LCg.CompEnd _ _ _ _ _ _ _ _ _ _ _ _ _ _)); first | (k_unfold; (try dsimp only)) | walk1 | (dsimp only; walk1) | fail "no step"))
  rename Fr _ _ _ _ => F6
  rename News _ _ _ _ => N6
  refine wpR_of (wpAny_execs_nil ?_)
  refine hnext _ t3 _ (fun j => if j = 2 then some (.int (xn : Int) tx) else v j) (fr_to F6 (by ktn_open)) N6
theorem turn {h₀ : Heap} {L SG HR TB : Nat} {u1 u2 : Option Value} {fa SL I : Addr} {cd : Value} {p d1 : Int} {sgv hv tbv : List Value} {hs : List Int} {nn nsg ntb : Nat} {s : Shared} {c1 c2 c3 c4 oI : Obj} {pa pb ps1 ps2 : Array Value} {tl : List (Addr × Obj)} {tp tpl ts : Tok} {R : Flow → Shared → Prop} {i : Nat} {v : Nat → Option Value}
  (X : (Mine.hd.heap_1 w.params).In h₀) (T : Top pp loose mean mg mb h₀)
  (F : Fr h₀ L s.heap (fun y => if y = Str.ofString "step" then some (.int (0 + (i : Int) * 1) ts) else lkO y (lawFr SL HR TB u1 u2 (byteArr (ordSpec (hs.getD (i - 1) 0) p)) tpl v)))
  (N : News h₀ L s.heap ((I, oI) :: lawLed L HR SG TB c4 c3 c2 c1 hv sgv tbv nn nsg ntb ps1 ps2 pa pb tl))
  (hI : ∀ q ∈ lawLed L HR SG TB c4 c3 c2 c1 hv sgv tbv nn nsg ntb ps1 ps2 pa pb tl, q.1 ≠ I)
  (hc2 : c2.data = .cell (some (.int p tp))) (hc4 : c4.data = .cell (some (.ref SG)))
  (l0 : @LT.lt Nat _ 127 L ∧ @LT.lt Nat _ 120 L ∧ @LT.lt Nat _ 62 L ∧ @LT.lt Nat _ 69 L) (lSG : @Ne Nat SG 69 ∧ @Ne Nat SG 62 ∧ @Ne Nat SG 120 ∧ @Ne Nat SG 127) (lHR : @LT.lt Nat _ (L + 1 + 1 + 1 + 1) HR) (lTB : @Ne Nat TB 69 ∧ @Ne Nat TB 62)
  (hIh : IntsAre hv hs) (hi : i < hs.length) (hhl : 4 ≤ hs.length ∧ hs.length ≤ 6) (hst : StepsBy hs) (hbd : ∀ x ∈ hs, -1000000000005 ≤ x ∧ x ≤ 1000000000005) (hp4 : 4 ≤ p) (hp8 : p ≤ 8)
  (hsg : StrsAre sgv ((List.range p.toNat).map (sgAt d1)))
  (htb : tbv.length = hs.length) (hto : ∀ j, j < hs.length → ∃ a tv tn, tbv[j]? = some (.ref a) ∧ (a, listOf tv.toArray tn) ∈ tl ∧ IntsAre tv (toldSpec (hs.getD j 0) p.toNat))
  (ht1 : TriplesOk ps1.toList) (ht2 : TriplesOk ps2.toList) (G0 : AllBare s.gens)
  (hlo : ∀ q ∈ tl, @LT.lt Nat _ L q.1)
  (hnext : ∀ (s' : Shared) (t : Tok) (v' : Nat → Option Value) (ps1' ps2' : Array Value), Later s s' → Fr h₀ L s'.heap (fun y => lkO y (lawFr SL HR TB u1 u2 (byteArr (ordSpec (hs.getD i 0) p)) t v')) → TriplesOk ps1'.toList → TriplesOk ps2'.toList →
     News h₀ L s'.heap ((I, oI) :: lawLed L HR SG TB c4 c3 c2 c1 hv sgv tbv nn nsg ntb ps1' ps2' pa pb tl) → R .next s') :
  wpR (model PySem.Challenge.pw_xp0023_01 w) (callerA.deeper (lawEnv L fa cd)) (execs loopBody.1 (lawEnv L fa cd)) R s := by
  w_top off
  dsimp only [lawEnv, lawParts, loopBody]
  have B := below_caller h₀
  obtain ⟨hp0, gs0, dr0, tk0, os0⟩ := s
  obtain ⟨a, tv, tn, ha1, ha2, ha3⟩ := hto i hi
  refine wpR_execs_step ?_
  (repeat' ((fail_if_success (with_reducible show wpAny _ _ (subscriptTail _ _ (Value.ref _) (Value.int _ _)) _ _ _)); (fail_if_success (with_reducible show wpAny _ _ (PySem.call (Value.ref _) _ _) _ _ _)); (fail_if_success (with_reducible show wpAny _ _ (getMethod (Value.ref _) (Str.ofString "push") _) _ _ _)); (fail_if_success (with_reducible show wpAny _ _ (getMethod (Value.ref _) (Str.ofString "pop_from") _) _ _ _)); (fail_if_success (with_reducible show wpAny _ _ (getMethod (Value.ref _) (Str.ofString "reset") _) _ _ _)); (fail_if_success (with_reducible show wpAny _ _ (getMethod (Value.ref _) (Str.ofString "part_count") _) _ _ _)); (fail_if_success (with_reducible show wpAny _ _ (exec (Stmt.For _ _ _ _ _) _) _ _ _)); (fail_if_success (with_reducible show wpAny _ _ (exec (Stmt.While _ _ _ _) _) _ _ _)); (fail_if_success (with_reducible show wpAny _ _ (pyIter _) _ _ _)); (fail_if_success (with_reducible show wpAny _ _ (PySem.eval (PySem.Expr.ListComp _ _ _ _) _) _ _ _)); (fail_if_success (with_reducible show LCg.CompSrc _ _ _ _ _ _ _ _ _ _ _ _ _ _)); (fail_if_success (with_reducible show LCg.CompEnd _ _ _ _ _ _ _ _ _ _ _ _ _ _)); first | (k_unfold; (try dsimp only)) | walk1 | (dsimp only; walk1) | fail "no step"))
  refine item_rule (News.isList N (by kcf_m)) (by omega) (by omega) (v := .ref a) (by rw [show (0 + (i : Int) * 1).toNat = i by omega]; exact ha1) ?_
  (repeat' ((fail_if_success (with_reducible show wpAny _ _ (PySem.call (Value.ref _) _ _) _ _ _)); (fail_if_success (with_reducible show wpAny _ _ (getMethod (Value.ref _) (Str.ofString "push") _) _ _ _)); (fail_if_success (with_reducible show wpAny _ _ (getMethod (Value.ref _) (Str.ofString "pop_from") _) _ _ _)); (fail_if_success (with_reducible show wpAny _ _ (getMethod (Value.ref _) (Str.ofString "reset") _) _ _ _)); (fail_if_success (with_reducible show wpAny _ _ (getMethod (Value.ref _) (Str.ofString "part_count") _) _ _ _)); (fail_if_success (with_reducible show wpAny _ _ (exec (Stmt.For _ _ _ _ _) _) _ _ _)); (fail_if_success (with_reducible show wpAny _ _ (exec (Stmt.While _ _ _ _) _) _ _ _)); (fail_if_success (with_reducible show wpAny _ _ (pyIter _) _ _ _)); (fail_if_success (with_reducible show wpAny _ _ (PySem.eval (PySem.Expr.ListComp _ _ _ _) _) _ _ _)); (fail_if_success (with_reducible show LCg.CompSrc _ _ _ _ _ _ _ _ _ _ _ _ _ _)); (fail_if_success (with_reducible show LCg.CompEnd _ _ _ _ _ _ _ _ _ _ _ _ _ _)); first | (k_unfold; (try dsimp only)) | walk1 | (dsimp only; walk1) | fail "no step"))
  rename Fr _ _ _ _ => F1
  rename News _ _ _ _ => N1
  have F2 := fr_to F1 (m' := fun y => lkO y [("script", some (.ref SL)), ("first", u1), ("hours", some (.ref HR)), ("move", u2), ("tables", some (.ref TB)), ("pile", some (.bytes (byteArr (ordSpec (hs.getD (i - 1) 0) p)) tpl)), ("step", some (.int (0 + (i : Int) * 1) ts)), ("told", some (.ref a)), ("front", v 2), ("ring", v 3), ("sign", v 4), ("again", v 5), ("k", v 6), ("figure", v 7), ("cut", v 8), ("due", v 9), ("written", v 10)]) (by ktn_open)
  clear F1
  try dsimp only
  refine gen_toks fun tk => ?_
  try dsimp only
  refine wpR_execs_cons (wpR_If ?_)
  (repeat' ((fail_if_success (with_reducible show wpAny _ _ (PySem.call (Value.ref _) _ _) _ _ _)); (fail_if_success (with_reducible show wpAny _ _ (getMethod (Value.ref _) (Str.ofString "push") _) _ _ _)); (fail_if_success (with_reducible show wpAny _ _ (getMethod (Value.ref _) (Str.ofString "pop_from") _) _ _ _)); (fail_if_success (with_reducible show wpAny _ _ (getMethod (Value.ref _) (Str.ofString "reset") _) _ _ _)); (fail_if_success (with_reducible show wpAny _ _ (getMethod (Value.ref _) (Str.ofString "part_count") _) _ _ _)); (fail_if_success (with_reducible show wpAny _ _ (exec (Stmt.For _ _ _ _ _) _) _ _ _)); (fail_if_success (with_reducible show wpAny _ _ (exec (Stmt.While _ _ _ _) _) _ _ _)); (fail_if_success (with_reducible show wpAny _ _ (pyIter _) _ _ _)); (fail_if_success (with_reducible show wpAny _ _ (PySem.eval (PySem.Expr.ListComp _ _ _ _) _) _ _ _)); (fail_if_success (with_reducible show LCg.CompSrc _ _ _ _ _ _ _ _ _ _ _ _ _ _)); (fail_if_success (with_reducible show LCg.CompEnd _ _ _ _ _ _ _ _ _ _ _ _ _ _)); first | (k_unfold; (try dsimp only)) | walk1 | (dsimp only; walk1) | fail "no step"))
  · try dsimp only
    refine gen_toks fun tk => ?_
    try dsimp only
    refine wpR_execs_step ?_
    (repeat' ((fail_if_success (with_reducible show wpAny _ _ (subscriptTail (PySem.Expr.Name (Str.ofString "tables") _) _ (Value.ref _) (Value.int _ _)) _ _ _)); (fail_if_success (with_reducible show wpAny _ _ (PySem.call (Value.ref _) _ _) _ _ _)); (fail_if_success (with_reducible show wpAny _ _ (getMethod (Value.ref _) (Str.ofString "push") _) _ _ _)); (fail_if_success (with_reducible show wpAny _ _ (getMethod (Value.ref _) (Str.ofString "pop_from") _) _ _ _)); (fail_if_success (with_reducible show wpAny _ _ (getMethod (Value.ref _) (Str.ofString "reset") _) _ _ _)); (fail_if_success (with_reducible show wpAny _ _ (getMethod (Value.ref _) (Str.ofString "part_count") _) _ _ _)); (fail_if_success (with_reducible show wpAny _ _ (exec (Stmt.For _ _ _ _ _) _) _ _ _)); (fail_if_success (with_reducible show wpAny _ _ (exec (Stmt.While _ _ _ _) _) _ _ _)); (fail_if_success (with_reducible show wpAny _ _ (pyIter _) _ _ _)); (fail_if_success (with_reducible show wpAny _ _ (PySem.eval (PySem.Expr.ListComp _ _ _ _) _) _ _ _)); (fail_if_success (with_reducible show LCg.CompSrc _ _ _ _ _ _ _ _ _ _ _ _ _ _)); (fail_if_success (with_reducible show LCg.CompEnd _ _ _ _ _ _ _ _ _ _ _ _ _ _)); first | (k_unfold; (try dsimp only)) | walk1 | (dsimp only; walk1) | fail "no step"))
    · refine front_spec (base := h₀) (outer := []) (vs := tv) (ns := toldSpec (hs.getD i 0) p.toNat) (nn := tn) ⟨B, F2, X, N1, T, by rfl, by rfl⟩ (mem_led ha2) ha3 (by rw [toldSpec_length (by omega)]; omega) (by rw [toldSpec_length (by omega)]; omega) (by show callerA.depth + 1 + 1 < _; decide) (by show callerA.units + 3 + 8 < _; decide) ?_
      rintro x tx h' tk' x1 x2 x3 x4 F3 N3
      obtain ⟨hx, hxp⟩ := front_of hp4 x1 x2 x3 x4
      have hfl := way_up hst (by assumption) hi (by assumption) hp4 hx
      clear F2 N1 x2 x3 x4 hx
      (repeat' ((fail_if_success (with_reducible show wpAny _ _ (PySem.call (Value.ref _) _ _) _ _ _)); (fail_if_success (with_reducible show wpAny _ _ (getMethod (Value.ref _) (Str.ofString "push") _) _ _ _)); (fail_if_success (with_reducible show wpAny _ _ (getMethod (Value.ref _) (Str.ofString "pop_from") _) _ _ _)); (fail_if_success (with_reducible show wpAny _ _ (getMethod (Value.ref _) (Str.ofString "reset") _) _ _ _)); (fail_if_success (with_reducible show wpAny _ _ (getMethod (Value.ref _) (Str.ofString "part_count") _) _ _ _)); (fail_if_success (with_reducible show wpAny _ _ (exec (Stmt.For _ _ _ _ _) _) _ _ _)); (fail_if_success (with_reducible show wpAny _ _ (exec (Stmt.While _ _ _ _) _) _ _ _)); (fail_if_success (with_reducible show wpAny _ _ (pyIter _) _ _ _)); (fail_if_success (with_reducible show wpAny _ _ (PySem.eval (PySem.Expr.ListComp _ _ _ _) _) _ _ _)); (fail_if_success (with_reducible show LCg.CompSrc _ _ _ _ _ _ _ _ _ _ _ _ _ _)); (fail_if_success (with_reducible show LCg.CompEnd _ _ _ _ _ _ _ _ _ _ _ _ _ _)); first | (k_unfold; (try dsimp only)) | walk1 | (dsimp only; walk1) | fail "no step"))
      rename Fr _ _ _ _ => F4
      rename News _ _ _ _ => N4
      refine pileStep (v := v) X T F4 N4 hp4 hp8 x1 hxp hfl ?_
      intro hq t5 tk5 v5 F5 N5
      refine turnR X T F5 N5 hI hc2 hc4 l0 lSG lHR lTB hIh hi hhl hst hbd hp4 hp8 hsg htb hto ha2 ha3 ht1 ht2 G0 hlo ?_
      exact hnext
    · obtain ⟨b, bv, bn, hb1, hb2, hb3⟩ := hto (i - 1) (by omega)
      refine item_rule (News.isList N1 (by kcf_m)) (by omega) (by omega) (v := .ref b) (by rw [show (0 + (i : Int) * 1 - 1).toNat = i - 1 by omega]; exact hb1) ?_
      (repeat' ((fail_if_success (with_reducible show wpAny _ _ (PySem.call (Value.ref _) _ _) _ _ _)); (fail_if_success (with_reducible show wpAny _ _ (getMethod (Value.ref _) (Str.ofString "push") _) _ _ _)); (fail_if_success (with_reducible show wpAny _ _ (getMethod (Value.ref _) (Str.ofString "pop_from") _) _ _ _)); (fail_if_success (with_reducible show wpAny _ _ (getMethod (Value.ref _) (Str.ofString "reset") _) _ _ _)); (fail_if_success (with_reducible show wpAny _ _ (getMethod (Value.ref _) (Str.ofString "part_count") _) _ _ _)); (fail_if_success (with_reducible show wpAny _ _ (exec (Stmt.For _ _ _ _ _) _) _ _ _)); (fail_if_success (with_reducible show wpAny _ _ (exec (Stmt.While _ _ _ _) _) _ _ _)); (fail_if_success (with_reducible show wpAny _ _ (pyIter _) _ _ _)); (fail_if_success (with_reducible show wpAny _ _ (PySem.eval (PySem.Expr.ListComp _ _ _ _) _) _ _ _)); (fail_if_success (with_reducible show LCg.CompSrc _ _ _ _ _ _ _ _ _ _ _ _ _ _)); (fail_if_success (with_reducible show LCg.CompEnd _ _ _ _ _ _ _ _ _ _ _ _ _ _)); first | (k_unfold; (try dsimp only)) | walk1 | (dsimp only; walk1) | fail "no step"))
      refine front_spec (base := h₀) (outer := []) (vs := bv) (ns := toldSpec (hs.getD (i - 1) 0) p.toNat) (nn := bn) ⟨B, F2, X, N1, T, by rfl, by rfl⟩ (mem_led hb2) hb3 (by rw [toldSpec_length (by omega)]; omega) (by rw [toldSpec_length (by omega)]; omega) (by show callerA.depth + 1 + 1 < _; decide) (by show callerA.units + 3 + 8 < _; decide) ?_
      rintro x tx h' tk' x1 x2 x3 x4 F3 N3
      obtain ⟨hx, hxp⟩ := front_of hp4 x1 x2 x3 x4
      have hfl := way_down hst (by assumption) hi (by assumption) hp4 hx
      clear F2 N1 x2 x3 x4 hx
      (repeat' ((fail_if_success (with_reducible show wpAny _ _ (PySem.call (Value.ref _) _ _) _ _ _)); (fail_if_success (with_reducible show wpAny _ _ (getMethod (Value.ref _) (Str.ofString "push") _) _ _ _)); (fail_if_success (with_reducible show wpAny _ _ (getMethod (Value.ref _) (Str.ofString "pop_from") _) _ _ _)); (fail_if_success (with_reducible show wpAny _ _ (getMethod (Value.ref _) (Str.ofString "reset") _) _ _ _)); (fail_if_success (with_reducible show wpAny _ _ (getMethod (Value.ref _) (Str.ofString "part_count") _) _ _ _)); (fail_if_success (with_reducible show wpAny _ _ (exec (Stmt.For _ _ _ _ _) _) _ _ _)); (fail_if_success (with_reducible show wpAny _ _ (exec (Stmt.While _ _ _ _) _) _ _ _)); (fail_if_success (with_reducible show wpAny _ _ (pyIter _) _ _ _)); (fail_if_success (with_reducible show wpAny _ _ (PySem.eval (PySem.Expr.ListComp _ _ _ _) _) _ _ _)); (fail_if_success (with_reducible show LCg.CompSrc _ _ _ _ _ _ _ _ _ _ _ _ _ _)); (fail_if_success (with_reducible show LCg.CompEnd _ _ _ _ _ _ _ _ _ _ _ _ _ _)); first | (k_unfold; (try dsimp only)) | walk1 | (dsimp only; walk1) | fail "no step"))
      rename Fr _ _ _ _ => F4
      rename News _ _ _ _ => N4
      refine pileStep (v := v) X T F4 N4 hp4 hp8 x1 hxp hfl ?_
      intro hq t5 tk5 v5 F5 N5
      refine turnR X T F5 N5 hI hc2 hc4 l0 lSG lHR lTB hIh hi hhl hst hbd hp4 hp8 hsg htb hto ha2 ha3 ht1 ht2 G0 hlo ?_
      exact hnext
  · refine wpR_of (wpAny_execs_nil ?_)
    obtain rfl : i = 0 := by omega
    refine turnR (v := v) X T F2 N1 hI hc2 hc4 l0 lSG lHR lTB hIh hi hhl hst hbd hp4 hp8 hsg htb hto ha2 ha3 ht1 ht2 G0 hlo ?_
    exact hnext
end

section
theorem seg5 {h₀ : Heap} {L SG HR TB : Nat} {u1 u2 : Option Value} {fa SL : Addr} {cd : Value} {p d1 : Int} {sgv hv tbv : List Value} {hs : List Int} {nn nsg ntb : Nat} {s : Shared} {c1 c2 c3 c4 : Obj} {pa pb : Array Value} {tl : List (Addr × Obj)} {tp tpl : Tok} {Q : Flow → Shared → Prop}
  (X : (Mine.hd.heap_1 w.params).In h₀) (T : Top pp loose mean mg mb h₀)
  (F : Fr h₀ L s.heap (fun y => lkO y (lawFr SL HR TB u1 u2 (byteArr (ordSpec (hs.getD 0 0) p)) tpl (fun _ => none))))
  (N : News h₀ L s.heap ((L + 1 + 1 + 1 + 1, c4) :: (L + 1 + 1 + 1, c3) :: (L + 1 + 1, c2) :: (L + 1, c1) :: (HR, listOf hv.toArray nn) :: (SG, listOf sgv.toArray nsg) :: (TB, listOf tbv.toArray ntb) :: (62, tabObj #[]) :: (69, tabObj #[]) :: (120, tabObj pa) :: (127, tabObj pb) :: tl))
  (hc2 : c2.data = .cell (some (.int p tp))) (hc4 : c4.data = .cell (some (.ref SG)))
  (l0 : @LT.lt Nat _ 127 L ∧ @LT.lt Nat _ 120 L ∧ @LT.lt Nat _ 62 L ∧ @LT.lt Nat _ 69 L) (lSG : @Ne Nat SG 69 ∧ @Ne Nat SG 62 ∧ @Ne Nat SG 120 ∧ @Ne Nat SG 127) (lHR : @LT.lt Nat _ (L + 1 + 1 + 1 + 1) HR) (lTB : @Ne Nat TB 69 ∧ @Ne Nat TB 62)
  (hIh : IntsAre hv hs) (hhl : 4 ≤ hs.length ∧ hs.length ≤ 6) (hst : StepsBy hs) (hbd : ∀ x ∈ hs, -1000000000005 ≤ x ∧ x ≤ 1000000000005) (hp4 : 4 ≤ p) (hp8 : p ≤ 8)
  (hsg : StrsAre sgv ((List.range p.toNat).map (sgAt d1)))
  (htb : tbv.length = hs.length) (hto : ∀ j, j < hs.length → ∃ a tv tn, tbv[j]? = some (.ref a) ∧ (a, listOf tv.toArray tn) ∈ tl ∧ IntsAre tv (toldSpec (hs.getD j 0) p.toNat))
  (hlo : ∀ q ∈ tl, @LT.lt Nat _ L q.1) (G0 : AllBare s.gens)
  (hret : ∀ (s' : Shared) (m' : Str → Option Value) (ps1 ps2 : Array Value), Later s s' → Fr h₀ L s'.heap m' → News h₀ L s'.heap [(62, tabObj ps1), (69, tabObj ps2), (120, tabObj pa), (127, tabObj pb)] → Q (.ret (.bool true)) s') :
  wpR (model PySem.Challenge.pw_xp0023_01 w) (callerA.deeper (lawEnv L fa cd)) (execs (List.drop 10 lawParts.1.2.2.1) (lawEnv L fa cd)) Q s := by
  w_top off
  dsimp only [lawEnv, lawParts, List.drop]
  have B := below_caller h₀
  obtain ⟨hp0, gs0, dr0, tk0, os0⟩ := s
  refine wpR_execs_cons (For_R ?_)
  (repeat' ((fail_if_success (with_reducible show wpAny _ _ (PySem.call (Value.ref _) _ _) _ _ _)); (fail_if_success (with_reducible show wpAny _ _ (getMethod (Value.ref _) (Str.ofString "push") _) _ _ _)); (fail_if_success (with_reducible show wpAny _ _ (getMethod (Value.ref _) (Str.ofString "pop_from") _) _ _ _)); (fail_if_success (with_reducible show wpAny _ _ (getMethod (Value.ref _) (Str.ofString "reset") _) _ _ _)); (fail_if_success (with_reducible show wpAny _ _ (getMethod (Value.ref _) (Str.ofString "part_count") _) _ _ _)); (fail_if_success (with_reducible show wpAny _ _ (exec (Stmt.For _ _ _ _ _) _) _ _ _)); (fail_if_success (with_reducible show wpAny _ _ (exec (Stmt.While _ _ _ _) _) _ _ _)); (fail_if_success (with_reducible show wpAny _ _ (pyIter _) _ _ _)); (fail_if_success (with_reducible show wpAny _ _ (PySem.eval (PySem.Expr.ListComp _ _ _ _) _) _ _ _)); (fail_if_success (with_reducible show LCg.CompSrc _ _ _ _ _ _ _ _ _ _ _ _ _ _)); (fail_if_success (with_reducible show LCg.CompEnd _ _ _ _ _ _ _ _ _ _ _ _ _ _)); first | (k_unfold; (try dsimp only)) | walk1 | (dsimp only; walk1) | fail "no step"))
  rename IsRange _ _ _ _ _ _ _ _ => hr
  rename Fr _ _ _ _ => HF
  rename News _ _ _ _ => HN
  refine iter_rangeS (n := hs.length) (fun i m nx => ∃ (ps1 ps2 : Array Value) (t : Tok) (v : Nat → Option Value), nx = (L + 1 + 1 + 1 + 1, c4) :: (L + 1 + 1 + 1, c3) :: (L + 1 + 1, c2) :: (L + 1, c1) :: (HR, listOf hv.toArray nn) :: (SG, listOf sgv.toArray nsg) :: (TB, listOf tbv.toArray ntb) :: (62, tabObj ps1) :: (69, tabObj ps2) :: (120, tabObj pa) :: (127, tabObj pb) :: tl ∧ TriplesOk ps1.toList ∧ TriplesOk ps2.toList ∧
    m = fun y => lkO y (lawFr SL HR TB u1 u2 (byteArr (ordSpec (hs.getD (i - 1) 0) p)) t v)) (by rfl) (by rfl) G0 (by rfl) hr (small_one (by omega) (by omega) (by omega) (by omega)) (by rw [rangeSize_nat]; omega) HF HN ⟨#[], #[], _, _, rfl, trivial, trivial, rfl⟩ ?_ ?_
  · clear hr HF HN
    rintro i t m₁ nx s₁ I oI hi ⟨ps1, ps2, t', v, rfl, ht1, ht2, rfl⟩ hI hlat F₁ N₁
    refine turn X T F₁ N₁ hI hc2 hc4 l0 lSG lHR lTB hIh hi hhl hst hbd hp4 hp8 hsg htb hto ht1 ht2 hlat.2 hlo ?_
    intro s' t9 v' ps1' ps2' hlat' F9 ht1' ht2' N9
    exact ⟨_, _, ⟨hlat'.1.trans hlat.1, hlat'.2⟩, F9, N9, led_off hI, ps1', ps2', t9, v', rfl, ht1', ht2', rfl⟩
  · clear hr HF HN
    rintro m₁ nx s₁ ⟨ps1, ps2, t', v, rfl, ht1, ht2, rfl⟩ hlat F₁ N₁
    try dsimp only
    refine wpR_execs_step ?_
    (repeat' ((fail_if_success (with_reducible show wpAny _ _ (PySem.call (Value.ref _) _ _) _ _ _)); (fail_if_success (with_reducible show wpAny _ _ (getMethod (Value.ref _) (Str.ofString "push") _) _ _ _)); (fail_if_success (with_reducible show wpAny _ _ (getMethod (Value.ref _) (Str.ofString "pop_from") _) _ _ _)); (fail_if_success (with_reducible show wpAny _ _ (getMethod (Value.ref _) (Str.ofString "reset") _) _ _ _)); (fail_if_success (with_reducible show wpAny _ _ (getMethod (Value.ref _) (Str.ofString "part_count") _) _ _ _)); (fail_if_success (with_reducible show wpAny _ _ (exec (Stmt.For _ _ _ _ _) _) _ _ _)); (fail_if_success (with_reducible show wpAny _ _ (exec (Stmt.While _ _ _ _) _) _ _ _)); (fail_if_success (with_reducible show wpAny _ _ (pyIter _) _ _ _)); (fail_if_success (with_reducible show wpAny _ _ (PySem.eval (PySem.Expr.ListComp _ _ _ _) _) _ _ _)); (fail_if_success (with_reducible show LCg.CompSrc _ _ _ _ _ _ _ _ _ _ _ _ _ _)); (fail_if_success (with_reducible show LCg.CompEnd _ _ _ _ _ _ _ _ _ _ _ _ _ _)); first | (k_unfold; (try dsimp only)) | walk1 | (dsimp only; walk1) | fail "no step"))
    exact hret _ _ _ _ hlat F₁ (news_sub N₁ (by kcf_all))
end

section
theorem seg4 {h₀ : Heap} {L SG HR : Nat} {u1 u2 : Option Value} {fa SL : Addr} {cd : Value} {p : Int} {d1 : Int} {sgv hv : List Value} {hs : List Int} {nn nsg : Nat} {s : Shared} {c1 c2 c3 c4 : Obj} {Q : Flow → Shared → Prop} {tp : Tok}
  (X : (Mine.hd.heap_1 w.params).In h₀) (T : Top pp loose mean mg mb h₀)
  (F : Fr h₀ L s.heap (fun y => lkO y [("script", some (.ref SL)), ("first", u1), ("hours", some (.ref HR)), ("move", u2), ("tables", none), ("pile", none), ("step", none), ("told", none), ("front", none), ("ring", none), ("sign", none), ("again", none), ("k", none), ("figure", none), ("cut", none), ("due", none), ("written", none)]))
  (N : News h₀ L s.heap [(L + 1 + 1 + 1 + 1, c4), (L + 1 + 1 + 1, c3), (L + 1 + 1, c2), (L + 1, c1), (HR, listOf hv.toArray nn), (SG, listOf sgv.toArray nsg), (62, tabObj #[]), (69, tabObj #[]), (120, tabObj #[]), (127, tabObj #[])])
  (hc2 : c2.data = .cell (some (.int p tp))) (hc4 : c4.data = .cell (some (.ref SG)))
  (l0 : @LT.lt Nat _ 127 L ∧ @LT.lt Nat _ 120 L ∧ @LT.lt Nat _ 62 L ∧ @LT.lt Nat _ 69 L) (lSG : @Ne Nat SG 69 ∧ @Ne Nat SG 62 ∧ @Ne Nat SG 120 ∧ @Ne Nat SG 127) (lHR : @LT.lt Nat _ (L + 1 + 1 + 1 + 1) HR)
  (hIh : IntsAre hv hs) (hhl : 4 ≤ hs.length ∧ hs.length ≤ 6) (hst : StepsBy hs) (hbd : ∀ x ∈ hs, -1000000000005 ≤ x ∧ x ≤ 1000000000005) (hp4 : 4 ≤ p) (hp8 : p ≤ 8) (G0 : AllBare s.gens)
  (hsg : StrsAre sgv ((List.range p.toNat).map (sgAt d1)))
  (hret : ∀ (s' : Shared) (m' : Str → Option Value) (ps1 ps2 pa pb : Array Value), Later s s' → Fr h₀ L s'.heap m' → News h₀ L s'.heap [(62, tabObj ps1), (69, tabObj ps2), (120, tabObj pa), (127, tabObj pb)] → Q (.ret (.bool true)) s') :
  wpR (model PySem.Challenge.pw_xp0023_01 w) (callerA.deeper (lawEnv L fa cd)) (execs (List.drop 8 lawParts.1.2.2.1) (lawEnv L fa cd)) Q s := by
  w_top off
  dsimp only [lawEnv, lawParts, List.drop]
  have B := below_caller h₀
  obtain ⟨hp0, gs0, dr0, tk0, os0⟩ := s
  have C2 : CodeHd h₀ 124 120 := codeHd_of_K X (by kernel_rfl)
  have C1 : CodeHd h₀ 131 127 := codeHd_of_K X (by kernel_rfl)
  refine wpR_execs_step ?_
  refine LCg.Assign_ListComp_U (F₀ := F) (by rfl) (by rfl) (by with_unfolding_all rfl) (by decide) (by rfl) (by decide) (by rfl) (by rfl) (by rfl) ?_
  (repeat' ((fail_if_success (with_reducible show wpAny _ _ (PySem.call (Value.ref _) _ _) _ _ _)); (fail_if_success (with_reducible show wpAny _ _ (getMethod (Value.ref _) (Str.ofString "push") _) _ _ _)); (fail_if_success (with_reducible show wpAny _ _ (getMethod (Value.ref _) (Str.ofString "pop_from") _) _ _ _)); (fail_if_success (with_reducible show wpAny _ _ (getMethod (Value.ref _) (Str.ofString "reset") _) _ _ _)); (fail_if_success (with_reducible show wpAny _ _ (getMethod (Value.ref _) (Str.ofString "part_count") _) _ _ _)); (fail_if_success (with_reducible show wpAny _ _ (exec (Stmt.For _ _ _ _ _) _) _ _ _)); (fail_if_success (with_reducible show wpAny _ _ (exec (Stmt.While _ _ _ _) _) _ _ _)); (fail_if_success (with_reducible show wpAny _ _ (pyIter _) _ _ _)); (fail_if_success (with_reducible show wpAny _ _ (PySem.eval (PySem.Expr.ListComp _ _ _ _) _) _ _ _)); (fail_if_success (with_reducible show LCg.CompSrc _ _ _ _ _ _ _ _ _ _ _ _ _ _)); (fail_if_success (with_reducible show LCg.CompEnd _ _ _ _ _ _ _ _ _ _ _ _ _ _)); first | (k_unfold; (try dsimp only)) | walk1 | (dsimp only; walk1) | fail "no step"))
  rename Fr _ _ _ _ => HF
  rename News _ _ _ _ => HN
  refine LCg.CompSrc.ledger (its := hv.toArray) (k := nn) (by rfl) HF HN (by kcf_m) (by rw [PySem.sizeLine_eq, List.size_toArray, hIh.length]; omega) ?_
  intro g9
  refine comp_inv (fun i ys nx => ∃ (st1 st2 : Option (Addr × Obj)) (tl : List (Addr × Obj)), nx = (L + 1 + 1 + 1 + 1, c4) :: (L + 1 + 1 + 1, c3) :: (L + 1 + 1, c2) :: (L + 1, c1) :: (HR, listOf hv.toArray nn) :: (SG, listOf sgv.toArray nsg) :: (62, tabObj #[]) :: (69, tabObj #[]) :: (tabA st1 ++ (tabB st2 ++ tl)) ∧ OkA st1 ∧ OkB st2 ∧ SepAB st1 st2 ∧ NoTab tl ∧ (∀ q ∈ tl, @LT.lt Nat _ L q.1) ∧ ys.length = i ∧
    ∀ j, j < i → ∃ a tv tn, ys[j]? = some (.ref a) ∧ (a, listOf tv.toArray tn) ∈ tl ∧ IntsAre tv (toldSpec (hs.getD j 0) p.toNat)) ?_ ?_ ?_
  · refine ⟨none, none, [], rfl, trivial, trivial, ?_, fun _ h => (nomatch h), fun _ h => (nomatch h), rfl, fun j h => absurd h (Nat.not_lt_zero _)⟩
    exact ⟨fun q hq => by rw [List.mem_singleton.mp hq]; decide, fun q hq => by rw [List.mem_singleton.mp hq]; decide⟩
  · rintro i v ys nx I oI C oC D m₂ h9 tk9 E9 hi hv' ⟨st1, st2, tl, rfl, ok1, ok2, sep, hnt, hlo, hyl, hall⟩ hC hxx F9 N9 off9 ne9
    obtain ⟨x, t, hx, rfl⟩ := ints_at hIh (by rw [List.getElem?_toArray] at hv'; exact hv')
    have hxb := hbd x (List.mem_of_getElem? hx)
    (repeat' ((fail_if_success (with_reducible show wpAny _ _ (PySem.call (Value.ref _) _ _) _ _ _)); (fail_if_success (with_reducible show wpAny _ _ (getMethod (Value.ref _) (Str.ofString "push") _) _ _ _)); (fail_if_success (with_reducible show wpAny _ _ (getMethod (Value.ref _) (Str.ofString "pop_from") _) _ _ _)); (fail_if_success (with_reducible show wpAny _ _ (getMethod (Value.ref _) (Str.ofString "reset") _) _ _ _)); (fail_if_success (with_reducible show wpAny _ _ (getMethod (Value.ref _) (Str.ofString "part_count") _) _ _ _)); (fail_if_success (with_reducible show wpAny _ _ (exec (Stmt.For _ _ _ _ _) _) _ _ _)); (fail_if_success (with_reducible show wpAny _ _ (exec (Stmt.While _ _ _ _) _) _ _ _)); (fail_if_success (with_reducible show wpAny _ _ (pyIter _) _ _ _)); (fail_if_success (with_reducible show wpAny _ _ (PySem.eval (PySem.Expr.ListComp _ _ _ _) _) _ _ _)); (fail_if_success (with_reducible show LCg.CompSrc _ _ _ _ _ _ _ _ _ _ _ _ _ _)); (fail_if_success (with_reducible show LCg.CompEnd _ _ _ _ _ _ _ _ _ _ _ _ _ _)); first | (k_unfold; (try dsimp only)) | walk1 | (dsimp only; walk1) | fail "no step"))
    have hof := off3_mem off9
    have hA := tabA_mem (st := st1)
    have hB := tabB_mem (st := st2)
    have hnt2 : NoTab ((I, oI) :: (C, oC) :: (D, LCg.lst ys) :: (L + 1 + 1 + 1 + 1, c4) :: (L + 1 + 1 + 1, c3) :: (L + 1 + 1, c2) :: (L + 1, c1) :: (HR, listOf hv.toArray nn) :: (SG, listOf sgv.toArray nsg) :: (62, tabObj #[]) :: (69, tabObj #[]) :: tl) := by
      obtain ⟨pa, hpa, ea⟩ := hA
      obtain ⟨pb, hpb, eb⟩ := hB
      have za := hof pa (by kcf_m)
      have zb := hof pb (by kcf_m)
      rw [ea] at za
      rw [eb] at zb
      refine .cons ⟨fun e => za.1 e.symm, fun e => zb.1 e.symm⟩ (.cons ⟨fun e => za.2.1 e.symm, fun e => zb.2.1 e.symm⟩ (.cons ⟨fun e => za.2.2 e.symm, fun e => zb.2.2 e.symm⟩ ?_))
      refine .cons ⟨?_, ?_⟩ (.cons ⟨?_, ?_⟩ (.cons ⟨?_, ?_⟩ (.cons ⟨?_, ?_⟩ (.cons ⟨?_, ?_⟩ (.cons ⟨?_, ?_⟩ (.cons ⟨by decide, by decide⟩ (.cons ⟨by decide, by decide⟩ hnt)))))))
      all_goals (show @Ne Nat _ _; omega)
    refine told_spec (news := (I, oI) :: (C, oC) :: (D, LCg.lst ys) :: (L + 1 + 1 + 1 + 1, c4) :: (L + 1 + 1 + 1, c3) :: (L + 1 + 1, c2) :: (L + 1, c1) :: (HR, listOf hv.toArray nn) :: (SG, listOf sgv.toArray nsg) :: (62, tabObj #[]) :: (69, tabObj #[]) :: tl) (base := h₀) (outer := []) C2 C1 ⟨B, F9, X, news_sub N9 (by kcf_all), T, by rfl, by rfl⟩ ok1 ok2 sep hnt2 ⟨(L + 1, c1), by kcf_m, by show @LT.lt Nat _ 127 (L + 1); omega⟩ (by omega) (by omega) hp4 hp8 (by show callerA.depth + 1 + 100 < _; decide) (by show callerA.units + 3 + 800 < _; decide) ?_
    rintro r vs nr st1' st2' h' tk' hr ok1' ok2' sep' go1 go2 F2 hI2 N2
    have hrI : @LT.lt Nat _ I r := hr (I, oI) (by kcf_m)
    have hrC : @LT.lt Nat _ C r := hr (C, oC) (by kcf_m)
    have hrD : @LT.lt Nat _ D r := hr (D, LCg.lst ys) (by kcf_m)
    have hrL : @LT.lt Nat _ (L + 1) r := hr (L + 1, c1) (by kcf_m)
    clear N9 F9
    (repeat' ((fail_if_success (with_reducible show wpAny _ _ (PySem.call (Value.ref _) _ _) _ _ _)); (fail_if_success (with_reducible show wpAny _ _ (getMethod (Value.ref _) (Str.ofString "push") _) _ _ _)); (fail_if_success (with_reducible show wpAny _ _ (getMethod (Value.ref _) (Str.ofString "pop_from") _) _ _ _)); (fail_if_success (with_reducible show wpAny _ _ (getMethod (Value.ref _) (Str.ofString "reset") _) _ _ _)); (fail_if_success (with_reducible show wpAny _ _ (getMethod (Value.ref _) (Str.ofString "part_count") _) _ _ _)); (fail_if_success (with_reducible show wpAny _ _ (exec (Stmt.For _ _ _ _ _) _) _ _ _)); (fail_if_success (with_reducible show wpAny _ _ (exec (Stmt.While _ _ _ _) _) _ _ _)); (fail_if_success (with_reducible show wpAny _ _ (pyIter _) _ _ _)); (fail_if_success (with_reducible show wpAny _ _ (PySem.eval (PySem.Expr.ListComp _ _ _ _) _) _ _ _)); (fail_if_success (with_reducible show LCg.CompSrc _ _ _ _ _ _ _ _ _ _ _ _ _ _)); (fail_if_success (with_reducible show LCg.CompEnd _ _ _ _ _ _ _ _ _ _ _ _ _ _)); first | (k_unfold; (try dsimp only)) | walk1 | (dsimp only; walk1) | fail "no step"))
    refine LCg.CompEnd.intro F2 N2 ((L + 1 + 1 + 1 + 1, c4) :: (L + 1 + 1 + 1, c3) :: (L + 1 + 1, c2) :: (L + 1, c1) :: (HR, listOf hv.toArray nn) :: (SG, listOf sgv.toArray nsg) :: (62, tabObj #[]) :: (69, tabObj #[]) :: (tabA st1' ++ (tabB st2' ++ ((r, listOf vs.toArray nr) :: tl)))) (by kcf_all) ?_ (.inr ⟨_, (by kcf_m : (HR, listOf hv.toArray nn) ∈ _), rfl, _, rfl⟩) ⟨st1', st2', (r, listOf vs.toArray nr) :: tl, rfl, ok1', ok2', sep', .cons ⟨?_, ?_⟩ hnt, List.forall_mem_cons.mpr ⟨Nat.lt_trans (Nat.lt_succ_self L) hrL, hlo⟩, by rw [List.length_append, hyl]; rfl, ?_⟩
    · have hoff : ∀ X oX, (X, oX) ∈ (I, oI) :: (C, oC) :: (D, LCg.lst ys) :: (L + 1 + 1 + 1 + 1, c4) :: (L + 1 + 1 + 1, c3) :: (L + 1 + 1, c2) :: (L + 1, c1) :: (HR, listOf hv.toArray nn) :: (SG, listOf sgv.toArray nsg) :: (62, tabObj #[]) :: (69, tabObj #[]) :: tl → (∀ q ∈ (L + 1 + 1 + 1 + 1, c4) :: (L + 1 + 1 + 1, c3) :: (L + 1 + 1, c2) :: (L + 1, c1) :: (HR, listOf hv.toArray nn) :: (SG, listOf sgv.toArray nsg) :: (62, tabObj #[]) :: (69, tabObj #[]) :: (tabA st1 ++ (tabB st2 ++ tl)), q.1 ≠ X) → @LT.lt Nat _ X r →
          ∀ q ∈ (L + 1 + 1 + 1 + 1, c4) :: (L + 1 + 1 + 1, c3) :: (L + 1 + 1, c2) :: (L + 1, c1) :: (HR, listOf hv.toArray nn) :: (SG, listOf sgv.toArray nsg) :: (62, tabObj #[]) :: (69, tabObj #[]) :: (tabA st1' ++ (tabB st2' ++ ((r, listOf vs.toArray nr) :: tl))), q.1 ≠ X := by
        intro X oX hX hold hXr
        have e1 := go1.off (fun q hq => hold q (by kcf_m)) hX
        have e2 := go2.off (fun q hq => hold q (by kcf_m)) hX
        have e3 : ∀ q ∈ [(L + 1 + 1 + 1 + 1, c4), (L + 1 + 1 + 1, c3), (L + 1 + 1, c2), (L + 1, c1), (HR, listOf hv.toArray nn), (SG, listOf sgv.toArray nsg), (62, tabObj #[]), (69, tabObj #[])], q.1 ≠ X := fun q hq => hold q (List.mem_append_left (tabA st1 ++ (tabB st2 ++ tl)) hq)
        intro q hq
        rcases List.mem_append.mp (show q ∈ [(L + 1 + 1 + 1 + 1, c4), (L + 1 + 1 + 1, c3), (L + 1 + 1, c2), (L + 1, c1), (HR, listOf hv.toArray nn), (SG, listOf sgv.toArray nsg), (62, tabObj #[]), (69, tabObj #[])] ++ (tabA st1' ++ (tabB st2' ++ ((r, listOf vs.toArray nr) :: tl))) from hq) with hq | hq
        · exact e3 q hq
        · rcases List.mem_append.mp hq with hq | hq
          · exact e1 q hq
          · rcases List.mem_append.mp hq with hq | hq
            · exact e2 q hq
            · rcases List.mem_cons.mp hq with rfl | hq
              · exact Nat.ne_of_gt hXr
              · exact hold q (by kcf_m)
      exact off3_of fun q hq => ⟨hoff I oI (by kcf_m) (fun q hq => (hof q hq).1) hrI q hq, hoff C oC (by kcf_m) (fun q hq => (hof q hq).2.1) hrC q hq, hoff D _ (by kcf_m) (fun q hq => (hof q hq).2.2) hrD q hq⟩
    · show @Ne Nat r 120; omega
    · show @Ne Nat r 127; omega
    · intro j hj
      rcases Nat.lt_or_ge j i with h | h
      · obtain ⟨a, tv, tn, h1, h2, h3⟩ := hall j h
        exact ⟨a, tv, tn, by rw [List.getElem?_append_left (by omega)]; exact h1, .tail _ h2, h3⟩
      · obtain rfl : j = i := by omega
        refine ⟨r, vs, nr, by rw [List.getElem?_append_right (by omega), hyl, Nat.sub_self]; rfl, .head _, ?_⟩
        rw [List.getD_eq_getElem?_getD, hx]
        exact hI2
  · rintro ys nx ⟨st1, st2, tl, rfl, ok1, ok2, sep, hnt, hlo, hyl, hall⟩
    intro D9 h9 tk9 F9 N9 off9
    have F9' := fr_to F9 (m' := fun y => lkO y [("script", some (.ref SL)), ("first", u1), ("hours", some (.ref HR)), ("move", u2), ("tables", some (.ref D9)), ("pile", none), ("step", none), ("told", none), ("front", none), ("ring", none), ("sign", none), ("again", none), ("k", none), ("figure", none), ("cut", none), ("due", none), ("written", none)]) (by ktn_open)
    clear F9
    try dsimp only
    refine gen_toks fun tk => ?_
    try dsimp only
    refine wpR_execs_step ?_
    (repeat' ((fail_if_success (with_reducible show wpAny _ _ (PySem.call (Value.ref _) _ _) _ _ _)); (fail_if_success (with_reducible show wpAny _ _ (getMethod (Value.ref _) (Str.ofString "push") _) _ _ _)); (fail_if_success (with_reducible show wpAny _ _ (getMethod (Value.ref _) (Str.ofString "pop_from") _) _ _ _)); (fail_if_success (with_reducible show wpAny _ _ (getMethod (Value.ref _) (Str.ofString "reset") _) _ _ _)); (fail_if_success (with_reducible show wpAny _ _ (getMethod (Value.ref _) (Str.ofString "part_count") _) _ _ _)); (fail_if_success (with_reducible show wpAny _ _ (exec (Stmt.For _ _ _ _ _) _) _ _ _)); (fail_if_success (with_reducible show wpAny _ _ (exec (Stmt.While _ _ _ _) _) _ _ _)); (fail_if_success (with_reducible show wpAny _ _ (pyIter _) _ _ _)); (fail_if_success (with_reducible show wpAny _ _ (PySem.eval (PySem.Expr.ListComp _ _ _ _) _) _ _ _)); (fail_if_success (with_reducible show LCg.CompSrc _ _ _ _ _ _ _ _ _ _ _ _ _ _)); (fail_if_success (with_reducible show LCg.CompEnd _ _ _ _ _ _ _ _ _ _ _ _ _ _)); first | (k_unfold; (try dsimp only)) | walk1 | (dsimp only; walk1) | fail "no step"))
    have hh0 := hbd (hs.getD (Int.toNat 0) 0) (getD_mem (show Int.toNat 0 < hs.length by show 0 < _; omega))
    refine order_spec (base := h₀) (outer := []) ⟨B, F9', X, N9, T, by rfl, by rfl⟩ (by omega) (by omega) hp4 hp8 (by show callerA.depth + 1 + 1 < _; decide) (by show callerA.units + 3 + 8 < _; decide) ?_
    rintro r vs nr h' tk' hr F2 hI2 N2
    clear F9' N9
    (repeat' ((fail_if_success (with_reducible show wpAny _ _ (PySem.call (Value.ref _) _ _) _ _ _)); (fail_if_success (with_reducible show wpAny _ _ (getMethod (Value.ref _) (Str.ofString "push") _) _ _ _)); (fail_if_success (with_reducible show wpAny _ _ (getMethod (Value.ref _) (Str.ofString "pop_from") _) _ _ _)); (fail_if_success (with_reducible show wpAny _ _ (getMethod (Value.ref _) (Str.ofString "reset") _) _ _ _)); (fail_if_success (with_reducible show wpAny _ _ (getMethod (Value.ref _) (Str.ofString "part_count") _) _ _ _)); (fail_if_success (with_reducible show wpAny _ _ (exec (Stmt.For _ _ _ _ _) _) _ _ _)); (fail_if_success (with_reducible show wpAny _ _ (exec (Stmt.While _ _ _ _) _) _ _ _)); (fail_if_success (with_reducible show wpAny _ _ (pyIter _) _ _ _)); (fail_if_success (with_reducible show wpAny _ _ (PySem.eval (PySem.Expr.ListComp _ _ _ _) _) _ _ _)); (fail_if_success (with_reducible show LCg.CompSrc _ _ _ _ _ _ _ _ _ _ _ _ _ _)); (fail_if_success (with_reducible show LCg.CompEnd _ _ _ _ _ _ _ _ _ _ _ _ _ _)); first | (k_unfold; (try dsimp only)) | walk1 | (dsimp only; walk1) | fail "no step"))
    refine call_bytes_ints (News.isList N2 (by kcf_m)) hI2 (fun n hn => by have := ord_mem hn (by omega); omega) (by rw [PySem.sizeLine_eq, hI2.length, ordSpec_length]; omega) rfl fun h3 t3 k3 hk3 => ?_
    have F3 := fr_keeps F2 hk3
    have N3 := news_keeps N2 hk3
    clear F2 N2
    (repeat' ((fail_if_success (with_reducible show wpAny _ _ (PySem.call (Value.ref _) _ _) _ _ _)); (fail_if_success (with_reducible show wpAny _ _ (getMethod (Value.ref _) (Str.ofString "push") _) _ _ _)); (fail_if_success (with_reducible show wpAny _ _ (getMethod (Value.ref _) (Str.ofString "pop_from") _) _ _ _)); (fail_if_success (with_reducible show wpAny _ _ (getMethod (Value.ref _) (Str.ofString "reset") _) _ _ _)); (fail_if_success (with_reducible show wpAny _ _ (getMethod (Value.ref _) (Str.ofString "part_count") _) _ _ _)); (fail_if_success (with_reducible show wpAny _ _ (exec (Stmt.For _ _ _ _ _) _) _ _ _)); (fail_if_success (with_reducible show wpAny _ _ (exec (Stmt.While _ _ _ _) _) _ _ _)); (fail_if_success (with_reducible show wpAny _ _ (pyIter _) _ _ _)); (fail_if_success (with_reducible show wpAny _ _ (PySem.eval (PySem.Expr.ListComp _ _ _ _) _) _ _ _)); (fail_if_success (with_reducible show LCg.CompSrc _ _ _ _ _ _ _ _ _ _ _ _ _ _)); (fail_if_success (with_reducible show LCg.CompEnd _ _ _ _ _ _ _ _ _ _ _ _ _ _)); first | (k_unfold; (try dsimp only)) | walk1 | (dsimp only; walk1) | fail "no step"))
    rename Fr _ _ _ _ => F4
    rename News _ _ _ _ => N4
    have hof := off1_mem off9
    have hys : ys.length = hs.length := by rw [hyl, List.size_toArray, hIh.length]
    obtain ⟨pa, hpa⟩ : ∃ pa, (120, tabObj pa) ∈ tabA st1 := by cases st1 <;> exact ⟨_, .head _⟩
    obtain ⟨pb, hpb⟩ : ∃ pb, (127, tabObj pb) ∈ tabB st2 := by cases st2 <;> exact ⟨_, .head _⟩
    have F5 := fr_to F4 (m' := fun y => lkO y (lawFr SL HR D9 u1 u2 (byteArr (ordSpec (hs.getD 0 0) p)) t3 (fun _ => none))) (by ktn_open)
    clear F4
    refine seg5 (c1 := c1) (c3 := c3) (nn := nn) (nsg := nsg) (TB := D9) (tbv := ys) (ntb := ys.length) (pa := pa) (pb := pb) (tl := tl) X T F5 (news_sub N4 ?_) hc2 hc4 l0 lSG lHR ⟨fun e => hof (69, tabObj #[]) (by kcf_m) e.symm, fun e => hof (62, tabObj #[]) (by kcf_m) e.symm⟩ hIh hhl hst hbd hp4 hp8 hsg hys (fun j hj => hall j (by rw [List.size_toArray, hIh.length]; exact hj)) hlo G0 ?_
    · refine List.forall_mem_cons.mpr ⟨by kcf_m, List.forall_mem_cons.mpr ⟨by kcf_m, List.forall_mem_cons.mpr ⟨by kcf_m, List.forall_mem_cons.mpr ⟨by kcf_m, List.forall_mem_cons.mpr ⟨by kcf_m, List.forall_mem_cons.mpr ⟨by kcf_m, List.forall_mem_cons.mpr ⟨List.mem_cons_of_mem _ List.mem_cons_self, List.forall_mem_cons.mpr ⟨by kcf_m, List.forall_mem_cons.mpr ⟨by kcf_m, List.forall_mem_cons.mpr ⟨by kcf_m, List.forall_mem_cons.mpr ⟨by kcf_m, fun q hq => by kcf_m⟩⟩⟩⟩⟩⟩⟩⟩⟩⟩⟩
    · intro s' m' ps1 ps2 hlat F9 N9
      exact hret s' m' ps1 ps2 pa pb hlat F9 N9
end

section
theorem seg3 {h₀ : Heap} {L SG DR HR : Nat} {u1 : Option Value} {hh0 : Int} {th0 : Tok} {fa SL : Addr} {cd : Value} {ds : List Int} {p : Int} {d1 : Int} {dsv sgv : List Value} {nd nsg : Nat} {s : Shared} {c1 c2 c3 c4 : Obj} {Q : Flow → Shared → Prop} {tp : Tok}
  (X : (Mine.hd.heap_1 w.params).In h₀) (T : Top pp loose mean mg mb h₀)
  (F : Fr h₀ L s.heap (fun y => lkO y [("script", some (.ref SL)), ("first", u1), ("hours", some (.ref HR)), ("move", none), ("tables", none), ("pile", none), ("step", none), ("told", none), ("front", none), ("ring", none), ("sign", none), ("again", none), ("k", none), ("figure", none), ("cut", none), ("due", none), ("written", none)]))
  (N : News h₀ L s.heap [(L + 1 + 1 + 1 + 1, c4), (L + 1 + 1 + 1, c3), (L + 1 + 1, c2), (L + 1, c1), (HR, listOf [Value.int hh0 th0].toArray 0), (DR, listOf dsv.toArray nd), (SG, listOf sgv.toArray nsg), (127, tabObj #[]), (120, tabObj #[]), (62, tabObj #[]), (69, tabObj #[])])
  (hc1 : c1.data = .cell (some (.ref DR))) (hc2 : c2.data = .cell (some (.int p tp))) (hc4 : c4.data = .cell (some (.ref SG)))
  (l0 : @LT.lt Nat _ 127 L ∧ @LT.lt Nat _ 120 L ∧ @LT.lt Nat _ 62 L ∧ @LT.lt Nat _ 69 L) (lDR : @LT.lt Nat _ (L + 1 + 1 + 1 + 1) DR) (lSG : @Ne Nat SG 69 ∧ @Ne Nat SG 62 ∧ @Ne Nat SG 120 ∧ @Ne Nat SG 127) (lHR : @LT.lt Nat _ SG HR ∧ @LT.lt Nat _ DR HR ∧ @LT.lt Nat _ (L + 1 + 1 + 1 + 1) HR) (hb0 : -1000000000000 < hh0) (hb1 : hh0 < 1000000000000)
  (hI : IntsAre dsv ds) (hdl : 5 ≤ ds.length ∧ ds.length ≤ 7) (hp4 : 4 ≤ p) (hp8 : p ≤ 8) (G0 : AllBare s.gens)
  (hsg : StrsAre sgv ((List.range p.toNat).map (sgAt d1)))
  (hret : ∀ (s' : Shared) (m' : Str → Option Value) (ps1 ps2 pa pb : Array Value), Later s s' → Fr h₀ L s'.heap m' → News h₀ L s'.heap [(62, tabObj ps1), (69, tabObj ps2), (120, tabObj pa), (127, tabObj pb)] → Q (.ret (.bool true)) s') :
  wpR (model PySem.Challenge.pw_xp0023_01 w) (callerA.deeper (lawEnv L fa cd)) (execs (List.drop 7 lawParts.1.2.2.1) (lawEnv L fa cd)) Q s := by
  w_top off
  dsimp only [lawEnv, lawParts, List.drop]
  have B := below_caller h₀
  obtain ⟨hp0, gs0, dr0, tk0, os0⟩ := s
  refine wpR_execs_step ?_
  refine For_invV h₀ (by rfl) (by rfl) ?_
  (repeat' ((fail_if_success (with_reducible show wpAny _ _ (PySem.call (Value.ref _) _ _) _ _ _)); (fail_if_success (with_reducible show wpAny _ _ (getMethod (Value.ref _) (Str.ofString "push") _) _ _ _)); (fail_if_success (with_reducible show wpAny _ _ (getMethod (Value.ref _) (Str.ofString "pop_from") _) _ _ _)); (fail_if_success (with_reducible show wpAny _ _ (getMethod (Value.ref _) (Str.ofString "reset") _) _ _ _)); (fail_if_success (with_reducible show wpAny _ _ (getMethod (Value.ref _) (Str.ofString "part_count") _) _ _ _)); (fail_if_success (with_reducible show wpAny _ _ (exec (Stmt.For _ _ _ _ _) _) _ _ _)); (fail_if_success (with_reducible show wpAny _ _ (exec (Stmt.While _ _ _ _) _) _ _ _)); (fail_if_success (with_reducible show wpAny _ _ (pyIter _) _ _ _)); (fail_if_success (with_reducible show wpAny _ _ (PySem.eval (PySem.Expr.ListComp _ _ _ _) _) _ _ _)); (fail_if_success (with_reducible show LCg.CompSrc _ _ _ _ _ _ _ _ _ _ _ _ _ _)); (fail_if_success (with_reducible show LCg.CompEnd _ _ _ _ _ _ _ _ _ _ _ _ _ _)); first | (k_unfold; (try dsimp only)) | walk1 | (dsimp only; walk1) | fail "no step"))
  rename Fr _ _ _ _ => HF
  rename News _ _ _ _ => HN
  rename IntsAre _ (List.drop _ ds) => hI2
  rename_i D ws h4 l4
  have hwl : ws.length ≤ 5 := by rw [hI2.length, List.length_drop, show Int.toNat 2 = 2 from rfl]; omega
  refine iter_ledG (l := D) (vs := ws) (nn := 0) (news := (D, listOf ws.toArray 0) :: (HR, listOf [Value.int hh0 th0].toArray 0) :: [(L + 1 + 1 + 1 + 1, c4), (L + 1 + 1 + 1, c3), (L + 1 + 1, c2), (L + 1, c1), (DR, listOf dsv.toArray nd), (SG, listOf sgv.toArray nsg), (127, tabObj #[]), (120, tabObj #[]), (62, tabObj #[]), (69, tabObj #[])]) (fun i m nx => ∃ (hv : List Value) (nn : Nat) (hs : List Int) (u : Option Value), nx = (D, listOf ws.toArray 0) :: (HR, listOf hv.toArray nn) :: [(L + 1 + 1 + 1 + 1, c4), (L + 1 + 1 + 1, c3), (L + 1 + 1, c2), (L + 1, c1), (DR, listOf dsv.toArray nd), (SG, listOf sgv.toArray nsg), (127, tabObj #[]), (120, tabObj #[]), (62, tabObj #[]), (69, tabObj #[])] ∧ IntsAre hv hs ∧ hs.length = i + 1 ∧ StepsBy hs ∧ (∀ x ∈ hs, -1000000000000 - (i : Int) ≤ x ∧ x ≤ 1000000000000 + (i : Int)) ∧
    m = fun y => lkO y [("script", some (.ref SL)), ("first", u1), ("hours", some (.ref HR)), ("move", u), ("tables", none), ("pile", none), ("step", none), ("told", none), ("front", none), ("ring", none), ("sign", none), ("again", none), ("k", none), ("figure", none), ("cut", none), ("due", none), ("written", none)]) rfl ?_ HF (news_sub HN (by kcf_all)) ?_ ?_ ?_ ?_
  · kcf_m
  · refine ⟨_, 0, _, none, rfl, .cons _ _ .nil, rfl, .one, ?_, rfl⟩
    intro x hx
    rw [List.mem_singleton.mp hx]
    omega
  · rintro i m nx ⟨hv, nn, hs, u, rfl, _⟩
    kcf_m
  · clear HF HN
    rintro i v m₁ nx h₁ tk₁ I oI hi ⟨hv, nn, hs, u, rfl, hIh, hlen, hst, hbd, rfl⟩ hI' F₁ N₁
    obtain ⟨x, t, hx, rfl⟩ := ints_at hI2 hi
    have hil : i < ws.length := by
      rcases Nat.lt_or_ge i ws.length with h | h
      · exact h
      · rw [List.getElem?_eq_none h] at hi; cases hi
    have hlast := hbd (hs.getLast (by intro e; rw [e] at hlen; cases hlen)) (List.getLast_mem _)
    have hmv0 := Int.fmod_nonneg_of_pos x (show (0 : Int) < 2 by decide)
    have hmv1 := Int.fmod_lt_of_pos x (show (0 : Int) < 2 by decide)
    have hHI : @Ne Nat HR I := hI' (HR, listOf hv.toArray nn) (by kcf_m)
    (repeat' ((fail_if_success (with_reducible show wpAny _ _ (PySem.call (Value.ref _) _ _) _ _ _)); (fail_if_success (with_reducible show wpAny _ _ (getMethod (Value.ref _) (Str.ofString "push") _) _ _ _)); (fail_if_success (with_reducible show wpAny _ _ (getMethod (Value.ref _) (Str.ofString "pop_from") _) _ _ _)); (fail_if_success (with_reducible show wpAny _ _ (getMethod (Value.ref _) (Str.ofString "reset") _) _ _ _)); (fail_if_success (with_reducible show wpAny _ _ (getMethod (Value.ref _) (Str.ofString "part_count") _) _ _ _)); (fail_if_success (with_reducible show wpAny _ _ (exec (Stmt.For _ _ _ _ _) _) _ _ _)); (fail_if_success (with_reducible show wpAny _ _ (exec (Stmt.While _ _ _ _) _) _ _ _)); (fail_if_success (with_reducible show wpAny _ _ (pyIter _) _ _ _)); (fail_if_success (with_reducible show wpAny _ _ (PySem.eval (PySem.Expr.ListComp _ _ _ _) _) _ _ _)); (fail_if_success (with_reducible show LCg.CompSrc _ _ _ _ _ _ _ _ _ _ _ _ _ _)); (fail_if_success (with_reducible show LCg.CompEnd _ _ _ _ _ _ _ _ _ _ _ _ _ _)); first | (k_unfold; (try dsimp only)) | walk1 | (dsimp only; walk1) | fail "no step"))
    rename Fr _ _ _ _ => HF
    rename News _ _ _ _ => HN
    rename IntsAre _ (hs ++ _) => hq
    refine InvEndG.intro HF HN ⟨_, nn + 1, _, ?u8, rfl, hq, ?l8, steps_snoc hst (step_val (by omega) hmv0 hmv1), bd_snoc hbd (by omega) hmv0 hmv1, ?m8⟩ ?o8 ?n8 ?b8
    case m8 => ktn_open
    case l8 => rw [List.length_append, hlen]; rfl
    case o8 =>
      refine ownoff_one (fun q hq => ?_)
      rcases List.mem_cons.mp hq with rfl | hq
      · exact hI' (D, listOf ws.toArray 0) (by kcf_m)
      · rcases List.mem_cons.mp hq with rfl | hq
        · exact hHI
        · exact hI' q (.tail _ (.tail _ hq))
    case n8 => kcf_all
    case b8 => kcf_all
  · clear HF HN
    rintro m₁ nx h₁ tk₁ ⟨hv, nn, hs, u, rfl, hIh, hlen, hst, hbd, rfl⟩ F₁ N₁
    have hw2 : ws.length = ds.length - 2 := by rw [hI2.length, List.length_drop, show Int.toNat 2 = 2 from rfl]
    refine seg4 (c1 := c1) (c3 := c3) (nn := nn) (nsg := nsg) X T F₁ (news_sub N₁ (by kcf_all)) hc2 hc4 l0 lSG lHR.2.2 hIh (by omega) hst (fun x hx => ?_) hp4 hp8 G0 hsg ?_
    · have := hbd x hx
      omega
    · intro s' m' ps1 ps2 pa pb hlat F9 N9
      exact hret s' m' ps1 ps2 pa pb hlat F9 N9
end

section
theorem seg2 {h₀ : Heap} {L SG DR : Nat} {fa SL : Addr} {cd : Value} {ds : List Int} {p : Int} {d1 : Int} {dsv sgv : List Value} {nd nsg : Nat} {s : Shared} {c1 c2 c3 c4 : Obj} {Q : Flow → Shared → Prop} {tp : Tok}
  (X : (Mine.hd.heap_1 w.params).In h₀) (T : Top pp loose mean mg mb h₀)
  (F : Fr h₀ L s.heap (fun y => lkO y [("script", some (.ref SL)), ("first", none), ("hours", none), ("move", none), ("tables", none), ("pile", none), ("step", none), ("told", none), ("front", none), ("ring", none), ("sign", none), ("again", none), ("k", none), ("figure", none), ("cut", none), ("due", none), ("written", none)]))
  (N : News h₀ L s.heap [(L + 1 + 1 + 1 + 1, c4), (L + 1 + 1 + 1, c3), (L + 1 + 1, c2), (L + 1, c1), (DR, listOf dsv.toArray nd), (SG, listOf sgv.toArray nsg), (127, tabObj #[]), (120, tabObj #[]), (62, tabObj #[]), (69, tabObj #[])])
  (hc1 : c1.data = .cell (some (.ref DR))) (hc2 : c2.data = .cell (some (.int p tp))) (hc4 : c4.data = .cell (some (.ref SG)))
  (l0 : @LT.lt Nat _ 127 L ∧ @LT.lt Nat _ 120 L ∧ @LT.lt Nat _ 62 L ∧ @LT.lt Nat _ 69 L) (lDR : @LT.lt Nat _ (L + 1 + 1 + 1 + 1) DR) (lSG : @Ne Nat SG 69 ∧ @Ne Nat SG 62 ∧ @Ne Nat SG 120 ∧ @Ne Nat SG 127)
  (hI : IntsAre dsv ds) (hdl : 5 ≤ ds.length ∧ ds.length ≤ 7) (hp4 : 4 ≤ p) (hp8 : p ≤ 8) (G0 : AllBare s.gens)
  (hsg : StrsAre sgv ((List.range p.toNat).map (sgAt d1)))
  (hret : ∀ (s' : Shared) (m' : Str → Option Value) (ps1 ps2 pa pb : Array Value), Later s s' → Fr h₀ L s'.heap m' → News h₀ L s'.heap [(62, tabObj ps1), (69, tabObj ps2), (120, tabObj pa), (127, tabObj pb)] → Q (.ret (.bool true)) s') :
  wpR (model PySem.Challenge.pw_xp0023_01 w) (callerA.deeper (lawEnv L fa cd)) (execs (List.drop 5 lawParts.1.2.2.1) (lawEnv L fa cd)) Q s := by
  w_top off
  dsimp only [lawEnv, lawParts, List.drop]
  have B := below_caller h₀
  obtain ⟨hp0, gs0, dr0, tk0, os0⟩ := s
  have hb : ∀ z : Int, 0 ≤ z.fmod (10 ^ Int.toNat 12) ∧ z.fmod (10 ^ Int.toNat 12) < 1000000000000 := fun z => ⟨Int.fmod_nonneg_of_pos _ (by decide), Int.fmod_lt_of_pos _ (by decide)⟩
  refine wpR_execs_step ?_
  (repeat' ((fail_if_success (with_reducible show wpAny _ _ (PySem.call (Value.ref _) _ _) _ _ _)); (fail_if_success (with_reducible show wpAny _ _ (getMethod (Value.ref _) (Str.ofString "push") _) _ _ _)); (fail_if_success (with_reducible show wpAny _ _ (getMethod (Value.ref _) (Str.ofString "pop_from") _) _ _ _)); (fail_if_success (with_reducible show wpAny _ _ (getMethod (Value.ref _) (Str.ofString "reset") _) _ _ _)); (fail_if_success (with_reducible show wpAny _ _ (getMethod (Value.ref _) (Str.ofString "part_count") _) _ _ _)); (fail_if_success (with_reducible show wpAny _ _ (exec (Stmt.For _ _ _ _ _) _) _ _ _)); (fail_if_success (with_reducible show wpAny _ _ (exec (Stmt.While _ _ _ _) _) _ _ _)); (fail_if_success (with_reducible show wpAny _ _ (pyIter _) _ _ _)); (fail_if_success (with_reducible show wpAny _ _ (PySem.eval (PySem.Expr.ListComp _ _ _ _) _) _ _ _)); (fail_if_success (with_reducible show LCg.CompSrc _ _ _ _ _ _ _ _ _ _ _ _ _ _)); (fail_if_success (with_reducible show LCg.CompEnd _ _ _ _ _ _ _ _ _ _ _ _ _ _)); first | (k_unfold; (try dsimp only)) | walk1 | (dsimp only; walk1) | fail "no step"))
  refine gen_toks fun tk => ?_
  try dsimp only
  refine wpR_execs_step ?_
  (repeat' ((fail_if_success (with_reducible show wpAny _ _ (PySem.call (Value.ref _) _ _) _ _ _)); (fail_if_success (with_reducible show wpAny _ _ (getMethod (Value.ref _) (Str.ofString "push") _) _ _ _)); (fail_if_success (with_reducible show wpAny _ _ (getMethod (Value.ref _) (Str.ofString "pop_from") _) _ _ _)); (fail_if_success (with_reducible show wpAny _ _ (getMethod (Value.ref _) (Str.ofString "reset") _) _ _ _)); (fail_if_success (with_reducible show wpAny _ _ (getMethod (Value.ref _) (Str.ofString "part_count") _) _ _ _)); (fail_if_success (with_reducible show wpAny _ _ (exec (Stmt.For _ _ _ _ _) _) _ _ _)); (fail_if_success (with_reducible show wpAny _ _ (exec (Stmt.While _ _ _ _) _) _ _ _)); (fail_if_success (with_reducible show wpAny _ _ (pyIter _) _ _ _)); (fail_if_success (with_reducible show wpAny _ _ (PySem.eval (PySem.Expr.ListComp _ _ _ _) _) _ _ _)); (fail_if_success (with_reducible show LCg.CompSrc _ _ _ _ _ _ _ _ _ _ _ _ _ _)); (fail_if_success (with_reducible show LCg.CompEnd _ _ _ _ _ _ _ _ _ _ _ _ _ _)); first | (k_unfold; (try dsimp only)) | walk1 | (dsimp only; walk1) | fail "no step"))
  · rename Fr _ _ _ _ => F1
    rename News _ _ _ _ => N1
    rename_i l9 h1 l1 h0
    have hzb := hb (if ds.getD (Int.toNat 0) 0 < 0 then -ds.getD (Int.toNat 0) 0 else ds.getD (Int.toNat 0) 0)
    obtain ⟨t9, N2⟩ : ∃ t9, News h₀ L h0 ((l9, listOf [Value.int (((if ds.getD (Int.toNat 0) 0 < 0 then -ds.getD (Int.toNat 0) 0 else ds.getD (Int.toNat 0) 0).fmod (10 ^ Int.toNat 12))) t9].toArray 0) :: [(L + 1 + 1 + 1 + 1, c4), (L + 1 + 1 + 1, c3), (L + 1 + 1, c2), (L + 1, c1), (DR, listOf dsv.toArray nd), (SG, listOf sgv.toArray nsg), (127, tabObj #[]), (120, tabObj #[]), (62, tabObj #[]), (69, tabObj #[])]) := ⟨_, N1⟩
    refine seg3 (u1 := ?u11) (HR := l9) (SL := SL) (c1 := c1) (c3 := c3) (nd := nd) (nsg := nsg) X T (fr_to F1 ?fr1) (news_sub N2 (by kcf_all)) hc1 hc2 hc4 l0 lDR lSG ⟨by omega, by omega, by omega⟩ (by omega) (by omega) hI hdl hp4 hp8 G0 hsg ?ret1
    case fr1 => ktn_open
    case ret1 => exact hret
  · rename Fr _ _ _ _ => F1
    rename News _ _ _ _ => N1
    rename_i l9 h1 l1 h0
    have hzb := hb (if ds.getD (Int.toNat 0) 0 < 0 then -ds.getD (Int.toNat 0) 0 else ds.getD (Int.toNat 0) 0)
    obtain ⟨t9, N2⟩ : ∃ t9, News h₀ L h0 ((l9, listOf [Value.int (-((if ds.getD (Int.toNat 0) 0 < 0 then -ds.getD (Int.toNat 0) 0 else ds.getD (Int.toNat 0) 0).fmod (10 ^ Int.toNat 12))) t9].toArray 0) :: [(L + 1 + 1 + 1 + 1, c4), (L + 1 + 1 + 1, c3), (L + 1 + 1, c2), (L + 1, c1), (DR, listOf dsv.toArray nd), (SG, listOf sgv.toArray nsg), (127, tabObj #[]), (120, tabObj #[]), (62, tabObj #[]), (69, tabObj #[])]) := ⟨_, N1⟩
    refine seg3 (u1 := ?u12) (HR := l9) (SL := SL) (c1 := c1) (c3 := c3) (nd := nd) (nsg := nsg) X T (fr_to F1 ?fr2) (news_sub N2 (by kcf_all)) hc1 hc2 hc4 l0 lDR lSG ⟨by omega, by omega, by omega⟩ (by omega) (by omega) hI hdl hp4 hp8 G0 hsg ?ret2
    case fr2 => ktn_open
    case ret2 => exact hret
end

section
theorem law_walk {h₀ : Heap} {L : Nat} {fa SL : Addr} {cd : Value} {xs : List Int} {svs : List Value} {s : Shared} {c1 c2 c3 c4 : Obj} {Q : Flow → Shared → Prop}
  (X : (Mine.hd.heap_1 w.params).In h₀) (T : Top pp loose mean mg mb h₀)
  (F : Fr h₀ L s.heap (fun y => lkO y [("script", some (.ref SL)), ("first", none), ("hours", none), ("move", none), ("tables", none), ("pile", none), ("step", none), ("told", none), ("front", none), ("ring", none), ("sign", none), ("again", none), ("k", none), ("figure", none), ("cut", none), ("due", none), ("written", none)]))
  (N : News h₀ L s.heap [(L + 1 + 1 + 1 + 1, c4), (L + 1 + 1 + 1, c3), (L + 1 + 1, c2), (L + 1, c1), (127, tabObj #[]), (120, tabObj #[]), (62, tabObj #[]), (69, tabObj #[])])
  (hc1 : c1.data = .cell none) (hc2 : c2.data = .cell none) (hc3 : c3.data = .cell none) (hc4 : c4.data = .cell none)
  (l0 : @LT.lt Nat _ 127 L ∧ @LT.lt Nat _ 120 L ∧ @LT.lt Nat _ 62 L ∧ @LT.lt Nat _ 69 L)
  (hSL : s.heap.IsList SL svs.toArray) (hSI : IntsAre svs xs) (hSlen : xs.length ≤ 63) (G0 : AllBare s.gens)
  (hret : ∀ (s' : Shared) (m' : Str → Option Value) (ps1 ps2 pa pb : Array Value), Later s s' → Fr h₀ L s'.heap m' → News h₀ L s'.heap [(62, tabObj ps1), (69, tabObj ps2), (120, tabObj pa), (127, tabObj pb)] → Q (.ret (.bool true)) s') :
  wpR (model PySem.Challenge.pw_xp0023_01 w) (callerA.deeper (lawEnv L fa cd)) (execs lawParts.1.2.2.1 (lawEnv L fa cd)) Q s := by
  w_top off
  dsimp only [lawEnv, lawParts]
  have B := below_caller h₀
  obtain ⟨hp0, gs0, dr0, tk0, os0⟩ := s
  refine wpR_execs_step ?_
  (repeat' ((fail_if_success (with_reducible show wpAny _ _ (PySem.call (Value.ref _) _ _) _ _ _)); (fail_if_success (with_reducible show wpAny _ _ (getMethod (Value.ref _) (Str.ofString "push") _) _ _ _)); (fail_if_success (with_reducible show wpAny _ _ (getMethod (Value.ref _) (Str.ofString "pop_from") _) _ _ _)); (fail_if_success (with_reducible show wpAny _ _ (getMethod (Value.ref _) (Str.ofString "reset") _) _ _ _)); (fail_if_success (with_reducible show wpAny _ _ (getMethod (Value.ref _) (Str.ofString "part_count") _) _ _ _)); (fail_if_success (with_reducible show wpAny _ _ (exec (Stmt.For _ _ _ _ _) _) _ _ _)); (fail_if_success (with_reducible show wpAny _ _ (exec (Stmt.While _ _ _ _) _) _ _ _)); (fail_if_success (with_reducible show wpAny _ _ (pyIter _) _ _ _)); (fail_if_success (with_reducible show wpAny _ _ (PySem.eval (PySem.Expr.ListComp _ _ _ _) _) _ _ _)); (fail_if_success (with_reducible show LCg.CompSrc _ _ _ _ _ _ _ _ _ _ _ _ _ _)); (fail_if_success (with_reducible show LCg.CompEnd _ _ _ _ _ _ _ _ _ _ _ _ _ _)); first | (k_unfold; (try dsimp only)) | walk1 | (dsimp only; walk1) | fail "no step"))
  rename IntsAre _ (List.take _ xs) => hI1
  rw [show Int.toNat 7 = 7 from rfl] at hI1
  obtain ⟨ys, hys⟩ : ∃ ys, List.take 7 xs = ys := ⟨_, rfl⟩
  have hyl : ys.length ≤ 7 := by rw [← hys, List.length_take]; omega
  rw [hys] at hI1
  refine gen_toks fun tk => ?_
  try dsimp only
  refine wpR_execs_step ?_
  (repeat' ((fail_if_success (with_reducible show wpAny _ _ (PySem.call (Value.ref _) _ _) _ _ _)); (fail_if_success (with_reducible show wpAny _ _ (getMethod (Value.ref _) (Str.ofString "push") _) _ _ _)); (fail_if_success (with_reducible show wpAny _ _ (getMethod (Value.ref _) (Str.ofString "pop_from") _) _ _ _)); (fail_if_success (with_reducible show wpAny _ _ (getMethod (Value.ref _) (Str.ofString "reset") _) _ _ _)); (fail_if_success (with_reducible show wpAny _ _ (getMethod (Value.ref _) (Str.ofString "part_count") _) _ _ _)); (fail_if_success (with_reducible show wpAny _ _ (exec (Stmt.For _ _ _ _ _) _) _ _ _)); (fail_if_success (with_reducible show wpAny _ _ (exec (Stmt.While _ _ _ _) _) _ _ _)); (fail_if_success (with_reducible show wpAny _ _ (pyIter _) _ _ _)); (fail_if_success (with_reducible show wpAny _ _ (PySem.eval (PySem.Expr.ListComp _ _ _ _) _) _ _ _)); (fail_if_success (with_reducible show LCg.CompSrc _ _ _ _ _ _ _ _ _ _ _ _ _ _)); (fail_if_success (with_reducible show LCg.CompEnd _ _ _ _ _ _ _ _ _ _ _ _ _ _)); first | (k_unfold; (try dsimp only)) | walk1 | (dsimp only; walk1) | fail "no step"))
  rename IntsAre _ (ys ++ _) => hI2
  rename _ = Data.cell (some (Value.ref _)) => hd1
  rename _ ∧ _ => lDR
  obtain ⟨ds, hds⟩ : ∃ ds, ys ++ List.drop (Int.toNat (ys.length : Int)) [-2, 5, 0, 0, 1] = ds := ⟨_, rfl⟩
  have hdl : 5 ≤ ds.length ∧ ds.length ≤ 7 := by
    rw [← hds, List.length_append, List.length_drop, Int.toNat_natCast]
    simp only [List.length_cons, List.length_nil]
    omega
  rw [hds] at hI2
  clear hI1
  have hm0 := Int.fmod_nonneg_of_pos (ds.getD (Int.toNat 1) 0) (show (0 : Int) < 5 by decide)
  have hm1 := Int.fmod_lt_of_pos (ds.getD (Int.toNat 1) 0) (show (0 : Int) < 5 by decide)
  obtain ⟨p, hp⟩ : ∃ p, 4 + (ds.getD (Int.toNat 1) 0).fmod 5 = p := ⟨_, rfl⟩
  have hp4 : 4 ≤ p := by omega
  have hp8 : p ≤ 8 := by omega
  refine gen_toks fun tk => ?_
  try dsimp only
  refine wpR_execs_step ?_
  (repeat' ((fail_if_success (with_reducible show wpAny _ _ (PySem.call (Value.ref _) _ _) _ _ _)); (fail_if_success (with_reducible show wpAny _ _ (getMethod (Value.ref _) (Str.ofString "push") _) _ _ _)); (fail_if_success (with_reducible show wpAny _ _ (getMethod (Value.ref _) (Str.ofString "pop_from") _) _ _ _)); (fail_if_success (with_reducible show wpAny _ _ (getMethod (Value.ref _) (Str.ofString "reset") _) _ _ _)); (fail_if_success (with_reducible show wpAny _ _ (getMethod (Value.ref _) (Str.ofString "part_count") _) _ _ _)); (fail_if_success (with_reducible show wpAny _ _ (exec (Stmt.For _ _ _ _ _) _) _ _ _)); (fail_if_success (with_reducible show wpAny _ _ (exec (Stmt.While _ _ _ _) _) _ _ _)); (fail_if_success (with_reducible show wpAny _ _ (pyIter _) _ _ _)); (fail_if_success (with_reducible show wpAny _ _ (PySem.eval (PySem.Expr.ListComp _ _ _ _) _) _ _ _)); (fail_if_success (with_reducible show LCg.CompSrc _ _ _ _ _ _ _ _ _ _ _ _ _ _)); (fail_if_success (with_reducible show LCg.CompEnd _ _ _ _ _ _ _ _ _ _ _ _ _ _)); first | (k_unfold; (try dsimp only)) | walk1 | (dsimp only; walk1) | fail "no step"))
  try dsimp only
  rename_i h3 o3 F3 N3 d3
  obtain ⟨t3, d3⟩ : ∃ t, o3.data = Data.cell (some (Value.int (4 + (ds.getD (Int.toNat 1) 0).fmod 5) t)) := ⟨_, d3⟩
  rw [hp] at d3
  refine gen_toks fun tk => ?_
  try dsimp only
  refine wpR_execs_step ?_
  (repeat' ((fail_if_success (with_reducible show wpAny _ _ (PySem.call (Value.ref _) _ _) _ _ _)); (fail_if_success (with_reducible show wpAny _ _ (getMethod (Value.ref _) (Str.ofString "push") _) _ _ _)); (fail_if_success (with_reducible show wpAny _ _ (getMethod (Value.ref _) (Str.ofString "pop_from") _) _ _ _)); (fail_if_success (with_reducible show wpAny _ _ (getMethod (Value.ref _) (Str.ofString "reset") _) _ _ _)); (fail_if_success (with_reducible show wpAny _ _ (getMethod (Value.ref _) (Str.ofString "part_count") _) _ _ _)); (fail_if_success (with_reducible show wpAny _ _ (exec (Stmt.For _ _ _ _ _) _) _ _ _)); (fail_if_success (with_reducible show wpAny _ _ (exec (Stmt.While _ _ _ _) _) _ _ _)); (fail_if_success (with_reducible show wpAny _ _ (pyIter _) _ _ _)); (fail_if_success (with_reducible show wpAny _ _ (PySem.eval (PySem.Expr.ListComp _ _ _ _) _) _ _ _)); (fail_if_success (with_reducible show LCg.CompSrc _ _ _ _ _ _ _ _ _ _ _ _ _ _)); (fail_if_success (with_reducible show LCg.CompEnd _ _ _ _ _ _ _ _ _ _ _ _ _ _)); first | (k_unfold; (try dsimp only)) | walk1 | (dsimp only; walk1) | fail "no step"))
  try dsimp only
  refine gen_toks fun tk => ?_
  try dsimp only
  refine wpR_execs_cons (Assign_R (wpR_of ?_))
  rename Fr _ _ _ _ => HF
  refine LCg.ListComp_U (F₀ := HF) (by with_unfolding_all rfl) (by decide) (by rfl) (by decide) (by rfl) ?_
  (repeat' ((fail_if_success (with_reducible show wpAny _ _ (PySem.call (Value.ref _) _ _) _ _ _)); (fail_if_success (with_reducible show wpAny _ _ (getMethod (Value.ref _) (Str.ofString "push") _) _ _ _)); (fail_if_success (with_reducible show wpAny _ _ (getMethod (Value.ref _) (Str.ofString "pop_from") _) _ _ _)); (fail_if_success (with_reducible show wpAny _ _ (getMethod (Value.ref _) (Str.ofString "reset") _) _ _ _)); (fail_if_success (with_reducible show wpAny _ _ (getMethod (Value.ref _) (Str.ofString "part_count") _) _ _ _)); (fail_if_success (with_reducible show wpAny _ _ (exec (Stmt.For _ _ _ _ _) _) _ _ _)); (fail_if_success (with_reducible show wpAny _ _ (exec (Stmt.While _ _ _ _) _) _ _ _)); (fail_if_success (with_reducible show wpAny _ _ (pyIter _) _ _ _)); (fail_if_success (with_reducible show wpAny _ _ (PySem.eval (PySem.Expr.ListComp _ _ _ _) _) _ _ _)); (fail_if_success (with_reducible show LCg.CompSrc _ _ _ _ _ _ _ _ _ _ _ _ _ _)); (fail_if_success (with_reducible show LCg.CompEnd _ _ _ _ _ _ _ _ _ _ _ _ _ _)); first | (k_unfold; (try dsimp only)) | walk1 | (dsimp only; walk1) | fail "no step"))
  rename IsRange _ _ _ _ _ _ _ _ => hr
  rename Fr _ _ _ _ => HF
  rename News _ _ _ _ => HN
  refine LCg.CompSrc.range (by rfl) HF HN hr (small_one (by omega) (by omega) (by omega) (by omega)) (rangeSize_nat _ _) (by rw [PySem.sizeLine_eq]; omega) ?_
  intro g9
  refine comp_inv (fun i ys nx => nx = _ ∧ StrsAre ys ((List.range i).map (sgAt (ds.getD (Int.toNat 1) 0)))) ⟨rfl, .nil⟩ ?_ ?_
  · intro i v ys nx I oI C oC D m₂ h9 tk9 E9 hi hv ⟨e, hy⟩ hC hxx F9 N9 off9 ne9
    obtain ⟨t, rfl⟩ := hv
    subst e
    clear HF HN
    have hm3 := Int.fmod_nonneg_of_pos ((ds.getD (Int.toNat 1) 0).fdiv 5 + (0 + (i : Int))) (show (0 : Int) < 11 by decide)
    have hm4 := Int.fmod_lt_of_pos ((ds.getD (Int.toNat 1) 0).fdiv 5 + (0 + (i : Int))) (show (0 : Int) < 11 by decide)
    (repeat' ((fail_if_success (with_reducible show wpAny _ _ (PySem.call (Value.ref _) _ _) _ _ _)); (fail_if_success (with_reducible show wpAny _ _ (getMethod (Value.ref _) (Str.ofString "push") _) _ _ _)); (fail_if_success (with_reducible show wpAny _ _ (getMethod (Value.ref _) (Str.ofString "pop_from") _) _ _ _)); (fail_if_success (with_reducible show wpAny _ _ (getMethod (Value.ref _) (Str.ofString "reset") _) _ _ _)); (fail_if_success (with_reducible show wpAny _ _ (getMethod (Value.ref _) (Str.ofString "part_count") _) _ _ _)); (fail_if_success (with_reducible show wpAny _ _ (exec (Stmt.For _ _ _ _ _) _) _ _ _)); (fail_if_success (with_reducible show wpAny _ _ (exec (Stmt.While _ _ _ _) _) _ _ _)); (fail_if_success (with_reducible show wpAny _ _ (pyIter _) _ _ _)); (fail_if_success (with_reducible show wpAny _ _ (PySem.eval (PySem.Expr.ListComp _ _ _ _) _) _ _ _)); (fail_if_success (with_reducible show LCg.CompSrc _ _ _ _ _ _ _ _ _ _ _ _ _ _)); (fail_if_success (with_reducible show LCg.CompEnd _ _ _ _ _ _ _ _ _ _ _ _ _ _)); first | (k_unfold; (try dsimp only)) | walk1 | (dsimp only; walk1) | fail "no step"))
    rename Fr _ _ _ _ => HF'
    rename News _ _ _ _ => HN'
    refine LCg.CompEnd.intro HF' HN' _ (by first | exact fun q hq => hq | kcf_all) off9 trivial ⟨rfl, ?_⟩
    refine strs_to (strs_snoc' hy (y := sgAt (ds.getD (Int.toNat 1) 0) i) ?_) (by rw [List.range_succ, List.map_append]; rfl)
    show Txt.item rowStr (((ds.getD (Int.toNat 1) 0).fdiv 5 + (0 + (i : Int))).fmod 11) = sgAt _ _
    rw [item_row hm3 hm4]
    unfold sgAt
    rw [Int.zero_add]
  · rintro ys' nx ⟨e, hy⟩
    subst e
    intro D9 h9 tk9 F9 N9 off9
    clear HF HN
    have hD9 : @Ne Nat D9 (L + 1 + 1 + 1 + 1) := fun e => off1_mem off9 (L + 1 + 1 + 1 + 1, c4) (by kcf_m) e.symm
    (repeat' ((fail_if_success (with_reducible show wpAny _ _ (PySem.call (Value.ref _) _ _) _ _ _)); (fail_if_success (with_reducible show wpAny _ _ (getMethod (Value.ref _) (Str.ofString "push") _) _ _ _)); (fail_if_success (with_reducible show wpAny _ _ (getMethod (Value.ref _) (Str.ofString "pop_from") _) _ _ _)); (fail_if_success (with_reducible show wpAny _ _ (getMethod (Value.ref _) (Str.ofString "reset") _) _ _ _)); (fail_if_success (with_reducible show wpAny _ _ (getMethod (Value.ref _) (Str.ofString "part_count") _) _ _ _)); (fail_if_success (with_reducible show wpAny _ _ (exec (Stmt.For _ _ _ _ _) _) _ _ _)); (fail_if_success (with_reducible show wpAny _ _ (exec (Stmt.While _ _ _ _) _) _ _ _)); (fail_if_success (with_reducible show wpAny _ _ (pyIter _) _ _ _)); (fail_if_success (with_reducible show wpAny _ _ (PySem.eval (PySem.Expr.ListComp _ _ _ _) _) _ _ _)); (fail_if_success (with_reducible show LCg.CompSrc _ _ _ _ _ _ _ _ _ _ _ _ _ _)); (fail_if_success (with_reducible show LCg.CompEnd _ _ _ _ _ _ _ _ _ _ _ _ _ _)); first | (k_unfold; (try dsimp only)) | walk1 | (dsimp only; walk1) | fail "no step"))
    rename Fr _ _ _ _ => F4
    rename News _ _ _ _ => N4
    rename _ = Data.cell (some (Value.ref D9)) => hd4
    have hof := off1_mem off9
    rw [show (p - 0).toNat = p.toNat by rw [Int.sub_zero]] at hy
    refine seg2 (c3 := ?c3) (nd := 0) (nsg := ys'.length) X T F4 (news_sub N4 ?nsub) hd1 d3 hd4 l0 (by omega) ⟨fun e => hof (69, tabObj #[]) (by kcf_m) e.symm, fun e => hof (62, tabObj #[]) (by kcf_m) e.symm, fun e => hof (120, tabObj #[]) (by kcf_m) e.symm, fun e => hof (127, tabObj #[]) (by kcf_m) e.symm⟩ hI2 hdl hp4 hp8 G0 hy ?hret9
    case nsub => kcf_all
    case hret9 => exact hret
end

section
theorem lawH : PySem.Challenge.rw_xp0023_01.Holds := by
  refine Mine.hd ?_
  intro w s₀ s₁ mg mb G Y fa o pm cd doc dV kV ho hd hcd hD hmg hg args vals as hpre hlay hrd hwl hlo
  have KX := km_in_of Y
  have hT8 := km_tabs_of Y
  have X := (Ground.X G).1
  have V := (Ground.X G).2
  refine Ground.open G ?_
  intro T B D TE TW
  try (refine guard_noD D (by decide +kernel) ?_; clear D)
  km_lay T hmg ho hd cd
  clear hmg
  wrow_args hpre hlay hrd hwl hlo
  rename s₁.heap.IsList _ _ => hSL
  rename IntsAre _ _ => hSI
  rename ¬ _ < _ => hSlen
  replace hT9 : TabsAt [(131, 127), (124, 120), (66, 62), (73, 69)] s₁.heap := List.forall_mem_cons.mpr ⟨hT9 _ (.head _), List.forall_mem_cons.mpr ⟨hT9 _ (.tail _ (.head _)), List.forall_mem_cons.mpr ⟨⟨codeHd_of_K (c := 66) (P := 62) KX (by kernel_rfl), hT8 62 (by k_mem)⟩, List.forall_mem_cons.mpr ⟨⟨codeHd_of_K (c := 73) (P := 69) KX (by kernel_rfl), hT8 69 (by k_mem)⟩, fun _ h => nomatch h⟩⟩⟩⟩
  refine enter_S hT9 (fun _ _ => rfl) ?_
  have he := Dflts.none hD rfl
  subst he
  have he := Dflts.noKw hD
  subst he
  refine call_cellsR (by decide) ho (fd_plain hd) (Top.nolimit T) hcd rfl (kinds_of (by kinds_ok)) (by decide) fun h₁ tk₁ cells F N0 X0 => ?_
  cells_open X0
  clear hd hD hcd ho Y V hT8
  kn_ghosts F T
  k_drop
  rename Fr _ _ h₁ _ => F0
  rename News _ _ _ _ => N0
  rename Top _ _ _ _ _ (ghostOf _ _) => T0
  rename Frag.In _ (ghostOf _ _) => X0'
  rename (ghostOf _ _).IsList _ _ => hSL0
  rename _ ∧ _ ∧ _ ∧ _ => l0
  have hG : AllBare s₁.gens := AllBare.of_eq hg
  refine law_walk X0' T0 (fr_to F0 ?fr) N0 (by assumption) (by assumption) (by assumption) (by assumption) l0 (hSL0.at fun o e => F0.keep _ o e) hSI (by omega) hG ?ret
  case fr =>
    funext y
    show (if y = Str.ofString "script" then _ else none) = (if y = Str.ofString "script" then _ else lkO y (["first", "hours", "move", "tables", "pile", "step", "told", "front", "ring", "sign", "again", "k", "figure", "cut", "due", "written"].map fun x => (Str.ofString x, none)))
    rw [show (["first", "hours", "move", "tables", "pile", "step", "told", "front", "ring", "sign", "again", "k", "figure", "cut", "due", "written"].map fun x => (Str.ofString x, (none : Option Value))) = (["first", "hours", "move", "tables", "pile", "step", "told", "front", "ring", "sign", "again", "k", "figure", "cut", "due", "written"].map Str.ofString).map fun x => (x, none) from rfl, lkO_none]
  case ret =>
    intro s' m' ps1 ps2 pa pb hlat F9 N9
    refine ⟨⟨.inl ⟨.bool true, .bool true, [], rfl, fun _ => rfl, .bool true, ?post, fun _ => ⟨.nil, fun a h => nomatch h⟩⟩, fun b o e => F9.keep b o e, hlat.1, rfl⟩, ⟨GrownAt.of N9 (by kcf_m), GrownAt.of N9 (by kcf_m), GrownAt.of N9 (by kcf_m), GrownAt.of N9 (by kcf_m), trivial⟩, hlat.2⟩
    case post => exact postW_of (X := true) (by rfl) (by show WTm.value [] (.eq .res (.lit (.bool true))) _ = _; simp [WTm.value]; first | rfl | decide | simp [PySem.W.same]) rfl
end

end
end Mine
end
set_option maxRecDepth 100000 in
theorem PySem.Challenge.cw_xp0023_01_holds : PySem.Challenge.rw_xp0023_01.Holds :=
  Mine.lawH
