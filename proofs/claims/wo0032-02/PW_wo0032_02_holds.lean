import PyProof.Rows.All
import Wide.All
import OpenK.AllK
import Wide.FinOn
import KE.KLcPair
import Lean
import PySem.Challenge.RW_wo0032_02
set_option Elab.async false
set_option linter.unusedVariables false
set_option linter.unusedSimpArgs false
set_option compiler.extract_closed false
set_option maxRecDepth 100000
open PySem PySem.W PySem.Spec PySem.Calls PyProof.Rows
namespace Mine
end Mine
open Mine
section
namespace Mine
theorem room_le {d a b K : Nat} (h : d + b < K) (hab : a ≤ b) : d + a < K := Nat.lt_of_le_of_lt (Nat.add_le_add_left hab d) h
theorem room_0 {d b K : Nat} (h : d + b < K) : d < K := Nat.lt_of_le_of_lt (Nat.le_add_right d b) h
theorem room_12 {d a b c K : Nat} (h : d + b < K) (hab : c + a ≤ b) : d + c + a < K := by rw [Nat.add_assoc]; exact room_le h hab
theorem room_123 {d a b c e K : Nat} (h : d + b < K) (hab : c + (e + a) ≤ b) : d + c + e + a < K := by rw [Nat.add_assoc, Nat.add_assoc]; exact room_le h hab
theorem halves {l r : Int} {d : Nat} (hd : r - l = (d : Int)) (h1 : 1 ≤ d) (hl : 0 ≤ l) (hr : r ≤ 20) :
    d ≤ 20 ∧ d / 2 ≤ 10 ∧ l < 2 ^ 63 ∧ 0 ≤ (l + r) / 2 ^ (1 : Int).toNat ∧ (l + r) / 2 ^ (1 : Int).toNat ≤ 20 ∧ (l + r) / 2 ^ (1 : Int).toNat - l = ((d / 2 : Nat) : Int) ∧ r - (l + r) / 2 ^ (1 : Int).toNat = ((d - d / 2 : Nat) : Int) ∧ ((l + r) / 2 ^ (1 : Int).toNat).toNat = l.toNat + d / 2 ∧
    -2 ^ 64 < (l + r) / 2 ^ (1 : Int).toNat - l ∧ (l + r) / 2 ^ (1 : Int).toNat - l < 2 ^ 64 ∧ d / 2 + (d - d / 2) = d ∧ (l + r) / 2 ^ (1 : Int).toNat ≤ r := by
  have e2 : (2 : Int) ^ (1 : Int).toNat = 2 := rfl
  have hM : (l + r) / 2 = l + ((d / 2 : Nat) : Int) := by clear hl hr h1 e2; omega
  have h20 : d ≤ 20 := by clear hM e2 h1; omega
  have hq : d / 2 ≤ d := Nat.div_le_self d 2
  have h10 : d / 2 ≤ 20 / 2 := Nat.div_le_div_right h20
  rw [e2, hM]
  generalize d / 2 = k at hq h10 ⊢
  clear hM e2 h1
  have e3 : ((d - k : Nat) : Int) = (d : Int) - (k : Int) := Int.ofNat_sub hq
  have hr2 : r = l + (d : Int) := by clear hr h20 hq h10 e3 hl; omega
  have hkd : (k : Int) ≤ (d : Int) := Int.ofNat_le.mpr hq
  have hlr : l ≤ r := by rw [hr2]; exact Int.le_add_of_nonneg_right (Int.natCast_nonneg _)
  have hkr : l + (k : Int) ≤ r := by rw [hr2]; exact Int.add_le_add_left hkd l
  rw [e3, hr2, show l + (k : Int) - l = (k : Int) by rw [Int.add_comm]; exact Int.add_sub_cancel _ _, ← hr2]
  refine ⟨h20, h10, Int.lt_of_le_of_lt (Int.le_trans hlr hr) (by decide), Int.add_nonneg hl (Int.natCast_nonneg _), Int.le_trans hkr hr, rfl, ?_, ?_, Int.lt_of_lt_of_le (by decide) (Int.natCast_nonneg _), ?_, Nat.add_sub_cancel' hq, hkr⟩
  · rw [hr2]; clear hr h20 hq h10 e3 hkd hlr hkr hd hl hr2; omega
  · exact Int.toNat_add_nat hl k
  · exact Int.lt_of_le_of_lt (Int.ofNat_le.mpr h10) (by decide)
theorem halves_ne {l r : Int} {d : Nat} (hd : r - l = (d : Int)) (h1 : 1 ≤ d) (h : l + 1 ≠ r) : 1 ≤ d / 2 ∧ d / 2 < d ∧ 1 ≤ d - d / 2 ∧ d - d / 2 < d := by omega
theorem halves_one {l r : Int} {d : Nat} (hd : r - l = (d : Int)) (h : l + 1 = r) : d = 1 := by omega
theorem halves_len {l r : Int} {d k : Nat} (hd : r - l = (d : Int)) (h1 : 1 ≤ d) (hl : 0 ≤ l) (hr : r ≤ (k : Int)) : l.toNat + d / 2 ≤ k ∧ l.toNat + d / 2 + (d - d / 2) ≤ k ∧ l < (k : Int) ∧ l.toNat < k ∧ l.toNat + d ≤ k := by omega
theorem halves_n {n M l : Int} {d : Nat} (hn : 0 < n) (hn1 : n ≤ 16000) (gd : M - l = ((d / 2 : Nat) : Int)) (h20 : d ≤ 20) :
    ((M - l) * n).toNat = n.toNat * (d / 2) ∧ 0 ≤ (M - l) * n ∧ (M - l) * n ≤ 1000000 ∧ n.toNat * d ≤ 400000 ∧ 0 ≤ n := by
  have e : (M - l) * n = ((n.toNat * (d / 2) : Nat) : Int) := by
    rw [gd, Int.natCast_mul, Int.toNat_of_nonneg (Int.le_of_lt hn), Int.mul_comm]
  have h1 : n.toNat * (d / 2) ≤ 16000 * 10 := Nat.mul_le_mul (by omega) (by omega)
  have h2 : n.toNat * d ≤ 16000 * 20 := Nat.mul_le_mul (by omega) (by omega)
  rw [e]
  exact ⟨rfl, Int.natCast_nonneg _, by omega, by omega, by omega⟩
theorem halves_x {x : Int} {k n d : Nat} (hk : k = n * (d / 2)) (hdd : d / 2 + (d - d / 2) = d) (h0 : 0 ≤ x) (hx : x < 2 ^ (n * d)) :
    x / 2 ^ k < 2 ^ (n * (d - d / 2)) ∧ 0 ≤ x / 2 ^ k ∧ x % 2 ^ k < 2 ^ (n * (d / 2)) ∧ 0 ≤ x % 2 ^ k := by
  subst hk
  have hp : (0 : Int) < 2 ^ (n * (d / 2)) := Int.pow_pos (by decide)
  refine ⟨Int.ediv_lt_of_lt_mul hp ?_, Int.ediv_nonneg h0 (Int.le_of_lt hp), Int.emod_lt_of_pos _ hp, Int.emod_nonneg _ (Int.ne_of_gt hp)⟩
  rw [← Int.pow_add, ← Nat.mul_add, Nat.add_comm, hdd]
  exact hx
theorem room_half {p d e K : Nat} (h : p + (d + 1) < K) (he : e < d) : p + 1 + (e + 1) < K := by omega
theorem units_half {p d e K : Nat} (h : p + 8 * (d + 1) < K) (he : e < d) : p + 3 + 8 * (e + 1) < K := by omega
theorem room_len {p d K : Nat} (h : p + 30 < K) (he : d ≤ 20) : p + 1 + (d + 1) < K := by omega
theorem units_len {p d K : Nat} (h : p + 8 * 30 < K) (he : d ≤ 20) : p + 3 + 8 * (d + 1) < K := by omega
end Mine
end
section
set_option maxRecDepth 100000
set_option maxHeartbeats 8000000
namespace Mine
open_top hd for PySem.Challenge.rw_wo0032_02
end Mine
end
local macro_rules | `(tactic| walk_at $s:str) => `(tactic| k_extra $s)
local macro_rules | `(tactic| k_all) => `(tactic| k_extra "ALL!")
local macro_rules | `(tactic| k_mem) => `(tactic| k_extra "MEM!")
local macro_rules | `(tactic| bits_by_make) => `(tactic| k_extra "BITS!")
local macro_rules | `(tactic| k_ne) => `(tactic| k_extra "KNE!")
local macro_rules | `(tactic| l_bnd) => `(tactic| k_extra "LBND!")
local macro_rules | `(tactic| ktr_room) => `(tactic| k_extra "ROOM!")
local macro_rules | `(tactic| ktr_units) => `(tactic| k_extra "UNITS!")
local macro_rules | `(tactic| l_idx) => `(tactic| k_extra "IDX!")
section
set_option maxRecDepth 100000
namespace Mine
open Builtin.Int (intBits)

theorem fdiv_pow (a : Int) (k : Nat) : a.fdiv (2 ^ k) = a / 2 ^ k :=
  Int.fdiv_eq_ediv_of_nonneg a (Int.le_of_lt (Int.pow_pos (by decide)))
theorem pow2_pos (k : Nat) : (0 : Int) < 2 ^ k := Int.pow_pos (by decide)
theorem toNat_pow (k : Nat) : ((2 : Int) ^ k).toNat = 2 ^ k := by
  have h : ((2 : Int) ^ k) = ((2 ^ k : Nat) : Int) := by simp
  rw [h]; rfl
theorem bitAnd_mask (b : Int) (k : Nat) (hb : 0 ≤ b) : Builtin.bitAnd b (1 * 2 ^ k - 1) = b % 2 ^ k := by
  have hp := pow2_pos k
  rw [Int.one_mul, bitAnd_pp hb (by omega)]
  have e : ((2 : Int) ^ k - 1).toNat = 2 ^ k - 1 := by
    have h : ((2 : Int) ^ k) = ((2 ^ k : Nat) : Int) := by simp
    rw [h]; omega
  rw [e, Nat.and_two_pow_sub_one_eq_mod]
  have h : ((2 : Int) ^ k) = ((2 ^ k : Nat) : Int) := by simp
  rw [h, Int.natCast_emod, Int.toNat_of_nonneg hb]
theorem bitOr_pp {x y : Int} (hx : 0 ≤ x) (hy : 0 ≤ y) : Builtin.bitOr x y = ((x.toNat ||| y.toNat : Nat) : Int) := by
  unfold Builtin.bitOr Builtin.bitAnd Builtin.bitNot
  have h1 : ¬ (0 ≤ -x - 1) := by omega
  have h2 : ¬ (0 ≤ -y - 1) := by omega
  simp only [h1, h2, decide_false]
  have e1 : -(-x - 1) - 1 = x := by omega
  have e2 : -(-y - 1) - 1 = y := by omega
  rw [e1, e2]
  omega
theorem bitOr_add {r a : Int} {k : Nat} (hr : 0 ≤ r) (h0 : 0 ≤ a) (h1 : a < 2 ^ k) : Builtin.bitOr (r * 2 ^ k) a = r * 2 ^ k + a := by
  have hp := pow2_pos k
  have hrp : 0 ≤ r * 2 ^ k := Int.mul_nonneg hr (Int.le_of_lt hp)
  rw [bitOr_pp hrp h0]
  have e : (r * 2 ^ k).toNat = 2 ^ k * r.toNat := by
    rw [Int.toNat_mul hr (Int.le_of_lt hp), toNat_pow, Nat.mul_comm]
  have h2 : a.toNat < 2 ^ k := by
    have := toNat_pow k
    omega
  rw [e, ← Nat.two_pow_add_eq_or_of_lt h2, ← e]
  omega
section
variable {prog : Program} {w : World} {A : Around} {E : Value → Shared → Prop} {s : Shared} {a b n : Int} {t u : Tok} {Q : Value → Shared → Prop}
theorem r_shl (hn : 0 ≤ n) {m : Nat} (ha : intBits a ≤ m) (hm : n ≤ 1000000) (hmm : m ≤ 133000000) (h : Q (.int (a * 2 ^ n.toNat) s.toks) { s with toks := s.toks + 1 }) : wpAny (model prog w) A (binaryOp .LShift (.int a t) (.int n u)) Q E s :=
  lshift_int hn (kbm_shl ha hm hmm) h
theorem r_shr (hn : 0 ≤ n) (h : Q (.int (a / 2 ^ n.toNat) s.toks) { s with toks := s.toks + 1 }) : wpAny (model prog w) A (binaryOp .RShift (.int a t) (.int n u)) Q E s :=
  rshift_int hn (by rw [fdiv_pow]; exact h)
theorem r_or {k : Nat} {r : Int} (hr : 0 ≤ r) (h0 : 0 ≤ a) (h1 : a < 2 ^ k) (h : Q (.int (r * 2 ^ k + a) s.toks) { s with toks := s.toks + 1 }) : wpAny (model prog w) A (binaryOp .BitOr (.int (r * 2 ^ k) t) (.int a u)) Q E s :=
  or_int (by rw [bitOr_add hr h0 h1]; exact h)
theorem r_mask {k : Nat} (hb : 0 ≤ b) (h : Q (.int (b % 2 ^ k) s.toks) { s with toks := s.toks + 1 }) : wpAny (model prog w) A (binaryOp .BitAnd (.int b t) (.int (1 * 2 ^ k - 1) u)) Q E s :=
  and_int (by rw [bitAnd_mask b k hb]; exact h)
theorem r_and1 (h : Q (.int (b % 2) s.toks) { s with toks := s.toks + 1 }) : wpAny (model prog w) A (binaryOp .BitAnd (.int b t) (.int 1 u)) Q E s :=
  and_int (by rw [bitAnd_m1]; exact h)
theorem ishl (hn : 0 ≤ n) {m : Nat} (ha : intBits a ≤ m) (hm : n ≤ 1000000) (hmm : m ≤ 133000000) (h : Q (.int (a * 2 ^ n.toNat) s.toks) { s with toks := s.toks + 1 }) : wpAny (model prog w) A (inplaceOp .LShift (.int a t) (.int n u)) Q E s :=
  ilshift_int hn (kbm_shl ha hm hmm) h
theorem ishr (hn : 0 ≤ n) (h : Q (.int (a / 2 ^ n.toNat) s.toks) { s with toks := s.toks + 1 }) : wpAny (model prog w) A (inplaceOp .RShift (.int a t) (.int n u)) Q E s :=
  irshift_int hn (by rw [fdiv_pow]; exact h)
theorem r_divmod {h₀ : Heap} {L : Addr} {m : Str → Option Value} {news : List (Addr × Obj)} (F : Fr h₀ L s.heap m) (N : News h₀ L s.heap news) (hb : 0 < b) (hp : Builtin.divisionGoesByPylong a b = false)
    (h : ∀ D t1 t2 h' tk', Fr h₀ L h' m → News h₀ L h' ((D, { cls := .type "tuple", data := .seq #[.int (a / b) t1, .int (a % b) t2] }) :: news) → (∀ p ∈ news, p.1 < D) →
      Q (.ref D) { s with heap := h', toks := tk' }) :
    wpAny (model prog w) A (call (.builtin "divmod") [.int a t, .int b u]) Q E s := by
  refine divmod_N F N (by omega) (fun h' F' N' => ?_) (Or.inl hp)
  rw [Int.fdiv_eq_ediv_of_nonneg a (Int.le_of_lt hb), Int.fmod_eq_emod_of_nonneg a (Int.le_of_lt hb)] at N'
  exact h _ _ _ _ _ F' N' fun p hp => Heap.lt_size (N p hp).1
end
theorem noPy {x b : Int} (h : (intBits x : Int) - (intBits b : Int) ≤ 4000) : Builtin.divisionGoesByPylong x b = false := by
  unfold Builtin.Int.intBits at h
  show (decide ((if b == 0 then 0 else b.natAbs.log2 / 30 + 1) > 300) && decide ((if x == 0 then 0 else x.natAbs.log2 / 30 + 1) > (if b == 0 then 0 else b.natAbs.log2 / 30 + 1) + 150)) = false
  rw [Bool.and_eq_false_iff]
  by_cases hb : (b == 0) = true
  · left; simp [hb]
  · right
    rw [if_neg hb] at *
    by_cases hx : (x == 0) = true
    · simp [hx]
    · rw [if_neg hx] at *
      simp only [decide_eq_false_iff_not]
      omega
theorem bits_ediv2 {x : Int} {k m : Nat} (h : intBits x ≤ m) : intBits (x / 2 ^ k) ≤ m := by rw [← fdiv_pow]; exact bits_fdiv h
theorem emod_le_self {x y : Int} (hx : 0 ≤ x) (hy : 0 ≤ y) : x % y ≤ x := by
  have h := Int.emod_add_mul_ediv x y
  have h2 : 0 ≤ y * (x / y) := Int.mul_nonneg hy (Int.ediv_nonneg hx hy)
  omega
theorem bits_emod2 {x : Int} {k m : Nat} (hx : 0 ≤ x) (h : intBits x ≤ m) : intBits (x % 2 ^ k) ≤ m := by
  have hp := pow2_pos k
  refine bits_of_natAbs_le (b := x) ?_ h
  have h1 := Int.emod_nonneg x (show (2 : Int) ^ k ≠ 0 by omega)
  have h2 : x % 2 ^ k ≤ x := emod_le_self hx (Int.le_of_lt hp)
  omega
theorem allNe {d : Addr} {l : List (Addr × Obj)} (h : AllLt d l) : ∀ p ∈ l, p.1 ≠ d := fun p hp => Nat.ne_of_lt (ktn_ltOf h p hp)
end Mine
end
section
namespace Mine
open Builtin.Int (intBits)
section
variable {a12 a3 b b1 b2 P q r A : Int}
end
theorem bits_le_of_lt {x : Int} {k : Nat} (h0 : 0 ≤ x) (h : x < 2 ^ k) : intBits x ≤ k := by
  refine intBits_le ?_
  have := toNat_pow k
  omega
theorem lt_of_bits {x : Int} {k : Nat} (h : intBits x ≤ k) : x < 2 ^ k := by
  have h1 := lt_pow_of_bits h (Nat.le_refl k)
  have h2 := toNat_pow k
  have := pow2_pos k
  omega
end Mine
end
section
namespace Mine
def W2Post (h₀ : Heap) (L : Addr) (s : Shared) (m₀ : Str → Option Value) (news : List (Addr × Obj)) (xn yn : Str) (I : Int → Int → Prop) (μ : Int → Int → Nat) (x y : Int) (f : Flow) (s₃ : Shared) : Prop :=
  f = .next ∧ ∃ h' tk m' x' y' tx ty, s₃ = { s with heap := h', toks := tk } ∧ Fr h₀ L h' m' ∧ News h₀ L h' news ∧ m' xn = some (.int x' tx) ∧ m' yn = some (.int y' ty) ∧ (∀ z, z ≠ xn → z ≠ yn → m' z = m₀ z) ∧ I x' y' ∧ μ x' y' < μ x y
section
variable {prog : Program} {w : World} {A : Around} {E : Value → Shared → Prop} {Q : Flow → Shared → Prop} {s : Shared} {env : Env} {h₀ : Heap} {L : Addr}
theorem W2Post.intro {s : Shared} {m₀ m' : Str → Option Value} {news : List (Addr × Obj)} {xn yn : Str} {I : Int → Int → Prop} {μ : Int → Int → Nat} {x y x' y' : Int} {tx ty : Tok} {h' : Heap} {tk : Nat}
    (F : Fr h₀ L h' m') (N : News h₀ L h' news) (hx : m' xn = some (.int x' tx)) (hy : m' yn = some (.int y' ty)) (hz : ∀ z, z ≠ xn → z ≠ yn → m' z = m₀ z) (hI : I x' y') (hμ : μ x' y' < μ x y) :
    W2Post h₀ L s m₀ news xn yn I μ x y .next { s with heap := h', toks := tk } := ⟨rfl, h', tk, m', x', y', tx, ty, rfl, F, N, hx, hy, hz, hI, hμ⟩
end
end Mine
namespace Mine
section
variable {h₀ h : Heap} {L : Addr} {x y z u : Addr × Obj} {l : List (Addr × Obj)}
theorem nd1 (N : News h₀ L h (x :: y :: l)) : News h₀ L h (x :: l) := cb_drop N fun p hp => by
  rcases List.mem_cons.mp hp with rfl | hp <;> simp [*]
theorem nd2 (N : News h₀ L h (x :: y :: z :: l)) : News h₀ L h (x :: l) := nd1 (nd1 N)
theorem nd3 (N : News h₀ L h (x :: y :: z :: u :: l)) : News h₀ L h (x :: l) := nd1 (nd2 N)
end
end Mine
namespace Mine
section
variable {prog : Program} {w : World} {A : Around} {E : Value → Shared → Prop} {s : Shared} {h₀ : Heap} {L : Addr} {m : Str → Option Value} {news : List (Addr × Obj)}
theorem flat1 {α : Type} (v : α) : ∀ k : Nat, (List.replicate k [v]).flatten = List.replicate k v
  | 0 => rfl
  | k + 1 => by rw [List.replicate_succ, List.flatten_cons, flat1 v k, List.replicate_succ]; rfl
theorem r_rep0 {l : Addr} {v : Value} {c : Nat} {x : Int} {u : Tok} {Q : Value → Shared → Prop}
    (F : Fr h₀ L s.heap m) (N : News h₀ L s.heap news) (hm : (l, listOf #[v] c) ∈ news) (h0 : 0 ≤ x) (hk : x ≤ 1000000)
    (h : ∀ D h', Fr h₀ L h' m → News h₀ L h' ((D, listOf (List.replicate x.toNat v).toArray 0) :: news) → (∀ p ∈ news, p.1 < D) → Q (.ref D) { s with heap := h' }) :
    wpAny (model prog w) A (binaryOp .Mult (.ref l) (.int x u)) Q E s := by
  refine PyProof.Rows.mul_list F N (N _ hm).1 (by omega) (by omega) (by simp; omega) (fun h' F' N' => ?_)
  have e : (List.foldl (fun x1 x2 => x1 ++ x2) #[] (List.replicate (if (#[v] : Array Value).isEmpty = true then 0 else x.toNat) #[v])) = (List.replicate x.toNat v).toArray := by
    have := listMul_foldl_if #[v] x.toNat
    rw [show (#[v] : Array Value).toList = [v] from rfl, flat1] at this
    exact this
  rw [e] at N'
  exact h _ h' F' N' fun p hp => Heap.lt_size (N p hp).1
end
end Mine
namespace Mine
theorem allNeLt {d e : Addr} {l : List (Addr × Obj)} (h : AllLt d l) (hde : @LE.le Nat _ d e) : ∀ p ∈ l, p.1 ≠ e := fun p hp => Nat.ne_of_lt (Nat.lt_of_lt_of_le (ktn_ltOf h p hp) hde)
end Mine
end
section
namespace Mine
open Builtin.Int (intBits)
structure Setup (k : Nat) (X B N H : Int) : Prop where
  B0 : 0 < B
  X0 : 0 ≤ X
  NB : N = (intBits B : Int)
  NH : N = 2 * H
  lt : X < B * 2 ^ N.toNat
  Hk : H ≤ 4000 * 2 ^ k
  H16 : H ≤ 16000
  H0 : 0 < H
theorem bits_eq {x : Int} {k : Nat} (h1 : 2 ^ k ≤ x) (h2 : x < 2 ^ (k + 1)) : intBits x = k + 1 := by
  have hp := pow2_pos k
  have ha : intBits x ≤ k + 1 := bits_le_of_lt (by omega) h2
  have hb : ¬ intBits x ≤ k := fun h => by have := lt_of_bits h; omega
  omega
theorem bits_pos {x : Int} (hx : 0 < x) : 0 < intBits x := by
  unfold Builtin.Int.intBits
  have h0 : (x == 0) = false := by simp; omega
  rw [h0]; simp
section
variable {k : Nat} {X B N H : Int}
theorem mod_b (X : Int) (j : Nat) : 0 ≤ X % 2 ^ j ∧ X % 2 ^ j < 2 ^ j :=
  ⟨Int.emod_nonneg _ (by have := pow2_pos j; omega), Int.emod_lt_of_pos _ (pow2_pos _)⟩
end
end Mine
namespace Mine
open Builtin.Int (intBits)
theorem bits_quot {x b : Int} {m : Nat} (hx : 0 ≤ x) (hb : 0 ≤ b) (h : intBits x ≤ m) : intBits (x / b) ≤ m := by
  have h1 : x / b ≤ x := Int.ediv_le_self b hx
  have h2 : 0 ≤ x / b := Int.ediv_nonneg hx hb
  exact bits_of_natAbs_le (by omega) h
theorem bits_rem {x b : Int} {m : Nat} (hx : 0 ≤ x) (hb : 0 < b) (h : intBits x ≤ m) : intBits (x % b) ≤ m := by
  have h1 : x % b ≤ x := emod_le_self hx (Int.le_of_lt hb)
  have h2 : 0 ≤ x % b := Int.emod_nonneg _ (by omega)
  exact bits_of_natAbs_le (by omega) h
end Mine
end
section
set_option maxRecDepth 100000
namespace Mine
open Builtin.Int (intBits)
def Div2OK (w : World) (k : Nat) : Prop := ∀ {loose : List Str} {mean : ExcName → Option Value} {mg mb : Str → Option Value} {dp un : Nat} {gd : Option (List Code)} {cn : Str} {cs : Scope} {a : Addr} {ccd : Value} {cl : List (Str × Addr)} {outer : List Env} {A₀ : Around} {base h₀ : Heap} {L : Addr} {m : Str → Option Value} {news : List (Addr × Obj)} {s : Shared} {Q E : Value → Shared → Prop} {x b n : Int} {t t1 t2 : Tok} (_B : Below A₀ base outer h₀) (_F : Fr h₀ L s.heap m) (_X : (hd.heap_39 w.params).In h₀) (_N : News h₀ L s.heap news) (_T : Top topProg loose mean mg mb h₀) (_hk : cs.kind = .function)
    (_hd : dp + (2 * k + 1) < recursionLimit) (_hu : un + 8 * (2 * k + 1) < cLine) (_hb : 0 < b) (_hx : 0 ≤ x) (_hn : n = (intBits b : Int)) (_hlt : x < b * 2 ^ n.toNat) (_hk4 : n ≤ 4000 * 2 ^ k) (_hn1 : n ≤ 16000)
    (_hret : ∀ D (q r : Int) t1 t2 h' tk', q = x / b → r = x % b → 0 ≤ q → 0 ≤ r → Builtin.Int.intBits q ≤ 100000 → Builtin.Int.intBits r ≤ 100000 → Fr h₀ L h' m → News h₀ L h' ((D, { cls := .type "tuple", data := .seq #[.int q t1, .int r t2] }) :: news) → AllLt D news → Q (.ref D) { s with heap := h', toks := tk' }),
    wpAny (model PySem.Challenge.rw_wo0032_02.row.prog w) (ktrTop dp un gd cn cs L a ccd cl outer) (call (.ref 21) [.int x t, .int b t1, .int n t2]) Q E s


def EvenCase (P : Prop) : Prop := P
set_option maxHeartbeats 4000000 in
theorem c_div2_zero {w : World} : Div2OK w 0 := by
  w_top off
  k_with_none
  k_with "LT1!" => (first | with_reducible assumption | with_reducible exact Nat.lt_succ_self _ | with_reducible exact And.left (by assumption) | with_reducible exact And.left (And.right (by assumption)) | with_reducible exact And.left (And.right (And.right (by assumption))) | with_reducible exact And.left (And.right (And.right (And.right (by assumption)))) | with_reducible exact And.left (And.right (And.right (And.right (And.right (by assumption))))) | with_reducible exact And.left (And.right (And.right (And.right (And.right (And.right (by assumption)))))) | with_reducible exact And.right (by assumption) | with_reducible exact And.right (And.right (by assumption)) | with_reducible exact And.right (And.right (And.right (by assumption))) | with_reducible exact And.right (And.right (And.right (And.right (by assumption)))))
  k_with "LT!" => (first | k_extra "LT1!" | ((with_reducible refine (Nat.lt_succ_of_lt ?_ : @LT.lt Nat _ _ (_ + 1))); first | k_extra "LT1!" | ((with_reducible refine (Nat.lt_succ_of_lt ?_ : @LT.lt Nat _ _ (_ + 1))); first | k_extra "LT1!" | ((with_reducible refine (Nat.lt_succ_of_lt ?_ : @LT.lt Nat _ _ (_ + 1))); k_extra "LT1!"))))
  k_with "NE!" => (first | with_reducible assumption | with_reducible exact Ne.symm (by assumption) | decide | ((fail_if_success (fail_if_success omega)); first | ((with_reducible refine Nat.ne_of_gt ?_); (fail_if_success (fail_if_success omega)); k_extra "LT!") | ((with_reducible refine Nat.ne_of_lt ?_); (fail_if_success (fail_if_success omega)); k_extra "LT!") | with_reducible exact And.left (by assumption) | with_reducible exact And.left (And.right (by assumption)) | with_reducible exact And.left (And.right (And.right (by assumption))) | omega))
  k_with "KNE!" => ((refine neN ?_; (try dsimp only); k_extra "NE!"))
  k_with "LBND!" => (first | assumption | decide | with_reducible exact Int.lt_of_lt_of_le (by assumption) (by decide) | with_reducible exact Int.lt_of_le_of_lt (by assumption) (by decide) | with_reducible exact Int.le_trans (by assumption) (by decide) | with_reducible exact Int.lt_of_lt_of_le (by decide) (by assumption) | with_reducible exact Int.le_trans (by decide) (by assumption) | with_reducible exact Int.natCast_nonneg _ | with_reducible exact Int.ne_of_gt (by assumption) | with_reducible exact Int.le_of_lt (by assumption) | with_reducible exact Nat.lt_of_lt_of_le (by assumption) (by decide) | with_reducible exact Nat.lt_of_le_of_lt (by assumption) (by decide) | with_reducible exact Nat.le_trans (by assumption) (by decide) | k_dflt omega | l_fact)
  k_with "ROOM!" => (((try simp only [depth_under_make, depth_under_kw, depth_in1, depth_deeper, depth_caller]); (try dsimp only [ktrTop]); first | with_reducible assumption | exact room_0 (by with_reducible assumption) | exact room_le (by with_reducible assumption) (by decide) | exact room_12 (by with_reducible assumption) (by decide)))
  k_with "UNITS!" => (((try simp only [units_in1, units_deeper, Around.mark_units, units_caller]); (try dsimp only [ktrTop]); first | with_reducible assumption | exact room_0 (by with_reducible assumption) | exact room_le (by with_reducible assumption) (by decide) | exact room_12 (by with_reducible assumption) (by decide) | exact room_123 (by with_reducible assumption) (by decide)))
  k_with "BITS!" => (first | (with_reducible assumption) | ((with_reducible apply bits_ediv2); bits_by_make) | ((with_reducible refine bits_emod2 ?_ ?_); (focus l_bnd); bits_by_make))
  k_with "binaryOp LShift int int" => ((k_here; (with_reducible refine' r_shl (by l_bnd) (by bits_by_make) (by l_bnd) (by decide) ?_)))
  k_with "inplaceOp LShift int int" => ((k_here; (with_reducible refine' ishl (by l_bnd) (by bits_by_make) (by l_bnd) (by decide) ?_)))
  k_with "binaryOp RShift int int" => ((k_here; (with_reducible refine r_shr (by l_bnd) ?_)))
  k_with "inplaceOp RShift int int" => ((k_here; (with_reducible refine ishr (by l_bnd) ?_)))
  k_with "binaryOp BitOr int int" => ((k_here; (with_reducible refine r_or (by l_bnd) (by l_bnd) (by l_bnd) ?_)))
  k_with "binaryOp BitAnd int int" => ((k_here; first | (with_reducible refine r_and1 ?_) | ((with_reducible refine r_mask (by l_bnd) ?_))))
  k_with "call builtin:divmod" => ((k_here; (with_reducible show wpAny _ _ (call (Value.builtin _) [Value.int _ _, Value.int _ _]) _ _ _); (refine' r_divmod (by assumption) (by assumption) (by l_bnd) (by first | assumption | exact noPy (by omega)) ?_); intro D' t1' t2' h' tk' F' N' l1; (try k_lt l1)))
  k_with "ALL!" => (exact allNe (by assumption))
  k_with "call ref" => ((k_here; (with_reducible show wpAny _ _ (call (Value.ref 28) _) _ _ _); k_extra "call div3"))
  unfold Div2OK
  k_fill
  intro loose mean mg mb dp un gd cn cs a ccd cl outer A₀ base h₀ L m news s Q E x b n t t1 t2 B F X N T hk hd hu hb hx hn hlt hk4 hn1 hret
  have hx2 : intBits x ≤ n.toNat + n.toNat := by
    refine bits_le_of_lt hx ?_
    have h1 := lt_of_bits (Nat.le_refl (intBits b))
    have e : n.toNat = intBits b := by omega
    have h5 : b * 2 ^ n.toNat ≤ 2 ^ n.toNat * 2 ^ n.toNat := Int.mul_le_mul_of_nonneg_right (by rw [e]; omega) (Int.le_of_lt (pow2_pos _))
    rw [Int.pow_add]; omega
  have hk5 : n ≤ 4000 := by simpa using hk4
  have hp : Builtin.divisionGoesByPylong x b = false := noPy (by omega)
  have h1 : (intBits x : Int) - n ≤ 4000 := by omega
  refine wpAny_call ?_
  k_dflt ktr_enter
  k_steps
  have q0 : 0 ≤ x / b := Int.ediv_nonneg hx (Int.le_of_lt hb)
  have r0 : 0 ≤ x % b := Int.emod_nonneg _ (by omega)
  have s0 : intBits x ≤ 100000 := by omega
  exact hret _ _ _ _ _ _ _ rfl rfl q0 r0 (bits_quot hx (Int.le_of_lt hb) s0) (bits_rem hx hb s0) (by assumption) (by first | assumption | exact nd1 (by assumption)) (by first | assumption | exact allLt_of (by assumption) | exact And.right (by assumption))
end Mine
end
section
namespace Mine
open Builtin.Int (intBits)
def digs (n : Nat) (x : Int) (d : Nat) : List Int := (List.range d).map fun i => x / 2 ^ (n * i) % 2 ^ n
def putDigs (ns : List Int) (l d n : Nat) (x : Int) : List Int := ns.take l ++ digs n x d ++ ns.drop (l + d)
theorem digs_len (n : Nat) (x : Int) (d : Nat) : (digs n x d).length = d := by simp [digs]
theorem putDigs_len {ns : List Int} {l d n : Nat} {x : Int} (h : l + d ≤ ns.length) : (putDigs ns l d n x).length = ns.length := by
  simp only [putDigs, List.length_append, List.length_take, List.length_drop, digs_len]; omega
theorem digs_one {n : Nat} {x : Int} (h0 : 0 ≤ x) (h1 : x < 2 ^ n) : digs n x 1 = [x] := by
  simp [digs, List.range_succ]
  exact Int.emod_eq_of_lt h0 h1
theorem putDigs_one {ns : List Int} {l n : Nat} {x : Int} (hl : l < ns.length) (h0 : 0 ≤ x) (h1 : x < 2 ^ n) : ns.set l x = putDigs ns l 1 n x := by
  rw [putDigs, digs_one h0 h1, List.set_eq_take_append_cons_drop, if_pos hl]
  simp
theorem mod_div_pow (x : Int) (a b : Nat) : x % 2 ^ (a + b) / 2 ^ a = x / 2 ^ a % 2 ^ b := by
  have hp := pow2_pos a
  have hq := pow2_pos b
  rw [Int.pow_add]
  have h := Int.emod_add_mul_ediv x (2 ^ a * 2 ^ b)
  have h3 := Int.emod_add_mul_ediv (x / 2 ^ a) (2 ^ b)
  rw [Int.ediv_ediv_of_nonneg (Int.le_of_lt hp)] at h3
  have h4 : x = x % (2 ^ a * 2 ^ b) + 2 ^ a * (2 ^ b * (x / (2 ^ a * 2 ^ b))) := by rw [← Int.mul_assoc]; omega
  have h5 : x / 2 ^ a = x % (2 ^ a * 2 ^ b) / 2 ^ a + 2 ^ b * (x / (2 ^ a * 2 ^ b)) := by
    conv => lhs; rw [h4]
    rw [Int.add_mul_ediv_left _ _ (by omega)]
  omega
theorem mod_mod_pow (x : Int) (a b : Nat) : x % 2 ^ (a + b) % 2 ^ a = x % 2 ^ a := by
  rw [Int.pow_add]
  exact Int.emod_emod_of_dvd _ ⟨_, rfl⟩
theorem digs_split (n : Nat) (x : Int) (d1 d2 : Nat) : digs n x (d1 + d2) = digs n (x % 2 ^ (n * d1)) d1 ++ digs n (x / 2 ^ (n * d1)) d2 := by
  unfold digs
  rw [List.range_add, List.map_append, List.map_map]
  congr 1
  · refine List.map_congr_left fun i hi => ?_
    have hi' : i < d1 := List.mem_range.mp hi
    have e : n * d1 = n * i + n * (d1 - i) := by rw [← Nat.mul_add]; congr 1; omega
    have e2 : n * (d1 - i) = n + n * (d1 - i - 1) := by
      obtain ⟨k, hk⟩ : ∃ k, d1 - i = k + 1 := ⟨d1 - i - 1, by omega⟩
      rw [hk, Nat.mul_succ, Nat.add_sub_cancel]; omega
    rw [e, mod_div_pow, e2, mod_mod_pow]
  · refine List.map_congr_left fun i hi => ?_
    show x / 2 ^ (n * (d1 + i)) % 2 ^ n = x / 2 ^ (n * d1) / 2 ^ (n * i) % 2 ^ n
    rw [Int.ediv_ediv_of_nonneg (Int.le_of_lt (pow2_pos _)), ← Int.pow_add, Nat.mul_add]
theorem putDigs_two {ns : List Int} {l d1 d2 n : Nat} {x : Int} (h : l + d1 + d2 ≤ ns.length) :
    putDigs (putDigs ns l d1 n (x % 2 ^ (n * d1))) (l + d1) d2 n (x / 2 ^ (n * d1)) = putDigs ns l (d1 + d2) n x := by
  have e1 : (ns.take l ++ digs n (x % 2 ^ (n * d1)) d1).length = l + d1 := by
    simp only [List.length_append, List.length_take, digs_len]; omega
  unfold putDigs
  rw [List.take_append_of_le_length (Nat.le_of_eq e1.symm), List.take_of_length_le (Nat.le_of_eq e1), digs_split]
  rw [show l + d1 + d2 = (ns.take l ++ digs n (x % 2 ^ (n * d1)) d1).length + d2 by rw [e1], List.drop_append, List.drop_drop, e1]
  rw [List.drop_eq_nil_of_le (as := ns.take l ++ digs n (x % 2 ^ (n * d1)) d1) (by rw [e1]; omega), List.nil_append, show l + d1 + (l + d1 + d2 - (l + d1)) = l + (d1 + d2) by omega]
  simp only [List.append_assoc]
theorem bitXor_low {x : Int} {k : Nat} (hx : 0 ≤ x) : Builtin.bitXor x (x / 2 ^ k * 2 ^ k) = x % 2 ^ k := by
  have hp := pow2_pos k
  have hq : 0 ≤ x / 2 ^ k := Int.ediv_nonneg hx (Int.le_of_lt hp)
  have hy : 0 ≤ x / 2 ^ k * 2 ^ k := Int.mul_nonneg hq (Int.le_of_lt hp)
  rw [bitXor_and, bitAnd_pp hx hy]
  have e0 := Int.emod_add_mul_ediv x (2 ^ k)
  have e1 : (x / 2 ^ k * 2 ^ k).toNat = 2 ^ k * (x.toNat / 2 ^ k) := by
    have h1 : (x.toNat / 2 ^ k : Nat) = (x / 2 ^ k).toNat := by
      have : ((x.toNat / 2 ^ k : Nat) : Int) = x / 2 ^ k := by
        rw [Int.natCast_ediv, Int.toNat_of_nonneg hx]; simp
      omega
    rw [Int.toNat_mul hq (Int.le_of_lt hp), toNat_pow, h1, Nat.mul_comm]
  have e2 : x.toNat &&& 2 ^ k * (x.toNat / 2 ^ k) = 2 ^ k * (x.toNat / 2 ^ k) := by
    apply Nat.eq_of_testBit_eq
    intro i
    rw [Nat.testBit_and, Nat.testBit_two_pow_mul, Nat.testBit_div_two_pow]
    by_cases h : k ≤ i
    · simp [h]
    · simp [h]
  rw [e1, e2, ← e1, Int.toNat_of_nonneg hy, Int.mul_comm (x / 2 ^ k)]
  omega
section
variable {prog : Program} {w : World} {A : Around} {E : Value → Shared → Prop} {s : Shared} {a b n : Int} {t u : Tok} {Q : Value → Shared → Prop}
theorem r_xorlow {x : Int} {k : Nat} (hx : 0 ≤ x) (h : Q (.int (x % 2 ^ k) s.toks) { s with toks := s.toks + 1 }) : wpAny (model prog w) A (binaryOp .BitXor (.int x t) (.int (x / 2 ^ k * 2 ^ k) u)) Q E s :=
  xor_int (by rw [bitXor_low hx]; exact h)
theorem r_len {h₀ : Heap} {L D : Addr} {news : List (Addr × Obj)} {vs : List Value} {c k : Nat} (N : News h₀ L s.heap news) (hm : (D, listOf vs.toArray c) ∈ news) (hl : vs.length = k) (hk : k ≤ 1000000000)
    (h : ∀ t tk, Q (.int (k : Int) t) { s with toks := tk }) : wpAny (model prog w) A (call (.builtin "len") [.ref D]) Q E s :=
  KM.len_K N hm (n := k) (by simpa using hl) (by omega) (h _ _)
end
def pick {α : Type} : List Bool → List α → List α
  | true :: m, a :: l => a :: pick m l
  | false :: m, _ :: l => pick m l
  | [], l => l
  | _ :: _, [] => []
theorem pick_sub {α : Type} : ∀ (m : List Bool) (l : List α), ∀ p ∈ pick m l, p ∈ l
  | true :: m, a :: l, p, hp => by
    rcases List.mem_cons.mp hp with rfl | hp
    · exact .head _
    · exact .tail _ (pick_sub m l p hp)
  | false :: m, _ :: l, p, hp => .tail _ (pick_sub m l p hp)
  | [], _, _, hp => hp
  | true :: _, [], _, hp => nomatch hp
  | false :: _, [], _, hp => nomatch hp
theorem pick_news {h₀ h : Heap} {L D : Addr} {o : Obj} {l : List (Addr × Obj)} (m : List Bool) (N : News h₀ L h l) (hm : (D, o) ∈ l) : News h₀ L h ((D, o) :: pick m l) := fun p hp => by
  rcases List.mem_cons.mp hp with rfl | hp
  · exact N _ hm
  · exact N p (pick_sub m l p hp)
end Mine
namespace Mine
theorem ints_rep0 (k : Nat) (t : Tok) : IntsAre (List.replicate k (Value.int 0 t)) (List.replicate k 0) := by
  induction k with
  | zero => exact .nil
  | succ k ih => rw [List.replicate_succ, List.replicate_succ]; exact .cons _ _ ih
end Mine
namespace Mine
section
variable {h₀ h : Heap} {L : Addr} {x1 x2 x3 x4 x5 x6 x7 x8 : Addr × Obj} {l : List (Addr × Obj)}
theorem nsA (N : News h₀ L h (x1 :: x2 :: x3 :: x4 :: x5 :: x6 :: x7 :: x8 :: l)) : News h₀ L h (x1 :: x8 :: x3 :: l) := cb_drop N fun p hp => by
  simp only [List.mem_cons] at hp ⊢; rcases hp with h | h | h | h <;> simp [h]
theorem nsB (N : News h₀ L h (x1 :: x2 :: x3 :: x4 :: x5 :: x6 :: x7 :: x8 :: l)) : News h₀ L h (x3 :: x8 :: x2 :: l) := cb_drop N fun p hp => by
  simp only [List.mem_cons] at hp ⊢; rcases hp with h | h | h | h <;> simp [h]
theorem nsC (N : News h₀ L h (x1 :: x2 :: x3 :: x4 :: x5 :: x6 :: x7 :: x8 :: l)) : News h₀ L h (x1 :: x7 :: x8 :: l) := cb_drop N fun p hp => by
  simp only [List.mem_cons] at hp ⊢; rcases hp with h | h | h | h <;> simp [h]
theorem nsD (N : News h₀ L h (x1 :: x2 :: x3 :: x4 :: x5 :: x6 :: x7 :: x8 :: l)) : News h₀ L h (x2 :: x7 :: x8 :: l) := cb_drop N fun p hp => by
  simp only [List.mem_cons] at hp ⊢; rcases hp with h | h | h | h <;> simp [h]
end
def Tab (P : Addr) (ln cl : Int) (q : Str) (lo : Nat) (ts : List (Addr × Obj)) : Prop :=
  ts = [(P, tabObj #[])] ∨ ∃ c oc vs t, ts = [(P, tabObj #[rawInt ln, rawInt cl, .ref c]), (c, oc)] ∧ oc.data = .fields vs ∧ vs[1]? = some (.str q t) ∧ @LT.lt Nat _ lo c
theorem Tab.fresh {P : Addr} {ln cl : Int} {q : Str} {lo : Nat} : Tab P ln cl q lo [(P, tabObj #[])] := .inl rfl
theorem Tab.made {P c : Addr} {ln cl : Int} {q : Str} {lo : Nat} {oc : Obj} {vs : Array Value} {t : Tok} (h1 : oc.data = .fields vs) (h2 : vs[1]? = some (.str q t)) (h3 : @LT.lt Nat _ lo c) : Tab P ln cl q lo [(P, tabObj #[rawInt ln, rawInt cl, .ref c]), (c, oc)] := .inr ⟨c, oc, vs, t, rfl, h1, h2, h3⟩
theorem Tab.ne {P R : Addr} {ln cl : Int} {q : Str} {lo : Nat} {ts : List (Addr × Obj)} (h : Tab P ln cl q lo ts) (h1 : P ≠ R) (h2 : @LE.le Nat _ R lo) : ∀ p ∈ ts, p.1 ≠ R := by
  rcases h with rfl | ⟨c, oc, vs, t, rfl, _, _, hc⟩
  · intro p hp; rw [List.mem_singleton.mp hp]; exact h1
  · intro p hp
    rcases List.mem_cons.mp hp with rfl | hp
    · exact h1
    · rw [List.mem_singleton.mp hp]; exact Nat.ne_of_gt (Nat.lt_of_le_of_lt h2 hc)
theorem Tab.mem {P : Addr} {ln cl : Int} {q : Str} {lo : Nat} {ts : List (Addr × Obj)} (h : Tab P ln cl q lo ts) : ∃ o, (P, o) ∈ ts := by
  rcases h with rfl | ⟨c, oc, vs, t, rfl, _⟩
  · exact ⟨_, .head _⟩
  · exact ⟨_, .head _⟩
theorem neApp {R : Addr} {a b : List (Addr × Obj)} (h1 : ∀ p ∈ a, p.1 ≠ R) (h2 : ∀ p ∈ b, p.1 ≠ R) : ∀ p ∈ a ++ b, p.1 ≠ R := fun p hp => (List.mem_append.mp hp).elim (h1 p) (h2 p)
end Mine
end
section
set_option maxRecDepth 100000
namespace Mine
open Builtin.Int (intBits)
def InnOK (w : World) (f c' D cN cA cI : Addr) (qual : Str) (params : Arguments) (body : List Stmt) (scope : Scope) (clos : List (Str × Addr)) (doc pm ctv : Value) (oc : Obj) (vs0 : Array Value) (tq : Tok) (oN : Obj) (tn : Tok) (oA oI : Obj) (n : Int) (len : Nat) (base : Heap) (d : Nat) : Prop := ∀ {loose : List Str} {mean : ExcName → Option Value} {mg mb : Str → Option Value} {dp un : Nat} {gd : Option (List Code)} {cn : Str} {cs : Scope} {a : Addr} {ccd : Value} {cl : List (Str × Addr)} {outer : List Env} {A₀ : Around} {h₀ : Heap} {L : Addr} {m : Str → Option Value} {rest : List (Addr × Obj)} {s : Shared} {Q E : Value → Shared → Prop} {x l r : Int} {t1 t2 t3 : Tok} {vs : List Value} {ns : List Int} {nn : Nat} (_B : Below A₀ base outer h₀) (_F : Fr h₀ L s.heap m) (_X : (hd.heap_39 w.params).In h₀) (_N : News h₀ L s.heap ((D, listOf vs.toArray nn) :: rest)) (_T : Top topProg loose mean mg mb h₀) (_hk : cs.kind = .function)
    (_C : CodeHd base 34 30) (_hD : ∀ p ∈ rest, p.1 ≠ D) (_mf : (f, fnMade (Str.ofString "inner") qual params body scope clos doc pm c' ctv) ∈ rest) (_mc : (c', oc) ∈ rest) (_ec : oc.data = .fields vs0) (_ev : vs0[1]? = some (.str qual tq))
    (_mN : (cN, oN) ∈ rest) (_eN : oN.data = .cell (some (.int n tn))) (_mA : (cA, oA) ∈ rest) (_eA : oA.data = .cell (some (.ref D))) (_mI : (cI, oI) ∈ rest) (_eI : oI.data = .cell (some (.ref f)))
    (_hd : r - l = (d : Int)) (_h1 : 1 ≤ d) (_hl : 0 ≤ l) (_hr : r ≤ (len : Int)) (_h0 : 0 ≤ x) (_hx : x < 2 ^ (n.toNat * d)) (_hi : IntsAre vs ns) (_hn : ns.length = len) (_hdp : dp + (d + 1) < recursionLimit) (_hu : un + 8 * (d + 1) < cLine)
    (_hret : ∀ vs' h' tk', IntsAre vs' (putDigs ns l.toNat d n.toNat x) → Fr h₀ L h' m → News h₀ L h' ((D, listOf vs'.toArray nn) :: rest) → Q .none { s with heap := h', toks := tk' }),
    wpAny (model PySem.Challenge.rw_wo0032_02.row.prog w) (ktrTop dp un gd cn cs L a ccd cl outer) (call (.ref f) [.int x t1, .int l t2, .int r t3]) Q E s
theorem inn_all {w : World} {f c' D cN cA cI : Addr} {qual : Str} {params : Arguments} {body : List Stmt} {scope : Scope} {clos : List (Str × Addr)} {doc pm ctv : Value} {oc : Obj} {vs0 : Array Value} {tq : Tok} {oN : Obj} {tn : Tok} {oA oI : Obj} {n : Int} {len : Nat} {base : Heap}
    (step : ∀ d, (∀ d', d' < d → InnOK w f c' D cN cA cI qual params body scope clos doc pm ctv oc vs0 tq oN tn oA oI n len base d') → InnOK w f c' D cN cA cI qual params body scope clos doc pm ctv oc vs0 tq oN tn oA oI n len base d) (d : Nat) : InnOK w f c' D cN cA cI qual params body scope clos doc pm ctv oc vs0 tq oN tn oA oI n len base d := by
  induction d using Nat.strongRecOn with
  | ind d ih => exact step d ih
theorem inn_use {w : World} {f c' D cN cA cI : Addr} {qual : Str} {params : Arguments} {body : List Stmt} {scope : Scope} {clos : List (Str × Addr)} {doc pm ctv : Value} {oc : Obj} {vs0 : Array Value} {tq : Tok} {oN : Obj} {tn : Tok} {oA oI : Obj} {n : Int} {len : Nat}
    {loose : List Str} {mean : ExcName → Option Value} {mg mb : Str → Option Value} {dp un : Nat} {gd : Option (List Code)} {cn : Str} {cs : Scope} {a : Addr} {ccd : Value} {cl : List (Str × Addr)} {outer : List Env} {A₀ : Around} {base h₀ : Heap} {L : Addr} {m : Str → Option Value} {news : List (Addr × Obj)} {s : Shared} {Q E : Value → Shared → Prop} {lst : List (Addr × Obj)} {x : Int} {t1 t2 t3 : Tok} {vs : List Value} {ns : List Int} {nn : Nat} (B : Below A₀ base outer h₀) (F : Fr h₀ L s.heap m) (X : (hd.heap_39 w.params).In h₀) (N : News h₀ L s.heap lst) (T : Top topProg loose mean mg mb h₀) (hk : cs.kind = .function)
    (C : CodeHd base 34 30) (mD : (D, listOf vs.toArray nn) ∈ lst) (msk : List Bool) (hpk : pick msk lst = news) (hDn : ∀ p ∈ news, p.1 ≠ D) (mf : (f, fnMade (Str.ofString "inner") qual params body scope clos doc pm c' ctv) ∈ news) (mc : (c', oc) ∈ news) (ec : oc.data = .fields vs0) (ev : vs0[1]? = some (.str qual tq))
    (cn1 : clos.lookup (Str.ofString "n") = some cN) (mN : (cN, oN) ∈ news) (eN : oN.data = .cell (some (.int n tn))) (cn2 : clos.lookup (Str.ofString "a_digits") = some cA) (mA : (cA, oA) ∈ news) (eA : oA.data = .cell (some (.ref D))) (cn3 : clos.lookup (Str.ofString "inner") = some cI) (mI : (cI, oI) ∈ news) (eI : oI.data = .cell (some (.ref f)))
    (step : ∀ d, (∀ d', d' < d → InnOK w f c' D cN cA cI qual params body scope clos doc pm ctv oc vs0 tq oN tn oA oI n len base d') → InnOK w f c' D cN cA cI qual params body scope clos doc pm ctv oc vs0 tq oN tn oA oI n len base d)
    (h1 : 1 ≤ len) (h0 : 0 ≤ x) (hx : x < 2 ^ (n.toNat * len)) (hi : IntsAre vs ns) (hn : ns.length = len) (hdp : dp + (len + 1) < recursionLimit) (hu : un + 8 * (len + 1) < cLine)
    (hret : ∀ vs' h' tk', IntsAre vs' (digs n.toNat x len) → Fr h₀ L h' m → News h₀ L h' ((D, listOf vs'.toArray nn) :: news) → Q .none { s with heap := h', toks := tk' }) :
    wpAny (model PySem.Challenge.rw_wo0032_02.row.prog w) (ktrTop dp un gd cn cs L a ccd cl outer) (call (.ref f) [.int x t1, .int 0 t2, .int (len : Int) t3]) Q E s := by
  refine inn_all step len B F X (by rw [← hpk]; exact pick_news msk N mD) T hk C hDn mf mc ec ev mN eN mA eA mI eI (by omega) h1 (by omega) (by omega) h0 hx hi hn hdp hu ?_
  intro vs' h' tk' hi' F' N'
  refine hret vs' h' tk' ?_ F' N'
  have e : putDigs ns (0 : Int).toNat len n.toNat x = digs n.toNat x len := by
    simp [putDigs, hn]
  rw [e] at hi'
  exact hi'


def iDef : Arguments × List Stmt × Scope := match (PySem.Challenge.rw_wo0032_02.row.prog.main.body.drop 4).head? with
  | some (.FunctionDef _ _ b _ _ _ _ _ _ _) => (match (b.drop 1).head? with
    | some (.FunctionDef _ p b2 _ _ _ sc _ _ _) => (p, b2, sc)
    | _ => ({ posonlyargs := [], args := [], vararg := none, kwonlyargs := [], kw_defaults := [], kwarg := none, defaults := [] }, [], { kind := .function, names := [], isGenerator := false, isCoroutine := false }))
  | _ => ({ posonlyargs := [], args := [], vararg := none, kwonlyargs := [], kw_defaults := [], kwarg := none, defaults := [] }, [], { kind := .function, names := [], isGenerator := false, isCoroutine := false })
theorem digs_pre {x n : Int} (hn : 0 < n) (hx : 0 ≤ x) (hn1 : n ≤ 16000) (hx2 : intBits x ≤ 20 * n) :
    (((intBits x : Nat) : Int) + n - 1).fdiv n = (((intBits x : Nat) : Int) + n - 1) / n ∧ 0 ≤ (((intBits x : Nat) : Int) + n - 1).fdiv n ∧ (((intBits x : Nat) : Int) + n - 1).fdiv n ≤ 20 ∧ (x = 0 → ((((intBits x : Nat) : Int) + n - 1).fdiv n).toNat = 0) ∧
    intBits x ≤ n.toNat * ((((intBits x : Nat) : Int) + n - 1).fdiv n).toNat ∧ (x ≠ 0 → 1 ≤ ((((intBits x : Nat) : Int) + n - 1).fdiv n).toNat) ∧ n ≠ 0 ∧ (((intBits x : Nat) : Int) + n - 1).fdiv n ≤ 1000000 ∧ ((((intBits x : Nat) : Int) + n - 1).fdiv n).toNat ≤ 1000000000 ∧ n.natAbs < 1073741824 := by
  have hm : (((intBits x : Nat) : Int) + n - 1).fdiv n = (((intBits x : Nat) : Int) + n - 1) / n := Int.fdiv_eq_ediv_of_nonneg _ (Int.le_of_lt hn)
  have hm0 : 0 ≤ (((intBits x : Nat) : Int) + n - 1).fdiv n := by rw [hm]; exact Int.ediv_nonneg (by omega) (by omega)
  have hm1 : (((intBits x : Nat) : Int) + n - 1).fdiv n ≤ 20 := by
    rw [hm]; exact Int.lt_add_one_iff.mp (Int.ediv_lt_of_lt_mul hn (by omega))
  have hz : x = 0 → ((((intBits x : Nat) : Int) + n - 1).fdiv n).toNat = 0 := fun h => by
    subst h
    rw [hm, show intBits 0 = 0 by decide]
    have : ((0 : Nat) : Int) + n - 1 = n - 1 := by omega
    rw [this, Int.ediv_eq_zero_of_lt (by omega) (by omega)]; rfl
  have hmul : ((((intBits x : Nat) : Int) + n - 1).fdiv n).toNat * n.toNat + (((intBits x : Nat) : Int) + n - 1) % n = (((intBits x : Nat) : Int) + n - 1) := by
    have h1 := Int.emod_add_mul_ediv (((intBits x : Nat) : Int) + n - 1) n
    rw [← hm] at h1
    rw [Int.toNat_of_nonneg hm0, Int.toNat_of_nonneg (Int.le_of_lt hn), Int.mul_comm]; omega
  have hrem := Int.emod_lt_of_pos (((intBits x : Nat) : Int) + n - 1) hn
  have hlen : intBits x ≤ n.toNat * ((((intBits x : Nat) : Int) + n - 1).fdiv n).toNat := by
    have : ((intBits x : Nat) : Int) ≤ ((((intBits x : Nat) : Int) + n - 1).fdiv n).toNat * n.toNat := by omega
    rw [Nat.mul_comm]; exact_mod_cast this
  have hpos : x ≠ 0 → 1 ≤ ((((intBits x : Nat) : Int) + n - 1).fdiv n).toNat := fun h => by
    have := bits_pos (x := x) (by omega)
    have : 0 < ((((intBits x : Nat) : Int) + n - 1).fdiv n).toNat * n.toNat := by
      have : (0 : Int) < ((((intBits x : Nat) : Int) + n - 1).fdiv n).toNat * n.toNat := by omega
      exact_mod_cast this
    exact Nat.pos_of_mul_pos_right this
  exact ⟨hm, hm0, hm1, hz, hlen, hpos, by omega, by omega, by omega, by omega⟩
set_option maxHeartbeats 4000000 in
theorem inn_step {w : World} {f c' D cN cA cI : Addr} {qual : Str} {params : Arguments} {body : List Stmt} {scope : Scope} {clos : List (Str × Addr)} {doc pm ctv : Value} {oc : Obj} {vs0 : Array Value} {tq : Tok} {oN : Obj} {tn : Tok} {oA oI : Obj} {n : Int} {len : Nat} {base : Heap}
    (hparams : params = iDef.1) (hbody : body = iDef.2.1) (hscope : scope = iDef.2.2) (hclos : clos = [(Str.ofString "n", cN), (Str.ofString "inner", cI), (Str.ofString "a_digits", cA)]) (hn : 0 < n) (hn1 : n ≤ 16000) (hlen20 : len ≤ 20) (d : Nat)
    (IH : ∀ d', d' < d → InnOK w f c' D cN cA cI qual params body scope clos doc pm ctv oc vs0 tq oN tn oA oI n len base d') : InnOK w f c' D cN cA cI qual params body scope clos doc pm ctv oc vs0 tq oN tn oA oI n len base d := by
  w_top off
  k_with_none
  k_with "LT1!" => (first | with_reducible assumption | with_reducible exact Nat.lt_succ_self _ | with_reducible exact And.left (by assumption) | with_reducible exact And.left (And.right (by assumption)) | with_reducible exact And.left (And.right (And.right (by assumption))) | with_reducible exact And.left (And.right (And.right (And.right (by assumption)))) | with_reducible exact And.left (And.right (And.right (And.right (And.right (by assumption))))) | with_reducible exact And.left (And.right (And.right (And.right (And.right (And.right (by assumption)))))) | with_reducible exact And.right (by assumption) | with_reducible exact And.right (And.right (by assumption)) | with_reducible exact And.right (And.right (And.right (by assumption))) | with_reducible exact And.right (And.right (And.right (And.right (by assumption)))))
  k_with "LT!" => (first | k_extra "LT1!" | ((with_reducible refine (Nat.lt_succ_of_lt ?_ : @LT.lt Nat _ _ (_ + 1))); first | k_extra "LT1!" | ((with_reducible refine (Nat.lt_succ_of_lt ?_ : @LT.lt Nat _ _ (_ + 1))); first | k_extra "LT1!" | ((with_reducible refine (Nat.lt_succ_of_lt ?_ : @LT.lt Nat _ _ (_ + 1))); k_extra "LT1!"))))
  k_with "NE!" => (first | with_reducible assumption | with_reducible exact Ne.symm (by assumption) | decide | ((fail_if_success (fail_if_success omega)); first | ((with_reducible refine Nat.ne_of_gt ?_); (fail_if_success (fail_if_success omega)); k_extra "LT!") | ((with_reducible refine Nat.ne_of_lt ?_); (fail_if_success (fail_if_success omega)); k_extra "LT!") | with_reducible exact And.left (by assumption) | with_reducible exact And.left (And.right (by assumption)) | with_reducible exact And.left (And.right (And.right (by assumption))) | omega))
  k_with "KNE!" => ((refine neN ?_; (try dsimp only); k_extra "NE!"))
  k_with "LBND!" => (first | assumption | decide | with_reducible exact Int.lt_of_lt_of_le (by assumption) (by decide) | with_reducible exact Int.lt_of_le_of_lt (by assumption) (by decide) | with_reducible exact Int.le_trans (by assumption) (by decide) | with_reducible exact Int.lt_of_lt_of_le (by decide) (by assumption) | with_reducible exact Int.le_trans (by decide) (by assumption) | with_reducible exact Int.natCast_nonneg _ | with_reducible exact Int.ne_of_gt (by assumption) | with_reducible exact Int.le_of_lt (by assumption) | with_reducible exact Nat.lt_of_lt_of_le (by assumption) (by decide) | with_reducible exact Nat.lt_of_le_of_lt (by assumption) (by decide) | with_reducible exact Nat.le_trans (by assumption) (by decide) | k_dflt omega | l_fact)
  k_with "ROOM!" => (((try simp only [depth_under_make, depth_under_kw, depth_in1, depth_deeper, depth_caller]); (try dsimp only [ktrTop]); first | with_reducible assumption | exact room_0 (by with_reducible assumption) | exact room_le (by with_reducible assumption) (by decide) | exact room_12 (by with_reducible assumption) (by decide)))
  k_with "UNITS!" => (((try simp only [units_in1, units_deeper, Around.mark_units, units_caller]); (try dsimp only [ktrTop]); first | with_reducible assumption | exact room_0 (by with_reducible assumption) | exact room_le (by with_reducible assumption) (by decide) | exact room_12 (by with_reducible assumption) (by decide) | exact room_123 (by with_reducible assumption) (by decide)))
  k_with "BITS!" => (first | (with_reducible assumption) | ((with_reducible apply bits_ediv2); bits_by_make) | ((with_reducible refine bits_emod2 ?_ ?_); (focus l_bnd); bits_by_make))
  k_with "binaryOp LShift int int" => ((k_here; (with_reducible refine' r_shl (by l_bnd) (by bits_by_make) (by l_bnd) (by decide) ?_)))
  k_with "inplaceOp LShift int int" => ((k_here; (with_reducible refine' ishl (by l_bnd) (by bits_by_make) (by l_bnd) (by decide) ?_)))
  k_with "binaryOp RShift int int" => ((k_here; (with_reducible refine r_shr (by l_bnd) ?_)))
  k_with "inplaceOp RShift int int" => ((k_here; (with_reducible refine ishr (by l_bnd) ?_)))
  k_with "binaryOp BitOr int int" => ((k_here; (with_reducible refine r_or (by l_bnd) (by l_bnd) (by l_bnd) ?_)))
  k_with "binaryOp BitAnd int int" => ((k_here; first | (with_reducible refine r_and1 ?_) | ((with_reducible refine r_mask (by l_bnd) ?_))))
  k_with "call builtin:divmod" => ((k_here; (with_reducible show wpAny _ _ (call (Value.builtin _) [Value.int _ _, Value.int _ _]) _ _ _); (refine' r_divmod (by assumption) (by assumption) (by l_bnd) (by first | assumption | exact noPy (by omega)) ?_); intro D' t1' t2' h' tk' F' N' l1; (try k_lt l1)))
  k_with "ALL!" => (first | assumption | (refine' allNe (by assumption)) | (refine' allNeLt (by assumption) (by first | exact Nat.le_add_right _ 1 | exact Nat.le_add_right _ 2 | exact Nat.le_add_right _ 3 | omega)))
  k_with "binaryOp Mult ref int" => ((k_here; k_dflt (refine' r_rep0 (by k_asm) (by k_asm) (by k_mem) (by l_bnd) (by l_bnd) ?_); intro D' h' F' N' l1; (try k_lt l1)))
  k_with "binaryOp BitXor int int" => ((k_here; (with_reducible refine' r_xorlow (by l_bnd) ?_)))
  k_with "call builtin:len" => ((k_here; k_dflt (refine' r_len (by k_asm) (by k_mem) (by exact List.length_replicate) (by l_bnd) ?_); intro t' tk'))
  k_with "call ref" => ((k_here; k_extra "call inner"))
  k_with "MEM!" => (first | assumption | (refine' List.Mem.tail _ ?_; assumption))
  with_unfolding_all (conv at hparams => rhs; whnf)
  with_unfolding_all (conv at hbody => rhs; whnf)
  with_unfolding_all (conv at hscope => rhs; whnf)
  subst hparams hbody hscope hclos
  have hnpos := hn
  unfold InnOK
  intro loose mean mg mb dp un gd cn cs a ccd cl outer A₀ h₀ L m rest s Q E x l r t1 t2 t3 vs ns nn B F X N T hk C hD mf mc ec ev mN eN mA eA mI eI hd h1 hl hr h0 hx hi hnl hdp hu hret
  obtain ⟨d20, d10, l63, gm0, gm1, gd, gr, gmn, gneg, gpos, gdd, gMr⟩ := halves hd h1 hl (Int.le_trans hr (Int.ofNat_le.mpr hlen20))
  have hbr : l + 1 ≠ r → _ := halves_ne hd h1
  have hone : l + 1 = r → _ := halves_one hd
  obtain ⟨hl1, hl2, hll, hlN, hlD⟩ := halves_len hd h1 hl (hnl.symm ▸ hr)
  obtain ⟨gsn, gs0, gs1, gxm, hn0⟩ := halves_n hn hn1 gd d20
  obtain ⟨hx2, hx20, hx1, hx10⟩ := halves_x gsn gdd h0 hx
  have gMlen := Int.le_trans gMr hr
  have sx : intBits x ≤ 400000 := Nat.le_trans (bits_le_of_lt h0 hx) gxm
  have hdp0 : dp < recursionLimit := room_0 hdp
  have hr9 := hr
  clear hd h1 gMr d10 d20 hlen20 hn1
  k_with "call inner" => ((first
      | (refine IH (d / 2) (hbr (by assumption)).2.1 (by k_asm) (by k_asm) (by k_asm) (by k_asm) (by k_asm) (by first | exact rfl | assumption) C hD mf mc ec ev mN eN mA eA mI eI gd (hbr (by assumption)).1 hl gMlen hx10 hx1 hi hnl (room_half hdp (hbr (by assumption)).2.1) (units_half hu (hbr (by assumption)).2.1) ?_)
      | (refine IH (d - d / 2) (hbr (by assumption)).2.2.2 (by k_asm) (by k_asm) (by k_asm) (by k_asm) (by k_asm) (by first | exact rfl | assumption) C hD mf mc ec ev mN eN mA eA mI eI gr (hbr (by assumption)).2.2.1 gm0 hr9 hx20 hx2 (by assumption) (by rw [putDigs_len hl1]; exact hnl) (room_half hdp (hbr (by assumption)).2.2.2) (units_half hu (hbr (by assumption)).2.2.2) ?_)); intro vs' h' tk' hi' F' N'; (try dsimp only); (try k_fold))
  refine wpAny_call ?_
  k_dflt (refine' code_nest ?k1 ?k2 ?k3 ?k4 ?k5 ?kA ?kF ?kK ?k6 ?k7 ?k8 ?k9 ?kB ?_ ?c2 ?c3 ?c4 ?c5; (case kA => exact rfl); (case kF => exact rfl); (case kK => assumption); (case k1 => k_asm); (case k2 => k_asm); (case k3 => k_asm); (case k4 => k_asm); (case k5 => k_asm); (case k6 => k_mem); (case k7 => exact codeRec_news (by k_asm) (by k_mem) (by assumption) (by assumption)); (case k8 => ktr_room); (case k9 => exact BindsTo.of_eq rfl); (case c5 => decide); (case kB => exact locs rfl); (case c2 => exact rfl); (case c3 => exact rfl); (case c4 => exact rfl); k_whole; intro g' L' h' FG' F' N' B' X' T'; (try dsimp only); (try k_lift B'); (try k_fold))
  k_steps
  · refine hret _ _ _ ?_ (by assumption) (by assumption)
    have hd1 : d = 1 := hone (by assumption)
    subst hd1
    rw [← putDigs_one hlN h0 (by simpa using hx)]
    assumption
  · refine hret _ _ _ ?_ (by assumption) (by assumption)
    (with_reducible rename IntsAre _ (putDigs (putDigs _ _ _ _ _) _ _ _ _) => hi9)
    rw [gmn, gsn, putDigs_two hl2, gdd] at hi9
    exact hi9
set_option maxHeartbeats 4000000 in
theorem c_i2d_F {w : World} {loose : List Str} {mean : ExcName → Option Value} {mg mb : Str → Option Value} {dp un : Nat} {gd : Option (List Code)} {cn : Str} {cs : Scope} {a : Addr} {ccd : Value} {cl : List (Str × Addr)} {outer : List Env} {A₀ : Around} {base h₀ : Heap} {L : Addr} {m : Str → Option Value} {news : List (Addr × Obj)} {s : Shared} {Q E : Value → Shared → Prop} {x n : Int} {t t1 : Tok} (B : Below A₀ base outer h₀) (F : Fr h₀ L s.heap m) (X : (hd.heap_39 w.params).In h₀) (N : News h₀ L s.heap ((30, tabObj #[]) :: news)) (T : Top topProg loose mean mg mb h₀) (hk : cs.kind = .function)
    (C : CodeHd base 34 30) (hne : ∀ p ∈ news, p.1 ≠ 30) (hn : 0 < n) (hx : 0 ≤ x) (hn1 : n ≤ 16000) (hx1 : intBits x ≤ 64000) (hx2 : intBits x ≤ 20 * n)
    (hdp : dp + 30 < recursionLimit) (hu : un + 8 * 30 < cLine)
    (hret : ∀ D c' oc vs0 t vs' h' tk', IntsAre vs' (digs n.toNat x ((((intBits x : Nat) : Int) + n - 1) / n).toNat) → oc.data = .fields vs0 → vs0[1]? = some (.str (Str.ofString "_int2digits.<locals>.inner") t) → @LT.lt Nat _ L c' → Fr h₀ L h' m → News h₀ L h' ((D, listOf vs'.toArray 0) :: (30, tabObj #[rawInt 32, rawInt 4, .ref c']) :: (c', oc) :: news) → AllLt D news → Q (.ref D) { s with heap := h', toks := tk' }) :
    wpAny (model PySem.Challenge.rw_wo0032_02.row.prog w) (ktrTop dp un gd cn cs L a ccd cl outer) (call (.ref 35) [.int x t, .int n t1]) Q E s := by
  w_top off
  k_with_none
  k_with "LT1!" => (first | with_reducible assumption | with_reducible exact Nat.lt_succ_self _ | with_reducible exact And.left (by assumption) | with_reducible exact And.left (And.right (by assumption)) | with_reducible exact And.left (And.right (And.right (by assumption))) | with_reducible exact And.left (And.right (And.right (And.right (by assumption)))) | with_reducible exact And.left (And.right (And.right (And.right (And.right (by assumption))))) | with_reducible exact And.left (And.right (And.right (And.right (And.right (And.right (by assumption)))))) | with_reducible exact And.right (by assumption) | with_reducible exact And.right (And.right (by assumption)) | with_reducible exact And.right (And.right (And.right (by assumption))) | with_reducible exact And.right (And.right (And.right (And.right (by assumption)))))
  k_with "LT!" => (first | k_extra "LT1!" | ((with_reducible refine (Nat.lt_succ_of_lt ?_ : @LT.lt Nat _ _ (_ + 1))); first | k_extra "LT1!" | ((with_reducible refine (Nat.lt_succ_of_lt ?_ : @LT.lt Nat _ _ (_ + 1))); first | k_extra "LT1!" | ((with_reducible refine (Nat.lt_succ_of_lt ?_ : @LT.lt Nat _ _ (_ + 1))); k_extra "LT1!"))))
  k_with "NE!" => (first | with_reducible assumption | with_reducible exact Ne.symm (by assumption) | decide | ((fail_if_success (fail_if_success omega)); first | ((with_reducible refine Nat.ne_of_gt ?_); (fail_if_success (fail_if_success omega)); k_extra "LT!") | ((with_reducible refine Nat.ne_of_lt ?_); (fail_if_success (fail_if_success omega)); k_extra "LT!") | with_reducible exact And.left (by assumption) | with_reducible exact And.left (And.right (by assumption)) | with_reducible exact And.left (And.right (And.right (by assumption))) | omega))
  k_with "KNE!" => ((refine neN ?_; (try dsimp only); k_extra "NE!"))
  k_with "LBND!" => (first | assumption | decide | with_reducible exact Int.lt_of_lt_of_le (by assumption) (by decide) | with_reducible exact Int.lt_of_le_of_lt (by assumption) (by decide) | with_reducible exact Int.le_trans (by assumption) (by decide) | with_reducible exact Int.lt_of_lt_of_le (by decide) (by assumption) | with_reducible exact Int.le_trans (by decide) (by assumption) | with_reducible exact Int.natCast_nonneg _ | with_reducible exact Int.ne_of_gt (by assumption) | with_reducible exact Int.le_of_lt (by assumption) | with_reducible exact Nat.lt_of_lt_of_le (by assumption) (by decide) | with_reducible exact Nat.lt_of_le_of_lt (by assumption) (by decide) | with_reducible exact Nat.le_trans (by assumption) (by decide) | k_dflt omega | l_fact)
  k_with "ROOM!" => (((try simp only [depth_under_make, depth_under_kw, depth_in1, depth_deeper, depth_caller]); (try dsimp only [ktrTop]); first | with_reducible assumption | exact room_0 (by with_reducible assumption) | exact room_le (by with_reducible assumption) (by decide) | exact room_12 (by with_reducible assumption) (by decide)))
  k_with "UNITS!" => (((try simp only [units_in1, units_deeper, Around.mark_units, units_caller]); (try dsimp only [ktrTop]); first | with_reducible assumption | exact room_0 (by with_reducible assumption) | exact room_le (by with_reducible assumption) (by decide) | exact room_12 (by with_reducible assumption) (by decide) | exact room_123 (by with_reducible assumption) (by decide)))
  k_with "BITS!" => (first | (with_reducible assumption) | ((with_reducible apply bits_ediv2); bits_by_make) | ((with_reducible refine bits_emod2 ?_ ?_); (focus l_bnd); bits_by_make))
  k_with "binaryOp LShift int int" => ((k_here; (with_reducible refine' r_shl (by l_bnd) (by bits_by_make) (by l_bnd) (by decide) ?_)))
  k_with "inplaceOp LShift int int" => ((k_here; (with_reducible refine' ishl (by l_bnd) (by bits_by_make) (by l_bnd) (by decide) ?_)))
  k_with "binaryOp RShift int int" => ((k_here; (with_reducible refine r_shr (by l_bnd) ?_)))
  k_with "inplaceOp RShift int int" => ((k_here; (with_reducible refine ishr (by l_bnd) ?_)))
  k_with "binaryOp BitOr int int" => ((k_here; (with_reducible refine r_or (by l_bnd) (by l_bnd) (by l_bnd) ?_)))
  k_with "binaryOp BitAnd int int" => ((k_here; first | (with_reducible refine r_and1 ?_) | ((with_reducible refine r_mask (by l_bnd) ?_))))
  k_with "call builtin:divmod" => ((k_here; (with_reducible show wpAny _ _ (call (Value.builtin _) [Value.int _ _, Value.int _ _]) _ _ _); (refine' r_divmod (by assumption) (by assumption) (by l_bnd) (by first | assumption | exact noPy (by omega)) ?_); intro D' t1' t2' h' tk' F' N' l1; (try k_lt l1)))
  k_with "ALL!" => (first | assumption | (refine' allNe (by assumption)) | (refine' allNeLt (by assumption) (by first | exact Nat.le_add_right _ 1 | exact Nat.le_add_right _ 2 | exact Nat.le_add_right _ 3 | omega)))
  k_with "binaryOp Mult ref int" => ((k_here; k_dflt (refine' r_rep0 (by k_asm) (by k_asm) (by k_mem) (by l_bnd) (by l_bnd) ?_); intro D' h' F' N' l1; (try k_lt l1)))
  k_with "binaryOp BitXor int int" => ((k_here; (with_reducible refine' r_xorlow (by l_bnd) ?_)))
  k_with "call builtin:len" => ((k_here; k_dflt (refine' r_len (by k_asm) (by k_mem) (by exact List.length_replicate) (by l_bnd) ?_); intro t' tk'))
  k_with "call ref" => ((k_here; k_extra "call inner"))
  k_with "MEM!" => (first | assumption | (refine' List.Mem.tail _ ?_; assumption))
  obtain ⟨hm, hm0, hm1, hz, hlen, hpos, hnz, hm6, hm9, hnA⟩ := digs_pre hn hx hn1 hx2
  revert B F X N T
  k_fill
  intro B F X N T
  refine wpAny_call ?_
  k_dflt (refine' code_defC ?k1 ?k2 ?k3 ?k4 ?k5 ?kA ?kF ?kK ?k6 ?k7 ?k8 ?k9 ?kB ?kD ?_ ?c2 ?c3 ?c4; (case kA => exact rfl); (case kF => exact rfl); (case kK => assumption); (case k1 => k_asm); (case k2 => k_asm); (case k3 => k_asm); (case k4 => k_asm); (case k5 => k_asm); (case k6 => k_is); (case k7 => k_is); (case k8 => ktr_room); (case k9 => first | exact BindsTo.of_eq rfl | exact binds_K (by k_in) rfl (by k_is) rfl rfl rfl); (case kB => exact rfl); (case kD => decide +kernel); (case c2 => exact rfl); (case c3 => exact rfl); (case c4 => exact rfl); k_whole; intro g' L' h' tk' cells' FG' F' N' Y' B' X' T' l1; (try k_lt l1); k_cells Y'; (try simp only [List.cons_append, List.nil_append] at N'); (try dsimp only); (try k_lift B'); (try k_fold))
  have lN : AllLt _ news := And.right (by assumption)
  have hLL : @LT.lt Nat _ L L' := Nat.lt_of_lt_of_le FG'.ns.lt F'.above
  k_steps
  rotate_left; rotate_right
  k_dflt (refine' inn_use ?z1 ?z2 ?z3 ?z4 ?z5 ?z6 ?z7 ?z8 [true, true, false] ?z9 ?z9b ?z10 ?z11 ?z12 ?z13 ?y1 ?z14 ?z15 ?y2 ?z16 ?z17 ?y3 ?z18 ?z19 ?zstep ?z21 ?z22 ?z23 ?z24 ?z25 ?z26 ?z27 ?zret; (case z1 => k_asm); (case z2 => k_asm); (case z3 => k_asm); (case z4 => k_asm); (case z5 => k_asm); (case z6 => exact rfl); (case z7 => kn_code); (case z8 => k_mem); (case z9 => (dsimp only [pick]; done)); (case z9b => first | k_all | done); (case z10 => k_mem); (case z11 => k_mem); (case z12 => assumption); (case z13 => assumption); (case y1 => rfl); (case y2 => rfl); (case y3 => rfl); (case z14 => k_mem); (case z15 => assumption); (case z16 => k_mem); (case z17 => assumption); (case z18 => k_mem); (case z19 => assumption))
  case z22 => exact hx
  case z24 => exact ints_rep0 _ _
  case z25 => exact List.length_replicate
  case z26 => exact room_len hdp (Int.toNat_le.mpr hm1)
  case z27 => exact units_len hu (Int.toNat_le.mpr hm1)
  case z23 => exact lt_of_bits hlen
  case z21 => exact hpos (by assumption)
  case zret =>
    intro vs' h' tk' hi' F' N'
    (try dsimp only)
    k_steps
    refine hret _ _ _ _ _ _ _ _ (by rw [← hm]; exact hi') (by assumption) (by assumption) ?_ (by assumption) (nsA (by assumption)) (And.right (And.right (And.right (And.right (And.right (by assumption))))))
    omega
  case zstep => exact inn_step (by with_unfolding_all rfl) (by with_unfolding_all rfl) (by with_unfolding_all rfl) rfl hn hn1 (Int.toNat_le.mpr hm1)
  refine hret _ _ _ _ _ _ _ _ ?_ (by assumption) (by assumption) ?_ (by assumption) (nsB (by assumption)) (And.right (And.right (And.right (And.right (And.right (by assumption))))))
  · rw [← hm, hz (by assumption)]; exact .nil
  · omega
set_option maxHeartbeats 4000000 in
theorem c_i2d_M {w : World} {c0 : Addr} {oc0 : Obj} {vs00 : Array Value} {t00 : Tok} {loose : List Str} {mean : ExcName → Option Value} {mg mb : Str → Option Value} {dp un : Nat} {gd : Option (List Code)} {cn : Str} {cs : Scope} {a : Addr} {ccd : Value} {cl : List (Str × Addr)} {outer : List Env} {A₀ : Around} {base h₀ : Heap} {L : Addr} {m : Str → Option Value} {news : List (Addr × Obj)} {s : Shared} {Q E : Value → Shared → Prop} {x n : Int} {t t1 : Tok} (B : Below A₀ base outer h₀) (F : Fr h₀ L s.heap m) (X : (hd.heap_39 w.params).In h₀) (N : News h₀ L s.heap ((30, tabObj #[rawInt 32, rawInt 4, .ref c0]) :: (c0, oc0) :: news)) (T : Top topProg loose mean mg mb h₀) (hk : cs.kind = .function)
    (C : CodeHd base 34 30) (hoc0 : oc0.data = .fields vs00) (hvs0 : vs00[1]? = some (.str (Str.ofString "_int2digits.<locals>.inner") t00)) (hne : ∀ p ∈ news, p.1 ≠ 30) (hn : 0 < n) (hx : 0 ≤ x) (hn1 : n ≤ 16000) (hx1 : intBits x ≤ 64000) (hx2 : intBits x ≤ 20 * n)
    (hdp : dp + 30 < recursionLimit) (hu : un + 8 * 30 < cLine)
    (hret : ∀ D vs' h' tk', IntsAre vs' (digs n.toNat x ((((intBits x : Nat) : Int) + n - 1) / n).toNat) → Fr h₀ L h' m → News h₀ L h' ((D, listOf vs'.toArray 0) :: (30, tabObj #[rawInt 32, rawInt 4, .ref c0]) :: (c0, oc0) :: news) → AllLt D news → Q (.ref D) { s with heap := h', toks := tk' }) :
    wpAny (model PySem.Challenge.rw_wo0032_02.row.prog w) (ktrTop dp un gd cn cs L a ccd cl outer) (call (.ref 35) [.int x t, .int n t1]) Q E s := by
  w_top off
  k_with_none
  k_with "LT1!" => (first | with_reducible assumption | with_reducible exact Nat.lt_succ_self _ | with_reducible exact And.left (by assumption) | with_reducible exact And.left (And.right (by assumption)) | with_reducible exact And.left (And.right (And.right (by assumption))) | with_reducible exact And.left (And.right (And.right (And.right (by assumption)))) | with_reducible exact And.left (And.right (And.right (And.right (And.right (by assumption))))) | with_reducible exact And.left (And.right (And.right (And.right (And.right (And.right (by assumption)))))) | with_reducible exact And.right (by assumption) | with_reducible exact And.right (And.right (by assumption)) | with_reducible exact And.right (And.right (And.right (by assumption))) | with_reducible exact And.right (And.right (And.right (And.right (by assumption)))))
  k_with "LT!" => (first | k_extra "LT1!" | ((with_reducible refine (Nat.lt_succ_of_lt ?_ : @LT.lt Nat _ _ (_ + 1))); first | k_extra "LT1!" | ((with_reducible refine (Nat.lt_succ_of_lt ?_ : @LT.lt Nat _ _ (_ + 1))); first | k_extra "LT1!" | ((with_reducible refine (Nat.lt_succ_of_lt ?_ : @LT.lt Nat _ _ (_ + 1))); k_extra "LT1!"))))
  k_with "NE!" => (first | with_reducible assumption | with_reducible exact Ne.symm (by assumption) | decide | ((fail_if_success (fail_if_success omega)); first | ((with_reducible refine Nat.ne_of_gt ?_); (fail_if_success (fail_if_success omega)); k_extra "LT!") | ((with_reducible refine Nat.ne_of_lt ?_); (fail_if_success (fail_if_success omega)); k_extra "LT!") | with_reducible exact And.left (by assumption) | with_reducible exact And.left (And.right (by assumption)) | with_reducible exact And.left (And.right (And.right (by assumption))) | omega))
  k_with "KNE!" => ((refine neN ?_; (try dsimp only); k_extra "NE!"))
  k_with "LBND!" => (first | assumption | decide | with_reducible exact Int.lt_of_lt_of_le (by assumption) (by decide) | with_reducible exact Int.lt_of_le_of_lt (by assumption) (by decide) | with_reducible exact Int.le_trans (by assumption) (by decide) | with_reducible exact Int.lt_of_lt_of_le (by decide) (by assumption) | with_reducible exact Int.le_trans (by decide) (by assumption) | with_reducible exact Int.natCast_nonneg _ | with_reducible exact Int.ne_of_gt (by assumption) | with_reducible exact Int.le_of_lt (by assumption) | with_reducible exact Nat.lt_of_lt_of_le (by assumption) (by decide) | with_reducible exact Nat.lt_of_le_of_lt (by assumption) (by decide) | with_reducible exact Nat.le_trans (by assumption) (by decide) | k_dflt omega | l_fact)
  k_with "ROOM!" => (((try simp only [depth_under_make, depth_under_kw, depth_in1, depth_deeper, depth_caller]); (try dsimp only [ktrTop]); first | with_reducible assumption | exact room_0 (by with_reducible assumption) | exact room_le (by with_reducible assumption) (by decide) | exact room_12 (by with_reducible assumption) (by decide)))
  k_with "UNITS!" => (((try simp only [units_in1, units_deeper, Around.mark_units, units_caller]); (try dsimp only [ktrTop]); first | with_reducible assumption | exact room_0 (by with_reducible assumption) | exact room_le (by with_reducible assumption) (by decide) | exact room_12 (by with_reducible assumption) (by decide) | exact room_123 (by with_reducible assumption) (by decide)))
  k_with "BITS!" => (first | (with_reducible assumption) | ((with_reducible apply bits_ediv2); bits_by_make) | ((with_reducible refine bits_emod2 ?_ ?_); (focus l_bnd); bits_by_make))
  k_with "binaryOp LShift int int" => ((k_here; (with_reducible refine' r_shl (by l_bnd) (by bits_by_make) (by l_bnd) (by decide) ?_)))
  k_with "inplaceOp LShift int int" => ((k_here; (with_reducible refine' ishl (by l_bnd) (by bits_by_make) (by l_bnd) (by decide) ?_)))
  k_with "binaryOp RShift int int" => ((k_here; (with_reducible refine r_shr (by l_bnd) ?_)))
  k_with "inplaceOp RShift int int" => ((k_here; (with_reducible refine ishr (by l_bnd) ?_)))
  k_with "binaryOp BitOr int int" => ((k_here; (with_reducible refine r_or (by l_bnd) (by l_bnd) (by l_bnd) ?_)))
  k_with "binaryOp BitAnd int int" => ((k_here; first | (with_reducible refine r_and1 ?_) | ((with_reducible refine r_mask (by l_bnd) ?_))))
  k_with "call builtin:divmod" => ((k_here; (with_reducible show wpAny _ _ (call (Value.builtin _) [Value.int _ _, Value.int _ _]) _ _ _); (refine' r_divmod (by assumption) (by assumption) (by l_bnd) (by first | assumption | exact noPy (by omega)) ?_); intro D' t1' t2' h' tk' F' N' l1; (try k_lt l1)))
  k_with "ALL!" => (first | assumption | (refine' allNe (by assumption)) | (refine' allNeLt (by assumption) (by first | exact Nat.le_add_right _ 1 | exact Nat.le_add_right _ 2 | exact Nat.le_add_right _ 3 | omega)))
  k_with "binaryOp Mult ref int" => ((k_here; k_dflt (refine' r_rep0 (by k_asm) (by k_asm) (by k_mem) (by l_bnd) (by l_bnd) ?_); intro D' h' F' N' l1; (try k_lt l1)))
  k_with "binaryOp BitXor int int" => ((k_here; (with_reducible refine' r_xorlow (by l_bnd) ?_)))
  k_with "call builtin:len" => ((k_here; k_dflt (refine' r_len (by k_asm) (by k_mem) (by exact List.length_replicate) (by l_bnd) ?_); intro t' tk'))
  k_with "call ref" => ((k_here; k_extra "call inner"))
  k_with "MEM!" => (first | assumption | (refine' List.Mem.tail _ ?_; assumption))
  obtain ⟨hm, hm0, hm1, hz, hlen, hpos, hnz, hm6, hm9, hnA⟩ := digs_pre hn hx hn1 hx2
  revert B F X N T
  k_fill
  intro B F X N T
  refine wpAny_call ?_
  k_dflt (refine' code_defC ?k1 ?k2 ?k3 ?k4 ?k5 ?kA ?kF ?kK ?k6 ?k7 ?k8 ?k9 ?kB ?kD ?_ ?c2 ?c3 ?c4; (case kA => exact rfl); (case kF => exact rfl); (case kK => assumption); (case k1 => k_asm); (case k2 => k_asm); (case k3 => k_asm); (case k4 => k_asm); (case k5 => k_asm); (case k6 => k_is); (case k7 => k_is); (case k8 => ktr_room); (case k9 => first | exact BindsTo.of_eq rfl | exact binds_K (by k_in) rfl (by k_is) rfl rfl rfl); (case kB => exact rfl); (case kD => decide +kernel); (case c2 => exact rfl); (case c3 => exact rfl); (case c4 => exact rfl); k_whole; intro g' L' h' tk' cells' FG' F' N' Y' B' X' T' l1; (try k_lt l1); k_cells Y'; (try simp only [List.cons_append, List.nil_append] at N'); (try dsimp only); (try k_lift B'); (try k_fold))
  have lN : AllLt _ news := And.right (And.right (by assumption))
  k_steps
  rotate_left; rotate_right
  k_dflt (refine' inn_use ?z1 ?z2 ?z3 ?z4 ?z5 ?z6 ?z7 ?z8 [true, false] ?z9 ?z9b ?z10 ?z11 ?z12 ?z13 ?y1 ?z14 ?z15 ?y2 ?z16 ?z17 ?y3 ?z18 ?z19 ?zstep ?z21 ?z22 ?z23 ?z24 ?z25 ?z26 ?z27 ?zret; (case z1 => k_asm); (case z2 => k_asm); (case z3 => k_asm); (case z4 => k_asm); (case z5 => k_asm); (case z6 => exact rfl); (case z7 => kn_code); (case z8 => k_mem); (case z9 => (dsimp only [pick]; done)); (case z9b => first | k_all | done); (case z10 => k_mem); (case z11 => k_mem); (case z12 => assumption); (case z13 => assumption); (case y1 => rfl); (case y2 => rfl); (case y3 => rfl); (case z14 => k_mem); (case z15 => assumption); (case z16 => k_mem); (case z17 => assumption); (case z18 => k_mem); (case z19 => assumption))
  case z22 => exact hx
  case z24 => exact ints_rep0 _ _
  case z25 => exact List.length_replicate
  case z26 => exact room_len hdp (Int.toNat_le.mpr hm1)
  case z27 => exact units_len hu (Int.toNat_le.mpr hm1)
  case z23 => exact lt_of_bits hlen
  case z21 => exact hpos (by assumption)
  case zret =>
    intro vs' h' tk' hi' F' N'
    (try dsimp only)
    k_steps
    exact hret _ _ _ _ (by rw [← hm]; exact hi') (by assumption) (nsC (by assumption)) (And.right (And.right (And.right (And.right (And.right (And.right (by assumption)))))))
  case zstep => exact inn_step (by with_unfolding_all rfl) (by with_unfolding_all rfl) (by with_unfolding_all rfl) rfl hn hn1 (Int.toNat_le.mpr hm1)
  refine hret _ _ _ _ ?_ (by assumption) (nsD (by assumption)) (And.right (And.right (And.right (And.right (And.right (And.right (by assumption)))))))
  rw [← hm, hz (by assumption)]; exact .nil
end Mine
end
section
namespace Mine
open Builtin.Int (intBits)
def undig (n : Nat) (ns : List Int) : Int := ns.foldr (fun a acc => a + 2 ^ n * acc) 0
theorem undig_append (n : Nat) (a b : List Int) : undig n (a ++ b) = undig n a + 2 ^ (n * a.length) * undig n b := by
  induction a with
  | nil => simp [undig]
  | cons x r ih =>
    simp only [undig, List.cons_append, List.foldr_cons, List.length_cons] at ih ⊢
    rw [ih, Int.mul_add, Nat.mul_succ, Nat.add_comm (n * r.length), Int.pow_add, ← Int.mul_assoc]
    omega
theorem undig_bound {n : Nat} {ns : List Int} (h : ∀ a ∈ ns, 0 ≤ a ∧ a < 2 ^ n) : 0 ≤ undig n ns ∧ undig n ns < 2 ^ (n * ns.length) := by
  induction ns with
  | nil => simp [undig]
  | cons x r ih =>
    have h1 := h x (.head _)
    have h2 := ih fun a ha => h a (.tail _ ha)
    have hp := pow2_pos n
    have e : undig n (x :: r) = x + 2 ^ n * undig n r := rfl
    rw [e, List.length_cons, Nat.mul_succ, Nat.add_comm, Int.pow_add]
    refine ⟨Int.add_nonneg h1.1 (Int.mul_nonneg (Int.le_of_lt hp) h2.1), ?_⟩
    have h3 : 2 ^ n * (undig n r + 1) ≤ 2 ^ n * 2 ^ (n * r.length) := Int.mul_le_mul_of_nonneg_left (by omega) (Int.le_of_lt hp)
    rw [Int.mul_add, Int.mul_one] at h3
    omega
def sec (ns : List Int) (l d : Nat) : List Int := (ns.drop l).take d
theorem sec_len {ns : List Int} {l d : Nat} (h : l + d ≤ ns.length) : (sec ns l d).length = d := by
  simp only [sec, List.length_take, List.length_drop]; omega
theorem sec_one {ns : List Int} {l : Nat} (h : l < ns.length) (n : Nat) : undig n (sec ns l 1) = ns.getD l 0 := by
  have e : sec ns l 1 = [ns.getD l 0] := by
    unfold sec
    rw [List.drop_eq_getElem_cons h, List.take_succ_cons, List.take_zero, List.getD_eq_getElem?_getD, List.getElem?_eq_getElem h]
    rfl
  rw [e]; simp [undig]
theorem sec_two {ns : List Int} {l d1 d2 n : Nat} (h : l + d1 + d2 ≤ ns.length) : undig n (sec ns (l + d1) d2) * 2 ^ (n * d1) + undig n (sec ns l d1) = undig n (sec ns l (d1 + d2)) := by
  have e : sec ns l (d1 + d2) = sec ns l d1 ++ sec ns (l + d1) d2 := by
    unfold sec
    rw [List.take_add, List.drop_drop]
  rw [e, undig_append, sec_len (by omega), Int.mul_comm]
  omega
theorem sec_all {ns : List Int} : sec ns 0 ns.length = ns := by simp [sec]
theorem sec_sub {ns : List Int} {l d : Nat} {P : Int → Prop} (h : ∀ a ∈ ns, P a) : ∀ a ∈ sec ns l d, P a := fun a ha => h a (List.mem_of_mem_drop (List.mem_of_mem_take ha))
end Mine
namespace Mine
section
variable {prog : Program} {w : World} {A : Around} {E : Value → Shared → Prop} {s : Shared}
theorem r_truth {h₀ : Heap} {L D : Addr} {news : List (Addr × Obj)} {vs : List Value} {c : Nat} {Q : Bool → Shared → Prop} (N : News h₀ L s.heap news) (hm : (D, listOf vs.toArray c) ∈ news) (hk : vs.length ≤ 1000000000)
    (h0 : vs = [] → ∀ tk, Q false { s with toks := tk }) (h1 : vs ≠ [] → ∀ tk, Q true { s with toks := tk }) : wpAny (model prog w) A (truthy (.ref D)) Q E s := by
  refine wpAny_truthy_list (PySem.IsL.isList (n := c) (N _ hm).1) (by rw [List.size_toArray]; omega) ?_
  by_cases h : vs = []
  · subst h; exact h0 rfl _
  · have e : vs.toArray.isEmpty = false := by simpa using h
    rw [e]; exact h1 h _
end
end Mine
namespace Mine
theorem len_pos {vs : List Value} {ns : List Int} (h : vs.length = ns.length) (hT : vs ≠ []) : 1 ≤ ns.length := by
  have := List.length_pos_iff.mpr hT; omega
end Mine
namespace Mine
section
variable {h₀ h : Heap} {L : Addr} {x1 x2 x3 x4 x5 x6 : Addr × Obj} {l : List (Addr × Obj)}
theorem nsE (N : News h₀ L h (x1 :: x2 :: x3 :: x4 :: x5 :: x6 :: l)) : News h₀ L h (x6 :: x2 :: l) := cb_drop N fun p hp => by
  simp only [List.mem_cons] at hp ⊢; rcases hp with h | h | h <;> simp [h]
theorem nsF (N : News h₀ L h (x1 :: x2 :: x3 :: x4 :: x5 :: x6 :: l)) : News h₀ L h (x5 :: x6 :: l) := cb_drop N fun p hp => by
  simp only [List.mem_cons] at hp ⊢; rcases hp with h | h | h <;> simp [h]
end
end Mine
end
section
set_option maxRecDepth 100000
namespace Mine
open Builtin.Int (intBits)
def InnD (w : World) (f c' D cN cA cI : Addr) (qual : Str) (params : Arguments) (body : List Stmt) (scope : Scope) (clos : List (Str × Addr)) (doc pm ctv : Value) (oc : Obj) (vs0 : Array Value) (tq : Tok) (oN : Obj) (tn : Tok) (oA oI : Obj) (vs : List Value) (ns : List Int) (nn : Nat) (lst : List (Addr × Obj)) (n : Int) (base : Heap) (d : Nat) : Prop := ∀ {loose : List Str} {mean : ExcName → Option Value} {mg mb : Str → Option Value} {dp un : Nat} {gd : Option (List Code)} {cn : Str} {cs : Scope} {a : Addr} {ccd : Value} {cl : List (Str × Addr)} {outer : List Env} {A₀ : Around} {h₀ : Heap} {L : Addr} {m : Str → Option Value} {s : Shared} {Q E : Value → Shared → Prop} {l r : Int} {t2 t3 : Tok} (_B : Below A₀ base outer h₀) (_F : Fr h₀ L s.heap m) (_X : (hd.heap_39 w.params).In h₀) (_N : News h₀ L s.heap lst) (_T : Top topProg loose mean mg mb h₀) (_hk : cs.kind = .function)
    (_C : CodeHd base 41 37) (_mf : (f, fnMade (Str.ofString "inner") qual params body scope clos doc pm c' ctv) ∈ lst) (_mc : (c', oc) ∈ lst) (_ec : oc.data = .fields vs0) (_ev : vs0[1]? = some (.str qual tq)) (_mD : (D, listOf vs.toArray nn) ∈ lst)
    (_mN : (cN, oN) ∈ lst) (_eN : oN.data = .cell (some (.int n tn))) (_mA : (cA, oA) ∈ lst) (_eA : oA.data = .cell (some (.ref D))) (_mI : (cI, oI) ∈ lst) (_eI : oI.data = .cell (some (.ref f)))
    (_hd : r - l = (d : Int)) (_h1 : 1 ≤ d) (_hl : 0 ≤ l) (_hr : r ≤ (ns.length : Int)) (_hi : IntsAre vs ns) (_hb : ∀ a ∈ ns, 0 ≤ a ∧ a < 2 ^ n.toNat) (_hdp : dp + (d + 1) < recursionLimit) (_hu : un + 8 * (d + 1) < cLine)
    (_hret : ∀ v t h' tk', v = undig n.toNat (sec ns l.toNat d) → 0 ≤ v → intBits v ≤ 400000 → Fr h₀ L h' m → News h₀ L h' lst → Q (.int v t) { s with heap := h', toks := tk' }),
    wpAny (model PySem.Challenge.rw_wo0032_02.row.prog w) (ktrTop dp un gd cn cs L a ccd cl outer) (call (.ref f) [.int l t2, .int r t3]) Q E s
theorem innD_all {w : World} {f c' D cN cA cI : Addr} {qual : Str} {params : Arguments} {body : List Stmt} {scope : Scope} {clos : List (Str × Addr)} {doc pm ctv : Value} {oc : Obj} {vs0 : Array Value} {tq : Tok} {oN : Obj} {tn : Tok} {oA oI : Obj} {vs : List Value} {ns : List Int} {nn : Nat} {lst : List (Addr × Obj)} {n : Int} {base : Heap}
    (step : ∀ d, (∀ d', d' < d → InnD w f c' D cN cA cI qual params body scope clos doc pm ctv oc vs0 tq oN tn oA oI vs ns nn lst n base d') → InnD w f c' D cN cA cI qual params body scope clos doc pm ctv oc vs0 tq oN tn oA oI vs ns nn lst n base d) (d : Nat) : InnD w f c' D cN cA cI qual params body scope clos doc pm ctv oc vs0 tq oN tn oA oI vs ns nn lst n base d := by
  induction d using Nat.strongRecOn with
  | ind d ih => exact step d ih
theorem innD_use {w : World} {f c' D cN cA cI : Addr} {qual : Str} {params : Arguments} {body : List Stmt} {scope : Scope} {clos : List (Str × Addr)} {doc pm ctv : Value} {oc : Obj} {vs0 : Array Value} {tq : Tok} {oN : Obj} {tn : Tok} {oA oI : Obj} {vs : List Value} {ns : List Int} {nn : Nat} {n : Int}
    {loose : List Str} {mean : ExcName → Option Value} {mg mb : Str → Option Value} {dp un : Nat} {gd : Option (List Code)} {cn : Str} {cs : Scope} {a : Addr} {ccd : Value} {cl : List (Str × Addr)} {outer : List Env} {A₀ : Around} {base h₀ : Heap} {L : Addr} {m : Str → Option Value} {s : Shared} {Q E : Value → Shared → Prop} {lst : List (Addr × Obj)} {len : Nat} {t2 t3 : Tok} (B : Below A₀ base outer h₀) (F : Fr h₀ L s.heap m) (X : (hd.heap_39 w.params).In h₀) (N : News h₀ L s.heap lst) (T : Top topProg loose mean mg mb h₀) (hk : cs.kind = .function)
    (C : CodeHd base 41 37) (mf : (f, fnMade (Str.ofString "inner") qual params body scope clos doc pm c' ctv) ∈ lst) (mc : (c', oc) ∈ lst) (ec : oc.data = .fields vs0) (ev : vs0[1]? = some (.str qual tq)) (mD : (D, listOf vs.toArray nn) ∈ lst)
    (cn1 : clos.lookup (Str.ofString "n") = some cN) (mN : (cN, oN) ∈ lst) (eN : oN.data = .cell (some (.int n tn))) (cn2 : clos.lookup (Str.ofString "digits") = some cA) (mA : (cA, oA) ∈ lst) (eA : oA.data = .cell (some (.ref D))) (cn3 : clos.lookup (Str.ofString "inner") = some cI) (mI : (cI, oI) ∈ lst) (eI : oI.data = .cell (some (.ref f)))
    (step : ∀ d, (∀ d', d' < d → InnD w f c' D cN cA cI qual params body scope clos doc pm ctv oc vs0 tq oN tn oA oI vs ns nn lst n base d') → InnD w f c' D cN cA cI qual params body scope clos doc pm ctv oc vs0 tq oN tn oA oI vs ns nn lst n base d)
    (h1 : 1 ≤ len) (hi : IntsAre vs ns) (hn : ns.length = len) (hb : ∀ a ∈ ns, 0 ≤ a ∧ a < 2 ^ n.toNat) (hdp : dp + (len + 1) < recursionLimit) (hu : un + 8 * (len + 1) < cLine)
    (hret : ∀ t h' tk', Fr h₀ L h' m → News h₀ L h' lst → Q (.int (undig n.toNat ns) t) { s with heap := h', toks := tk' }) :
    wpAny (model PySem.Challenge.rw_wo0032_02.row.prog w) (ktrTop dp un gd cn cs L a ccd cl outer) (call (.ref f) [.int 0 t2, .int (len : Int) t3]) Q E s := by
  subst hn
  refine innD_all step ns.length B F X N T hk C mf mc ec ev mD mN eN mA eA mI eI (by omega) h1 (by omega) (by omega) hi hb hdp hu ?_
  intro v t h' tk' e v0 v1 F' N'
  subst e
  rw [show (0 : Int).toNat = 0 from rfl, sec_all]
  exact hret t h' tk' F' N'


def iDefD : Arguments × List Stmt × Scope := match (PySem.Challenge.rw_wo0032_02.row.prog.main.body.drop 5).head? with
  | some (.FunctionDef _ _ b _ _ _ _ _ _ _) => (match b.head? with
    | some (.FunctionDef _ p b2 _ _ _ sc _ _ _) => (p, b2, sc)
    | _ => ({ posonlyargs := [], args := [], vararg := none, kwonlyargs := [], kw_defaults := [], kwarg := none, defaults := [] }, [], { kind := .function, names := [], isGenerator := false, isCoroutine := false }))
  | _ => ({ posonlyargs := [], args := [], vararg := none, kwonlyargs := [], kw_defaults := [], kwarg := none, defaults := [] }, [], { kind := .function, names := [], isGenerator := false, isCoroutine := false })
set_option maxHeartbeats 4000000 in
theorem innD_step {w : World} {f c' D cN cA cI : Addr} {qual : Str} {params : Arguments} {body : List Stmt} {scope : Scope} {clos : List (Str × Addr)} {doc pm ctv : Value} {oc : Obj} {vs0 : Array Value} {tq : Tok} {oN : Obj} {tn : Tok} {oA oI : Obj} {vs : List Value} {ns : List Int} {nn : Nat} {lst : List (Addr × Obj)} {n : Int} {base : Heap}
    (hparams : params = iDefD.1) (hbody : body = iDefD.2.1) (hscope : scope = iDefD.2.2) (hclos : clos = [(Str.ofString "n", cN), (Str.ofString "inner", cI), (Str.ofString "digits", cA)]) (hn : 0 < n) (hn1 : n ≤ 16000) (hlen20 : ns.length ≤ 20) (d : Nat)
    (IH : ∀ d', d' < d → InnD w f c' D cN cA cI qual params body scope clos doc pm ctv oc vs0 tq oN tn oA oI vs ns nn lst n base d') : InnD w f c' D cN cA cI qual params body scope clos doc pm ctv oc vs0 tq oN tn oA oI vs ns nn lst n base d := by
  w_top off
  k_with_none
  k_with "LT1!" => (first | with_reducible assumption | with_reducible exact Nat.lt_succ_self _ | with_reducible exact And.left (by assumption) | with_reducible exact And.left (And.right (by assumption)) | with_reducible exact And.left (And.right (And.right (by assumption))) | with_reducible exact And.left (And.right (And.right (And.right (by assumption)))) | with_reducible exact And.left (And.right (And.right (And.right (And.right (by assumption))))) | with_reducible exact And.left (And.right (And.right (And.right (And.right (And.right (by assumption)))))) | with_reducible exact And.right (by assumption) | with_reducible exact And.right (And.right (by assumption)) | with_reducible exact And.right (And.right (And.right (by assumption))) | with_reducible exact And.right (And.right (And.right (And.right (by assumption)))))
  k_with "LT!" => (first | k_extra "LT1!" | ((with_reducible refine (Nat.lt_succ_of_lt ?_ : @LT.lt Nat _ _ (_ + 1))); first | k_extra "LT1!" | ((with_reducible refine (Nat.lt_succ_of_lt ?_ : @LT.lt Nat _ _ (_ + 1))); first | k_extra "LT1!" | ((with_reducible refine (Nat.lt_succ_of_lt ?_ : @LT.lt Nat _ _ (_ + 1))); k_extra "LT1!"))))
  k_with "NE!" => (first | with_reducible assumption | with_reducible exact Ne.symm (by assumption) | decide | ((fail_if_success (fail_if_success omega)); first | ((with_reducible refine Nat.ne_of_gt ?_); (fail_if_success (fail_if_success omega)); k_extra "LT!") | ((with_reducible refine Nat.ne_of_lt ?_); (fail_if_success (fail_if_success omega)); k_extra "LT!") | with_reducible exact And.left (by assumption) | with_reducible exact And.left (And.right (by assumption)) | with_reducible exact And.left (And.right (And.right (by assumption))) | omega))
  k_with "KNE!" => ((refine neN ?_; (try dsimp only); k_extra "NE!"))
  k_with "LBND!" => (first | assumption | decide | with_reducible exact Int.lt_of_lt_of_le (by assumption) (by decide) | with_reducible exact Int.lt_of_le_of_lt (by assumption) (by decide) | with_reducible exact Int.le_trans (by assumption) (by decide) | with_reducible exact Int.lt_of_lt_of_le (by decide) (by assumption) | with_reducible exact Int.le_trans (by decide) (by assumption) | with_reducible exact Int.natCast_nonneg _ | with_reducible exact Int.ne_of_gt (by assumption) | with_reducible exact Int.le_of_lt (by assumption) | with_reducible exact Nat.lt_of_lt_of_le (by assumption) (by decide) | with_reducible exact Nat.lt_of_le_of_lt (by assumption) (by decide) | with_reducible exact Nat.le_trans (by assumption) (by decide) | k_dflt omega | l_fact)
  k_with "ROOM!" => (((try simp only [depth_under_make, depth_under_kw, depth_in1, depth_deeper, depth_caller]); (try dsimp only [ktrTop]); first | with_reducible assumption | exact room_0 (by with_reducible assumption) | exact room_le (by with_reducible assumption) (by decide) | exact room_12 (by with_reducible assumption) (by decide)))
  k_with "UNITS!" => (((try simp only [units_in1, units_deeper, Around.mark_units, units_caller]); (try dsimp only [ktrTop]); first | with_reducible assumption | exact room_0 (by with_reducible assumption) | exact room_le (by with_reducible assumption) (by decide) | exact room_12 (by with_reducible assumption) (by decide) | exact room_123 (by with_reducible assumption) (by decide)))
  k_with "BITS!" => (first | (with_reducible assumption) | ((with_reducible apply bits_ediv2); bits_by_make) | ((with_reducible refine bits_emod2 ?_ ?_); (focus l_bnd); bits_by_make))
  k_with "binaryOp LShift int int" => ((k_here; (with_reducible refine' r_shl (by l_bnd) (by bits_by_make) (by l_bnd) (by decide) ?_)))
  k_with "inplaceOp LShift int int" => ((k_here; (with_reducible refine' ishl (by l_bnd) (by bits_by_make) (by l_bnd) (by decide) ?_)))
  k_with "binaryOp RShift int int" => ((k_here; (with_reducible refine r_shr (by l_bnd) ?_)))
  k_with "inplaceOp RShift int int" => ((k_here; (with_reducible refine ishr (by l_bnd) ?_)))
  k_with "binaryOp BitOr int int" => ((k_here; (with_reducible refine r_or (by l_bnd) (by l_bnd) (by l_bnd) ?_)))
  k_with "binaryOp BitAnd int int" => ((k_here; first | (with_reducible refine r_and1 ?_) | ((with_reducible refine r_mask (by l_bnd) ?_))))
  k_with "call builtin:divmod" => ((k_here; (with_reducible show wpAny _ _ (call (Value.builtin _) [Value.int _ _, Value.int _ _]) _ _ _); (refine' r_divmod (by assumption) (by assumption) (by l_bnd) (by first | assumption | exact noPy (by omega)) ?_); intro D' t1' t2' h' tk' F' N' l1; (try k_lt l1)))
  k_with "ALL!" => (first | assumption | (refine' allNe (by assumption)) | (refine' allNeLt (by assumption) (by first | exact Nat.le_add_right _ 1 | exact Nat.le_add_right _ 2 | exact Nat.le_add_right _ 3 | omega)))
  k_with "binaryOp Mult ref int" => ((k_here; k_dflt (refine' r_rep0 (by k_asm) (by k_asm) (by k_mem) (by l_bnd) (by l_bnd) ?_); intro D' h' F' N' l1; (try k_lt l1)))
  k_with "call builtin:len" => ((k_here; k_dflt (refine' r_len (by k_asm) (by k_mem) (by exact IntsAre.length (by assumption)) (by l_bnd) ?_); intro t' tk'))
  k_with "truthy ref" => ((k_here; k_dflt (refine' r_truth (by k_asm) (by k_mem) (by omega) ?_ ?_); (all_goals intro hTT tk')))
  k_with "call ref" => ((k_here; k_extra "call inner"))
  k_with "MEM!" => (assumption)
  with_unfolding_all (conv at hparams => rhs; whnf)
  with_unfolding_all (conv at hbody => rhs; whnf)
  with_unfolding_all (conv at hscope => rhs; whnf)
  subst hparams hbody hscope hclos
  have hnpos := hn
  unfold InnD
  intro loose mean mg mb dp un gd cn cs a ccd cl outer A₀ h₀ L m s Q E l r t2 t3 B F X N T hk C mf mc ec ev mD mN eN mA eA mI eI hd h1 hl hr hi hb hdp hu hret
  obtain ⟨d20, d10, l63, gm0, gm1, gd, gr, gmn, gneg, gpos, gdd, gMr⟩ := halves hd h1 hl (Int.le_trans hr (Int.ofNat_le.mpr hlen20))
  have hbr : l + 1 ≠ r → _ := halves_ne hd h1
  have hone : l + 1 = r → _ := halves_one hd
  obtain ⟨hl1, hl2, hl0, hll, hlD⟩ := halves_len hd h1 hl hr
  obtain ⟨gsn, gs0, gs1, gxm, hn0⟩ := halves_n hn hn1 gd d20
  have gMlen := Int.le_trans gMr hr
  have hr9 := hr
  have hv := undig_bound (n := n.toNat) (sec_sub (l := l.toNat) (d := d) hb)
  rw [sec_len hlD] at hv
  have hvb : intBits (undig n.toNat (sec ns l.toNat d)) ≤ 400000 := Nat.le_trans (bits_le_of_lt hv.1 hv.2) gxm
  have hdp0 : dp < recursionLimit := room_0 hdp
  clear hd h1 gMr d10 d20 hlen20 hn1 hl1 hlD
  k_with "call inner" => ((first
      | (refine IH (d - d / 2) (hbr (by assumption)).2.2.2 (by k_asm) (by k_asm) (by k_asm) (by k_asm) (by k_asm) (by first | exact rfl | assumption) C mf mc ec ev mD mN eN mA eA mI eI gr (hbr (by assumption)).2.2.1 gm0 hr9 hi hb (room_half hdp (hbr (by assumption)).2.2.2) (units_half hu (hbr (by assumption)).2.2.2) ?_)
      | (refine IH (d / 2) (hbr (by assumption)).2.1 (by k_asm) (by k_asm) (by k_asm) (by k_asm) (by k_asm) (by first | exact rfl | assumption) C mf mc ec ev mD mN eN mA eA mI eI gd (hbr (by assumption)).1 hl gMlen hi hb (room_half hdp (hbr (by assumption)).2.1) (units_half hu (hbr (by assumption)).2.1) ?_)); intro v' t' h' tk' ev' ev0 evb F' N'; (try dsimp only); (try k_fold))
  refine wpAny_call ?_
  k_dflt (refine' code_nest ?k1 ?k2 ?k3 ?k4 ?k5 ?kA ?kF ?kK ?k6 ?k7 ?k8 ?k9 ?kB ?_ ?c2 ?c3 ?c4 ?c5; (case kA => exact rfl); (case kF => exact rfl); (case kK => assumption); (case k1 => k_asm); (case k2 => k_asm); (case k3 => k_asm); (case k4 => k_asm); (case k5 => k_asm); (case k6 => k_mem); (case k7 => exact codeRec_news (by k_asm) (by k_mem) (by assumption) (by assumption)); (case k8 => ktr_room); (case k9 => exact BindsTo.of_eq rfl); (case c5 => decide); (case kB => exact locs rfl); (case c2 => exact rfl); (case c3 => exact rfl); (case c4 => exact rfl); k_whole; intro g' L' h' FG' F' N' B' X' T'; (try dsimp only); (try k_lift B'); (try k_fold))
  k_steps
  · have hd1 : d = 1 := hone (by assumption)
    subst hd1
    have e := sec_one hll n.toNat
    exact hret _ _ _ _ e.symm (by rw [← e]; exact hv.1) (by rw [← e]; exact hvb) (by assumption) (by assumption)
  · (with_reducible rename _ = undig n.toNat (sec ns l.toNat (d / 2)) => z1)
    (with_reducible rename _ = undig n.toNat (sec ns ((l + r) / 2 ^ (1 : Int).toNat).toNat (d - d / 2)) => z2)
    have e := sec_two (n := n.toNat) hl2
    rw [gdd, ← gmn, ← gsn, ← z1, ← z2] at e
    exact hret _ _ _ _ e (by rw [e]; exact hv.1) (by rw [e]; exact hvb) (by assumption) (by assumption)
set_option maxHeartbeats 4000000 in
theorem c_d2i_F {w : World} {loose : List Str} {mean : ExcName → Option Value} {mg mb : Str → Option Value} {dp un : Nat} {gd : Option (List Code)} {cn : Str} {cs : Scope} {a : Addr} {ccd : Value} {cl : List (Str × Addr)} {outer : List Env} {A₀ : Around} {base h₀ : Heap} {L : Addr} {m : Str → Option Value} {news : List (Addr × Obj)} {s : Shared} {Q E : Value → Shared → Prop} {D : Addr} {vs : List Value} {ns : List Int} {nn : Nat} {n : Int} {t1 : Tok} (B : Below A₀ base outer h₀) (F : Fr h₀ L s.heap m) (X : (hd.heap_39 w.params).In h₀) (N : News h₀ L s.heap ((37, tabObj #[]) :: news)) (T : Top topProg loose mean mg mb h₀) (hk : cs.kind = .function)
    (C : CodeHd base 41 37) (hne : ∀ p ∈ news, p.1 ≠ 37) (mD : (D, listOf vs.toArray nn) ∈ news) (hi : IntsAre vs ns) (hb : ∀ a ∈ ns, 0 ≤ a ∧ a < 2 ^ n.toNat) (hn : 0 < n) (hn1 : n ≤ 16000) (hlen : ns.length ≤ 20)
    (hdp : dp + 30 < recursionLimit) (hu : un + 8 * 30 < cLine)
    (hret : ∀ c' oc vs0 tq t h' tk', oc.data = .fields vs0 → vs0[1]? = some (.str (Str.ofString "_digits2int.<locals>.inner") tq) → @LT.lt Nat _ L c' → Fr h₀ L h' m → News h₀ L h' ((37, tabObj #[rawInt 47, rawInt 4, .ref c']) :: (c', oc) :: news) → Q (.int (undig n.toNat ns) t) { s with heap := h', toks := tk' }) :
    wpAny (model PySem.Challenge.rw_wo0032_02.row.prog w) (ktrTop dp un gd cn cs L a ccd cl outer) (call (.ref 42) [.ref D, .int n t1]) Q E s := by
  w_top off
  k_with_none
  k_with "LT1!" => (first | with_reducible assumption | with_reducible exact Nat.lt_succ_self _ | with_reducible exact And.left (by assumption) | with_reducible exact And.left (And.right (by assumption)) | with_reducible exact And.left (And.right (And.right (by assumption))) | with_reducible exact And.left (And.right (And.right (And.right (by assumption)))) | with_reducible exact And.left (And.right (And.right (And.right (And.right (by assumption))))) | with_reducible exact And.left (And.right (And.right (And.right (And.right (And.right (by assumption)))))) | with_reducible exact And.right (by assumption) | with_reducible exact And.right (And.right (by assumption)) | with_reducible exact And.right (And.right (And.right (by assumption))) | with_reducible exact And.right (And.right (And.right (And.right (by assumption)))))
  k_with "LT!" => (first | k_extra "LT1!" | ((with_reducible refine (Nat.lt_succ_of_lt ?_ : @LT.lt Nat _ _ (_ + 1))); first | k_extra "LT1!" | ((with_reducible refine (Nat.lt_succ_of_lt ?_ : @LT.lt Nat _ _ (_ + 1))); first | k_extra "LT1!" | ((with_reducible refine (Nat.lt_succ_of_lt ?_ : @LT.lt Nat _ _ (_ + 1))); k_extra "LT1!"))))
  k_with "NE!" => (first | with_reducible assumption | with_reducible exact Ne.symm (by assumption) | decide | ((fail_if_success (fail_if_success omega)); first | ((with_reducible refine Nat.ne_of_gt ?_); (fail_if_success (fail_if_success omega)); k_extra "LT!") | ((with_reducible refine Nat.ne_of_lt ?_); (fail_if_success (fail_if_success omega)); k_extra "LT!") | with_reducible exact And.left (by assumption) | with_reducible exact And.left (And.right (by assumption)) | with_reducible exact And.left (And.right (And.right (by assumption))) | omega))
  k_with "KNE!" => ((refine neN ?_; (try dsimp only); k_extra "NE!"))
  k_with "LBND!" => (first | assumption | decide | with_reducible exact Int.lt_of_lt_of_le (by assumption) (by decide) | with_reducible exact Int.lt_of_le_of_lt (by assumption) (by decide) | with_reducible exact Int.le_trans (by assumption) (by decide) | with_reducible exact Int.lt_of_lt_of_le (by decide) (by assumption) | with_reducible exact Int.le_trans (by decide) (by assumption) | with_reducible exact Int.natCast_nonneg _ | with_reducible exact Int.ne_of_gt (by assumption) | with_reducible exact Int.le_of_lt (by assumption) | with_reducible exact Nat.lt_of_lt_of_le (by assumption) (by decide) | with_reducible exact Nat.lt_of_le_of_lt (by assumption) (by decide) | with_reducible exact Nat.le_trans (by assumption) (by decide) | k_dflt omega | l_fact)
  k_with "ROOM!" => (((try simp only [depth_under_make, depth_under_kw, depth_in1, depth_deeper, depth_caller]); (try dsimp only [ktrTop]); first | with_reducible assumption | exact room_0 (by with_reducible assumption) | exact room_le (by with_reducible assumption) (by decide) | exact room_12 (by with_reducible assumption) (by decide)))
  k_with "UNITS!" => (((try simp only [units_in1, units_deeper, Around.mark_units, units_caller]); (try dsimp only [ktrTop]); first | with_reducible assumption | exact room_0 (by with_reducible assumption) | exact room_le (by with_reducible assumption) (by decide) | exact room_12 (by with_reducible assumption) (by decide) | exact room_123 (by with_reducible assumption) (by decide)))
  k_with "BITS!" => (first | (with_reducible assumption) | ((with_reducible apply bits_ediv2); bits_by_make) | ((with_reducible refine bits_emod2 ?_ ?_); (focus l_bnd); bits_by_make))
  k_with "binaryOp LShift int int" => ((k_here; (with_reducible refine' r_shl (by l_bnd) (by bits_by_make) (by l_bnd) (by decide) ?_)))
  k_with "inplaceOp LShift int int" => ((k_here; (with_reducible refine' ishl (by l_bnd) (by bits_by_make) (by l_bnd) (by decide) ?_)))
  k_with "binaryOp RShift int int" => ((k_here; (with_reducible refine r_shr (by l_bnd) ?_)))
  k_with "inplaceOp RShift int int" => ((k_here; (with_reducible refine ishr (by l_bnd) ?_)))
  k_with "binaryOp BitOr int int" => ((k_here; (with_reducible refine r_or (by l_bnd) (by l_bnd) (by l_bnd) ?_)))
  k_with "binaryOp BitAnd int int" => ((k_here; first | (with_reducible refine r_and1 ?_) | ((with_reducible refine r_mask (by l_bnd) ?_))))
  k_with "call builtin:divmod" => ((k_here; (with_reducible show wpAny _ _ (call (Value.builtin _) [Value.int _ _, Value.int _ _]) _ _ _); (refine' r_divmod (by assumption) (by assumption) (by l_bnd) (by first | assumption | exact noPy (by omega)) ?_); intro D' t1' t2' h' tk' F' N' l1; (try k_lt l1)))
  k_with "ALL!" => (first | assumption | (refine' allNe (by assumption)) | (refine' allNeLt (by assumption) (by first | exact Nat.le_add_right _ 1 | exact Nat.le_add_right _ 2 | exact Nat.le_add_right _ 3 | omega)))
  k_with "binaryOp Mult ref int" => ((k_here; k_dflt (refine' r_rep0 (by k_asm) (by k_asm) (by k_mem) (by l_bnd) (by l_bnd) ?_); intro D' h' F' N' l1; (try k_lt l1)))
  k_with "call builtin:len" => ((k_here; k_dflt (refine' r_len (by k_asm) (by k_mem) (by exact IntsAre.length (by assumption)) (by l_bnd) ?_); intro t' tk'))
  k_with "truthy ref" => ((k_here; k_dflt (refine' r_truth (by k_asm) (by k_mem) (by omega) ?_ ?_); (all_goals intro hTT tk')))
  k_with "call ref" => ((k_here; k_extra "call inner"))
  k_with "MEM!" => (assumption)
  have hvl := hi.length
  have hl9 : ns.length ≤ 1000000000 := Nat.le_trans hlen (by decide)
  have hv9 : vs.length ≤ 1000000000 := hvl ▸ hl9
  revert B F X N T
  k_fill
  intro B F X N T
  refine wpAny_call ?_
  k_dflt (refine' code_defC ?k1 ?k2 ?k3 ?k4 ?k5 ?kA ?kF ?kK ?k6 ?k7 ?k8 ?k9 ?kB ?kD ?_ ?c2 ?c3 ?c4; (case kA => exact rfl); (case kF => exact rfl); (case kK => assumption); (case k1 => k_asm); (case k2 => k_asm); (case k3 => k_asm); (case k4 => k_asm); (case k5 => k_asm); (case k6 => k_is); (case k7 => k_is); (case k8 => ktr_room); (case k9 => first | exact BindsTo.of_eq rfl | exact binds_K (by k_in) rfl (by k_is) rfl rfl rfl); (case kB => exact rfl); (case kD => decide +kernel); (case c2 => exact rfl); (case c3 => exact rfl); (case c4 => exact rfl); k_whole; intro g' L' h' tk' cells' FG' F' N' Y' B' X' T' l1; (try k_lt l1); k_cells Y'; (try simp only [List.cons_append, List.nil_append] at N'); (try dsimp only); (try k_lift B'); (try k_fold))
  have lN : AllLt _ news := And.right (by assumption)
  have hLL : @LT.lt Nat _ L L' := Nat.lt_of_lt_of_le FG'.ns.lt F'.above
  k_steps
  · (with_reducible rename vs = [] => hTT)
    have e0 : undig n.toNat ns = 0 := by
      have : ns = [] := List.length_eq_zero_iff.mp (by rw [← hvl, hTT]; rfl)
      subst this; rfl
    simp only [e0] at hret
    (refine hret _ _ _ _ _ _ _ (by assumption) (by assumption) ?_ (by assumption) (nsE (by assumption)); omega)
  k_dflt (refine' innD_use ?z1 ?z2 ?z3 ?z4 ?z5 ?z6 ?z7 ?z8 ?z9 ?z10 ?z11 ?mD ?y1 ?z14 ?z15 ?y2 ?z16 ?z17 ?y3 ?z18 ?z19 ?zstep ?w1 ?w2 ?w3 ?w4 ?w5 ?w6 ?zret; (case z1 => k_asm); (case z2 => k_asm); (case z3 => k_asm); (case z4 => k_asm); (case z5 => k_asm); (case z6 => exact rfl); (case z7 => kn_code); (case z8 => k_mem); (case z9 => k_mem); (case z10 => assumption); (case z11 => assumption); (case y1 => rfl); (case y2 => rfl); (case y3 => rfl); (case z14 => k_mem); (case z15 => assumption); (case z16 => k_mem); (case z17 => assumption); (case z18 => k_mem); (case z19 => assumption); (case mD => k_mem))
  case w2 => exact hi
  case w3 => rfl
  case w4 => exact hb
  case w5 => exact room_len hdp hlen
  case w6 => exact units_len hu hlen
  case w1 => exact len_pos hvl (by assumption)
  case zret =>
    intro t' h' tk' F' N'
    (try dsimp only)
    k_steps
    (refine hret _ _ _ _ _ _ _ (by assumption) (by assumption) ?_ (by assumption) (nsE (by assumption)); omega)
  case zstep => exact innD_step (by with_unfolding_all rfl) (by with_unfolding_all rfl) (by with_unfolding_all rfl) rfl hn hn1 hlen
set_option maxHeartbeats 4000000 in
theorem c_d2i_M {w : World} {c0 : Addr} {oc0 : Obj} {vs00 : Array Value} {t00 : Tok} {loose : List Str} {mean : ExcName → Option Value} {mg mb : Str → Option Value} {dp un : Nat} {gd : Option (List Code)} {cn : Str} {cs : Scope} {a : Addr} {ccd : Value} {cl : List (Str × Addr)} {outer : List Env} {A₀ : Around} {base h₀ : Heap} {L : Addr} {m : Str → Option Value} {news : List (Addr × Obj)} {s : Shared} {Q E : Value → Shared → Prop} {D : Addr} {vs : List Value} {ns : List Int} {nn : Nat} {n : Int} {t1 : Tok} (B : Below A₀ base outer h₀) (F : Fr h₀ L s.heap m) (X : (hd.heap_39 w.params).In h₀) (N : News h₀ L s.heap ((37, tabObj #[rawInt 47, rawInt 4, .ref c0]) :: (c0, oc0) :: news)) (T : Top topProg loose mean mg mb h₀) (hk : cs.kind = .function)
    (C : CodeHd base 41 37) (hoc0 : oc0.data = .fields vs00) (hvs0 : vs00[1]? = some (.str (Str.ofString "_digits2int.<locals>.inner") t00)) (hne : ∀ p ∈ news, p.1 ≠ 37) (mD : (D, listOf vs.toArray nn) ∈ news) (hi : IntsAre vs ns) (hb : ∀ a ∈ ns, 0 ≤ a ∧ a < 2 ^ n.toNat) (hn : 0 < n) (hn1 : n ≤ 16000) (hlen : ns.length ≤ 20)
    (hdp : dp + 30 < recursionLimit) (hu : un + 8 * 30 < cLine)
    (hret : ∀ t h' tk', Fr h₀ L h' m → News h₀ L h' ((37, tabObj #[rawInt 47, rawInt 4, .ref c0]) :: (c0, oc0) :: news) → Q (.int (undig n.toNat ns) t) { s with heap := h', toks := tk' }) :
    wpAny (model PySem.Challenge.rw_wo0032_02.row.prog w) (ktrTop dp un gd cn cs L a ccd cl outer) (call (.ref 42) [.ref D, .int n t1]) Q E s := by
  w_top off
  k_with_none
  k_with "LT1!" => (first | with_reducible assumption | with_reducible exact Nat.lt_succ_self _ | with_reducible exact And.left (by assumption) | with_reducible exact And.left (And.right (by assumption)) | with_reducible exact And.left (And.right (And.right (by assumption))) | with_reducible exact And.left (And.right (And.right (And.right (by assumption)))) | with_reducible exact And.left (And.right (And.right (And.right (And.right (by assumption))))) | with_reducible exact And.left (And.right (And.right (And.right (And.right (And.right (by assumption)))))) | with_reducible exact And.right (by assumption) | with_reducible exact And.right (And.right (by assumption)) | with_reducible exact And.right (And.right (And.right (by assumption))) | with_reducible exact And.right (And.right (And.right (And.right (by assumption)))))
  k_with "LT!" => (first | k_extra "LT1!" | ((with_reducible refine (Nat.lt_succ_of_lt ?_ : @LT.lt Nat _ _ (_ + 1))); first | k_extra "LT1!" | ((with_reducible refine (Nat.lt_succ_of_lt ?_ : @LT.lt Nat _ _ (_ + 1))); first | k_extra "LT1!" | ((with_reducible refine (Nat.lt_succ_of_lt ?_ : @LT.lt Nat _ _ (_ + 1))); k_extra "LT1!"))))
  k_with "NE!" => (first | with_reducible assumption | with_reducible exact Ne.symm (by assumption) | decide | ((fail_if_success (fail_if_success omega)); first | ((with_reducible refine Nat.ne_of_gt ?_); (fail_if_success (fail_if_success omega)); k_extra "LT!") | ((with_reducible refine Nat.ne_of_lt ?_); (fail_if_success (fail_if_success omega)); k_extra "LT!") | with_reducible exact And.left (by assumption) | with_reducible exact And.left (And.right (by assumption)) | with_reducible exact And.left (And.right (And.right (by assumption))) | omega))
  k_with "KNE!" => ((refine neN ?_; (try dsimp only); k_extra "NE!"))
  k_with "LBND!" => (first | assumption | decide | with_reducible exact Int.lt_of_lt_of_le (by assumption) (by decide) | with_reducible exact Int.lt_of_le_of_lt (by assumption) (by decide) | with_reducible exact Int.le_trans (by assumption) (by decide) | with_reducible exact Int.lt_of_lt_of_le (by decide) (by assumption) | with_reducible exact Int.le_trans (by decide) (by assumption) | with_reducible exact Int.natCast_nonneg _ | with_reducible exact Int.ne_of_gt (by assumption) | with_reducible exact Int.le_of_lt (by assumption) | with_reducible exact Nat.lt_of_lt_of_le (by assumption) (by decide) | with_reducible exact Nat.lt_of_le_of_lt (by assumption) (by decide) | with_reducible exact Nat.le_trans (by assumption) (by decide) | k_dflt omega | l_fact)
  k_with "ROOM!" => (((try simp only [depth_under_make, depth_under_kw, depth_in1, depth_deeper, depth_caller]); (try dsimp only [ktrTop]); first | with_reducible assumption | exact room_0 (by with_reducible assumption) | exact room_le (by with_reducible assumption) (by decide) | exact room_12 (by with_reducible assumption) (by decide)))
  k_with "UNITS!" => (((try simp only [units_in1, units_deeper, Around.mark_units, units_caller]); (try dsimp only [ktrTop]); first | with_reducible assumption | exact room_0 (by with_reducible assumption) | exact room_le (by with_reducible assumption) (by decide) | exact room_12 (by with_reducible assumption) (by decide) | exact room_123 (by with_reducible assumption) (by decide)))
  k_with "BITS!" => (first | (with_reducible assumption) | ((with_reducible apply bits_ediv2); bits_by_make) | ((with_reducible refine bits_emod2 ?_ ?_); (focus l_bnd); bits_by_make))
  k_with "binaryOp LShift int int" => ((k_here; (with_reducible refine' r_shl (by l_bnd) (by bits_by_make) (by l_bnd) (by decide) ?_)))
  k_with "inplaceOp LShift int int" => ((k_here; (with_reducible refine' ishl (by l_bnd) (by bits_by_make) (by l_bnd) (by decide) ?_)))
  k_with "binaryOp RShift int int" => ((k_here; (with_reducible refine r_shr (by l_bnd) ?_)))
  k_with "inplaceOp RShift int int" => ((k_here; (with_reducible refine ishr (by l_bnd) ?_)))
  k_with "binaryOp BitOr int int" => ((k_here; (with_reducible refine r_or (by l_bnd) (by l_bnd) (by l_bnd) ?_)))
  k_with "binaryOp BitAnd int int" => ((k_here; first | (with_reducible refine r_and1 ?_) | ((with_reducible refine r_mask (by l_bnd) ?_))))
  k_with "call builtin:divmod" => ((k_here; (with_reducible show wpAny _ _ (call (Value.builtin _) [Value.int _ _, Value.int _ _]) _ _ _); (refine' r_divmod (by assumption) (by assumption) (by l_bnd) (by first | assumption | exact noPy (by omega)) ?_); intro D' t1' t2' h' tk' F' N' l1; (try k_lt l1)))
  k_with "ALL!" => (first | assumption | (refine' allNe (by assumption)) | (refine' allNeLt (by assumption) (by first | exact Nat.le_add_right _ 1 | exact Nat.le_add_right _ 2 | exact Nat.le_add_right _ 3 | omega)))
  k_with "binaryOp Mult ref int" => ((k_here; k_dflt (refine' r_rep0 (by k_asm) (by k_asm) (by k_mem) (by l_bnd) (by l_bnd) ?_); intro D' h' F' N' l1; (try k_lt l1)))
  k_with "call builtin:len" => ((k_here; k_dflt (refine' r_len (by k_asm) (by k_mem) (by exact IntsAre.length (by assumption)) (by l_bnd) ?_); intro t' tk'))
  k_with "truthy ref" => ((k_here; k_dflt (refine' r_truth (by k_asm) (by k_mem) (by omega) ?_ ?_); (all_goals intro hTT tk')))
  k_with "call ref" => ((k_here; k_extra "call inner"))
  k_with "MEM!" => (assumption)
  have hvl := hi.length
  have hl9 : ns.length ≤ 1000000000 := Nat.le_trans hlen (by decide)
  have hv9 : vs.length ≤ 1000000000 := hvl ▸ hl9
  revert B F X N T
  k_fill
  intro B F X N T
  refine wpAny_call ?_
  k_dflt (refine' code_defC ?k1 ?k2 ?k3 ?k4 ?k5 ?kA ?kF ?kK ?k6 ?k7 ?k8 ?k9 ?kB ?kD ?_ ?c2 ?c3 ?c4; (case kA => exact rfl); (case kF => exact rfl); (case kK => assumption); (case k1 => k_asm); (case k2 => k_asm); (case k3 => k_asm); (case k4 => k_asm); (case k5 => k_asm); (case k6 => k_is); (case k7 => k_is); (case k8 => ktr_room); (case k9 => first | exact BindsTo.of_eq rfl | exact binds_K (by k_in) rfl (by k_is) rfl rfl rfl); (case kB => exact rfl); (case kD => decide +kernel); (case c2 => exact rfl); (case c3 => exact rfl); (case c4 => exact rfl); k_whole; intro g' L' h' tk' cells' FG' F' N' Y' B' X' T' l1; (try k_lt l1); k_cells Y'; (try simp only [List.cons_append, List.nil_append] at N'); (try dsimp only); (try k_lift B'); (try k_fold))
  have lN : AllLt _ news := And.right (And.right (by assumption))
  have hLL : @LT.lt Nat _ L L' := Nat.lt_of_lt_of_le FG'.ns.lt F'.above
  k_steps
  · (with_reducible rename vs = [] => hTT)
    have e0 : undig n.toNat ns = 0 := by
      have : ns = [] := List.length_eq_zero_iff.mp (by rw [← hvl, hTT]; rfl)
      subst this; rfl
    simp only [e0] at hret
    exact hret _ _ _ (by assumption) (nsF (by assumption))
  k_dflt (refine' innD_use ?z1 ?z2 ?z3 ?z4 ?z5 ?z6 ?z7 ?z8 ?z9 ?z10 ?z11 ?mD ?y1 ?z14 ?z15 ?y2 ?z16 ?z17 ?y3 ?z18 ?z19 ?zstep ?w1 ?w2 ?w3 ?w4 ?w5 ?w6 ?zret; (case z1 => k_asm); (case z2 => k_asm); (case z3 => k_asm); (case z4 => k_asm); (case z5 => k_asm); (case z6 => exact rfl); (case z7 => kn_code); (case z8 => k_mem); (case z9 => k_mem); (case z10 => assumption); (case z11 => assumption); (case y1 => rfl); (case y2 => rfl); (case y3 => rfl); (case z14 => k_mem); (case z15 => assumption); (case z16 => k_mem); (case z17 => assumption); (case z18 => k_mem); (case z19 => assumption); (case mD => k_mem))
  case w2 => exact hi
  case w3 => rfl
  case w4 => exact hb
  case w5 => exact room_len hdp hlen
  case w6 => exact units_len hu hlen
  case w1 => exact len_pos hvl (by assumption)
  case zret =>
    intro t' h' tk' F' N'
    (try dsimp only)
    k_steps
    exact hret _ _ _ (by assumption) (nsF (by assumption))
  case zstep => exact innD_step (by with_unfolding_all rfl) (by with_unfolding_all rfl) (by with_unfolding_all rfl) rfl hn hn1 hlen
end Mine
end
section
namespace Mine
def RPost (h₀ : Heap) (L : Addr) (s : Shared) (m₀ : Str → Option Value) (fg : List Str) (rn : Str) (I₀ : Addr) (it : Obj) (Dq : Addr) (rest : List (Addr × Obj)) (P : Int → List Int → Prop) (f : Flow) (s₂ : Shared) : Prop :=
  f = .next ∧ ∃ h' tk m' vs' ns' nn' r' tr', s₂ = { s with heap := h', toks := tk } ∧ Fr h₀ L h' m' ∧ News h₀ L h' ((I₀, it) :: (Dq, listOf (vs' : List Value).toArray nn') :: rest) ∧ IntsAre vs' ns' ∧ m' rn = some (.int r' tr') ∧ (∀ z, z ≠ rn → fg.contains z = false → m' z = m₀ z) ∧ P r' ns'
section
variable {prog : Program} {w : World} {A : Around} {E : Value → Shared → Prop} {Q : Flow → Shared → Prop} {s : Shared} {env : Env} {h₀ : Heap} {x : Str} {body : List Stmt}
theorem RPost.intro {L : Addr} {m₀ m' : Str → Option Value} {fg : List Str} {rn : Str} {I₀ Dq : Addr} {it : Obj} {rest : List (Addr × Obj)} {P : Int → List Int → Prop} {h' : Heap} {tk : Nat} {vs' : List Value} {ns' : List Int} {nn' : Nat} {r' : Int} {tr' : Tok}
    (F : Fr h₀ L h' m') (N : News h₀ L h' ((I₀, it) :: (Dq, listOf vs'.toArray nn') :: rest)) (hi : IntsAre vs' ns') (hr : m' rn = some (.int r' tr')) (hz : ∀ z, z ≠ rn → fg.contains z = false → m' z = m₀ z) (hP : P r' ns') :
    RPost h₀ L s m₀ fg rn I₀ it Dq rest P .next { s with heap := h', toks := tk } := ⟨rfl, h', tk, m', vs', ns', nn', r', tr', rfl, F, N, hi, hr, hz, hP⟩
theorem rev_rest {I₀ Dq Da : Addr} {lo : Obj} {m₀ : Str → Option Value} {fg : List Str} {rn : Str} {rest : List (Addr × Obj)} (I : List Int → Int → List Int → Prop)
    (hx : fg.contains x = true) (hrx : rn ≠ x) (hrf : fg.contains rn = false) (hlp : (Da, lo) ∈ rest) (hoff : ∀ p ∈ rest, p.1 ≠ I₀) (hDq : Dq ≠ I₀)
    (turn : ∀ a t rem r tr vs ns nn (u : Str → Option Value) it h tk, IntsAre vs ns → I (a :: rem) r ns → Fr h₀ env.locals h (fun y => if y = x then some (.int a t) else if y = rn then some (.int r tr) else if fg.contains y then u y else m₀ y) →
      News h₀ env.locals h ((I₀, it) :: (Dq, listOf vs.toArray nn) :: rest) →
      wpAny (model prog w) A (execs body env) (RPost h₀ env.locals { s with heap := h, toks := tk } m₀ fg rn I₀ it Dq rest (I rem)) E { s with heap := h, toks := tk })
    (done : ∀ r tr vs ns nn (u : Str → Option Value) h tk, IntsAre vs ns → I [] r ns → Fr h₀ env.locals h (fun y => if y = rn then some (.int r tr) else if fg.contains y then u y else m₀ y) → News h₀ env.locals h ((Dq, listOf vs.toArray nn) :: rest) → Q .next { s with heap := h, toks := tk }) :
    ∀ (rv : List Value) (rem : List Int), IntsAre rv rem → ∀ r tr vs ns nn (u : Str → Option Value), IntsAre vs ns → I rem r ns →
      RevRest prog w A E h₀ env x body Q s I₀ (Da, lo) rv (fun y => if y = rn then some (.int r tr) else if fg.contains y then u y else m₀ y) ((Dq, listOf vs.toArray nn) :: rest)
  | _, _, .nil, r, tr, vs, ns, nn, u, hi, hI => fun h tk F N => done r tr vs ns nn u h tk hi hI F N
  | _, _, .cons a t hrv, r, tr, vs, ns, nn, u, hi, hI => fun it h tk hc F N => by
    refine wpAny_mono (turn a t _ r tr vs ns nn u it h tk hi hI F N) (fun f s₂ p => ?_) fun _ _ e => e
    obtain ⟨rfl, h', tk', m', vs', ns', nn', r', tr', rfl, F', N', hi', hr', hz', hI'⟩ := p
    refine ⟨h', tk', m', (Dq, listOf vs'.toArray nn') :: rest, rfl, F', N', fun p hp => ?_, .tail _ hlp, ?_⟩
    · rcases List.mem_cons.mp hp with rfl | hp
      · exact hDq
      · exact hoff p hp
    · have em : m' = fun y => if y = rn then some (.int r' tr') else if fg.contains y then m' y else m₀ y := by
        funext y
        by_cases h1 : y = rn
        · subst h1; simp [hr']
        · rw [if_neg h1]
          cases h2 : fg.contains y with
          | true => simp
          | false => simp only [Bool.false_eq_true, if_false]; exact hz' y h1 h2
      rw [em]
      exact rev_rest I hx hrx hrf hlp hoff hDq turn done _ _ hrv r' tr' vs' ns' nn' m' hi' hI'
theorem ints_rev : ∀ {vs : List Value} {ns : List Int}, IntsAre vs ns → IntsAre vs.reverse ns.reverse := by
  intro vs ns h
  induction h with
  | nil => exact .nil
  | cons n t h ih =>
    rw [List.reverse_cons, List.reverse_cons]
    clear h
    revert ih
    generalize List.reverse _ = a
    generalize List.reverse _ = b
    intro ih
    induction ih with
    | nil => exact .cons _ _ .nil
    | cons _ _ _ ih2 => exact .cons _ _ ih2
theorem rev_loop {I₀ Dq Da : Addr} {m₀ : Str → Option Value} {fg : List Str} {rn : Str} {rest : List (Addr × Obj)} {av : List Value} {as : List Int} {an : Nat} {r0 : Int} {tr0 : Tok} {vs0 : List Value} {ns0 : List Int} {nn0 : Nat} (I : List Int → Int → List Int → Prop)
    (hh : A.handled = none) (F : Fr h₀ env.locals s.heap m₀) (N : News h₀ env.locals s.heap ((I₀, revObj Da ((av.length : Int) - 1)) :: (Dq, listOf vs0.toArray nn0) :: rest)) (ha : IntsAre av as) (hr0 : m₀ rn = some (.int r0 tr0)) (hi0 : IntsAre vs0 ns0) (hI0 : I as.reverse r0 ns0)
    (hx : fg.contains x = true) (hrx : rn ≠ x) (hrf : fg.contains rn = false) (hlp : (Da, listOf av.toArray an) ∈ rest) (hoff : ∀ p ∈ rest, p.1 ≠ I₀) (hDq : Dq ≠ I₀)
    (turn : ∀ a t rem r tr vs ns nn (u : Str → Option Value) it h tk, IntsAre vs ns → I (a :: rem) r ns → Fr h₀ env.locals h (fun y => if y = x then some (.int a t) else if y = rn then some (.int r tr) else if fg.contains y then u y else m₀ y) →
      News h₀ env.locals h ((I₀, it) :: (Dq, listOf vs.toArray nn) :: rest) →
      wpAny (model prog w) A (execs body env) (RPost h₀ env.locals { s with heap := h, toks := tk } m₀ fg rn I₀ it Dq rest (I rem)) E { s with heap := h, toks := tk })
    (done : ∀ r tr vs ns nn (u : Str → Option Value) h tk, IntsAre vs ns → I [] r ns → Fr h₀ env.locals h (fun y => if y = rn then some (.int r tr) else if fg.contains y then u y else m₀ y) → News h₀ env.locals h ((Dq, listOf vs.toArray nn) :: rest) → Q .next { s with heap := h, toks := tk }) :
    wpAny (model prog w) A (pyIter (.ref I₀)) (fun it s₂ => LoopAtV prog w A h₀ env x body Q E it s₂) E s := by
  have em : m₀ = fun y => if y = rn then some (.int r0 tr0) else if fg.contains y then m₀ y else m₀ y := by
    funext y
    by_cases h1 : y = rn
    · subst h1; simp [hr0]
    · simp [h1]
  have hof : OffI I₀ (revObj Da ((av.length : Int) - 1)) ((Dq, listOf vs0.toArray nn0) :: rest) := by
    refine ⟨.inl hDq, ?_⟩
    clear N hlp turn done
    induction rest with
    | nil => exact trivial
    | cons p r ih => exact ⟨.inl (hoff p (.head _)), ih fun q hq => hoff q (.tail _ hq)⟩
  refine iter_revUnr hh F N hof (.tail _ hlp) rfl rfl ?_
  rw [em]
  have := rev_rest (prog := prog) (w := w) (A := A) (E := E) (Q := Q) (s := s) (body := body) (m₀ := m₀) I hx hrx hrf hlp hoff hDq turn done av.reverse as.reverse (ints_rev ha) r0 tr0 vs0 ns0 nn0 m₀ hi0 hI0
  exact this
end
end Mine
end
section
namespace Mine
open Builtin.Int (intBits)
structure LI (n : Nat) (x b : Int) (m : Nat) (rem : List Int) (r : Int) (ns : List Int) : Prop where
  e : rem = (digs n x rem.length).reverse
  r : r = (x / 2 ^ (n * rem.length)) % b
  q : undig n ns.reverse = (x / 2 ^ (n * rem.length)) / b
  bd : ∀ a ∈ ns, 0 ≤ a ∧ a < 2 ^ n
  len : ns.length + rem.length = m
theorem LI.start {n : Nat} {x b : Int} {m : Nat} (hx : 0 ≤ x) (hb : 0 < b) (hlt : x < 2 ^ (n * m)) : LI n x b m (digs n x m).reverse 0 [] := by
  have hl : (digs n x m).reverse.length = m := by rw [List.length_reverse, digs_len]
  have h0 : x / 2 ^ (n * m) = 0 := Int.ediv_eq_zero_of_lt hx hlt
  refine ⟨by rw [hl], by rw [hl, h0]; rfl, by rw [hl, h0]; simp [undig], fun a ha => (nomatch ha), by rw [hl]; simp⟩
theorem digs_succ (n : Nat) (x : Int) (k : Nat) : (digs n x (k + 1)).reverse = (x / 2 ^ (n * k) % 2 ^ n) :: (digs n x k).reverse := by
  unfold digs
  rw [List.range_succ, List.map_append, List.reverse_append]
  rfl
theorem LI.head {n : Nat} {x b : Int} {m : Nat} {a : Int} {rem : List Int} {r : Int} {ns : List Int} (h : LI n x b m (a :: rem) r ns) : a = x / 2 ^ (n * rem.length) % 2 ^ n ∧ rem = (digs n x rem.length).reverse := by
  have h1 := h.e
  rw [List.length_cons, digs_succ] at h1
  exact ⟨(List.cons.inj h1).1, (List.cons.inj h1).2⟩
theorem LI.bounds {n : Nat} {x b : Int} {m : Nat} {a : Int} {rem : List Int} {r : Int} {ns : List Int} (hb : 0 < b) (h : LI n x b m (a :: rem) r ns) : 0 ≤ r ∧ r < b ∧ 0 ≤ a ∧ a < 2 ^ n := by
  refine ⟨by rw [h.r]; exact Int.emod_nonneg _ (by omega), by rw [h.r]; exact Int.emod_lt_of_pos _ hb, ?_, ?_⟩
  · rw [h.head.1]; exact (mod_b _ _).1
  · rw [h.head.1]; exact (mod_b _ _).2
theorem LI.lt {n : Nat} {x b : Int} {m : Nat} {a : Int} {rem : List Int} {r : Int} {ns : List Int} (hb : 0 < b) (h : LI n x b m (a :: rem) r ns) : 0 ≤ r * 2 ^ n + a ∧ r * 2 ^ n + a < b * 2 ^ n := by
  obtain ⟨h1, h2, h3, h4⟩ := h.bounds hb
  have hp := pow2_pos n
  refine ⟨Int.add_nonneg (Int.mul_nonneg h1 (Int.le_of_lt hp)) h3, ?_⟩
  have h5 : (r + 1) * 2 ^ n ≤ b * 2 ^ n := Int.mul_le_mul_of_nonneg_right (by omega) (Int.le_of_lt hp)
  rw [Int.add_mul, Int.one_mul] at h5
  omega
theorem LI.step {n : Nat} {x b : Int} {m : Nat} {a : Int} {rem : List Int} {r : Int} {ns : List Int} {q r' : Int} (hb : 0 < b) (h : LI n x b m (a :: rem) r ns) (eq : q = (r * 2 ^ n + a) / b) (er : r' = (r * 2 ^ n + a) % b) : LI n x b m rem r' (ns ++ [q]) := by
  have hlt := h.lt hb
  have hp := pow2_pos n
  have e1 : x / 2 ^ (n * (rem.length + 1)) = x / 2 ^ (n * rem.length) / 2 ^ n := by
    rw [Nat.mul_succ, Int.pow_add, ← Int.ediv_ediv_of_nonneg (Int.le_of_lt (pow2_pos _))]
  have h2 := h.r
  have h3 := h.q
  rw [List.length_cons, e1] at h2 h3
  have ha := h.head.1
  generalize hV : x / 2 ^ (n * rem.length) = V at *
  have e2 := Int.emod_add_mul_ediv V (2 ^ n)
  have e3 := Int.emod_add_mul_ediv (V / 2 ^ n) b
  rw [← h2] at e3
  rw [← ha] at e2
  have e4 := Int.emod_add_mul_ediv (r * 2 ^ n + a) b
  rw [← eq, ← er] at e4
  have hr0 : 0 ≤ r' := by rw [er]; exact Int.emod_nonneg _ (by omega)
  have hr1 : r' < b := by rw [er]; exact Int.emod_lt_of_pos _ hb
  have key : r' + b * (V / 2 ^ n / b * 2 ^ n + q) = V := by
    rw [Int.mul_add, ← Int.mul_assoc]
    have h5 : b * (V / 2 ^ n / b) = V / 2 ^ n - r := by omega
    rw [h5, Int.sub_mul, Int.mul_comm (V / 2 ^ n)]
    omega
  have hu := (Int.ediv_emod_unique (a := V) (r := r') (q := V / 2 ^ n / b * 2 ^ n + q) hb).mpr ⟨key, hr0, hr1⟩
  refine ⟨h.head.2, by rw [hV]; exact hu.2.symm, ?_, ?_, ?_⟩
  · rw [hV, List.reverse_append]
    show undig n (q :: ns.reverse) = V / b
    have : undig n (q :: ns.reverse) = q + 2 ^ n * undig n ns.reverse := rfl
    rw [this, h3, hu.1, Int.mul_comm]; omega
  · intro c hc
    rcases List.mem_append.mp hc with hc | hc
    · exact h.bd c hc
    · rw [List.mem_singleton.mp hc, eq]
      exact ⟨Int.ediv_nonneg hlt.1 (Int.le_of_lt hb), Int.ediv_lt_of_lt_mul hb (by rw [Int.mul_comm (2 ^ n)]; exact hlt.2)⟩
  · have := h.len
    simp only [List.length_cons, List.length_append, List.length_nil] at this ⊢
    omega
theorem LI.fin {n : Nat} {x b : Int} {m : Nat} {r : Int} {ns : List Int} (h : LI n x b m [] r ns) : r = x % b ∧ undig n ns.reverse = x / b ∧ ns.length = m ∧ ∀ a ∈ ns.reverse, 0 ≤ a ∧ a < 2 ^ n := by
  have h1 := h.r; have h2 := h.q; have h3 := h.len
  simp only [List.length_nil, Nat.mul_zero, Int.pow_zero, Int.ediv_one, Nat.add_zero] at h1 h2 h3
  exact ⟨h1, h2, h3, fun a ha => h.bd a (List.mem_reverse.mp ha)⟩
end Mine
namespace Mine
theorem cd_lt {base h₀ h : Heap} {c P : Addr} (C : CodeHd base c P) (k : base.StaysIn h₀) (k2 : ∀ b o, h₀.get? b = some o → h.get? b = some o) : @LT.lt Nat _ c h₀.objs.size := by
  obtain ⟨o, vs, file, tf, flags, tg, inF, text, tt, e, r⟩ := C
  exact Heap.lt_size (k _ _ e)
end Mine
namespace Mine
theorem ndh {h₀ h : Heap} {L : Addr} {x : Addr × Obj} {l : List (Addr × Obj)} (N : News h₀ L h (x :: l)) : News h₀ L h l := fun p hp => N p (.tail _ hp)
theorem ints_snoc {x : Int} {u : Tok} : ∀ {vs : List Value} {ns : List Int}, IntsAre vs ns → IntsAre (vs ++ [.int x u]) (ns ++ [x])
  | _, _, .nil => .cons _ _ .nil
  | _, _, .cons i t h => .cons i t (ints_snoc h)
end Mine
namespace Mine
open Builtin.Int (intBits)
theorem ceil_facts {x n : Int} (hn : 0 < n) : intBits x ≤ n.toNat * ((((intBits x : Nat) : Int) + n - 1) / n).toNat ∧ ((intBits x : Int) ≤ 20 * n → ((((intBits x : Nat) : Int) + n - 1) / n).toNat ≤ 20) := by
  have hm0 : 0 ≤ (((intBits x : Nat) : Int) + n - 1) / n := Int.ediv_nonneg (by omega) (by omega)
  have h1 := Int.emod_add_mul_ediv (((intBits x : Nat) : Int) + n - 1) n
  have hrem := Int.emod_lt_of_pos (((intBits x : Nat) : Int) + n - 1) hn
  refine ⟨?_, fun h => ?_⟩
  · have h2 : ((n.toNat * ((((intBits x : Nat) : Int) + n - 1) / n).toNat : Nat) : Int) = n * ((((intBits x : Nat) : Int) + n - 1) / n) := by
      rw [Int.natCast_mul, Int.toNat_of_nonneg hm0, Int.toNat_of_nonneg (Int.le_of_lt hn)]
    omega
  · have : (((intBits x : Nat) : Int) + n - 1) / n < 21 := Int.ediv_lt_of_lt_mul hn (by omega)
    omega
end Mine
namespace Mine
section
variable {prog : Program} {w : World} {A : Around} {E : Value → Shared → Prop} {s : Shared} {h₀ : Heap} {L D : Addr} {m : Str → Option Value} {news news' : List (Addr × Obj)}
theorem r_rev {vs : List Value} {n : Nat} {Q : Value → Shared → Prop} (F : Fr h₀ L s.heap m) (N : News h₀ L s.heap news) (U : Upd D (listOf vs.toArray n) (listOf vs.reverse.toArray n) news news') (hz : vs.length ≤ 1000000)
    (h : ∀ h', Fr h₀ L h' m → News h₀ L h' news' → Q .none { s with heap := h' }) : wpAny (model prog w) A (call (.builtin "list.reverse") [.ref D]) Q E s :=
  kl_reverse F N (l := vs.reverse) (by simp) U (by rw [sizeLine_eq]; simp; omega) h
end
end Mine
end
section
set_option maxRecDepth 100000
namespace Mine
open Builtin.Int (intBits)
theorem c_i2d {w : World} {loose : List Str} {mean : ExcName → Option Value} {mg mb : Str → Option Value} {dp un : Nat} {gd : Option (List Code)} {cn : Str} {cs : Scope} {a : Addr} {ccd : Value} {cl : List (Str × Addr)} {outer : List Env} {A₀ : Around} {base h₀ : Heap} {L : Addr} {m : Str → Option Value} {news : List (Addr × Obj)} {s : Shared} {Q E : Value → Shared → Prop} {ts : List (Addr × Obj)} {x n : Int} {t t1 : Tok} (ht : Tab 30 32 4 (Str.ofString "_int2digits.<locals>.inner") 41 ts) (B : Below A₀ base outer h₀) (F : Fr h₀ L s.heap m) (X : (hd.heap_39 w.params).In h₀) (N : News h₀ L s.heap (ts ++ news)) (T : Top topProg loose mean mg mb h₀) (hk : cs.kind = .function)
    (C : CodeHd base 34 30) (hL41 : @LT.lt Nat _ 41 L) (hne : ∀ p ∈ news, p.1 ≠ 30) (hn : 0 < n) (hx : 0 ≤ x) (hn1 : n ≤ 16000) (hx1 : intBits x ≤ 64000) (hx2 : intBits x ≤ 20 * n)
    (hdp : dp + 30 < recursionLimit) (hu : un + 8 * 30 < cLine)
    (hret : ∀ D ts' vs' h' tk', Tab 30 32 4 (Str.ofString "_int2digits.<locals>.inner") 41 ts' → IntsAre vs' (digs n.toNat x ((((intBits x : Nat) : Int) + n - 1) / n).toNat) → Fr h₀ L h' m → News h₀ L h' ((D, listOf vs'.toArray 0) :: (ts' ++ news)) → AllLt D news → Q (.ref D) { s with heap := h', toks := tk' }) :
    wpAny (model PySem.Challenge.rw_wo0032_02.row.prog w) (ktrTop dp un gd cn cs L a ccd cl outer) (call (.ref 35) [.int x t, .int n t1]) Q E s := by
  rcases ht with rfl | ⟨c, oc, vs, tq, rfl, h1, h2, h3⟩
  · refine c_i2d_F B F X N T hk C hne hn hx hn1 hx1 hx2 hdp hu ?_
    intro D c' oc vs0 t vs' h' tk' hi h1 h2 h3 F' N' l1
    exact hret D _ vs' h' tk' (.made h1 h2 (Nat.lt_trans hL41 h3)) hi F' N' l1
  · refine c_i2d_M B F X N T hk C h1 h2 hne hn hx hn1 hx1 hx2 hdp hu ?_
    intro D vs' h' tk' hi F' N' l1
    exact hret D _ vs' h' tk' (.made h1 h2 h3) hi F' N' l1
theorem c_d2i {w : World} {loose : List Str} {mean : ExcName → Option Value} {mg mb : Str → Option Value} {dp un : Nat} {gd : Option (List Code)} {cn : Str} {cs : Scope} {a : Addr} {ccd : Value} {cl : List (Str × Addr)} {outer : List Env} {A₀ : Around} {base h₀ : Heap} {L : Addr} {m : Str → Option Value} {news : List (Addr × Obj)} {s : Shared} {Q E : Value → Shared → Prop} {ts : List (Addr × Obj)} {D : Addr} {vs : List Value} {ns : List Int} {nn : Nat} {n : Int} {t1 : Tok} (ht : Tab 37 47 4 (Str.ofString "_digits2int.<locals>.inner") 41 ts) (B : Below A₀ base outer h₀) (F : Fr h₀ L s.heap m) (X : (hd.heap_39 w.params).In h₀) (N : News h₀ L s.heap (ts ++ news)) (T : Top topProg loose mean mg mb h₀) (hk : cs.kind = .function)
    (C : CodeHd base 41 37) (hL41 : @LT.lt Nat _ 41 L) (hne : ∀ p ∈ news, p.1 ≠ 37) (mD : (D, listOf vs.toArray nn) ∈ news) (hi : IntsAre vs ns) (hb : ∀ a ∈ ns, 0 ≤ a ∧ a < 2 ^ n.toNat) (hn : 0 < n) (hn1 : n ≤ 16000) (hlen : ns.length ≤ 20)
    (hdp : dp + 30 < recursionLimit) (hu : un + 8 * 30 < cLine)
    (hret : ∀ ts' t h' tk', Tab 37 47 4 (Str.ofString "_digits2int.<locals>.inner") 41 ts' → Fr h₀ L h' m → News h₀ L h' (ts' ++ news) → Q (.int (undig n.toNat ns) t) { s with heap := h', toks := tk' }) :
    wpAny (model PySem.Challenge.rw_wo0032_02.row.prog w) (ktrTop dp un gd cn cs L a ccd cl outer) (call (.ref 42) [.ref D, .int n t1]) Q E s := by
  rcases ht with rfl | ⟨c, oc, vs, tq, rfl, h1, h2, h3⟩
  · refine c_d2i_F B F X N T hk C hne mD hi hb hn hn1 hlen hdp hu ?_
    intro c' oc vs0 tq t h' tk' h1 h2 h3 F' N'
    exact hret _ t h' tk' (.made h1 h2 (Nat.lt_trans hL41 h3)) F' N'
  · refine c_d2i_M B F X N T hk C h1 h2 hne mD hi hb hn hn1 hlen hdp hu ?_
    intro t h' tk' F' N'
    exact hret _ t h' tk' (.made h1 h2 h3) F' N'
theorem permA {h₀ h : Heap} {L : Addr} {q a : Addr × Obj} {t4 t5 l : List (Addr × Obj)} (N : News h₀ L h (q :: a :: (t4 ++ (t5 ++ l)))) : News h₀ L h (t5 ++ (q :: (t4 ++ l))) := cb_drop N fun p hp => by
  simp only [List.mem_append, List.mem_cons] at hp ⊢
  rcases hp with h | h | h | h <;> simp [h]
theorem permB {h₀ h : Heap} {L : Addr} {q a : Addr × Obj} {t4 t5 l : List (Addr × Obj)} (N : News h₀ L h (a :: (t5 ++ (q :: (t4 ++ l))))) : News h₀ L h (a :: (t4 ++ (t5 ++ l))) := cb_drop N fun p hp => by
  simp only [List.mem_append, List.mem_cons] at hp ⊢
  rcases hp with h | h | h | h <;> simp [h]


set_option maxHeartbeats 4000000 in
theorem c_dmp {w : World} {loose : List Str} {mean : ExcName → Option Value} {mg mb : Str → Option Value} {dp un : Nat} {gd : Option (List Code)} {cn : Str} {cs : Scope} {a : Addr} {ccd : Value} {cl : List (Str × Addr)} {outer : List Env} {A₀ : Around} {base h₀ : Heap} {L : Addr} {m : Str → Option Value} {news : List (Addr × Obj)} {s : Shared} {Q E : Value → Shared → Prop} {k : Nat} {ts44 ts51 : List (Addr × Obj)} {x b : Int} {t t1 : Tok} (HD : Div2OK w k) (h44 : Tab 30 32 4 (Str.ofString "_int2digits.<locals>.inner") 41 ts44) (h51 : Tab 37 47 4 (Str.ofString "_digits2int.<locals>.inner") 41 ts51) (B : Below A₀ base outer h₀) (F : Fr h₀ L s.heap m) (X : (hd.heap_39 w.params).In h₀) (N : News h₀ L s.heap (ts44 ++ (ts51 ++ news))) (T : Top topProg loose mean mg mb h₀) (hk : cs.kind = .function)
    (C1 : CodeHd base 34 30) (C2 : CodeHd base 41 37) (hne1 : ∀ p ∈ news, p.1 ≠ 30) (hne2 : ∀ p ∈ news, p.1 ≠ 37) (hb : 0 < b) (hx : 0 ≤ x) (hk4 : (intBits b : Int) ≤ 4000 * 2 ^ k) (hn1 : intBits b ≤ 16000) (hx1 : intBits x ≤ 64000) (hx2 : intBits x ≤ 20 * intBits b)
    (hdp : dp + (40 + 2 * k) < recursionLimit) (hu : un + 8 * (40 + 2 * k) < cLine)
    (hret : ∀ D ts44' ts51' t1 t2 h' tk', Tab 30 32 4 (Str.ofString "_int2digits.<locals>.inner") 41 ts44' → Tab 37 47 4 (Str.ofString "_digits2int.<locals>.inner") 41 ts51' → Fr h₀ L h' m → News h₀ L h' ((D, { cls := .type "tuple", data := .seq #[.int (x / b) t1, .int (x % b) t2] }) :: (ts44' ++ (ts51' ++ news))) → AllLt D news → Q (.ref D) { s with heap := h', toks := tk' }) :
    wpAny (model PySem.Challenge.rw_wo0032_02.row.prog w) (ktrTop dp un gd cn cs L a ccd cl outer) (call (.ref 49) [.int x t, .int b t1]) Q E s := by
  w_top off
  k_with_none
  k_with "LT1!" => (first | with_reducible assumption | with_reducible exact Nat.lt_succ_self _ | with_reducible exact And.left (by assumption) | with_reducible exact And.left (And.right (by assumption)) | with_reducible exact And.left (And.right (And.right (by assumption))) | with_reducible exact And.left (And.right (And.right (And.right (by assumption)))) | with_reducible exact And.left (And.right (And.right (And.right (And.right (by assumption))))) | with_reducible exact And.left (And.right (And.right (And.right (And.right (And.right (by assumption)))))) | with_reducible exact And.right (by assumption) | with_reducible exact And.right (And.right (by assumption)) | with_reducible exact And.right (And.right (And.right (by assumption))) | with_reducible exact And.right (And.right (And.right (And.right (by assumption)))))
  k_with "LT!" => (first | k_extra "LT1!" | ((with_reducible refine (Nat.lt_succ_of_lt ?_ : @LT.lt Nat _ _ (_ + 1))); first | k_extra "LT1!" | ((with_reducible refine (Nat.lt_succ_of_lt ?_ : @LT.lt Nat _ _ (_ + 1))); first | k_extra "LT1!" | ((with_reducible refine (Nat.lt_succ_of_lt ?_ : @LT.lt Nat _ _ (_ + 1))); k_extra "LT1!"))))
  k_with "NE!" => (first | with_reducible assumption | with_reducible exact Ne.symm (by assumption) | decide | ((fail_if_success (fail_if_success omega)); first | ((with_reducible refine Nat.ne_of_gt ?_); (fail_if_success (fail_if_success omega)); k_extra "LT!") | ((with_reducible refine Nat.ne_of_lt ?_); (fail_if_success (fail_if_success omega)); k_extra "LT!") | with_reducible exact And.left (by assumption) | with_reducible exact And.left (And.right (by assumption)) | with_reducible exact And.left (And.right (And.right (by assumption))) | omega))
  k_with "KNE!" => ((refine neN ?_; (try dsimp only); k_extra "NE!"))
  k_with "LBND!" => (first | assumption | decide | with_reducible exact Int.lt_of_lt_of_le (by assumption) (by decide) | with_reducible exact Int.lt_of_le_of_lt (by assumption) (by decide) | with_reducible exact Int.le_trans (by assumption) (by decide) | with_reducible exact Int.lt_of_lt_of_le (by decide) (by assumption) | with_reducible exact Int.le_trans (by decide) (by assumption) | with_reducible exact Int.natCast_nonneg _ | with_reducible exact Int.ne_of_gt (by assumption) | with_reducible exact Int.le_of_lt (by assumption) | with_reducible exact Nat.lt_of_lt_of_le (by assumption) (by decide) | with_reducible exact Nat.lt_of_le_of_lt (by assumption) (by decide) | with_reducible exact Nat.le_trans (by assumption) (by decide) | k_dflt omega | l_fact)
  k_with "ROOM!" => (((try simp only [depth_under_make, depth_under_kw, depth_in1, depth_deeper, depth_caller]); (try dsimp only [ktrTop]); first | with_reducible assumption | exact room_0 (by with_reducible assumption) | exact room_le (by with_reducible assumption) (by decide) | exact room_12 (by with_reducible assumption) (by decide)))
  k_with "UNITS!" => (((try simp only [units_in1, units_deeper, Around.mark_units, units_caller]); (try dsimp only [ktrTop]); first | with_reducible assumption | exact room_0 (by with_reducible assumption) | exact room_le (by with_reducible assumption) (by decide) | exact room_12 (by with_reducible assumption) (by decide) | exact room_123 (by with_reducible assumption) (by decide)))
  k_with "BITS!" => (first | (with_reducible assumption) | ((with_reducible apply bits_ediv2); bits_by_make) | ((with_reducible refine bits_emod2 ?_ ?_); (focus l_bnd); bits_by_make))
  k_with "binaryOp LShift int int" => ((k_here; (with_reducible refine' r_shl (by l_bnd) (by bits_by_make) (by l_bnd) (by decide) ?_)))
  k_with "inplaceOp LShift int int" => ((k_here; (with_reducible refine' ishl (by l_bnd) (by bits_by_make) (by l_bnd) (by decide) ?_)))
  k_with "binaryOp RShift int int" => ((k_here; (with_reducible refine r_shr (by l_bnd) ?_)))
  k_with "inplaceOp RShift int int" => ((k_here; (with_reducible refine ishr (by l_bnd) ?_)))
  k_with "binaryOp BitOr int int" => ((k_here; (with_reducible refine r_or (by l_bnd) (by l_bnd) (by l_bnd) ?_)))
  k_with "binaryOp BitAnd int int" => ((k_here; first | (with_reducible refine r_and1 ?_) | ((with_reducible refine r_mask (by l_bnd) ?_))))
  k_with "call builtin:divmod" => ((k_here; (with_reducible show wpAny _ _ (call (Value.builtin _) [Value.int _ _, Value.int _ _]) _ _ _); (refine' r_divmod (by assumption) (by assumption) (by l_bnd) (by first | assumption | exact noPy (by omega)) ?_); intro D' t1' t2' h' tk' F' N' l1; (try k_lt l1)))
  k_with "ALL!" => (first | assumption | (refine' allNe (by assumption)) | (refine' allNe (And.right (by assumption))) | (refine' allNe (And.right (And.right (by assumption)))) | (refine' allNeLt (by assumption) (by omega)))
  k_with "binaryOp Mult ref int" => ((k_here; k_dflt (refine' r_rep0 (by k_asm) (by k_asm) (by k_mem) (by l_bnd) (by l_bnd) ?_); intro D' h' F' N' l1; (try k_lt l1)))
  k_with "call builtin:list.reverse" => ((k_here; dsimp only; k_dflt (refine' r_rev (by k_asm) (by k_asm) (by k_upd) (by l_bnd) ?_); intro h' F' N'))
  have hbb := bits_pos hb
  revert B F X N T
  k_fill
  intro B F X N T
  k_with "call ref" => (first | ((refine' c_i2d (by assumption) ?a1 ?a2 ?a3 ?a4 ?a5 ?a6 C1 ?a7 ?a8 ?a9 hx ?b1 hx1 ?b2 ?b3 ?b4 ?b5; (case a1 => k_asm); (case a2 => k_asm); (case a3 => k_asm); (case a4 => k_asm); (case a5 => k_asm); (case a6 => first | exact rfl | assumption); (case a7 => assumption); (case a8 => assumption); (case a9 => omega); (case b1 => omega); (case b2 => omega); (case b3 => ktr_room); (case b4 => ktr_units)); intro D' ts' vs' h' tk' ht' hi' F' N' l1; (have h37D : @LT.lt Nat _ 37 D' := (by obtain ⟨o, ho⟩ := h51.mem; exact ktn_ltOf l1 _ (List.mem_append_left _ ho))); (have htn : ∀ p ∈ ts' ++ news, p.1 ≠ 37 := neApp (ht'.ne (by decide) (by decide)) hne2); (try dsimp only); (try k_fold)) | ((refine HD (by k_asm) (by k_asm) (by k_asm) (by k_asm) (by k_asm) (by first | exact rfl | assumption) (by ktr_room) (by ktr_units) hb hlt9.1 rfl hlt9.2 hk4 (by omega) ?_); intro D' q' r' t1' t2' h' tk' e1' e2' p1' p2' b1' b2' F' N' l1; (try simp only [AllLt, and_true] at l1); (try dsimp only); (try k_fold)) | ((refine c_d2i h51 (by k_asm) (by k_asm) (by k_asm) (permA (by assumption)) (by k_asm) (by first | exact rfl | assumption) C2 hL41 (List.forall_mem_cons.mpr ⟨by k_ne, htn⟩) (List.Mem.head _) (ints_rev hi9) hf9.2.2.2 hnpos (by omega) (by rw [List.length_reverse]; omega) (by ktr_room) (by ktr_units) ?_); intro ts5' t5 h5 tk5 ht5 F5 N5; (try dsimp only); (try k_fold)))
  refine wpAny_call ?_
  k_dflt (refine' code_def ?k1 ?k2 ?k3 ?k4 ?k5 ?kA ?kF ?kK ?k6 ?k7 ?k8 ?k9 ?kB ?_ ?c2 ?c3 ?c4 ?c5; (case kA => exact rfl); (case kF => exact rfl); (case kK => assumption); (case k1 => k_asm); (case k2 => k_asm); (case k3 => k_asm); (case k4 => k_asm); (case k5 => k_asm); (case k6 => k_is); (case k7 => k_is); (case k8 => ktr_room); (case k9 => exact BindsTo.of_eq rfl); (case c5 => decide); (case kB => exact locs rfl); (case c2 => exact rfl); (case c3 => exact rfl); (case c4 => exact rfl); k_whole; intro g' L' h' FG' F' N' B' X' T'; (try dsimp only); (try k_fold))
  have hL41 : @LT.lt Nat _ 41 L' := Nat.lt_of_lt_of_le (cd_lt C2 B.stays F.keep) (Nat.le_trans F.above (Nat.le_of_lt (Nat.lt_of_lt_of_le FG'.ns.lt F'.above)))
  have hne3 : ∀ p ∈ ts51 ++ news, p.1 ≠ 30 := neApp (h51.ne (by decide) (by decide)) hne1
  have hnpos : 0 < (intBits b : Int) := by omega
  have hblt := lt_of_bits (Nat.le_refl (intBits b))
  have hmm := ceil_facts hnpos (x := x)
  have hn2 : (intBits b : Int).toNat = intBits b := rfl
  have hm20 : ((((intBits x : Nat) : Int) + (intBits b : Int) - 1) / (intBits b : Int)).toNat ≤ 20 := hmm.2 (by omega)
  have hxlt : x < 2 ^ ((intBits b : Int).toNat * ((((intBits x : Nat) : Int) + (intBits b : Int) - 1) / (intBits b : Int)).toNat) := lt_of_bits hmm.1
  k_with "pyIter ref" => ((with_reducible rename Fr _ _ _ _ => lF'); (with_reducible rename News _ _ _ _ => lN'); (with_unfolding_all refine rev_loop (rn := Str.ofString "r") (fg := [Str.ofString "q_digit", Str.ofString "a_digit"]) (LI (intBits b : Int).toNat x b ((((intBits x : Nat) : Int) + (intBits b : Int) - 1) / (intBits b : Int)).toNat) (by rfl) lF' lN' hi' (by rfl) IntsAre.nil (LI.start hx hb hxlt) (by decide) (by decide) (by decide) (by k_mem) (by k_all) (by k_ne) ?_ ?_); (clear lF' lN'); (rotate_left); (intro r9 tr9 vs9 ns9 nn9 u9 h9 tk9 hi9 hI9 F9 N9; (have hf9 := hI9.fin); (have hl99 := hi9.length); (have hl999 : vs9.length ≤ 20 := by omega); (try k_fold)); (rotate_left); (intro a9 t9 rem9 r9 tr9 vs9 ns9 nn9 u9 it9 h9 tk9 hi9 hI9 F9 N9; (have hb9 := hI9.bounds hb); (have hlt9 := hI9.lt hb); (have hl9 := hI9.len); (have hl99 := hi9.length); (have hr9 : intBits r9 ≤ 16000 := Nat.le_trans (bits_le_of_lt hb9.1 (by omega)) hn1); (have hl999 : vs9.length ≤ 20 := by simp only [List.length_cons] at hl9; omega); (try k_fold)))
  k_with "RPost" => ((with_reducible rename News _ _ _ _ => nN); (simp only [List.push_toArray] at nN); (refine RPost.intro (by assumption) (ndh nN) (ints_snoc hi9) (by with_unfolding_all rfl) (by intro z h1 h2; simp only [List.contains_cons, List.contains_nil, Bool.or_false, Bool.or_eq_false_iff, beq_eq_false_iff_ne, ne_eq] at h2; simp [h1, h2]) (hI9.step hb e1' e2')))
  k_steps
  (with_reducible rename News h₀ L _ (_ :: (ts5' ++ _)) => nN)
  (with_reducible rename (∀ p ∈ ts5' ++ _, p.1 < _) => lN)
  rw [hf9.1, hf9.2.1] at nN
  exact hret _ _ _ _ _ _ _ ht' ht5 (by assumption) (permB nN) (allLt_of fun p hp => lN p (by simp [hp]))
end Mine
end
section
namespace Mine
def EPost (h₀ : Heap) (L : Addr) (s : Shared) (I : Addr) (it : Obj) (J : (Str → Option Value) → List (Addr × Obj) → Prop) (Q : Flow → Shared → Prop) (f : Flow) (s₃ : Shared) : Prop :=
  match f with
  | .ret v => Q (.ret v) s₃
  | .brk => Q .next s₃
  | _ => ∃ h' tk m' news', s₃ = { s with heap := h', toks := tk } ∧ Fr h₀ L h' m' ∧ News h₀ L h' ((I, it) :: news') ∧ (∀ p ∈ news', p.1 ≠ I) ∧ J m' news'
def LoopE (prog : Program) (w : World) (A : Around) (h₀ : Heap) (env : Env) (x : Str) (body orelse : List Stmt) (Q : Flow → Shared → Prop) (E : Value → Shared → Prop) (it : Value) (s₂ : Shared) : Prop :=
  ∃ (I : Addr) (n : Nat) (m : Str → Option Value) (news : List (Addr × Obj)) (J : Nat → (Str → Option Value) → List (Addr × Obj) → Prop),
    it = .ref I ∧ IsRangeIter s₂.heap I 0 (n : Int) 1 ∧ h₀.get? I = none ∧ I ≠ env.locals ∧ (∀ p ∈ news, p.1 ≠ I) ∧ A.handled = none ∧ Fr h₀ env.locals s₂.heap m ∧ News h₀ env.locals s₂.heap news ∧ J 0 m news ∧
    (∀ i t m₁ news₁ h tk, i < n → (∀ p ∈ news₁, p.1 ≠ I) → J i m₁ news₁ → Fr h₀ env.locals h (fun y => if y = x then some (.int (i : Int) t) else m₁ y) → News h₀ env.locals h ((I, itR ((i + 1 : Nat) : Int) ((n : Int) - ((i + 1 : Nat) : Int))) :: news₁) →
      wpAny (model prog w) A (execs body env) (EPost h₀ env.locals { s₂ with heap := h, toks := tk } I (itR ((i + 1 : Nat) : Int) ((n : Int) - ((i + 1 : Nat) : Int))) (J (i + 1)) Q) E { s₂ with heap := h, toks := tk }) ∧
    ∀ m₁ news₁ h tk, J n m₁ news₁ → Fr h₀ env.locals h m₁ → News h₀ env.locals h news₁ → wpAny (model prog w) A (execs orelse env) Q E { s₂ with heap := h, toks := tk }
section
variable {prog : Program} {w : World} {A : Around} {E : Value → Shared → Prop} {Q : Flow → Shared → Prop} {s : Shared} {env : Env} {h₀ : Heap} {x : Str} {body orelse : List Stmt}
theorem for_else {px pos : Pos} {iter : Expr} (hx : env.kindOf x = some .local) (hp : (env.scope.kind == .class || (env.scope.kind == .module && env.locals != env.globals)) = false)
    (h : wpAny (model prog w) A (eval iter env) (fun xv s₁ => wpAny (model prog w) A (pyIter xv) (fun it s₂ => LoopE prog w A h₀ env x body orelse Q E it s₂) E s₁) E s)
    (hs : ∀ x, foldedSetIterable iter env x = pure x := by intro _; rfl)
    (hE : PassesOwn (model prog w) A env E := by passes_own) :
    wpAny (model prog w) A (exec (.For (.Name x px) iter body orelse pos) env) Q E s := by
  refine wpAny_For (wpAny_mono h (fun xv s₁ h₁ => wpAny_mono h₁ (fun it s₂ h₂ => ?_) fun _ _ e => e) fun _ _ e => e) hs
  obtain ⟨I, n, m, news, J, rfl, hit, hIn, hIL, hnI, hh, F, N, h0, step, done⟩ := h₂
  have W := Walks.range (prog := prog) (w := w) hh I 0 1 n
  refine codeAny_forLoop (fun k s' => ∃ h' tk m' news' i, s' = { s₂ with heap := h', toks := tk } ∧ IsRangeIter h' I ((i : Nat) : Int) ((n : Int) - (i : Nat)) 1 ∧ Fr h₀ env.locals h' m' ∧ News h₀ env.locals h' news' ∧ (∀ p ∈ news', p.1 ≠ I) ∧ J i m' news' ∧ i ≤ n ∧ k = n + 1 - i) ?_ (n + 1)
    ⟨s₂.heap, s₂.toks, m, news, 0, rfl, by simpa using hit, F, N, hnI, h0, Nat.zero_le _, rfl⟩
  rintro k s' ⟨h', tk, m', news', i, rfl, hst, F', N', hnI', hJ, hi, rfl⟩
  have next : ∀ h₁ : Heap, (∀ b o, b ∉ [I] → h'.get? b = some o → h₁.get? b = some o) → Fr h₀ env.locals h₁ m' ∧ News h₀ env.locals h₁ news' := fun h₁ hk₁ =>
    ⟨⟨F'.ns.at' fun o e => hk₁ _ o (fun q => hIL (List.mem_singleton.mp q).symm) e, fun b o e => hk₁ b o (fun q => by rw [List.mem_singleton.mp q, hIn] at e; cases e) (F'.keep b o e), F'.above⟩,
      fun p hp => ⟨hk₁ _ _ (fun q => hnI' p hp (List.mem_singleton.mp q)) (N' p hp).1, (N' p hp).2⟩⟩
  have hst0 : IsRangeIter h' I (0 + ((i : Nat) : Int) * 1) ((n : Int) - (i : Nat)) 1 := by
    rw [Int.mul_one, Int.zero_add]; exact hst
  by_cases hlt : i < n
  · refine W.item i _ _ _ hlt hst0 fun v h₁ tk₁ hP hst₁ hk₁ => ?_
    obtain ⟨t, rfl⟩ := hP
    obtain ⟨F₁, N₁⟩ := next h₁ hk₁
    have e1 : (0 : Int) + ((i : Nat) : Int) * 1 = (i : Int) := by omega
    have e2 : (0 : Int) + ((i + 1 : Nat) : Int) * 1 = ((i + 1 : Nat) : Int) := by omega
    rw [e1]
    rw [e2] at hst₁
    refine wpAny_assign_Name (wpAny_storeName_local hx F₁.ns (fun h₂ hn₂ hs₂ => ?_) hp)
    have F₂ := F₁.set hn₂ hs₂
    have NI : News h₀ env.locals h₂ ((I, itR ((i + 1 : Nat) : Int) ((n : Int) - ((i + 1 : Nat) : Int))) :: news') := fun p hp => by
      rcases List.mem_cons.mp hp with rfl | hp
      · exact ⟨(hs₂.2 I hIL).trans hst₁, hIL, hIn⟩
      · exact (N₁.set hs₂) p hp
    refine wpAny_passesOwn hE (wpAny_mono (step i t m' news' h₂ _ hlt hnI' hJ F₂ NI) (fun f s₃ h₃ => ?_) fun _ _ e => e)
    cases f with
    | ret v => exact h₃
    | brk => exact h₃
    | next =>
      obtain ⟨h₃', tk₃, m₂, news₂, rfl, F₃, N₃, ha₃, hJ₃⟩ := h₃
      exact ⟨n + 1 - (i + 1), by omega, h₃', tk₃, m₂, news₂, i + 1, rfl, (N₃ _ (.head _)).1, F₃, fun p hp => N₃ p (.tail _ hp), ha₃, hJ₃, hlt, rfl⟩
    | cont =>
      obtain ⟨h₃', tk₃, m₂, news₂, rfl, F₃, N₃, ha₃, hJ₃⟩ := h₃
      exact ⟨n + 1 - (i + 1), by omega, h₃', tk₃, m₂, news₂, i + 1, rfl, (N₃ _ (.head _)).1, F₃, fun p hp => N₃ p (.tail _ hp), ha₃, hJ₃, hlt, rfl⟩
  · have hin : i = n := by omega
    subst hin
    refine W.done _ _ _ hst0 fun h₁ tk₁ hk₁ => ?_
    obtain ⟨F₁, N₁⟩ := next h₁ hk₁
    exact wpAny_passesOwn hE (done m' news' h₁ tk₁ hJ F₁ N₁)
end
end Mine
end
section
namespace Mine
open Builtin.Int (intBits)
theorem pow2_le {i j : Nat} (h : i ≤ j) : (2 : Int) ^ i ≤ 2 ^ j := by
  have : (2 : Nat) ^ i ≤ 2 ^ j := Nat.pow_le_pow_right (by decide) h
  have e1 : ((2 : Int) ^ i) = ((2 ^ i : Nat) : Int) := by simp
  have e2 : ((2 : Int) ^ j) = ((2 ^ j : Nat) : Int) := by simp
  rw [e1, e2]; exact Int.ofNat_le.mpr this
theorem neOfLt {d : Addr} {l : List (Addr × Obj)} (h : ∀ p ∈ l, p.1 < d) : ∀ p ∈ l, p.1 ≠ d := fun p hp => Nat.ne_of_lt (h p hp)
theorem pow2_32 {i : Nat} (h : i < 32) : (2 : Int) ^ i ≤ 4294967296 := pow2_le (j := 32) (by omega)
theorem nat_and_pow (n i : Nat) : n &&& 2 ^ i = n / 2 ^ i % 2 * 2 ^ i := by
  apply Nat.eq_of_testBit_eq
  intro j
  rw [Nat.testBit_and, Nat.testBit_two_pow, Nat.mul_comm, Nat.testBit_two_pow_mul]
  by_cases h : i = j
  · subst h
    rw [Nat.sub_self, Nat.testBit_zero, Nat.testBit_eq_decide_div_mod_eq]
    simp
  · have h1 : decide (i = j) = false := by simp [h]
    rw [h1, Bool.and_false]
    by_cases h2 : i ≤ j
    · rw [Nat.testBit_lt_two_pow, Bool.and_false]
      exact Nat.lt_of_lt_of_le (Nat.mod_lt _ (by decide)) (Nat.le_trans (by decide : 2 ≤ 2 ^ 1) (Nat.pow_le_pow_right (by decide) (by omega)))
    · simp [h2]
theorem bitAnd_pow {a : Int} {k : Nat} (ha : 0 ≤ a) : Builtin.bitAnd a (1 * 2 ^ k) = a / 2 ^ k % 2 * 2 ^ k := by
  have hp := pow2_pos k
  rw [Int.one_mul, bitAnd_pp ha (by omega), toNat_pow, nat_and_pow]
  have e : ((a.toNat / 2 ^ k % 2 : Nat) : Int) = a / 2 ^ k % 2 := by
    rw [Int.natCast_emod, Int.natCast_ediv, Int.toNat_of_nonneg ha]; simp
  rw [← e]
  simp
def wAt (k : Int) (z : Str) : List (Int × PyData) → Str
  | [] => z
  | (i, .str x) :: r => if k = i then x else wAt k z r
  | _ :: r => wAt k z r
def isStrs : List (Int × PyData) → Bool
  | [] => true
  | (_, .str x) :: r => decide (x.length ≤ 100) && isStrs r
  | _ :: _ => false
theorem wAt_len {k : Int} {z : Str} (hz : z.length ≤ 100) : ∀ {D : List (Int × PyData)}, isStrs D = true → (wAt k z D).length ≤ 100
  | [], _ => hz
  | (i, .str x) :: r, h => by
    simp only [isStrs, Bool.and_eq_true, decide_eq_true_eq] at h
    simp only [wAt]
    split
    · exact h.1
    · exact wAt_len hz h.2
  | (i, .none) :: r, h | (i, .bool _) :: r, h | (i, .int _) :: r, h | (i, .list _) :: r, h | (i, .tuple _) :: r, h | (i, .dict _) :: r, h => by simp [isStrs] at h
theorem wAt_at {k : Int} {z : Str} : ∀ {D : List (Int × PyData)}, isStrs D = true → (KTD.datumAt k D).getD (.str z) = PyData.str (wAt k z D)
  | [], _ => rfl
  | (i, .str x) :: r, h => by
    simp only [isStrs, Bool.and_eq_true, decide_eq_true_eq] at h
    simp only [wAt, KTD.datumAt, decide_eq_true_eq]
    split
    · rfl
    · exact wAt_at h.2
  | (i, .none) :: r, h | (i, .bool _) :: r, h | (i, .int _) :: r, h | (i, .list _) :: r, h | (i, .tuple _) :: r, h | (i, .dict _) :: r, h => by simp [isStrs] at h
def pfWord (D : List (Int × PyData)) (j : Nat) : Str := wAt (1 * 2 ^ j) (baseText "0x" 16 (1 * 2 ^ j)) D
def pfL (D : List (Int × PyData)) (F : Int) : Nat → List Str
  | 0 => []
  | i + 1 => pfL D F i ++ (if F / 2 ^ i % 2 = 1 then [pfWord D i] else [])
def pfW (D : List (Int × PyData)) (F : Int) : List Str :=
  if F / 2 ^ 32 * 2 ^ 32 = 0 ∧ F ≠ 0 then pfL D F 32 else pfL D F 32 ++ [baseText "0x" 16 (F / 2 ^ 32 * 2 ^ 32)]
structure PI (D : List (Int × PyData)) (F : Int) (i : Nat) (fl : Int) (ss : List Str) : Prop where
  e1 : fl = F / 2 ^ i * 2 ^ i
  e2 : ss = pfL D F i
  e3 : fl = 0 → F = 0
theorem PI.bnd {D : List (Int × PyData)} {F : Int} {i : Nat} {fl : Int} {ss : List Str} (h : PI D F i fl ss) (h0 : 0 ≤ F) : 0 ≤ fl ∧ fl ≤ F := by
  have hp := pow2_pos i
  have h1 := Int.emod_add_mul_ediv F (2 ^ i)
  have h2 := Int.emod_nonneg F (show (2 : Int) ^ i ≠ 0 by omega)
  have h3 := Int.ediv_nonneg h0 (Int.le_of_lt hp)
  have h4 := Int.mul_nonneg h3 (Int.le_of_lt hp)
  rw [Int.mul_comm] at h1
  rw [h.e1]
  omega
theorem PI.start {D : List (Int × PyData)} {F : Int} : PI D F 0 F [] := ⟨by simp, rfl, id⟩
theorem div_succ (F : Int) (i : Nat) : F / 2 ^ i = F / 2 ^ i % 2 + 2 * (F / 2 ^ (i + 1)) := by
  have := Int.emod_add_mul_ediv (F / 2 ^ i) 2
  rw [Int.pow_succ, ← Int.ediv_ediv_of_nonneg (Int.le_of_lt (pow2_pos i))]
  omega
theorem PI.off {D : List (Int × PyData)} {F : Int} {i : Nat} {fl : Int} {ss : List Str} (h : PI D F i fl ss) (hb : fl / 2 ^ i % 2 = 0) : PI D F (i + 1) fl ss := by
  have hp := pow2_pos i
  have e := h.e1
  have hb' : F / 2 ^ i % 2 = 0 := by rw [e, Int.mul_ediv_cancel _ (by omega)] at hb; exact hb
  refine ⟨?_, ?_, h.e3⟩
  · rw [e]
    have := div_succ F i
    rw [hb', Int.zero_add] at this
    rw [Int.pow_succ, this]
    rw [Int.mul_comm 2, Int.mul_assoc, Int.mul_comm 2, Int.pow_succ]
  · rw [h.e2, pfL, if_neg (by omega), List.append_nil]
theorem PI.bit {D : List (Int × PyData)} {F : Int} {i : Nat} {fl : Int} {ss : List Str} (h : PI D F i fl ss) (hb : fl / 2 ^ i % 2 = 1) : fl - 1 * 2 ^ i = F / 2 ^ (i + 1) * 2 ^ (i + 1) ∧ ss ++ [pfWord D i] = pfL D F (i + 1) ∧ F ≠ 0 := by
  have hp := pow2_pos i
  have e := h.e1
  have hb' : F / 2 ^ i % 2 = 1 := by rw [e, Int.mul_ediv_cancel _ (by omega)] at hb; exact hb
  refine ⟨?_, ?_, ?_⟩
  · have := div_succ F i
    rw [hb'] at this
    rw [e, this, Int.add_mul, Int.pow_succ, Int.mul_comm 2, Int.mul_assoc, Int.mul_comm 2]
    omega
  · rw [h.e2, pfL, if_pos hb']
  · rintro rfl; simp at hb'
theorem PI.on {D : List (Int × PyData)} {F : Int} {i : Nat} {fl : Int} {ss : List Str} (h : PI D F i fl ss) (hb : fl / 2 ^ i % 2 = 1) (hn : fl - 1 * 2 ^ i ≠ 0) : PI D F (i + 1) (fl - 1 * 2 ^ i) (ss ++ [pfWord D i]) :=
  ⟨(h.bit hb).1, (h.bit hb).2.1, fun e => absurd e hn⟩
theorem pfL_stop {D : List (Int × PyData)} {F : Int} {i : Nat} (h0 : 0 ≤ F) (hz : F / 2 ^ i = 0) : ∀ j, pfL D F (i + j) = pfL D F i
  | 0 => rfl
  | j + 1 => by
    have hp := pow2_pos i
    have hlt : F < 2 ^ i := by
      have := Int.emod_add_mul_ediv F (2 ^ i)
      have := Int.emod_lt_of_pos F hp
      rw [hz] at *
      omega
    have : F / 2 ^ (i + j) = 0 := Int.ediv_eq_zero_of_lt h0 (Int.lt_of_lt_of_le hlt (pow2_le (Nat.le_add_right _ _)))
    rw [show i + (j + 1) = (i + j) + 1 from rfl, pfL, this, pfL_stop h0 hz j]
    simp
theorem PI.brk {D : List (Int × PyData)} {F : Int} {i : Nat} {fl : Int} {ss : List Str} (h : PI D F i fl ss) (h0 : 0 ≤ F) (hi : i < 32) (hb : fl / 2 ^ i % 2 = 1) (hn : fl - 1 * 2 ^ i = 0) : ss ++ [pfWord D i] = pfW D F := by
  obtain ⟨h1, h2, h3⟩ := h.bit hb
  have hp := pow2_pos (i + 1)
  rw [hn] at h1
  have hz : F / 2 ^ (i + 1) = 0 := by
    rcases Int.mul_eq_zero.mp h1.symm with e | e
    · exact e
    · omega
  have e := pfL_stop (D := D) h0 hz (32 - (i + 1))
  rw [show i + 1 + (32 - (i + 1)) = 32 by omega] at e
  have e32 : F / 2 ^ 32 = 0 := by
    have hlt : F < 2 ^ (i + 1) := by
      have := Int.emod_add_mul_ediv F (2 ^ (i + 1))
      have := Int.emod_lt_of_pos F hp
      rw [hz] at *
      omega
    exact Int.ediv_eq_zero_of_lt h0 (Int.lt_of_lt_of_le hlt (pow2_le (by omega)))
  rw [pfW, if_pos ⟨by rw [e32]; rfl, h3⟩, h2, e]
theorem PI.fin {D : List (Int × PyData)} {F : Int} {fl : Int} {ss : List Str} (h : PI D F 32 fl ss) : ss ++ [baseText "0x" 16 fl] = pfW D F := by
  rw [pfW, if_neg, h.e2, h.e1]
  rintro ⟨h1, h2⟩
  exact h2 (h.e3 (h.e1.trans h1))
theorem hex_len {x : Int} (h0 : 0 ≤ x) (h1 : x < 2 ^ 60) : (baseText "0x" 16 x).length ≤ 100 := by
  have e : (2 : Int) ^ 60 = 1152921504606846976 := by decide
  have e2 : (16 : Nat) ^ 15 = 1152921504606846976 := by decide
  have h2 := toDigits_len_pow (b := 16) (k := 15) (n := x.natAbs) (by decide) (by decide) (by omega)
  rw [baseText_nonneg h0, Str.length_append, Str.length_append, ofString_ofList_length (Nat.toDigits 16 x.natAbs)]
  rw [PyProof.Rows.ofString_len, PyProof.Rows.ofString_len]
  have h3 : "".length = 0 := by decide
  have h4 : "0x".length = 2 := by decide
  omega
theorem pfWord_len {D : List (Int × PyData)} (hD : isStrs D = true) {j : Nat} (hj : j < 32) : (pfWord D j).length ≤ 100 := by
  refine wAt_len (hex_len (by have := pow2_pos j; omega) ?_) hD
  have := pow2_pos j
  have h : (2 : Int) ^ j ≤ 2 ^ 32 := pow2_le (by omega)
  have e : (2 : Int) ^ 60 = 1152921504606846976 := by decide
  have e' : (2 : Int) ^ 32 = 4294967296 := by decide
  omega
theorem pfL_len {D : List (Int × PyData)} (hD : isStrs D = true) {F : Int} : ∀ {i : Nat}, i ≤ 32 → (∀ x ∈ pfL D F i, x.length ≤ 100) ∧ (pfL D F i).length ≤ i
  | 0, _ => ⟨by simp [pfL], by simp [pfL]⟩
  | i + 1, h => by
    obtain ⟨h1, h2⟩ := pfL_len hD (F := F) (i := i) (by omega)
    have h3 := pfWord_len hD (j := i) (by omega)
    simp only [pfL]
    split
    · refine ⟨fun x hx => ?_, by simp; omega⟩
      rcases List.mem_append.mp hx with hx | hx
      · exact h1 x hx
      · rw [List.mem_singleton.mp hx]; exact h3
    · rw [List.append_nil]; exact ⟨h1, by omega⟩
theorem pfW_len {D : List (Int × PyData)} (hD : isStrs D = true) {F : Int} (h0 : 0 ≤ F) (h1 : F < 2 ^ 60) : (∀ x ∈ pfW D F, x.length ≤ 100) ∧ (pfW D F).length ≤ 33 := by
  obtain ⟨h2, h3⟩ := pfL_len hD (F := F) (i := 32) (Nat.le_refl _)
  have hx : (baseText "0x" 16 (F / 2 ^ 32 * 2 ^ 32)).length ≤ 100 := by
    have hp := pow2_pos 32
    have := Int.emod_add_mul_ediv F (2 ^ 32)
    have := Int.emod_nonneg F (show (2 : Int) ^ 32 ≠ 0 by omega)
    refine hex_len (Int.mul_nonneg (Int.ediv_nonneg h0 (by omega)) (by omega)) ?_
    rw [Int.mul_comm]; omega
  unfold pfW
  split
  · exact ⟨h2, by omega⟩
  · refine ⟨fun x hx' => ?_, by simp; omega⟩
    rcases List.mem_append.mp hx' with h | h
    · exact h2 x h
    · rw [List.mem_singleton.mp h]; exact hx
theorem PI.len {D : List (Int × PyData)} (hD : isStrs D = true) {F : Int} {i : Nat} {fl : Int} {ss : List Str} {vs : List Value} (h : PI D F i fl ss) (hv : StrsAre vs ss) (hi : i ≤ 32) : vs.length ≤ 32 := by
  have := (pfL_len hD (F := F) hi).2
  have := hv.length
  rw [← h.e2] at *
  omega
theorem total_le : ∀ {l : List Str}, (∀ x ∈ l, x.length ≤ 100) → (l.map (·.length)).sum ≤ 100 * l.length
  | [], _ => by simp
  | a :: l, h => by
    have h1 := h a (.head _)
    have h2 := total_le (l := l) fun x hx => h x (.tail _ hx)
    simp only [List.map_cons, List.sum_cons, List.length_cons]
    omega
section
variable {prog : Program} {w : World} {A : Around} {E : Value → Shared → Prop} {s : Shared} {t u : Tok} {Q : Value → Shared → Prop}
theorem kget {h₀ : Heap} {a : Addr} {D : List (Int × PyData)} {k : Int} {z : Str} (K : KTD.Keyed h₀ a D) (hk : ∀ b o, h₀.get? b = some o → s.heap.get? b = some o) (hD : isStrs D = true)
    (h : ∀ t', Q (.str (wAt k z D) t') { s with toks := s.toks + 1 }) : wpAny (model prog w) A (call (.builtin "dict.get") [.ref a, .int k t, .str z u]) Q E s :=
  call_get2_intTab (K.keep hk prog w) (PyProof.V.Flat.str z u) fun v hv => by
    rw [KTD.lookup_keyed, wAt_at hD] at hv
    obtain ⟨t', rfl⟩ := hv.str_inv
    exact h t'
theorem r_shl1 {k : Nat} (hk : k < 64) (h : Q (.int (1 * 2 ^ k) s.toks) { s with toks := s.toks + 1 }) : wpAny (model prog w) A (binaryOp .LShift (.int 1 t) (.int (k : Int) u)) Q E s :=
  r_shl (Int.natCast_nonneg k) (show intBits 1 ≤ 1 by decide) (by omega) (by decide) (by rw [Int.toNat_natCast]; exact h)
theorem r_andpow {a : Int} {k : Nat} (ha : 0 ≤ a) (h0 : a / 2 ^ k % 2 = 0 → Q (.int 0 s.toks) { s with toks := s.toks + 1 }) (h1 : a / 2 ^ k % 2 = 1 → Q (.int (1 * 2 ^ k) s.toks) { s with toks := s.toks + 1 }) : wpAny (model prog w) A (binaryOp .BitAnd (.int a t) (.int (1 * 2 ^ k) u)) Q E s :=
  and_int (by
    rw [bitAnd_pow ha]
    rcases Int.emod_two_eq (a / 2 ^ k) with e | e
    · rw [e, Int.zero_mul]; exact h0 e
    · rw [e]; exact h1 e)
theorem ixor_pow {a : Int} {k : Nat} (ha : 0 ≤ a) (hb : a / 2 ^ k % 2 = 1) (h : Q (.int (a - 1 * 2 ^ k) s.toks) { s with toks := s.toks + 1 }) : wpAny (model prog w) A (inplaceOp .BitXor (.int a t) (.int (1 * 2 ^ k) u)) Q E s :=
  ixor_int (by
    rw [bitXor_and, bitAnd_pow ha, hb]
    rw [show a + 1 * 2 ^ k - 2 * (1 * 2 ^ k) = a - 1 * 2 ^ k by omega]; exact h)
theorem r_hex {x : Int} (h0 : 0 ≤ x) (h1 : x < 1152921504606846976) (h : Q (.str (baseText "0x" 16 x) s.toks) { s with toks := s.toks + 1 }) : wpAny (model prog w) A (call (.builtin "hex") [.int x t]) Q E s :=
  P.hex_of_int h (by have := hex_len h0 (show x < 2 ^ 60 from h1); rw [sizeLine_eq]; omega)
theorem r_join {h₀ : Heap} {L D : Addr} {news : List (Addr × Obj)} {vs : List Value} {ys : List Str} {x : Str} {c : Nat} (N : News h₀ L s.heap news) (hm : (D, listOf vs.toArray c) ∈ news) (hi : StrsAre vs ys) (hx : x.length ≤ 10) (hl : (∀ x ∈ ys, x.length ≤ 100) ∧ ys.length ≤ 100)
    (h : ∀ t' k, Q (.str (Txt.join x ys) t') { s with toks := k }) : wpAny (model prog w) A (call (.builtin "str.join") [.str x t, .ref D]) Q E s := by
  refine join_list (items := vs.toArray) ⟨_, (N _ hm).1, rfl, _, rfl⟩ hi ?_ h
  have := total_le hl.1
  have : ys.length * x.length ≤ 100 * 10 := Nat.mul_le_mul hl.2 hx
  omega
end
end Mine
end
section
namespace Mine
section
variable {prog : Program} {w : World} {A : Around} {E : Value → Shared → Prop} {Q : Flow → Shared → Prop} {s : Shared} {env : Env} {h₀ : Heap} {x : Str} {body orelse : List Stmt}
theorem iter_E {r : Addr} {b₀ : Int} {t₀ u₀ v₀ : Tok} {n : Nat} {m₀ : Str → Option Value} {news : List (Addr × Obj)} (J : Nat → (Str → Option Value) → List (Addr × Obj) → Prop)
    (hh : A.handled = none) (hr : IsRange s.heap r 0 b₀ 1 t₀ u₀ v₀) (hsmall : Builtin.Range.small 0 b₀ 1 = true) (hn : Builtin.Range.rangeSize 0 b₀ 1 = (n : Int)) (F : Fr h₀ env.locals s.heap m₀) (N : News h₀ env.locals s.heap news)
    (h0 : J 0 m₀ news)
    (turn : ∀ I i t m₁ news₁ h tk, (∀ p ∈ news, p.1 < I) → i < n → (∀ p ∈ news₁, p.1 ≠ I) → J i m₁ news₁ → Fr h₀ env.locals h (fun y => if y = x then some (.int (i : Int) t) else m₁ y) → News h₀ env.locals h ((I, itR ((i + 1 : Nat) : Int) ((n : Int) - ((i + 1 : Nat) : Int))) :: news₁) →
      wpAny (model prog w) A (execs body env) (EPost h₀ env.locals { s with heap := h, toks := tk } I (itR ((i + 1 : Nat) : Int) ((n : Int) - ((i + 1 : Nat) : Int))) (J (i + 1)) Q) E { s with heap := h, toks := tk })
    (done : ∀ m₁ news₁ h tk, J n m₁ news₁ → Fr h₀ env.locals h m₁ → News h₀ env.locals h news₁ → wpAny (model prog w) A (execs orelse env) Q E { s with heap := h, toks := tk }) :
    wpAny (model prog w) A (pyIter (.ref r)) (fun it s₂ => LoopE prog w A h₀ env x body orelse Q E it s₂) E s := by
  refine wpAny_pyIter_range hr hsmall ?_
  have hlt : ∀ p ∈ news, p.1 < s.heap.objs.size := fun p hp => Heap.lt_size (N p hp).1
  refine ⟨s.heap.objs.size, n, m₀, news, J, rfl, ?_, next_is_new F, ?_, fun p hp => Nat.ne_of_lt (hlt p hp), hh, F.push _, fun p hp => ⟨Heap.get?_push_of_some _ (N p hp).1, (N p hp).2⟩, h0, ?_, ?_⟩
  · show IsRangeIter _ _ _ _ _; rw [hn]; simpa using Heap.get?_push_size _ rfl
  · intro e; exact Nat.lt_irrefl _ (e ▸ F.ns.lt)
  · intro i t m₁ news₁ h tk h1 h2 h3 F₁ N₁
    exact turn _ i t m₁ news₁ h tk hlt h1 h2 h3 F₁ N₁
  · exact done
def JPf (Dq : Addr) (m₀ : Str → Option Value) (fg : List Str) (rn : Str) (rest : List (Addr × Obj)) (P : Nat → Int → List Str → Prop) (i : Nat) (m : Str → Option Value) (news : List (Addr × Obj)) : Prop :=
  ∃ (r : Int) (tr : Tok) (vs : List Value) (ss : List Str) (nn : Nat) (u : Str → Option Value), StrsAre vs ss ∧ P i r ss ∧ m = (fun y => if y = rn then some (.int r tr) else if fg.contains y then u y else m₀ y) ∧ news = (Dq, listOf vs.toArray nn) :: rest
theorem pf_loop {r Dq : Addr} {b₀ : Int} {t₀ u₀ v₀ : Tok} {n : Nat} {m₀ : Str → Option Value} {fg : List Str} {rn : Str} {rest : List (Addr × Obj)} {r0 : Int} {tr0 : Tok} {vs0 : List Value} {ss0 : List Str} {nn0 : Nat} (P : Nat → Int → List Str → Prop)
    (hh : A.handled = none) (hr : IsRange s.heap r 0 b₀ 1 t₀ u₀ v₀) (hsmall : Builtin.Range.small 0 b₀ 1 = true) (hn : Builtin.Range.rangeSize 0 b₀ 1 = (n : Int)) (F : Fr h₀ env.locals s.heap m₀) (N : News h₀ env.locals s.heap ((Dq, listOf vs0.toArray nn0) :: rest))
    (hr0 : m₀ rn = some (.int r0 tr0)) (hi0 : StrsAre vs0 ss0) (hP0 : P 0 r0 ss0) (hx : fg.contains x = true) (hrx : rn ≠ x) (hrf : fg.contains rn = false)
    (turn : ∀ I i t r tr vs ss nn (u : Str → Option Value) h tk, i < n → Dq ≠ I → (∀ p ∈ rest, p.1 < I) → StrsAre vs ss → P i r ss →
      Fr h₀ env.locals h (fun y => if y = x then some (.int (i : Int) t) else if y = rn then some (.int r tr) else if fg.contains y then u y else m₀ y) → News h₀ env.locals h ((I, itR ((i + 1 : Nat) : Int) ((n : Int) - ((i + 1 : Nat) : Int))) :: (Dq, listOf vs.toArray nn) :: rest) →
      wpAny (model prog w) A (execs body env) (EPost h₀ env.locals { s with heap := h, toks := tk } I (itR ((i + 1 : Nat) : Int) ((n : Int) - ((i + 1 : Nat) : Int))) (JPf Dq m₀ fg rn rest P (i + 1)) Q) E { s with heap := h, toks := tk })
    (done : ∀ r tr vs ss nn (u : Str → Option Value) h tk, StrsAre vs ss → P n r ss → Fr h₀ env.locals h (fun y => if y = rn then some (.int r tr) else if fg.contains y then u y else m₀ y) → News h₀ env.locals h ((Dq, listOf vs.toArray nn) :: rest) → wpAny (model prog w) A (execs orelse env) Q E { s with heap := h, toks := tk }) :
    wpAny (model prog w) A (pyIter (.ref r)) (fun it s₂ => LoopE prog w A h₀ env x body orelse Q E it s₂) E s := by
  have em : m₀ = fun y => if y = rn then some (.int r0 tr0) else if fg.contains y then m₀ y else m₀ y := by
    funext y
    by_cases h1 : y = rn
    · subst h1; simp [hr0]
    · simp [h1]
  refine iter_E (JPf Dq m₀ fg rn rest P) hh hr hsmall hn F N ⟨r0, tr0, vs0, ss0, nn0, m₀, hi0, hP0, em, rfl⟩ ?_ ?_
  · rintro I i t m₁ news₁ h tk hlt hi hne ⟨r, tr, vs, ss, nn, u, h1, h2, rfl, rfl⟩ F₁ N₁
    exact turn I i t r tr vs ss nn u h tk hi (hne _ (.head _)) (fun p hp => hlt p (.tail _ hp)) h1 h2 F₁ N₁
  · rintro m₁ news₁ h tk ⟨r, tr, vs, ss, nn, u, h1, h2, rfl, rfl⟩ F₁ N₁
    exact done r tr vs ss nn u h tk h1 h2 F₁ N₁
theorem EPost.brk {L : Addr} {I : Addr} {it : Obj} {J : (Str → Option Value) → List (Addr × Obj) → Prop} {s₃ : Shared} (h : Q .next s₃) : EPost h₀ L s I it J Q .brk s₃ := h
theorem EPost.pf {L : Addr} {I Dq : Addr} {it : Obj} {m₀ m' : Str → Option Value} {fg : List Str} {rn : Str} {rest : List (Addr × Obj)} {P : Nat → Int → List Str → Prop} {j : Nat} {h' : Heap} {tk : Nat} {vs : List Value} {ss : List Str} {nn : Nat} {r : Int} {tr : Tok}
    (F : Fr h₀ L h' m') (N : News h₀ L h' ((I, it) :: (Dq, listOf vs.toArray nn) :: rest)) (hi : StrsAre vs ss) (hr : m' rn = some (.int r tr)) (hz : ∀ z, z ≠ rn → fg.contains z = false → m' z = m₀ z) (hP : P j r ss) (hD : Dq ≠ I) (hoff : ∀ p ∈ rest, p.1 < I) :
    EPost h₀ L s I it (JPf Dq m₀ fg rn rest P j) Q .next { s with heap := h', toks := tk } := by
  refine ⟨h', tk, m', _, rfl, F, N, ?_, r, tr, vs, ss, nn, m', hi, hP, ?_, rfl⟩
  · intro p hp
    rcases List.mem_cons.mp hp with rfl | hp
    · exact hD
    · exact Nat.ne_of_lt (hoff p hp)
  · funext y
    by_cases h1 : y = rn
    · subst h1; simp [hr]
    · rw [if_neg h1]
      cases h2 : fg.contains y with
      | true => simp
      | false => simp only [Bool.false_eq_true, if_false]; exact hz y h1 h2
end
theorem strs_snoc {vs : List Value} {ss : List Str} {x : Str} {t : Tok} (h : StrsAre vs ss) : StrsAre (vs ++ [.str x t]) (ss ++ [x]) := h.append' (.cons _ _ .nil)
end Mine
end
section
set_option maxRecDepth 100000
namespace Mine
def PFT : List (Int × PyData) := [(1, .str { cps := #[79, 80, 84, 73, 77, 73, 90, 69, 68] }), (2, .str { cps := #[78, 69, 87, 76, 79, 67, 65, 76, 83] }), (4, .str { cps := #[86, 65, 82, 65, 82, 71, 83] }), (8, .str { cps := #[86, 65, 82, 75, 69, 89, 87, 79, 82, 68, 83] }), (16, .str { cps := #[78, 69, 83, 84, 69, 68] }), (32, .str { cps := #[71, 69, 78, 69, 82, 65, 84, 79, 82] }), (64, .str { cps := #[78, 79, 70, 82, 69, 69] }), (128, .str { cps := #[67, 79, 82, 79, 85, 84, 73, 78, 69] }), (256, .str { cps := #[73, 84, 69, 82, 65, 66, 76, 69, 95, 67, 79, 82, 79, 85, 84, 73, 78, 69] }), (512, .str { cps := #[65, 83, 89, 78, 67, 95, 71, 69, 78, 69, 82, 65, 84, 79, 82] })]
def wordS (x : Int) : Str := if x < 10 then [Str.ofString "OPTIMIZED", Str.ofString "NEWLOCALS", Str.ofString "VARARGS", Str.ofString "VARKEYWORDS",
            Str.ofString "NESTED", Str.ofString "GENERATOR", Str.ofString "NOFREE", Str.ofString "COROUTINE",
            Str.ofString "ITERABLE_COROUTINE", Str.ofString "ASYNC_GENERATOR"].getD
        x.toNat Str.empty else Str.ofString "0x" ++ Txt.item (Str.ofString "1248") (x.fmod 4) ++ Txt.mul (Str.ofString "0") (x.fdiv 4)
theorem neOfLt2 {d e : Addr} {l : List (Addr × Obj)} (h : ∀ p ∈ l, p.1 < d) (hde : @LE.le Nat _ d e) : ∀ p ∈ l, p.1 ≠ e := fun p hp => Nat.ne_of_lt (Nat.lt_of_lt_of_le (h p hp) hde)
theorem wordS_all : ∀ x : Fin 32, wordS (x.val : Int) = pfWord PFT x.val := by decide +kernel
theorem wordS_mul : ∀ x : Fin 32, (Txt.mul (Str.ofString "0") ((x.val : Int).fdiv 4)).length ≤ 8 := by decide +kernel
theorem wordS_eq {x : Int} (h0 : 0 ≤ x) (h1 : x < 32) : wordS x = pfWord PFT x.toNat := by
  have := wordS_all ⟨x.toNat, by omega⟩
  simpa [Int.toNat_of_nonneg h0] using this
theorem mul_len {x : Int} (h0 : 0 ≤ x) (h1 : x < 32) : (Txt.mul (Str.ofString "0") (x.fdiv 4)).length ≤ 8 := by
  have := wordS_mul ⟨x.toNat, by omega⟩
  simpa [Int.toNat_of_nonneg h0] using this
end Mine
namespace Mine
section
variable {prog : Program} {w : World} {A : Around} {E : Value → Shared → Prop} {s : Shared} {Q : Value → Shared → Prop}
theorem r_sumpick {h₀ : Heap} {L : Addr} {m : Str → Option Value} {news : List (Addr × Obj)} {l : Addr} {vs : List Value} {ns : List Int} {lo hi st : Option Int} {c : Nat} (hh : A.handled = none) (F : Fr h₀ L s.heap m) (N : News h₀ L s.heap news) (hm : (l, W.listOf (slicePick vs.toArray lo hi st) c) ∈ news) (hi' : IntsAre vs ns)
    (h : ∀ h' tk t', Fr h₀ L h' m → News h₀ L h' news → Q (.int (pickNums ns lo hi st).sum t') { s with heap := h', toks := tk }) :
    wpAny (model prog w) A (call (.builtin "sum") [.ref l]) Q E s :=
  sumK (vs := (slicePick vs.toArray lo hi st).toList) hh F N ⟨_, (N _ hm).1, rfl, c, by simp [W.listOf]⟩ (hi'.pick lo hi st) h
end
end Mine
namespace Mine
def cellsOf (ns : List Int) : List Int := (rangeKs 0 11).map fun k => [0, 110, 20, 90, 10, 71, 30, 58, 40, -1, -1].getD k.toNat 0 + (pickNums ns (some k) none (some 11)).sum
theorem cellsOf_len (ns : List Int) : (cellsOf ns).length = 11 := rfl
end Mine
end
section
set_option maxRecDepth 100000
namespace Mine
open Builtin.Int (intBits)


set_option maxHeartbeats 4000000 in
theorem c_pf {w : World} {loose : List Str} {mean : ExcName → Option Value} {mg mb : Str → Option Value} {dp un : Nat} {gd : Option (List Code)} {cn : Str} {cs : Scope} {a : Addr} {ccd : Value} {cl : List (Str × Addr)} {outer : List Env} {A₀ : Around} {base h₀ : Heap} {L : Addr} {m : Str → Option Value} {news : List (Addr × Obj)} {s : Shared} {Q E : Value → Shared → Prop} {x : Int} {t : Tok} (B : Below A₀ base outer h₀) (F : Fr h₀ L s.heap m) (X : (hd.heap_39 w.params).In h₀) (N : News h₀ L s.heap news) (T : Top topProg loose mean mg mb h₀) (hk : cs.kind = .function)
    (hx : 0 ≤ x) (hx1 : x < 2 ^ 60) 
    (hdp : dp + 3 < recursionLimit) (hu : un + 8 * 3 < cLine)
    (hret : ∀ t h' tk', Fr h₀ L h' m → News h₀ L h' news → Q (.str (Txt.join (Str.ofString ", ") (pfW PFT x)) t) { s with heap := h', toks := tk' }) :
    wpAny (model PySem.Challenge.rw_wo0032_02.row.prog w) (ktrTop dp un gd cn cs L a ccd cl outer) (call (.ref 57) [.int x t]) Q E s := by
  w_top off
  k_with_none
  k_with "LT1!" => (first | with_reducible assumption | with_reducible exact Nat.lt_succ_self _ | with_reducible exact And.left (by assumption) | with_reducible exact And.left (And.right (by assumption)) | with_reducible exact And.left (And.right (And.right (by assumption))) | with_reducible exact And.left (And.right (And.right (And.right (by assumption)))) | with_reducible exact And.left (And.right (And.right (And.right (And.right (by assumption))))) | with_reducible exact And.left (And.right (And.right (And.right (And.right (And.right (by assumption)))))) | with_reducible exact And.right (by assumption) | with_reducible exact And.right (And.right (by assumption)) | with_reducible exact And.right (And.right (And.right (by assumption))) | with_reducible exact And.right (And.right (And.right (And.right (by assumption)))))
  k_with "LT!" => (first | k_extra "LT1!" | ((with_reducible refine (Nat.lt_succ_of_lt ?_ : @LT.lt Nat _ _ (_ + 1))); first | k_extra "LT1!" | ((with_reducible refine (Nat.lt_succ_of_lt ?_ : @LT.lt Nat _ _ (_ + 1))); first | k_extra "LT1!" | ((with_reducible refine (Nat.lt_succ_of_lt ?_ : @LT.lt Nat _ _ (_ + 1))); k_extra "LT1!"))))
  k_with "NE!" => (first | with_reducible assumption | with_reducible exact Ne.symm (by assumption) | decide | ((fail_if_success (fail_if_success omega)); first | ((with_reducible refine Nat.ne_of_gt ?_); (fail_if_success (fail_if_success omega)); k_extra "LT!") | ((with_reducible refine Nat.ne_of_lt ?_); (fail_if_success (fail_if_success omega)); k_extra "LT!") | with_reducible exact And.left (by assumption) | with_reducible exact And.left (And.right (by assumption)) | with_reducible exact And.left (And.right (And.right (by assumption))) | omega))
  k_with "KNE!" => ((refine neN ?_; (try dsimp only); k_extra "NE!"))
  k_with "LBND!" => (first | assumption | decide | with_reducible exact Int.lt_of_lt_of_le (by assumption) (by decide) | with_reducible exact Int.lt_of_le_of_lt (by assumption) (by decide) | with_reducible exact Int.le_trans (by assumption) (by decide) | with_reducible exact Int.lt_of_lt_of_le (by decide) (by assumption) | with_reducible exact Int.le_trans (by decide) (by assumption) | with_reducible exact Int.natCast_nonneg _ | with_reducible exact Int.ne_of_gt (by assumption) | with_reducible exact Int.le_of_lt (by assumption) | with_reducible exact Nat.lt_of_lt_of_le (by assumption) (by decide) | with_reducible exact Nat.lt_of_le_of_lt (by assumption) (by decide) | with_reducible exact Nat.le_trans (by assumption) (by decide) | k_dflt omega | l_fact)
  k_with "ROOM!" => (((try simp only [depth_under_make, depth_under_kw, depth_in1, depth_deeper, depth_caller]); (try dsimp only [ktrTop]); first | with_reducible assumption | exact room_0 (by with_reducible assumption) | exact room_le (by with_reducible assumption) (by decide) | exact room_12 (by with_reducible assumption) (by decide)))
  k_with "UNITS!" => (((try simp only [units_in1, units_deeper, Around.mark_units, units_caller]); (try dsimp only [ktrTop]); first | with_reducible assumption | exact room_0 (by with_reducible assumption) | exact room_le (by with_reducible assumption) (by decide) | exact room_12 (by with_reducible assumption) (by decide) | exact room_123 (by with_reducible assumption) (by decide)))
  k_with "BITS!" => (first | (with_reducible assumption) | ((with_reducible apply bits_ediv2); bits_by_make) | ((with_reducible refine bits_emod2 ?_ ?_); (focus l_bnd); bits_by_make))
  k_with "binaryOp LShift int int" => ((k_here; (with_reducible refine' r_shl (by l_bnd) (by bits_by_make) (by l_bnd) (by decide) ?_)))
  k_with "inplaceOp LShift int int" => ((k_here; (with_reducible refine' ishl (by l_bnd) (by bits_by_make) (by l_bnd) (by decide) ?_)))
  k_with "binaryOp RShift int int" => ((k_here; (with_reducible refine r_shr (by l_bnd) ?_)))
  k_with "inplaceOp RShift int int" => ((k_here; (with_reducible refine ishr (by l_bnd) ?_)))
  k_with "binaryOp BitOr int int" => ((k_here; (with_reducible refine r_or (by l_bnd) (by l_bnd) (by l_bnd) ?_)))
  k_with "binaryOp BitAnd int int" => ((k_here; first | (with_reducible refine r_and1 ?_) | ((with_reducible refine r_mask (by l_bnd) ?_))))
  k_with "call builtin:divmod" => ((k_here; (with_reducible show wpAny _ _ (call (Value.builtin _) [Value.int _ _, Value.int _ _]) _ _ _); (refine' r_divmod (by assumption) (by assumption) (by l_bnd) (by first | assumption | exact noPy (by omega)) ?_); intro D' t1' t2' h' tk' F' N' l1; (try k_lt l1)))
  k_with "ALL!" => (first | assumption | (refine' allNe (by assumption)) | (refine' allNe (And.right (by assumption))) | (refine' allNe (And.right (And.right (by assumption)))) | (refine' allNeLt (by assumption) (by omega)))
  k_with "binaryOp Mult ref int" => ((k_here; k_dflt (refine' r_rep0 (by k_asm) (by k_asm) (by k_mem) (by l_bnd) (by l_bnd) ?_); intro D' h' F' N' l1; (try k_lt l1)))
  k_with "binaryOp LShift int int" => ((k_here; k_dflt (refine' r_shl1 (by omega) ?_)))
  k_with "ALL!" => ((refine' neOfLt (by assumption)))
  k_with "inplaceOp BitXor int int" => ((k_here; k_dflt (refine' ixor_pow (by omega) (by assumption) ?_)))
  k_with "call builtin:hex" => ((k_here; k_dflt (refine' r_hex (by omega) (by omega) ?_)))
  have hb60 : (2 : Int) ^ 60 = 1152921504606846976 := by decide
  rw [hb60] at hx1
  have hi1 : intBits 1 ≤ 1 := by decide
  revert B F X N T
  k_fill
  intro B F X N T
  refine wpAny_call ?_
  k_dflt (refine' code_def ?k1 ?k2 ?k3 ?k4 ?k5 ?kA ?kF ?kK ?k6 ?k7 ?k8 ?k9 ?kB ?_ ?c2 ?c3 ?c4 ?c5; (case kA => exact rfl); (case kF => exact rfl); (case kK => assumption); (case k1 => k_asm); (case k2 => k_asm); (case k3 => k_asm); (case k4 => k_asm); (case k5 => k_asm); (case k6 => k_is); (case k7 => k_is); (case k8 => ktr_room); (case k9 => exact BindsTo.of_eq rfl); (case c5 => decide); (case kB => exact locs rfl); (case c2 => exact rfl); (case c3 => exact rfl); (case c4 => exact rfl); k_whole; intro g' L' h' FG' F' N' B' X' T'; (try dsimp only); (try k_fold))
  k_with "exec For" => ((refine for_else (h₀ := g') rfl rfl ?_))
  k_with "pyIter ref" => (((with_reducible rename Fr g' _ _ _ => lF'); (with_reducible rename News g' _ _ _ => lN'); (with_reducible rename IsRange _ _ _ _ _ _ _ _ => lR'); (with_unfolding_all refine pf_loop (n := 32) (rn := Str.ofString "flags") (fg := [Str.ofString "i", Str.ofString "flag"]) (PI PFT x) (by rfl) lR' (by rfl) (by rfl) lF' lN' (by rfl) StrsAre.nil PI.start (by decide) (by decide) (by decide) ?_ ?_); (clear lF' lN' lR'); (rotate_left); (intro r9 tr9 vs9 ss9 nn9 u9 h9 tk9 hi9 hI9 F9 N9; (have hb9 := hI9.bnd hx); (have hl9 := hI9.len (by decide) hi9 (by decide)); (try k_fold)); (rotate_left); (intro I9 i9 t9 r9 tr9 vs9 ss9 nn9 u9 h9 tk9 hlt9 hD9 hoff9 hi9 hI9 F9 N9; (have hb9 := hI9.bnd hx); (have hD99 := Ne.symm hD9); (have hp9 := pow2_pos i9); (have hp99 := pow2_32 hlt9); (have hl9 := hI9.len (by decide) hi9 (by omega)); (try k_fold))))
  k_with "binaryOp BitAnd int int" => ((refine r_andpow ?_ ?_ ?_); (focus l_bnd); (intro hz9); (rotate_left); (intro ho9))
  k_with "EPost" => (first | (exfalso; omega) | (refine EPost.brk ?_) | (refine EPost.pf (by assumption) (by assumption) hi9 (by with_unfolding_all rfl) (by intro z h1 h2; simp only [List.contains_cons, List.contains_nil, Bool.or_false, Bool.or_eq_false_iff, beq_eq_false_iff_ne, ne_eq] at h2; simp [h1, h2]) (hI9.off hz9) hD9 hoff9) | ((with_reducible rename News _ _ _ _ => nN); (simp only [List.push_toArray] at nN); (refine EPost.pf (by assumption) nN (strs_snoc hi9) (by with_unfolding_all rfl) (by intro z h1 h2; simp only [List.contains_cons, List.contains_nil, Bool.or_false, Bool.or_eq_false_iff, beq_eq_false_iff_ne, ne_eq] at h2; simp [h1, h2]) (hI9.on ho9 (by assumption)) hD9 hoff9)))
  k_with "call builtin:dict.get" => (((try kt_k); (refine kget (D := PFT) (by with_unfolding_all assumption) (by kt_keeps) (by decide) ?_); intro t7))
  k_with "call builtin:str.join" => (((with_reducible rename News _ _ _ _ => nN); (simp only [List.push_toArray] at nN); (refine r_join (ys := pfW PFT x) nN (by first | exact List.mem_cons_self | exact List.mem_cons_of_mem _ List.mem_cons_self) (by first | (rw [← hI9.fin]; exact strs_snoc hi9) | (rw [← hI9.brk hx hlt9 ho9 (by assumption)]; exact strs_snoc hi9)) (by decide) (by have := pfW_len (D := PFT) (by decide) hx (show x < 2 ^ 60 from hx1); exact ⟨this.1, by omega⟩) ?_); intro t8 k8))
  k_steps
  all_goals (refine hret _ _ _ (by assumption) ?_; first | assumption | (refine cb_drop (by assumption) fun p hp => ?_; simp [hp]))
end Mine
end
section
namespace Mine
def JPost (h₀ : Heap) (L : Addr) (s : Shared) (I : Addr) (it : Obj) (J : (Str → Option Value) → List (Addr × Obj) → Prop) (f : Flow) (s₂ : Shared) : Prop :=
  f = .next ∧ ∃ h' tk m' news', s₂ = { s with heap := h', toks := tk } ∧ Fr h₀ L h' m' ∧ News h₀ L h' ((I, it) :: news') ∧ (∀ p ∈ news', p.1 ≠ I) ∧ J m' news'
theorem JPost.intro {h₀ : Heap} {L : Addr} {s : Shared} {I : Addr} {it : Obj} {J : (Str → Option Value) → List (Addr × Obj) → Prop} {h' : Heap} {tk : Nat} {m' : Str → Option Value} {news' : List (Addr × Obj)}
    (F : Fr h₀ L h' m') (N : News h₀ L h' ((I, it) :: news')) (off : ∀ p ∈ news', p.1 ≠ I) (hJ : J m' news') : JPost h₀ L s I it J .next { s with heap := h', toks := tk } := ⟨rfl, h', tk, m', news', rfl, F, N, off, hJ⟩
section
variable {prog : Program} {w : World} {A : Around} {E : Value → Shared → Prop} {Q : Flow → Shared → Prop} {s : Shared} {env : Env} {h₀ : Heap} {x : Str} {body : List Stmt}
theorem list_rest {I₀ : Addr} {lp : Addr × Obj} (J : List Value → (Str → Option Value) → List (Addr × Obj) → Prop) (hmem : ∀ r m news, J r m news → lp ∈ news)
    (turn : ∀ v r m news it h tk, J (v :: r) m news → Fr h₀ env.locals h (fun y => if y = x then some v else m y) → News h₀ env.locals h ((I₀, it) :: news) →
      wpAny (model prog w) A (execs body env) (JPost h₀ env.locals { s with heap := h, toks := tk } I₀ it (J r)) E { s with heap := h, toks := tk })
    (done : ∀ m news h tk, J [] m news → Fr h₀ env.locals h m → News h₀ env.locals h news → Q .next { s with heap := h, toks := tk }) :
    ∀ (rv : List Value) m news, J rv m news → ListRest prog w A E h₀ env x body Q s I₀ lp rv m news
  | [], m, news, hJ => fun h tk F N => done m news h tk hJ F N
  | v :: r, m, news, hJ => fun it h tk hc F N => by
    refine wpAny_mono (turn v r m news it h tk hJ F N) (fun f s₂ p => ?_) fun _ _ e => e
    obtain ⟨rfl, h', tk', m', news', rfl, F', N', off, hJ'⟩ := p
    exact ⟨h', tk', m', news', rfl, F', N', off, hmem _ _ _ hJ', list_rest J hmem turn done r m' news' hJ'⟩
theorem list_loop {ax : Addr} {lo : Obj} {vs : List Value} {n : Nat} {m₀ : Str → Option Value} {news : List (Addr × Obj)} (J : List Value → (Str → Option Value) → List (Addr × Obj) → Prop)
    (hh : A.handled = none) (F : Fr h₀ env.locals s.heap m₀) (N : News h₀ env.locals s.heap news) (hm : (ax, lo) ∈ news) (hc : lo.cls = .type "list") (hd : lo.data = .seq vs.toArray n) (hmem : ∀ r m news, J r m news → (ax, lo) ∈ news) (h0 : J vs m₀ news)
    (turn : ∀ I v r m news₁ it h tk, (∀ p ∈ news, p.1 < I) → J (v :: r) m news₁ → Fr h₀ env.locals h (fun y => if y = x then some v else m y) → News h₀ env.locals h ((I, it) :: news₁) →
      wpAny (model prog w) A (execs body env) (JPost h₀ env.locals { s with heap := h, toks := tk } I it (J r)) E { s with heap := h, toks := tk })
    (done : ∀ m news h tk, J [] m news → Fr h₀ env.locals h m → News h₀ env.locals h news → Q .next { s with heap := h, toks := tk }) :
    wpAny (model prog w) A (pyIter (.ref ax)) (fun it s₂ => LoopAtV prog w A h₀ env x body Q E it s₂) E s := by
  refine iter_listUnr hh F N hm hc hd fun I hI => ?_
  exact list_rest J hmem (fun v r m news₁ it h tk hJ F₁ N₁ => turn I v r m news₁ it h tk hI hJ F₁ N₁) done vs m₀ news h0
end
def tbOK : List Int → List Int → Prop
  | [], [] => True
  | t :: ts, b :: bs => (b = 0 ∨ b = 2 ^ (2 ^ t.toNat : Int).toNat) ∧ tbOK ts bs
  | _, _ => False
theorem tbOK.snoc {t b : Int} (h : b = 0 ∨ b = 2 ^ (2 ^ t.toNat : Int).toNat) : ∀ {ts bs : List Int}, tbOK ts bs → tbOK (ts ++ [t]) (bs ++ [b])
  | [], [], _ => ⟨h, trivial⟩
  | _ :: _, _ :: _, h' => ⟨h'.1, tbOK.snoc h h'.2⟩
theorem tbOK.len : ∀ {ts bs : List Int}, tbOK ts bs → bs.length = ts.length
  | [], [], _ => rfl
  | _ :: _, _ :: _, h' => by simp [tbOK.len h'.2]
structure TabI (k : Nat) (sp tn tb : List Int) : Prop where
  ltn : tn.length + k = 9
  lsp : sp.length = 4 + k
  nd : (sp ++ tn).Nodup
  bd : ∀ z ∈ sp ++ tn, 0 ≤ z ∧ z ≤ 12
  ok : tbOK tn tb
theorem TabI.start : TabI 9 (rangeKs 0 13) [] [] := ⟨rfl, rfl, by decide, by decide, trivial⟩
theorem eraseIdx_perm {l : List Int} {i : Nat} (h : i < l.length) : (l.eraseIdx i ++ [l[i]]).Perm l := by
  rw [List.eraseIdx_eq_take_drop_succ]
  have e : l = l.take i ++ l[i] :: l.drop (i + 1) := by
    rw [← List.drop_eq_getElem_cons h, List.take_append_drop]
  conv => rhs; rw [e]
  rw [List.append_assoc]
  exact List.Perm.append_left _ List.perm_append_comm
theorem TabI.step {k : Nat} {sp tn tb : List Int} {i : Nat} {b : Int} (h : TabI (k + 1) sp tn tb) (hi : i < sp.length) (hb : b = 0 ∨ b = 2 ^ (2 ^ (sp[i]).toNat : Int).toNat) : TabI k (sp.eraseIdx i) (tn ++ [sp[i]]) (tb ++ [b]) := by
  have hp : (sp.eraseIdx i ++ (tn ++ [sp[i]])).Perm (sp ++ tn) := by
    refine ((List.perm_append_comm (l₁ := tn) (l₂ := [sp[i]])).append_left _).trans ?_
    rw [← List.append_assoc]
    exact (eraseIdx_perm hi).append_right _
  refine ⟨by have := h.ltn; simp; omega, by rw [List.length_eraseIdx_of_lt hi]; have := h.lsp; omega, hp.nodup_iff.mpr h.nd, fun z hz => h.bd z (hp.mem_iff.mp hz), h.ok.snoc hb⟩
theorem ints_get : ∀ {vs : List Value} {ns : List Int}, IntsAre vs ns → ∀ {k : Nat} (h : k < vs.length) (h' : k < ns.length), ∃ t, vs[k] = .int ns[k] t
  | _, _, .cons n t _, 0, _, _ => ⟨t, rfl⟩
  | _, _, .cons n t r, k + 1, h, h' => ints_get r (by simpa using h) (by simpa using h')
section
variable {prog : Program} {w : World} {A : Around} {E : Value → Shared → Prop} {s : Shared} {Q : Value → Shared → Prop}
end
end Mine
namespace Mine
def JTab (Sp Tn Tb : Addr) (m₀ : Str → Option Value) (rest : List (Addr × Obj)) (ds : Addr × Obj) (x : Str) (rv : List Value) (m : Str → Option Value) (news : List (Addr × Obj)) : Prop :=
  ∃ (sp tn tb : List Int) (spv tnv tbv : List Value) (n1 n2 n3 : Nat) (u : Str → Option Value), IntsAre spv sp ∧ IntsAre tnv tn ∧ IntsAre tbv tb ∧ TabI rv.length sp tn tb ∧ (∃ zs, IntsAre rv zs) ∧ m = (fun y => if y = x then u y else m₀ y) ∧
    news = ds :: (Tb, W.listOf tbv.toArray n3) :: (Tn, W.listOf tnv.toArray n2) :: (Sp, W.listOf spv.toArray n1) :: rest
theorem JTab.mem {Sp Tn Tb : Addr} {m₀ : Str → Option Value} {rest : List (Addr × Obj)} {ds : Addr × Obj} {x : Str} {rv : List Value} {m : Str → Option Value} {news : List (Addr × Obj)} (h : JTab Sp Tn Tb m₀ rest ds x rv m news) : ds ∈ news := by
  obtain ⟨_, _, _, _, _, _, _, _, _, _, _, _, _, _, _, _, rfl⟩ := h
  exact .head _
end Mine
namespace Mine
theorem ints_cons {v : Value} {r : List Value} {zs : List Int} (h : IntsAre (v :: r) zs) : ∃ a t zs', v = .int a t ∧ zs = a :: zs' ∧ IntsAre r zs' := by
  cases h with
  | cons a t h => exact ⟨a, t, _, rfl, rfl, h⟩
end Mine
namespace Mine
end Mine
namespace Mine
end Mine
end
section
namespace Mine
end Mine
end
section
namespace Mine
section
variable {prog : Program} {w : World} {A : Around} {E : Value → Shared → Prop} {s : Shared}
end
end Mine
end
section
open PyProof.Rows.LCg
namespace Mine
def Rest3 (prog : Program) (w : World) (A : Around) (h₀ : Heap) (L : Addr) (m : Str → Option Value) (env : Env) (elt : Expr) (x y z : Str) (scope : Scope) (cl : List (Str × Addr)) (s : Shared) (lp : Addr × Obj) (Fin : List Value → List (Addr × Obj) → Prop) : List Value → List Value → List (Addr × Obj) → Prop
  | [], ys, news => Fin ys news
  | v :: r, ys, news => ∃ (a : Addr) (v1 v2 v3 : Value) (c : Nat), v = .ref a ∧ (a, W.listOf #[v1, v2, v3] c) ∈ news ∧
      ∀ I oI C oC D m₂ h tk (E' : Value → Shared → Prop), NsObj oC m₂ → m₂ x = some v1 → m₂ y = some v2 → m₂ z = some v3 → Fr h₀ L h m → News h₀ L h ((I, oI) :: (C, oC) :: (D, lst ys) :: news) → Off3 I C D news → ((@Ne Nat I C) ∧ (@Ne Nat I D) ∧ (@Ne Nat C D)) →
        wpAny (model prog w) A (eval elt (compEnvC scope cl C env)) (CompEnd h₀ L m { s with heap := h, toks := tk } I oI C oC D (lst ys) (fun n => lp ∈ n) (fun u news' => Rest3 prog w A h₀ L m env elt x y z scope cl s lp Fin r (ys ++ [u]) news')) E' { s with heap := h, toks := tk }
section
variable {prog : Program} {w : World} {A : Around} {E : Value → Shared → Prop} {s : Shared} {h₀ : Heap} {L : Addr} {m : Str → Option Value} {env : Env}
end
end Mine
namespace Mine
section
variable {prog : Program} {w : World} {A : Around} {E : Value → Shared → Prop} {s : Shared} {h₀ : Heap} {L : Addr} {m : Str → Option Value} {env : Env}
def Src3 (prog : Program) (w : World) (A : Around) (h₀ : Heap) (L : Addr) (m : Str → Option Value) (env : Env) (elt : Expr) (x y z : Str) (scope : Scope) (cl : List (Str × Addr)) (Fin : Shared → List Value → List (Addr × Obj) → Prop) (xv : Value) (s₁ : Shared) : Prop :=
  ∃ ax its c news, xv = .ref ax ∧ A.handled = none ∧ Fr h₀ L s₁.heap m ∧ News h₀ L s₁.heap news ∧ (ax, W.listOf (List.toArray its) c) ∈ news ∧ its.length ≤ 1000 ∧
    ∀ g, Rest3 prog w A h₀ L m env elt x y z scope cl { s₁ with heap := g } (ax, W.listOf (List.toArray its) c) (Fin { s₁ with heap := g }) its [] news
end
end Mine
end
section
namespace Mine
open Builtin.Int (intBits)
end Mine
end
section
open PyProof.Rows.LCg PyProof.Rows.LCt
namespace Mine
open Builtin.Int (intBits)
section
variable {prog : Program} {w : World} {A : Around} {E : Value → Shared → Prop} {s : Shared} {h₀ : Heap} {L : Addr} {m : Str → Option Value} {env : Env}
def TurnT (prog : Program) (w : World) (A : Around) (h₀ : Heap) (L : Addr) (m : Str → Option Value) (env : Env) (ct elt : Expr) (x : Str) (scope : Scope) (cl : List (Str × Addr)) (s : Shared) (S : List (Addr × Obj) → Prop) (P : Nat → Value → Prop) (J : Nat → List Value → List (Addr × Obj) → Prop) (i : Nat) : Prop :=
  ∀ ys news, J i ys news → ∀ v I oI C oC D m₂ h tk (E' : Value → Shared → Prop), P i v → NsObj oC m₂ → m₂ x = some v → Fr h₀ L h m → News h₀ L h ((I, oI) :: (C, oC) :: (D, lst ys) :: news) → Off3 I C D news → ((@Ne Nat I C) ∧ (@Ne Nat I D) ∧ (@Ne Nat C D)) →
      wpAny (model prog w) A (isTrue ct (compEnvC scope cl C env) (eval ct (compEnvC scope cl C env))) (fun ok s' => if ok = true then
        wpAny (model prog w) A (eval elt (compEnvC scope cl C env)) (CompEnd h₀ L m { s with heap := h, toks := tk } I oI C oC D (lst ys) S (fun y news' => J (i + 1) (ys ++ [y]) news')) E' s'
        else CompEnd h₀ L m { s with heap := h, toks := tk } I oI C oC D (lst ys) S (fun _ news' => J (i + 1) ys news') Value.none s') E' { s with heap := h, toks := tk }
theorem compEnd_mono {s₁ : Shared} {I : Addr} {oI : Obj} {C : Addr} {oC : Obj} {D : Addr} {oD : Obj} {S : List (Addr × Obj) → Prop} {rest rest' : Value → List (Addr × Obj) → Prop} {y : Value} {s₂ : Shared}
    (h : CompEnd h₀ L m s₁ I oI C oC D oD S rest y s₂) (hr : ∀ news', rest y news' → rest' y news') : CompEnd h₀ L m s₁ I oI C oC D oD S rest' y s₂ := by
  obtain ⟨h', tk, news', e, F, N, off, hS, r⟩ := h
  exact ⟨h', tk, news', e, F, N, off, hS, hr _ r⟩
theorem compT_J {ct elt : Expr} {x : Str} {scope : Scope} {cl : List (Str × Addr)} {S : List (Addr × Obj) → Prop} {P : Nat → Value → Prop} {Fin : List Value → List (Addr × Obj) → Prop} (J : Nat → List Value → List (Addr × Obj) → Prop) {n : Nat}
    (turn : ∀ i, i < n → TurnT prog w A h₀ L m env ct elt x scope cl s S P J i) (fin : ∀ ys news, J n ys news → Fin ys news) :
    ∀ k i ys news, i + k = n → J i ys news → CompRestT prog w A h₀ L m env ct elt x scope cl s S P Fin k i ys news := by
  intro k
  induction k with
  | zero => intro i ys news e hJ; obtain rfl : i = n := e; exact CompRestT.zero (fin _ _ hJ)
  | succ k ih =>
    intro i ys news e hJ
    refine CompRestT.succ fun v I oI C oC D m₂ h tk E' hv hC hx F N off ne => ?_
    refine wpAny_mono (turn i (by omega) ys news hJ v I oI C oC D m₂ h tk E' hv hC hx F N off ne) (fun ok s' h' => ?_) fun _ _ e => e
    cases ok with
    | true =>
      simp only [if_true] at h' ⊢
      exact wpAny_mono h' (fun y s₂ h₂ => compEnd_mono h₂ fun news' r => ih (i + 1) _ _ (by omega) r) fun _ _ e => e
    | false =>
      simp only [Bool.false_eq_true, if_false] at h' ⊢
      exact compEnd_mono h' fun news' r => ih (i + 1) _ _ (by omega) r
theorem compG_J {elt : Expr} {x : Str} {scope : Scope} {cl : List (Str × Addr)} {S : List (Addr × Obj) → Prop} {P : Nat → Value → Prop} {Fin : List Value → List (Addr × Obj) → Prop} (J : Nat → List Value → List (Addr × Obj) → Prop) {n : Nat}
    (turn : ∀ i, i < n → ∀ ys news, J i ys news → ∀ v I oI C oC D m₂ h tk (E' : Value → Shared → Prop), P i v → NsObj oC m₂ → m₂ x = some v → Fr h₀ L h m → News h₀ L h ((I, oI) :: (C, oC) :: (D, lst ys) :: news) → Off3 I C D news → ((@Ne Nat I C) ∧ (@Ne Nat I D) ∧ (@Ne Nat C D)) →
        wpAny (model prog w) A (eval elt (compEnvC scope cl C env)) (CompEnd h₀ L m { s with heap := h, toks := tk } I oI C oC D (lst ys) S (fun y news' => J (i + 1) (ys ++ [y]) news')) E' { s with heap := h, toks := tk })
    (fin : ∀ ys news, J n ys news → Fin ys news) :
    ∀ k i ys news, i + k = n → J i ys news → CompRest prog w A h₀ L m env elt x scope cl s S P Fin k i ys news := by
  intro k
  induction k with
  | zero => intro i ys news e hJ; obtain rfl : i = n := e; exact CompRest.zero (fin _ _ hJ)
  | succ k ih =>
    intro i ys news e hJ
    refine CompRest.succ fun v I oI C oC D m₂ h tk E' hv hC hx F N off ne => ?_
    refine wpAny_mono (turn i (by omega) ys news hJ v I oI C oC D m₂ h tk E' hv hC hx F N off ne) (fun y s₂ h₂ => ?_) fun _ _ e => e
    exact compEnd_mono h₂ fun news' r => ih (i + 1) _ _ (by omega) r
def IEnd (h₀ : Heap) (L : Addr) (m : Str → Option Value) (s₁ : Shared) (all : List (Addr × Obj)) (val : Tok → Value) (y : Value) (s₂ : Shared) : Prop :=
  ∃ t h' tk, y = val t ∧ s₂ = { s₁ with heap := h', toks := tk } ∧ Fr h₀ L h' m ∧ News h₀ L h' all
theorem IEnd.int {s₁ : Shared} {all all' : List (Addr × Obj)} {a b : Int} {t : Tok} {h' : Heap} {tk : Nat} (e : a = b) (F : Fr h₀ L h' m) (N : News h₀ L h' all') (sub : ∀ p ∈ all, p ∈ all') :
    IEnd h₀ L m s₁ all (fun t => .int b t) (.int a t) { s₁ with heap := h', toks := tk } := ⟨t, h', tk, by rw [e], rfl, F, fun p hp => N p (sub p hp)⟩
theorem IEnd.str {s₁ : Shared} {all all' : List (Addr × Obj)} {a b : Str} {t : Tok} {h' : Heap} {tk : Nat} (e : a = b) (F : Fr h₀ L h' m) (N : News h₀ L h' all') (sub : ∀ p ∈ all, p ∈ all') :
    IEnd h₀ L m s₁ all (fun t => .str b t) (.str a t) { s₁ with heap := h', toks := tk } := ⟨t, h', tk, by rw [e], rfl, F, fun p hp => N p (sub p hp)⟩
theorem range_map_succ {α : Type} (f : Nat → α) (i : Nat) : (List.range (i + 1)).map f = (List.range i).map f ++ [f i] := by rw [List.range_succ, List.map_append]; rfl
theorem compG_ints {elt : Expr} {x : Str} {scope : Scope} {cl : List (Str × Addr)} {S : List (Addr × Obj) → Prop} {P : Nat → Value → Prop} {Fin : List Value → List (Addr × Obj) → Prop} {NB : List (Addr × Obj)} {n : Nat} (f : Nat → Int) (hS : S NB)
    (turn : ∀ i, i < n → ∀ ys, IntsAre ys ((List.range i).map f) → ∀ v I oI C oC D m₂ h tk (E' : Value → Shared → Prop), P i v → NsObj oC m₂ → m₂ x = some v → Fr h₀ L h m → News h₀ L h ((I, oI) :: (C, oC) :: (D, lst ys) :: NB) → Off3 I C D NB → ((@Ne Nat I C) ∧ (@Ne Nat I D) ∧ (@Ne Nat C D)) →
        wpAny (model prog w) A (eval elt (compEnvC scope cl C env)) (IEnd h₀ L m { s with heap := h, toks := tk } ((I, oI) :: (C, oC) :: (D, lst ys) :: NB) (fun t => .int (f i) t)) E' { s with heap := h, toks := tk })
    (fin : ∀ ys, IntsAre ys ((List.range n).map f) → Fin ys NB) :
    CompRest prog w A h₀ L m env elt x scope cl s S P Fin n 0 [] NB := by
  refine compG_J (fun i ys news => IntsAre ys ((List.range i).map f) ∧ news = NB) (n := n) ?_ (fun ys news hJ => by obtain ⟨h1, rfl⟩ := hJ; exact fin ys h1) n 0 [] NB (by omega) ⟨.nil, rfl⟩
  rintro i hi ys news ⟨h1, rfl⟩ v I oI C oC D m₂ h tk E' hv hC hx F N off ne
  refine wpAny_mono (turn i hi ys h1 v I oI C oC D m₂ h tk E' hv hC hx F N off ne) (fun y s₂ h₂ => ?_) fun _ _ e => e
  obtain ⟨t, h', tk', rfl, rfl, F', N'⟩ := h₂
  exact ⟨h', tk', _, rfl, F', N', off, hS, by rw [range_map_succ]; exact ints_snoc h1, rfl⟩
theorem compG_strs {elt : Expr} {x : Str} {scope : Scope} {cl : List (Str × Addr)} {S : List (Addr × Obj) → Prop} {P : Nat → Value → Prop} {Fin : List Value → List (Addr × Obj) → Prop} {NB : List (Addr × Obj)} {n : Nat} (f : Nat → Str) (hS : S NB)
    (turn : ∀ i, i < n → ∀ ys, StrsAre ys ((List.range i).map f) → ∀ v I oI C oC D m₂ h tk (E' : Value → Shared → Prop), P i v → NsObj oC m₂ → m₂ x = some v → Fr h₀ L h m → News h₀ L h ((I, oI) :: (C, oC) :: (D, lst ys) :: NB) → Off3 I C D NB → ((@Ne Nat I C) ∧ (@Ne Nat I D) ∧ (@Ne Nat C D)) →
        wpAny (model prog w) A (eval elt (compEnvC scope cl C env)) (IEnd h₀ L m { s with heap := h, toks := tk } ((I, oI) :: (C, oC) :: (D, lst ys) :: NB) (fun t => .str (f i) t)) E' { s with heap := h, toks := tk })
    (fin : ∀ ys, StrsAre ys ((List.range n).map f) → Fin ys NB) :
    CompRest prog w A h₀ L m env elt x scope cl s S P Fin n 0 [] NB := by
  refine compG_J (fun i ys news => StrsAre ys ((List.range i).map f) ∧ news = NB) (n := n) ?_ (fun ys news hJ => by obtain ⟨h1, rfl⟩ := hJ; exact fin ys h1) n 0 [] NB (by omega) ⟨.nil, rfl⟩
  rintro i hi ys news ⟨h1, rfl⟩ v I oI C oC D m₂ h tk E' hv hC hx F N off ne
  refine wpAny_mono (turn i hi ys h1 v I oI C oC D m₂ h tk E' hv hC hx F N off ne) (fun y s₂ h₂ => ?_) fun _ _ e => e
  obtain ⟨t, h', tk', rfl, rfl, F', N'⟩ := h₂
  exact ⟨h', tk', _, rfl, F', N', off, hS, by rw [range_map_succ]; exact strs_snoc h1, rfl⟩
def BEnd (h₀ : Heap) (L : Addr) (m : Str → Option Value) (s₁ : Shared) (all : List (Addr × Obj)) (b : Bool) (ok : Bool) (s₂ : Shared) : Prop :=
  ∃ h' tk, ok = b ∧ s₂ = { s₁ with heap := h', toks := tk } ∧ Fr h₀ L h' m ∧ News h₀ L h' all
theorem BEnd.intro {s₁ : Shared} {all all' : List (Addr × Obj)} {a b : Bool} {h' : Heap} {tk : Nat} (e : a = b) (F : Fr h₀ L h' m) (N : News h₀ L h' all') (sub : ∀ p ∈ all, p ∈ all') :
    BEnd h₀ L m s₁ all b a { s₁ with heap := h', toks := tk } := ⟨h', tk, e, rfl, F, fun p hp => N p (sub p hp)⟩
def keepF {α : Type} (g : Nat → Bool) (f : Nat → α) : Nat → List α
  | 0 => []
  | i + 1 => keepF g f i ++ (if g i then [f i] else [])
theorem keepF_eq {α : Type} (g : Nat → Bool) (f : Nat → α) : ∀ i, keepF g f i = ((List.range i).filter g).map f
  | 0 => rfl
  | i + 1 => by
    rw [keepF, keepF_eq g f i, List.range_succ, List.filter_append, List.map_append]
    cases h : g i <;> simp [h]
theorem compT_ints {ct elt : Expr} {x : Str} {scope : Scope} {cl : List (Str × Addr)} {S : List (Addr × Obj) → Prop} {P : Nat → Value → Prop} {Fin : List Value → List (Addr × Obj) → Prop} {NB : List (Addr × Obj)} {n : Nat} (g : Nat → Bool) (f : Nat → Int) (hS : S NB)
    (test : ∀ i, i < n → ∀ ys, IntsAre ys (keepF g f i) → ∀ v I oI C oC D m₂ h tk (E' : Value → Shared → Prop), P i v → NsObj oC m₂ → m₂ x = some v → Fr h₀ L h m → News h₀ L h ((I, oI) :: (C, oC) :: (D, lst ys) :: NB) → Off3 I C D NB → ((@Ne Nat I C) ∧ (@Ne Nat I D) ∧ (@Ne Nat C D)) →
        wpAny (model prog w) A (isTrue ct (compEnvC scope cl C env) (eval ct (compEnvC scope cl C env))) (BEnd h₀ L m { s with heap := h, toks := tk } ((I, oI) :: (C, oC) :: (D, lst ys) :: NB) (g i)) E' { s with heap := h, toks := tk })
    (turn : ∀ i, i < n → g i = true → ∀ ys, IntsAre ys (keepF g f i) → ∀ v I oI C oC D m₂ h tk (E' : Value → Shared → Prop), P i v → NsObj oC m₂ → m₂ x = some v → Fr h₀ L h m → News h₀ L h ((I, oI) :: (C, oC) :: (D, lst ys) :: NB) → Off3 I C D NB → ((@Ne Nat I C) ∧ (@Ne Nat I D) ∧ (@Ne Nat C D)) →
        wpAny (model prog w) A (eval elt (compEnvC scope cl C env)) (IEnd h₀ L m { s with heap := h, toks := tk } ((I, oI) :: (C, oC) :: (D, lst ys) :: NB) (fun t => .int (f i) t)) E' { s with heap := h, toks := tk })
    (fin : ∀ ys, IntsAre ys (keepF g f n) → Fin ys NB) :
    CompRestT prog w A h₀ L m env ct elt x scope cl s S P Fin n 0 [] NB := by
  refine compT_J (fun i ys news => IntsAre ys (keepF g f i) ∧ news = NB) (n := n) ?_ (fun ys news hJ => by obtain ⟨h1, rfl⟩ := hJ; exact fin ys h1) n 0 [] NB (by omega) ⟨.nil, rfl⟩
  rintro i hi ys news ⟨h1, rfl⟩ v I oI C oC D m₂ h tk E' hv hC hx F N off ne
  refine wpAny_mono (test i hi ys h1 v I oI C oC D m₂ h tk E' hv hC hx F N off ne) (fun ok s' h₂ => ?_) fun _ _ e => e
  obtain ⟨h', tk', rfl, rfl, F', N'⟩ := h₂
  cases hg : g i with
  | true =>
    simp only [if_true]
    refine wpAny_mono (turn i hi hg ys h1 v I oI C oC D m₂ h' tk' E' hv hC hx F' N' off ne) (fun y s₂ h₂ => ?_) fun _ _ e => e
    obtain ⟨t, h'', tk'', rfl, rfl, F'', N''⟩ := h₂
    exact ⟨h'', tk'', _, rfl, F'', N'', off, hS, by rw [keepF, if_pos hg]; exact ints_snoc h1, rfl⟩
  | false =>
    simp only [Bool.false_eq_true, if_false]
    exact ⟨h', tk', _, rfl, F', N', off, hS, by rw [keepF, hg]; simpa using h1, rfl⟩
theorem compT_strs {ct elt : Expr} {x : Str} {scope : Scope} {cl : List (Str × Addr)} {S : List (Addr × Obj) → Prop} {P : Nat → Value → Prop} {Fin : List Value → List (Addr × Obj) → Prop} {NB : List (Addr × Obj)} {n : Nat} (g : Nat → Bool) (f : Nat → Str) (hS : S NB)
    (test : ∀ i, i < n → ∀ ys, StrsAre ys (keepF g f i) → ∀ v I oI C oC D m₂ h tk (E' : Value → Shared → Prop), P i v → NsObj oC m₂ → m₂ x = some v → Fr h₀ L h m → News h₀ L h ((I, oI) :: (C, oC) :: (D, lst ys) :: NB) → Off3 I C D NB → ((@Ne Nat I C) ∧ (@Ne Nat I D) ∧ (@Ne Nat C D)) →
        wpAny (model prog w) A (isTrue ct (compEnvC scope cl C env) (eval ct (compEnvC scope cl C env))) (BEnd h₀ L m { s with heap := h, toks := tk } ((I, oI) :: (C, oC) :: (D, lst ys) :: NB) (g i)) E' { s with heap := h, toks := tk })
    (turn : ∀ i, i < n → g i = true → ∀ ys, StrsAre ys (keepF g f i) → ∀ v I oI C oC D m₂ h tk (E' : Value → Shared → Prop), P i v → NsObj oC m₂ → m₂ x = some v → Fr h₀ L h m → News h₀ L h ((I, oI) :: (C, oC) :: (D, lst ys) :: NB) → Off3 I C D NB → ((@Ne Nat I C) ∧ (@Ne Nat I D) ∧ (@Ne Nat C D)) →
        wpAny (model prog w) A (eval elt (compEnvC scope cl C env)) (IEnd h₀ L m { s with heap := h, toks := tk } ((I, oI) :: (C, oC) :: (D, lst ys) :: NB) (fun t => .str (f i) t)) E' { s with heap := h, toks := tk })
    (fin : ∀ ys, StrsAre ys (keepF g f n) → Fin ys NB) :
    CompRestT prog w A h₀ L m env ct elt x scope cl s S P Fin n 0 [] NB := by
  refine compT_J (fun i ys news => StrsAre ys (keepF g f i) ∧ news = NB) (n := n) ?_ (fun ys news hJ => by obtain ⟨h1, rfl⟩ := hJ; exact fin ys h1) n 0 [] NB (by omega) ⟨.nil, rfl⟩
  rintro i hi ys news ⟨h1, rfl⟩ v I oI C oC D m₂ h tk E' hv hC hx F N off ne
  refine wpAny_mono (test i hi ys h1 v I oI C oC D m₂ h tk E' hv hC hx F N off ne) (fun ok s' h₂ => ?_) fun _ _ e => e
  obtain ⟨h', tk', rfl, rfl, F', N'⟩ := h₂
  cases hg : g i with
  | true =>
    simp only [if_true]
    refine wpAny_mono (turn i hi hg ys h1 v I oI C oC D m₂ h' tk' E' hv hC hx F' N' off ne) (fun y s₂ h₂ => ?_) fun _ _ e => e
    obtain ⟨t, h'', tk'', rfl, rfl, F'', N''⟩ := h₂
    exact ⟨h'', tk'', _, rfl, F'', N'', off, hS, by rw [keepF, if_pos hg]; exact strs_snoc h1, rfl⟩
  | false =>
    simp only [Bool.false_eq_true, if_false]
    exact ⟨h', tk', _, rfl, F', N', off, hS, by rw [keepF, hg]; simpa using h1, rfl⟩
end
theorem rng_size {a b : Int} {n : Nat} (h0 : a ≤ b) (hn : b - a = n) : Builtin.Range.rangeSize a b 1 = (n : Int) := by
  unfold Builtin.Range.rangeSize
  rw [if_pos (by decide)]
  by_cases h : a < b
  · rw [if_pos h, Int.ediv_one]; omega
  · rw [if_neg h]; omega
theorem rng_fits {x : Int} (h0 : 0 ≤ x) (h1 : x ≤ 1000000) : Builtin.Range.rangeFitsLong x = true := by
  unfold Builtin.Range.rangeFitsLong
  simp <;> omega
theorem rng_small {a b : Int} (ha : 0 ≤ a) (h0 : a ≤ b) (h1 : b ≤ 1000000) : Builtin.Range.small a b 1 = true := by
  have e : Builtin.Range.rangeSize a b 1 = ((b - a).toNat : Int) := rng_size h0 (by omega)
  unfold Builtin.Range.small
  rw [e, rng_fits ha (by omega), rng_fits (by omega) h1, rng_fits (by omega) (by omega), if_pos (by decide), rng_fits (by omega) (by omega), show (b + (1 - 1)) = b by omega, rng_fits (by omega) h1]
  simp
end Mine
end
section
namespace Mine
open Builtin.Int (intBits)
section
variable {prog : Program} {w : World} {A : Around} {E : Value → Shared → Prop} {Q : Flow → Shared → Prop} {s : Shared} {env : Env} {h₀ : Heap} {x : Str} {body orelse : List Stmt}
def JIs (Dq : Addr) (m₀ : Str → Option Value) (fg : List Str) (rn : Str) (rest : List (Addr × Obj)) (P : Nat → Int → List Int → Prop) (i : Nat) (m : Str → Option Value) (news : List (Addr × Obj)) : Prop :=
  ∃ (r : Int) (tr : Tok) (vs : List Value) (ss : List Int) (nn : Nat) (u : Str → Option Value), IntsAre vs ss ∧ P i r ss ∧ m = (fun y => if y = rn then some (.int r tr) else if fg.contains y then u y else m₀ y) ∧ news = (Dq, listOf vs.toArray nn) :: rest
theorem is_loop {r Dq : Addr} {b₀ : Int} {t₀ u₀ v₀ : Tok} {n : Nat} {m₀ : Str → Option Value} {fg : List Str} {rn : Str} {rest : List (Addr × Obj)} {r0 : Int} {tr0 : Tok} {vs0 : List Value} {ss0 : List Int} {nn0 : Nat} (P : Nat → Int → List Int → Prop)
    (hh : A.handled = none) (hr : IsRange s.heap r 0 b₀ 1 t₀ u₀ v₀) (hsmall : Builtin.Range.small 0 b₀ 1 = true) (hn : Builtin.Range.rangeSize 0 b₀ 1 = (n : Int)) (F : Fr h₀ env.locals s.heap m₀) (N : News h₀ env.locals s.heap ((Dq, listOf vs0.toArray nn0) :: rest))
    (hr0 : m₀ rn = some (.int r0 tr0)) (hi0 : IntsAre vs0 ss0) (hP0 : P 0 r0 ss0) (hx : fg.contains x = true) (hrx : rn ≠ x) (hrf : fg.contains rn = false)
    (turn : ∀ I i t r tr vs ss nn (u : Str → Option Value) h tk, i < n → Dq ≠ I → (∀ p ∈ rest, p.1 < I) → IntsAre vs ss → P i r ss →
      Fr h₀ env.locals h (fun y => if y = x then some (.int (i : Int) t) else if y = rn then some (.int r tr) else if fg.contains y then u y else m₀ y) → News h₀ env.locals h ((I, itR ((i + 1 : Nat) : Int) ((n : Int) - ((i + 1 : Nat) : Int))) :: (Dq, listOf vs.toArray nn) :: rest) →
      wpAny (model prog w) A (execs body env) (EPost h₀ env.locals { s with heap := h, toks := tk } I (itR ((i + 1 : Nat) : Int) ((n : Int) - ((i + 1 : Nat) : Int))) (JIs Dq m₀ fg rn rest P (i + 1)) Q) E { s with heap := h, toks := tk })
    (done : ∀ r tr vs ss nn (u : Str → Option Value) h tk, IntsAre vs ss → P n r ss → Fr h₀ env.locals h (fun y => if y = rn then some (.int r tr) else if fg.contains y then u y else m₀ y) → News h₀ env.locals h ((Dq, listOf vs.toArray nn) :: rest) → wpAny (model prog w) A (execs orelse env) Q E { s with heap := h, toks := tk }) :
    wpAny (model prog w) A (pyIter (.ref r)) (fun it s₂ => LoopE prog w A h₀ env x body orelse Q E it s₂) E s := by
  have em : m₀ = fun y => if y = rn then some (.int r0 tr0) else if fg.contains y then m₀ y else m₀ y := by
    funext y
    by_cases h1 : y = rn
    · subst h1; simp [hr0]
    · simp [h1]
  refine iter_E (JIs Dq m₀ fg rn rest P) hh hr hsmall hn F N ⟨r0, tr0, vs0, ss0, nn0, m₀, hi0, hP0, em, rfl⟩ ?_ ?_
  · rintro I i t m₁ news₁ h tk hlt hi hne ⟨r, tr, vs, ss, nn, u, h1, h2, rfl, rfl⟩ F₁ N₁
    exact turn I i t r tr vs ss nn u h tk hi (hne _ (.head _)) (fun p hp => hlt p (.tail _ hp)) h1 h2 F₁ N₁
  · rintro m₁ news₁ h tk ⟨r, tr, vs, ss, nn, u, h1, h2, rfl, rfl⟩ F₁ N₁
    exact done r tr vs ss nn u h tk h1 h2 F₁ N₁
theorem EPost.is {L : Addr} {I Dq : Addr} {it : Obj} {m₀ m' : Str → Option Value} {fg : List Str} {rn : Str} {rest : List (Addr × Obj)} {P : Nat → Int → List Int → Prop} {j : Nat} {h' : Heap} {tk : Nat} {vs : List Value} {ss : List Int} {nn : Nat} {r : Int} {tr : Tok}
    (F : Fr h₀ L h' m') (N : News h₀ L h' ((I, it) :: (Dq, listOf vs.toArray nn) :: rest)) (hi : IntsAre vs ss) (hr : m' rn = some (.int r tr)) (hz : ∀ z, z ≠ rn → fg.contains z = false → m' z = m₀ z) (hP : P j r ss) (hD : Dq ≠ I) (hoff : ∀ p ∈ rest, p.1 < I) :
    EPost h₀ L s I it (JIs Dq m₀ fg rn rest P j) Q .next { s with heap := h', toks := tk } := by
  refine ⟨h', tk, m', _, rfl, F, N, ?_, r, tr, vs, ss, nn, m', hi, hP, ?_, rfl⟩
  · intro p hp
    rcases List.mem_cons.mp hp with rfl | hp
    · exact hD
    · exact Nat.ne_of_lt (hoff p hp)
  · funext y
    by_cases h1 : y = rn
    · subst h1; simp [hr]
    · rw [if_neg h1]
      cases h2 : fg.contains y with
      | true => simp
      | false => simp only [Bool.false_eq_true, if_false]; exact hz y h1 h2
end
inductive Ends (tb : List (Addr × Obj)) : List (Addr × Obj) → List (Addr × Obj) → Prop where
  | nil : Ends tb tb []
  | cons {a : Addr × Obj} {l r : List (Addr × Obj)} : Ends tb l r → Ends tb (a :: l) (a :: r)
theorem Ends.eq {tb l r : List (Addr × Obj)} (h : Ends tb l r) : l = r ++ tb := by
  induction h with
  | nil => rfl
  | cons _ ih => rw [ih]; rfl
def NotTab (o : Obj) : Prop := o.cls ≠ .none ∧ (∀ vs, o.data = .fields vs → ∀ s t, vs[1]? ≠ some (.str s t)) ∨ ∃ v, o.data = .cell v
theorem NotTab.list {its : Array Value} {n : Nat} : NotTab (W.listOf its n) := .inl ⟨(by intro h; cases h), fun vs h => by cases h⟩
theorem NotTab.lst {ys : List Value} : NotTab (LCg.lst ys) := .inl ⟨(by intro h; cases h), fun vs h => by cases h⟩
theorem NotTab.cell {o : Obj} {v : Option Value} (h : o.data = .cell v) : NotTab o := .inr ⟨v, h⟩
theorem NotTab.tup {its : Array Value} {n : Nat} : NotTab { cls := .type "tuple", data := .seq its n } := .inl ⟨(by intro h; cases h), fun vs h => by cases h⟩
theorem NotTab.iter {ax : Addr} {k : Int} {u : Tok} : NotTab { cls := .type "list_iterator", data := .fields #[.ref ax, .int k u] } := .inl ⟨(by intro h; cases h), fun vs h s t => by
  have e : vs = #[.ref ax, .int k u] := by simpa [eq_comm] using h
  rw [e]; simp⟩
theorem tab_ne {h₀ h : Heap} {L X : Addr} {ob : Obj} {all ts : List (Addr × Obj)} {P : Addr} {ln cl : Int} {q : Str} {lo : Nat} (N : News h₀ L h all) (hX : (X, ob) ∈ all) (hT : Tab P ln cl q lo ts) (hsub : ∀ p ∈ ts, p ∈ all) (hn : NotTab ob) : ∀ p ∈ ts, p.1 ≠ X := by
  have key : ∀ p ∈ ts, p.1 = X → p.2 = ob := fun p hp e => by
    have a1 := (N p (hsub p hp)).1
    rw [e, (N _ hX).1] at a1
    exact (Option.some.inj a1).symm
  rcases hT with rfl | ⟨c, oc, vs, t, rfl, h3, h4, _⟩
  · intro p hp e
    have k := key p hp e
    rw [List.mem_singleton.mp hp] at k
    rcases hn with ⟨h1, _⟩ | ⟨v, h1⟩
    · exact h1 (by rw [← k])
    · rw [← k] at h1; cases h1
  · intro p hp e
    have e2 := key p hp e
    rcases List.mem_cons.mp hp with rfl | hp
    · rcases hn with ⟨h1, _⟩ | ⟨v, h1⟩
      · exact h1 (by rw [← e2])
      · rw [← e2] at h1; cases h1
    · rw [List.mem_singleton.mp hp] at e2
      rcases hn with ⟨_, h2⟩ | ⟨v, h1⟩
      · exact h2 vs (by rw [← e2]; exact h3) _ _ h4
      · rw [← e2] at h1; rw [h3] at h1; cases h1
def Tab30 (ts : List (Addr × Obj)) : Prop := Tab 30 32 4 (Str.ofString "_int2digits.<locals>.inner") 41 ts
def Tab37 (ts : List (Addr × Obj)) : Prop := Tab 37 47 4 (Str.ofString "_digits2int.<locals>.inner") 41 ts
def Tabs (tb : List (Addr × Obj)) : Prop := ∃ ts30 ts37, tb = ts30 ++ ts37 ∧ Tab30 ts30 ∧ Tab37 ts37
theorem Tabs.fresh : Tabs [(30, tabObj #[]), (37, tabObj #[])] := ⟨[(30, tabObj #[])], [(37, tabObj #[])], rfl, .fresh, .fresh⟩
theorem Tabs.ne {h₀ h : Heap} {L X : Addr} {ob : Obj} {all tb : List (Addr × Obj)} (hT : Tabs tb) (N : News h₀ L h all) (hX : (X, ob) ∈ all) (hsub : ∀ p ∈ tb, p ∈ all) (hn : NotTab ob) : ∀ p ∈ tb, p.1 ≠ X := by
  obtain ⟨ts30, ts37, rfl, h30, h37⟩ := hT
  intro p hp
  rcases List.mem_append.mp hp with hp | hp
  · exact tab_ne N hX h30 (fun p hp => hsub p (List.mem_append_left _ hp)) hn p hp
  · exact tab_ne N hX h37 (fun p hp => hsub p (List.mem_append_right _ hp)) hn p hp
theorem Tab.has {P : Addr} {ln cl : Int} {q : Str} {lo : Nat} {ts : List (Addr × Obj)} (h : Tab P ln cl q lo ts) : ∃ xs, (P, tabObj xs) ∈ ts := by
  rcases h with rfl | ⟨c, oc, vs, t, rfl, _⟩
  · exact ⟨_, .head _⟩
  · exact ⟨_, .head _⟩
theorem Tabs.off {h₀ h : Heap} {L : Addr} {all tb : List (Addr × Obj)} (hT : Tabs tb) (N : News h₀ L h all) (hsub : ∀ p ∈ tb, p ∈ all) {rest : List (Addr × Obj)} (hr : ∀ p ∈ rest, p ∈ all) (hn : ∀ p ∈ rest, NotTab p.2) :
    ∀ p ∈ rest, p.1 ≠ 30 ∧ p.1 ≠ 37 := by
  intro p hp
  obtain ⟨ts30, ts37, rfl, h30, h37⟩ := id hT
  have k := hT.ne N (X := p.1) (ob := p.2) (hr p hp) hsub (hn p hp)
  obtain ⟨x1, m1⟩ := Tab.has h30
  obtain ⟨x2, m2⟩ := Tab.has h37
  exact ⟨Ne.symm (k _ (List.mem_append_left _ m1)), Ne.symm (k _ (List.mem_append_right _ m2))⟩
end Mine
end
section
open PyProof.Rows.LCg
namespace Mine
open Builtin.Int (intBits)
def srt (l : List Int) : List Int := l.mergeSort (fun a b => decide (a ≤ b))
theorem off1_mem {D : Addr} : ∀ {l : List (Addr × Obj)}, Off1 D l → ∀ p ∈ l, p.1 ≠ D
  | [], _, _, h => nomatch h
  | q :: r, x, p, h => by
    rcases List.mem_cons.mp h with rfl | h
    · exact x.1
    · exact off1_mem x.2 p h
theorem srt_eq {n p : List Int} (hp : n.Perm p) (ho : List.Pairwise (fun a b => a ≤ b) n) : n = srt p := by
  have h1 : List.Pairwise (fun a b : Int => decide (a ≤ b) = true) (srt p) := List.pairwise_mergeSort (by intro a b c; simp; omega) (by intro a b; simp; omega) p
  refine List.Perm.eq_of_pairwise (le := fun a b : Int => a ≤ b) ?_ ho (h1.imp (by simp)) (hp.trans (List.mergeSort_perm p _).symm)
  intro a b _ _ h2 h3; exact Int.le_antisymm h2 h3
section
variable {prog : Program} {w : World} {A : Around} {E : Value → Shared → Prop} {s : Shared} {h₀ : Heap} {L : Addr} {m : Str → Option Value} {news : List (Addr × Obj)} {Q : Value → Shared → Prop}
theorem r_ne_nil {R Z : Addr} {vs : List Value} {c c2 : Nat} (N : News h₀ L s.heap news) (hm : (R, W.listOf vs.toArray c) ∈ news) (hE : (Z, W.listOf #[] c2) ∈ news) (hu : A.units < cLine) (h : Q (.bool (decide (vs ≠ []))) s) :
    wpAny (model prog w) A (compareOp .NotEq (.ref R) (.ref Z)) Q E s := by
  have h1 : s.heap.IsList R vs.toArray := ⟨_, (N _ hm).1, rfl, c, rfl⟩
  have h2 : s.heap.IsList Z #[] := ⟨_, (N _ hE).1, rfl, c2, rfl⟩
  cases vs with
  | nil =>
    refine PySem.SeqAt.RcNeAt.lists (e := fun _ => true) h1 h2 rfl hu ?_ prog w E Q ?_
    · intro j hj; simp at hj
    · simpa using h
  | cons v r => exact PySem.SeqAt.RcNeAt.lists_lengths h1 h2 (by simp) hu prog w E Q (by simpa using h)
theorem r_ne_nil_t {R Z : Addr} {vs : List Value} {c c2 : Nat} (hv : vs ≠ []) (N : News h₀ L s.heap news) (hm : (R, W.listOf vs.toArray c) ∈ news) (hE : (Z, W.listOf #[] c2) ∈ news) (hu : A.units < cLine) (h : Q (.bool true) s) :
    wpAny (model prog w) A (compareOp .NotEq (.ref R) (.ref Z)) Q E s := r_ne_nil N hm hE hu (by rw [decide_eq_true hv]; exact h)
theorem r_isnot_bool {b : Bool} (h : Q (.bool false) s) : wpAny (model prog w) A (compareOp .IsNot (.bool b) (.bool b)) Q E s := wpAny_isNot_self (by cases b <;> rfl) h
theorem r_addl {a b : Addr} {vs ws : List Value} {c c2 : Nat} (F : Fr h₀ L s.heap m) (N : News h₀ L s.heap news) (ha : (a, W.listOf (List.toArray vs) c) ∈ news) (hb : (b, W.listOf (List.toArray ws) c2) ∈ news) (hz : vs.length + ws.length ≤ 1000)
    (h : ∀ D h', Fr h₀ L h' m → News h₀ L h' ((D, W.listOf (List.toArray (vs ++ ws)) 0) :: news) → (∀ p ∈ news, p.1 < D) → Q (.ref D) { s with heap := h' }) : wpAny (model prog w) A (binaryOp .Add (.ref a) (.ref b)) Q E s :=
  kmk_add_lit F N ⟨_, (N _ ha).1, rfl, c, rfl⟩ ⟨_, (N _ hb).1, rfl, c2, rfl⟩ (zs := vs ++ ws) (by simp) h (by rw [sizeLine_eq]; simp; omega)
theorem r_ne_nil_f {R Z : Addr} {vs : List Value} {c c2 : Nat} (hv : vs = []) (N : News h₀ L s.heap news) (hm : (R, W.listOf vs.toArray c) ∈ news) (hE : (Z, W.listOf #[] c2) ∈ news) (hu : A.units < cLine) (h : Q (.bool false) s) :
    wpAny (model prog w) A (compareOp .NotEq (.ref R) (.ref Z)) Q E s := r_ne_nil N hm hE hu (by subst hv; exact h)
theorem r_eqstr {x y : Str} {t u : Tok} (e : x = y) (h : Q (.bool true) s) : wpAny (model prog w) A (compareOp .Eq (.str x t) (.str y u)) Q E s := by
  subst e
  exact PySem.SeqAt.RcAt.str_str x t x u prog w E Q (by simpa using h)
theorem r_srt {l : Addr} {vs : List Value} {ns ms : List Int} {c : Nat} (F : Fr h₀ L s.heap m) (N : News h₀ L s.heap news) (hm : (l, W.listOf vs.toArray c) ∈ news) (hi : IntsAre vs ns) (h64 : ns.length < 64) (hs : srt ns = ms)
    (h : ∀ D vs' c h', Fr h₀ L h' m → News h₀ L h' ((D, W.listOf (List.toArray vs') c) :: news) → (∀ q ∈ news, q.1 < D) → IntsAre vs' ms → Q (.ref D) { s with heap := h' }) :
    wpAny (model prog w) A (call (.builtin "sorted") [.ref l]) Q E s := by
  refine kso_sorted F N ⟨_, (N _ hm).1, rfl, c, rfl⟩ hi h64 fun D vs' ns' c' h' F' N' hl i' e' p' o' b' => ?_
  refine h D vs' c' h' F' N' hl ?_
  rw [← hs, ← srt_eq p' o']; exact i'
end
end Mine
end
section
set_option maxRecDepth 100000
namespace Mine
open Builtin.Int (intBits)



def namesL : List Str := (List.range 32).map (pfWord PFT)
def tailN (i : Nat) : Str := Str.ofString "0x" ++ Txt.item (Str.ofString "1248") (((10 : Int) + (i : Int)).fmod 4) ++ Txt.mul (Str.ofString "0") (((10 : Int) + (i : Int)).fdiv 4)
theorem namesL_eq : [Str.ofString "OPTIMIZED", Str.ofString "NEWLOCALS", Str.ofString "VARARGS", Str.ofString "VARKEYWORDS", Str.ofString "NESTED", Str.ofString "GENERATOR", Str.ofString "NOFREE", Str.ofString "COROUTINE", Str.ofString "ITERABLE_COROUTINE", Str.ofString "ASYNC_GENERATOR"] ++ (List.range 22).map tailN = namesL := by decide +kernel
theorem pick3 {h₀ h : Heap} {L : Addr} {a b c : Addr × Obj} {l : List (Addr × Obj)} (N : News h₀ L h (a :: b :: c :: l)) : News h₀ L h (a :: l) := cb_drop N fun p hp => by
  rcases List.mem_cons.mp hp with rfl | hp
  · exact .head _
  · exact .tail _ (.tail _ (.tail _ hp))
theorem AllLt.all {d : Addr} : ∀ {l : List (Addr × Obj)}, AllLt d l → ∀ p ∈ l, p.1 < d
  | [], _, _, h => nomatch h
  | q :: r, x, p, h => by
    rcases List.mem_cons.mp h with rfl | h
    · exact x.1
    · exact AllLt.all x.2 p h
set_option maxHeartbeats 4000000 in
theorem c_names {w : World} {loose : List Str} {mean : ExcName → Option Value} {mg mb : Str → Option Value} {dp un : Nat} {gd : Option (List Code)} {cn : Str} {cs : Scope} {a : Addr} {ccd : Value} {cl : List (Str × Addr)} {outer : List Env} {A₀ : Around} {base h₀ : Heap} {L : Addr} {m : Str → Option Value} {news : List (Addr × Obj)} {s : Shared} {Q E : Value → Shared → Prop} (B : Below A₀ base outer h₀) (F : Fr h₀ L s.heap m) (X : (hd.heap_39 w.params).In h₀) (N : News h₀ L s.heap news) (T : Top topProg loose mean mg mb h₀) (hk : cs.kind = .function)
    (hdp : dp + 3 < recursionLimit) (hu : un + 8 * 3 < cLine)
    (hret : ∀ D ys c h' tk', StrsAre ys namesL → Fr h₀ L h' m → News h₀ L h' ((D, W.listOf ys.toArray c) :: news) → (∀ p ∈ news, p.1 < D) → Q (.ref D) { s with heap := h', toks := tk' }) :
    wpAny (model PySem.Challenge.rw_wo0032_02.row.prog w) (ktrTop dp un gd cn cs L a ccd cl outer) (call (.ref 76) []) Q E s := by
  w_top off
  k_with_none
  k_with "BITS!" => (first | (with_reducible assumption) | ((with_reducible apply bits_ediv2); bits_by_make) | ((with_reducible refine bits_emod2 ?_ ?_); (focus l_bnd); bits_by_make))
  k_with "binaryOp LShift int int" => ((k_here; (with_reducible refine' r_shl (by l_bnd) (by bits_by_make) (by l_bnd) (by decide) ?_)))
  k_with "inplaceOp LShift int int" => ((k_here; (with_reducible refine' ishl (by l_bnd) (by bits_by_make) (by l_bnd) (by decide) ?_)))
  k_with "binaryOp RShift int int" => ((k_here; (with_reducible refine r_shr (by l_bnd) ?_)))
  k_with "inplaceOp RShift int int" => ((k_here; (with_reducible refine ishr (by l_bnd) ?_)))
  k_with "binaryOp BitOr int int" => ((k_here; (with_reducible refine r_or (by l_bnd) (by l_bnd) (by l_bnd) ?_)))
  k_with "binaryOp BitAnd int int" => ((k_here; first | (with_reducible refine r_and1 ?_) | ((with_reducible refine r_mask (by l_bnd) ?_))))
  k_with "call builtin:divmod" => ((k_here; (with_reducible show wpAny _ _ (call (Value.builtin _) [Value.int _ _, Value.int _ _]) _ _ _); (refine' r_divmod (by assumption) (by assumption) (by l_bnd) (by first | assumption | exact noPy (by omega)) ?_); intro D' t1' t2' h' tk' F' N' l1; (try k_lt l1)))
  k_with "ALL!" => (first | assumption | (refine' allNe (by assumption)) | (refine' allNe (And.right (by assumption))) | (refine' allNe (And.right (And.right (by assumption)))) | (refine' allNeLt (by assumption) (by omega)))
  k_with "binaryOp Mult ref int" => ((k_here; k_dflt (refine' r_rep0 (by k_asm) (by k_asm) (by k_mem) (by l_bnd) (by l_bnd) ?_); intro D' h' F' N' l1; (try k_lt l1)))
  k_with "binaryOp Add ref ref" => ((k_here; k_dflt (refine' r_addl (by k_asm) (by k_asm) (by k_mem) (by k_mem) (by simp <;> omega) ?_); intro D' h' F' N' l1; (try k_lt l1)))
  revert B F X N T
  k_fill
  intro B F X N T
  refine wpAny_call ?_
  k_dflt (refine' code_def ?k1 ?k2 ?k3 ?k4 ?k5 ?kA ?kF ?kK ?k6 ?k7 ?k8 ?k9 ?kB ?_ ?c2 ?c3 ?c4 ?c5; (case kA => exact rfl); (case kF => exact rfl); (case kK => assumption); (case k1 => k_asm); (case k2 => k_asm); (case k3 => k_asm); (case k4 => k_asm); (case k5 => k_asm); (case k6 => k_is); (case k7 => k_is); (case k8 => ktr_room); (case k9 => exact BindsTo.of_eq rfl); (case c5 => decide); (case kB => exact locs rfl); (case c2 => exact rfl); (case c3 => exact rfl); (case c4 => exact rfl); k_whole; intro g' L' h' FG' F' N' B' X' T'; (try dsimp only); (try k_fold))
  k_with "CompSrc" => (k_dflt (refine LCg.CompSrc.range (by rfl) (by k_asm) (by k_asm) (by assumption) (rng_small (by decide) (by decide) (by decide)) (rng_size (n := 22) (by decide) (by decide)) (Nat.le_of_ble_eq_true rfl) ?_; intro g9; (refine compG_strs tailN True.intro ?_ ?_); (rotate_left); (intro ys9 hs9; (have hl9 := hs9.length); (simp only [List.length_map, List.length_range] at hl9); (try dsimp only)); (rotate_left); (intro i9 hi9 ys9 hs9 v9 I9 oI9 C9 oC9 D9 m9 h9 tk9 E9 hv9 hC9 hx9 F9 N9 off9 ne9; (obtain ⟨t9', hv9'⟩ := hv9; subst hv9'); (have hml9 := mul_len (x := (10 : Int) + (i9 : Int)) (by omega) (by omega)); (try dsimp only))))
  k_with "IEnd" => (with_unfolding_all refine IEnd.str (by rfl) (by assumption) (by assumption) (by intro p hp; exact hp))
  k_steps
  (with_reducible rename _ < _ ∧ _ < _ ∧ AllLt _ _ => lA)
  refine hret _ _ _ _ _ ?a (by with_reducible assumption) (pick3 (by with_unfolding_all assumption)) ?d
  case d => exact AllLt.all lA.2.2
  case a =>
    rw [← namesL_eq]
    exact StrsAre.append' (by repeat (first | exact StrsAre.nil | apply StrsAre.cons)) hs9
end Mine
end
section
set_option maxRecDepth 100000
namespace Mine
open Builtin.Int (intBits)


def cells2 (ns : List Int) : List Int := (rangeKs 0 4).map fun k => [4, 0, 0, 6].getD k.toNat 0 + (pickNums ns (some k) none (some 4)).sum
theorem cells2_len (ns : List Int) : (cells2 ns).length = 4 := rfl
set_option maxHeartbeats 4000000 in
theorem c_cells {w : World} {loose : List Str} {mean : ExcName → Option Value} {mg mb : Str → Option Value} {dp un : Nat} {gd : Option (List Code)} {cn : Str} {cs : Scope} {a : Addr} {ccd : Value} {cl : List (Str × Addr)} {outer : List Env} {A₀ : Around} {base h₀ : Heap} {L : Addr} {m : Str → Option Value} {news : List (Addr × Obj)} {s : Shared} {Q E : Value → Shared → Prop} {S : Addr} {vs : List Value} {ns : List Int} (B : Below A₀ base outer h₀) (F : Fr h₀ L s.heap m) (X : (hd.heap_39 w.params).In h₀) (N : News h₀ L s.heap news) (T : Top topProg loose mean mg mb h₀) (hk : cs.kind = .function)
    (hS : h₀.IsList S vs.toArray) (hi : IntsAre vs ns) (hl : vs.length ≤ 63)
    (hdp : dp + 3 < recursionLimit) (hu : un + 8 * 3 < cLine)
    (hret : ∀ D ys h' tk', IntsAre ys (cells2 ns) → Fr h₀ L h' m → News h₀ L h' ((D, LCg.lst ys) :: news) → LCg.Off1 D news → Q (.ref D) { s with heap := h', toks := tk' }) :
    wpAny (model PySem.Challenge.rw_wo0032_02.row.prog w) (ktrTop dp un gd cn cs L a ccd cl outer) (call (.ref 81) [.ref S]) Q E s := by
  w_top off
  k_with_none
  k_with "LT1!" => (first | with_reducible assumption | with_reducible exact Nat.lt_succ_self _ | with_reducible exact And.left (by assumption) | with_reducible exact And.left (And.right (by assumption)) | with_reducible exact And.left (And.right (And.right (by assumption))) | with_reducible exact And.left (And.right (And.right (And.right (by assumption)))) | with_reducible exact And.left (And.right (And.right (And.right (And.right (by assumption))))) | with_reducible exact And.left (And.right (And.right (And.right (And.right (And.right (by assumption)))))) | with_reducible exact And.right (by assumption) | with_reducible exact And.right (And.right (by assumption)) | with_reducible exact And.right (And.right (And.right (by assumption))) | with_reducible exact And.right (And.right (And.right (And.right (by assumption)))))
  k_with "LT!" => (first | k_extra "LT1!" | ((with_reducible refine (Nat.lt_succ_of_lt ?_ : @LT.lt Nat _ _ (_ + 1))); first | k_extra "LT1!" | ((with_reducible refine (Nat.lt_succ_of_lt ?_ : @LT.lt Nat _ _ (_ + 1))); first | k_extra "LT1!" | ((with_reducible refine (Nat.lt_succ_of_lt ?_ : @LT.lt Nat _ _ (_ + 1))); k_extra "LT1!"))))
  k_with "NE!" => (first | with_reducible assumption | with_reducible exact Ne.symm (by assumption) | decide | ((fail_if_success (fail_if_success omega)); first | ((with_reducible refine Nat.ne_of_gt ?_); (fail_if_success (fail_if_success omega)); k_extra "LT!") | ((with_reducible refine Nat.ne_of_lt ?_); (fail_if_success (fail_if_success omega)); k_extra "LT!") | with_reducible exact And.left (by assumption) | with_reducible exact And.left (And.right (by assumption)) | with_reducible exact And.left (And.right (And.right (by assumption))) | omega))
  k_with "KNE!" => ((refine neN ?_; (try dsimp only); k_extra "NE!"))
  k_with "LBND!" => (first | assumption | decide | with_reducible exact Int.lt_of_lt_of_le (by assumption) (by decide) | with_reducible exact Int.lt_of_le_of_lt (by assumption) (by decide) | with_reducible exact Int.le_trans (by assumption) (by decide) | with_reducible exact Int.lt_of_lt_of_le (by decide) (by assumption) | with_reducible exact Int.le_trans (by decide) (by assumption) | with_reducible exact Int.natCast_nonneg _ | with_reducible exact Int.ne_of_gt (by assumption) | with_reducible exact Int.le_of_lt (by assumption) | with_reducible exact Nat.lt_of_lt_of_le (by assumption) (by decide) | with_reducible exact Nat.lt_of_le_of_lt (by assumption) (by decide) | with_reducible exact Nat.le_trans (by assumption) (by decide) | k_dflt omega | l_fact)
  k_with "ROOM!" => (((try simp only [depth_under_make, depth_under_kw, depth_in1, depth_deeper, depth_caller]); (try dsimp only [ktrTop]); first | with_reducible assumption | exact room_0 (by with_reducible assumption) | exact room_le (by with_reducible assumption) (by decide) | exact room_12 (by with_reducible assumption) (by decide)))
  k_with "UNITS!" => (((try simp only [units_in1, units_deeper, Around.mark_units, units_caller]); (try dsimp only [ktrTop]); first | with_reducible assumption | exact room_0 (by with_reducible assumption) | exact room_le (by with_reducible assumption) (by decide) | exact room_12 (by with_reducible assumption) (by decide) | exact room_123 (by with_reducible assumption) (by decide)))
  k_with "BITS!" => (first | (with_reducible assumption) | ((with_reducible apply bits_ediv2); bits_by_make) | ((with_reducible refine bits_emod2 ?_ ?_); (focus l_bnd); bits_by_make))
  k_with "binaryOp LShift int int" => ((k_here; (with_reducible refine' r_shl (by l_bnd) (by bits_by_make) (by l_bnd) (by decide) ?_)))
  k_with "inplaceOp LShift int int" => ((k_here; (with_reducible refine' ishl (by l_bnd) (by bits_by_make) (by l_bnd) (by decide) ?_)))
  k_with "binaryOp RShift int int" => ((k_here; (with_reducible refine r_shr (by l_bnd) ?_)))
  k_with "inplaceOp RShift int int" => ((k_here; (with_reducible refine ishr (by l_bnd) ?_)))
  k_with "binaryOp BitOr int int" => ((k_here; (with_reducible refine r_or (by l_bnd) (by l_bnd) (by l_bnd) ?_)))
  k_with "binaryOp BitAnd int int" => ((k_here; first | (with_reducible refine r_and1 ?_) | ((with_reducible refine r_mask (by l_bnd) ?_))))
  k_with "call builtin:divmod" => ((k_here; (with_reducible show wpAny _ _ (call (Value.builtin _) [Value.int _ _, Value.int _ _]) _ _ _); (refine' r_divmod (by assumption) (by assumption) (by l_bnd) (by first | assumption | exact noPy (by omega)) ?_); intro D' t1' t2' h' tk' F' N' l1; (try k_lt l1)))
  k_with "ALL!" => (first | assumption | (refine' allNe (by assumption)) | (refine' allNe (And.right (by assumption))) | (refine' allNe (And.right (And.right (by assumption)))) | (refine' allNeLt (by assumption) (by omega)))
  k_with "binaryOp Mult ref int" => ((k_here; k_dflt (refine' r_rep0 (by k_asm) (by k_asm) (by k_mem) (by l_bnd) (by l_bnd) ?_); intro D' h' F' N' l1; (try k_lt l1)))
  k_with "ALL!" => (first | (refine' neOfLt (by assumption)) | (refine' neOfLt2 (by assumption) (by omega)))
  revert B F X N T
  k_fill
  intro B F X N T
  refine wpAny_call ?_
  k_dflt (refine' code_defC ?k1 ?k2 ?k3 ?k4 ?k5 ?kA ?kF ?kK ?k6 ?k7 ?k8 ?k9 ?kB ?kD ?_ ?c2 ?c3 ?c4; (case kA => exact rfl); (case kF => exact rfl); (case kK => assumption); (case k1 => k_asm); (case k2 => k_asm); (case k3 => k_asm); (case k4 => k_asm); (case k5 => k_asm); (case k6 => k_is); (case k7 => k_is); (case k8 => ktr_room); (case k9 => first | exact BindsTo.of_eq rfl | exact binds_K (by k_in) rfl (by k_is) rfl rfl rfl); (case kB => exact rfl); (case kD => decide +kernel); (case c2 => exact rfl); (case c3 => exact rfl); (case c4 => exact rfl); k_whole; intro g' L' h' tk' cells' FG' F' N' Y' B' X' T' l1; (try k_lt l1); k_cells Y'; (try simp only [List.cons_append, List.nil_append] at N'); (try dsimp only); (try k_lift B'); (try k_fold))
  have hS' : g'.IsList S vs.toArray := by obtain ⟨o, h1, h2⟩ := hS; exact ⟨o, FG'.keep _ _ h1, h2⟩
  k_with "eval BinOp" => ((with_reducible rename _ < (0 : Int) + _ => q9); (replace q9 : _ < (4 : Int) := q9))
  k_with "call builtin:sum" => (((refine r_sumpick (by with_unfolding_all rfl) (by k_asm) (by k_asm) List.mem_cons_self hi ?_); intro h7 k7 t7 F7 N7))
  k_steps
  refine hret _ _ _ _ (by assumption) (by assumption) (cb_drop (by assumption) fun p hp => ?_) (by rename_i o1 _ _ _ _; exact o1.2.2.2)
  rcases List.mem_cons.mp hp with rfl | hp <;> simp [hp]
end Mine
end
section
namespace Mine
open Builtin.Int (intBits)
inductive Nm where
  | int (a : Int)
  | ints (ns : List Int)
inductive Ev (env : Env) (κ : List (Str × Nm)) (m : Str → Option Value) : Expr → Int → Prop where
  | const {i : Int} {k p} : Ev env κ m (.Constant (.int i) k p) i
  | loc {x : Str} {p a t} (h : m x = some (.int a t)) (hx : env.kindOf x = some .local) (hd : (x == ("__debug__" : Str)) = false) : Ev env κ m (.Name x p) a
  | cap {x : Str} {p a} (h : κ.lookup x = some (.int a)) : Ev env κ m (.Name x p) a
  | add {l r p a b} (hl : Ev env κ m l a) (hr : Ev env κ m r b) : Ev env κ m (.BinOp l .Add r p) (a + b)
  | sub {l r p a b} (hl : Ev env κ m l a) (hr : Ev env κ m r b) : Ev env κ m (.BinOp l .Sub r p) (a - b)
  | mul {l r p a b} (hl : Ev env κ m l a) (hr : Ev env κ m r b) (hm : IntMulOk a b) : Ev env κ m (.BinOp l .Mult r p) (a * b)
  | fdiv {l r p a b} (hl : Ev env κ m l a) (hr : Ev env κ m r b) (hb : b ≠ 0) (hp : Builtin.divisionGoesByPylong a b = false) : Ev env κ m (.BinOp l .FloorDiv r p) (a.fdiv b)
  | fmod {l r p a b} (hl : Ev env κ m l a) (hr : Ev env κ m r b) (hb : b ≠ 0) : Ev env κ m (.BinOp l .Mod r p) (a.fmod b)
  | pow {l r p a b} (hl : Ev env κ m l a) (hr : Ev env κ m r b) (hb : 0 ≤ b) (hz : (intBits a : Int) * b ≤ 2 ^ 27) : Ev env κ m (.BinOp l .Pow r p) (a ^ b.toNat)
  | shl {l r p a b} {k : Nat} (hl : Ev env κ m l a) (hr : Ev env κ m r b) (hb : 0 ≤ b) (hz : intBits a ≤ k) (hb2 : b ≤ 1000000) (hk : k ≤ 133000000) : Ev env κ m (.BinOp l .LShift r p) (a * 2 ^ b.toNat)
  | shr {l r p a b} (hl : Ev env κ m l a) (hr : Ev env κ m r b) (hb : 0 ≤ b) : Ev env κ m (.BinOp l .RShift r p) (a / 2 ^ b.toNat)
  | and1 {l p a k q} (hl : Ev env κ m l a) : Ev env κ m (.BinOp l .BitAnd (.Constant (.int 1) k q) p) (a % 2)
  | mask {l r p a} {k : Nat} (hl : Ev env κ m l a) (hr : Ev env κ m r (1 * 2 ^ k - 1)) (ha : 0 ≤ a) : Ev env κ m (.BinOp l .BitAnd r p) (a % 2 ^ k)
  | band {l r p a b} (hl : Ev env κ m l a) (hr : Ev env κ m r b) : Ev env κ m (.BinOp l .BitAnd r p) (Builtin.bitAnd a b)
  | bor {l r p b n} {k : Nat} (hl : Ev env κ m l (n * 2 ^ k)) (hr : Ev env κ m r b) (hn : 0 ≤ n) (h0 : 0 ≤ b) (h1 : b < 2 ^ k) : Ev env κ m (.BinOp l .BitOr r p) (n * 2 ^ k + b)
  | xlow {l r p a} {k : Nat} (hl : Ev env κ m l a) (hr : Ev env κ m r (a / 2 ^ k * 2 ^ k)) (ha : 0 ≤ a) : Ev env κ m (.BinOp l .BitXor r p) (a % 2 ^ k)
  | bxor {l r p a b} (hl : Ev env κ m l a) (hr : Ev env κ m r b) : Ev env κ m (.BinOp l .BitXor r p) (Builtin.bitXor a b)
  | neg {l p a} (hl : Ev env κ m l a) : Ev env κ m (.UnaryOp .USub l p) (-a)
  | item {x : Str} {i : Expr} {p q ns k} (h : κ.lookup x = some (.ints ns)) (hi : Ev env κ m i k) (h0 : 0 ≤ k) (h1 : k < ns.length) (hz : ns.length ≤ 1000000)
      (hs : ∀ l u, subscripted i false (.ref l) (.int k u) = operate [.ref l, .int k u] (getItem (.ref l) (.int k u))) : Ev env κ m (.Subscript (.Name x p) i q) (ns.getD k.toNat 0)
section
variable {prog : Program} {w : World} {A : Around} {E : Value → Shared → Prop} {h₀ : Heap} {L : Addr} {m : Str → Option Value} {env : Env} {κ : List (Str × Nm)}
def RdOK (prog : Program) (w : World) (A : Around) (E : Value → Shared → Prop) (env : Env) (h : Heap) (x : Str) : Nm → Prop
  | .int a => ∀ (pos : Pos) (Q : Value → Shared → Prop) (s : Shared), s.heap = h → (∀ t, Q (.int a t) s) → wpAny (model prog w) A (eval (.Name x pos) env) Q E s
  | .ints ns => ∃ (l : Addr) (vs : List Value), h.IsList l vs.toArray ∧ IntsAre vs ns ∧ ∀ (pos : Pos) (Q : Value → Shared → Prop) (s : Shared), s.heap = h → Q (.ref l) s → wpAny (model prog w) A (eval (.Name x pos) env) Q E s
theorem lookup_mem {α : Type} {x : Str} {v : α} : ∀ {l : List (Str × α)}, l.lookup x = some v → (x, v) ∈ l
  | [], h => by cases h
  | (y, u) :: l, h => by
    rw [List.lookup_cons] at h
    cases e : x == y with
    | true =>
      rw [e] at h
      have e1 : x = y := by simpa using e
      cases h; rw [e1]; exact .head _
    | false => rw [e] at h; exact .tail _ (lookup_mem h)
theorem ev_gen {h : Heap} (hl : ∀ (x : Str) (a : Int) (t : Tok), m x = some (.int a t) → env.kindOf x = some .local → (x == ("__debug__" : Str)) = false → ∀ (pos : Pos) (s : Shared) (Q : Value → Shared → Prop), s.heap = h → Q (.int a t) s → wpAny (model prog w) A (eval (.Name x pos) env) Q E s) (hκ : ∀ p ∈ κ, RdOK prog w A E env h p.1 p.2) {e : Expr} {a : Int} (he : Ev env κ m e a) :
    ∀ (s : Shared) (Q : Value → Shared → Prop), s.heap = h → (∀ t tk, Q (.int a t) { s with toks := tk }) → wpAny (model prog w) A (eval e env) Q E s := by
  induction he with
  | const => exact fun s Q hs hQ => wpAny_Constant_int (hQ _ _)
  | loc h hx hd => exact fun s Q hs hQ => hl _ _ _ h hx hd _ s Q hs (hQ _ s.toks)
  | cap h => exact fun s Q hs hQ => (hκ _ (lookup_mem h)) _ _ s hs fun t => hQ t s.toks
  | add _ _ i1 i2 => exact fun s Q hs hQ => wpAny_BinOp (i1 s _ hs fun t tk => i2 { s with toks := tk } _ hs fun u tk' => P.add_int (hQ _ _))
  | sub _ _ i1 i2 => exact fun s Q hs hQ => wpAny_BinOp (i1 s _ hs fun t tk => i2 { s with toks := tk } _ hs fun u tk' => P.sub_int (hQ _ _))
  | mul _ _ hm i1 i2 => exact fun s Q hs hQ => wpAny_BinOp (i1 s _ hs fun t tk => i2 { s with toks := tk } _ hs fun u tk' => P.mul_int (hQ _ _) hm)
  | fdiv _ _ hb hp i1 i2 => exact fun s Q hs hQ => wpAny_BinOp (i1 s _ hs fun t tk => i2 { s with toks := tk } _ hs fun u tk' => floordiv_int hb (hQ _ _) (Or.inl hp))
  | fmod _ _ hb i1 i2 => exact fun s Q hs hQ => wpAny_BinOp (i1 s _ hs fun t tk => i2 { s with toks := tk } _ hs fun u tk' => mod_int' hb (hQ _ _))
  | pow _ _ hb hz i1 i2 => exact fun s Q hs hQ => wpAny_BinOp (i1 s _ hs fun t tk => i2 { s with toks := tk } _ hs fun u tk' => pow_int hb hz (hQ _ _))
  | shl _ _ hb hz hb2 hk' i1 i2 => exact fun s Q hs hQ => wpAny_BinOp (i1 s _ hs fun t tk => i2 { s with toks := tk } _ hs fun u tk' => r_shl hb hz hb2 hk' (hQ _ _))
  | shr _ _ hb i1 i2 => exact fun s Q hs hQ => wpAny_BinOp (i1 s _ hs fun t tk => i2 { s with toks := tk } _ hs fun u tk' => r_shr hb (hQ _ _))
  | and1 _ i1 => exact fun s Q hs hQ => wpAny_BinOp (i1 s _ hs fun t tk => wpAny_Constant_int (r_and1 (hQ _ _)))
  | mask _ _ ha i1 i2 => exact fun s Q hs hQ => wpAny_BinOp (i1 s _ hs fun t tk => i2 { s with toks := tk } _ hs fun u tk' => r_mask ha (hQ _ _))
  | band _ _ i1 i2 => exact fun s Q hs hQ => wpAny_BinOp (i1 s _ hs fun t tk => i2 { s with toks := tk } _ hs fun u tk' => and_int (hQ _ _))
  | bor _ _ hn h0 h1 i1 i2 => exact fun s Q hs hQ => wpAny_BinOp (i1 s _ hs fun t tk => i2 { s with toks := tk } _ hs fun u tk' => r_or hn h0 h1 (hQ _ _))
  | xlow _ _ ha i1 i2 => exact fun s Q hs hQ => wpAny_BinOp (i1 s _ hs fun t tk => i2 { s with toks := tk } _ hs fun u tk' => r_xorlow ha (hQ _ _))
  | bxor _ _ i1 i2 => exact fun s Q hs hQ => wpAny_BinOp (i1 s _ hs fun t tk => i2 { s with toks := tk } _ hs fun u tk' => xor_int (hQ _ _))
  | neg _ i1 => exact fun s Q hs hQ => wpAny_UnaryOp (i1 s _ hs fun t tk => P.neg_int (hQ _ _))
  | item h _ h0 h1 hz hsub i1 =>
    intro s Q hs hQ
    obtain ⟨l, vs, hl, hi, rd⟩ := hκ _ (lookup_mem h)
    exact Subscript_ (rd _ _ s hs (i1 s _ hs fun u tk => item_anyK (s := { s with toks := tk }) (hs ▸ hl) hi h0 h1 (by omega) (fun t => hQ t tk) (hsub l u)))
theorem ev_ok {h : Heap} (hk : env.scope.kind = .function) (F : Fr h₀ L h m) (hL : env.locals = L) (hκ : ∀ p ∈ κ, RdOK prog w A E env h p.1 p.2) {e : Expr} {a : Int} (he : Ev env κ m e a) :
    ∀ (s : Shared) (Q : Value → Shared → Prop), s.heap = h → (∀ t tk, Q (.int a t) { s with toks := tk }) → wpAny (model prog w) A (eval e env) Q E s := by
  subst hL
  exact ev_gen (fun x a t h hx hd pos s Q hs hQ => wpAny_Name (wpAny_loadName_local hk hx (hs ▸ F.ns) h hQ) hd) hκ he
theorem evc_ok {h : Heap} (hκ : ∀ p ∈ κ, RdOK prog w A E env h p.1 p.2) {e : Expr} {a b : Int} (he : Ev env κ (fun _ => none) e a) (hab : a = b)
    (s : Shared) (Q : Value → Shared → Prop) (hs : s.heap = h) (hQ : ∀ t tk, Q (.int b t) { s with toks := tk }) : wpAny (model prog w) A (eval e env) Q E s := by
  subst hab
  exact ev_gen (fun x a t h => by cases h) hκ he s Q hs hQ
end
end Mine
end
section
namespace Mine
open Builtin.Int (intBits)
inductive EvP (env : Env) (κ : List (Str × Nm)) (m : Str → Option Value) : Expr → Prop → Prop where
  | lt {l r p a b} (hl : Ev env κ m l a) (hr : Ev env κ m r b) (hm : behindInMarks .Lt r = false) : EvP env κ m (.Compare l [.Lt] [r] p) (a < b)
  | le {l r p a b} (hl : Ev env κ m l a) (hr : Ev env κ m r b) (hm : behindInMarks .LtE r = false) : EvP env κ m (.Compare l [.LtE] [r] p) (a ≤ b)
  | gt {l r p a b} (hl : Ev env κ m l a) (hr : Ev env κ m r b) (hm : behindInMarks .Gt r = false) : EvP env κ m (.Compare l [.Gt] [r] p) (b < a)
  | ge {l r p a b} (hl : Ev env κ m l a) (hr : Ev env κ m r b) (hm : behindInMarks .GtE r = false) : EvP env κ m (.Compare l [.GtE] [r] p) (b ≤ a)
  | eq {l r p a b} (hl : Ev env κ m l a) (hr : Ev env κ m r b) (hm : behindInMarks .Eq r = false) : EvP env κ m (.Compare l [.Eq] [r] p) (a = b)
  | ne {l r p a b} (hl : Ev env κ m l a) (hr : Ev env κ m r b) (hm : behindInMarks .NotEq r = false) : EvP env κ m (.Compare l [.NotEq] [r] p) (a ≠ b)
  | lelt {l r q p a b c} (hl : Ev env κ m l a) (hr : Ev env κ m r b) (hq : Ev env κ m q c) (hm : lastMarks [.LtE, .Lt] [r, q] = false) : EvP env κ m (.Compare l [.LtE, .Lt] [r, q] p) (a ≤ b ∧ b < c)
  | int {e a} (he : Ev env κ m e a) (hi : isTrue e env (eval e env) = (do let v ← eval e env; standAt e.pos; holding [v] (truthy v))) : EvP env κ m e (a ≠ 0)
  | not {e p P} (he : EvP env κ m e P) : EvP env κ m (.UnaryOp .Not e p) (¬ P)
section
variable {prog : Program} {w : World} {A : Around} {E : Value → Shared → Prop} {h₀ : Heap} {L : Addr} {m : Str → Option Value} {env : Env} {κ : List (Str × Nm)}
theorem tr_bool {P : Prop} {b : Bool} {s : Shared} {Q : Bool → Shared → Prop} (hb : b = true ↔ P) (h1 : P → Q true s) (h0 : ¬ P → Q false s) : wpAny (model prog w) A (truthy (.bool b)) Q E s := by
  cases b with
  | true => exact fun _ _ _ => h1 (hb.mp rfl)
  | false => exact fun _ _ _ => h0 (fun q => by have := hb.mpr q; cases this)
theorem evp_gen {h : Heap} (hl : ∀ (x : Str) (a : Int) (t : Tok), m x = some (.int a t) → env.kindOf x = some .local → (x == ("__debug__" : Str)) = false → ∀ (pos : Pos) (s : Shared) (Q : Value → Shared → Prop), s.heap = h → Q (.int a t) s → wpAny (model prog w) A (eval (.Name x pos) env) Q E s) (hκ : ∀ p ∈ κ, RdOK prog w A E env h p.1 p.2) {e : Expr} {Pq : Prop} (he : EvP env κ m e Pq) :
    ∀ (s : Shared) (Q : Bool → Shared → Prop), s.heap = h → (Pq → ∀ tk, Q true { s with toks := tk }) → (¬ Pq → ∀ tk, Q false { s with toks := tk }) → wpAny (model prog w) A (isTrue e env (eval e env)) Q E s := by
  have ev := fun {e : Expr} {a : Int} (he : Ev env κ m e a) => ev_gen (prog := prog) (w := w) (A := A) (E := E) hl hκ he
  induction he with
  | lt hl hr hm => exact fun s Q hs h1 h0 => wpAny_isTrue_Compare1 (ev hl s _ hs fun t tk => ev hr { s with toks := tk } _ hs fun u tk' => P.lt_int (tr_bool (by simp) (fun q => h1 q tk') (fun q => h0 q tk'))) hm
  | le hl hr hm => exact fun s Q hs h1 h0 => wpAny_isTrue_Compare1 (ev hl s _ hs fun t tk => ev hr { s with toks := tk } _ hs fun u tk' => P.le_int (tr_bool (by simp) (fun q => h1 q tk') (fun q => h0 q tk'))) hm
  | gt hl hr hm => exact fun s Q hs h1 h0 => wpAny_isTrue_Compare1 (ev hl s _ hs fun t tk => ev hr { s with toks := tk } _ hs fun u tk' => P.gt_int (tr_bool (by simp) (fun q => h1 q tk') (fun q => h0 q tk'))) hm
  | ge hl hr hm => exact fun s Q hs h1 h0 => wpAny_isTrue_Compare1 (ev hl s _ hs fun t tk => ev hr { s with toks := tk } _ hs fun u tk' => P.ge_int (tr_bool (by simp) (fun q => h1 q tk') (fun q => h0 q tk'))) hm
  | eq hl hr hm => exact fun s Q hs h1 h0 => wpAny_isTrue_Compare1 (ev hl s _ hs fun t tk => ev hr { s with toks := tk } _ hs fun u tk' => P.eq_int (tr_bool (by simp) (fun q => h1 q tk') (fun q => h0 q tk'))) hm
  | ne hl hr hm => exact fun s Q hs h1 h0 => wpAny_isTrue_Compare1 (ev hl s _ hs fun t tk => ev hr { s with toks := tk } _ hs fun u tk' => P.ne_int (tr_bool (by simp) (fun q => h1 q tk') (fun q => h0 q tk'))) hm
  | @lelt l r q p a b c hl hr hq hm =>
    intro s Q hs h1 h0
    refine isTrue_chain (ev hl s _ hs fun t tk => ?_) hm
    refine test_link (ev hr { s with toks := tk } _ hs fun u tk' => P.le_int (tr_bool (P := a ≤ b) (by simp) (fun q1 => ?_) (fun q1 => ?_)))
    · exact test_last (ev hq { s with toks := tk' } _ hs fun v tk'' => P.lt_int (tr_bool (P := b < c) (by simp) (fun q2 => h1 ⟨q1, q2⟩ tk'') (fun q2 => h0 (fun q3 => q2 q3.2) tk'')))
    · exact h0 (fun q3 => q1 q3.1) tk'
  | @int e a he hi =>
    intro s Q hs h1 h0
    refine isTrue_plain (ev he s _ hs fun t tk => P.truthy_int ?_) hi
    by_cases q : a = 0
    · rw [show (a != 0) = false by simp [q]]; exact h0 (fun q2 => q2 q) tk
    · rw [show (a != 0) = true by simp [q]]; exact h1 q tk
  | @not e p Pq he ih =>
    intro s Q hs h1 h0
    exact isTrue_not (ih s _ hs (fun q tk => h0 (fun q2 => q2 q) tk) (fun q tk => h1 q tk))
theorem evp_ok {h : Heap} (hk : env.scope.kind = .function) (F : Fr h₀ L h m) (hL : env.locals = L) (hκ : ∀ p ∈ κ, RdOK prog w A E env h p.1 p.2) {e : Expr} {Pq : Prop} (he : EvP env κ m e Pq) :
    ∀ (s : Shared) (Q : Bool → Shared → Prop), s.heap = h → (Pq → ∀ tk, Q true { s with toks := tk }) → (¬ Pq → ∀ tk, Q false { s with toks := tk }) → wpAny (model prog w) A (isTrue e env (eval e env)) Q E s := by
  subst hL
  exact evp_gen (fun x a t h hx hd pos s Q hs hQ => wpAny_Name (wpAny_loadName_local hk hx (hs ▸ F.ns) h hQ) hd) hκ he
theorem evpc_ok {h : Heap} (hκ : ∀ p ∈ κ, RdOK prog w A E env h p.1 p.2) {e : Expr} {Pq : Prop} (he : EvP env κ (fun _ => none) e Pq)
    (s : Shared) (Q : Bool → Shared → Prop) (hs : s.heap = h) (h1 : Pq → ∀ tk, Q true { s with toks := tk }) (h0 : ¬ Pq → ∀ tk, Q false { s with toks := tk }) : wpAny (model prog w) A (isTrue e env (eval e env)) Q E s :=
  evp_gen (fun x a t h => by cases h) hκ he s Q hs h1 h0
theorem ex_as {x : Str} {px pos : Pos} {e : Expr} {rest : List Stmt} {a : Int} {news : List (Addr × Obj)} {Q : Flow → Shared → Prop} {s : Shared} (hk : env.scope.kind = .function) (F : Fr h₀ L s.heap m) (N : News h₀ L s.heap news) (hL : env.locals = L) (hκ : ∀ p ∈ κ, RdOK prog w A E env s.heap p.1 p.2)
    (he : Ev env κ m e a) (hx : env.kindOf x = some .local) (hsw : swapsWith e (some (.Name x px)) pos.line env = pure false) (hp : (env.scope.kind == .class || (env.scope.kind == .module && env.locals != env.globals)) = false)
    (h : ∀ t h' tk', Fr h₀ L h' (fun y => if y = x then some (.int a t) else m y) → News h₀ L h' news → wpAny (model prog w) A (execs rest env) Q E { s with heap := h', toks := tk' }) :
    wpAny (model prog w) A (execs (.Assign [.Name x px] e pos :: rest) env) Q E s := by
  subst hL
  refine wpAny_execs_cons (wpAny_Assign_Name (ev_ok hk F rfl hκ he s _ rfl fun t tk => ?_) hsw)
  refine wpAny_storeName_local hx F.ns (fun h₂ hn₂ hs₂ => ?_) hp
  have hL₀ : h₀.get? env.locals = none := Heap.get?_none_of_le F.above
  refine h t h₂ _ ⟨hn₂, fun b o e => hs₂.extBut b o (fun q => by rw [q, hL₀] at e; cases e) (F.keep b o e), F.above⟩ (fun p hp => ?_)
  exact ⟨hs₂.extBut _ _ (N p hp).2.1 (N p hp).1, (N p hp).2⟩
theorem ex_if {test : Expr} {body orelse : List Stmt} {pos : Pos} {P : Prop} {Q : Flow → Shared → Prop} {s : Shared} (hk : env.scope.kind = .function) (F : Fr h₀ L s.heap m) (hL : env.locals = L) (hκ : ∀ p ∈ κ, RdOK prog w A E env s.heap p.1 p.2)
    (he : EvP env κ m test P) (h1 : P → ∀ tk, wpAny (model prog w) A (execs body env) Q E { s with toks := tk }) (h0 : ¬ P → ∀ tk, wpAny (model prog w) A (execs orelse env) Q E { s with toks := tk }) :
    wpAny (model prog w) A (exec (.If test body orelse pos) env) Q E s :=
  wpAny_If (evp_ok hk F hL hκ he s _ rfl (fun q tk => h1 q tk) (fun q tk => h0 q tk))
theorem ex_if_t {test : Expr} {body orelse : List Stmt} {pos : Pos} {P : Prop} {Q : Flow → Shared → Prop} {s : Shared} (hk : env.scope.kind = .function) (F : Fr h₀ L s.heap m) (hL : env.locals = L) (hκ : ∀ p ∈ κ, RdOK prog w A E env s.heap p.1 p.2)
    (he : EvP env κ m test P) (hP : P) (h1 : ∀ tk, wpAny (model prog w) A (execs body env) Q E { s with toks := tk }) : wpAny (model prog w) A (exec (.If test body orelse pos) env) Q E s :=
  ex_if hk F hL hκ he (fun _ => h1) (fun q => absurd hP q)
theorem ex_if_f {test : Expr} {body orelse : List Stmt} {pos : Pos} {P : Prop} {Q : Flow → Shared → Prop} {s : Shared} (hk : env.scope.kind = .function) (F : Fr h₀ L s.heap m) (hL : env.locals = L) (hκ : ∀ p ∈ κ, RdOK prog w A E env s.heap p.1 p.2)
    (he : EvP env κ m test P) (hP : ¬ P) (h0 : ∀ tk, wpAny (model prog w) A (execs orelse env) Q E { s with toks := tk }) : wpAny (model prog w) A (exec (.If test body orelse pos) env) Q E s :=
  ex_if hk F hL hκ he (fun q => absurd q hP) (fun _ => h0)
theorem rd_cell {h : Heap} {x : Str} {c : Addr} {o : Obj} {a : Int} {t : Tok} {news : List (Addr × Obj)} (hk : env.scope.kind = .function) (N : News h₀ L h news) (hx : env.kindOf x = some .cell) (hc : env.cells.lookup x = some c) (hm : (c, o) ∈ news) (hd : o.data = .cell (some (.int a t))) (hb : (x == ("__debug__" : Str)) = false) :
    RdOK prog w A E env h x (.int a) := fun pos Q s hs hQ => wpAny_Name (wpAny_loadName_cell hk hx hc ⟨o, by rw [hs]; exact (N _ hm).1, hd⟩ (hQ t)) hb
theorem rd_free {h : Heap} {x : Str} {c : Addr} {o : Obj} {a : Int} {t : Tok} {news : List (Addr × Obj)} (hk : env.scope.kind = .function) (N : News h₀ L h news) (hx : env.kindOf x = some .free) (hc : env.cells.lookup x = some c) (hm : (c, o) ∈ news) (hd : o.data = .cell (some (.int a t))) (hb : (x == ("__debug__" : Str)) = false) (hn : (x == ("__classdict__" : Str)) = false) :
    RdOK prog w A E env h x (.int a) := fun pos Q s hs hQ => wpAny_Name (wpAny_loadName_free hk hx hc ⟨o, by rw [hs]; exact (N _ hm).1, hd⟩ (hQ t) hn) hb
theorem rd_cells {h : Heap} {x : Str} {c l : Addr} {o : Obj} {vs : List Value} {ns : List Int} {n : Nat} {news : List (Addr × Obj)} (hk : env.scope.kind = .function) (N : News h₀ L h news) (hx : env.kindOf x = some .cell) (hc : env.cells.lookup x = some c) (hm : (c, o) ∈ news) (hd : o.data = .cell (some (.ref l))) (hl : (l, W.listOf (List.toArray vs) n) ∈ news) (hi : IntsAre vs ns) (hb : (x == ("__debug__" : Str)) = false) :
    RdOK prog w A E env h x (.ints ns) := ⟨l, vs, ⟨_, (N _ hl).1, rfl, n, rfl⟩, hi, fun pos Q s hs hQ => wpAny_Name (wpAny_loadName_cell hk hx hc ⟨o, by rw [hs]; exact (N _ hm).1, hd⟩ hQ) hb⟩
theorem rd_frees {h : Heap} {x : Str} {c l : Addr} {o : Obj} {vs : List Value} {ns : List Int} {n : Nat} {news : List (Addr × Obj)} (hk : env.scope.kind = .function) (N : News h₀ L h news) (hx : env.kindOf x = some .free) (hc : env.cells.lookup x = some c) (hm : (c, o) ∈ news) (hd : o.data = .cell (some (.ref l))) (hl : (l, W.listOf (List.toArray vs) n) ∈ news) (hi : IntsAre vs ns) (hb : (x == ("__debug__" : Str)) = false) (hn : (x == ("__classdict__" : Str)) = false) :
    RdOK prog w A E env h x (.ints ns) := ⟨l, vs, ⟨_, (N _ hl).1, rfl, n, rfl⟩, hi, fun pos Q s hs hQ => wpAny_Name (wpAny_loadName_free hk hx hc ⟨o, by rw [hs]; exact (N _ hm).1, hd⟩ hQ hn) hb⟩
theorem rd_local {h : Heap} {x : Str} {a : Int} {t : Tok} (hk : env.scope.kind = .function) (F : Fr h₀ L h m) (hL : env.locals = L) (hv : m x = some (.int a t)) (hx : env.kindOf x = some .local) (hb : (x == ("__debug__" : Str)) = false) :
    RdOK prog w A E env h x (.int a) := fun pos Q s hs hQ => by subst hL; subst hs; exact wpAny_Name (wpAny_loadName_local hk hx F.ns hv (hQ t)) hb
theorem rd_locals {h : Heap} {x : Str} {l : Addr} {vs : List Value} {ns : List Int} {n : Nat} {news : List (Addr × Obj)} (hk : env.scope.kind = .function) (F : Fr h₀ L h m) (hL : env.locals = L) (N : News h₀ L h news) (hv : m x = some (.ref l)) (hl : (l, W.listOf (List.toArray vs) n) ∈ news) (hi : IntsAre vs ns) (hx : env.kindOf x = some .local) (hb : (x == ("__debug__" : Str)) = false) :
    RdOK prog w A E env h x (.ints ns) := ⟨l, vs, ⟨_, (N _ hl).1, rfl, n, rfl⟩, hi, fun pos Q s hs hQ => by subst hL; subst hs; exact wpAny_Name (wpAny_loadName_local hk hx F.ns hv hQ) hb⟩
theorem rd_comp {h : Heap} {x : Str} {C : Addr} {oC : Obj} {m₂ : Str → Option Value} {a : Int} {t : Tok} {news : List (Addr × Obj)} (hk : env.scope.kind = .function) (N : News h₀ L h news) (hL : env.locals = C) (hm : (C, oC) ∈ news) (hC : LCg.NsObj oC m₂) (hv : m₂ x = some (.int a t)) (hx : env.kindOf x = some .local) (hb : (x == ("__debug__" : Str)) = false) :
    RdOK prog w A E env h x (.int a) := fun pos Q s hs hQ => by subst hL; subst hs; exact wpAny_Name (wpAny_loadName_local hk hx (hC.ns (N _ hm).1) hv (hQ t)) hb
end
end Mine
namespace Mine
section
variable {prog : Program} {w : World} {A : Around} {E : Value → Shared → Prop} {h₀ : Heap} {L : Addr} {m : Str → Option Value} {env : Env} {κ : List (Str × Nm)}
theorem ev_eq {h : Heap} (hk : env.scope.kind = .function) (F : Fr h₀ L h m) (hL : env.locals = L) (hκ : ∀ p ∈ κ, RdOK prog w A E env h p.1 p.2) {e : Expr} {a b : Int} (he : Ev env κ m e a) (hab : a = b)
    (s : Shared) (Q : Value → Shared → Prop) (hs : s.heap = h) (hQ : ∀ t tk, Q (.int b t) { s with toks := tk }) : wpAny (model prog w) A (eval e env) Q E s := by
  subst hab; exact ev_ok hk F hL hκ he s Q hs hQ
theorem ex_asq {x : Str} {px pos : Pos} {e : Expr} {rest : List Stmt} {a b : Int} {news : List (Addr × Obj)} {Q : Flow → Shared → Prop} {s : Shared} (hk : env.scope.kind = .function) (F : Fr h₀ L s.heap m) (N : News h₀ L s.heap news) (hL : env.locals = L) (hκ : ∀ p ∈ κ, RdOK prog w A E env s.heap p.1 p.2)
    (he : Ev env κ m e a) (hab : a = b) (hx : env.kindOf x = some .local) (hsw : swapsWith e (some (.Name x px)) pos.line env = pure false) (hp : (env.scope.kind == .class || (env.scope.kind == .module && env.locals != env.globals)) = false)
    (h : ∀ t h' tk', Fr h₀ L h' (fun y => if y = x then some (.int b t) else m y) → News h₀ L h' news → wpAny (model prog w) A (execs rest env) Q E { s with heap := h', toks := tk' }) :
    wpAny (model prog w) A (execs (.Assign [.Name x px] e pos :: rest) env) Q E s := by
  subst hab; exact ex_as hk F N hL hκ he hx hsw hp h
end
end Mine
namespace Mine
section
variable {prog : Program} {w : World} {A : Around} {E : Value → Shared → Prop} {h₀ : Heap} {L : Addr} {m : Str → Option Value} {env : Env} {κ : List (Str × Nm)}
theorem evp_f {h : Heap} (hk : env.scope.kind = .function) (F : Fr h₀ L h m) (hL : env.locals = L) (hκ : ∀ p ∈ κ, RdOK prog w A E env h p.1 p.2) {e : Expr} {Pq : Prop} (he : EvP env κ m e Pq) (hP : ¬ Pq)
    (s : Shared) (Q : Bool → Shared → Prop) (hs : s.heap = h) (h0 : ∀ tk, Q false { s with toks := tk }) : wpAny (model prog w) A (isTrue e env (eval e env)) Q E s :=
  evp_ok hk F hL hκ he s Q hs (fun q => absurd q hP) (fun _ => h0)
theorem evp_t {h : Heap} (hk : env.scope.kind = .function) (F : Fr h₀ L h m) (hL : env.locals = L) (hκ : ∀ p ∈ κ, RdOK prog w A E env h p.1 p.2) {e : Expr} {Pq : Prop} (he : EvP env κ m e Pq) (hP : Pq)
    (s : Shared) (Q : Bool → Shared → Prop) (hs : s.heap = h) (h1 : ∀ tk, Q true { s with toks := tk }) : wpAny (model prog w) A (isTrue e env (eval e env)) Q E s :=
  evp_ok hk F hL hκ he s Q hs (fun _ => h1) (fun q => absurd hP q)
end
end Mine
namespace Mine
section
variable {prog : Program} {w : World} {A : Around} {E : Value → Shared → Prop} {h₀ : Heap} {L : Addr} {m : Str → Option Value} {env : Env} {κ : List (Str × Nm)}
theorem evpc_b {h : Heap} (hκ : ∀ p ∈ κ, RdOK prog w A E env h p.1 p.2) {e : Expr} {Pq : Prop} [Decidable Pq] (he : EvP env κ (fun _ => none) e Pq)
    (s : Shared) (Q : Bool → Shared → Prop) (hs : s.heap = h) (h1 : ∀ tk, Q (decide Pq) { s with toks := tk }) : wpAny (model prog w) A (isTrue e env (eval e env)) Q E s :=
  evpc_ok hκ he s Q hs (fun q tk => by have := h1 tk; rwa [decide_eq_true q] at this) (fun q tk => by have := h1 tk; rwa [decide_eq_false q] at this)
def RdS (prog : Program) (w : World) (A : Around) (E : Value → Shared → Prop) (env : Env) (h : Heap) (x : Str) (ss : List Str) : Prop :=
  ∃ (l : Addr) (vs : List Value), h.IsList l vs.toArray ∧ StrsAre vs ss ∧ ∀ (pos : Pos) (Q : Value → Shared → Prop) (s : Shared), s.heap = h → Q (.ref l) s → wpAny (model prog w) A (eval (.Name x pos) env) Q E s
theorem rd_strs {h : Heap} {x : Str} {c l : Addr} {o : Obj} {vs : List Value} {ss : List Str} {n : Nat} {news : List (Addr × Obj)} (hk : env.scope.kind = .function) (N : News h₀ L h news) (hx : env.kindOf x = some .cell) (hc : env.cells.lookup x = some c) (hm : (c, o) ∈ news) (hd : o.data = .cell (some (.ref l))) (hl : (l, W.listOf (List.toArray vs) n) ∈ news) (hi : StrsAre vs ss) (hb : (x == ("__debug__" : Str)) = false) :
    RdS prog w A E env h x ss := ⟨l, vs, ⟨_, (N _ hl).1, rfl, n, rfl⟩, hi, fun pos Q s hs hQ => wpAny_Name (wpAny_loadName_cell hk hx hc ⟨o, by rw [hs]; exact (N _ hm).1, hd⟩ hQ) hb⟩
theorem strs_at : ∀ {vs : List Value} {ss : List Str}, StrsAre vs ss → ∀ {i : Nat}, i < ss.length → ∃ t, vs[i]? = some (.str (ss.getD i Str.empty) t)
  | _, _, .cons x t h, 0, _ => ⟨t, rfl⟩
  | _, _, .cons x t h, i + 1, hi => by
    obtain ⟨u, hu⟩ := strs_at h (i := i) (by simpa using hi)
    exact ⟨u, by simpa using hu⟩
theorem evs_ok {h : Heap} {x : Str} {p q : Pos} {i : Expr} {ss : List Str} {k : Int} (hS : RdS prog w A E env h x ss) (hκ : ∀ p ∈ κ, RdOK prog w A E env h p.1 p.2) (hi : Ev env κ (fun _ => none) i k) (h0 : 0 ≤ k) (h1 : k < ss.length) (hz : ss.length ≤ 1000000)
    (hsub : ∀ l u, subscripted i false (.ref l) (.int k u) = operate [.ref l, .int k u] (getItem (.ref l) (.int k u)))
    (s : Shared) (Q : Value → Shared → Prop) (hs : s.heap = h) (hQ : ∀ t tk, Q (.str (ss.getD k.toNat Str.empty) t) { s with toks := tk }) : wpAny (model prog w) A (eval (.Subscript (.Name x p) i q) env) Q E s := by
  obtain ⟨l, vs, hl, hss, rd⟩ := hS
  obtain ⟨t, ht⟩ := strs_at hss (i := k.toNat) (by omega)
  refine Subscript_ (rd _ _ s hs (evc_ok hκ hi rfl s _ hs fun u tk => ?_))
  exact tail_any (s := { s with toks := tk }) (hs ▸ hl).typeIs slot_list_getitem.lookup (getItem_listL (hs ▸ hl) h0 (by omega) ht (hQ t tk)) (hsub l u)
end
theorem r_nestr {prog : Program} {w : World} {A : Around} {E : Value → Shared → Prop} {s : Shared} {Q : Value → Shared → Prop} {x y : Str} {t u : Tok} (e : x = y) (h : Q (.bool false) s) : wpAny (model prog w) A (compareOp .NotEq (.str x t) (.str y u)) Q E s := by
  subst e
  exact PySem.SeqAt.RcNeAt.str_str x t x u prog w E Q (by simpa using h)
end Mine
end
section
set_option maxRecDepth 100000
namespace Mine
theorem isb_dec (n : Int) : (decide (n ≠ 0) && (Builtin.bitAnd n (n - 1) == 0)) = (if n = 0 then false else (Builtin.bitAnd n (n - 1) == 0)) := by
  by_cases h : n = 0 <;> simp [h]
section
variable {w : World} {loose : List Str} {mean : ExcName → Option Value} {mg mb : Str → Option Value} {dp un : Nat} {gd : Option (List Code)} {cn : Str} {cs : Scope} {a : Addr} {ccd : Value} {cl : List (Str × Addr)} {outer : List Env} {A₀ : Around} {base h₀ : Heap} {L : Addr} {m : Str → Option Value} {news : List (Addr × Obj)} {s : Shared} {Q E : Value → Shared → Prop}

set_option maxHeartbeats 1000000 in
theorem c_high {n : Int} {t : Tok} (B : Below A₀ base outer h₀) (F : Fr h₀ L s.heap m) (X : (hd.heap_39 w.params).In h₀) (N : News h₀ L s.heap news) (T : Top topProg loose mean mg mb h₀) (hk : cs.kind = .function)
    (hdp : dp + 1 < recursionLimit) (hu : un + 8 < cLine)
    (hret : ∀ t' h' tk', Fr h₀ L h' m → News h₀ L h' news → Q (.int ((Builtin.Int.intBits n : Int) - 1) t') { s with heap := h', toks := tk' }) :
    wpAny (model PySem.Challenge.rw_wo0032_02.row.prog w) (ktrTop dp un gd cn cs L a ccd cl outer) (call (.ref 71) [.int n t]) Q E s := by
  w_top off
  k_with_none
  revert B F X N T
  k_fill
  intro B F X N T
  refine wpAny_call ?_
  k_dflt ktr_enter
  k_steps
  exact hret _ _ _ (by assumption) (by assumption)

set_option maxHeartbeats 1000000 in
theorem c_isb {n : Int} {t : Tok} (B : Below A₀ base outer h₀) (F : Fr h₀ L s.heap m) (X : (hd.heap_39 w.params).In h₀) (N : News h₀ L s.heap news) (T : Top topProg loose mean mg mb h₀) (hk : cs.kind = .function)
    (hdp : dp + 1 < recursionLimit) (hu : un + 8 < cLine)
    (hret : ∀ h' tk', Fr h₀ L h' m → News h₀ L h' news → Q (.bool (if n = 0 then false else (Builtin.bitAnd n (n - 1) == 0))) { s with heap := h', toks := tk' }) :
    wpAny (model PySem.Challenge.rw_wo0032_02.row.prog w) (ktrTop dp un gd cn cs L a ccd cl outer) (call (.ref 64) [.int n t]) Q E s := by
  w_top off
  k_with_none
  revert B F X N T
  k_fill
  intro B F X N T
  refine wpAny_call ?_
  k_dflt ktr_enter
  k_steps
  · rw [if_pos (by assumption)] at hret
    exact hret _ _ (by assumption) (by assumption)
  · rw [if_neg (by assumption)] at hret
    exact hret _ _ (by assumption) (by assumption)

end
end Mine
end
section
set_option maxRecDepth 100000
namespace Mine
open Builtin.Int (intBits)



def stp (p n x : Int) : Int := if (intBits (2 * x) : Int) - 1 = n then Builtin.bitXor (2 * x) p else 2 * x
def itr (p n s : Int) : Nat → Int
  | 0 => s
  | k + 1 => stp p n (itr p n s k)
def Reg (p n s : Int) : Prop := 0 ≤ n ∧ n ≤ 5 ∧ ∀ k, 0 ≤ itr p n s k ∧ itr p n s k < 32
theorem itr_bnd {p n s : Int} (h : Reg p n s) (h0 : 0 ≤ s) (h1 : s < 32) : ∀ k, 0 ≤ itr p n s k ∧ itr p n s k < 32 := h.2.2
def sts (p n s : Int) (k : Nat) : List Int := (List.range (k + 1)).map (itr p n s)
theorem sts_len (p n s : Int) (k : Nat) : (sts p n s k).length = k + 1 := by simp [sts]
theorem sts_on {p n s : Int} {k : Nat} (h : (intBits (2 * itr p n s k) : Int) - 1 = n) : sts p n s k ++ [Builtin.bitXor (2 * itr p n s k) p] = sts p n s (k + 1) := by
  rw [sts, sts, range_map_succ _ (k + 1), itr, stp, if_pos h]
theorem sts_off {p n s : Int} {k : Nat} (h : ¬ (intBits (2 * itr p n s k) : Int) - 1 = n) : sts p n s k ++ [2 * itr p n s k] = sts p n s (k + 1) := by
  rw [sts, sts, range_map_succ _ (k + 1), itr, stp, if_neg h]
theorem bits_lt32 {x : Int} (h0 : 0 ≤ x) (h1 : x < 32) : intBits x ≤ 5 := bits_le_of_lt h0 (k := 5) (by omega)
set_option maxHeartbeats 4000000 in
theorem c_states {w : World} {loose : List Str} {mean : ExcName → Option Value} {mg mb : Str → Option Value} {dp un : Nat} {gd : Option (List Code)} {cn : Str} {cs : Scope} {a : Addr} {ccd : Value} {cl : List (Str × Addr)} {outer : List Env} {A₀ : Around} {base h₀ : Heap} {L : Addr} {m : Str → Option Value} {news : List (Addr × Obj)} {s : Shared} {Q E : Value → Shared → Prop} {p n x c : Int} {t t1 t2 : Tok} (B : Below A₀ base outer h₀) (F : Fr h₀ L s.heap m) (X : (hd.heap_39 w.params).In h₀) (N : News h₀ L s.heap news) (T : Top topProg loose mean mg mb h₀) (hk : cs.kind = .function)
    (hR : Reg p n x) (h0 : 0 ≤ x) (h1 : x < 32) (hc : (2 : Int) ^ n.toNat - 1 = c) (hc1 : 0 ≤ c) (hc2 : c ≤ 31)
    (hdp : dp + 3 < recursionLimit) (hu : un + 8 * 3 < cLine)
    (hret : ∀ D ys nn h' tk', IntsAre ys (sts p n x c.toNat) → Fr h₀ L h' m → News h₀ L h' ((D, W.listOf ys.toArray nn) :: news) → (∀ p ∈ news, p.1 < D) → Q (.ref D) { s with heap := h', toks := tk' }) :
    wpAny (model PySem.Challenge.rw_wo0032_02.row.prog w) (ktrTop dp un gd cn cs L a ccd cl outer) (call (.ref 88) [.int p t, .int n t1, .int x t2]) Q E s := by
  w_top off
  k_with_none
  k_with "BITS!" => (first | (with_reducible assumption) | ((with_reducible apply bits_ediv2); bits_by_make) | ((with_reducible refine bits_emod2 ?_ ?_); (focus l_bnd); bits_by_make))
  k_with "binaryOp LShift int int" => ((k_here; (with_reducible refine' r_shl (by l_bnd) (by bits_by_make) (by l_bnd) (by decide) ?_)))
  k_with "inplaceOp LShift int int" => ((k_here; (with_reducible refine' ishl (by l_bnd) (by bits_by_make) (by l_bnd) (by decide) ?_)))
  k_with "binaryOp RShift int int" => ((k_here; (with_reducible refine r_shr (by l_bnd) ?_)))
  k_with "inplaceOp RShift int int" => ((k_here; (with_reducible refine ishr (by l_bnd) ?_)))
  k_with "binaryOp BitOr int int" => ((k_here; (with_reducible refine r_or (by l_bnd) (by l_bnd) (by l_bnd) ?_)))
  k_with "binaryOp BitAnd int int" => ((k_here; first | (with_reducible refine r_and1 ?_) | ((with_reducible refine r_mask (by l_bnd) ?_))))
  k_with "call builtin:divmod" => ((k_here; (with_reducible show wpAny _ _ (call (Value.builtin _) [Value.int _ _, Value.int _ _]) _ _ _); (refine' r_divmod (by assumption) (by assumption) (by l_bnd) (by first | assumption | exact noPy (by omega)) ?_); intro D' t1' t2' h' tk' F' N' l1; (try k_lt l1)))
  k_with "ALL!" => (first | assumption | (refine' allNe (by assumption)) | (refine' allNe (And.right (by assumption))) | (refine' allNe (And.right (And.right (by assumption)))) | (refine' allNeLt (by assumption) (by omega)))
  k_with "binaryOp Mult ref int" => ((k_here; k_dflt (refine' r_rep0 (by k_asm) (by k_asm) (by k_mem) (by l_bnd) (by l_bnd) ?_); intro D' h' F' N' l1; (try k_lt l1)))
  k_with "EV!" => ((repeat' (first | exact Ev.const | exact Ev.cap (by with_unfolding_all rfl) | exact Ev.loc (by with_unfolding_all rfl) (by with_unfolding_all rfl) (by decide) | apply Ev.and1 | apply Ev.add | apply Ev.sub | apply Ev.neg | apply Ev.mul | apply Ev.fmod | apply Ev.fdiv | apply Ev.pow | apply Ev.shr | apply Ev.item (by with_unfolding_all rfl) (hs := by intro _ _; with_unfolding_all rfl) | apply Ev.bxor | apply Ev.band | apply EvP.lt (hm := by with_unfolding_all rfl) | apply EvP.le (hm := by with_unfolding_all rfl) | apply EvP.gt (hm := by with_unfolding_all rfl) | apply EvP.ge (hm := by with_unfolding_all rfl) | apply EvP.eq (hm := by with_unfolding_all rfl) | apply EvP.ne (hm := by with_unfolding_all rfl) | apply EvP.lelt (hm := by with_unfolding_all rfl) | apply EvP.not | apply EvP.int (hi := by rfl) | ((with_reducible show IntMulOk _ _); refine IntMulOk.of_le (by bits_by_make) (by bits_by_make) (by decide)) | k_extra "EVC!" | ((fail_if_success (with_reducible show Int)); l_bnd))))
  k_with "EVC!" => (fail)
  k_with "execs cons" => ((k_here; k_dflt (refine ex_as (κ := []) (by with_unfolding_all rfl) (by k_asm) (by k_asm) (by with_unfolding_all rfl) (by exact List.forall_mem_nil _) (by k_extra "EV!") (by with_unfolding_all rfl) (by rfl) (by with_unfolding_all rfl) ?_); intro t' h' tk' F' N'; (try dsimp only); (try k_fold)))
  k_with "exec If" => ((k_here; k_dflt (refine ex_if (κ := []) (by with_unfolding_all rfl) (by k_asm) (by with_unfolding_all rfl) (by exact List.forall_mem_nil _) (by k_extra "EV!") ?_ ?_); (all_goals (intro c' tk'; (try dsimp only)))))
  k_with "eval BinOp" => ((k_here; k_dflt (refine ev_ok (κ := []) (by with_unfolding_all rfl) (by k_asm) (by with_unfolding_all rfl) (by exact List.forall_mem_nil _) (by k_extra "EV!") _ _ rfl ?_); intro t' tk'; (try dsimp only)))
  k_with "exec For Name Call cons nil" => ((k_here; k_extra "exec For"))
  k_with "ALL!" => (first | (refine' neOfLt (by assumption)))
  obtain ⟨n0, n5, hst⟩ := id hR
  have hpz : (intBits 2 : Int) * n ≤ 2 ^ 27 := by rw [show intBits 2 = 2 by decide]; omega
  have hib := itr_bnd hR h0 h1
  revert B F X N T
  k_fill
  intro B F X N T
  refine wpAny_call ?_
  k_dflt (refine' code_def ?k1 ?k2 ?k3 ?k4 ?k5 ?kA ?kF ?kK ?k6 ?k7 ?k8 ?k9 ?kB ?_ ?c2 ?c3 ?c4 ?c5; (case kA => exact rfl); (case kF => exact rfl); (case kK => assumption); (case k1 => k_asm); (case k2 => k_asm); (case k3 => k_asm); (case k4 => k_asm); (case k5 => k_asm); (case k6 => k_is); (case k7 => k_is); (case k8 => ktr_room); (case k9 => exact BindsTo.of_eq rfl); (case c5 => decide); (case kB => exact locs rfl); (case c2 => exact rfl); (case c3 => exact rfl); (case c4 => exact rfl); k_whole; intro g' L' h' FG' F' N' B' X' T'; (try dsimp only); (try k_fold))
  k_with "exec For" => ((refine for_else (h₀ := g') (by with_unfolding_all rfl) (by with_unfolding_all rfl) ?_ (by intro _; with_unfolding_all rfl) (by passes_own)))
  k_with "pyIter ref" => (((with_reducible rename Fr g' _ _ _ => lF'); (with_reducible rename News g' _ _ _ => lN'); (with_reducible rename IsRange _ _ _ _ _ _ _ _ => lR'); (rw [hc] at lR'); (with_unfolding_all refine is_loop (n := c.toNat) (rn := Str.ofString "state") (fg := [Str.ofString "k"]) (fun i r ss => r = itr p n x i ∧ ss = sts p n x i) (by rfl) lR' (rng_small (by decide) hc1 (by omega)) (rng_size hc1 (by omega)) lF' lN' (by rfl) (.cons _ _ .nil) ⟨rfl, rfl⟩ (by decide) (by decide) (by decide) ?_ ?_); (clear lF' lN' lR'); (rotate_left); (intro r9 tr9 vs9 ss9 nn9 u9 h9 tk9 hi9 hI9 F9 N9; (obtain ⟨hr9, hs9⟩ := hI9); subst hr9; subst hs9; (have hl9 := hi9.length); (try k_fold)); (rotate_left); (intro I9 i9 t9 r9 tr9 vs9 ss9 nn9 u9 h9 tk9 hlt9 hD9 hoff9 hi9 hI9 F9 N9; (obtain ⟨hr9, hs9⟩ := hI9); subst hr9; subst hs9; (have hb9 := hib i9); (have hbb9 := bits_lt32 hb9.1 hb9.2); (have hl9 : vs9.length ≤ 33 := by rw [hi9.length, sts_len]; omega); (have hD99 := Ne.symm hD9); (try k_fold))))
  k_with "EPost" => (((with_reducible rename News _ _ _ _ => nN); (simp only [List.push_toArray] at nN); (refine EPost.is (by assumption) nN (ints_snoc hi9) (by with_unfolding_all rfl) (by intro z h1 h2; simp only [List.contains_cons, List.contains_nil, Bool.or_false, Bool.or_eq_false_iff, beq_eq_false_iff_ne, ne_eq] at h2; simp [h1, h2]) ⟨by first | (rw [itr, stp, if_pos (by assumption)]) | (rw [itr, stp, if_neg (by assumption)]), by first | exact sts_on (by assumption) | exact sts_off (by assumption)⟩ hD9 hoff9)))
  k_with "call ref" => (((with_unfolding_all refine c_high (by k_asm) (by k_asm) (by k_asm) (by k_asm) (by k_asm) (by rfl) (by ktr_room) (by ktr_units) ?_); intro t9' h9' k9' F9' N9'; (try dsimp only); (try k_fold)))
  k_steps
  refine hret _ _ nn9 _ _ hi9 (by assumption) ?_ (by assumption)
  first | assumption | (refine cb_drop (by assumption) fun p hp => ?_; simpa using hp)
end Mine
end
section
namespace Mine
open Builtin.Int (intBits)
theorem fr_focus {h₀ h : Heap} {L : Addr} {m : Str → Option Value} {k : Str} {v : Value} (e : m k = some v) (F : Fr h₀ L h m) : Fr h₀ L h (fun y => if y = k then some v else m y) := by
  have e1 : (fun y => if y = k then some v else m y) = m := by
    funext y
    by_cases h : y = k
    · subst h; simp [e]
    · simp [h]
  rw [e1]; exact F
theorem ite_focus {m : Str → Option Value} {k y : Str} {v : Value} (e : m k = some v) : (if y = k then some v else m y) = m y := by
  by_cases h : y = k
  · subst h; simp [e]
  · simp [h]
theorem r_isnot_b {M : Model} {A : Around} {E : Value → Shared → Prop} {s : Shared} {Q : Value → Shared → Prop} {b c : Bool} (e : b = c) (h : Q (.bool false) s) : wpAny M A (compareOp .IsNot (.bool b) (.bool c)) Q E s := by
  subst e; exact wpAny_isNot_self (by cases b <;> rfl) h
theorem compEnd_same {h₀ : Heap} {L I C D : Addr} {m : Str → Option Value} {s₁ : Shared} {oI oC oD : Obj} {S : List (Addr × Obj) → Prop} {rest : Value → List (Addr × Obj) → Prop} {y : Value} {h' : Heap} {tk : Nat} {news' : List (Addr × Obj)}
    (F : Fr h₀ L h' m) (N : News h₀ L h' ((I, oI) :: (C, oC) :: (D, oD) :: news')) (off : LCg.Off3 I C D news') (hS : S news') (r : rest y news') :
    LCg.CompEnd h₀ L m s₁ I oI C oC D oD S rest y { s₁ with heap := h', toks := tk } := LCg.CompEnd.intro F N news' (fun p hp => hp) off hS r
theorem fr_un {h₀ h : Heap} {L : Addr} {m : Str → Option Value} {k : Str} {v : Value} (e : m k = some v) (F : Fr h₀ L h (fun y => if y = k then some v else m y)) : Fr h₀ L h m := by
  have e1 : (fun y => if y = k then some v else m y) = m := by
    funext y
    by_cases h : y = k
    · subst h; simp [e]
    · simp [h]
  rw [e1] at F; exact F
theorem ints_at {vs : List Value} {ns : List Int} {i : Nat} {v : Value} (h : IntsAre vs ns) (e : vs.toArray[i]? = some v) : ∃ a t, v = .int a t ∧ ns[i]? = some a ∧ a ∈ ns := by
  have e' : vs[i]? = some v := by simpa using e
  obtain ⟨hi, rfl⟩ := List.getElem?_eq_some_iff.mp e'
  have hn : i < ns.length := h.length ▸ hi
  obtain ⟨t, ht⟩ := ints_get h hi hn
  exact ⟨_, t, ht, List.getElem?_eq_getElem hn, List.getElem_mem hn⟩
theorem keepF_none {α : Type} (f : Nat → α) : ∀ n, keepF (fun _ => false) f n = []
  | 0 => rfl
  | n + 1 => by rw [keepF, keepF_none f n]; rfl
theorem ints0 {vs : List Value} (h : IntsAre vs []) : vs = [] := by cases h; rfl
theorem fr_eqm {h₀ h : Heap} {L : Addr} {m1 m : Str → Option Value} (F : Fr h₀ L h m1) (e : ∀ y, m1 y = m y) : Fr h₀ L h m := by
  have e1 : m1 = m := funext e
  rw [← e1]; exact F
theorem range_getD {α : Type} (l : List Int) (f : Int → α) : (List.range l.length).map (fun i => f (l.getD i 0)) = l.map f := by
  apply List.ext_getElem
  · simp
  · intro i h1 h2
    simp only [List.length_map] at h2
    simp [List.getD_eq_getElem?_getD, List.getElem?_eq_getElem h2]
theorem ints_atD {vs : List Value} {ns : List Int} {i : Nat} {v : Value} (h : IntsAre vs ns) (e : vs.toArray[i]? = some v) : ∃ t, v = .int (ns.getD i 0) t := by
  obtain ⟨a, t, h1, h2, _⟩ := ints_at h e
  exact ⟨t, by rw [h1, List.getD_eq_getElem?_getD, h2]; rfl⟩
theorem news_list {h₀ h : Heap} {L l : Addr} {vs : List Value} {c : Nat} {news : List (Addr × Obj)} (N : News h₀ L h news) (hm : (l, W.listOf (List.toArray vs) c) ∈ news) : h.IsList l vs.toArray := ⟨_, (N _ hm).1, rfl, c, rfl⟩
theorem off1_d {D : Addr} {a : Addr × Obj} {l : List (Addr × Obj)} (h : LCg.Off1 D (a :: l)) : LCg.Off1 D l := h.2
theorem len_lt {α : Type} {l : List α} {x c : Int} (h : l.length = c.toNat) (hc : 0 < c) (h1 : x < c) : x < l.length := by omega
theorem len_mil {α : Type} {l : List α} {c : Int} (h : l.length = c.toNat) (h2 : c ≤ 31) : l.length ≤ 1000000 := by omega
theorem len_pos0 {α : Type} {l : List α} {c : Int} (h : l.length = c.toNat) (hc : 0 < c) : (0 : Int) < l.length := by omega
theorem len_nat {α : Type} {l : List α} {k i : Nat} (h : l.length = k) (hi : i < k) : (i : Int) < l.length := by omega
theorem lt_64 {i k : Nat} {c : Int} (h : i < k) (hk : k = c.toNat) (hc : c ≤ 31) : i < 64 := by omega
theorem pw_27 {i : Nat} (h : i < 64) : (Builtin.Int.intBits 2 : Int) * (i : Int) ≤ 2 ^ 27 := by rw [show Builtin.Int.intBits 2 = 2 by decide]; omega
end Mine
end
section
namespace Mine
open Builtin.Int (intBits)
def lawBody : List Stmt := match PySem.Challenge.rw_wo0032_02.row.prog.main.body.getLast? with
  | some (.FunctionDef _ _ b _ _ _ _ _ _ _) => b
  | _ => []
def lawScope : Scope := match PySem.Challenge.rw_wo0032_02.row.prog.main.body.getLast? with
  | some (.FunctionDef _ _ _ _ _ _ sc _ _ _) => sc
  | _ => { kind := .function, names := [], isGenerator := false, isCoroutine := false }
theorem lawBody_len : lawBody.length = 33 := by rfl
section
variable {w : World} {loose : List Str} {mean : ExcName → Option Value} {mg mb : Str → Option Value} {dp un : Nat} {gd : Option (List Code)} {cn : Str} {cs : Scope} {a : Addr} {ccd : Value} {cl : List (Str × Addr)} {outer : List Env} {A₀ : Around} {base h₀ : Heap} {L : Addr} {m : Str → Option Value} {news : List (Addr × Obj)} {s : Shared} {Q E : Value → Shared → Prop}
theorem c_isb' {b : Bool} {n : Int} {t : Tok} (hb : (if n = 0 then false else (Builtin.bitAnd n (n - 1) == 0)) = b) (B : Below A₀ base outer h₀) (F : Fr h₀ L s.heap m) (X : (hd.heap_39 w.params).In h₀) (N : News h₀ L s.heap news) (T : Top topProg loose mean mg mb h₀) (hk : cs.kind = .function)
    (hdp : dp + 1 < recursionLimit) (hu : un + 8 < cLine)
    (hret : ∀ h' tk', Fr h₀ L h' m → News h₀ L h' news → Q (.bool b) { s with heap := h', toks := tk' }) :
    wpAny (model PySem.Challenge.rw_wo0032_02.row.prog w) (ktrTop dp un gd cn cs L a ccd cl outer) (call (.ref 64) [.int n t]) Q E s := by
  subst hb; exact c_isb B F X N T hk hdp hu hret
theorem c_high' {v n : Int} {t : Tok} (hv : (intBits n : Int) - 1 = v) (B : Below A₀ base outer h₀) (F : Fr h₀ L s.heap m) (X : (hd.heap_39 w.params).In h₀) (N : News h₀ L s.heap news) (T : Top topProg loose mean mg mb h₀) (hk : cs.kind = .function)
    (hdp : dp + 1 < recursionLimit) (hu : un + 8 < cLine)
    (hret : ∀ t' h' tk', Fr h₀ L h' m → News h₀ L h' news → Q (.int v t') { s with heap := h', toks := tk' }) :
    wpAny (model PySem.Challenge.rw_wo0032_02.row.prog w) (ktrTop dp un gd cn cs L a ccd cl outer) (call (.ref 71) [.int n t]) Q E s := by
  subst hv; exact c_high B F X N T hk hdp hu hret
theorem c_dm {tb all rest : List (Addr × Obj)} {x b : Int} {t t1 : Tok} (hT : Tabs tb) (hE : Ends tb all rest) (hN : ∀ p ∈ rest, p.1 ≠ 30 ∧ p.1 ≠ 37) (B : Below A₀ base outer h₀) (F : Fr h₀ L s.heap m) (X : (hd.heap_39 w.params).In h₀) (N : News h₀ L s.heap all) (T : Top topProg loose mean mg mb h₀) (hk : cs.kind = .function)
    (C1 : CodeHd base 34 30) (C2 : CodeHd base 41 37) (hb : 0 < b) (hb1 : intBits b ≤ 31) (hx : 0 ≤ x) (hx2 : intBits x ≤ 20 * intBits b)
    (hdp : dp + 60 < recursionLimit) (hu : un + 8 * 60 < cLine)
    (hret : ∀ D tb' t1 t2 h' tk', Tabs tb' → Fr h₀ L h' m → News h₀ L h' ((D, { cls := .type "tuple", data := .seq #[.int (x / b) t1, .int (x % b) t2] }) :: (rest ++ tb')) → (∀ p ∈ rest, @LT.lt Nat _ p.1 D) → Q (.ref D) { s with heap := h', toks := tk' }) :
    wpAny (model PySem.Challenge.rw_wo0032_02.row.prog w) (ktrTop dp un gd cn cs L a ccd cl outer) (call (.ref 49) [.int x t, .int b t1]) Q E s := by
  obtain ⟨ts30, ts37, rfl, h30, h37⟩ := hT
  have e := hE.eq
  refine c_dmp (k := 0) (c_div2_zero) h30 h37 B F X (cb_drop N fun p hp => ?_) T hk C1 C2 (fun p hp => (hN p hp).1) (fun p hp => (hN p hp).2) hb hx (by omega) (by omega) (by omega) (by omega) (by omega) (by omega) ?_
  · rw [e]
    simp only [List.mem_append] at hp ⊢
    rcases hp with h | h | h <;> simp [h]
  · intro D ts30' ts37' t1 t2 h' tk' g1 g2 F' N' hD
    refine hret D (ts30' ++ ts37') t1 t2 h' tk' ⟨_, _, rfl, g1, g2⟩ F' (cb_drop N' fun p hp => ?_) (ktn_ltOf hD)
    simp only [List.mem_append, List.mem_cons] at hp ⊢
    rcases hp with h | h | h | h <;> simp [h]
end
end Mine
end
section
namespace Mine
open Builtin.Int (intBits)
theorem ends_app (tb : List (Addr × Obj)) : ∀ r : List (Addr × Obj), Ends tb (r ++ tb) r
  | [] => .nil
  | _ :: r => .cons (ends_app tb r)
theorem offs {h₀ h : Heap} {L : Addr} {l rst tb : List (Addr × Obj)} (hT : Tabs tb) (N : News h₀ L h (l ++ (rst ++ tb))) (hl : ∀ p ∈ l, NotTab p.2) (hr : ∀ p ∈ rst, NotTab p.2) : ∀ p ∈ l ++ rst, p.1 ≠ 30 ∧ p.1 ≠ 37 :=
  Tabs.off hT N (fun p hp => List.mem_append_right _ (List.mem_append_right _ hp)) (fun p hp => by
    rcases List.mem_append.mp hp with h | h
    · exact List.mem_append_left _ h
    · exact List.mem_append_right _ (List.mem_append_left _ h)) (fun p hp => by
    rcases List.mem_append.mp hp with h | h
    · exact hl _ h
    · exact hr _ h)
end Mine
namespace Mine
theorem r_ne_int {prog : Program} {w : World} {A : Around} {E : Value → Shared → Prop} {s : Shared} {Q : Value → Shared → Prop} {a b : Int} {t u : Tok} (e : a = b) (h : Q (.bool false) s) : wpAny (model prog w) A (compareOp .NotEq (.int a t) (.int b u)) Q E s := by
  subst e; exact P.ne_int (by simpa using h)
end Mine
namespace Mine
def wl (x : Int) : Nat := (Txt.split (Txt.join (Str.ofString ", ") (pfW PFT x)) (Str.ofString ", ")).length
theorem sep2_len : (Str.ofString ", ").length = 2 := by decide +kernel
theorem sum_le_mul {l : List Nat} {k : Nat} (h : ∀ x ∈ l, x ≤ k) : l.sum ≤ l.length * k := by
  induction l with
  | nil => simp
  | cons a l ih =>
    have h1 := h a (.head _)
    have h2 := ih fun x hx => h x (.tail _ hx)
    simp only [List.sum_cons, List.length_cons, Nat.add_mul, Nat.one_mul]; omega
theorem join_pf_len {x : Int} (h0 : 0 ≤ x) (h1 : x < 2 ^ 60) : (Txt.join (Str.ofString ", ") (pfW PFT x)).length ≤ 4000 := by
  obtain ⟨h2, h2'⟩ := pfW_len (D := PFT) (by decide) h0 h1
  have h3 := StrLaws.join_length_le (Str.ofString ", ") (pfW PFT x)
  have h4 := sum_le_mul (l := (pfW PFT x).map (·.length)) (k := 100) (by intro y hy; obtain ⟨z, hz, rfl⟩ := List.mem_map.mp hy; exact h2 z hz)
  rw [List.length_map] at h4
  rw [sep2_len] at h3
  have h5 : (pfW PFT x).length * 100 + (pfW PFT x).length * 2 ≤ 4000 := by omega
  have h6 : (Str.join (Str.ofString ", ") (pfW PFT x)).length ≤ 4000 := by omega
  rw [← StrLaws.glued_eq_join] at h6
  exact h6
theorem wl_le {x : Int} (h0 : 0 ≤ x) (h1 : x < 2 ^ 60) : wl x ≤ 1000000000 := Nat.le_trans (split_le _ _) (by have := join_pf_len h0 h1; omega)
theorem r_splitj {prog : Program} {w : World} {A : Around} {E : Value → Shared → Prop} {s : Shared} {h₀ : Heap} {L : Addr} {m : Str → Option Value} {news : List (Addr × Obj)} {x : Int} {t u : Tok} {Q : Value → Shared → Prop} (h0 : 0 ≤ x) (h1 : x < 2 ^ 60) (F : Fr h₀ L s.heap m) (N : News h₀ L s.heap news)
    (h : ∀ D vs h' k, StrsAre vs (Txt.split (Txt.join (Str.ofString ", ") (pfW PFT x)) (Str.ofString ", ")) → Fr h₀ L h' m → News h₀ L h' ((D, W.listOf (List.toArray vs) 0) :: news) → (∀ p ∈ news, @LT.lt Nat _ p.1 D) → Q (.ref D) { s with heap := h', toks := k }) :
    wpAny (model prog w) A (call (.builtin "str.split") [.str (Txt.join (Str.ofString ", ") (pfW PFT x)) t, .str (Str.ofString ", ") u]) Q E s :=
  KSpl.split1 F N (by rw [sep2_len]; rfl) (fun D l h' k e hs F' N' hD => h D _ h' k (by rw [e] at hs; exact hs) F' N' hD) (by have := join_pf_len h0 h1; rw [sizeLine_eq]; omega)
end Mine
end
section
namespace Mine
section
variable {prog : Program} {w : World} {A : Around} {E : Value → Shared → Prop} {s : Shared} {h₀ h : Heap} {L D : Addr} {news : List (Addr × Obj)} {vs : List Value} {n : Nat}
theorem r_index {e : Value → Bool} {x : Value} {j : Nat} {Q : Value → Shared → Prop} (N : News h₀ L s.heap news) (hm : (D, W.listOf (List.toArray vs) n) ∈ news) (he : ∀ y ∈ vs, MeetsSeq.EqGives y x (e y)) (hj : vs.findIdx? e = some j) (hz : vs.length ≤ 1000000)
    (h : ∀ t tk, Q (.int (j : Int) t) { s with toks := tk }) : wpAny (model prog w) A (call (.builtin "list.index") [.ref D, x]) Q E s := by
  obtain ⟨a, b, c⟩ := List.findIdx?_eq_some_iff_getElem.mp hj
  refine call_meets PySem.F.slot_list_index ⟨_, (N _ hm).1, rfl⟩ PySem.F.entry_list_index (PySem.F.args_list_index_2 _ _)
    (MeetsSeq.list_index D vs.toArray n x e (fun y hy => he y (by simpa using hy)) j (by simpa using a) (by omega) (by simpa using b) (fun i hi hlt => by simpa using c i hlt)) ⟨(N _ hm).1, h _ _⟩
theorem ints_find {k : Int} : ∀ {vs : List Value} {ns : List Int}, IntsAre vs ns → vs.findIdx? (isInt k) = ns.findIdx? (· == k)
  | _, _, .nil => rfl
  | _, _, .cons a t h => by
    rw [List.findIdx?_cons, List.findIdx?_cons, ints_find h]; rfl
theorem ints_eqg {k : Int} {t : Tok} : ∀ {vs : List Value} {ns : List Int}, IntsAre vs ns → ∀ y ∈ vs, MeetsSeq.EqGives y (.int k t) (isInt k y)
  | _, _, .cons a u h, y, hy => by
    rcases List.mem_cons.mp hy with rfl | hy
    · exact MeetsSeq.EqGives.int a k u t
    · exact ints_eqg h y hy
theorem r_indexI {k : Int} {t : Tok} {ns : List Int} {j : Nat} {Q : Value → Shared → Prop} (N : News h₀ L s.heap news) (hm : (D, W.listOf (List.toArray vs) n) ∈ news) (hi : IntsAre vs ns) (hj : ns.findIdx? (· == k) = some j) (hz : ns.length ≤ 1000000)
    (h : ∀ t tk, Q (.int (j : Int) t) { s with toks := tk }) : wpAny (model prog w) A (call (.builtin "list.index") [.ref D, .int k t]) Q E s :=
  r_index N hm (ints_eqg hi) (by rw [ints_find hi]; exact hj) (hi.length ▸ hz) h
def isStrV (k : Str) : Value → Bool
  | .str i _ => i == k
  | _ => false
theorem strs_find {k : Str} : ∀ {vs : List Value} {ns : List Str}, StrsAre vs ns → vs.findIdx? (isStrV k) = ns.findIdx? (· == k)
  | _, _, .nil => rfl
  | _, _, .cons a t h => by
    rw [List.findIdx?_cons, List.findIdx?_cons, strs_find h]; rfl
theorem strs_eqg {k : Str} {t : Tok} : ∀ {vs : List Value} {ns : List Str}, StrsAre vs ns → ∀ y ∈ vs, MeetsSeq.EqGives y (.str k t) (isStrV k y)
  | _, _, .cons a u h, y, hy => by
    rcases List.mem_cons.mp hy with rfl | hy
    · have := SeqRoads2.EqGives.str a k u t
      rw [PySem.SeqAt.str_beq] at this; exact this
    · exact strs_eqg h y hy
theorem r_indexS {k : Str} {t : Tok} {ns : List Str} {j : Nat} {Q : Value → Shared → Prop} (N : News h₀ L s.heap news) (hm : (D, W.listOf (List.toArray vs) n) ∈ news) (hi : StrsAre vs ns) (hj : ns.findIdx? (· == k) = some j) (hz : ns.length ≤ 1000000)
    (h : ∀ t tk, Q (.int (j : Int) t) { s with toks := tk }) : wpAny (model prog w) A (call (.builtin "list.index") [.ref D, .str k t]) Q E s :=
  r_index N hm (strs_eqg hi) (by rw [strs_find hi]; exact hj) (hi.length ▸ hz) h
end
end Mine
end
section
set_option maxRecDepth 100000
namespace Mine
open Builtin.Int (intBits)
def nSt (p n s : Nat) : Nat := if 2 ^ n ≤ 2 * s then Nat.xor (2 * s) p else 2 * s
def seqN (p n : Nat) : Nat → Nat → List Nat
  | 0, _ => []
  | k + 1, s => s :: seqN p n k (nSt p n s)
def ringN (j : Nat) : List Nat → Nat
  | [] => 0
  | x :: l => x / 2 ^ j % 2 + 2 * ringN j l
def rotN (c R t : Nat) : Nat := R * 2 ^ t % (2 ^ c - 1)
def pop : Nat → Nat → Nat
  | 0, _ => 0
  | k + 1, x => x % 2 + pop k (x / 2)
def baseR (p n c : Nat) : Nat := ringN 0 (seqN p n c 1)
def rots (p n c : Nat) : List Nat := (List.range c).map (rotN c (baseR p n c))
def idx (a : Nat) : List Nat → Nat
  | [] => 0
  | x :: l => bif Nat.beq x a then 0 else idx a l + 1
def plc (p n c t : Nat) : Nat := let l := seqN p n c 1; idx (Nat.xor 1 (l.getD (c - t) 0)) l
def wrds (p n : Nat) : List Nat := (List.range (n + 1)).filter fun i => Nat.beq (p / 2 ^ i % 2) 1
def PQ : List (Nat × Nat × Nat) := [(11, 3, 7), (13, 3, 7), (19, 4, 15), (25, 4, 15), (37, 5, 31), (41, 5, 31), (47, 5, 31), (55, 5, 31), (59, 5, 31), (61, 5, 31)]
def allPQ (f : Nat → Nat → Nat → Bool) : Bool := PQ.all fun q => f q.1 q.2.1 q.2.2
theorem allPQ_use {f : Nat → Nat → Nat → Bool} (h : allPQ f = true) {p n c : Nat} (hm : (p, n, c) ∈ PQ) : f p n c = true := by
  unfold allPQ at h
  exact List.all_eq_true.mp h _ hm
theorem allPQ_of {f : Nat → Nat → Nat → Bool} (h0 : f 11 3 7 = true) (h1 : f 13 3 7 = true) (h2 : f 19 4 15 = true) (h3 : f 25 4 15 = true) (h4 : f 37 5 31 = true) (h5 : f 41 5 31 = true) (h6 : f 47 5 31 = true) (h7 : f 55 5 31 = true) (h8 : f 59 5 31 = true) (h9 : f 61 5 31 = true) : allPQ f = true := by
  show (f 11 3 7 && (f 13 3 7 && (f 19 4 15 && (f 25 4 15 && (f 37 5 31 && (f 41 5 31 && (f 47 5 31 && (f 55 5 31 && (f 59 5 31 && (f 61 5 31 && true)))))))))) = true
  rw [h0, h1, h2, h3, h4, h5, h6, h7, h8, h9]; rfl
theorem mem_allPQ {f : Nat → Nat → Nat → Bool} (h : ∀ p n c, (p, n, c) ∈ PQ → f p n c = true) : allPQ f = true := List.all_eq_true.mpr fun q hq => h q.1 q.2.1 q.2.2 hq
def chkR (p n c : Nat) : Bool := let rs := rots p n c; (List.range c).all fun s => let l := seqN p n c (s + 1); (List.range n).all fun j => rs.contains (ringN j l)
def chkB (p n c : Nat) : Bool := let rs := rots p n c; let ws := wrds p n
  (List.range (c - 1)).all fun t' => let q := plc p n c (t' + 1)
    rs.all fun R => let r := rotN c R (t' + 1)
      Nat.beq (pop c (Nat.land R r)) (2 ^ (n - 2)) && Nat.beq (Nat.xor R r) (rotN c R (c - q)) && Nat.beq (ws.foldl (fun a i => Nat.xor a (rotN c R (t' + 1 + n - i))) 0) 0
theorem chkR_all : allPQ chkR = true := by apply allPQ_of <;> decide +kernel
theorem chkB_all : allPQ chkB = true := by apply allPQ_of <;> decide +kernel
end Mine
end
section
namespace Mine
open Builtin.Int (intBits)
theorem nat_xor_add (a b : Nat) : (a ^^^ b) + 2 * (a &&& b) = a + b := by
  induction a using Nat.strongRecOn generalizing b with
  | ind a ih =>
    by_cases h : a = 0
    · subst h; simp
    · have e1 := ih (a / 2) (Nat.div_lt_self (by omega) (by decide)) (b / 2)
      have x1 : (a ^^^ b) / 2 = a / 2 ^^^ b / 2 := Nat.xor_div_two
      have x2 : (a &&& b) / 2 = a / 2 &&& b / 2 := Nat.and_div_two
      have x3 : (a ^^^ b) % 2 = (a % 2 + b % 2) % 2 := by
        have := Nat.xor_mod_two_pow (a := a) (b := b) (n := 1)
        rw [Nat.pow_one] at this
        rw [this]
        rcases Nat.mod_two_eq_zero_or_one a with h1 | h1 <;> rcases Nat.mod_two_eq_zero_or_one b with h2 | h2 <;> rw [h1, h2] <;> rfl
      have x4 : (a &&& b) % 2 = (a % 2) * (b % 2) := by
        have := Nat.and_mod_two_pow (a := a) (b := b) (n := 1)
        rw [Nat.pow_one] at this
        rw [this]
        rcases Nat.mod_two_eq_zero_or_one a with h1 | h1 <;> rcases Nat.mod_two_eq_zero_or_one b with h2 | h2 <;> rw [h1, h2] <;> rfl
      rcases Nat.mod_two_eq_zero_or_one a with h1 | h1 <;> rcases Nat.mod_two_eq_zero_or_one b with h2 | h2 <;> rw [h1, h2] at x3 x4 <;> omega
theorem and_nat (a b : Nat) : Builtin.bitAnd (a : Int) (b : Int) = ((a &&& b : Nat) : Int) := by
  rw [bitAnd_pp (Int.natCast_nonneg _) (Int.natCast_nonneg _)]; rfl
theorem xor_nat (a b : Nat) : Builtin.bitXor (a : Int) (b : Int) = ((a ^^^ b : Nat) : Int) := by
  show Builtin.bitOr _ _ - Builtin.bitAnd _ _ = _
  rw [bitOr_and, and_nat]
  have := nat_xor_add a b
  omega
def chkS (p n c : Nat) : Bool := (List.range (2 ^ n)).all fun x => decide (stp (p : Int) (n : Int) (x : Int) = ((nSt p n x : Nat) : Int)) && decide (nSt p n x < 2 ^ n)
theorem chkS_all : allPQ chkS = true := by decide +kernel
theorem itr_seq {p n c s : Nat} (h : (p, n, c) ∈ PQ) (hs : s < 2 ^ n) : ∀ k, (List.range k).map (itr (p : Int) (n : Int) (s : Int)) = (seqN p n k s).map (fun x : Nat => (x : Int)) := by
  have hc := allPQ_use chkS_all h
  intro k
  induction k generalizing s with
  | zero => rfl
  | succ k ih =>
    have hx := List.all_eq_true.mp hc s (List.mem_range.mpr hs)
    rw [Bool.and_eq_true, decide_eq_true_eq, decide_eq_true_eq] at hx
    have hi : ∀ k, itr (p : Int) (n : Int) (s : Int) (k + 1) = itr (p : Int) (n : Int) ((nSt p n s : Nat) : Int) k := by
      intro k
      induction k with
      | zero => rw [itr, itr, itr]; exact hx.1
      | succ k ih2 => rw [itr, ih2, itr]
    rw [List.range_succ_eq_map, List.map_cons, List.map_map, seqN, List.map_cons, ← ih hx.2]
    congr 1
    exact List.map_congr_left fun k _ => hi k
end Mine
end
section
namespace Mine
open Builtin.Int (intBits)
def bsum (b : Nat → Nat) : Nat → Nat
  | 0 => 0
  | k + 1 => bsum b k + b k * 2 ^ k
theorem bsum_lt {b : Nat → Nat} (h : ∀ i, b i ≤ 1) : ∀ k, bsum b k < 2 ^ k
  | 0 => by simp [bsum]
  | k + 1 => by
    have h1 := bsum_lt h k
    have h2 : b k * 2 ^ k ≤ 1 * 2 ^ k := Nat.mul_le_mul_right _ (h k)
    rw [bsum, Nat.pow_succ]; omega
theorem bsum_congr {b b' : Nat → Nat} : ∀ {k}, (∀ i, i < k → b i = b' i) → bsum b k = bsum b' k
  | 0, _ => rfl
  | k + 1, h => by rw [bsum, bsum, bsum_congr fun i hi => h i (by omega), h k (by omega)]
theorem bsum_mod {b : Nat → Nat} (h : ∀ i, b i ≤ 1) (k : Nat) : ∀ d, bsum b (k + d) % 2 ^ k = bsum b k
  | 0 => Nat.mod_eq_of_lt (bsum_lt h k)
  | d + 1 => by
    rw [← Nat.add_assoc, bsum, Nat.pow_add, ← Nat.mul_assoc, Nat.mul_right_comm, Nat.add_mul_mod_self_right, bsum_mod h k d]
theorem bsum_bit {b : Nat → Nat} (h : ∀ i, b i ≤ 1) {k i : Nat} (hi : i < k) : bsum b k / 2 ^ i % 2 = b i := by
  have h1 := bsum_mod h (i + 1) (k - (i + 1))
  rw [show i + 1 + (k - (i + 1)) = k by omega] at h1
  have h2 : bsum b k / 2 ^ i % 2 = bsum b k % 2 ^ (i + 1) / 2 ^ i := by
    rw [Nat.pow_succ, Nat.mod_mul_right_div_self]
  rw [h2, h1, bsum, Nat.mul_comm, Nat.add_mul_div_left _ _ (Nat.pow_pos (by decide)), Nat.div_eq_of_lt (bsum_lt h i), Nat.zero_add]
theorem bsum_shift (b : Nat → Nat) : ∀ k, 2 * bsum b k + b' = bsum (fun i => match i with | 0 => b' | i + 1 => b i) (k + 1)
  | 0 => by simp [bsum]
  | k + 1 => by
    have ih := bsum_shift (b' := b') b k
    rw [bsum, Nat.mul_add, Nat.add_right_comm, ih]
    show _ = bsum (fun i => match i with | 0 => b' | i + 1 => b i) (k + 1) + b k * 2 ^ (k + 1)
    rw [Nat.pow_succ, ← Nat.mul_assoc (b k), Nat.mul_comm (b k * 2 ^ k) 2]
theorem ringN_bsum (j : Nat) : ∀ l : List Nat, ringN j l = bsum (fun i => l.getD i 0 / 2 ^ j % 2) l.length
  | [] => rfl
  | x :: l => by
    rw [ringN, ringN_bsum j l, Nat.add_comm, bsum_shift]
    refine bsum_congr fun i hi => ?_
    cases i <;> rfl
theorem turn_one {c : Nat} {b : Nat → Nat} (h : ∀ i, b i ≤ 1) (hp : ∀ i, b (i + c) = b i) (hc : 1 < c) (hz : ∀ f : Nat → Nat, True) (a : Nat) :
    2 * bsum (fun k => b (k + (a + 1))) c = bsum (fun k => b (k + a)) c + b a * (2 ^ c - 1) := by
  have e1 := bsum_shift (b' := b a) (fun k => b (k + (a + 1))) c
  have e2 : bsum (fun i => match i with | 0 => b a | i + 1 => b (i + (a + 1))) (c + 1) = bsum (fun k => b (k + a)) (c + 1) :=
    bsum_congr fun i _ => by
      cases i with
      | zero => simp
      | succ i => show b (i + (a + 1)) = b (i + 1 + a); congr 1; omega
  rw [e2, bsum] at e1
  have e3 : b (c + a) = b a := by rw [Nat.add_comm]; exact hp a
  rw [e3] at e1
  have h2 : 1 ≤ 2 ^ c := Nat.one_le_two_pow
  rw [Nat.mul_sub, Nat.mul_one]
  have h3 : b a ≤ b a * 2 ^ c := Nat.le_mul_of_pos_right _ h2
  omega
end Mine
end
section
namespace Mine
open Builtin.Int (intBits)
def ringAt (b : Nat → Nat) (c a : Nat) : Nat := bsum (fun k => b (k + a)) c
theorem ringAt_lt {c : Nat} {b : Nat → Nat} (h : ∀ i, b i ≤ 1) (hp : ∀ i, b (i + c) = b i) (hc : 1 < c) (h0 : ringAt b c 0 < 2 ^ c - 1) : ∀ a, ringAt b c a < 2 ^ c - 1
  | 0 => h0
  | a + 1 => by
    have ih := ringAt_lt h hp hc h0 a
    have e : 2 * ringAt b c (a + 1) = ringAt b c a + b a * (2 ^ c - 1) := turn_one h hp hc (fun _ => trivial) a
    have h1 : b a * (2 ^ c - 1) ≤ 1 * (2 ^ c - 1) := Nat.mul_le_mul_right _ (h a)
    omega
theorem ringAt_turn {c : Nat} {b : Nat → Nat} (h : ∀ i, b i ≤ 1) (hp : ∀ i, b (i + c) = b i) (hc : 1 < c) (h0 : ringAt b c 0 < 2 ^ c - 1) (a : Nat) : ∀ t, ringAt b c (a + t) * 2 ^ t % (2 ^ c - 1) = ringAt b c a
  | 0 => by rw [Nat.pow_zero, Nat.mul_one]; exact Nat.mod_eq_of_lt (ringAt_lt h hp hc h0 a)
  | t + 1 => by
    have ih := ringAt_turn h hp hc h0 a t
    have e : 2 * ringAt b c (a + t + 1) = ringAt b c (a + t) + b (a + t) * (2 ^ c - 1) := turn_one h hp hc (fun _ => trivial) (a + t)
    rw [← Nat.add_assoc, Nat.pow_succ, Nat.mul_comm (2 ^ t) 2, ← Nat.mul_assoc, Nat.mul_comm (ringAt b c (a + t + 1)) 2, e, Nat.add_mul, Nat.mul_right_comm, Nat.add_mul_mod_self_right]
    exact ih
theorem ringAt_period {c : Nat} {b : Nat → Nat} (hp : ∀ i, b (i + c) = b i) (a : Nat) : ∀ m, ringAt b c (a + c * m) = ringAt b c a
  | 0 => rfl
  | m + 1 => by
    rw [← ringAt_period hp a m]
    refine bsum_congr fun k _ => ?_
    rw [Nat.mul_succ, show k + (a + (c * m + c)) = k + (a + c * m) + c by omega, hp]
end Mine
end
section
open PySem.Builtin.Str
namespace Mine
def cp : Nat → List Nat → List Nat
  | _, [] => []
  | a, ch :: l => if ch = 44 then a :: cp (a + 1) l else cp (a + 1) l
def GoodC : List Nat → Prop
  | [] => True
  | ch :: l => (ch = 44 → ∃ r, l = 32 :: r) ∧ GoodC l
theorem subAt_cons {x y : Str} {a : Nat} {ch : Nat} {l : List Nat} (h : x.cps.toList.drop a = ch :: l) (hy : y.cps.toList = [44, 32]) : subAt x y a = ((ch :: l).take 2 == [44, 32]) := by
  rw [StrLaws.subAt_eq, h, hy]
  rw [show y.length = 2 by show y.cps.size = 2; rw [← Array.length_toList, hy]; rfl]
theorem scan {x y : Str} {limit : Nat} (hy : y.cps.toList = [44, 32]) : ∀ (l : List Nat) (a : Nat) (F : Array Nat) (f : Nat), x.cps.toList.drop a = l → a + l.length = x.length → GoodC l → F.size + l.length < limit → (f ≤ a ∨ (f = a + 1 ∧ ∀ r, l ≠ 44 :: r)) →
    (forIn (List.range' a (l.length + 1)) (F, f) (StrLaws.occBody x y x.length limit)).run.fst.toList = F.toList ++ cp a l
  | [], a, F, f, hd, hl, hg, hz, hf => by
    have hy2 : y.length = 2 := by show y.cps.size = 2; rw [← Array.length_toList, hy]; rfl
    simp only [List.length_nil, Nat.zero_add, List.range'_one, List.forIn_cons, List.forIn_nil]
    unfold StrLaws.occBody
    rw [if_neg (by intro h; have := h.1.2; rw [hy2] at this; simp at hl; omega)]
    simp [cp]
  | ch :: l, a, F, f, hd, hl, hg, hz, hf => by
    have hy2 : y.length = 2 := by show y.cps.size = 2; rw [← Array.length_toList, hy]; rfl
    have hd' : x.cps.toList.drop (a + 1) = l := by rw [← List.drop_drop, hd]; rfl
    rw [List.length_cons, List.range'_succ, List.forIn_cons]
    unfold StrLaws.occBody
    simp only [List.length_cons] at hl hz
    by_cases hc : ch = 44
    · subst hc
      obtain ⟨r, hr⟩ := hg.1 rfl
      have hfa : f ≤ a := by
        rcases hf with h | ⟨_, h⟩
        · exact h
        · exact absurd rfl (h _)
      have h1 : 1 ≤ l.length := by rw [hr]; simp
      rw [if_pos ⟨⟨⟨by show F.size < limit; omega, hfa⟩, by rw [hy2]; omega⟩, by rw [subAt_cons hd hy, hr]; rfl⟩]
      have ih := scan (limit := limit) hy l (a + 1) (F.push a) (a + y.length) hd' (by omega) hg.2 (by rw [Array.size_push]; omega) (.inr ⟨by rw [hy2], fun q e => by rw [hr] at e; cases e⟩)
      simp only [pure_bind]
      refine ih.trans ?_
      simp [cp, Array.toList_push]
    · have hs : subAt x y a = false := by
        rw [subAt_cons hd hy]
        cases l with
        | nil => simp
        | cons b l => simp [hc]
      rw [if_neg (by intro h; rw [hs] at h; cases h.2)]
      have ih := scan (limit := limit) hy l (a + 1) F f hd' (by omega) hg.2 (by omega) (by rcases hf with h | ⟨h, _⟩ <;> exact .inl (by omega))
      simp only [pure_bind]
      refine ih.trans ?_
      rw [cp, if_neg hc]
end Mine
namespace Mine
def join2 : List (List Nat) → List Nat
  | [] => []
  | [w] => w
  | w :: v :: r => w ++ 44 :: 32 :: join2 (v :: r)
theorem cp_app : ∀ (w : List Nat) (a : Nat) (l : List Nat), 44 ∉ w → cp a (w ++ l) = cp (a + w.length) l
  | [], a, l, _ => rfl
  | ch :: w, a, l, h => by
    rw [List.cons_append, cp, if_neg (fun e => h (by rw [e]; exact .head _)), cp_app w (a + 1) l (fun m => h (.tail _ m)), List.length_cons]
    congr 1; omega
theorem good_app : ∀ (w l : List Nat), 44 ∉ w → GoodC l → GoodC (w ++ l)
  | [], l, _, h => h
  | ch :: w, l, h, g => ⟨fun e => absurd (by rw [e]; exact .head _) h, good_app w l (fun m => h (.tail _ m)) g⟩
theorem good_join : ∀ ws : List (List Nat), (∀ w ∈ ws, 44 ∉ w) → GoodC (join2 ws)
  | [], _ => trivial
  | [w], h => by
    have := good_app w [] (h w (.head _)) trivial
    rwa [List.append_nil] at this
  | w :: v :: r, h => good_app w _ (h w (.head _)) ⟨fun _ => ⟨_, rfl⟩, fun e => absurd e (by decide), good_join (v :: r) fun u hu => h u (.tail _ hu)⟩
theorem cp_none (w : List Nat) (a : Nat) (h : 44 ∉ w) : cp a w = [] := by
  have := cp_app w a [] h
  rwa [List.append_nil] at this
theorem sub_word {x : Str} {a : Nat} {w l : List Nat} (h : x.cps.toList.drop a = w ++ l) : (strSub x a (a + w.length)).cps.toList = w := by
  rw [StrLaws.strSub_toList, h, Nat.add_sub_cancel_left, List.take_left']
  rfl
theorem parts_join {x : Str} : ∀ (w : Str) (ws : List Str) (a : Nat), (∀ v ∈ w :: ws, 44 ∉ v.cps.toList) → x.cps.toList.drop a = join2 ((w :: ws).map fun v => v.cps.toList) → a ≤ x.length →
    StrLaws.partsFrom x 2 a (cp a (join2 ((w :: ws).map fun v => v.cps.toList))) = w :: ws
  | w, [], a, h, hd, ha => by
    show StrLaws.partsFrom x 2 a (cp a w.cps.toList) = _
    rw [cp_none _ _ (h w (.head _)), StrLaws.partsFrom]
    congr 1
    apply Str.ext'
    apply Array.toList_inj.mp
    rw [StrLaws.strSub_toList, hd]
    show w.cps.toList.take _ = _
    have hl : (x.cps.toList.drop a).length = w.cps.toList.length := by rw [hd]; rfl
    rw [List.length_drop] at hl
    exact List.take_of_length_le (by show _ ≤ x.cps.size - a; rw [← Array.length_toList]; omega)
  | w, v :: r, a, h, hd, ha => by
    have hd2 : x.cps.toList.drop a = w.cps.toList ++ (44 :: 32 :: join2 ((v :: r).map fun v => v.cps.toList)) := hd
    show StrLaws.partsFrom x 2 a (cp a (w.cps.toList ++ 44 :: 32 :: join2 ((v :: r).map fun v => v.cps.toList))) = _
    rw [cp_app _ _ _ (h w (.head _)), cp, if_pos rfl, cp, if_neg (by decide), StrLaws.partsFrom]
    have hl : (x.cps.toList.drop a).length = w.cps.toList.length + (2 + (join2 ((v :: r).map fun v => v.cps.toList)).length) := by rw [hd2]; simp; omega
    rw [List.length_drop] at hl
    have hs : x.cps.toList.length = x.length := rfl
    have ih := parts_join (x := x) v r (a + w.cps.toList.length + 2) (fun u hu => h u (.tail _ hu)) (by
      rw [show a + w.cps.toList.length + 2 = a + (w.cps.toList.length + 2) by omega, ← List.drop_drop, hd2, ← List.drop_drop, List.drop_left']
      · rfl
      · rfl) (by omega)
    congr 1
    apply Str.ext'
    apply Array.toList_inj.mp
    exact sub_word hd2
end Mine
namespace Mine
theorem sep_cps : (Str.ofString ", ").cps.toList = [44, 32] := by decide +kernel
theorem join_cps : ∀ ws : List Str, (Str.join (Str.ofString ", ") ws).cps.toList = join2 (ws.map fun v => v.cps.toList)
  | [] => rfl
  | [w] => rfl
  | w :: v :: r => by
    show (w ++ Str.ofString ", " ++ Str.join (Str.ofString ", ") (v :: r)).cps.toList = _
    simp only [Str.cps_append, Array.toList_append, sep_cps, join_cps (v :: r)]
    show _ = w.cps.toList ++ 44 :: 32 :: join2 ((v :: r).map fun v => v.cps.toList)
    simp
theorem cp_len : ∀ (l : List Nat) (a : Nat), GoodC l → l.length < 2 → cp a l = []
  | [], _, _, _ => rfl
  | [ch], a, g, _ => by
    by_cases h : ch = 44
    · obtain ⟨r, e⟩ := g.1 h; cases e
    · rw [cp, if_neg h]; rfl
  | _ :: _ :: _, _, _, h => by simp only [List.length_cons] at h; omega
theorem split_join {w : Str} {ws : List Str} (hc : ∀ v ∈ w :: ws, 44 ∉ v.cps.toList) : Txt.split (Txt.join (Str.ofString ", ") (w :: ws)) (Str.ofString ", ") = w :: ws := by
  have e : Txt.join (Str.ofString ", ") (w :: ws) = Str.join (Str.ofString ", ") (w :: ws) := StrLaws.glued_eq_join _ _
  rw [e]
  have hX := join_cps (w :: ws)
  generalize Str.join (Str.ofString ", ") (w :: ws) = x at hX
  have hl : x.cps.toList.length = x.length := rfl
  have hg : GoodC x.cps.toList := by
    rw [hX]; exact good_join _ (by intro u hu; obtain ⟨v, hv, rfl⟩ := List.mem_map.mp hu; exact hc v hv)
  have hp := parts_join (x := x) w ws 0 hc (by rw [List.drop_zero]; exact hX) (Nat.zero_le _)
  rw [← hX] at hp
  have ho : occurrences x (Str.ofString ", ") 0 x.length (x.length + 1) = cp 0 x.cps.toList := by
    rw [StrLaws.occ_eq, show x.length + 1 - 0 = x.cps.toList.length + 1 by rw [hl]; rfl]
    have := scan (x := x) (limit := x.length + 1) sep_cps x.cps.toList 0 #[] 0 (List.drop_zero) (by rw [hl]; omega) hg (by rw [hl]; show 0 + x.length < x.length + 1; omega) (.inl (Nat.le_refl _))
    simpa using this
  have h0 : cp 0 x.cps.toList = [] → [x] = w :: ws := fun h => by
    rw [h, StrLaws.partsFrom, StrLaws.sub_whole] at hp; exact hp
  unfold Txt.split
  split
  · rename_i h1
    refine h0 (cp_len _ _ hg ?_)
    rw [Bool.or_eq_true, decide_eq_true_eq, decide_eq_true_eq] at h1
    rcases h1 with h | h
    · rw [hl]; rwa [sep2_len] at h
    · exfalso
      have hk : Builtin.Str.strKind (Str.ofString ", ") = 1 := by decide +kernel
      rw [hk] at h
      unfold Builtin.Str.strKind at h
      split at h
      · omega
      · split at h <;> omega
  · split
    · rename_i h1 h2
      rw [ho] at h2
      exact h0 (List.isEmpty_iff.mp h2)
    · rw [StrLaws.partsBetween_eq, ho, sep2_len]; exact hp
end Mine
end
section
namespace Mine
open Builtin.Int (intBits)
theorem pop_top : ∀ (k x : Nat), pop (k + 1) x = pop k x + x / 2 ^ k % 2
  | 0, x => by simp [pop]
  | k + 1, x => by
    rw [pop, pop_top k (x / 2), pop, Nat.div_div_eq_div_mul, Nat.pow_succ, Nat.mul_comm 2 (2 ^ k)]; omega
theorem int_bit (F k : Nat) : ((F : Int) / 2 ^ k % 2 = 1) ↔ F / 2 ^ k % 2 = 1 := by
  have e : (F : Int) / 2 ^ k % 2 = ((F / 2 ^ k % 2 : Nat) : Int) := by simp
  rw [e]; omega
theorem pfL_pop (D : List (Int × PyData)) (F : Nat) : ∀ k, (pfL D (F : Int) k).length = pop k F
  | 0 => rfl
  | k + 1 => by
    rw [pfL, List.length_append, pfL_pop D F k, pop_top]
    by_cases h : F / 2 ^ k % 2 = 1
    · rw [if_pos ((int_bit F k).mpr h), h]; rfl
    · rw [if_neg (fun q => h ((int_bit F k).mp q))]
      have : F / 2 ^ k % 2 = 0 := by omega
      rw [this]; rfl
theorem pfWord_nc : ∀ i : Fin 32, 44 ∉ (pfWord PFT i.val).cps.toList := by decide +kernel
theorem pfL_nc (F : Int) : ∀ k, k ≤ 32 → ∀ v ∈ pfL PFT F k, 44 ∉ v.cps.toList
  | 0, _, v, h => by cases h
  | k + 1, hk, v, h => by
    rw [pfL] at h
    rcases List.mem_append.mp h with h | h
    · exact pfL_nc F k (by omega) v h
    · split at h
      · rw [List.mem_singleton.mp h]; exact pfWord_nc ⟨k, by omega⟩
      · cases h
theorem pfW_low {F : Nat} (h0 : F ≠ 0) (h1 : F < 2 ^ 32) : pfW PFT (F : Int) = pfL PFT (F : Int) 32 := by
  have e : (F : Int) / 2 ^ 32 = 0 := Int.ediv_eq_zero_of_lt (Int.natCast_nonneg _) (by exact_mod_cast h1)
  rw [pfW, if_pos ⟨by rw [e]; rfl, by omega⟩]
theorem split_pf {F : Nat} (h0 : F ≠ 0) (h1 : F < 2 ^ 32) (hp : 0 < pop 32 F) : Txt.split (Txt.join (Str.ofString ", ") (pfW PFT (F : Int))) (Str.ofString ", ") = pfL PFT (F : Int) 32 := by
  rw [pfW_low h0 h1]
  have hl := pfL_pop PFT F 32
  have hn := pfL_nc (F : Int) 32 (Nat.le_refl _)
  generalize pfL PFT (F : Int) 32 = ws at hl hn
  cases ws with
  | nil => simp at hl; omega
  | cons w r => exact split_join hn
theorem wl_pop {F : Nat} (h0 : F ≠ 0) (h1 : F < 2 ^ 32) (hp : 0 < pop 32 F) : wl (F : Int) = pop 32 F := by
  rw [wl, split_pf h0 h1 hp, pfL_pop]
end Mine
end
section
set_option maxRecDepth 100000
namespace Mine
open Builtin.Int (intBits)
def chkP (p n c : Nat) : Bool := (rots p n c).all fun R => Nat.beq (pop 32 R) (2 ^ (n - 1)) && (List.range 8).any fun i => Nat.beq (R / 2 ^ ((32 + i) % c) % 2) 1
theorem chkP_all : allPQ chkP = true := by decide +kernel
def itN (p n : Nat) : Nat → Nat → Nat
  | 0, s => s
  | k + 1, s => itN p n k (nSt p n s)
theorem getM_at {l : List Nat} {q : Nat} (h : q < l.length) : l.getD q 0 = l[q] := by rw [List.getD_eq_getElem?_getD, List.getElem?_eq_getElem h]; rfl
section
variable {p n c : Nat}
theorem seqM_len : ∀ k s, (seqN p n k s).length = k
  | 0, _ => rfl
  | k + 1, s => congrArg (· + 1) (seqM_len k _)
theorem seqM_get : ∀ k s i, i < k → (seqN p n k s).getD i 0 = itN p n i s
  | 0, _, _, h => absurd h (Nat.not_lt_zero _)
  | k + 1, s, 0, _ => rfl
  | k + 1, s, i + 1, h => seqM_get k (nSt p n s) i (Nat.lt_of_succ_lt_succ h)
theorem itN_add (i : Nat) : ∀ j s, itN p n (i + j) s = itN p n i (itN p n j s)
  | 0, _ => rfl
  | j + 1, s => itN_add i j (nSt p n s)
theorem itN_comm (i j s : Nat) : itN p n i (itN p n j s) = itN p n j (itN p n i s) := by rw [← itN_add, ← itN_add, Nat.add_comm]
theorem seqM_snoc : ∀ k s, seqN p n (k + 1) s = seqN p n k s ++ [itN p n k s]
  | 0, _ => rfl
  | k + 1, s => congrArg (s :: ·) (seqM_snoc k (nSt p n s))
theorem seqM_turn {s : Nat} (h : itN p n c s = s) : (seqN p n c (nSt p n s)).Perm (seqN p n c s) := by
  cases c with
  | zero => exact .refl _
  | succ k =>
    rw [seqM_snoc, show itN p n k (nSt p n s) = s from h]
    exact List.perm_append_singleton s _
theorem seqM_turns {s : Nat} (h : itN p n c s = s) : ∀ i, (seqN p n c (itN p n i s)).Perm (seqN p n c s)
  | 0 => .refl _
  | i + 1 => by
    have e : itN p n (i + 1) s = nSt p n (itN p n i s) := by rw [Nat.add_comm, itN_add]; rfl
    rw [e]
    exact (seqM_turn (by rw [itN_comm, h])).trans (seqM_turns h i)
theorem idxM_get : ∀ {l : List Nat} {q : Nat}, l.Nodup → q < l.length → idx (l.getD q 0) l = q
  | [], _, _, h => absurd h (Nat.not_lt_zero _)
  | x :: l, 0, _, _ => by show cond (Nat.beq x x) 0 _ = 0; rw [Nat.beq_refl]; rfl
  | x :: l, q + 1, hd, h => by
    have hq := Nat.lt_of_succ_lt_succ h
    have hm : l.getD q 0 ∈ l := by rw [getM_at hq]; exact List.getElem_mem hq
    have hne : Nat.beq x (l.getD q 0) = false := by
      cases e : Nat.beq x (l.getD q 0) with
      | false => rfl
      | true => exact absurd (Nat.eq_of_beq_eq_true e ▸ hm) (List.nodup_cons.mp hd).1
    show cond (Nat.beq x (l.getD q 0)) 0 (idx (l.getD q 0) l + 1) = q + 1
    rw [hne, idxM_get (List.nodup_cons.mp hd).2 hq]; rfl
theorem idxM_spec {a : Nat} : ∀ {l : List Nat}, idx a l < l.length → l.getD (idx a l) 0 = a
  | [], h => absurd h (Nat.not_lt_zero _)
  | x :: l, h => by
    have e1 : idx a (x :: l) = cond (Nat.beq x a) 0 (idx a l + 1) := rfl
    rw [e1] at h ⊢
    cases e : Nat.beq x a with
    | true => exact Nat.eq_of_beq_eq_true e
    | false => rw [e] at h; exact idxM_spec (Nat.lt_of_succ_lt_succ h)
theorem itN_xor (hX : ∀ x y, x < 2 ^ n → y < 2 ^ n → nSt p n (Nat.xor x y) = Nat.xor (nSt p n x) (nSt p n y)) (hB : ∀ x, x < 2 ^ n → nSt p n x < 2 ^ n) :
    ∀ k x y, x < 2 ^ n → y < 2 ^ n → itN p n k (Nat.xor x y) = Nat.xor (itN p n k x) (itN p n k y)
  | 0, _, _, _, _ => rfl
  | k + 1, x, y, hx, hy => by
    show itN p n k (nSt p n _) = _
    rw [hX x y hx hy]
    exact itN_xor hX hB k _ _ (hB x hx) (hB y hy)
theorem itN_lt (hB : ∀ x, x < 2 ^ n → nSt p n x < 2 ^ n) : ∀ k x, x < 2 ^ n → itN p n k x < 2 ^ n
  | 0, _, h => h
  | k + 1, x, h => itN_lt hB k _ (hB x h)
end
def chkM (p n c : Nat) : Bool := (List.range c).all fun s => let l := seqN p n c (s + 1)
  Nat.beq ((seqN p n (c + 1) (s + 1)).getD c 0) (s + 1) && (l.isPerm ((List.range c).map (· + 1))) && (List.range (c - 1)).all fun t' => Nat.beq (idx (Nat.xor (s + 1) (l.getD (c - (t' + 1)) 0)) l) (plc p n c (t' + 1))
def chkV (p n c : Nat) : Bool := Nat.beq ((seqN p n (c + 1) 1).getD c 0) 1 && (seqN p n c 1).isPerm ((List.range c).map (· + 1)) && Nat.blt 1 (2 ^ n) && Nat.blt 1 c
def chkY (p n c : Nat) : Bool := (List.range (c - 1)).all fun t' => Nat.blt (plc p n c (t' + 1)) c
def chkX (p n _c : Nat) : Bool := (List.range (2 ^ n)).all fun x => Nat.blt (nSt p n x) (2 ^ n) && (List.range (2 ^ n)).all fun y => Nat.beq (nSt p n (Nat.xor x y)) (Nat.xor (nSt p n x) (nSt p n y))
theorem chkV_all : allPQ chkV = true := by apply allPQ_of <;> decide +kernel
theorem chkY_all : allPQ chkY = true := by apply allPQ_of <;> decide +kernel
theorem chkX_all : allPQ chkX = true := by apply allPQ_of <;> decide +kernel
theorem chkM_of {p n c : Nat} (hV : chkV p n c = true) (hY : chkY p n c = true) (hX : chkX p n c = true) : chkM p n c = true := by
  unfold chkV at hV
  rw [Bool.and_eq_true, Bool.and_eq_true, Bool.and_eq_true] at hV
  obtain ⟨⟨⟨v1, v2⟩, v3⟩, _⟩ := hV
  have v1 : itN p n c 1 = 1 := by rw [← seqM_get (c + 1) 1 c (Nat.lt_succ_self _)]; exact Nat.eq_of_beq_eq_true v1
  have v2 := List.isPerm_iff.mp v2
  have v3 : 1 < 2 ^ n := Nat.le_of_ble_eq_true v3
  have hX' := fun x (hx : x < 2 ^ n) => (Bool.and_eq_true _ _).mp (List.all_eq_true.mp hX x (List.mem_range.mpr hx))
  have hB : ∀ x, x < 2 ^ n → nSt p n x < 2 ^ n := fun x hx => Nat.le_of_ble_eq_true (hX' x hx).1
  have hL : ∀ x y, x < 2 ^ n → y < 2 ^ n → nSt p n (Nat.xor x y) = Nat.xor (nSt p n x) (nSt p n y) := fun x y hx hy =>
    Nat.eq_of_beq_eq_true (List.all_eq_true.mp (hX' x hx).2 y (List.mem_range.mpr hy))
  have nd : ((List.range c).map (· + 1)).Nodup := List.pairwise_map.mpr ((List.nodup_range (n := c)).imp fun h e => h (Nat.succ.inj e))
  refine List.all_eq_true.mpr fun s hs => ?_
  have hs := List.mem_range.mp hs
  have hm : s + 1 ∈ seqN p n c 1 := v2.mem_iff.mpr (List.mem_map.mpr ⟨s, List.mem_range.mpr hs, rfl⟩)
  obtain ⟨i, hi, e⟩ := List.mem_iff_getElem.mp hm
  have hic : i < c := by rw [seqM_len] at hi; exact hi
  have e : itN p n i 1 = s + 1 := by rw [← seqM_get c 1 i hic, getM_at hi]; exact e
  have pm := seqM_turns (c := c) v1 i
  rw [e] at pm
  have hN : (seqN p n c (s + 1)).Nodup := (pm.trans v2).nodup_iff.mpr nd
  show (_ && _ && _) = true
  rw [Bool.and_eq_true, Bool.and_eq_true]
  refine ⟨⟨?_, List.isPerm_iff.mpr (pm.trans v2)⟩, List.all_eq_true.mpr fun t' ht => ?_⟩
  · rw [seqM_get (c + 1) _ c (Nat.lt_succ_self _), ← e, itN_comm, v1]; exact Nat.beq_refl _
  · have ht := List.mem_range.mp ht
    have hq : plc p n c (t' + 1) < c := Nat.le_of_ble_eq_true (List.all_eq_true.mp hY t' (List.mem_range.mpr ht))
    have hct : c - (t' + 1) < c := by omega
    have hp : plc p n c (t' + 1) = idx (Nat.xor 1 ((seqN p n c 1).getD (c - (t' + 1)) 0)) (seqN p n c 1) := rfl
    rw [hp] at hq ⊢
    have h1 := idxM_spec (l := seqN p n c 1) (by rw [seqM_len]; exact hq)
    generalize idx (Nat.xor 1 ((seqN p n c 1).getD (c - (t' + 1)) 0)) (seqN p n c 1) = q at hq h1 ⊢
    rw [seqM_get c 1 q hq, seqM_get c 1 _ hct] at h1
    have h2 : Nat.xor (s + 1) ((seqN p n c (s + 1)).getD (c - (t' + 1)) 0) = (seqN p n c (s + 1)).getD q 0 := by
      rw [seqM_get c _ q hq, seqM_get c _ _ hct, ← e, itN_comm, itN_comm q, h1, itN_xor hL hB i 1 _ v3 (itN_lt hB _ 1 v3)]
    rw [h2, idxM_get hN (by rw [seqM_len]; exact hq)]; exact Nat.beq_refl _
theorem chkV_c {p n c : Nat} (hV : chkV p n c = true) : 1 < c := by
  unfold chkV at hV
  rw [Bool.and_eq_true] at hV
  exact Nat.le_of_ble_eq_true hV.2
theorem chkM_all : allPQ chkM = true := mem_allPQ fun _ _ _ h => chkM_of (allPQ_use chkV_all h) (allPQ_use chkY_all h) (allPQ_use chkX_all h)
def secN (c R : Nat) : List Nat := (List.range c).map fun k => R / 2 ^ (2 * k % c) % 2
def begN (n c R : Nat) : List Nat := (List.range c).filter fun k => (List.range n).all fun j => Nat.beq (R / 2 ^ ((k + j) % c) % 2) (R / 2 ^ (2 * j % c) % 2)
def chkZ (p n c : Nat) : Bool := (rots p n c).all fun R => match begN n c R with
  | [] => false
  | b :: _ => Nat.ble b c && Nat.beq (rotN c R (c - b)) (ringN 0 (secN c R))
theorem chkZ_all : allPQ chkZ = true := by decide +kernel
end Mine
end
section
namespace Mine
open Builtin.Int (intBits)
theorem bsum_self (R : Nat) : ∀ k, bsum (fun i => R / 2 ^ i % 2) k = R % 2 ^ k
  | 0 => by simp [bsum, Nat.mod_one]
  | k + 1 => by rw [bsum, bsum_self R k, Nat.mod_pow_succ, Nat.mul_comm]
def bitR (c R i : Nat) : Nat := R / 2 ^ (i % c) % 2
theorem bitR_le (c R i : Nat) : bitR c R i ≤ 1 := by unfold bitR; omega
theorem bitR_per (c R i : Nat) : bitR c R (i + c) = bitR c R i := by unfold bitR; rw [Nat.add_mod_right]
theorem ring_zero {c R : Nat} (h : R < 2 ^ c) : ringAt (bitR c R) c 0 = R := by
  have e : ringAt (bitR c R) c 0 = bsum (fun i => R / 2 ^ i % 2) c := bsum_congr fun i hi => by
    show R / 2 ^ ((i + 0) % c) % 2 = _
    rw [Nat.add_zero, Nat.mod_eq_of_lt hi]
  rw [e, bsum_self, Nat.mod_eq_of_lt h]
theorem ring_turned {c R a T m : Nat} (hc : 1 < c) (h : R < 2 ^ c - 1) (he : a + T = c * m) : R * 2 ^ T % (2 ^ c - 1) = ringAt (bitR c R) c a := by
  have h0 : ringAt (bitR c R) c 0 = R := ring_zero (by omega)
  have h1 := ringAt_turn (b := bitR c R) (bitR_le c R) (bitR_per c R) hc (by rw [h0]; exact h) a T
  have h2 := ringAt_period (b := bitR c R) (bitR_per c R) 0 m
  rw [he, ← Nat.zero_add (c * m), h2, h0] at h1
  exact h1
end Mine
end
section
namespace Mine
open Builtin.Int (intBits)
theorem sum_bsum {b : Nat → Nat} {f : Nat → Int} : ∀ k, (∀ i, i < k → f i = ((b i : Nat) : Int) * (2 : Int) ^ i) → ((List.range k).map f).sum = ((bsum b k : Nat) : Int)
  | 0, _ => rfl
  | k + 1, h => by
    rw [List.range_succ, List.map_append, List.sum_append, sum_bsum k fun i hi => h i (by omega), bsum, List.map_singleton, List.sum_singleton, h k (by omega)]
    simp
theorem getD_map_int {l : List Nat} {i : Nat} : (l.map fun x : Nat => (x : Int)).getD i 0 = ((l.getD i 0 : Nat) : Int) := by
  simp only [List.getD_eq_getElem?_getD, List.getElem?_map]
  cases l[i]? <;> rfl
end Mine
namespace Mine
theorem ringN_bit (j : Nat) (l : List Nat) {i : Nat} (hi : i < l.length) : ringN j l / 2 ^ i % 2 = l.getD i 0 / 2 ^ j % 2 := by
  rw [ringN_bsum]
  exact bsum_bit (b := fun i => l.getD i 0 / 2 ^ j % 2) (fun i => by show _ % 2 ≤ 1; omega) hi
theorem marks_bit (j : Nat) (l : List Nat) {i : Nat} (hi : i < l.length) : (((l.map fun x : Nat => (x : Int)).map fun x : Int => x / (2 : Int) ^ j % 2)).getD i 0 = ((bitR l.length (ringN j l) i : Nat) : Int) := by
  have e : ((l.map fun x : Nat => (x : Int)).map fun x : Int => x / (2 : Int) ^ j % 2) = (l.map fun x : Nat => x / 2 ^ j % 2).map fun x : Nat => (x : Int) := by
    rw [List.map_map, List.map_map]
    exact List.map_congr_left fun x _ => by simp
  rw [e, getD_map_int, bitR, Nat.mod_eq_of_lt hi, ringN_bit j l hi]
  congr 1
  simp only [List.getD_eq_getElem?_getD, List.getElem?_map, List.getElem?_eq_getElem hi]
  rfl
end Mine
end
section
namespace Mine
open Builtin.Int (intBits)
theorem fmod_nat {a c : Nat} : ((a : Int)).fmod (c : Int) = ((a % c : Nat) : Int) := by
  rw [Int.fmod_eq_emod_of_nonneg _ (Int.natCast_nonneg _)]; rfl
theorem keepF_pfL {F : Nat} {g : Nat → Bool} {f : Nat → Str} : ∀ k, (∀ i, i < k → (g i = true ↔ F / 2 ^ i % 2 = 1) ∧ f i = pfWord PFT i) → keepF g f k = pfL PFT (F : Int) k
  | 0, _ => rfl
  | k + 1, h => by
    obtain ⟨h1, h2⟩ := h k (by omega)
    rw [keepF, pfL, keepF_pfL k fun i hi => h i (by omega), h2]
    congr 1
    by_cases q : F / 2 ^ k % 2 = 1
    · rw [if_pos (h1.mpr q), if_pos ((int_bit F k).mpr q)]
    · rw [if_neg (fun e => q (h1.mp e)), if_neg (fun e => q ((int_bit F k).mp e))]
end Mine
namespace Mine
theorem pfW_high {F : Nat} (h : 2 ^ 32 ≤ F) : pfW PFT (F : Int) = pfL PFT (F : Int) 32 ++ [baseText "0x" 16 ((F : Int) - (F : Int).fmod (2 ^ Int.toNat 32))] := by
  have e0 : (2 : Int) ^ Int.toNat 32 = 4294967296 := by decide
  have e1 : (2 : Int) ^ 32 = 4294967296 := by decide
  have e2 : ((F : Int)).fmod 4294967296 = (F : Int) % 4294967296 := Int.fmod_eq_emod_of_nonneg _ (by decide)
  rw [pfW, e0, e1, e2, if_neg (by rw [show (2 : Nat) ^ 32 = 4294967296 by decide] at h; intro q; have := q.1; omega)]
  congr 3
  omega
end Mine
namespace Mine
theorem idx_find {a : Nat} : ∀ {l : List Nat}, idx a l < l.length → (l.map fun x : Nat => (x : Int)).findIdx? (· == (a : Int)) = some (idx a l)
  | [], h => by simp [idx] at h
  | x :: l, h => by
    rw [List.map_cons, List.findIdx?_cons]
    cases e : Nat.beq x a with
    | true =>
      have := Nat.eq_of_beq_eq_true e
      subst this
      simp [idx, e]
    | false =>
      have hne := Nat.ne_of_beq_eq_false e
      have hx : (((x : Nat) : Int) == (a : Int)) = false := by
        rw [beq_eq_false_iff_ne]; omega
      rw [idx, e] at h ⊢
      simp only [cond_false, List.length_cons] at h ⊢
      rw [hx, idx_find (l := l) (by omega)]
      rfl
end Mine
end
section
set_option maxRecDepth 100000
namespace Mine
open Builtin.Int (intBits)

theorem pr_mem {p : Int} (h : p = [11, 13, 19, 25, 37, 41, 47, 55, 59, 61].getD 0 0) : True := trivial
def PR : List Int := [11, 13, 19, 25, 37, 41, 47, 55, 59, 61]
theorem pr_get {x : Int} (h0 : 0 ≤ x) (h1 : x < 10) : PR.getD x.toNat 0 ∈ PR := by
  have h : x.toNat < PR.length := by show x.toNat < 10; omega
  rw [List.getD_eq_getElem?_getD, List.getElem?_eq_getElem h]; exact List.getElem_mem _
set_option maxHeartbeats 4000000 in
theorem segA {w : World} {loose : List Str} {mean : ExcName → Option Value} {mg mb : Str → Option Value} {fa : Addr} {cd : Value} {base h₀ : Heap} {L : Addr} {m : Str → Option Value} {s : Shared} {E : Value → Shared → Prop} {Q : Flow → Shared → Prop} {sc : Scope} {bd : List Stmt} {st0 st1 st2 : Stmt} (hsc : sc = lawScope) (hbd : lawBody.drop 0 = st0 :: st1 :: st2 :: bd) {S : Addr} {svs : List Value} {ns : List Int} {o1 o2 o3 o4 o5 o6 o7 : Obj}
   (B : Below callerA base [] h₀) (F : Fr h₀ L s.heap m) (X : (hd.heap_39 w.params).In h₀) (N : News h₀ L s.heap ((L + 1 + 1 + 1 + 1 + 1 + 1 + 1, o7) :: (L + 1 + 1 + 1 + 1 + 1 + 1, o6) :: (L + 1 + 1 + 1 + 1 + 1, o5) :: (L + 1 + 1 + 1 + 1, o4) :: (L + 1 + 1 + 1, o3) :: (L + 1 + 1, o2) :: (L + 1, o1) :: (37, tabObj #[]) :: (30, tabObj #[]) :: [])) (T : Top topProg loose mean mg mb h₀) (qS : m (Str.ofString "script") = some (.ref S)) (d1 : o1.data = .cell none) (d2 : o2.data = .cell none) (d3 : o3.data = .cell none) (d4 : o4.data = .cell none) (d5 : o5.data = .cell none) (d6 : o6.data = .cell none) (d7 : o7.data = .cell none) (g4 : @LT.lt Nat _ 37 L)
   (hS : h₀.IsList S svs.toArray) (hsi : IntsAre svs ns) (hsl : svs.length ≤ 63)
   (hnext : ∀ (D8 Wn : Addr) (p : Int) (tp : Tok) (ys wv : List Value) (wc : Nat) (o1' o2' : Obj) m' h' tk', p ∈ PR → IntsAre ys (cells2 ns) → StrsAre wv namesL → o1'.data = .cell (some (.ref D8)) → o2'.data = .cell (some (.ref Wn)) → (@Ne Nat D8 (L + 1) ∧ @Ne Nat D8 (L + 2) ∧ @Ne Nat D8 (L + 3) ∧ @Ne Nat D8 (L + 4) ∧ @Ne Nat D8 (L + 5) ∧ @Ne Nat D8 (L + 6) ∧ @Ne Nat D8 (L + 7)) → (@LT.lt Nat _ (L + 7) Wn ∧ @LT.lt Nat _ D8 Wn) →
     Fr h₀ L h' m' → m' (Str.ofString "prime") = some (.int p tp) → News h₀ L h' ((Wn, W.listOf (List.toArray wv) wc) :: (D8, LCg.lst ys) :: (L + 1 + 1 + 1 + 1 + 1 + 1 + 1, o7) :: (L + 1 + 1 + 1 + 1 + 1 + 1, o6) :: (L + 1 + 1 + 1 + 1 + 1, o5) :: (L + 1 + 1 + 1 + 1, o4) :: (L + 1 + 1 + 1, o3) :: (L + 1 + 1, o2') :: (L + 1, o1') :: (37, tabObj #[]) :: (30, tabObj #[]) :: []) → wpAny (model PySem.Challenge.rw_wo0032_02.row.prog w) (callerA.deeper (envOfC (Str.ofString "law") sc L fa cd)) (execs bd (envOfC (Str.ofString "law") sc L fa cd)) Q E { s with heap := h', toks := tk' }) : wpAny (model PySem.Challenge.rw_wo0032_02.row.prog w) (callerA.deeper (envOfC (Str.ofString "law") sc L fa cd)) (execs (st0 :: st1 :: st2 :: bd) (envOfC (Str.ofString "law") sc L fa cd)) Q E s := by
  w_top off
  k_with_none
  k_with "BITS!" => (first | (with_reducible assumption) | ((with_reducible refine bits_le_of_lt ?_ ?_) <;> l_bnd))
  k_with "ALL!" => (first | assumption | (refine' allNe (by assumption)) | (refine' neOfLt (by assumption)))
  k_with "FinE" => ((k_here; k_dflt (unfold LCg.FinE); intro D9 h9 k9 F9 N9 o9; (have o1' := o9); (try simp only [LCg.Off1, and_true] at o1'); (try simp only [List.nil_append, List.cons_append] at N9); (try dsimp only)))
  k_with "FinA" => ((k_here; k_dflt (unfold LCg.FinA); intro D9 h9 k9 F9 N9 o9; (have o1' := o9); (try simp only [LCg.Off1, and_true] at o1'); (try simp only [List.nil_append, List.cons_append] at N9); (try dsimp only)))
  with_unfolding_all (conv at hsc => rhs; whnf)
  dsimp only at hsc
  with_unfolding_all (conv at hbd => lhs; whnf)
  injection hbd with hst0 hbd
  (try dsimp only at hst0)
  with_unfolding_all (conv at hbd => lhs; whnf)
  injection hbd with hst1 hbd
  (try dsimp only at hst1)
  with_unfolding_all (conv at hbd => lhs; whnf)
  injection hbd with hst2 hbd
  (try dsimp only at hst2)
  clear hbd
  subst hsc hst0 hst1 hst2
  replace F := fr_focus qS F
  revert B F X N T
  k_fill
  intro B F X N T
  k_with "call ref" => (first | (((with_unfolding_all refine c_cells (by k_asm) (by k_asm) (by k_asm) (by k_asm) (by k_asm) (by rfl) hS hsi hsl (by ktr_room) (by ktr_units) ?_); intro D8 ys8 h8 k8 hc8 F8 N8 o8; (have o81 := o8); (try simp only [LCg.Off1, and_true] at o8); (have hcl := hc8.length); (rw [cells2_len] at hcl); (try dsimp only); (try k_fold))) | (((with_unfolding_all refine c_names (by k_asm) (by k_asm) (by k_asm) (by k_asm) (by k_asm) (by rfl) (by ktr_room) (by ktr_units) ?_); intro D7 ys7 c7 h7 k7 hs7 F7 N7 l7; (have l71 := l7); (k_lt l7); (try dsimp only); (try k_fold))))
  k_steps
  (with_reducible rename News _ _ _ _ => nN); (with_unfolding_all refine hnext D8 D7 _ _ ys8 ys7 c7 _ _ _ _ _ (pr_get (Int.fmod_nonneg_of_pos _ (by decide)) (Int.fmod_lt_of_pos _ (by decide))) hc8 hs7 (by assumption) (by assumption) ?e5 ?e6 (by assumption) (by with_unfolding_all rfl) ?e7); (case e7 => (refine cb_drop nN fun p hp => ?_; simp only [List.mem_cons, List.not_mem_nil, or_false] at hp ⊢; rcases hp with h | h | h | h | h | h | h | h | h | h | h <;> simp only [h, true_or, or_true])); (case e5 => (clear nN; obtain ⟨q7, q6, q5, q4, q3, q2, q1, _⟩ := o8; exact ⟨Ne.symm q1, Ne.symm q2, Ne.symm q3, Ne.symm q4, Ne.symm q5, Ne.symm q6, Ne.symm q7⟩)); (case e6 => (clear nN; omega))
end Mine
end
section
set_option maxRecDepth 100000
namespace Mine
open Builtin.Int (intBits)

def StOK (pl : List Int) (x : Int) : Prop := ∃ hb : Int, (intBits x : Int) - 1 = hb ∧ 0 ≤ hb ∧ hb < pl.length ∧ (pl.getD hb.toNat 0 ≤ x ∧ x < 2 * pl.getD hb.toNat 0) ∧ (if x = 0 then false else (Builtin.bitAnd x (x - 1) == 0)) = (x == pl.getD hb.toNat 0) ∧ x < 32 ∧ intBits (pl.getD hb.toNat 0) ≤ 5
def JStS (m₀ : Str → Option Value) (news₀ : List (Addr × Obj)) (pl : List Int) (rv : List Value) (m : Str → Option Value) (news : List (Addr × Obj)) : Prop :=
  ∃ (u : Str → Option Value) (zs : List Int), IntsAre rv zs ∧ (∀ x ∈ zs, StOK pl x) ∧ m = (fun y => if [Str.ofString "state", Str.ofString "high"].contains y then u y else m₀ y) ∧ news = news₀
set_option maxHeartbeats 4000000 in
theorem segE {w : World} {loose : List Str} {mean : ExcName → Option Value} {mg mb : Str → Option Value} {fa : Addr} {cd : Value} {base h₀ : Heap} {L : Addr} {m : Str → Option Value} {s : Shared} {E : Value → Shared → Prop} {Q : Flow → Shared → Prop} {sc : Scope} {bd : List Stmt} {st0 : Stmt} (hsc : sc = lawScope) (hbd : lawBody.drop 8 = st0 :: bd) {S P : Addr} {sv ps : List Value} {sn : Nat} {sl pl : List Int} {rst : List (Addr × Obj)}
   (B : Below callerA base [] h₀) (F : Fr h₀ L s.heap m) (X : (hd.heap_39 w.params).In h₀) (N : News h₀ L s.heap ((S, W.listOf (List.toArray sv) sn) :: (P, LCg.lst ps) :: rst)) (T : Top topProg loose mean mg mb h₀) (qS : m (Str.ofString "states") = some (.ref S)) (qP : m (Str.ofString "powers") = some (.ref P)) (hsv : IntsAre sv sl) (hps : IntsAre ps pl) (hpl : pl.length ≤ 5) (hst : ∀ x ∈ sl, StOK pl x) (hE : PassesOwn (model PySem.Challenge.rw_wo0032_02.row.prog w) (callerA.deeper (envOfC (Str.ofString "law") sc L fa cd)) (envOfC (Str.ofString "law") sc L fa cd) E)
   (hnext : ∀ m' h' tk', Fr h₀ L h' m' → (∀ y, [Str.ofString "state", Str.ofString "high"].contains y = false → m' y = m y) → News h₀ L h' rst → wpAny (model PySem.Challenge.rw_wo0032_02.row.prog w) (callerA.deeper (envOfC (Str.ofString "law") sc L fa cd)) (execs bd (envOfC (Str.ofString "law") sc L fa cd)) Q E { s with heap := h', toks := tk' }) : wpAny (model PySem.Challenge.rw_wo0032_02.row.prog w) (callerA.deeper (envOfC (Str.ofString "law") sc L fa cd)) (execs (st0 :: bd) (envOfC (Str.ofString "law") sc L fa cd)) Q E s := by
  w_top off
  k_with_none
  k_with "BITS!" => (first | (with_reducible assumption) | ((with_reducible refine bits_le_of_lt ?_ ?_) <;> l_bnd))
  k_with "ALL!" => (first | assumption | (refine' allNe (by assumption)) | (refine' neOfLt (by assumption)))
  k_with "EV!" => ((repeat' (first | exact Ev.const | exact Ev.cap (by with_unfolding_all rfl) | exact Ev.loc (by with_unfolding_all rfl) (by with_unfolding_all rfl) (by decide) | apply Ev.and1 | apply Ev.add | apply Ev.sub | apply Ev.neg | apply Ev.mul | apply Ev.fmod | apply Ev.fdiv | apply Ev.pow | apply Ev.shr | apply Ev.item (by with_unfolding_all rfl) (hs := by intro _ _; with_unfolding_all rfl) | apply Ev.bxor | apply Ev.band | apply EvP.lt (hm := by with_unfolding_all rfl) | apply EvP.le (hm := by with_unfolding_all rfl) | apply EvP.gt (hm := by with_unfolding_all rfl) | apply EvP.ge (hm := by with_unfolding_all rfl) | apply EvP.eq (hm := by with_unfolding_all rfl) | apply EvP.ne (hm := by with_unfolding_all rfl) | apply EvP.lelt (hm := by with_unfolding_all rfl) | apply EvP.not | apply EvP.int (hi := by rfl) | ((with_reducible show IntMulOk _ _); refine IntMulOk.of_le (by bits_by_make) (by bits_by_make) (by decide)) | k_extra "EVC!" | ((fail_if_success (with_reducible show Int)); l_bnd))))
  k_with "EVC!" => (fail)
  k_with "compareOp IsNot bool bool" => ((k_here; (with_reducible refine r_isnot_b rfl ?_)))
  have hpv := hps.length
  with_unfolding_all (conv at hsc => rhs; whnf)
  dsimp only at hsc
  with_unfolding_all (conv at hbd => lhs; whnf)
  injection hbd with hst0 hbd
  (try dsimp only at hst0)
  clear hbd
  subst hsc hst0
  replace F := fr_focus qP F
  replace F := fr_focus (k := Str.ofString "states") (v := .ref S) (by (try dsimp only); rw [if_neg (by decide)]; exact qS) F
  revert B F X N T
  k_fill
  intro B F X N T
  k_with "exec For Name Name cons nil" => ((with_reducible rename Fr _ _ _ _ => lF'); (with_unfolding_all refine' For_invVF lF' ?k1 ?k2 ?_ (hE := hE); (case k1 => exact rfl); (case k2 => exact rfl); k_whole))
  k_with "pyIter ref" => (((with_reducible rename Fr _ _ _ _ => lF'); (with_reducible rename News _ _ _ _ => lN'); (with_unfolding_all refine list_loop (JStS _ _ pl) (by rfl) lF' lN' List.mem_cons_self (by rfl) (by rfl) (fun _ _ _ h => by obtain ⟨_, _, _, _, _, rfl⟩ := h; exact List.mem_cons_self) ⟨m, _, hsv, hst, (by funext y; by_cases h1 : [Str.ofString "state", Str.ofString "high"].contains y = true; (simp only [h1, if_true]; simp only [List.contains_cons, List.contains_nil, Bool.or_false, Bool.or_eq_true, beq_iff_eq] at h1; rcases h1 with rfl | rfl <;> rfl); (simp only [h1, if_false, Bool.false_eq_true]; exact rfl)), rfl⟩ ?_ ?_); clear lF' lN'); (rotate_left); (intro m9 news9 h9 tk9 hJ9 F9 N9; (obtain ⟨u9, zs9, hz9, ho9, rfl, rfl⟩ := hJ9); (try k_fold)); (rotate_left); (intro I9 v9 r9 m9 news9 it9 h9 tk9 hlt9 hJ9 F9 N9; (obtain ⟨u9, zs9, hz9, ho9, rfl, rfl⟩ := hJ9); (obtain ⟨a9, t9, zs8, rfl, rfl, hr9⟩ := ints_cons hz9); (obtain ⟨hb9, e1, e2, e3, e4, e5, e6, e7⟩ := ho9 a9 (.head _)); (have hm9 : intBits 2 ≤ 2 := by decide); (try k_fold)))
  k_with "call ref" => (first | (((with_unfolding_all refine c_isb' (by first | with_reducible assumption | exact hisb _ (by assumption)) (by k_asm) (by k_asm) (by k_asm) (by k_asm) (by k_asm) (by rfl) (by ktr_room) (by ktr_units) ?_); intro h9 k9 F9 N9; (try dsimp only); (try k_fold))) | (((with_unfolding_all refine c_high' (by with_reducible assumption) (by k_asm) (by k_asm) (by k_asm) (by k_asm) (by k_asm) (by rfl) (by ktr_room) (by ktr_units) ?_); intro t9 h9 k9 F9 N9; (try dsimp only); (try k_fold))))
  k_with "isTrue UnaryOp" => (k_dflt (refine evp_f (κ := [(Str.ofString "powers", .ints pl)]) (by with_unfolding_all rfl) (by k_asm) (by with_unfolding_all rfl) (by exact List.forall_mem_cons.mpr ⟨rd_locals (by with_unfolding_all rfl) (by k_asm) (by with_unfolding_all rfl) (by k_asm) (by with_unfolding_all rfl) (by k_mem) (by assumption) (by with_unfolding_all rfl) (by with_unfolding_all rfl), List.forall_mem_nil _⟩) (by k_extra "EV!") (fun q => q e4) _ _ rfl ?_); intro tk6; (try dsimp only))
  k_with "JPost" => ((refine JPost.intro (by assumption) (by assumption) (fun q hq => Nat.ne_of_lt (hlt9 q hq)) ⟨_, zs8, hr9, fun x hx => ho9 x (.tail _ hx), (by funext y; by_cases h : [Str.ofString "state", Str.ofString "high"].contains y = true; (simp only [h, if_true]; exact rfl); (simp only [h, if_false, Bool.false_eq_true]; simp only [List.contains_cons, List.contains_nil, Bool.or_false, Bool.or_eq_true, beq_iff_eq, not_or] at h; simp [h])), rfl⟩))
  k_steps
  (try dsimp only)
  with_unfolding_all exact hnext _ _ _ (by assumption) (by intro z h2; simp only [h2, Bool.false_eq_true, if_false, ite_focus qP, ite_focus qS]) (cb_drop (by assumption) fun q hq => List.Mem.tail _ (List.Mem.tail _ hq))
end Mine
end
section
set_option maxRecDepth 100000
namespace Mine
open Builtin.Int (intBits)
def chkA (p n c : Nat) : Bool := decide (3 ≤ n ∧ n ≤ 5 ∧ 7 ≤ c ∧ c ≤ 31 ∧ c + 1 = 2 ^ n ∧ n < c ∧ p < 64 ∧ 0 < p ∧ (intBits (p : Int) : Int) - 1 = (n : Int) ∧ (intBits (-(p : Int)) : Int) - 1 = (n : Int) ∧ 0 < pop 32 p)
theorem chkA_all : allPQ chkA = true := by decide +kernel
theorem pq_facts {p n c : Nat} (h : (p, n, c) ∈ PQ) : 3 ≤ n ∧ n ≤ 5 ∧ 7 ≤ c ∧ c ≤ 31 ∧ c + 1 = 2 ^ n ∧ n < c ∧ p < 64 ∧ 0 < p ∧ (intBits (p : Int) : Int) - 1 = (n : Int) ∧ (intBits (-(p : Int)) : Int) - 1 = (n : Int) ∧ 0 < pop 32 p := of_decide_eq_true (allPQ_use chkA_all h)
theorem pr_pq {p : Int} (h : p ∈ PR) : ∃ q n c : Nat, (q, n, c) ∈ PQ ∧ p = (q : Int) := by
  simp only [PR, List.mem_cons, List.not_mem_nil, or_false] at h
  rcases h with rfl | rfl | rfl | rfl | rfl | rfl | rfl | rfl | rfl | rfl
  · exact ⟨11, 3, 7, by decide, rfl⟩
  · exact ⟨13, 3, 7, by decide, rfl⟩
  · exact ⟨19, 4, 15, by decide, rfl⟩
  · exact ⟨25, 4, 15, by decide, rfl⟩
  · exact ⟨37, 5, 31, by decide, rfl⟩
  · exact ⟨41, 5, 31, by decide, rfl⟩
  · exact ⟨47, 5, 31, by decide, rfl⟩
  · exact ⟨55, 5, 31, by decide, rfl⟩
  · exact ⟨59, 5, 31, by decide, rfl⟩
  · exact ⟨61, 5, 31, by decide, rfl⟩
theorem reg_pq {p n c s : Nat} (h : (p, n, c) ∈ PQ) (hs : s < 2 ^ n) : Reg (p : Int) (n : Int) (s : Int) := by
  obtain ⟨h3, h5, -⟩ := pq_facts h
  have hc := allPQ_use chkS_all h
  have h32 : 2 ^ n ≤ 2 ^ 5 := Nat.pow_le_pow_right (by decide) h5
  have key : ∀ k, ∃ y : Nat, y < 2 ^ n ∧ itr (p : Int) (n : Int) (s : Int) k = (y : Int) := by
    intro k
    induction k with
    | zero => exact ⟨s, hs, rfl⟩
    | succ k ih =>
      obtain ⟨y, hy, e⟩ := ih
      have hx := List.all_eq_true.mp hc y (List.mem_range.mpr hy)
      rw [Bool.and_eq_true, decide_eq_true_eq, decide_eq_true_eq] at hx
      exact ⟨nSt p n y, hx.2, by rw [itr, e]; exact hx.1⟩
  refine ⟨by omega, by omega, fun k => ?_⟩
  obtain ⟨y, hy, e⟩ := key k
  rw [e]; omega
def powL (n : Nat) : List Int := (List.range n).map fun k => (2 : Int) ^ k
def chkT (p n c : Nat) : Bool := let pl := powL n
  ((List.range c).all fun x' => let x : Int := ((x' + 1 : Nat) : Int); let hb : Int := (intBits x : Int) - 1
  decide (0 ≤ hb ∧ hb < pl.length ∧ (pl.getD hb.toNat 0 ≤ x ∧ x < 2 * pl.getD hb.toNat 0) ∧ (if x = 0 then false else (Builtin.bitAnd x (x - 1) == 0)) = (x == pl.getD hb.toNat 0) ∧ x < 32 ∧ intBits (pl.getD hb.toNat 0) ≤ 5)) &&
  pl.all fun x => decide ((if -x = 0 then false else (Builtin.bitAnd (-x) (-x - 1) == 0)) = false)
theorem chkT_all : allPQ chkT = true := by decide +kernel
theorem stok_pq {p n c x : Nat} (h : (p, n, c) ∈ PQ) (h0 : 0 < x) (h1 : x ≤ c) : StOK (powL n) (x : Int) := by
  have hc := allPQ_use chkT_all h
  have := of_decide_eq_true (List.all_eq_true.mp (Bool.and_eq_true .. ▸ hc).1 (x - 1) (List.mem_range.mpr (by omega)))
  rw [show x - 1 + 1 = x by omega] at this
  exact ⟨_, rfl, this⟩
theorem neg_pq {p n c : Nat} (h : (p, n, c) ∈ PQ) : ∀ x ∈ powL n, (if -x = 0 then false else (Builtin.bitAnd (-x) (-x - 1) == 0)) = false := by
  have hc := allPQ_use chkT_all h
  exact fun x hx => of_decide_eq_true (List.all_eq_true.mp (Bool.and_eq_true .. ▸ hc).2 x hx)
end Mine
namespace Mine
open Builtin.Int (intBits)
theorem seqN_len (p n : Nat) : ∀ k s, (seqN p n k s).length = k
  | 0, _ => rfl
  | k + 1, s => by rw [seqN, List.length_cons, seqN_len p n k]
theorem seqN_take (p n : Nat) : ∀ k s, (seqN p n (k + 1) s).dropLast = seqN p n k s
  | 0, _ => rfl
  | k + 1, s => by
    rw [seqN, seqN, seqN, List.dropLast_cons_cons]
    congr 1
    exact seqN_take p n k (nSt p n s)
theorem pq_segC {p n c s : Nat} (h : (p, n, c) ∈ PQ) (hs : s < c) : let sl : List Int := (seqN p n c (s + 1)).map fun x : Nat => (x : Int)
    sts (p : Int) (n : Int) (((s + 1 : Nat)) : Int) c = (seqN p n (c + 1) (s + 1)).map (fun x : Nat => (x : Int)) ∧ ((seqN p n (c + 1) (s + 1)).map fun x : Nat => (x : Int)).dropLast = sl ∧ ((seqN p n (c + 1) (s + 1)).map fun x : Nat => (x : Int)).getLastD 0 = sl.getD (Int.toNat 0) 0 ∧ srt sl = rangeKs 1 c ∧ (∀ x ∈ seqN p n c (s + 1), 0 < x ∧ x ≤ c) := by
  obtain ⟨h3, h5, h7, h31, hcn, hnc, -⟩ := pq_facts h
  have hc := List.all_eq_true.mp (allPQ_use chkM_all h) s (List.mem_range.mpr hs)
  simp only [Bool.and_eq_true] at hc
  have h1 := Nat.eq_of_beq_eq_true hc.1.1
  have h2 := List.isPerm_iff.mp hc.1.2
  refine ⟨itr_seq h (by omega) (c + 1), ?_, ?_, ?_, ?_⟩
  · rw [← List.map_dropLast, seqN_take]
  · rw [List.getLastD_eq_getLast?, List.getLast?_eq_getElem?, List.length_map, seqN_len, ← List.getD_eq_getElem?_getD, Nat.add_sub_cancel, getD_map_int, getD_map_int, h1]
    obtain ⟨k, rfl⟩ : ∃ k, c = k + 1 := ⟨c - 1, by omega⟩
    rfl
  · refine (srt_eq (h2.map (fun x : Nat => (x : Int))).symm ?_).symm.trans ?_
    · rw [List.map_map]
      exact List.pairwise_map.mpr (List.pairwise_lt_range.imp fun {a b} q => by simp only [Function.comp]; omega)
    · rw [List.map_map]
      exact List.map_congr_left fun i _ => by simp only [Function.comp]; omega
  · intro x hx
    have := h2.mem_iff.mp hx
    obtain ⟨i, hi, rfl⟩ := List.mem_map.mp this
    have := List.mem_range.mp hi
    omega
end Mine
end
section
set_option maxRecDepth 100000
namespace Mine
open Builtin.Int (intBits)
def chkL (p n c : Nat) : Bool := let rs := rots p n c
  (List.range (c - 1)).all fun t' => Nat.blt (plc p n c (t' + 1)) c && rs.all fun R => Nat.beq (pop 32 (rotN c R (t' + 1))) (2 ^ (n - 1))
theorem rots_turn {p n c R t : Nat} (hc : 1 < c) (ht : t < c) (h : R ∈ rots p n c) : rotN c R t ∈ rots p n c := by
  obtain ⟨a, ha, rfl⟩ := List.mem_map.mp h
  have ha := List.mem_range.mp ha
  have hp : 2 ^ 1 < 2 ^ c := Nat.pow_lt_pow_right (by decide) hc
  have e : rotN c (rotN c (baseR p n c) a) t = rotN c (baseR p n c) (a + t) := by
    unfold rotN
    rw [Nat.mul_mod, Nat.mod_mod, ← Nat.mul_mod, Nat.mul_assoc, ← Nat.pow_add]
  rw [e]
  refine List.mem_map.mpr ?_
  rcases Nat.lt_or_ge (a + t) c with q | q
  · exact ⟨a + t, List.mem_range.mpr q, rfl⟩
  · refine ⟨a + t - c, List.mem_range.mpr (by omega), ?_⟩
    have e2 : (2 : Nat) ^ (a + t) = 2 ^ (a + t - c) + (2 ^ c - 1) * 2 ^ (a + t - c) := by
      rw [show a + t = c + (a + t - c) by omega, Nat.pow_add, Nat.add_sub_cancel_left, Nat.sub_mul, Nat.one_mul]
      have : 2 ^ (a + t - c) ≤ 2 ^ c * 2 ^ (a + t - c) := Nat.le_mul_of_pos_left _ (by omega)
      omega
    unfold rotN
    rw [e2, Nat.mul_add, Nat.mul_left_comm, Nat.add_mul_mod_self_left]
theorem chkL_all : allPQ chkL = true := mem_allPQ fun p n c h => by
  have hc := chkV_c (allPQ_use chkV_all h)
  refine List.all_eq_true.mpr fun t' ht => ?_
  have ht1 := List.mem_range.mp ht
  rw [Bool.and_eq_true]
  refine ⟨List.all_eq_true.mp (allPQ_use chkY_all h) t' ht, List.all_eq_true.mpr fun R hR => ?_⟩
  have h1 := List.all_eq_true.mp (allPQ_use chkP_all h) _ (rots_turn hc (t := t' + 1) (by omega) hR)
  rw [Bool.and_eq_true] at h1
  exact h1.1
theorem ring_mem {p n c s j : Nat} (h : (p, n, c) ∈ PQ) (hs : s < c) (hj : j < n) : ringN j (seqN p n c (s + 1)) ∈ rots p n c := by
  have := List.all_eq_true.mp (List.all_eq_true.mp (allPQ_use chkR_all h) s (List.mem_range.mpr hs)) j (List.mem_range.mpr hj)
  exact List.contains_iff_mem.mp this
theorem rots_lt {p n c R : Nat} (hc : 1 < c) (h : R ∈ rots p n c) : R < 2 ^ c - 1 := by
  obtain ⟨t, _, rfl⟩ := List.mem_map.mp h
  have : 2 ^ 1 < 2 ^ c := Nat.pow_lt_pow_right (by decide) hc
  exact Nat.mod_lt _ (by omega)
theorem bitR_mod (c R i : Nat) : bitR c R (i % c) = bitR c R i := by unfold bitR; rw [Nat.mod_mod]
def tapeN (c R : Nat) : Nat := bsum (bitR c R) 40
theorem tape_sum {c R : Nat} {ms : List Int} (hm : ∀ i, i < c → ms.getD i 0 = ((bitR c R i : Nat) : Int)) (hc : 0 < c) : ((List.range 40).map fun (i : Nat) => ms.getD ((i : Int).fmod (c : Int)).toNat 0 * (2 : Int) ^ i).sum = ((tapeN c R : Nat) : Int) :=
  sum_bsum 40 fun i _ => by rw [fmod_nat, Int.toNat_natCast, hm _ (Nat.mod_lt _ hc), bitR_mod]
theorem tape_lt (c R : Nat) : tapeN c R < 2 ^ 40 := bsum_lt (bitR_le c R) 40
theorem tape_bit (c R : Nat) {i : Nat} (hi : i < 40) : tapeN c R / 2 ^ i % 2 = bitR c R i := bsum_bit (bitR_le c R) hi
theorem tape_mod {c R : Nat} (hc : c ≤ 31) (h : R < 2 ^ c) : tapeN c R % 2 ^ c = R := by
  have h1 := bsum_mod (bitR_le c R) c (40 - c)
  rw [show c + (40 - c) = 40 by omega] at h1
  exact h1.trans (ring_zero h)
theorem tape_high {p n c R : Nat} (h : (p, n, c) ∈ PQ) (hR : R ∈ rots p n c) : 2 ^ 32 ≤ tapeN c R := by
  have h1 := List.all_eq_true.mp (allPQ_use chkP_all h) R hR
  rw [Bool.and_eq_true] at h1
  obtain ⟨i, hi, hb⟩ := List.any_eq_true.mp h1.2
  have hi := List.mem_range.mp hi
  have hb : bitR c R (32 + i) = 1 := Nat.eq_of_beq_eq_true hb
  rw [← tape_bit c R (by omega)] at hb
  have h2 : 2 ^ (32 + i) ≤ tapeN c R := by
    rcases Nat.lt_or_ge (tapeN c R) (2 ^ (32 + i)) with q | q
    · rw [Nat.div_eq_of_lt q] at hb; cases hb
    · exact q
  exact Nat.le_trans (Nat.pow_le_pow_right (by decide) (by omega)) h2
theorem names_at {i : Nat} (h : i < 32) : namesL.getD i Str.empty = pfWord PFT i := by
  simp [namesL, List.getD_eq_getElem?_getD, h]
theorem tape_words {p n c R : Nat} {ms : List Int} (h : (p, n, c) ∈ PQ) (hR : R ∈ rots p n c) (hm : ∀ i, i < c → ms.getD i 0 = ((bitR c R i : Nat) : Int)) (hc : 0 < c) :
    pfW PFT ((tapeN c R : Nat) : Int) = keepF (fun i => decide (ms.getD ((i : Int).fmod (c : Int)).toNat 0 = 1)) (fun i => namesL.getD i Str.empty) 32 ++ [baseText "0x" 16 (((tapeN c R : Nat) : Int) - ((tapeN c R : Nat) : Int).fmod (2 ^ Int.toNat 32))] := by
  rw [pfW_high (tape_high h hR), keepF_pfL (F := tapeN c R)]
  intro i hi
  refine ⟨?_, names_at hi⟩
  rw [decide_eq_true_eq, fmod_nat, Int.toNat_natCast, hm _ (Nat.mod_lt _ hc), bitR_mod, tape_bit c R (by omega)]
  omega
end Mine
end
section
set_option maxRecDepth 100000
namespace Mine
open Builtin.Int (intBits)
theorem fmod_of {x M : Int} {c y : Nat} (hy : y < c) (h : (y : Int) = x + (c : Int) * M) : x.fmod (c : Int) = (y : Int) := by
  rw [Int.fmod_eq_emod_of_nonneg _ (Int.natCast_nonneg _), ← Int.add_mul_emod_self_left x (c : Int) M, ← h]
  exact Int.emod_eq_of_lt (Int.natCast_nonneg _) (by omega)
theorem turn_sum {c R T m a : Nat} {ms : List Int} (hc : 1 < c) (hR : R < 2 ^ c - 1) (he : a + T = c * m) (hm : ∀ i, i < c → ms.getD i 0 = ((bitR c R i : Nat) : Int)) :
    ((List.range c).map fun (i : Nat) => ms.getD (((i : Int) - (T : Int)).fmod (c : Int)).toNat 0 * (2 : Int) ^ i).sum = ((rotN c R T : Nat) : Int) := by
  rw [rotN, ring_turned hc hR he]
  refine sum_bsum c fun i hi => ?_
  have e : ((i : Int) - (T : Int)).fmod (c : Int) = (((i + a) % c : Nat) : Int) := by
    refine fmod_of (M := (m : Int) - (((i + a) / c : Nat) : Int)) (Nat.mod_lt _ (by omega)) ?_
    have h1 := Nat.div_add_mod (i + a) c
    have h2 : ((i + a : Nat) : Int) = (c : Int) * (((i + a) / c : Nat) : Int) + (((i + a) % c : Nat) : Int) := by rw [← Int.natCast_mul, ← Int.natCast_add, h1]
    have h3 : (a : Int) + (T : Int) = (c : Int) * (m : Int) := by rw [← Int.natCast_mul, ← he, Int.natCast_add]
    rw [Int.mul_sub]
    omega
  rw [e, Int.toNat_natCast, hm _ (Nat.mod_lt _ (by omega)), bitR_mod]
theorem rot_period {c R t k : Nat} (hc : 1 < c) (hR : R < 2 ^ c - 1) : rotN c R (t + c * k) = rotN c R t := by
  have h0 : t ≤ c * t := Nat.le_mul_of_pos_left _ (by omega)
  have e1 := ring_turned (c := c) (R := R) (a := c * t - t) (T := t) (m := t) hc hR (by omega)
  have e2 := ring_turned (c := c) (R := R) (a := c * t - t) (T := t + c * k) (m := t + k) hc hR (by rw [Nat.mul_add]; omega)
  exact e2.trans e1.symm
def whN (c : Nat) : Int := ((2 ^ c - 1 : Nat) : Int)
theorem wh_eq (c : Nat) : (2 : Int) ^ c - 1 = whN c := by
  have := Nat.one_le_two_pow (n := c)
  rw [whN, Int.ofNat_sub this]; simp
theorem wh_facts {c : Nat} (h7 : 7 ≤ c) (h31 : c ≤ 31) : 0 < whN c ∧ intBits (whN c) = c := by
  have h1 : 2 ^ 7 ≤ 2 ^ c := Nat.pow_le_pow_right (by decide) h7
  have h2 : 2 ^ c = 2 ^ (c - 1) * 2 := by rw [← Nat.pow_succ]; congr 1; omega
  have h3 : (2 : Int) ^ (c - 1) = ((2 ^ (c - 1) : Nat) : Int) := by simp
  have h4 : (2 : Int) ^ (c - 1 + 1) = ((2 ^ c : Nat) : Int) := by rw [show c - 1 + 1 = c by omega]; simp
  refine ⟨by unfold whN; omega, ?_⟩
  have := bits_eq (x := whN c) (k := c - 1) (by rw [h3]; unfold whN; omega) (by rw [h4]; unfold whN; omega)
  omega
theorem rot_int (c R T : Nat) : ((R : Int) * 2 ^ T) % whN c = ((rotN c R T : Nat) : Int) := by
  rw [rotN, whN, Int.natCast_emod, Int.natCast_mul]; simp
theorem bits_nat {x k : Nat} (h : x < 2 ^ k) : intBits (x : Int) ≤ k := bits_le_of_lt (Int.natCast_nonneg _) (by exact_mod_cast h)
theorem turn_facts {c R T : Nat} {t : Int} (ht : t = (T : Int)) (h7 : 7 ≤ c) (h31 : c ≤ 31) (hR : R < 2 ^ c - 1) (hT : T ≤ 4 * c) :
    0 ≤ (R : Int) * 2 ^ t.toNat ∧ intBits ((R : Int) * 2 ^ t.toNat) ≤ 20 * intBits (whN c) ∧ ((R : Int) * 2 ^ t.toNat) % whN c = ((rotN c R T : Nat) : Int) ∧ 0 ≤ t ∧ (intBits 2 : Int) * t ≤ 2 ^ 27 ∧ intBits ((2 : Int) ^ t.toNat) ≤ 200 ∧ intBits ((R : Int) * 2 ^ t.toNat / whN c) ≤ 200 := by
  subst ht
  rw [Int.toNat_natCast]
  have hw := wh_facts h7 h31
  have hX : (R : Int) * 2 ^ T = ((R * 2 ^ T : Nat) : Int) := by simp
  have hb : intBits ((R : Int) * 2 ^ T) ≤ c + T := by
    rw [hX]
    refine bits_nat ?_
    rw [Nat.pow_add]
    exact Nat.mul_lt_mul_of_pos_right (by omega) (Nat.pow_pos (by decide))
  have h0 : 0 ≤ (R : Int) * 2 ^ T := by rw [hX]; exact Int.natCast_nonneg _
  refine ⟨h0, by rw [hw.2]; omega, rot_int c R T, Int.natCast_nonneg _, ?_, ?_, ?_⟩
  · rw [show intBits 2 = 2 by decide]; omega
  · have : (2 : Int) ^ T = ((2 ^ T : Nat) : Int) := by simp
    rw [this]
    exact Nat.le_trans (bits_nat (k := T + 1) (Nat.pow_lt_pow_right (by decide) (by omega))) (by omega)
  · exact Nat.le_trans (bits_quot h0 (by omega) hb) (by omega)
theorem pop_ext {x c : Nat} (h : x < 2 ^ c) : ∀ d, pop (c + d) x = pop c x
  | 0 => rfl
  | d + 1 => by
    rw [← Nat.add_assoc, pop_top, pop_ext h d, Nat.div_eq_of_lt (Nat.lt_of_lt_of_le h (Nat.pow_le_pow_right (by decide) (by omega))), Nat.zero_mod, Nat.add_zero]
theorem pop_pos {k x : Nat} (h : 0 < pop k x) : x ≠ 0 := by
  rintro rfl
  have : ∀ k, pop k 0 = 0 := by intro k; induction k with
    | zero => rfl
    | succ k ih => rw [pop, Nat.zero_mod, Nat.zero_div, Nat.zero_add]; exact ih
  rw [this] at h; cases h
theorem wl_of {x c v : Nat} (h : x < 2 ^ c) (hc : c ≤ 31) (hv : 0 < v) (hp : pop 32 x = v) : wl (x : Int) = v := by
  have h1 : x < 2 ^ 32 := Nat.lt_of_lt_of_le h (Nat.pow_le_pow_right (by decide) (by omega))
  rw [wl_pop (pop_pos (k := 32) (by omega)) h1 (by omega), hp]
theorem turn_checks {p n c R t1 : Nat} (h : (p, n, c) ∈ PQ) (hR : R ∈ rots p n c) (h1 : 0 < t1) (h2 : t1 < c) :
    pop 32 R = 2 ^ (n - 1) ∧ pop 32 (rotN c R t1) = 2 ^ (n - 1) ∧ pop c (Nat.land R (rotN c R t1)) = 2 ^ (n - 2) ∧ plc p n c t1 < c ∧ Nat.xor R (rotN c R t1) = rotN c R (c - plc p n c t1) ∧ (wrds p n).foldl (fun a i => Nat.xor a (rotN c R (t1 + n - i))) 0 = 0 := by
  have a1 := List.all_eq_true.mp (allPQ_use chkP_all h) R hR
  have a2 := List.all_eq_true.mp (allPQ_use chkL_all h) (t1 - 1) (List.mem_range.mpr (by omega))
  have a3 := List.all_eq_true.mp (List.all_eq_true.mp (allPQ_use chkB_all h) (t1 - 1) (List.mem_range.mpr (by omega))) R hR
  rw [show t1 - 1 + 1 = t1 by omega] at a2 a3
  simp only [Bool.and_eq_true] at a1 a2 a3
  have a2' := List.all_eq_true.mp a2.2 R hR
  refine ⟨Nat.eq_of_beq_eq_true a1.1, Nat.eq_of_beq_eq_true a2', Nat.eq_of_beq_eq_true a3.1.1, Nat.le_of_ble_eq_true a2.1, Nat.eq_of_beq_eq_true a3.1.2, Nat.eq_of_beq_eq_true a3.2⟩
end Mine
end
section
set_option maxRecDepth 100000
namespace Mine
open Builtin.Int (intBits)
theorem cast_pred {c : Nat} (h : 0 < c) : ((c - 1 : Nat) : Int) = (c : Int) - 1 := Int.ofNat_sub h
theorem one_cast (s : Nat) : 1 + (s : Int) = ((s + 1 : Nat) : Int) := Int.add_comm _ _
theorem eT_l (t k c : Nat) : 1 + (t : Int) + (k : Int) * (c : Int) = ((t + 1 + c * k : Nat) : Int) := by rw [one_cast, Nat.mul_comm c k]; rfl
theorem T_le {t k c : Nat} (h : t < c - 1) (hk : k < 3) : t + 1 + c * k ≤ 4 * c := by
  have : c * k ≤ c * 2 := Nat.mul_le_mul_left _ (Nat.le_of_lt_succ hk)
  omega
theorem ge_i {a n : Nat} (h : a ≤ n) : (a : Int) ≤ (n : Int) := Int.ofNat_le.mpr h
theorem pow_pred_i {c n : Nat} (h : c + 1 = 2 ^ n) : (2 : Int) ^ n - 1 = (c : Int) := by
  have e : (2 : Int) ^ n = ((2 ^ n : Nat) : Int) := by simp
  rw [e, ← h, Int.natCast_add]; exact Int.add_sub_cancel _ _
theorem mod2_01 (x : Nat) : ((x % 2 : Nat) : Int) = 0 ∨ ((x % 2 : Nat) : Int) = 1 := by omega
theorem sub1_nat (n : Nat) : ((n : Int) - 1).toNat = n - 1 := by omega
theorem sub2_nat (n : Nat) : ((n : Int) - 2).toNat = n - 2 := by omega
theorem le_4 {x c : Nat} (h : x ≤ c) : x ≤ 4 * c := Nat.le_trans h (Nat.le_mul_of_pos_left c (by decide))
theorem bnd60 {x c : Nat} (h : x < 2 ^ c) (hc : c ≤ 31) : 0 ≤ (x : Int) ∧ (x : Int) < 2 ^ 60 :=
  ⟨Int.natCast_nonneg _, Int.lt_of_lt_of_le (Int.ofNat_lt.mpr (Nat.lt_of_lt_of_le h (Nat.pow_le_pow_right (by decide) hc))) (by decide)⟩
theorem neg_M {t c k : Nat} (h : t < c) : ((c - t : Nat) : Int) = -((t + c * k : Nat) : Int) + (c : Int) * ((k : Int) + 1) := by
  rw [Int.mul_add, Int.natCast_add, Int.natCast_mul]; omega
theorem wd_t {t n i j : Nat} (h : i ≤ n) (e : j = i) : ((t : Nat) : Int) + (n : Int) - (j : Int) = ((t + n - i : Nat) : Int) := by omega
theorem rot_lt {c R t : Nat} (hc : 1 < c) : rotN c R t < 2 ^ c - 1 := by
  have : 2 ^ 1 < 2 ^ c := Nat.pow_lt_pow_right (by decide) hc
  exact Nat.mod_lt _ (by omega)
theorem pq_segL {p n c R t1 : Nat} (h : (p, n, c) ∈ PQ) (hR : R ∈ rots p n c) (h1 : 0 < t1) (h2 : t1 < c) :
    ∃ B : Int, Builtin.bitAnd (R : Int) ((rotN c R t1 : Nat) : Int) = B ∧ (∀ i : Nat, 0 ≤ [(R : Int), ((rotN c R t1 : Nat) : Int), B].getD i 0 ∧ [(R : Int), ((rotN c R t1 : Nat) : Int), B].getD i 0 < 2 ^ 60) ∧
      (List.range 3).map (fun i => ((wl ([(R : Int), ((rotN c R t1 : Nat) : Int), B].getD i 0) : Nat) : Int)) = [(2 : Int) ^ ((n : Int) - 1).toNat, (2 : Int) ^ ((n : Int) - 1).toNat, (2 : Int) ^ ((n : Int) - 2).toNat] := by
  obtain ⟨h3, h5, h7, h31, hcn, hnc, -⟩ := pq_facts h
  obtain ⟨k1, k2, k3, -⟩ := turn_checks h hR h1 h2
  have hc1 : 1 < c := Nat.lt_of_lt_of_le (by decide) h7
  have b1 : R < 2 ^ c := Nat.lt_of_lt_of_le (rots_lt hc1 hR) (Nat.sub_le _ _)
  have b2 : rotN c R t1 < 2 ^ c := Nat.lt_of_lt_of_le (rot_lt hc1) (Nat.sub_le _ _)
  have b3 : R &&& rotN c R t1 < 2 ^ c := Nat.and_lt_two_pow _ b2
  have e : ∀ m : Nat, ((2 ^ m : Nat) : Int) = (2 : Int) ^ m := fun m => by simp
  refine ⟨((R &&& rotN c R t1 : Nat) : Int), and_nat _ _, ?_, ?_⟩
  · intro i
    match i with
    | 0 => exact bnd60 b1 h31
    | 1 => exact bnd60 b2 h31
    | 2 => exact bnd60 b3 h31
    | i + 3 => show 0 ≤ (0 : Int) ∧ (0 : Int) < 2 ^ 60; decide
  · have w1 := wl_of (x := R) (c := c) b1 h31 (Nat.pow_pos (by decide)) k1
    have w2 := wl_of (x := rotN c R t1) (c := c) b2 h31 (Nat.pow_pos (by decide)) k2
    have hx := pop_ext b3 (32 - c)
    rw [Nat.add_sub_cancel' (Nat.le_trans h31 (by decide))] at hx
    have w3 := wl_of (x := R &&& rotN c R t1) (c := c) b3 h31 (Nat.pow_pos (by decide)) (hx.trans k3)
    show [((wl (R : Int) : Nat) : Int), ((wl ((rotN c R t1 : Nat) : Int) : Nat) : Int), ((wl ((R &&& rotN c R t1 : Nat) : Int) : Nat) : Int)] = _
    rw [w1, w2, w3, sub1_nat, sub2_nat, e, e]
theorem pq_segM {p n c s t1 k : Nat} (h : (p, n, c) ∈ PQ) (hs : s < c) (h1 : 0 < t1) (h2 : t1 < c) : let sl : List Int := (seqN p n c (s + 1)).map fun x : Nat => (x : Int)
    ∃ xv : Int, Builtin.bitXor (sl.getD (Int.toNat 0) 0) (sl.getD ((-((t1 + c * k : Nat) : Int)).fmod (c : Int)).toNat 0) = xv ∧ sl.findIdx? (· == xv) = some (plc p n c t1) := by
  obtain ⟨h3, h5, h7, h31, hcn, hnc, -⟩ := pq_facts h
  have hc := List.all_eq_true.mp (allPQ_use chkM_all h) s (List.mem_range.mpr hs)
  simp only [Bool.and_eq_true] at hc
  have h3 := Nat.eq_of_beq_eq_true (List.all_eq_true.mp hc.2 (t1 - 1) (List.mem_range.mpr (Nat.sub_lt_sub_right h1 h2)))
  rw [Nat.sub_add_cancel h1] at h3
  have h4 : plc p n c t1 < c := by
    have a2 := List.all_eq_true.mp (allPQ_use chkL_all h) (t1 - 1) (List.mem_range.mpr (Nat.sub_lt_sub_right h1 h2))
    rw [Nat.sub_add_cancel h1, Bool.and_eq_true] at a2
    exact Nat.le_of_ble_eq_true a2.1
  have e1 : (-((t1 + c * k : Nat) : Int)).fmod (c : Int) = ((c - t1 : Nat) : Int) := fmod_of (M := (k : Int) + 1) (Nat.sub_lt (Nat.lt_trans h1 h2) h1) (neg_M h2)
  refine ⟨((Nat.xor (s + 1) ((seqN p n c (s + 1)).getD (c - t1) 0) : Nat) : Int), ?_, ?_⟩
  · rw [e1, Int.toNat_natCast, getD_map_int, getD_map_int]
    obtain ⟨d, rfl⟩ : ∃ d, c = d + 1 := ⟨c - 1, (Nat.sub_add_cancel (Nat.lt_of_le_of_lt (Nat.zero_le _) hs)).symm⟩
    exact xor_nat _ _
  · have := idx_find (a := Nat.xor (s + 1) ((seqN p n c (s + 1)).getD (c - t1) 0)) (l := seqN p n c (s + 1)) (by rw [h3, seqN_len]; exact h4)
    rw [this, h3]
theorem pq_segO {c R : Nat} {ms : List Int} (hm : ∀ i, i < c → ms.getD i 0 = ((bitR c R i : Nat) : Int)) (hc : 0 < c) :
    (List.range c).map (fun (i : Nat) => ms.getD ((2 * (i : Int)).fmod (c : Int)).toNat 0) = (secN c R).map fun x : Nat => (x : Int) := by
  rw [secN, List.map_map]
  refine List.map_congr_left fun i _ => ?_
  have e : (2 * (i : Int)).fmod (c : Int) = ((2 * i % c : Nat) : Int) := by rw [← fmod_nat]; simp
  rw [e, Int.toNat_natCast, hm _ (Nat.mod_lt _ hc), bitR_mod]
  rfl
theorem pq_segP {n c R : Nat} {ms : List Int} (hm : ∀ i, i < c → ms.getD i 0 = ((bitR c R i : Nat) : Int)) (hc : 0 < c) (hn : n ≤ c) :
    keepF (fun (i : Nat) => decide ((List.range n).map (fun (j : Nat) => ms.getD (((i : Int) + (j : Int)).fmod (c : Int)).toNat 0) = ((secN c R).map fun x : Nat => (x : Int)).take n)) (fun (i : Nat) => (i : Int)) c = (begN n c R).map fun x : Nat => (x : Int) := by
  rw [keepF_eq, begN]
  congr 1
  refine List.filter_congr fun i _ => ?_
  rw [Bool.eq_iff_iff, decide_eq_true_eq, secN, List.map_map, ← List.map_take, List.take_range, Nat.min_eq_left hn, List.map_inj_left, List.all_eq_true]
  refine ⟨fun q j hj => ?_, fun q j hj => ?_⟩ <;> have q1 := q j hj <;> have e : ((i : Int) + (j : Int)).fmod (c : Int) = (((i + j) % c : Nat) : Int) := (by rw [← fmod_nat, Int.natCast_add])
  · rw [e, Int.toNat_natCast, hm _ (Nat.mod_lt _ hc), bitR_mod] at q1
    have q2 : bitR c R (i + j) = R / 2 ^ (2 * j % c) % 2 := Int.ofNat.inj q1
    exact Nat.beq_eq.symm ▸ q2
  · rw [e, Int.toNat_natCast, hm _ (Nat.mod_lt _ hc), bitR_mod]
    have q2 : bitR c R (i + j) = R / 2 ^ (2 * j % c) % 2 := Nat.eq_of_beq_eq_true q1
    exact congrArg Int.ofNat q2
theorem pq_segQ {p n c R : Nat} (h : (p, n, c) ∈ PQ) (hR : R ∈ rots p n c) : ∃ b : Nat, ((begN n c R).map fun x : Nat => (x : Int)).getD (Int.toNat 0) 0 = (b : Int) ∧ b ≤ c ∧ 0 < (begN n c R).length ∧ (begN n c R).length ≤ c ∧
    (((List.range c).map (fun (i : Nat) => ((secN c R).map fun x : Nat => (x : Int)).getD i 0 * (2 : Int) ^ i)).sum = ((rotN c R (c - b) : Nat) : Int)) := by
  have hz := List.all_eq_true.mp (allPQ_use chkZ_all h) R hR
  have hl : (begN n c R).length ≤ c := by
    have := List.length_filter_le (fun k => (List.range n).all fun j => Nat.beq (R / 2 ^ ((k + j) % c) % 2) (R / 2 ^ (2 * j % c) % 2)) (List.range c)
    rwa [List.length_range] at this
  cases hb : begN n c R with
  | nil => rw [hb] at hz; cases hz
  | cons b r =>
    rw [hb] at hz hl
    simp only [Bool.and_eq_true] at hz
    refine ⟨b, rfl, Nat.le_of_ble_eq_true hz.1, by simp, hl, ?_⟩
    rw [Nat.eq_of_beq_eq_true hz.2, ringN_bsum]
    have e : (secN c R).length = c := by simp [secN]
    rw [e]
    refine sum_bsum c fun i hi => ?_
    rw [getD_map_int]
    congr 2
    simp only [secN, List.getD_eq_getElem?_getD, List.getElem?_map, List.getElem?_range hi]
    simp
end Mine
end
section
namespace Mine
section
variable {prog : Program} {w : World} {A : Around} {E : Value → Shared → Prop} {Q : Flow → Shared → Prop} {s : Shared} {env : Env} {h₀ : Heap} {x : Str} {body : List Stmt}
theorem list_loopT {ax : Addr} {lo : Obj} {vs : List Value} {n : Nat} {m₀ : Str → Option Value} {news : List (Addr × Obj)} (P : List Value → (Str → Option Value) → List (Addr × Obj) → Prop)
    (hh : A.handled = none) (F : Fr h₀ env.locals s.heap m₀) (N : News h₀ env.locals s.heap news) (hm : (ax, lo) ∈ news) (hc : lo.cls = .type "list") (hd : lo.data = .seq vs.toArray n) (hmem : ∀ r m news, P r m news → (ax, lo) ∈ news) (h0 : P vs m₀ news)
    (turn : ∀ I v r m news₁ it h tk, (∀ p ∈ news, @LT.lt Nat _ p.1 I) → NotTab it → P (v :: r) m news₁ → Fr h₀ env.locals h (fun y => if y = x then some v else m y) → News h₀ env.locals h ((I, it) :: news₁) →
      wpAny (model prog w) A (execs body env) (JPost h₀ env.locals { s with heap := h, toks := tk } I it (P r)) E { s with heap := h, toks := tk })
    (done : ∀ m news h tk, P [] m news → Fr h₀ env.locals h m → News h₀ env.locals h news → Q .next { s with heap := h, toks := tk }) :
    wpAny (model prog w) A (pyIter (.ref ax)) (fun it s₂ => LoopAtV prog w A h₀ env x body Q E it s₂) E s := by
  have hax := N _ hm
  have hl : s.heap.IsList ax vs.toArray := ⟨lo, hax.1, hc, n, hd⟩
  have hlt : ax < s.heap.objs.size := Heap.lt_size hax.1
  have hne : ax ≠ s.heap.objs.size := Nat.ne_of_lt hlt
  refine wpAny_pyIter_list hl ?_
  have W := Walks.list (prog := prog) (w := w) hh s.heap.objs.size ax hne vs.toArray
  have hnew := next_is_new F
  rw [show vs.toArray.size = vs.length by simp] at W
  refine ⟨_, _, _, vs.length, _, _, m₀, news, fun i m₁ news₁ => P (vs.drop i) m₁ news₁, rfl, W, ?_, ?_, ?_, ⟨⟨_, Heap.get?_push_size _ rfl, rfl, rfl⟩, hl.at fun o e => Heap.get?_push_of_some _ e⟩, F.push _, (fun p hp => ⟨Heap.get?_push_of_some _ (N p hp).1, (N p hp).2⟩), (by show P (List.drop 0 vs) m₀ news; rw [List.drop_zero]; exact h0), ?_, ?_⟩
  · intro hmm
    rcases List.mem_cons.mp hmm with e | hmm
    · exact absurd F.ns.lt (e ▸ Nat.lt_irrefl _)
    · exact hax.2.1 (List.mem_singleton.mp hmm).symm
  · intro b hb; rw [List.mem_singleton.mp hb]; exact hnew
  · intro p hp hI; exact absurd (Heap.lt_size (N p hp).1) ((List.mem_singleton.mp hI) ▸ Nat.lt_irrefl _)
  · rintro i v m₁ news₁ s₁ own ⟨g, tk', rfl⟩ hin hv hJ hoff hown hget hall hst F₁ N₁
    obtain ⟨it, hit, hic, hid⟩ := hst.1
    have hIo := hall s.heap.objs.size (List.mem_cons_self ..) hnew _ hit
    have hdrop : vs.drop i = v :: vs.drop (i + 1) := by
      have hlt' : i < vs.length := hin
      have hv' : vs[i]? = some v := by simpa using hv
      rw [List.drop_eq_getElem_cons hlt', Option.some.inj ((List.getElem?_eq_getElem hlt').symm.trans hv')]
    rw [hdrop] at hJ
    have hmem₁ := hmem _ _ _ hJ
    have hnt : NotTab it := by
      refine .inl ⟨(by rw [hic]; intro h; cases h), ?_⟩
      intro us e a b
      rw [hid] at e
      have e2 : us = #[.ref ax, .int ((i : Int) + 1) 0] := by simpa [eq_comm] using e
      rw [e2]; simp
    have N₂ : News h₀ env.locals g ((s.heap.objs.size, it) :: news₁) := fun p hp => by
      rcases List.mem_cons.mp hp with rfl | hp
      · exact N₁ _ (List.mem_append_left _ hIo)
      · exact N₁ _ (List.mem_append_right _ hp)
    refine wpAny_mono (turn _ v _ m₁ news₁ it g tk' (fun p hp => Heap.lt_size (N p hp).1) hnt hJ F₁ N₂) (fun f s₂ q => ?_) fun _ _ e => e
    obtain ⟨rfl, h', tk, m', news', rfl, F', N', ho, hP⟩ := q
    refine .next ⟨rfl, h', tk, m', news', rfl, F', fun p hp => ?_, fun p hp hI => ho p hp (List.mem_singleton.mp hI), hP⟩
    rcases List.mem_append.mp hp with hp | hp
    · have h2 : g.get? p.1 = some p.2 := hget p hp
      rcases List.mem_cons.mp (hown p hp) with h1 | h1
      · rw [h1, hit] at h2
        rw [show p = (s.heap.objs.size, it) from Prod.ext h1 (Option.some.inj h2).symm]; exact N' _ (List.mem_cons_self ..)
      · have h1' : p.1 = ax := List.mem_singleton.mp h1
        rw [h1', (N₁ _ (List.mem_append_right _ hmem₁)).1] at h2
        rw [show p = (ax, lo) from Prod.ext h1' (Option.some.inj h2).symm]; exact N' _ (List.mem_cons_of_mem _ (hmem _ _ _ hP))
    · exact N' _ (List.mem_cons_of_mem _ hp)
  · rintro h' tk m' news' F' N' _ hJ
    have hJ' : P [] m' news' := by simpa using hJ
    exact done _ _ _ _ hJ' F' N'
end
end Mine
namespace Mine
theorem off_loop {h₀ h : Heap} {L I : Addr} {it : Obj} {e rst tb tb8 : List (Addr × Obj)} (hlt : ∀ p ∈ e ++ (rst ++ tb), @LT.lt Nat _ p.1 I) (hT8 : Tabs tb8) (N : News h₀ L h ((I, it) :: (e ++ (rst ++ tb8)))) (hn : NotTab it) : ∀ p ∈ e ++ (rst ++ tb8), p.1 ≠ I := by
  intro p hp
  rcases List.mem_append.mp hp with h | h
  · exact Nat.ne_of_lt (hlt p (List.mem_append_left _ h))
  · rcases List.mem_append.mp h with h | h
    · exact Nat.ne_of_lt (hlt p (List.mem_append_right _ (List.mem_append_left _ h)))
    · exact hT8.ne N (X := I) (ob := it) (.head _) (fun q hq => .tail _ (List.mem_append_right _ (List.mem_append_right _ hq))) hn p h
end Mine
end
section
set_option maxRecDepth 100000
namespace Mine
open Builtin.Int (intBits)

def wdJ (x : Str) : Nat := (namesL.findIdx? (· == x)).getD 0
def wdS (R Tn n : Int) (x : Str) : Int := R * 2 ^ (Tn + n - (wdJ x : Int)).toNat
def WdOK (R Wh Tn n : Int) (x : Str) : Prop := namesL.findIdx? (· == x) = some (wdJ x) ∧ 0 ≤ Tn + n - (wdJ x : Int) ∧ (intBits 2 : Int) * (Tn + n - (wdJ x : Int)) ≤ 2 ^ 27 ∧ 0 ≤ R * 2 ^ (Tn + n - (wdJ x : Int)).toNat ∧ intBits (R * 2 ^ (Tn + n - (wdJ x : Int)).toNat) ≤ 20 * intBits Wh ∧ intBits ((2 : Int) ^ (Tn + n - (wdJ x : Int)).toNat) ≤ 400
def JWd (R Wh Tn n fin : Int) (m₀ : Str → Option Value) (e rst : List (Addr × Obj)) (rv : List Value) (m : Str → Option Value) (news : List (Addr × Obj)) : Prop :=
  ∃ (u : Option Value) (ws : List Str) (l : Int) (tl : Tok) (tb : List (Addr × Obj)), StrsAre rv ws ∧ Tabs tb ∧ (∀ x ∈ ws, WdOK R Wh Tn n x) ∧ ws.foldl (fun a x => Builtin.bitXor a (wdS R Tn n x % Wh)) l = fin ∧
    m = (fun y => if y = Str.ofString "word" then u else if y = Str.ofString "left" then some (.int l tl) else m₀ y) ∧ news = e ++ (rst ++ tb)
theorem strs_cons {v : Value} {r : List Value} {ws : List Str} (h : StrsAre (v :: r) ws) : ∃ x t ws', v = .str x t ∧ ws = x :: ws' ∧ StrsAre r ws' := by
  cases h with
  | cons x t h => exact ⟨x, t, _, rfl, rfl, h⟩
set_option maxHeartbeats 4000000 in
theorem segR {w : World} {loose : List Str} {mean : ExcName → Option Value} {mg mb : Str → Option Value} {fa : Addr} {cd : Value} {base h₀ : Heap} {L : Addr} {m : Str → Option Value} {s : Shared} {E : Value → Shared → Prop} {Q : Flow → Shared → Prop} {sc : Scope} {bd : List Stmt} {st0 st1 : Stmt} (hsc : sc = lawScope) (hbd : lawBody.drop 28 = st0 :: st1 :: bd) {R Wh Tn n p fin : Int} {tR tW tp t3 t6 : Tok} {Wn : Addr} {wv : List Value} {wc : Nat} {wsP : List Str} {o2 o3 o6 : Obj} {rst tb : List (Addr × Obj)}
   (B : Below callerA base [] h₀) (F : Fr h₀ L s.heap m) (X : (hd.heap_39 w.params).In h₀) (N : News h₀ L s.heap ((L + 1 + 1, o2) :: (Wn, W.listOf (List.toArray wv) wc) :: (L + 1 + 1 + 1 + 1 + 1 + 1, o6) :: (L + 1 + 1 + 1, o3) :: (rst ++ tb))) (T : Top topProg loose mean mg mb h₀) (qR : m (Str.ofString "ring") = some (.int R tR)) (qW : m (Str.ofString "whole") = some (.int Wh tW)) (qp : m (Str.ofString "prime") = some (.int p tp)) (d2 : o2.data = .cell (some (.ref Wn))) (d3 : o3.data = .cell (some (.int n t3))) (d6 : o6.data = .cell (some (.int Tn t6))) (hwv : StrsAre wv namesL)
   (hT : Tabs tb) (hNT : ∀ p ∈ rst, NotTab p.2) (C1 : CodeHd base 34 30) (C2 : CodeHd base 41 37) (hE : PassesOwn (model PySem.Challenge.rw_wo0032_02.row.prog w) (callerA.deeper (envOfC (Str.ofString "law") sc L fa cd)) (envOfC (Str.ofString "law") sc L fa cd) E) (hp0 : 0 ≤ p) (hp1 : p < 2 ^ 60) (hsp : Txt.split (Txt.join (Str.ofString ", ") (pfW PFT p)) (Str.ofString ", ") = wsP) (hW0 : 0 < Wh) (hWb : intBits Wh ≤ 31) (hRb : intBits R ≤ 31) (hok : ∀ x ∈ wsP, WdOK R Wh Tn n x)
   (hfin : wsP.foldl (fun a x => Builtin.bitXor a (wdS R Tn n x % Wh)) 0 = fin)
   (hnext : ∀ tb' tl m' h' tk', Tabs tb' → Fr h₀ L h' m' → (∀ y, [Str.ofString "word", Str.ofString "left"].contains y = false → m' y = m y) → m' (Str.ofString "left") = some (.int fin tl) → News h₀ L h' (rst ++ tb') → wpAny (model PySem.Challenge.rw_wo0032_02.row.prog w) (callerA.deeper (envOfC (Str.ofString "law") sc L fa cd)) (execs bd (envOfC (Str.ofString "law") sc L fa cd)) Q E { s with heap := h', toks := tk' }) : wpAny (model PySem.Challenge.rw_wo0032_02.row.prog w) (callerA.deeper (envOfC (Str.ofString "law") sc L fa cd)) (execs (st0 :: st1 :: bd) (envOfC (Str.ofString "law") sc L fa cd)) Q E s := by
  w_top off
  k_with_none
  k_with "LT1!" => (first | with_reducible assumption | with_reducible exact Nat.lt_succ_self _ | with_reducible exact And.left (by assumption) | with_reducible exact And.left (And.right (by assumption)) | with_reducible exact And.left (And.right (And.right (by assumption))) | with_reducible exact And.left (And.right (And.right (And.right (by assumption)))) | with_reducible exact And.left (And.right (And.right (And.right (And.right (by assumption))))) | with_reducible exact And.left (And.right (And.right (And.right (And.right (And.right (by assumption)))))) | with_reducible exact And.right (by assumption) | with_reducible exact And.right (And.right (by assumption)) | with_reducible exact And.right (And.right (And.right (by assumption))) | with_reducible exact And.right (And.right (And.right (And.right (by assumption)))))
  k_with "LT!" => (first | k_extra "LT1!" | ((with_reducible refine (Nat.lt_succ_of_lt ?_ : @LT.lt Nat _ _ (_ + 1))); first | k_extra "LT1!" | ((with_reducible refine (Nat.lt_succ_of_lt ?_ : @LT.lt Nat _ _ (_ + 1))); first | k_extra "LT1!" | ((with_reducible refine (Nat.lt_succ_of_lt ?_ : @LT.lt Nat _ _ (_ + 1))); k_extra "LT1!"))))
  k_with "NE!" => (first | with_reducible assumption | with_reducible exact Ne.symm (by assumption) | decide | ((fail_if_success (fail_if_success omega)); first | ((with_reducible refine Nat.ne_of_gt ?_); (fail_if_success (fail_if_success omega)); k_extra "LT!") | ((with_reducible refine Nat.ne_of_lt ?_); (fail_if_success (fail_if_success omega)); k_extra "LT!") | with_reducible exact And.left (by assumption) | with_reducible exact And.left (And.right (by assumption)) | with_reducible exact And.left (And.right (And.right (by assumption))) | omega))
  k_with "KNE!" => ((refine neN ?_; (try dsimp only); k_extra "NE!"))
  k_with "LBND!" => (first | assumption | decide | with_reducible exact Int.lt_of_lt_of_le (by assumption) (by decide) | with_reducible exact Int.lt_of_le_of_lt (by assumption) (by decide) | with_reducible exact Int.le_trans (by assumption) (by decide) | with_reducible exact Int.lt_of_lt_of_le (by decide) (by assumption) | with_reducible exact Int.le_trans (by decide) (by assumption) | with_reducible exact Int.natCast_nonneg _ | with_reducible exact Int.ne_of_gt (by assumption) | with_reducible exact Int.le_of_lt (by assumption) | with_reducible exact Nat.lt_of_lt_of_le (by assumption) (by decide) | with_reducible exact Nat.lt_of_le_of_lt (by assumption) (by decide) | with_reducible exact Nat.le_trans (by assumption) (by decide) | k_dflt omega | l_fact)
  k_with "ROOM!" => (((try simp only [depth_under_make, depth_under_kw, depth_in1, depth_deeper, depth_caller]); (try dsimp only [ktrTop]); first | with_reducible assumption | exact room_0 (by with_reducible assumption) | exact room_le (by with_reducible assumption) (by decide) | exact room_12 (by with_reducible assumption) (by decide)))
  k_with "UNITS!" => (((try simp only [units_in1, units_deeper, Around.mark_units, units_caller]); (try dsimp only [ktrTop]); first | with_reducible assumption | exact room_0 (by with_reducible assumption) | exact room_le (by with_reducible assumption) (by decide) | exact room_12 (by with_reducible assumption) (by decide) | exact room_123 (by with_reducible assumption) (by decide)))
  k_with "BITS!" => (first | (with_reducible assumption) | ((with_reducible refine bits_le_of_lt ?_ ?_) <;> l_bnd))
  k_with "ALL!" => (first | assumption | (refine' allNe (by assumption)) | (refine' neOfLt (by assumption)))
  k_with "EV!" => ((repeat' (first | exact Ev.const | exact Ev.cap (by with_unfolding_all rfl) | exact Ev.loc (by with_unfolding_all rfl) (by with_unfolding_all rfl) (by decide) | apply Ev.and1 | apply Ev.add | apply Ev.sub | apply Ev.neg | apply Ev.mul | apply Ev.fmod | apply Ev.fdiv | apply Ev.pow | apply Ev.shr | apply Ev.item (by with_unfolding_all rfl) (hs := by intro _ _; with_unfolding_all rfl) | apply Ev.bxor | apply Ev.band | apply EvP.lt (hm := by with_unfolding_all rfl) | apply EvP.le (hm := by with_unfolding_all rfl) | apply EvP.gt (hm := by with_unfolding_all rfl) | apply EvP.ge (hm := by with_unfolding_all rfl) | apply EvP.eq (hm := by with_unfolding_all rfl) | apply EvP.ne (hm := by with_unfolding_all rfl) | apply EvP.lelt (hm := by with_unfolding_all rfl) | apply EvP.not | apply EvP.int (hi := by rfl) | ((with_reducible show IntMulOk _ _); refine IntMulOk.of_le (by bits_by_make) (by bits_by_make) (by decide)) | exact PyProof.noPylong_small (by decide) | k_extra "EVC!" | ((fail_if_success (with_reducible show Int)); l_bnd))))
  k_with "EVC!" => (fail)
  k_with "binaryOp Mult int int" => ((k_here; (with_reducible refine' mul_int ?_ (by refine IntMulOk.of_le (by bits_by_make) (by bits_by_make) (by decide)))))
  k_with "binaryOp Pow int int" => ((k_here; (with_reducible refine pow_int ?_ ?_ ?_); (focus l_bnd); (focus l_bnd)))
  have hnl : namesL.length ≤ 1000000 := by rw [show namesL.length = 32 by simp [namesL]]; decide
  with_unfolding_all (conv at hsc => rhs; whnf)
  dsimp only at hsc
  with_unfolding_all (conv at hbd => lhs; whnf)
  injection hbd with hst0 hbd
  (try dsimp only at hst0)
  with_unfolding_all (conv at hbd => lhs; whnf)
  injection hbd with hst1 hbd
  (try dsimp only at hst1)
  clear hbd
  subst hsc hst0 hst1
  replace F := fr_focus qp F
  replace F := fr_focus (k := Str.ofString "whole") (v := .int Wh tW) (by (try dsimp only); rw [if_neg (by decide)]; exact qW) F
  replace F := fr_focus (k := Str.ofString "ring") (v := .int R tR) (by (try dsimp only); rw [if_neg (by decide)]; rw [if_neg (by decide)]; exact qR) F
  revert B F X N T
  k_fill
  intro B F X N T
  k_with "eval BinOp" => (k_dflt (refine ev_eq (κ := [(Str.ofString "turn", .int Tn), (Str.ofString "size", .int n)]) (by with_unfolding_all rfl) (by k_asm) (by with_unfolding_all rfl) (by exact List.forall_mem_cons.mpr ⟨rd_cell (by with_unfolding_all rfl) (by k_asm) (by with_unfolding_all rfl) (by with_unfolding_all rfl) (by k_mem) (by assumption) (by with_unfolding_all rfl), List.forall_mem_cons.mpr ⟨rd_cell (by with_unfolding_all rfl) (by k_asm) (by with_unfolding_all rfl) (by with_unfolding_all rfl) (by k_mem) (by assumption) (by with_unfolding_all rfl), List.forall_mem_nil _⟩⟩) (by k_extra "EV!") (by first | with_reducible assumption | exact rfl) _ _ rfl ?_); intro t8 tk8; (try dsimp only))
  k_with "exec For Name Call cons nil" => ((with_reducible rename Fr _ _ _ _ => lF'); (with_unfolding_all refine' For_invVF lF' ?k1 ?k2 ?_ (hE := hE); (case k1 => exact rfl); (case k2 => exact rfl); k_whole))
  k_with "pyIter ref" => (((with_reducible rename Fr _ _ _ _ => lF'); (with_reducible rename News _ _ _ _ => lN'); (with_unfolding_all refine list_loopT (JWd R Wh Tn n fin _ [(S9, W.listOf (List.toArray vs9) 0), (L + 1 + 1, o2), (Wn, W.listOf (List.toArray wv) wc), (L + 1 + 1 + 1 + 1 + 1 + 1, o6), (L + 1 + 1 + 1, o3)] rst) (by rfl) lF' lN' List.mem_cons_self (by rfl) (by rfl) (fun _ _ _ h => by obtain ⟨_, _, _, _, _, _, _, _, _, _, rfl⟩ := h; exact List.mem_cons_self) ⟨m (Str.ofString "word"), wsP, 0, _, tb, hs9, hT, hok, hfin, (by funext y; by_cases hy : y = Str.ofString "word"; (subst hy; (repeat rw [if_neg (by decide)]); rw [if_pos rfl]); (rw [if_neg hy])), rfl⟩ ?_ ?_); clear lF' lN'); (rotate_left); (intro m9 news9 h9 tk9 hJ9 F9 N9; (obtain ⟨u9, ws9, l9, tl9, tb9, hw9, hT9, hok9, hf9, rfl, rfl⟩ := hJ9); (try k_fold)); (rotate_left); (intro I9 v9 r9 m9 news9 it9 h9 tk9 hlt9 hnt9 hJ9 F9 N9; (obtain ⟨u9, ws9, l9, tl9, tb9, hw9, hT9, hok9, hf9, rfl, rfl⟩ := hJ9); (obtain ⟨x9, t9, ws8, rfl, rfl, hw8⟩ := strs_cons hw9); (obtain ⟨e1, e2, e3, e4, e5, e6⟩ := hok9 x9 (.head _)); (simp only [List.cons_append, List.nil_append] at N9); (have hN9 := offs (l := [(I9, it9), (S9, W.listOf (List.toArray vs9) 0), (L + 1 + 1, o2), (Wn, W.listOf (List.toArray wv) wc), (L + 1 + 1 + 1 + 1 + 1 + 1, o6), (L + 1 + 1 + 1, o3)]) hT9 N9 (by intro p hp; simp only [List.mem_cons, List.not_mem_nil, or_false] at hp; rcases hp with rfl | rfl | rfl | rfl | rfl | rfl; exact hnt9; exact NotTab.list; exact NotTab.cell d2; exact NotTab.list; exact NotTab.cell d6; exact NotTab.cell d3) hNT); (simp only [List.cons_append, List.nil_append] at hN9); (try k_fold)))
  k_with "call ref" => (first | (((with_unfolding_all refine c_dm hT9 (Ends.cons (Ends.cons (Ends.cons (Ends.cons (Ends.cons (Ends.cons (ends_app _ _))))))) hN9 (by k_asm) (by k_asm) (by k_asm) (by k_asm) (by k_asm) (by rfl) C1 C2 hW0 hWb e4 e5 (by ktr_room) (by ktr_units) ?_); intro D8 tb8 t8 u8 h8 k8 hT8 F8 N8 l8; (simp only [List.cons_append] at N8); (try dsimp only); (try k_fold))) | (((with_unfolding_all refine c_pf (by k_asm) (by k_asm) (by k_asm) (by k_asm) (by k_asm) (by rfl) hp0 hp1 (by ktr_room) (by ktr_units) ?_); intro t8 h8 k8 F8 N8; (try dsimp only); (try k_fold))))
  k_with "call builtin:str.split" => (k_dflt (refine r_splitj hp0 hp1 (by k_asm) (by k_asm) ?_); intro S9 vs9 h9 k9 hs9 F9 N9 l9; (rw [hsp] at hs9); (try dsimp only))
  k_with "call builtin:list.index" => (k_dflt (refine r_indexS (by k_asm) (by k_mem) hwv e1 hnl ?_); intro t8 tk8; (try dsimp only))
  k_with "JPost" => (((with_reducible rename News _ _ _ _ => nN); (have nN2 := cb_drop nN (fun q hq => List.Mem.tail _ hq)); clear nN; (refine JPost.intro (news' := [(S9, W.listOf (List.toArray vs9) 0), (L + 1 + 1, o2), (Wn, W.listOf (List.toArray wv) wc), (L + 1 + 1 + 1 + 1 + 1 + 1, o6), (L + 1 + 1 + 1, o3)] ++ (rst ++ tb8)) (by assumption) nN2 (off_loop hlt9 hT8 nN2 hnt9) ⟨_, ws8, _, _, tb8, hw8, hT8, fun x hx => hok9 x (.tail _ hx), hf9, (by funext y; (try dsimp only); by_cases hy : y = Str.ofString "word"; (subst hy; rw [if_neg (by decide), if_pos rfl, if_pos rfl]); (simp only [if_neg hy]; by_cases hl : y = Str.ofString "left"; (rw [if_pos hl, if_pos hl]; exact rfl); (simp only [if_neg hl, if_neg hy]))), rfl⟩)))
  k_steps
  (try dsimp only)
  cases hw9
  have hf : l9 = fin := hf9
  subst hf
  (with_reducible rename News _ _ _ _ => nN)
  with_unfolding_all refine hnext tb9 _ _ _ _ hT9 (by assumption) (by intro z h2; simp only [List.contains_cons, List.contains_nil, Bool.or_false, Bool.or_eq_false_iff, beq_eq_false_iff_ne, ne_eq] at h2; simp only [h2, if_false, ite_focus qR, ite_focus qW, ite_focus qp]) (by with_unfolding_all rfl) (cb_drop nN fun q hq => List.mem_append_right _ hq)
end Mine
end
section
set_option maxRecDepth 100000
namespace Mine
open Builtin.Int (intBits)
def chkW (p n c : Nat) : Bool := decide (pfL PFT (p : Int) 32 = (wrds p n).map (pfWord PFT))
theorem chkW_all : allPQ chkW = true := by decide +kernel
theorem wd_find : ∀ i : Fin 32, namesL.findIdx? (· == pfWord PFT i.val) = some i.val := by decide +kernel
theorem seg_t {t c k n : Nat} (h2 : t < c) (hk : k ≤ 2) (hn : n < c) : t + c * k + n ≤ 4 * c := by
  have := Nat.mul_le_mul_left c hk
  omega
theorem wd_swap {t m n i : Nat} (h : i ≤ n) : t + m + n - i = t + n - i + m := by omega
theorem pq_segR {p n c R t1 k : Nat} (h : (p, n, c) ∈ PQ) (hR : R ∈ rots p n c) (h1 : 0 < t1) (h2 : t1 < c) (hk : k ≤ 2) : ∃ wsP : List Str,
    Txt.split (Txt.join (Str.ofString ", ") (pfW PFT (p : Int))) (Str.ofString ", ") = wsP ∧ (∀ x ∈ wsP, WdOK (R : Int) (whN c) ((t1 + c * k : Nat) : Int) (n : Int) x) ∧
      wsP.foldl (fun a x => Builtin.bitXor a (wdS (R : Int) ((t1 + c * k : Nat) : Int) (n : Int) x % whN c)) 0 = 0 := by
  obtain ⟨h3, h5, h7, h31, hcn, hnc, hp, hp0, -, -, hpp⟩ := pq_facts h
  have hW : pfL PFT (p : Int) 32 = (wrds p n).map (pfWord PFT) := of_decide_eq_true (allPQ_use chkW_all h)
  have hc1 : 1 < c := Nat.lt_of_lt_of_le (by decide) h7
  have hlt := rots_lt hc1 hR
  have hi : ∀ i ∈ wrds p n, i ≤ n := fun i hi => by
    exact Nat.le_of_lt_succ (List.mem_range.mp (List.mem_filter.mp hi).1)
  have h32 : ∀ {i}, i ≤ n → i < 32 := fun hi => Nat.lt_of_le_of_lt (Nat.le_trans hi h5) (by decide)
  have hj : ∀ i, i ≤ n → wdJ (pfWord PFT i) = i := fun i hi => by
    rw [wdJ, wd_find ⟨i, h32 hi⟩]; rfl
  have hck : t1 + c * k + n ≤ 4 * c := seg_t h2 hk hnc
  have ht : ∀ i, i ≤ n → ((t1 + c * k : Nat) : Int) + (n : Int) - (wdJ (pfWord PFT i) : Int) = ((t1 + c * k + n - i : Nat) : Int) := fun i hi => wd_t hi (hj i hi)
  refine ⟨(wrds p n).map (pfWord PFT), ?_, ?_, ?_⟩
  · rw [split_pf (Nat.ne_of_gt hp0) (Nat.lt_trans hp (by decide)) hpp, hW]
  · intro x hx
    obtain ⟨i, hx2, rfl⟩ := List.mem_map.mp hx
    have hi := hi i hx2
    have f := turn_facts (R := R) (T := t1 + c * k + n - i) (ht i hi) h7 h31 hlt (Nat.le_trans (Nat.sub_le _ _) hck)
    refine ⟨by rw [hj i hi]; exact wd_find ⟨i, h32 hi⟩, f.2.2.2.1, f.2.2.2.2.1, f.1, f.2.1, Nat.le_trans f.2.2.2.2.2.1 (by decide)⟩
  · have hz := (turn_checks h hR h1 h2).2.2.2.2.2
    have key : ∀ (l : List Nat), (∀ i ∈ l, i ≤ n) → ∀ a : Nat, (l.map (pfWord PFT)).foldl (fun a x => Builtin.bitXor a (wdS (R : Int) ((t1 + c * k : Nat) : Int) (n : Int) x % whN c)) (a : Int) = ((l.foldl (fun a i => Nat.xor a (rotN c R (t1 + n - i))) a : Nat) : Int) := by
      intro l
      induction l with
      | nil => intro _ a; rfl
      | cons i l ih =>
        intro hl a
        have hi := hl i (.head _)
        have st : Builtin.bitXor (a : Int) (wdS (R : Int) ((t1 + c * k : Nat) : Int) (n : Int) (pfWord PFT i) % whN c) = ((Nat.xor a (rotN c R (t1 + n - i)) : Nat) : Int) := by
          rw [wdS, ht i hi, Int.toNat_natCast, rot_int, wd_swap hi, rot_period hc1 hlt]
          exact xor_nat _ _
        rw [List.map_cons, List.foldl_cons, List.foldl_cons, st, ih (fun j hj => hl j (.tail _ hj))]
    have := key (wrds p n) hi 0
    rw [hz] at this
    exact this
end Mine
end
section
set_option maxRecDepth 100000
namespace Mine
open Builtin.Int (intBits)
def TurnOK (R W t r : Int) : Prop := 0 ≤ R * 2 ^ t.toNat ∧ intBits (R * 2 ^ t.toNat) ≤ 20 * intBits W ∧ (R * 2 ^ t.toNat) % W = r ∧ 0 ≤ t ∧ (intBits 2 : Int) * t ≤ 2 ^ 27 ∧ intBits ((2 : Int) ^ t.toNat) ≤ 200 ∧ intBits (R * 2 ^ t.toNat / W) ≤ 200
structure F2 (p n c : Int) (cs sl0 sl ms zs bl : List Int) (Tp R W Tn r Bv xv bk : Int) (pl : Nat) (dl wsP : List Str) : Prop where
  nb : (intBits p : Int) - 1 = n
  nb2 : (intBits (-p) : Int) - 1 = n
  n3 : 3 ≤ n
  n5 : n ≤ 5
  cn : (2 : Int) ^ n.toNat - 1 = c
  c7 : 7 ≤ c
  c31 : c ≤ 31
  reg : Reg p n (1 + (cs.getD 1 0).fmod c)
  st : sts p n (1 + (cs.getD 1 0).fmod c) c.toNat = sl0
  s0l : sl0.length = c.toNat + 1
  sdl : sl0.dropLast = sl
  sC1 : sl0.getLastD 0 = sl.getD (Int.toNat 0) 0
  sC2 : srt sl = rangeKs 1 c.toNat
  stok : ∀ x ∈ sl, StOK ((List.range n.toNat).map fun k => (2 : Int) ^ k) x
  pw : ((List.range n.toNat).map fun k => (2 : Int) ^ k).length ≤ 5
  ng : ∀ x ∈ ((List.range n.toNat).map fun k => (2 : Int) ^ k), (if -x = 0 then false else (Builtin.bitAnd (-x) (-x - 1) == 0)) = false
  sll : sl.length = c.toNat
  mse : (sl.map fun (x : Int) => x / (2 : Int) ^ ((cs.getD 2 0).fmod n).toNat % (2 : Int)) = ms
  m01 : ∀ x ∈ ms, x = 0 ∨ x = 1
  tp : ((List.range 40).map fun (i : Nat) => ms.getD ((i : Int).fmod c).toNat 0 * (2 : Int) ^ i).sum = Tp
  ml : ms.length = c.toNat
  T0 : 0 ≤ Tp
  T1 : Tp < 2 ^ 60
  hdl : PySem.Flt.Hid (keepF (fun i => decide (ms.getD ((i : Int).fmod c).toNat 0 = 1)) (fun i => namesL.getD i Str.empty) 32 = dl)
  hpf : PySem.Flt.Hid (pfW PFT Tp = dl ++ [baseText "0x" 16 (Tp - Tp.fmod (2 ^ Int.toNat 32))])
  hR : Tp.fmod (2 ^ c.toNat) = R
  hW : (2 : Int) ^ c.toNat - 1 = W
  hTn : 1 + (cs.getD (Int.toNat 3) 0).fmod (c - 1) + ((cs.getD (Int.toNat 3) 0).fdiv 1000).fmod 3 * c = Tn
  W0 : 0 < W
  Wb : intBits W ≤ 31
  Rb : intBits R ≤ 31
  tT : TurnOK R W Tn r
  rs : ((List.range c.toNat).map fun (i : Nat) => ms.getD (((i : Int) - Tn).fmod c).toNat 0 * (2 : Int) ^ i).sum = r
  hB : Builtin.bitAnd R r = Bv
  hNb : ∀ i : Nat, 0 ≤ [R, r, Bv].getD i 0 ∧ [R, r, Bv].getD i 0 < 2 ^ 60
  hWd : (List.range 3).map (fun i => ((wl ([R, r, Bv].getD i 0) : Nat) : Int)) = [(2 : Int) ^ (n - 1).toNat, (2 : Int) ^ (n - 1).toNat, (2 : Int) ^ (n - 2).toNat]
  hx : Builtin.bitXor (sl.getD (Int.toNat 0) 0) (sl.getD ((-Tn).fmod c).toNat 0) = xv
  hj : sl.findIdx? (· == xv) = some pl
  tN : TurnOK R W (c - (pl : Int)) (Builtin.bitXor R r)
  hz : (List.range c.toNat).map (fun (i : Nat) => ms.getD ((2 * (i : Int)).fmod c).toNat 0) = zs
  zl : zs.length = c.toNat
  hb : keepF (fun (i : Nat) => decide ((List.range n.toNat).map (fun (j : Nat) => ms.getD (((i : Int) + (j : Int)).fmod c).toNat 0) = zs.take n.toNat)) (fun (i : Nat) => (i : Int)) c.toNat = bl
  b0 : (0 : Int) < bl.length
  b1 : bl.length ≤ 1000000
  z01 : ∀ x ∈ zs, x = 0 ∨ x = 1
  tQ : TurnOK R W (c - bl.getD (Int.toNat 0) 0) bk
  zS : ((List.range c.toNat).map (fun (i : Nat) => zs.getD i 0 * (2 : Int) ^ i)).sum = bk
  p0 : 0 ≤ p
  p1 : p < 2 ^ 60
  sp : Txt.split (Txt.join (Str.ofString ", ") (pfW PFT p)) (Str.ofString ", ") = wsP
  wok : ∀ x ∈ wsP, WdOK R W Tn n x
  fin : wsP.foldl (fun a x => Builtin.bitXor a (wdS R Tn n x % W)) 0 = 0
  tX0 : 0 ≤ R * W
  tXb : intBits (R * W) ≤ 20 * intBits W
  tq : R * W / W = R
  tr : R * W % W = 0
theorem fmod_ex {c : Nat} (x : Int) (hc : 0 < c) : ∃ s : Nat, s < c ∧ x.fmod (c : Int) = (s : Int) := by
  rw [Int.fmod_eq_emod_of_nonneg _ (Int.natCast_nonneg _)]
  have h1 := Int.emod_nonneg x (b := (c : Int)) (by omega)
  have h2 := Int.emod_lt_of_pos x (b := (c : Int)) (by omega)
  exact ⟨(x % (c : Int)).toNat, by omega, by omega⟩
theorem map01 {l : List Int} {e : Int} (x : Int) (h : x ∈ l.map fun y => y / e % 2) : x = 0 ∨ x = 1 := by
  obtain ⟨y, _, rfl⟩ := List.mem_map.mp h
  omega
theorem b_20 {c : Nat} (h : 7 ≤ c) : 31 + c ≤ 20 * c := by omega
theorem law2_facts {p n c : Nat} (h : (p, n, c) ∈ PQ) (cs : List Int) : ∃ (sl0 sl ms zs bl : List Int) (Tp R W Tn r Bv xv bk : Int) (pl : Nat) (dl wsP : List Str), F2 (p : Int) (n : Int) (c : Int) cs sl0 sl ms zs bl Tp R W Tn r Bv xv bk pl dl wsP := by
  obtain ⟨h3, h5, h7, h31, hcn, hnc, hp, hp0, hb1, hb2, hpp⟩ := pq_facts h
  have hc0 : 0 < c := Nat.lt_of_lt_of_le (by decide) h7
  have hc1 : 1 < c := Nat.lt_of_lt_of_le (by decide) h7
  obtain ⟨s, hs, es⟩ := fmod_ex (cs.getD 1 0) (c := c) hc0
  obtain ⟨j, hj, ej⟩ := fmod_ex (cs.getD 2 0) (c := n) (Nat.lt_of_lt_of_le (by decide) h3)
  obtain ⟨t', ht', et⟩ := fmod_ex (cs.getD (Int.toNat 3) 0) (c := c - 1) (Nat.sub_pos_of_lt hc1)
  obtain ⟨k, hk, ek⟩ : ∃ k : Nat, k < 3 ∧ ((cs.getD (Int.toNat 3) 0).fdiv 1000).fmod 3 = (k : Int) := fmod_ex ((cs.getD (Int.toNat 3) 0).fdiv 1000) (c := 3) (by decide)
  rw [cast_pred hc0] at et
  have e1 := one_cast s
  have eT : 1 + (t' : Int) + (k : Int) * (c : Int) = ((t' + 1 + c * k : Nat) : Int) := eT_l t' k c
  obtain ⟨c1, c2, c3, c4, c5⟩ := pq_segC h hs
  have hR := ring_mem h hs hj
  have hm : ∀ i, i < c → (((seqN p n c (s + 1)).map fun x : Nat => (x : Int)).map fun x : Int => x / (2 : Int) ^ j % 2).getD i 0 = ((bitR c (ringN j (seqN p n c (s + 1))) i : Nat) : Int) := fun i hi => by
    have := marks_bit j (seqN p n c (s + 1)) (i := i) (by rw [seqN_len]; exact hi)
    rwa [seqN_len] at this
  have hml : (((seqN p n c (s + 1)).map fun x : Nat => (x : Int)).map fun x : Int => x / (2 : Int) ^ j % 2).length = c := by rw [List.length_map, List.length_map, seqN_len]
  have hm01 : ∀ x ∈ (((seqN p n c (s + 1)).map fun x : Nat => (x : Int)).map fun x : Int => x / (2 : Int) ^ j % 2), x = 0 ∨ x = 1 := fun x hx => map01 x hx
  generalize hms : (((seqN p n c (s + 1)).map fun x : Nat => (x : Int)).map fun x : Int => x / (2 : Int) ^ j % 2) = ms at hm hml hm01
  generalize hRe : ringN j (seqN p n c (s + 1)) = R at hR hm
  have hlt := rots_lt hc1 hR
  have ht1 : 0 < t' + 1 := Nat.succ_pos t'
  have ht2 : t' + 1 < c := Nat.add_lt_of_lt_sub ht'
  have hlt2 : R < 2 ^ c := Nat.lt_of_lt_of_le hlt (Nat.sub_le _ _)
  have hT1 : t' + 1 + c * k ≤ 4 * c := T_le ht' hk
  obtain ⟨B, l1, l2, l3⟩ := pq_segL h hR (t1 := t' + 1) ht1 ht2
  obtain ⟨xv, m1, m2⟩ := pq_segM (k := k) h hs (t1 := t' + 1) ht1 ht2
  obtain ⟨b, q1, q2, q3, q4, q5⟩ := pq_segQ h hR
  obtain ⟨wsP, r1, r2, r3⟩ := pq_segR h hR (t1 := t' + 1) (k := k) ht1 ht2 (Nat.le_of_lt_succ hk)
  have tc := turn_checks h hR (t1 := t' + 1) ht1 ht2
  have per : rotN c R (t' + 1 + c * k) = rotN c R (t' + 1) := rot_period hc1 hlt
  have hTR : ((tapeN c R : Nat) : Int).fmod (2 ^ c) = (R : Int) := by
    have e : (2 : Int) ^ c = ((2 ^ c : Nat) : Int) := by simp
    rw [e, fmod_nat, tape_mod h31 hlt2]
  have hRb : intBits (R : Int) ≤ 31 := Nat.le_trans (bits_nat (k := c) hlt2) h31
  have hw := wh_facts h7 h31
  have tl := tape_lt c R
  have z0 : (secN c R).length = c := by simp [secN]
  refine ⟨(seqN p n (c + 1) (s + 1)).map (fun x : Nat => (x : Int)), (seqN p n c (s + 1)).map (fun x : Nat => (x : Int)), ms, (secN c R).map (fun x : Nat => (x : Int)), (begN n c R).map (fun x : Nat => (x : Int)), ((tapeN c R : Nat) : Int), (R : Int), whN c, ((t' + 1 + c * k : Nat) : Int), ((rotN c R (t' + 1) : Nat) : Int), B, xv, ((rotN c R (c - b) : Nat) : Int), plc p n c (t' + 1), keepF (fun i => decide (ms.getD ((i : Int).fmod (c : Int)).toNat 0 = 1)) (fun i => namesL.getD i Str.empty) 32, wsP, ?_⟩
  constructor
  case nb => exact hb1
  case nb2 => exact hb2
  case n3 => exact ge_i h3
  case n5 => exact ge_i h5
  case cn => exact pow_pred_i hcn
  case c7 => exact ge_i h7
  case c31 => exact ge_i h31
  case reg => rw [es, e1]; exact reg_pq h (hcn ▸ Nat.succ_lt_succ hs)
  case st => rw [es, e1, Int.toNat_natCast, c1]
  case s0l => rw [List.length_map, seqN_len]; rfl
  case sdl => exact c2
  case sC1 => exact c3
  case sC2 => exact c4
  case stok =>
    intro x hx
    obtain ⟨y, hy, rfl⟩ := List.mem_map.mp hx
    exact stok_pq h (c5 y hy).1 (c5 y hy).2
  case pw => rw [List.length_map, List.length_range]; exact h5
  case ng => exact neg_pq h
  case sll => rw [List.length_map, seqN_len]; rfl
  case mse => rw [ej, Int.toNat_natCast]; exact hms
  case m01 => exact hm01
  case tp => exact tape_sum hm hc0
  case ml => exact hml
  case T0 => exact Int.natCast_nonneg _
  case T1 => exact Int.lt_of_lt_of_le (Int.ofNat_lt.mpr tl) (by decide)
  case hdl => exact ⟨rfl⟩
  case hpf => exact ⟨tape_words h hR hm hc0⟩
  case hR => exact hTR
  case hW => exact wh_eq c
  case hTn => rw [et, ek, eT]
  case W0 => exact hw.1
  case Wb => rw [hw.2]; exact h31
  case Rb => exact hRb
  case tT => rw [← per]; exact turn_facts rfl h7 h31 hlt hT1
  case rs =>
    rw [← per]
    exact turn_sum (m := 4) (a := 4 * c - (t' + 1 + c * k)) hc1 hlt ((Nat.sub_add_cancel hT1).trans (Nat.mul_comm 4 c)) hm
  case hB => exact l1
  case hNb => exact l2
  case hWd => exact l3
  case hx => exact m1
  case hj => exact m2
  case tN =>
    have e := turn_facts (R := R) (T := c - plc p n c (t' + 1)) (t := (c : Int) - (plc p n c (t' + 1) : Int)) (Int.ofNat_sub (Nat.le_of_lt tc.2.2.2.1)).symm h7 h31 hlt (le_4 (Nat.sub_le _ _))
    rw [xor_nat]
    have e2 : R ^^^ rotN c R (t' + 1) = rotN c R (c - plc p n c (t' + 1)) := tc.2.2.2.2.1
    rw [e2]
    exact e
  case hz => exact pq_segO hm hc0
  case zl => rw [List.length_map, z0]; rfl
  case hb => exact pq_segP hm hc0 (Nat.le_of_lt hnc)
  case b0 => rw [List.length_map]; exact Int.natCast_pos.mpr q3
  case b1 => rw [List.length_map]; exact Nat.le_trans q4 (Nat.le_trans h31 (by decide))
  case z01 =>
    intro x hx
    obtain ⟨y, hy, rfl⟩ := List.mem_map.mp hx
    obtain ⟨i, _, rfl⟩ := List.mem_map.mp hy
    exact mod2_01 _
  case tQ =>
    rw [q1]
    exact turn_facts (T := c - b) (Int.ofNat_sub q2).symm h7 h31 hlt (le_4 (Nat.sub_le _ _))
  case zS => exact q5
  case p0 => exact Int.natCast_nonneg _
  case p1 => exact Int.lt_of_lt_of_le (Int.ofNat_lt.mpr hp) (by decide)
  case sp => exact r1
  case wok => exact r2
  case fin => exact r3
  case tX0 => exact Int.mul_nonneg (Int.natCast_nonneg _) (Int.le_of_lt hw.1)
  case tXb => exact Nat.le_trans (bits_mul hRb (Nat.le_of_eq hw.2)) (by rw [hw.2]; exact b_20 h7)
  case tq => exact Int.mul_ediv_cancel _ (Int.ne_of_gt hw.1)
  case tr => exact Int.mul_emod_left _ _
end Mine
end
section
set_option maxRecDepth 100000
namespace Mine
open Builtin.Int (intBits)

set_option maxHeartbeats 4000000 in
theorem segB {w : World} {loose : List Str} {mean : ExcName → Option Value} {mg mb : Str → Option Value} {fa : Addr} {cd : Value} {base h₀ : Heap} {L : Addr} {m : Str → Option Value} {s : Shared} {E : Value → Shared → Prop} {Q : Flow → Shared → Prop} {sc : Scope} {bd : List Stmt} {st0 st1 st2 : Stmt} (hsc : sc = lawScope) (hbd : lawBody.drop 3 = st0 :: st1 :: st2 :: bd) {D8 : Addr} {p n c : Int} {tp : Tok} {ys : List Value} {cs : List Int} {o1 o3 o4 o7 : Obj} {rst : List (Addr × Obj)}
   (B : Below callerA base [] h₀) (F : Fr h₀ L s.heap m) (X : (hd.heap_39 w.params).In h₀) (N : News h₀ L s.heap ((L + 1 + 1 + 1, o3) :: (L + 1 + 1 + 1 + 1, o4) :: (L + 1, o1) :: (D8, LCg.lst ys) :: rst)) (T : Top topProg loose mean mg mb h₀) (qp : m (Str.ofString "prime") = some (.int p tp)) (d1 : o1.data = .cell (some (.ref D8))) (d3 : o3.data = .cell none) (d4 : o4.data = .cell none) (hys : IntsAre ys cs) (hcs : cs.length = 4)
   (gD : @Ne Nat D8 (L + 3) ∧ @Ne Nat D8 (L + 4)) (hoff : ∀ q ∈ rst, q.1 ≠ L + 1 + 1 + 1) (hoff4 : ∀ q ∈ rst, q.1 ≠ L + 1 + 1 + 1 + 1) (m7 : (L + 7, o7) ∈ rst)
   (hR : Reg p n (1 + (cs.getD 1 0).fmod c)) (hn : (intBits p : Int) - 1 = n) (hn3 : 3 ≤ n) (hc : (2 : Int) ^ n.toNat - 1 = c) (hc1 : 7 ≤ c) (hc2 : c ≤ 31)
   (hnext : ∀ (S : Addr) (sv : List Value) (sn : Nat) (o3' o4' : Obj) t3 t4 m' h' tk', IntsAre sv (sts p n (1 + (cs.getD 1 0).fmod c) c.toNat) → o3'.data = .cell (some (.int n t3)) → o4'.data = .cell (some (.int c t4)) → (∀ q ∈ rst, @LT.lt Nat _ q.1 S) →
     Fr h₀ L h' m' → (∀ y, [Str.ofString "states"].contains y = false → m' y = m y) → m' (Str.ofString "states") = some (.ref S) → News h₀ L h' ((S, W.listOf (List.toArray sv) sn) :: (L + 1 + 1 + 1 + 1, o4') :: (L + 1 + 1 + 1, o3') :: rst) → wpAny (model PySem.Challenge.rw_wo0032_02.row.prog w) (callerA.deeper (envOfC (Str.ofString "law") sc L fa cd)) (execs bd (envOfC (Str.ofString "law") sc L fa cd)) Q E { s with heap := h', toks := tk' }) : wpAny (model PySem.Challenge.rw_wo0032_02.row.prog w) (callerA.deeper (envOfC (Str.ofString "law") sc L fa cd)) (execs (st0 :: st1 :: st2 :: bd) (envOfC (Str.ofString "law") sc L fa cd)) Q E s := by
  w_top off
  k_with_none
  k_with "BITS!" => (first | (with_reducible assumption) | ((with_reducible refine bits_le_of_lt ?_ ?_) <;> l_bnd))
  k_with "ALL!" => (first | assumption | (refine' allNe (by assumption)) | (refine' neOfLt (by assumption)))
  k_with "FinE" => ((k_here; k_dflt (unfold LCg.FinE); intro D9 h9 k9 F9 N9 o9; (have o1' := o9); (try simp only [LCg.Off1, and_true] at o1'); (try simp only [List.nil_append, List.cons_append] at N9); (try dsimp only)))
  k_with "FinA" => ((k_here; k_dflt (unfold LCg.FinA); intro D9 h9 k9 F9 N9 o9; (have o1' := o9); (try simp only [LCg.Off1, and_true] at o1'); (try simp only [List.nil_append, List.cons_append] at N9); (try dsimp only)))
  k_with "EV!" => ((repeat' (first | exact Ev.const | exact Ev.cap (by with_unfolding_all rfl) | exact Ev.loc (by with_unfolding_all rfl) (by with_unfolding_all rfl) (by decide) | apply Ev.and1 | apply Ev.add | apply Ev.sub | apply Ev.neg | apply Ev.mul | apply Ev.fmod | apply Ev.fdiv | apply Ev.pow | apply Ev.shr | apply Ev.item (by with_unfolding_all rfl) (hs := by intro _ _; with_unfolding_all rfl) | apply Ev.bxor | apply Ev.band | apply EvP.lt (hm := by with_unfolding_all rfl) | apply EvP.le (hm := by with_unfolding_all rfl) | apply EvP.gt (hm := by with_unfolding_all rfl) | apply EvP.ge (hm := by with_unfolding_all rfl) | apply EvP.eq (hm := by with_unfolding_all rfl) | apply EvP.ne (hm := by with_unfolding_all rfl) | apply EvP.lelt (hm := by with_unfolding_all rfl) | apply EvP.not | apply EvP.int (hi := by rfl) | ((with_reducible show IntMulOk _ _); refine IntMulOk.of_le (by bits_by_make) (by bits_by_make) (by decide)) | k_extra "EVC!" | ((fail_if_success (with_reducible show Int)); l_bnd))))
  k_with "EVC!" => (fail)
  obtain ⟨gD3, gD4⟩ := gD
  have hyl := hys.length
  have hpw : (intBits 2 : Int) * n ≤ 2 ^ 27 := by have := hR.2.1; rw [show intBits 2 = 2 by decide]; omega
  have hc0 : c ≠ 0 := by omega
  have hcp : 0 < c := by omega
  have hm0 := Int.fmod_nonneg_of_pos (cs.getD (Int.toNat 1) 0) hcp
  have hm1 := Int.fmod_lt_of_pos (cs.getD (Int.toNat 1) 0) hcp
  with_unfolding_all (conv at hsc => rhs; whnf)
  dsimp only at hsc
  with_unfolding_all (conv at hbd => lhs; whnf)
  injection hbd with hst0 hbd
  (try dsimp only at hst0)
  with_unfolding_all (conv at hbd => lhs; whnf)
  injection hbd with hst1 hbd
  (try dsimp only at hst1)
  with_unfolding_all (conv at hbd => lhs; whnf)
  injection hbd with hst2 hbd
  (try dsimp only at hst2)
  clear hbd
  subst hsc hst0 hst1 hst2
  replace F := fr_focus qp F
  revert B F X N T
  k_fill
  intro B F X N T
  k_with "eval BinOp" => (k_dflt (refine ev_eq (κ := [(Str.ofString "size", .int n)]) (by with_unfolding_all rfl) (by k_asm) (by with_unfolding_all rfl) (by exact List.forall_mem_cons.mpr ⟨rd_cell (by with_unfolding_all rfl) (by k_asm) (by with_unfolding_all rfl) (by with_unfolding_all rfl) (by k_mem) (by assumption) (by with_unfolding_all rfl), List.forall_mem_nil _⟩) (by k_extra "EV!") (by first | with_reducible assumption | exact rfl) _ _ rfl ?_); intro t8 tk8; (try dsimp only))
  k_with "call ref" => (first | (((with_unfolding_all refine c_high' (by with_reducible assumption) (by k_asm) (by k_asm) (by k_asm) (by k_asm) (by k_asm) (by rfl) (by ktr_room) (by ktr_units) ?_); intro t9 h9 k9 F9 N9; (try dsimp only); (try k_fold))) | (((with_unfolding_all refine c_states (by k_asm) (by k_asm) (by k_asm) (by k_asm) (by k_asm) (by rfl) hR (by omega) (by omega) hc (by omega) hc2 (by ktr_room) (by ktr_units) ?_); intro D7 ys7 c7 h7 k7 hs7 F7 N7 l7; (have l71 := l7); (k_lt l7); (try dsimp only); (try k_fold))))
  k_steps
  (with_reducible rename News _ _ _ _ => nN)
  with_unfolding_all refine hnext D7 ys7 c7 _ _ _ _ _ _ _ hs7 (by assumption) (by assumption) (fun q hq => l71 q (List.Mem.tail _ (List.Mem.tail _ (List.Mem.tail _ (List.Mem.tail _ hq))))) (by assumption) (by intro z h2; simp only [List.contains_cons, List.contains_nil, Bool.or_false, Bool.or_eq_false_iff, beq_eq_false_iff_ne, ne_eq] at h2; simp only [h2, if_false, ite_focus qp]) (by with_unfolding_all rfl) (cb_drop nN fun q hq => by simp only [List.mem_cons, List.mem_append] at hq ⊢; rcases hq with h | h | h | h <;> simp only [h, true_or, or_true])
end Mine
end
section
set_option maxRecDepth 100000
namespace Mine
open Builtin.Int (intBits)

theorem r_ne_f {prog : Program} {w : World} {A : Around} {E : Value → Shared → Prop} {s : Shared} {Q : Value → Shared → Prop} {h₀ : Heap} {L : Addr} {news : List (Addr × Obj)} {a b : Addr} {vs us : List Value} {ns : List Int} {c c2 : Nat} (N : News h₀ L s.heap news) (ha : (a, W.listOf (List.toArray vs) c) ∈ news) (hi : IntsAre vs ns) (hb : (b, W.listOf (List.toArray us) c2) ∈ news) (hi' : IntsAre us ns) (hu : A.units + 64 < cLine) (h : Q (.bool false) s) :
    wpAny (model prog w) A (compareOp .NotEq (.ref a) (.ref b)) Q E s := ne_intsK ⟨_, (N _ ha).1, rfl, c, rfl⟩ hi ⟨_, (N _ hb).1, rfl, c2, rfl⟩ hi' hu (by simpa using h)
set_option maxHeartbeats 4000000 in
theorem segC {w : World} {loose : List Str} {mean : ExcName → Option Value} {mg mb : Str → Option Value} {fa : Addr} {cd : Value} {base h₀ : Heap} {L : Addr} {m : Str → Option Value} {s : Shared} {E : Value → Shared → Prop} {Q : Flow → Shared → Prop} {sc : Scope} {bd : List Stmt} {st0 : Stmt} (hsc : sc = lawScope) (hbd : lawBody.drop 6 = st0 :: bd) {S : Addr} {c : Int} {sv : List Value} {sn : Nat} {sl0 sl : List Int} {o4 : Obj} {t4 : Tok} {rst : List (Addr × Obj)}
   (B : Below callerA base [] h₀) (F : Fr h₀ L s.heap m) (X : (hd.heap_39 w.params).In h₀) (N : News h₀ L s.heap ((S, W.listOf (List.toArray sv) sn) :: (L + 1 + 1 + 1 + 1, o4) :: rst)) (T : Top topProg loose mean mg mb h₀) (qS : m (Str.ofString "states") = some (.ref S)) (d4 : o4.data = .cell (some (.int c t4))) (hsv : IntsAre sv sl0) (hsl : sl0.length = c.toNat + 1) (hoff : ∀ q ∈ rst, @LT.lt Nat _ q.1 S) (m4 : (L + 1 + 1 + 1 + 1, o4) ∈ rst)
   (hst : sl0.dropLast = sl) (hC1 : sl0.getLastD 0 = sl.getD (Int.toNat 0) 0) (hC2 : srt sl = rangeKs 1 c.toNat) (hc1 : 7 ≤ c) (hc2 : c ≤ 31)
   (hnext : ∀ (sv' : List Value) (sn' : Nat) h' tk', IntsAre sv' sl → Fr h₀ L h' m → News h₀ L h' ((S, W.listOf (List.toArray sv') sn') :: rst) → wpAny (model PySem.Challenge.rw_wo0032_02.row.prog w) (callerA.deeper (envOfC (Str.ofString "law") sc L fa cd)) (execs bd (envOfC (Str.ofString "law") sc L fa cd)) Q E { s with heap := h', toks := tk' }) : wpAny (model PySem.Challenge.rw_wo0032_02.row.prog w) (callerA.deeper (envOfC (Str.ofString "law") sc L fa cd)) (execs (st0 :: bd) (envOfC (Str.ofString "law") sc L fa cd)) Q E s := by
  w_top off
  k_with_none
  k_with "BITS!" => (first | (with_reducible assumption) | ((with_reducible refine bits_le_of_lt ?_ ?_) <;> l_bnd))
  k_with "ALL!" => (first | assumption | (refine' allNe (by assumption)) | (refine' neOfLt (by assumption)))
  k_with "FinE" => ((k_here; k_dflt (unfold LCg.FinE); intro D9 h9 k9 F9 N9 o9; (have o1' := o9); (try simp only [LCg.Off1, and_true] at o1'); (try simp only [List.nil_append, List.cons_append] at N9); (try dsimp only)))
  k_with "FinA" => ((k_here; k_dflt (unfold LCg.FinA); intro D9 h9 k9 F9 N9 o9; (have o1' := o9); (try simp only [LCg.Off1, and_true] at o1'); (try simp only [List.nil_append, List.cons_append] at N9); (try dsimp only)))
  k_with "EV!" => ((repeat' (first | exact Ev.const | exact Ev.cap (by with_unfolding_all rfl) | exact Ev.loc (by with_unfolding_all rfl) (by with_unfolding_all rfl) (by decide) | apply Ev.and1 | apply Ev.add | apply Ev.sub | apply Ev.neg | apply Ev.mul | apply Ev.fmod | apply Ev.fdiv | apply Ev.pow | apply Ev.shr | apply Ev.item (by with_unfolding_all rfl) (hs := by intro _ _; with_unfolding_all rfl) | apply Ev.bxor | apply Ev.band | apply EvP.lt (hm := by with_unfolding_all rfl) | apply EvP.le (hm := by with_unfolding_all rfl) | apply EvP.gt (hm := by with_unfolding_all rfl) | apply EvP.ge (hm := by with_unfolding_all rfl) | apply EvP.eq (hm := by with_unfolding_all rfl) | apply EvP.ne (hm := by with_unfolding_all rfl) | apply EvP.lelt (hm := by with_unfolding_all rfl) | apply EvP.not | apply EvP.int (hi := by rfl) | ((with_reducible show IntMulOk _ _); refine IntMulOk.of_le (by bits_by_make) (by bits_by_make) (by decide)) | k_extra "EVC!" | ((fail_if_success (with_reducible show Int)); l_bnd))))
  k_with "EVC!" => (fail)
  have hS4 : @Ne Nat (L + 1 + 1 + 1 + 1) S := Nat.ne_of_lt (hoff _ m4)
  have hvl := hsv.length
  have hst9 := hst
  subst hst
  have hdl : sl0.dropLast.length = c.toNat := by rw [List.length_dropLast]; omega
  have hS9 : ∀ q ∈ rst, q.1 ≠ S := fun q hq => Nat.ne_of_lt (hoff q hq)
  have hsvl : sv.dropLast.length = c.toNat := by rw [List.length_dropLast]; omega
  with_unfolding_all (conv at hsc => rhs; whnf)
  dsimp only at hsc
  with_unfolding_all (conv at hbd => lhs; whnf)
  injection hbd with hst0 hbd
  (try dsimp only at hst0)
  clear hbd
  subst hsc hst0
  replace F := fr_focus qS F
  revert B F X N T
  k_fill
  intro B F X N T
  k_with "eval BinOp" => (k_dflt (refine ev_eq (κ := [(Str.ofString "count", .int c)]) (by with_unfolding_all rfl) (by k_asm) (by with_unfolding_all rfl) (by exact List.forall_mem_cons.mpr ⟨rd_cell (by with_unfolding_all rfl) (by k_asm) (by with_unfolding_all rfl) (by with_unfolding_all rfl) (by k_mem) (by assumption) (by with_unfolding_all rfl), List.forall_mem_nil _⟩) (by k_extra "EV!") (by first | with_reducible assumption | exact rfl) _ _ rfl ?_); intro t8 tk8; (try dsimp only))

  k_with "call builtin:list.pop" => (k_dflt (refine' kpa_pop ?F ?N ?U hsv ?l ?z ?_; (case F => k_asm); (case N => k_asm); (case U => k_upd); (case l => omega); (case z => rw [sizeLine_eq]; omega)); intro h9 t9 F9 N9 hI9; (try dsimp only))
  k_with "call builtin:sorted" => (k_dflt (refine r_srt (vs := sv.dropLast) (ns := sl0.dropLast) (by k_asm) (by k_asm) (by k_mem) (by assumption) (by omega) hC2 ?_); intro D9 ws9 c9 h9 F9 N9 l9 hi9; (try k_lt l9))
  k_with "call type:list" => (ktr_tell ((refine kll_range (by with_unfolding_all rfl) (by k_asm) (by k_asm) (by assumption) (rng_small (by decide) (by omega) (by omega)) (rng_size (n := c.toNat) (by omega) (by omega)) (by omega) ?_); intro D8 vs8 c8 h8 tk8 F8 N8 l8 hI8; (k_lt l8)))
  k_with "compareOp NotEq ref ref" => (k_dflt (refine r_ne_f (by k_asm) (by k_mem) (by assumption) (by k_mem) (by assumption) (by ke_room) ?_))
  k_steps
  · exact absurd hC1 (by assumption)
  · (try dsimp only)
    (with_reducible rename News _ _ _ _ => nN)
    with_unfolding_all refine hnext _ (sn + 1) _ _ hI9 (fr_un qS (by assumption)) (cb_drop nN fun q hq => by simp only [List.mem_cons] at hq ⊢; rcases hq with h | h <;> simp only [h, true_or, or_true])
end Mine
end
section
set_option maxRecDepth 100000
namespace Mine
open Builtin.Int (intBits)

set_option maxHeartbeats 4000000 in
theorem segD {w : World} {loose : List Str} {mean : ExcName → Option Value} {mg mb : Str → Option Value} {fa : Addr} {cd : Value} {base h₀ : Heap} {L : Addr} {m : Str → Option Value} {s : Shared} {E : Value → Shared → Prop} {Q : Flow → Shared → Prop} {sc : Scope} {bd : List Stmt} {st0 : Stmt} (hsc : sc = lawScope) (hbd : lawBody.drop 7 = st0 :: bd) {n : Int} {o3 : Obj} {t3 : Tok} {rst : List (Addr × Obj)}
   (B : Below callerA base [] h₀) (F : Fr h₀ L s.heap m) (X : (hd.heap_39 w.params).In h₀) (N : News h₀ L s.heap ((L + 1 + 1 + 1, o3) :: rst)) (T : Top topProg loose mean mg mb h₀) (d3 : o3.data = .cell (some (.int n t3))) (hn3 : 0 ≤ n) (hn5 : n ≤ 5)
   (hnext : ∀ (P : Addr) (ps : List Value) m' h' tk', IntsAre ps ((List.range n.toNat).map fun k => (2 : Int) ^ k) → LCg.Off1 P rst → Fr h₀ L h' m' → (∀ y, [Str.ofString "powers"].contains y = false → m' y = m y) → m' (Str.ofString "powers") = some (.ref P) → News h₀ L h' ((P, LCg.lst ps) :: rst) → wpAny (model PySem.Challenge.rw_wo0032_02.row.prog w) (callerA.deeper (envOfC (Str.ofString "law") sc L fa cd)) (execs bd (envOfC (Str.ofString "law") sc L fa cd)) Q E { s with heap := h', toks := tk' }) : wpAny (model PySem.Challenge.rw_wo0032_02.row.prog w) (callerA.deeper (envOfC (Str.ofString "law") sc L fa cd)) (execs (st0 :: bd) (envOfC (Str.ofString "law") sc L fa cd)) Q E s := by
  w_top off
  k_with_none
  k_with "BITS!" => (first | (with_reducible assumption) | ((with_reducible refine bits_le_of_lt ?_ ?_) <;> l_bnd))
  k_with "ALL!" => (first | assumption | (refine' allNe (by assumption)) | (refine' neOfLt (by assumption)))
  k_with "EV!" => ((repeat' (first | exact Ev.const | exact Ev.cap (by with_unfolding_all rfl) | exact Ev.loc (by with_unfolding_all rfl) (by with_unfolding_all rfl) (by decide) | apply Ev.and1 | apply Ev.add | apply Ev.sub | apply Ev.neg | apply Ev.mul | apply Ev.fmod | apply Ev.fdiv | apply Ev.pow | apply Ev.shr | apply Ev.item (by with_unfolding_all rfl) (hs := by intro _ _; with_unfolding_all rfl) | apply Ev.bxor | apply Ev.band | apply EvP.lt (hm := by with_unfolding_all rfl) | apply EvP.le (hm := by with_unfolding_all rfl) | apply EvP.gt (hm := by with_unfolding_all rfl) | apply EvP.ge (hm := by with_unfolding_all rfl) | apply EvP.eq (hm := by with_unfolding_all rfl) | apply EvP.ne (hm := by with_unfolding_all rfl) | apply EvP.lelt (hm := by with_unfolding_all rfl) | apply EvP.not | apply EvP.int (hi := by rfl) | ((with_reducible show IntMulOk _ _); refine IntMulOk.of_le (by bits_by_make) (by bits_by_make) (by decide)) | k_extra "EVC!" | ((fail_if_success (with_reducible show Int)); l_bnd))))
  k_with "EVC!" => (fail)
  with_unfolding_all (conv at hsc => rhs; whnf)
  dsimp only at hsc
  with_unfolding_all (conv at hbd => lhs; whnf)
  injection hbd with hst0 hbd
  (try dsimp only at hst0)
  clear hbd
  subst hsc hst0
  revert B F X N T
  k_fill
  intro B F X N T
  k_with "eval BinOp" => (k_dflt (refine evc_ok (κ := [(Str.ofString "k", .int (i9 : Int))]) (by exact List.forall_mem_cons.mpr ⟨rd_comp (by with_unfolding_all rfl) (by k_asm) (by with_unfolding_all rfl) (by k_mem) (by assumption) (by assumption) (by with_unfolding_all rfl) (by with_unfolding_all rfl), List.forall_mem_nil _⟩) (by k_extra "EV!") (by first | with_reducible assumption | exact rfl) _ _ rfl ?_); intro t7 tk7; (try dsimp only))
  k_with "CompSrc" => (k_dflt (refine LCg.CompSrc.range (by rfl) (by k_asm) (by k_asm) (by assumption) (rng_small (by decide) hn3 (by omega)) (rng_size (n := n.toNat) hn3 (by omega)) (by rw [sizeLine_eq]; omega) ?_; intro g9; (refine compG_ints (fun k => (2 : Int) ^ k) True.intro ?_ ?_); (rotate_left); (intro ys9 hs9; (have hl9 := hs9.length); (simp only [List.length_map, List.length_range] at hl9); (try dsimp only)); (rotate_left); (intro i9 hi9 ys9 hs9 v9 I9 oI9 C9 oC9 D9 m9 h9 tk9 E9 hv9 hC9 hx9 F9 N9 off9 ne9; (obtain ⟨t9', hv9'⟩ := hv9; subst hv9'); (rw [Int.zero_add] at hx9); (have hpw9 : (intBits 2 : Int) * (i9 : Int) ≤ 2 ^ 27 := by rw [show intBits 2 = 2 by decide]; omega); (try dsimp only))))
  k_with "IEnd" => (with_unfolding_all refine IEnd.int (by first | exact rfl | assumption) (by assumption) (by assumption) (by intro p hp; exact hp))
  k_with "FinA" => (k_dflt (unfold LCg.FinA); intro D9 h9 k9 F9 N9 o9; (have o19 := o9); (try simp only [LCg.Off1, and_true] at o19); (try simp only [List.nil_append, List.cons_append] at N9); (try dsimp only))

  k_steps
  with_unfolding_all refine hnext D9 ys9 _ _ _ hs9 o9.2 (by assumption) (by intro z h2; simp only [List.contains_cons, List.contains_nil, Bool.or_false, Bool.or_eq_false_iff, beq_eq_false_iff_ne, ne_eq] at h2; simp only [h2, if_false]) (by with_unfolding_all rfl) (cb_drop N9 fun q hq => by simp only [List.mem_cons, List.mem_append] at hq ⊢; rcases hq with h | h <;> simp only [h, true_or, or_true])
end Mine
end
section
set_option maxRecDepth 100000
namespace Mine
open Builtin.Int (intBits)

set_option maxHeartbeats 4000000 in
theorem segF {w : World} {loose : List Str} {mean : ExcName → Option Value} {mg mb : Str → Option Value} {fa : Addr} {cd : Value} {base h₀ : Heap} {L : Addr} {m : Str → Option Value} {s : Shared} {E : Value → Shared → Prop} {Q : Flow → Shared → Prop} {sc : Scope} {bd : List Stmt} {st0 : Stmt} (hsc : sc = lawScope) (hbd : lawBody.drop 9 = st0 :: bd) {P : Addr} {ps : List Value} {pl : List Int} {p n : Int} {tp t3 : Tok} {o3 : Obj} {rst : List (Addr × Obj)}
   (B : Below callerA base [] h₀) (F : Fr h₀ L s.heap m) (X : (hd.heap_39 w.params).In h₀) (N : News h₀ L s.heap ((P, LCg.lst ps) :: (L + 1 + 1 + 1, o3) :: rst)) (T : Top topProg loose mean mg mb h₀) (qP : m (Str.ofString "powers") = some (.ref P)) (qp : m (Str.ofString "prime") = some (.int p tp)) (d3 : o3.data = .cell (some (.int n t3))) (hps : IntsAre ps pl) (hpl : pl.length ≤ 5)
   (hib : ∀ x ∈ pl, (if -x = 0 then false else (Builtin.bitAnd (-x) (-x - 1) == 0)) = false) (hn : (intBits (-p) : Int) - 1 = n)
   (hnext : ∀ h' tk', Fr h₀ L h' m → News h₀ L h' rst → wpAny (model PySem.Challenge.rw_wo0032_02.row.prog w) (callerA.deeper (envOfC (Str.ofString "law") sc L fa cd)) (execs bd (envOfC (Str.ofString "law") sc L fa cd)) Q E { s with heap := h', toks := tk' }) : wpAny (model PySem.Challenge.rw_wo0032_02.row.prog w) (callerA.deeper (envOfC (Str.ofString "law") sc L fa cd)) (execs (st0 :: bd) (envOfC (Str.ofString "law") sc L fa cd)) Q E s := by
  w_top off
  k_with_none
  k_with "BITS!" => (first | (with_reducible assumption) | ((with_reducible refine bits_le_of_lt ?_ ?_) <;> l_bnd))
  k_with "ALL!" => (first | assumption | (refine' allNe (by assumption)) | (refine' neOfLt (by assumption)))
  k_with "EV!" => ((repeat' (first | exact Ev.const | exact Ev.cap (by with_unfolding_all rfl) | exact Ev.loc (by with_unfolding_all rfl) (by with_unfolding_all rfl) (by decide) | apply Ev.and1 | apply Ev.add | apply Ev.sub | apply Ev.neg | apply Ev.mul | apply Ev.fmod | apply Ev.fdiv | apply Ev.pow | apply Ev.shr | apply Ev.item (by with_unfolding_all rfl) (hs := by intro _ _; with_unfolding_all rfl) | apply Ev.bxor | apply Ev.band | apply EvP.lt (hm := by with_unfolding_all rfl) | apply EvP.le (hm := by with_unfolding_all rfl) | apply EvP.gt (hm := by with_unfolding_all rfl) | apply EvP.ge (hm := by with_unfolding_all rfl) | apply EvP.eq (hm := by with_unfolding_all rfl) | apply EvP.ne (hm := by with_unfolding_all rfl) | apply EvP.lelt (hm := by with_unfolding_all rfl) | apply EvP.not | apply EvP.int (hi := by rfl) | ((with_reducible show IntMulOk _ _); refine IntMulOk.of_le (by bits_by_make) (by bits_by_make) (by decide)) | k_extra "EVC!" | ((fail_if_success (with_reducible show Int)); l_bnd))))
  k_with "EVC!" => (fail)
  have hpv := hps.length
  with_unfolding_all (conv at hsc => rhs; whnf)
  dsimp only at hsc
  with_unfolding_all (conv at hbd => lhs; whnf)
  injection hbd with hst0 hbd
  (try dsimp only at hst0)
  clear hbd
  subst hsc hst0
  replace F := fr_focus qp F
  replace F := fr_focus (k := Str.ofString "powers") (v := .ref P) (by (try dsimp only); rw [if_neg (by decide)]; exact qP) F
  revert B F X N T
  k_fill
  intro B F X N T
  k_with "eval UnaryOp" => (k_dflt (refine ev_eq (κ := []) (by with_unfolding_all rfl) (by k_asm) (by with_unfolding_all rfl) (by exact List.forall_mem_nil _) (by k_extra "EV!") (by first | with_reducible assumption | exact rfl) _ _ rfl ?_); intro t8 tk8; (try dsimp only))
  k_with "eval UnaryOp" => (k_dflt (refine evc_ok (κ := [(Str.ofString "power", .int a9)]) (by exact List.forall_mem_cons.mpr ⟨rd_comp (by with_unfolding_all rfl) (by k_asm) (by with_unfolding_all rfl) (by k_mem) (by assumption) (by assumption) (by with_unfolding_all rfl) (by with_unfolding_all rfl), List.forall_mem_nil _⟩) (by k_extra "EV!") (by first | with_reducible assumption | exact rfl) _ _ rfl ?_); intro t7 tk7; (try dsimp only))
  k_with "call ref" => (first | (((with_unfolding_all refine c_isb' (by first | with_reducible assumption | exact hisb _ (by assumption)) (by k_asm) (by k_asm) (by k_asm) (by k_asm) (by k_asm) (by rfl) (by ktr_room) (by ktr_units) ?_); intro h9 k9 F9 N9; (try dsimp only); (try k_fold))) | (((with_unfolding_all refine c_high' (by with_reducible assumption) (by k_asm) (by k_asm) (by k_asm) (by k_asm) (by k_asm) (by rfl) (by ktr_room) (by ktr_units) ?_); intro t9 h9 k9 F9 N9; (try dsimp only); (try k_fold))))
  k_with "CompSrcT" => (k_dflt (refine LCt.CompSrcT.ledger (by rfl) (by k_asm) (by k_asm) (by k_mem) (by rw [sizeLine_eq, List.size_toArray]; omega) ?_; intro g9; (refine compT_ints (fun _ => false) (fun _ => 0) (.inr ⟨_, List.Mem.head _, rfl, _, rfl⟩) ?_ (fun _ _ h => by cases h) ?_); (rotate_left); (intro ys9 hs9; (rw [keepF_none] at hs9); (have hy9 := ints0 hs9); subst hy9; (try dsimp only)); (rotate_left); (intro i9 hi9 ys9 hs9 v9 I9 oI9 C9 oC9 D9 m9 h9 tk9 E9 hv9 hC9 hx9 F9 N9 off9 ne9; (obtain ⟨a9, t9, hv9', ha9, ham9⟩ := ints_at hps hv9); subst hv9'; (have hib9 := hib a9 ham9); (try dsimp only))))
  k_with "BEnd" => (with_unfolding_all refine BEnd.intro (by first | exact rfl | assumption) (by assumption) (by assumption) (by intro p hp; exact hp))
  k_with "compareOp NotEq ref ref" => (k_dflt (refine r_ne_nil_f (vs := []) rfl (by k_asm) (by k_mem) (by k_mem) (by ke_room) ?_))
  k_with "compareOp IsNot bool bool" => (with_reducible refine r_isnot_b rfl ?_)
  k_with "eval ListComp" => (k_dflt (refine LCt.ListComp_T (F₀ := by k_asm) (by with_unfolding_all rfl) (by decide) (by rfl) (by decide) (by rfl) ?_))
  k_with "FinE" => (k_dflt (unfold LCg.FinE); intro D9 h9 k9 F9 N9 o9; (have o19 := o9); (try simp only [LCg.Off1, and_true] at o19); (try simp only [List.nil_append, List.cons_append] at N9); (try dsimp only))

  k_steps
  · exact absurd rfl (show n ≠ n by assumption)
  · (try dsimp only)
    (with_reducible rename News _ _ _ _ => nN)
    with_unfolding_all exact hnext _ _ (fr_eqm (by assumption) (by intro z; simp only [ite_focus qp, ite_focus qP])) (cb_drop nN fun q hq => by repeat (first | exact hq | apply List.Mem.tail))
end Mine
end
section
set_option maxRecDepth 100000
namespace Mine
open Builtin.Int (intBits)

theorem getD_01 {ms : List Int} (h : ∀ x ∈ ms, x = 0 ∨ x = 1) (i : Nat) : ms.getD i 0 = 0 ∨ ms.getD i 0 = 1 := by
  rw [List.getD_eq_getElem?_getD]
  cases e : ms[i]? with
  | none => exact .inl rfl
  | some y => exact h y (List.mem_of_getElem? e)
theorem bits_01 {x : Int} (h : x = 0 ∨ x = 1) : intBits x ≤ 1 := by rcases h with rfl | rfl <;> decide
theorem bits_pow2 {i : Nat} (h : i < 64) : intBits ((2 : Int) ^ i) ≤ 64 := bits_le_of_lt (Int.le_of_lt (pow2_pos i)) (by
  have : (2 : Int) ^ i < 2 ^ 64 := by
    have h1 : (2 : Nat) ^ i < 2 ^ 64 := Nat.pow_lt_pow_right (by decide) h
    exact_mod_cast h1
  exact this)
set_option maxHeartbeats 4000000 in
theorem segG {w : World} {loose : List Str} {mean : ExcName → Option Value} {mg mb : Str → Option Value} {fa : Addr} {cd : Value} {base h₀ : Heap} {L : Addr} {m : Str → Option Value} {s : Shared} {E : Value → Shared → Prop} {Q : Flow → Shared → Prop} {sc : Scope} {bd : List Stmt} {st0 st1 : Stmt} (hsc : sc = lawScope) (hbd : lawBody.drop 10 = st0 :: st1 :: bd) {S D8 : Addr} {n c Tp : Int} {t3 t4 : Tok} {sv ys : List Value} {sn : Nat} {sl cs ms : List Int} {o1 o3 o4 o5 : Obj} {rst : List (Addr × Obj)}
   (B : Below callerA base [] h₀) (F : Fr h₀ L s.heap m) (X : (hd.heap_39 w.params).In h₀) (N : News h₀ L s.heap ((L + 1 + 1 + 1 + 1 + 1, o5) :: (S, W.listOf (List.toArray sv) sn) :: (L + 1, o1) :: (D8, LCg.lst ys) :: (L + 1 + 1 + 1, o3) :: (L + 1 + 1 + 1 + 1, o4) :: rst)) (T : Top topProg loose mean mg mb h₀) (qS : m (Str.ofString "states") = some (.ref S)) (d1 : o1.data = .cell (some (.ref D8))) (d3 : o3.data = .cell (some (.int n t3))) (d4 : o4.data = .cell (some (.int c t4))) (d5 : o5.data = .cell none)
   (hsv : IntsAre sv sl) (hys : IntsAre ys cs) (hcs : cs.length = 4) (hn : 0 < n) (hc : 0 < c) (hc2 : c ≤ 31) (hsl : sl.length = c.toNat) (hms : (sl.map fun (x : Int) => x / (2 : Int) ^ ((cs.getD 2 0).fmod n).toNat % (2 : Int)) = ms) (hm01 : ∀ x ∈ ms, x = 0 ∨ x = 1) (hT : ((List.range 40).map fun (i : Nat) => ms.getD ((i : Int).fmod c).toNat 0 * (2 : Int) ^ i).sum = Tp)
   (gS : @LT.lt Nat _ (L + 7) S) (gD : @Ne Nat D8 (L + 5)) (hoff : ∀ q ∈ rst, q.1 ≠ L + 1 + 1 + 1 + 1 + 1)
   (hnext : ∀ (Mk : Addr) (mv : List Value) (o5' : Obj) tT m' h' tk', IntsAre mv ms → o5'.data = .cell (some (.ref Mk)) → LCg.Off1 Mk rst → Fr h₀ L h' m' → (∀ y, [Str.ofString "tape"].contains y = false → m' y = m y) → m' (Str.ofString "tape") = some (.int Tp tT) → News h₀ L h' ((Mk, LCg.lst mv) :: (L + 1 + 1 + 1 + 1 + 1, o5') :: rst) → wpAny (model PySem.Challenge.rw_wo0032_02.row.prog w) (callerA.deeper (envOfC (Str.ofString "law") sc L fa cd)) (execs bd (envOfC (Str.ofString "law") sc L fa cd)) Q E { s with heap := h', toks := tk' }) : wpAny (model PySem.Challenge.rw_wo0032_02.row.prog w) (callerA.deeper (envOfC (Str.ofString "law") sc L fa cd)) (execs (st0 :: st1 :: bd) (envOfC (Str.ofString "law") sc L fa cd)) Q E s := by
  w_top off
  k_with_none
  k_with "BITS!" => (first | (with_reducible assumption) | ((with_reducible refine bits_le_of_lt ?_ ?_) <;> l_bnd))
  k_with "ALL!" => (first | assumption | (refine' allNe (by assumption)) | (refine' neOfLt (by assumption)))
  k_with "EV!" => ((repeat' (first | exact Ev.const | exact Ev.cap (by with_unfolding_all rfl) | exact Ev.loc (by with_unfolding_all rfl) (by with_unfolding_all rfl) (by decide) | apply Ev.and1 | apply Ev.add | apply Ev.sub | apply Ev.neg | apply Ev.mul | apply Ev.fmod | apply Ev.fdiv | apply Ev.pow | apply Ev.shr | apply Ev.item (by with_unfolding_all rfl) (hs := by intro _ _; with_unfolding_all rfl) | apply Ev.bxor | apply Ev.band | apply EvP.lt (hm := by with_unfolding_all rfl) | apply EvP.le (hm := by with_unfolding_all rfl) | apply EvP.gt (hm := by with_unfolding_all rfl) | apply EvP.ge (hm := by with_unfolding_all rfl) | apply EvP.eq (hm := by with_unfolding_all rfl) | apply EvP.ne (hm := by with_unfolding_all rfl) | apply EvP.lelt (hm := by with_unfolding_all rfl) | apply EvP.not | apply EvP.int (hi := by rfl) | ((with_reducible show IntMulOk _ _); refine IntMulOk.of_le (by bits_by_make) (by bits_by_make) (by decide)) | k_extra "EVC!" | ((fail_if_success (with_reducible show Int)); l_bnd))))
  k_with "EVC!" => (fail)
  have hvl := hsv.length
  have hml : ms.length = c.toNat := by rw [← hms, List.length_map, hsl]
  have hn0 : n ≠ 0 := Int.ne_of_gt hn
  have hc0 : c ≠ 0 := Int.ne_of_gt hc
  have hml4 : ms.length ≤ 1000000 := len_mil hml hc2
  have hf0 := Int.fmod_nonneg_of_pos (cs.getD (Int.toNat 2) 0) hn
  have h22 : intBits 2 ≤ 2 := by decide
  with_unfolding_all (conv at hsc => rhs; whnf)
  dsimp only at hsc
  with_unfolding_all (conv at hbd => lhs; whnf)
  injection hbd with hst0 hbd
  (try dsimp only at hst0)
  with_unfolding_all (conv at hbd => lhs; whnf)
  injection hbd with hst1 hbd
  (try dsimp only at hst1)
  clear hbd
  subst hsc hst0 hst1
  replace F := fr_focus qS F
  revert B F X N T
  k_fill
  intro B F X N T
  k_with "eval BinOp" => (k_dflt (refine evc_ok (κ := [(Str.ofString "state", .int (sl.getD i9 0)), (Str.ofString "cells", .ints cs), (Str.ofString "size", .int n)]) (by exact List.forall_mem_cons.mpr ⟨rd_comp (by with_unfolding_all rfl) (by k_asm) (by with_unfolding_all rfl) (by k_mem) (by assumption) (by assumption) (by with_unfolding_all rfl) (by with_unfolding_all rfl), List.forall_mem_cons.mpr ⟨rd_cells (by with_unfolding_all rfl) (by k_asm) (by with_unfolding_all rfl) (by with_unfolding_all rfl) (by k_mem) (by assumption) (by k_mem) (by assumption) (by with_unfolding_all rfl), List.forall_mem_cons.mpr ⟨rd_cell (by with_unfolding_all rfl) (by k_asm) (by with_unfolding_all rfl) (by with_unfolding_all rfl) (by k_mem) (by assumption) (by with_unfolding_all rfl), List.forall_mem_nil _⟩⟩⟩) (by k_extra "EV!") (by first | with_reducible assumption | exact rfl) _ _ rfl ?_); intro t7 tk7; (try dsimp only))
  k_with "eval BinOp" => (k_dflt (refine evc_ok (κ := [(Str.ofString "k", .int (i9 : Int)), (Str.ofString "marks", .ints ms), (Str.ofString "count", .int c)]) (by exact List.forall_mem_cons.mpr ⟨rd_comp (by with_unfolding_all rfl) (by k_asm) (by with_unfolding_all rfl) (by k_mem) (by assumption) (by assumption) (by with_unfolding_all rfl) (by with_unfolding_all rfl), List.forall_mem_cons.mpr ⟨rd_cells (by with_unfolding_all rfl) (by k_asm) (by with_unfolding_all rfl) (by with_unfolding_all rfl) (by k_mem) (by assumption) (by k_mem) (by assumption) (by with_unfolding_all rfl), List.forall_mem_cons.mpr ⟨rd_cell (by with_unfolding_all rfl) (by k_asm) (by with_unfolding_all rfl) (by with_unfolding_all rfl) (by k_mem) (by assumption) (by with_unfolding_all rfl), List.forall_mem_nil _⟩⟩⟩) (by k_extra "EV!") (by first | with_reducible assumption | exact rfl) _ _ rfl ?_); intro t7 tk7; (try dsimp only))
  k_with "IEnd" => (with_unfolding_all refine IEnd.int (by first | exact rfl | assumption) (by assumption) (by assumption) (by intro p hp; exact hp))
  k_with "exec Assign cons ListComp" => (ktr_tell ((with_reducible refine wpAny_Assign_Name ?_ ?_; rotate_left; with_unfolding_all rfl); k_dflt (refine LCg.ListComp_U (F₀ := by k_asm) (by with_unfolding_all rfl) (by decide) (by rfl) (by decide) (by rfl) ?_)))
  k_with "eval ListComp" => (k_dflt (refine LCg.ListComp_U (F₀ := by k_asm) (by with_unfolding_all rfl) (by decide) (by rfl) (by decide) (by rfl) ?_))
  k_with "call builtin:sum" => (k_dflt (refine sumK (by with_unfolding_all rfl) (by k_asm) (by k_asm) (news_list (by k_asm) (by k_mem)) hs9 ?_); intro h6 k6 t6 F6 N6; (rw [hT]); (try dsimp only))
  k_with "CompSrc" => (k_dflt (refine LCg.CompSrc.ledger (by rfl) (by k_asm) (by k_asm) (by k_mem) (by rw [sizeLine_eq, List.size_toArray]; omega) ?_; intro g9; (refine compG_ints (fun i => sl.getD i 0 / 2 ^ ((cs.getD 2 0).fmod n).toNat % 2) (.inr ⟨_, by k_mem, rfl, _, rfl⟩) ?_ ?_); (rotate_left); (intro ys9 hs9; (have hl9 := hs9.length); (simp only [List.length_map, List.length_range, List.size_toArray] at hl9); (replace hs9 : IntsAre ys9 ms := by (rw [← hms, ← range_getD sl, ← hvl]; exact hs9)); (try dsimp only)); (rotate_left); (intro i9 hi9 ys9 hs9 v9 I9 oI9 C9 oC9 D9 m9 h9 tk9 E9 hv9 hC9 hx9 F9 N9 off9 ne9; (obtain ⟨t9', hv9'⟩ := ints_atD hsv hv9; subst hv9'); skip; (try dsimp only))))
  k_with "CompSrc" => (k_dflt (refine LCg.CompSrc.range (by rfl) (by k_asm) (by k_asm) (by assumption) (by decide) (rng_size (n := 40) (by decide) (by decide)) (Nat.le_of_ble_eq_true rfl) ?_; intro g9; (refine compG_ints (fun (i : Nat) => ms.getD ((i : Int).fmod c).toNat 0 * (2 : Int) ^ i) True.intro ?_ ?_); (rotate_left); (intro ys9 hs9; (have hl9 := hs9.length); (simp only [List.length_map, List.length_range] at hl9); (try dsimp only)); (rotate_left); (intro i9 hi9 ys9 hs9 v9 I9 oI9 C9 oC9 D9 m9 h9 tk9 E9 hv9 hC9 hx9 F9 N9 off9 ne9; (obtain ⟨t9', hv9'⟩ := hv9; subst hv9'); (rw [Int.zero_add] at hx9); (have hi64 : i9 < 64 := Nat.lt_of_lt_of_le hi9 (by decide)); (have hpw9 := pw_27 hi64); (have hm0 := Int.fmod_nonneg_of_pos (i9 : Int) hc); (have hm1 := Int.fmod_lt_of_pos (i9 : Int) hc); (have hm1l : (i9 : Int).fmod c < ms.length := len_lt hml hc hm1); (have hb1 := bits_01 (getD_01 hm01 ((i9 : Int).fmod c).toNat)); (have hb2 := bits_pow2 hi64); (try dsimp only))))
  k_with "FinE" => (k_dflt (unfold LCg.FinE); intro D9 h9 k9 F9 N9 o9; (have o19 := o9); (try simp only [LCg.Off1, and_true] at o19); (try simp only [List.nil_append, List.cons_append] at N9); (try dsimp only))

  k_steps
  (with_reducible rename News _ _ _ _ => nN)
  with_unfolding_all refine hnext _ _ _ _ _ _ _ (by assumption) (by assumption) (off1_d (off1_d (off1_d (off1_d (off1_d (off1_d (by assumption))))))) (by assumption) (by intro z h2; simp only [List.contains_cons, List.contains_nil, Bool.or_false, Bool.or_eq_false_iff, beq_eq_false_iff_ne, ne_eq] at h2; simp only [h2, if_false, ite_focus qS]) (by with_unfolding_all rfl) (cb_drop nN fun q hq => by simp only [List.mem_cons] at hq ⊢; rcases hq with h | h | h <;> simp only [h, true_or, or_true])
end Mine
end
section
set_option maxRecDepth 100000
namespace Mine
open Builtin.Int (intBits)

theorem namesL_len : namesL.length = 32 := by simp [namesL]
set_option maxHeartbeats 1000000 in
theorem segH {w : World} {loose : List Str} {mean : ExcName → Option Value} {mg mb : Str → Option Value} {fa : Addr} {cd : Value} {base h₀ : Heap} {L : Addr} {m : Str → Option Value} {s : Shared} {E : Value → Shared → Prop} {Q : Flow → Shared → Prop} {sc : Scope} {bd : List Stmt} {st0 st1 : Stmt} (hsc : sc = lawScope) (hbd : lawBody.drop 12 = st0 :: st1 :: bd) {Mk Wn : Addr} {c Tp : Int} {t4 tT : Tok} {mv wv : List Value} {wc : Nat} {ms : List Int} {dl : List Str} {o2 o4 o5 : Obj} {rst : List (Addr × Obj)}
   (B : Below callerA base [] h₀) (F : Fr h₀ L s.heap m) (X : (hd.heap_39 w.params).In h₀) (N : News h₀ L s.heap ((L + 1 + 1 + 1 + 1 + 1, o5) :: (Mk, LCg.lst mv) :: (L + 1 + 1, o2) :: (Wn, W.listOf (List.toArray wv) wc) :: (L + 1 + 1 + 1 + 1, o4) :: rst)) (T : Top topProg loose mean mg mb h₀) (qT : m (Str.ofString "tape") = some (.int Tp tT)) (d2 : o2.data = .cell (some (.ref Wn))) (d4 : o4.data = .cell (some (.int c t4))) (d5 : o5.data = .cell (some (.ref Mk)))
   (hmv : IntsAre mv ms) (hwv : StrsAre wv namesL) (hc : 0 < c) (hc2 : c ≤ 31) (hml : ms.length = c.toNat) (hT0 : 0 ≤ Tp) (hT1 : Tp < 2 ^ 60) (hdl : PySem.Flt.Hid (keepF (fun i => decide (ms.getD ((i : Int).fmod c).toNat 0 = 1)) (fun i => namesL.getD i Str.empty) 32 = dl)) (hpf : PySem.Flt.Hid (pfW PFT Tp = dl ++ [baseText "0x" 16 (Tp - Tp.fmod (2 ^ Int.toNat 32))]))
   (hnext : ∀ h' tk' m', Fr h₀ L h' m' → (∀ y, [Str.ofString "due"].contains y = false → m' y = m y) → News h₀ L h' rst → wpAny (model PySem.Challenge.rw_wo0032_02.row.prog w) (callerA.deeper (envOfC (Str.ofString "law") sc L fa cd)) (execs bd (envOfC (Str.ofString "law") sc L fa cd)) Q E { s with heap := h', toks := tk' }) : wpAny (model PySem.Challenge.rw_wo0032_02.row.prog w) (callerA.deeper (envOfC (Str.ofString "law") sc L fa cd)) (execs (st0 :: st1 :: bd) (envOfC (Str.ofString "law") sc L fa cd)) Q E s := by
  w_top off
  k_with_none
  k_with "BITS!" => (first | (with_reducible assumption) | ((with_reducible refine bits_le_of_lt ?_ ?_) <;> l_bnd))
  k_with "ALL!" => (first | assumption | (refine' allNe (by assumption)) | (refine' neOfLt (by assumption)))
  k_with "EV!" => ((repeat' (first | exact Ev.const | exact Ev.cap (by with_unfolding_all rfl) | exact Ev.loc (by with_unfolding_all rfl) (by with_unfolding_all rfl) (by decide) | apply Ev.and1 | apply Ev.add | apply Ev.sub | apply Ev.neg | apply Ev.mul | apply Ev.fmod | apply Ev.fdiv | apply Ev.pow | apply Ev.shr | apply Ev.item (by with_unfolding_all rfl) (hs := by intro _ _; with_unfolding_all rfl) | apply Ev.bxor | apply Ev.band | apply EvP.lt (hm := by with_unfolding_all rfl) | apply EvP.le (hm := by with_unfolding_all rfl) | apply EvP.gt (hm := by with_unfolding_all rfl) | apply EvP.ge (hm := by with_unfolding_all rfl) | apply EvP.eq (hm := by with_unfolding_all rfl) | apply EvP.ne (hm := by with_unfolding_all rfl) | apply EvP.lelt (hm := by with_unfolding_all rfl) | apply EvP.not | apply EvP.int (hi := by rfl) | ((with_reducible show IntMulOk _ _); refine IntMulOk.of_le (by bits_by_make) (by bits_by_make) (by decide)) | k_extra "EVC!" | ((fail_if_success (with_reducible show Int)); l_bnd))))
  k_with "EVC!" => (fail)
  k_with "binaryOp Add ref ref" => ((k_here; k_dflt (refine' r_addl (by k_asm) (by k_asm) (by k_mem) (by k_mem) (by simp <;> omega) ?_); intro D' h' F' N' l1; (try k_lt l1)))
  have hc0 : c ≠ 0 := by omega
  have hb60 : (2 : Int) ^ 60 = 1152921504606846976 := by decide
  have hmn := namesL_len
  have hmm := hmv.length
  have hpl : PySem.Flt.Hid ((∀ x ∈ dl ++ [baseText "0x" 16 (Tp - Tp.fmod (2 ^ Int.toNat 32))], x.length ≤ 100) ∧ (dl ++ [baseText "0x" 16 (Tp - Tp.fmod (2 ^ Int.toNat 32))]).length ≤ 33) := ⟨by have := pfW_len (D := PFT) (by decide) hT0 hT1; rw [hpf.out] at this; exact this⟩
  have hdl33 : dl.length ≤ 32 := by have := hpl.out.2; simp only [List.length_append, List.length_singleton] at this; omega
  have hf0 : 0 ≤ Tp - Tp.fmod (2 ^ Int.toNat 32) ∧ Tp - Tp.fmod (2 ^ Int.toNat 32) < 1152921504606846976 := by
    have h1 : (0 : Int) < 2 ^ Int.toNat 32 := by decide
    have h2 := Int.fmod_nonneg_of_pos Tp h1
    have h3 := Int.fmod_lt_of_pos Tp h1
    rw [Int.fmod_eq_emod_of_nonneg _ (by omega)] at *
    have h4 := emod_le_self hT0 (Int.le_of_lt h1)
    rw [hb60] at hT1
    omega
  have h322 : (2 : Int) ^ Int.toNat 32 ≠ 0 := by decide
  have hp32 : (intBits 2 : Int) * 32 ≤ 2 ^ 27 := by decide
  with_unfolding_all (conv at hsc => rhs; whnf)
  dsimp only at hsc
  with_unfolding_all (conv at hbd => lhs; whnf)
  injection hbd with hst0 hbd
  (try dsimp only at hst0)
  with_unfolding_all (conv at hbd => lhs; whnf)
  injection hbd with hst1 hbd
  (try dsimp only at hst1)
  clear hbd
  subst hsc hst0 hst1
  replace F := fr_focus qT F
  revert B F X N T
  k_fill
  intro B F X N T
  k_with "eval BinOp" => (k_dflt (refine ev_eq (κ := []) (by with_unfolding_all rfl) (by k_asm) (by with_unfolding_all rfl) (by exact List.forall_mem_nil _) (by k_extra "EV!") (by first | with_reducible assumption | exact rfl) _ _ rfl ?_); intro t8 tk8; (try dsimp only))
  k_with "isTrue Compare" => (k_dflt (refine evpc_b (κ := [(Str.ofString "k", .int (i9 : Int)), (Str.ofString "marks", .ints ms), (Str.ofString "count", .int c)]) (by exact List.forall_mem_cons.mpr ⟨rd_comp (by with_unfolding_all rfl) (by k_asm) (by with_unfolding_all rfl) (by k_mem) (by assumption) (by assumption) (by with_unfolding_all rfl) (by with_unfolding_all rfl), List.forall_mem_cons.mpr ⟨rd_cells (by with_unfolding_all rfl) (by k_asm) (by with_unfolding_all rfl) (by with_unfolding_all rfl) (by k_mem) (by assumption) (by k_mem) (by assumption) (by with_unfolding_all rfl), List.forall_mem_cons.mpr ⟨rd_cell (by with_unfolding_all rfl) (by k_asm) (by with_unfolding_all rfl) (by with_unfolding_all rfl) (by k_mem) (by assumption) (by with_unfolding_all rfl), List.forall_mem_nil _⟩⟩⟩) (by k_extra "EV!") _ _ rfl ?_); intro tk7; (try dsimp only))
  k_with "eval Subscript" => (k_dflt (refine evs_ok (κ := [(Str.ofString "k", .int (i9 : Int)), (Str.ofString "marks", .ints ms), (Str.ofString "count", .int c)]) (rd_strs (by with_unfolding_all rfl) (by k_asm) (by with_unfolding_all rfl) (by with_unfolding_all rfl) (by k_mem) (by assumption) (by k_mem) (by assumption) (by with_unfolding_all rfl)) (by exact List.forall_mem_cons.mpr ⟨rd_comp (by with_unfolding_all rfl) (by k_asm) (by with_unfolding_all rfl) (by k_mem) (by assumption) (by assumption) (by with_unfolding_all rfl) (by with_unfolding_all rfl), List.forall_mem_cons.mpr ⟨rd_cells (by with_unfolding_all rfl) (by k_asm) (by with_unfolding_all rfl) (by with_unfolding_all rfl) (by k_mem) (by assumption) (by k_mem) (by assumption) (by with_unfolding_all rfl), List.forall_mem_cons.mpr ⟨rd_cell (by with_unfolding_all rfl) (by k_asm) (by with_unfolding_all rfl) (by with_unfolding_all rfl) (by k_mem) (by assumption) (by with_unfolding_all rfl), List.forall_mem_nil _⟩⟩⟩) (by k_extra "EV!") (by omega) (by omega) (by omega) (by intro _ _; with_unfolding_all rfl) _ _ rfl ?_); intro t7 tk7; (try dsimp only))
  k_with "BEnd" => (with_unfolding_all refine BEnd.intro rfl (by assumption) (by assumption) (by intro p hp; exact hp))
  k_with "IEnd" => (with_unfolding_all refine IEnd.str (by first | exact rfl | assumption) (by assumption) (by assumption) (by intro p hp; exact hp))
  k_with "exec Assign cons ListComp" => (k_dflt (refine LCt.Assign_ListComp_T (F₀ := by k_asm) (by rfl) (by with_unfolding_all rfl) (by with_unfolding_all rfl) (by decide) (by rfl) (by decide) (by rfl) (by rfl) (by rfl) ?_))
  k_with "CompSrcT" => (k_dflt (refine LCt.CompSrcT.range (by rfl) (by k_asm) (by k_asm) (by assumption) (by decide) (rng_size (n := 32) (by decide) (by decide)) (Nat.le_of_ble_eq_true rfl) ?_; intro g9; (refine compT_strs (fun i => decide (ms.getD ((i : Int).fmod c).toNat 0 = 1)) (fun i => namesL.getD i Str.empty) True.intro ?_ ?_ ?_); (rotate_left); (rotate_left); (intro ys9 hs9; (rw [hdl.out] at hs9); (have hl9 := hs9.length); (try dsimp only)); (rotate_left); (intro i9 hi9 ys9 hs9 v9 I9 oI9 C9 oC9 D9 m9 h9 tk9 E9 hv9 hC9 hx9 F9 N9 off9 ne9; (obtain ⟨t9', hv9'⟩ := hv9; subst hv9'); (rw [Int.zero_add] at hx9); (have hm0 := Int.fmod_nonneg_of_pos (i9 : Int) hc); (have hm1 := Int.fmod_lt_of_pos (i9 : Int) hc); (try dsimp only)); (rotate_left); (intro i9 hi9 hg9 ys9 hs9 v9 I9 oI9 C9 oC9 D9 m9 h9 tk9 E9 hv9 hC9 hx9 F9 N9 off9 ne9; (obtain ⟨t9', hv9'⟩ := hv9; subst hv9'); (rw [Int.zero_add] at hx9); (try dsimp only))))
  k_with "call ref" => (((with_unfolding_all refine c_pf (by k_asm) (by k_asm) (by k_asm) (by k_asm) (by k_asm) (by rfl) hT0 hT1 (by ktr_room) (by ktr_units) ?_); intro t9 h9 k9 F9 N9; (try dsimp only); (try k_fold)))
  k_with "call builtin:hex" => (k_dflt (refine r_hex hf0.1 hf0.2 ?_))
  k_with "call builtin:str.join" => (k_dflt (refine r_join (ys := dl ++ [baseText "0x" 16 (Tp - Tp.fmod (2 ^ Int.toNat 32))]) (by k_asm) (by k_mem) (hs9.append' (.cons _ _ .nil)) (by decide) ⟨hpl.out.1, Nat.le_trans hpl.out.2 (by decide)⟩ ?_); intro t9 k9)
  k_with "compareOp NotEq str str" => (k_dflt (refine r_nestr (congrArg (Txt.join _) hpf.out) ?_))
  k_with "FinA" => (k_dflt (unfold LCg.FinA); intro D9 h9 k9 F9 N9 o9; (have o19 := o9); (try simp only [LCg.Off1, and_true] at o19); (try simp only [List.nil_append, List.cons_append] at N9); (try dsimp only))

  k_steps
  (try dsimp only)
  (with_reducible rename News _ _ _ _ => nN)
  with_unfolding_all exact hnext _ _ _ (by assumption) (by intro z h2; simp only [List.contains_cons, List.contains_nil, Bool.or_false, Bool.or_eq_false_iff, beq_eq_false_iff_ne, ne_eq] at h2; simp only [h2, if_false, ite_focus qT]) (cb_drop nN fun q hq => by repeat (first | exact hq | apply List.Mem.tail))
end Mine
end
section
set_option maxRecDepth 100000
namespace Mine
open Builtin.Int (intBits)

set_option maxHeartbeats 4000000 in
theorem segI {w : World} {loose : List Str} {mean : ExcName → Option Value} {mg mb : Str → Option Value} {fa : Addr} {cd : Value} {base h₀ : Heap} {L : Addr} {m : Str → Option Value} {s : Shared} {E : Value → Shared → Prop} {Q : Flow → Shared → Prop} {sc : Scope} {bd : List Stmt} {st0 st1 st2 : Stmt} (hsc : sc = lawScope) (hbd : lawBody.drop 14 = st0 :: st1 :: st2 :: bd) {D8 : Addr} {c Tp R W Tn : Int} {t4 tT : Tok} {ys : List Value} {cs : List Int} {o1 o4 o6 : Obj} {rst : List (Addr × Obj)}
   (B : Below callerA base [] h₀) (F : Fr h₀ L s.heap m) (X : (hd.heap_39 w.params).In h₀) (N : News h₀ L s.heap ((L + 1, o1) :: (D8, LCg.lst ys) :: (L + 1 + 1 + 1 + 1, o4) :: (L + 1 + 1 + 1 + 1 + 1 + 1, o6) :: rst)) (T : Top topProg loose mean mg mb h₀) (qT : m (Str.ofString "tape") = some (.int Tp tT)) (d1 : o1.data = .cell (some (.ref D8))) (d4 : o4.data = .cell (some (.int c t4))) (d6 : o6.data = .cell none) (hys : IntsAre ys cs) (hcs : cs.length = 4) (hc1 : 7 ≤ c) (hc2 : c ≤ 31)
   (gD6 : @Ne Nat D8 (L + 6)) (hoff6 : ∀ q ∈ rst, q.1 ≠ L + 1 + 1 + 1 + 1 + 1 + 1)
   (hR : Tp.fmod (2 ^ c.toNat) = R) (hW : (2 : Int) ^ c.toNat - 1 = W) (hTn : 1 + (cs.getD (Int.toNat 3) 0).fmod (c - 1) + ((cs.getD (Int.toNat 3) 0).fdiv 1000).fmod 3 * c = Tn)
   (hnext : ∀ (o6' : Obj) tR tW t6 m' h' tk', o6'.data = .cell (some (.int Tn t6)) → Fr h₀ L h' m' → (∀ y, [Str.ofString "ring", Str.ofString "whole"].contains y = false → m' y = m y) → m' (Str.ofString "ring") = some (.int R tR) → m' (Str.ofString "whole") = some (.int W tW) → News h₀ L h' ((L + 1 + 1 + 1 + 1 + 1 + 1, o6') :: rst) → wpAny (model PySem.Challenge.rw_wo0032_02.row.prog w) (callerA.deeper (envOfC (Str.ofString "law") sc L fa cd)) (execs bd (envOfC (Str.ofString "law") sc L fa cd)) Q E { s with heap := h', toks := tk' }) : wpAny (model PySem.Challenge.rw_wo0032_02.row.prog w) (callerA.deeper (envOfC (Str.ofString "law") sc L fa cd)) (execs (st0 :: st1 :: st2 :: bd) (envOfC (Str.ofString "law") sc L fa cd)) Q E s := by
  w_top off
  k_with_none
  k_with "LT1!" => (first | with_reducible assumption | with_reducible exact Nat.lt_succ_self _ | with_reducible exact And.left (by assumption) | with_reducible exact And.left (And.right (by assumption)) | with_reducible exact And.left (And.right (And.right (by assumption))) | with_reducible exact And.left (And.right (And.right (And.right (by assumption)))) | with_reducible exact And.left (And.right (And.right (And.right (And.right (by assumption))))) | with_reducible exact And.left (And.right (And.right (And.right (And.right (And.right (by assumption)))))) | with_reducible exact And.right (by assumption) | with_reducible exact And.right (And.right (by assumption)) | with_reducible exact And.right (And.right (And.right (by assumption))) | with_reducible exact And.right (And.right (And.right (And.right (by assumption)))))
  k_with "LT!" => (first | k_extra "LT1!" | ((with_reducible refine (Nat.lt_succ_of_lt ?_ : @LT.lt Nat _ _ (_ + 1))); first | k_extra "LT1!" | ((with_reducible refine (Nat.lt_succ_of_lt ?_ : @LT.lt Nat _ _ (_ + 1))); first | k_extra "LT1!" | ((with_reducible refine (Nat.lt_succ_of_lt ?_ : @LT.lt Nat _ _ (_ + 1))); k_extra "LT1!"))))
  k_with "NE!" => (first | with_reducible assumption | with_reducible exact Ne.symm (by assumption) | decide | ((fail_if_success (fail_if_success omega)); first | ((with_reducible refine Nat.ne_of_gt ?_); (fail_if_success (fail_if_success omega)); k_extra "LT!") | ((with_reducible refine Nat.ne_of_lt ?_); (fail_if_success (fail_if_success omega)); k_extra "LT!") | with_reducible exact And.left (by assumption) | with_reducible exact And.left (And.right (by assumption)) | with_reducible exact And.left (And.right (And.right (by assumption))) | omega))
  k_with "KNE!" => ((refine neN ?_; (try dsimp only); k_extra "NE!"))
  k_with "LBND!" => (first | assumption | decide | with_reducible exact Int.lt_of_lt_of_le (by assumption) (by decide) | with_reducible exact Int.lt_of_le_of_lt (by assumption) (by decide) | with_reducible exact Int.le_trans (by assumption) (by decide) | with_reducible exact Int.lt_of_lt_of_le (by decide) (by assumption) | with_reducible exact Int.le_trans (by decide) (by assumption) | with_reducible exact Int.natCast_nonneg _ | with_reducible exact Int.ne_of_gt (by assumption) | with_reducible exact Int.le_of_lt (by assumption) | with_reducible exact Nat.lt_of_lt_of_le (by assumption) (by decide) | with_reducible exact Nat.lt_of_le_of_lt (by assumption) (by decide) | with_reducible exact Nat.le_trans (by assumption) (by decide) | k_dflt omega | l_fact)
  k_with "ROOM!" => (((try simp only [depth_under_make, depth_under_kw, depth_in1, depth_deeper, depth_caller]); (try dsimp only [ktrTop]); first | with_reducible assumption | exact room_0 (by with_reducible assumption) | exact room_le (by with_reducible assumption) (by decide) | exact room_12 (by with_reducible assumption) (by decide)))
  k_with "UNITS!" => (((try simp only [units_in1, units_deeper, Around.mark_units, units_caller]); (try dsimp only [ktrTop]); first | with_reducible assumption | exact room_0 (by with_reducible assumption) | exact room_le (by with_reducible assumption) (by decide) | exact room_12 (by with_reducible assumption) (by decide) | exact room_123 (by with_reducible assumption) (by decide)))
  k_with "BITS!" => (first | (with_reducible assumption) | ((with_reducible refine bits_le_of_lt ?_ ?_) <;> l_bnd))
  k_with "ALL!" => (first | assumption | (refine' allNe (by assumption)) | (refine' neOfLt (by assumption)))
  k_with "EV!" => ((repeat' (first | exact Ev.const | exact Ev.cap (by with_unfolding_all rfl) | exact Ev.loc (by with_unfolding_all rfl) (by with_unfolding_all rfl) (by decide) | apply Ev.and1 | apply Ev.add | apply Ev.sub | apply Ev.neg | apply Ev.mul | apply Ev.fmod | apply Ev.fdiv | apply Ev.pow | apply Ev.shr | apply Ev.item (by with_unfolding_all rfl) (hs := by intro _ _; with_unfolding_all rfl) | apply Ev.bxor | apply Ev.band | apply EvP.lt (hm := by with_unfolding_all rfl) | apply EvP.le (hm := by with_unfolding_all rfl) | apply EvP.gt (hm := by with_unfolding_all rfl) | apply EvP.ge (hm := by with_unfolding_all rfl) | apply EvP.eq (hm := by with_unfolding_all rfl) | apply EvP.ne (hm := by with_unfolding_all rfl) | apply EvP.lelt (hm := by with_unfolding_all rfl) | apply EvP.not | apply EvP.int (hi := by rfl) | ((with_reducible show IntMulOk _ _); refine IntMulOk.of_le (by bits_by_make) (by bits_by_make) (by decide)) | exact PyProof.noPylong_small (by decide) | k_extra "EVC!" | ((fail_if_success (with_reducible show Int)); l_bnd))))
  k_with "EVC!" => (fail)
  have hyl := hys.length
  have hpw : (intBits 2 : Int) * c ≤ 2 ^ 27 := by rw [show intBits 2 = 2 by decide]; omega
  have hc0 : 0 ≤ c := by omega
  have hc10 : c - 1 ≠ 0 := by omega
  have hpz : (2 : Int) ^ c.toNat ≠ 0 := Int.ne_of_gt (pow2_pos _)
  have hb3 : intBits (((cs.getD (Int.toNat 3) 0).fdiv 1000).fmod 3) ≤ 2 := bits_le_of_lt (Int.fmod_nonneg_of_pos _ (by decide)) (Int.lt_of_lt_of_le (Int.fmod_lt_of_pos _ (by decide)) (by decide))
  have hbc : intBits c ≤ 5 := bits_le_of_lt hc0 (Int.lt_of_le_of_lt hc2 (by decide))
  have h3l : (3 : Int) < cs.length := by omega
  have h3z : cs.length ≤ 1000000 := by omega
  clear hc1 hc2 hcs hyl
  with_unfolding_all (conv at hsc => rhs; whnf)
  dsimp only at hsc
  with_unfolding_all (conv at hbd => lhs; whnf)
  injection hbd with hst0 hbd
  (try dsimp only at hst0)
  with_unfolding_all (conv at hbd => lhs; whnf)
  injection hbd with hst1 hbd
  (try dsimp only at hst1)
  with_unfolding_all (conv at hbd => lhs; whnf)
  injection hbd with hst2 hbd
  (try dsimp only at hst2)
  clear hbd
  subst hsc hst0 hst1 hst2
  replace F := fr_focus qT F
  revert B F X N T
  k_fill
  intro B F X N T
  k_with "eval BinOp" => (k_dflt (refine ev_eq (κ := [(Str.ofString "count", .int c), (Str.ofString "cells", .ints cs)]) (by with_unfolding_all rfl) (by k_asm) (by with_unfolding_all rfl) (by exact List.forall_mem_cons.mpr ⟨rd_cell (by with_unfolding_all rfl) (by k_asm) (by with_unfolding_all rfl) (by with_unfolding_all rfl) (by k_mem) (by assumption) (by with_unfolding_all rfl), List.forall_mem_cons.mpr ⟨rd_cells (by with_unfolding_all rfl) (by k_asm) (by with_unfolding_all rfl) (by with_unfolding_all rfl) (by k_mem) (by assumption) (by k_mem) (by assumption) (by with_unfolding_all rfl), List.forall_mem_nil _⟩⟩) (by k_extra "EV!") (by first | with_reducible assumption | exact rfl) _ _ rfl ?_); intro t8 tk8; (try dsimp only))
  k_steps
  (with_reducible rename News _ _ _ _ => nN)
  with_unfolding_all refine hnext _ _ _ _ _ _ _ (by assumption) (by assumption) (by intro z h2; simp only [List.contains_cons, List.contains_nil, Bool.or_false, Bool.or_eq_false_iff, beq_eq_false_iff_ne, ne_eq] at h2; simp only [h2, if_false, ite_focus qT]) (by with_unfolding_all rfl) (by with_unfolding_all rfl) (cb_drop nN fun q hq => by simp only [List.mem_cons, List.mem_append] at hq ⊢; rcases hq with h | h <;> simp only [h, true_or, or_true])
end Mine
end
section
set_option maxRecDepth 100000
namespace Mine
open Builtin.Int (intBits)

set_option maxHeartbeats 4000000 in
theorem segJ {w : World} {loose : List Str} {mean : ExcName → Option Value} {mg mb : Str → Option Value} {fa : Addr} {cd : Value} {base h₀ : Heap} {L : Addr} {m : Str → Option Value} {s : Shared} {E : Value → Shared → Prop} {Q : Flow → Shared → Prop} {sc : Scope} {bd : List Stmt} {st0 st1 : Stmt} (hsc : sc = lawScope) (hbd : lawBody.drop 17 = st0 :: st1 :: bd) {R W Tn Xv q r : Int} {tR tW t6 : Tok} {o6 : Obj} {rst tb : List (Addr × Obj)}
   (B : Below callerA base [] h₀) (F : Fr h₀ L s.heap m) (X : (hd.heap_39 w.params).In h₀) (N : News h₀ L s.heap ((L + 1 + 1 + 1 + 1 + 1 + 1, o6) :: (rst ++ tb))) (T : Top topProg loose mean mg mb h₀) (qR : m (Str.ofString "ring") = some (.int R tR)) (qW : m (Str.ofString "whole") = some (.int W tW)) (d6 : o6.data = .cell (some (.int Tn t6))) (hT : Tabs tb) (hNT : ∀ p ∈ rst, NotTab p.2) (C1 : CodeHd base 34 30) (C2 : CodeHd base 41 37) (hh : base = base)
   (hX : R * 2 ^ Tn.toNat = Xv) (hX0 : 0 ≤ Xv) (hXb : intBits Xv ≤ 20 * intBits W) (hW0 : 0 < W) (hWb : intBits W ≤ 31) (hq : Xv / W = q) (hr : Xv % W = r) (hqr : q * W + r = R * 2 ^ Tn.toNat) (hT0 : 0 ≤ Tn) (hT1 : (intBits 2 : Int) * Tn ≤ 2 ^ 27) (hTb : intBits ((2 : Int) ^ Tn.toNat) ≤ 200) (hRb : intBits R ≤ 31) (hqb : intBits q ≤ 200)
   (hnext : ∀ tb' tr m' h' tk', Tabs tb' → Fr h₀ L h' m' → (∀ y, [Str.ofString "quotient", Str.ofString "rest"].contains y = false → m' y = m y) → m' (Str.ofString "rest") = some (.int r tr) → News h₀ L h' (rst ++ tb') → wpAny (model PySem.Challenge.rw_wo0032_02.row.prog w) (callerA.deeper (envOfC (Str.ofString "law") sc L fa cd)) (execs bd (envOfC (Str.ofString "law") sc L fa cd)) Q E { s with heap := h', toks := tk' }) : wpAny (model PySem.Challenge.rw_wo0032_02.row.prog w) (callerA.deeper (envOfC (Str.ofString "law") sc L fa cd)) (execs (st0 :: st1 :: bd) (envOfC (Str.ofString "law") sc L fa cd)) Q E s := by
  w_top off
  k_with_none
  k_with "LT1!" => (first | with_reducible assumption | with_reducible exact Nat.lt_succ_self _ | with_reducible exact And.left (by assumption) | with_reducible exact And.left (And.right (by assumption)) | with_reducible exact And.left (And.right (And.right (by assumption))) | with_reducible exact And.left (And.right (And.right (And.right (by assumption)))) | with_reducible exact And.left (And.right (And.right (And.right (And.right (by assumption))))) | with_reducible exact And.left (And.right (And.right (And.right (And.right (And.right (by assumption)))))) | with_reducible exact And.right (by assumption) | with_reducible exact And.right (And.right (by assumption)) | with_reducible exact And.right (And.right (And.right (by assumption))) | with_reducible exact And.right (And.right (And.right (And.right (by assumption)))))
  k_with "LT!" => (first | k_extra "LT1!" | ((with_reducible refine (Nat.lt_succ_of_lt ?_ : @LT.lt Nat _ _ (_ + 1))); first | k_extra "LT1!" | ((with_reducible refine (Nat.lt_succ_of_lt ?_ : @LT.lt Nat _ _ (_ + 1))); first | k_extra "LT1!" | ((with_reducible refine (Nat.lt_succ_of_lt ?_ : @LT.lt Nat _ _ (_ + 1))); k_extra "LT1!"))))
  k_with "NE!" => (first | with_reducible assumption | with_reducible exact Ne.symm (by assumption) | decide | ((fail_if_success (fail_if_success omega)); first | ((with_reducible refine Nat.ne_of_gt ?_); (fail_if_success (fail_if_success omega)); k_extra "LT!") | ((with_reducible refine Nat.ne_of_lt ?_); (fail_if_success (fail_if_success omega)); k_extra "LT!") | with_reducible exact And.left (by assumption) | with_reducible exact And.left (And.right (by assumption)) | with_reducible exact And.left (And.right (And.right (by assumption))) | omega))
  k_with "KNE!" => ((refine neN ?_; (try dsimp only); k_extra "NE!"))
  k_with "LBND!" => (first | assumption | decide | with_reducible exact Int.lt_of_lt_of_le (by assumption) (by decide) | with_reducible exact Int.lt_of_le_of_lt (by assumption) (by decide) | with_reducible exact Int.le_trans (by assumption) (by decide) | with_reducible exact Int.lt_of_lt_of_le (by decide) (by assumption) | with_reducible exact Int.le_trans (by decide) (by assumption) | with_reducible exact Int.natCast_nonneg _ | with_reducible exact Int.ne_of_gt (by assumption) | with_reducible exact Int.le_of_lt (by assumption) | with_reducible exact Nat.lt_of_lt_of_le (by assumption) (by decide) | with_reducible exact Nat.lt_of_le_of_lt (by assumption) (by decide) | with_reducible exact Nat.le_trans (by assumption) (by decide) | k_dflt omega | l_fact)
  k_with "ROOM!" => (((try simp only [depth_under_make, depth_under_kw, depth_in1, depth_deeper, depth_caller]); (try dsimp only [ktrTop]); first | with_reducible assumption | exact room_0 (by with_reducible assumption) | exact room_le (by with_reducible assumption) (by decide) | exact room_12 (by with_reducible assumption) (by decide)))
  k_with "UNITS!" => (((try simp only [units_in1, units_deeper, Around.mark_units, units_caller]); (try dsimp only [ktrTop]); first | with_reducible assumption | exact room_0 (by with_reducible assumption) | exact room_le (by with_reducible assumption) (by decide) | exact room_12 (by with_reducible assumption) (by decide) | exact room_123 (by with_reducible assumption) (by decide)))
  k_with "BITS!" => (first | (with_reducible assumption) | ((with_reducible refine bits_le_of_lt ?_ ?_) <;> l_bnd))
  k_with "ALL!" => (first | assumption | (refine' allNe (by assumption)) | (refine' neOfLt (by assumption)))
  k_with "EV!" => ((repeat' (first | exact Ev.const | exact Ev.cap (by with_unfolding_all rfl) | exact Ev.loc (by with_unfolding_all rfl) (by with_unfolding_all rfl) (by decide) | apply Ev.and1 | apply Ev.add | apply Ev.sub | apply Ev.neg | apply Ev.mul | apply Ev.fmod | apply Ev.fdiv | apply Ev.pow | apply Ev.shr | apply Ev.item (by with_unfolding_all rfl) (hs := by intro _ _; with_unfolding_all rfl) | apply Ev.bxor | apply Ev.band | apply EvP.lt (hm := by with_unfolding_all rfl) | apply EvP.le (hm := by with_unfolding_all rfl) | apply EvP.gt (hm := by with_unfolding_all rfl) | apply EvP.ge (hm := by with_unfolding_all rfl) | apply EvP.eq (hm := by with_unfolding_all rfl) | apply EvP.ne (hm := by with_unfolding_all rfl) | apply EvP.lelt (hm := by with_unfolding_all rfl) | apply EvP.not | apply EvP.int (hi := by rfl) | ((with_reducible show IntMulOk _ _); refine IntMulOk.of_le (by bits_by_make) (by bits_by_make) (by decide)) | exact PyProof.noPylong_small (by decide) | k_extra "EVC!" | ((fail_if_success (with_reducible show Int)); l_bnd))))
  k_with "EVC!" => (fail)
  have hN9 := offs (l := [(L + 1 + 1 + 1 + 1 + 1 + 1, o6)]) hT N (by intro p hp; cases hp with | head => exact NotTab.cell d6 | tail _ h => cases h) hNT
  simp only [List.cons_append, List.nil_append] at hN9
  with_unfolding_all (conv at hsc => rhs; whnf)
  dsimp only at hsc
  with_unfolding_all (conv at hbd => lhs; whnf)
  injection hbd with hst0 hbd
  (try dsimp only at hst0)
  with_unfolding_all (conv at hbd => lhs; whnf)
  injection hbd with hst1 hbd
  (try dsimp only at hst1)
  clear hbd
  subst hsc hst0 hst1
  replace F := fr_focus qW F
  replace F := fr_focus (k := Str.ofString "ring") (v := .int R tR) (by (try dsimp only); rw [if_neg (by decide)]; exact qR) F
  revert B F X N T
  k_fill
  intro B F X N T
  k_with "eval BinOp" => (k_dflt (refine ev_eq (κ := [(Str.ofString "turn", .int Tn)]) (by with_unfolding_all rfl) (by k_asm) (by with_unfolding_all rfl) (by exact List.forall_mem_cons.mpr ⟨rd_cell (by with_unfolding_all rfl) (by k_asm) (by with_unfolding_all rfl) (by with_unfolding_all rfl) (by k_mem) (by assumption) (by with_unfolding_all rfl), List.forall_mem_nil _⟩) (by k_extra "EV!") (by first | with_reducible assumption | exact rfl) _ _ rfl ?_); intro t8 tk8; (try dsimp only))
  k_with "isTrue Compare" => (k_dflt (refine evp_f (κ := [(Str.ofString "turn", .int Tn)]) (by with_unfolding_all rfl) (by k_asm) (by with_unfolding_all rfl) (by exact List.forall_mem_cons.mpr ⟨rd_cell (by with_unfolding_all rfl) (by k_asm) (by with_unfolding_all rfl) (by with_unfolding_all rfl) (by k_mem) (by assumption) (by with_unfolding_all rfl), List.forall_mem_nil _⟩) (by k_extra "EV!") (by intro h; exact h hqr) _ _ rfl ?_); intro tk6; (try dsimp only))
  k_with "call ref" => (((with_unfolding_all refine c_dm hT (Ends.cons (ends_app _ _)) hN9 (by k_asm) (by k_asm) (by k_asm) (by k_asm) (by k_asm) (by rfl) C1 C2 hW0 hWb hX0 hXb (by ktr_room) (by ktr_units) ?_); intro D9 tb9 t9 u9 h9 k9 hT9 F9 N9 l9; (rw [hq, hr] at N9); (simp only [List.cons_append] at N9); (try dsimp only); (try k_fold)))
  k_steps
  (with_reducible rename News _ _ _ _ => nN)
  with_unfolding_all refine hnext tb9 _ _ _ _ hT9 (by assumption) (by intro z h2; simp only [List.contains_cons, List.contains_nil, Bool.or_false, Bool.or_eq_false_iff, beq_eq_false_iff_ne, ne_eq] at h2; simp only [h2, if_false, ite_focus qR, ite_focus qW]) (by with_unfolding_all rfl) (cb_drop nN fun q hq => .tail _ (.tail _ hq))
end Mine
end
section
set_option maxRecDepth 100000
namespace Mine
open Builtin.Int (intBits)

set_option maxHeartbeats 4000000 in
theorem segK {w : World} {loose : List Str} {mean : ExcName → Option Value} {mg mb : Str → Option Value} {fa : Addr} {cd : Value} {base h₀ : Heap} {L : Addr} {m : Str → Option Value} {s : Shared} {E : Value → Shared → Prop} {Q : Flow → Shared → Prop} {sc : Scope} {bd : List Stmt} {st0 : Stmt} (hsc : sc = lawScope) (hbd : lawBody.drop 19 = st0 :: bd) {Mk : Addr} {c Tn r : Int} {t4 t6 tr : Tok} {mv : List Value} {ms : List Int} {o4 o5 o6 : Obj} {rst : List (Addr × Obj)}
   (B : Below callerA base [] h₀) (F : Fr h₀ L s.heap m) (X : (hd.heap_39 w.params).In h₀) (N : News h₀ L s.heap ((L + 1 + 1 + 1 + 1 + 1, o5) :: (Mk, LCg.lst mv) :: (L + 1 + 1 + 1 + 1, o4) :: (L + 1 + 1 + 1 + 1 + 1 + 1, o6) :: rst)) (T : Top topProg loose mean mg mb h₀) (qr : m (Str.ofString "rest") = some (.int r tr)) (d4 : o4.data = .cell (some (.int c t4))) (d5 : o5.data = .cell (some (.ref Mk))) (d6 : o6.data = .cell (some (.int Tn t6)))
   (hmv : IntsAre mv ms) (hc : 0 < c) (hc2 : c ≤ 31) (hml : ms.length = c.toNat) (hm01 : ∀ x ∈ ms, x = 0 ∨ x = 1) (hS : ((List.range c.toNat).map fun (i : Nat) => ms.getD (((i : Int) - Tn).fmod c).toNat 0 * (2 : Int) ^ i).sum = r)
   (hnext : ∀ h' tk', Fr h₀ L h' m → News h₀ L h' rst → wpAny (model PySem.Challenge.rw_wo0032_02.row.prog w) (callerA.deeper (envOfC (Str.ofString "law") sc L fa cd)) (execs bd (envOfC (Str.ofString "law") sc L fa cd)) Q E { s with heap := h', toks := tk' }) : wpAny (model PySem.Challenge.rw_wo0032_02.row.prog w) (callerA.deeper (envOfC (Str.ofString "law") sc L fa cd)) (execs (st0 :: bd) (envOfC (Str.ofString "law") sc L fa cd)) Q E s := by
  w_top off
  k_with_none
  k_with "LT1!" => (first | with_reducible assumption | with_reducible exact Nat.lt_succ_self _ | with_reducible exact And.left (by assumption) | with_reducible exact And.left (And.right (by assumption)) | with_reducible exact And.left (And.right (And.right (by assumption))) | with_reducible exact And.left (And.right (And.right (And.right (by assumption)))) | with_reducible exact And.left (And.right (And.right (And.right (And.right (by assumption))))) | with_reducible exact And.left (And.right (And.right (And.right (And.right (And.right (by assumption)))))) | with_reducible exact And.right (by assumption) | with_reducible exact And.right (And.right (by assumption)) | with_reducible exact And.right (And.right (And.right (by assumption))) | with_reducible exact And.right (And.right (And.right (And.right (by assumption)))))
  k_with "LT!" => (first | k_extra "LT1!" | ((with_reducible refine (Nat.lt_succ_of_lt ?_ : @LT.lt Nat _ _ (_ + 1))); first | k_extra "LT1!" | ((with_reducible refine (Nat.lt_succ_of_lt ?_ : @LT.lt Nat _ _ (_ + 1))); first | k_extra "LT1!" | ((with_reducible refine (Nat.lt_succ_of_lt ?_ : @LT.lt Nat _ _ (_ + 1))); k_extra "LT1!"))))
  k_with "NE!" => (first | with_reducible assumption | with_reducible exact Ne.symm (by assumption) | decide | ((fail_if_success (fail_if_success omega)); first | ((with_reducible refine Nat.ne_of_gt ?_); (fail_if_success (fail_if_success omega)); k_extra "LT!") | ((with_reducible refine Nat.ne_of_lt ?_); (fail_if_success (fail_if_success omega)); k_extra "LT!") | with_reducible exact And.left (by assumption) | with_reducible exact And.left (And.right (by assumption)) | with_reducible exact And.left (And.right (And.right (by assumption))) | omega))
  k_with "KNE!" => ((refine neN ?_; (try dsimp only); k_extra "NE!"))
  k_with "LBND!" => (first | assumption | decide | with_reducible exact Int.lt_of_lt_of_le (by assumption) (by decide) | with_reducible exact Int.lt_of_le_of_lt (by assumption) (by decide) | with_reducible exact Int.le_trans (by assumption) (by decide) | with_reducible exact Int.lt_of_lt_of_le (by decide) (by assumption) | with_reducible exact Int.le_trans (by decide) (by assumption) | with_reducible exact Int.natCast_nonneg _ | with_reducible exact Int.ne_of_gt (by assumption) | with_reducible exact Int.le_of_lt (by assumption) | with_reducible exact Nat.lt_of_lt_of_le (by assumption) (by decide) | with_reducible exact Nat.lt_of_le_of_lt (by assumption) (by decide) | with_reducible exact Nat.le_trans (by assumption) (by decide) | k_dflt omega | l_fact)
  k_with "ROOM!" => (((try simp only [depth_under_make, depth_under_kw, depth_in1, depth_deeper, depth_caller]); (try dsimp only [ktrTop]); first | with_reducible assumption | exact room_0 (by with_reducible assumption) | exact room_le (by with_reducible assumption) (by decide) | exact room_12 (by with_reducible assumption) (by decide)))
  k_with "UNITS!" => (((try simp only [units_in1, units_deeper, Around.mark_units, units_caller]); (try dsimp only [ktrTop]); first | with_reducible assumption | exact room_0 (by with_reducible assumption) | exact room_le (by with_reducible assumption) (by decide) | exact room_12 (by with_reducible assumption) (by decide) | exact room_123 (by with_reducible assumption) (by decide)))
  k_with "BITS!" => (first | (with_reducible assumption) | ((with_reducible refine bits_le_of_lt ?_ ?_) <;> l_bnd))
  k_with "ALL!" => (first | assumption | (refine' allNe (by assumption)) | (refine' neOfLt (by assumption)))
  k_with "EV!" => ((repeat' (first | exact Ev.const | exact Ev.cap (by with_unfolding_all rfl) | exact Ev.loc (by with_unfolding_all rfl) (by with_unfolding_all rfl) (by decide) | apply Ev.and1 | apply Ev.add | apply Ev.sub | apply Ev.neg | apply Ev.mul | apply Ev.fmod | apply Ev.fdiv | apply Ev.pow | apply Ev.shr | apply Ev.item (by with_unfolding_all rfl) (hs := by intro _ _; with_unfolding_all rfl) | apply Ev.bxor | apply Ev.band | apply EvP.lt (hm := by with_unfolding_all rfl) | apply EvP.le (hm := by with_unfolding_all rfl) | apply EvP.gt (hm := by with_unfolding_all rfl) | apply EvP.ge (hm := by with_unfolding_all rfl) | apply EvP.eq (hm := by with_unfolding_all rfl) | apply EvP.ne (hm := by with_unfolding_all rfl) | apply EvP.lelt (hm := by with_unfolding_all rfl) | apply EvP.not | apply EvP.int (hi := by rfl) | ((with_reducible show IntMulOk _ _); refine IntMulOk.of_le (by bits_by_make) (by bits_by_make) (by decide)) | exact PyProof.noPylong_small (by decide) | k_extra "EVC!" | ((fail_if_success (with_reducible show Int)); l_bnd))))
  k_with "EVC!" => (fail)
  have hvl := hmv.length
  have hc0 : c ≠ 0 := Int.ne_of_gt hc
  have h22 : intBits 2 ≤ 2 := by decide
  have hcn : c.toNat ≤ 31 := by omega
  have hc31 : c ≤ 1000000 := Int.le_trans hc2 (by decide)
  have hcz : (c.toNat : Int) = c - 0 := by omega
  have hc00 : (0 : Int) ≤ c := Int.le_of_lt hc
  with_unfolding_all (conv at hsc => rhs; whnf)
  dsimp only at hsc
  with_unfolding_all (conv at hbd => lhs; whnf)
  injection hbd with hst0 hbd
  (try dsimp only at hst0)
  clear hbd
  subst hsc hst0
  replace F := fr_focus qr F
  revert B F X N T
  k_fill
  intro B F X N T
  k_with "eval BinOp" => (k_dflt (refine evc_ok (κ := [(Str.ofString "k", .int (i9 : Int)), (Str.ofString "turn", .int Tn), (Str.ofString "marks", .ints ms), (Str.ofString "count", .int c)]) (by exact List.forall_mem_cons.mpr ⟨rd_comp (by with_unfolding_all rfl) (by k_asm) (by with_unfolding_all rfl) (by k_mem) (by assumption) (by assumption) (by with_unfolding_all rfl) (by with_unfolding_all rfl), List.forall_mem_cons.mpr ⟨rd_cell (by with_unfolding_all rfl) (by k_asm) (by with_unfolding_all rfl) (by with_unfolding_all rfl) (by k_mem) (by assumption) (by with_unfolding_all rfl), List.forall_mem_cons.mpr ⟨rd_cells (by with_unfolding_all rfl) (by k_asm) (by with_unfolding_all rfl) (by with_unfolding_all rfl) (by k_mem) (by assumption) (by k_mem) (by assumption) (by with_unfolding_all rfl), List.forall_mem_cons.mpr ⟨rd_cell (by with_unfolding_all rfl) (by k_asm) (by with_unfolding_all rfl) (by with_unfolding_all rfl) (by k_mem) (by assumption) (by with_unfolding_all rfl), List.forall_mem_nil _⟩⟩⟩⟩) (by k_extra "EV!") (by first | with_reducible assumption | exact rfl) _ _ rfl ?_); intro t7 tk7; (try dsimp only))
  k_with "IEnd" => (with_unfolding_all refine IEnd.int (by first | exact rfl | assumption) (by assumption) (by assumption) (by intro p hp; exact hp))
  k_with "eval ListComp" => (k_dflt (refine LCg.ListComp_U (F₀ := by k_asm) (by with_unfolding_all rfl) (by decide) (by rfl) (by decide) (by rfl) ?_))
  k_with "call builtin:sum" => (k_dflt (refine sumK (by with_unfolding_all rfl) (by k_asm) (by k_asm) (news_list (by k_asm) (by k_mem)) hs9 ?_); intro h6 k6 t6 F6 N6; (rw [hS]); (try dsimp only))
  k_with "CompSrc" => (k_dflt (refine LCg.CompSrc.range (by rfl) (by k_asm) (by k_asm) (by assumption) (rng_small (by decide) hc00 hc31) (rng_size (n := c.toNat) hc00 hcz.symm) (by rw [sizeLine_eq]; omega) ?_; intro g9; (refine compG_ints (fun (i : Nat) => ms.getD (((i : Int) - Tn).fmod c).toNat 0 * (2 : Int) ^ i) True.intro ?_ ?_); (rotate_left); (intro ys9 hs9; (have hl9 := hs9.length); (simp only [List.length_map, List.length_range] at hl9); (try dsimp only)); (rotate_left); (intro i9 hi9 ys9 hs9 v9 I9 oI9 C9 oC9 D9 m9 h9 tk9 E9 hv9 hC9 hx9 F9 N9 off9 ne9; (obtain ⟨t9', hv9'⟩ := hv9; subst hv9'); (rw [Int.zero_add] at hx9); (have hi64 := lt_64 hi9 rfl hc2); (have hpw9 := pw_27 hi64); (have hm0 := Int.fmod_nonneg_of_pos ((i9 : Int) - Tn) hc); (have hm1 := Int.fmod_lt_of_pos ((i9 : Int) - Tn) hc); (have hm2 := len_lt hml hc hm1); (have hm3 := len_mil hml hc2); (have hb1 := bits_01 (getD_01 hm01 (((i9 : Int) - Tn).fmod c).toNat)); (have hb2 := bits_pow2 hi64); (try dsimp only))))
  k_with "FinE" => (k_dflt (unfold LCg.FinE); intro D9 h9 k9 F9 N9 o9; (have o19 := o9); (try simp only [LCg.Off1, and_true] at o19); (try simp only [List.nil_append, List.cons_append] at N9); (try dsimp only))
  k_with "compareOp NotEq int int" => (with_reducible refine r_ne_int rfl ?_)
  k_steps
  (with_reducible rename News _ _ _ _ => nN)
  with_unfolding_all exact hnext _ _ (fr_eqm (by assumption) (by intro z; simp only [ite_focus qr])) (cb_drop nN fun q hq => by repeat (first | exact hq | apply List.Mem.tail))
end Mine
end
section
set_option maxRecDepth 100000
namespace Mine
open Builtin.Int (intBits)

set_option maxHeartbeats 4000000 in
theorem segL {w : World} {loose : List Str} {mean : ExcName → Option Value} {mg mb : Str → Option Value} {fa : Addr} {cd : Value} {base h₀ : Heap} {L : Addr} {m : Str → Option Value} {s : Shared} {E : Value → Shared → Prop} {Q : Flow → Shared → Prop} {sc : Scope} {bd : List Stmt} {st0 st1 : Stmt} (hsc : sc = lawScope) (hbd : lawBody.drop 20 = st0 :: st1 :: bd) {n R r Bv P1 P2 : Int} {tR tr t3 : Tok} {o3 : Obj} {rst : List (Addr × Obj)}
   (B : Below callerA base [] h₀) (F : Fr h₀ L s.heap m) (X : (hd.heap_39 w.params).In h₀) (N : News h₀ L s.heap ((L + 1 + 1 + 1, o3) :: rst)) (T : Top topProg loose mean mg mb h₀) (qR : m (Str.ofString "ring") = some (.int R tR)) (qr : m (Str.ofString "rest") = some (.int r tr)) (d3 : o3.data = .cell (some (.int n t3))) (hn3 : 3 ≤ n) (hn5 : n ≤ 5)
   (hB : Builtin.bitAnd R r = Bv) (hNb : ∀ i : Nat, 0 ≤ [R, r, Bv].getD i 0 ∧ [R, r, Bv].getD i 0 < 2 ^ 60) (hP1 : (2 : Int) ^ (n - 1).toNat = P1) (hP2 : (2 : Int) ^ (n - 2).toNat = P2) (hWd : (List.range 3).map (fun i => ((wl ([R, r, Bv].getD i 0) : Nat) : Int)) = [P1, P1, P2])
   (hnext : ∀ m' h' tk', Fr h₀ L h' m' → (∀ y, [Str.ofString "words"].contains y = false → m' y = m y) → News h₀ L h' rst → wpAny (model PySem.Challenge.rw_wo0032_02.row.prog w) (callerA.deeper (envOfC (Str.ofString "law") sc L fa cd)) (execs bd (envOfC (Str.ofString "law") sc L fa cd)) Q E { s with heap := h', toks := tk' }) : wpAny (model PySem.Challenge.rw_wo0032_02.row.prog w) (callerA.deeper (envOfC (Str.ofString "law") sc L fa cd)) (execs (st0 :: st1 :: bd) (envOfC (Str.ofString "law") sc L fa cd)) Q E s := by
  w_top off
  k_with_none
  k_with "LT1!" => (first | with_reducible assumption | with_reducible exact Nat.lt_succ_self _ | with_reducible exact And.left (by assumption) | with_reducible exact And.left (And.right (by assumption)) | with_reducible exact And.left (And.right (And.right (by assumption))) | with_reducible exact And.left (And.right (And.right (And.right (by assumption)))) | with_reducible exact And.left (And.right (And.right (And.right (And.right (by assumption))))) | with_reducible exact And.left (And.right (And.right (And.right (And.right (And.right (by assumption)))))) | with_reducible exact And.right (by assumption) | with_reducible exact And.right (And.right (by assumption)) | with_reducible exact And.right (And.right (And.right (by assumption))) | with_reducible exact And.right (And.right (And.right (And.right (by assumption)))))
  k_with "LT!" => (first | k_extra "LT1!" | ((with_reducible refine (Nat.lt_succ_of_lt ?_ : @LT.lt Nat _ _ (_ + 1))); first | k_extra "LT1!" | ((with_reducible refine (Nat.lt_succ_of_lt ?_ : @LT.lt Nat _ _ (_ + 1))); first | k_extra "LT1!" | ((with_reducible refine (Nat.lt_succ_of_lt ?_ : @LT.lt Nat _ _ (_ + 1))); k_extra "LT1!"))))
  k_with "NE!" => (first | with_reducible assumption | with_reducible exact Ne.symm (by assumption) | decide | ((fail_if_success (fail_if_success omega)); first | ((with_reducible refine Nat.ne_of_gt ?_); (fail_if_success (fail_if_success omega)); k_extra "LT!") | ((with_reducible refine Nat.ne_of_lt ?_); (fail_if_success (fail_if_success omega)); k_extra "LT!") | with_reducible exact And.left (by assumption) | with_reducible exact And.left (And.right (by assumption)) | with_reducible exact And.left (And.right (And.right (by assumption))) | omega))
  k_with "KNE!" => ((refine neN ?_; (try dsimp only); k_extra "NE!"))
  k_with "LBND!" => (first | assumption | decide | with_reducible exact Int.lt_of_lt_of_le (by assumption) (by decide) | with_reducible exact Int.lt_of_le_of_lt (by assumption) (by decide) | with_reducible exact Int.le_trans (by assumption) (by decide) | with_reducible exact Int.lt_of_lt_of_le (by decide) (by assumption) | with_reducible exact Int.le_trans (by decide) (by assumption) | with_reducible exact Int.natCast_nonneg _ | with_reducible exact Int.ne_of_gt (by assumption) | with_reducible exact Int.le_of_lt (by assumption) | with_reducible exact Nat.lt_of_lt_of_le (by assumption) (by decide) | with_reducible exact Nat.lt_of_le_of_lt (by assumption) (by decide) | with_reducible exact Nat.le_trans (by assumption) (by decide) | k_dflt omega | l_fact)
  k_with "ROOM!" => (((try simp only [depth_under_make, depth_under_kw, depth_in1, depth_deeper, depth_caller]); (try dsimp only [ktrTop]); first | with_reducible assumption | exact room_0 (by with_reducible assumption) | exact room_le (by with_reducible assumption) (by decide) | exact room_12 (by with_reducible assumption) (by decide)))
  k_with "UNITS!" => (((try simp only [units_in1, units_deeper, Around.mark_units, units_caller]); (try dsimp only [ktrTop]); first | with_reducible assumption | exact room_0 (by with_reducible assumption) | exact room_le (by with_reducible assumption) (by decide) | exact room_12 (by with_reducible assumption) (by decide) | exact room_123 (by with_reducible assumption) (by decide)))
  k_with "BITS!" => (first | (with_reducible assumption) | ((with_reducible refine bits_le_of_lt ?_ ?_) <;> l_bnd))
  k_with "ALL!" => (first | assumption | (refine' allNe (by assumption)) | (refine' neOfLt (by assumption)))
  k_with "EV!" => ((repeat' (first | exact Ev.const | exact Ev.cap (by with_unfolding_all rfl) | exact Ev.loc (by with_unfolding_all rfl) (by with_unfolding_all rfl) (by decide) | apply Ev.and1 | apply Ev.add | apply Ev.sub | apply Ev.neg | apply Ev.mul | apply Ev.fmod | apply Ev.fdiv | apply Ev.pow | apply Ev.shr | apply Ev.item (by with_unfolding_all rfl) (hs := by intro _ _; with_unfolding_all rfl) | apply Ev.bxor | apply Ev.band | apply EvP.lt (hm := by with_unfolding_all rfl) | apply EvP.le (hm := by with_unfolding_all rfl) | apply EvP.gt (hm := by with_unfolding_all rfl) | apply EvP.ge (hm := by with_unfolding_all rfl) | apply EvP.eq (hm := by with_unfolding_all rfl) | apply EvP.ne (hm := by with_unfolding_all rfl) | apply EvP.lelt (hm := by with_unfolding_all rfl) | apply EvP.not | apply EvP.int (hi := by rfl) | ((with_reducible show IntMulOk _ _); refine IntMulOk.of_le (by bits_by_make) (by bits_by_make) (by decide)) | exact PyProof.noPylong_small (by decide) | k_extra "EVC!" | ((fail_if_success (with_reducible show Int)); l_bnd))))
  k_with "EVC!" => (fail)
  have hn1 : 0 ≤ n - 1 := by omega
  have hn2 : 0 ≤ n - 2 := by omega
  have hq1 : (intBits 2 : Int) * (n - 1) ≤ 2 ^ 27 := by rw [show intBits 2 = 2 by decide]; omega
  have hq2 : (intBits 2 : Int) * (n - 2) ≤ 2 ^ 27 := by rw [show intBits 2 = 2 by decide]; omega
  with_unfolding_all (conv at hsc => rhs; whnf)
  dsimp only at hsc
  with_unfolding_all (conv at hbd => lhs; whnf)
  injection hbd with hst0 hbd
  (try dsimp only at hst0)
  with_unfolding_all (conv at hbd => lhs; whnf)
  injection hbd with hst1 hbd
  (try dsimp only at hst1)
  clear hbd
  subst hsc hst0 hst1
  replace F := fr_focus qr F
  replace F := fr_focus (k := Str.ofString "ring") (v := .int R tR) (by (try dsimp only); rw [if_neg (by decide)]; exact qR) F
  revert B F X N T
  k_fill
  intro B F X N T
  k_with "eval BinOp" => (k_dflt (refine ev_eq (κ := [(Str.ofString "size", .int n)]) (by with_unfolding_all rfl) (by k_asm) (by with_unfolding_all rfl) (by exact List.forall_mem_cons.mpr ⟨rd_cell (by with_unfolding_all rfl) (by k_asm) (by with_unfolding_all rfl) (by with_unfolding_all rfl) (by k_mem) (by assumption) (by with_unfolding_all rfl), List.forall_mem_nil _⟩) (by k_extra "EV!") (by first | with_reducible assumption | exact rfl) _ _ rfl ?_); intro t8 tk8; (try dsimp only))
  k_with "IEnd" => (with_unfolding_all refine IEnd.int (by first | exact rfl | assumption) (by assumption) (by assumption) (by intro p hp; first | exact hp | exact List.Mem.tail _ hp))
  k_with "exec Assign cons ListComp" => (ktr_tell ((with_reducible refine wpAny_Assign_Name ?_ ?_; rotate_left; with_unfolding_all rfl); k_dflt (refine LCg.ListComp_U (F₀ := by k_asm) (by with_unfolding_all rfl) (by decide) (by rfl) (by decide) (by rfl) ?_)))
  k_with "CompSrc" => (k_dflt (refine LCg.CompSrc.ledger (by rfl) (by k_asm) (by k_asm) (by k_mem) (Nat.le_of_ble_eq_true rfl) ?_; intro g9; (refine compG_ints (fun i => ((wl ([R, r, Bv].getD i 0) : Nat) : Int)) (.inr ⟨_, by k_mem, rfl, _, rfl⟩) ?_ ?_); (rotate_left); (intro ys9 hs9; (have hl9 := hs9.length); (simp only [List.length_map, List.length_range, List.size_toArray] at hl9); (replace hs9 : IntsAre ys9 [P1, P1, P2] := by (rw [← hWd]; exact hs9)); (try dsimp only)); (rotate_left); (intro i9 hi9 ys9 hs9 v9 I9 oI9 C9 oC9 D9 m9 h9 tk9 E9 hv9 hC9 hx9 F9 N9 off9 ne9; (obtain ⟨t9', hv9'⟩ := ints_atD (IntsAre.cons R _ (IntsAre.cons r _ (IntsAre.cons Bv _ IntsAre.nil))) hv9; subst hv9'); skip; (try dsimp only))))
  k_with "FinA" => (k_dflt (unfold LCg.FinA); intro D9 h9 k9 F9 N9 o9; (have o19 := o9); (try simp only [LCg.Off1, and_true] at o19); (try simp only [List.nil_append, List.cons_append] at N9); (try dsimp only))
  k_with "call ref" => (((with_unfolding_all refine c_pf (by k_asm) (by k_asm) (by k_asm) (by k_asm) (by k_asm) (by rfl) (hNb i9).1 (hNb i9).2 (by ktr_room) (by ktr_units) ?_); intro t8 h8 k8 F8 N8; (try dsimp only); (try k_fold)))
  k_with "call builtin:str.split" => (k_dflt (refine r_splitj (hNb i9).1 (hNb i9).2 (by k_asm) (by k_asm) ?_); intro D8 vs8 h8 k8 hs8 F8 N8 l8; (try dsimp only))
  k_with "call builtin:len" => (k_dflt (refine r_len (k := wl ([R, r, Bv].getD i9 0)) (by k_asm) (by k_mem) hs8.length (wl_le (hNb i9).1 (hNb i9).2) ?_); intro t8 tk8; (try dsimp only))
  k_with "compareOp NotEq ref ref" => (k_dflt (refine r_ne_f (by k_asm) (by k_mem) (by assumption) (by k_mem) (IntsAre.cons P1 _ (IntsAre.cons P1 _ (IntsAre.cons P2 _ IntsAre.nil))) (by ke_room) ?_))
  k_steps
  (try dsimp only)
  (with_reducible rename News _ _ _ _ => nN)
  with_unfolding_all exact hnext _ _ _ (by assumption) (by intro z h2; simp only [List.contains_cons, List.contains_nil, Bool.or_false, Bool.or_eq_false_iff, beq_eq_false_iff_ne, ne_eq] at h2; simp only [h2, if_false, ite_focus qR, ite_focus qr]) (cb_drop nN fun q hq => by repeat (first | exact hq | apply List.Mem.tail))
end Mine
end
section
set_option maxRecDepth 100000
namespace Mine
open Builtin.Int (intBits)

set_option maxHeartbeats 4000000 in
theorem segM {w : World} {loose : List Str} {mean : ExcName → Option Value} {mg mb : Str → Option Value} {fa : Addr} {cd : Value} {base h₀ : Heap} {L : Addr} {m : Str → Option Value} {s : Shared} {E : Value → Shared → Prop} {Q : Flow → Shared → Prop} {sc : Scope} {bd : List Stmt} {st0 : Stmt} (hsc : sc = lawScope) (hbd : lawBody.drop 22 = st0 :: bd) {S : Addr} {sv : List Value} {sn j : Nat} {sl : List Int} {c Tn xv : Int} {t4 t6 : Tok} {o4 o6 : Obj} {rst : List (Addr × Obj)}
   (B : Below callerA base [] h₀) (F : Fr h₀ L s.heap m) (X : (hd.heap_39 w.params).In h₀) (N : News h₀ L s.heap ((S, W.listOf (List.toArray sv) sn) :: (L + 1 + 1 + 1 + 1, o4) :: (L + 1 + 1 + 1 + 1 + 1 + 1, o6) :: rst)) (T : Top topProg loose mean mg mb h₀) (qS : m (Str.ofString "states") = some (.ref S)) (d4 : o4.data = .cell (some (.int c t4))) (d6 : o6.data = .cell (some (.int Tn t6))) (hsv : IntsAre sv sl) (hc : 0 < c) (hc2 : c ≤ 31) (hsl : sl.length = c.toNat)
   (hx : Builtin.bitXor (sl.getD (Int.toNat 0) 0) (sl.getD ((-Tn).fmod c).toNat 0) = xv) (hj : sl.findIdx? (· == xv) = some j)
   (hnext : ∀ tp m' h' tk', Fr h₀ L h' m' → (∀ y, [Str.ofString "place"].contains y = false → m' y = m y) → m' (Str.ofString "place") = some (.int (j : Int) tp) → News h₀ L h' rst → wpAny (model PySem.Challenge.rw_wo0032_02.row.prog w) (callerA.deeper (envOfC (Str.ofString "law") sc L fa cd)) (execs bd (envOfC (Str.ofString "law") sc L fa cd)) Q E { s with heap := h', toks := tk' }) : wpAny (model PySem.Challenge.rw_wo0032_02.row.prog w) (callerA.deeper (envOfC (Str.ofString "law") sc L fa cd)) (execs (st0 :: bd) (envOfC (Str.ofString "law") sc L fa cd)) Q E s := by
  w_top off
  k_with_none
  k_with "LT1!" => (first | with_reducible assumption | with_reducible exact Nat.lt_succ_self _ | with_reducible exact And.left (by assumption) | with_reducible exact And.left (And.right (by assumption)) | with_reducible exact And.left (And.right (And.right (by assumption))) | with_reducible exact And.left (And.right (And.right (And.right (by assumption)))) | with_reducible exact And.left (And.right (And.right (And.right (And.right (by assumption))))) | with_reducible exact And.left (And.right (And.right (And.right (And.right (And.right (by assumption)))))) | with_reducible exact And.right (by assumption) | with_reducible exact And.right (And.right (by assumption)) | with_reducible exact And.right (And.right (And.right (by assumption))) | with_reducible exact And.right (And.right (And.right (And.right (by assumption)))))
  k_with "LT!" => (first | k_extra "LT1!" | ((with_reducible refine (Nat.lt_succ_of_lt ?_ : @LT.lt Nat _ _ (_ + 1))); first | k_extra "LT1!" | ((with_reducible refine (Nat.lt_succ_of_lt ?_ : @LT.lt Nat _ _ (_ + 1))); first | k_extra "LT1!" | ((with_reducible refine (Nat.lt_succ_of_lt ?_ : @LT.lt Nat _ _ (_ + 1))); k_extra "LT1!"))))
  k_with "NE!" => (first | with_reducible assumption | with_reducible exact Ne.symm (by assumption) | decide | ((fail_if_success (fail_if_success omega)); first | ((with_reducible refine Nat.ne_of_gt ?_); (fail_if_success (fail_if_success omega)); k_extra "LT!") | ((with_reducible refine Nat.ne_of_lt ?_); (fail_if_success (fail_if_success omega)); k_extra "LT!") | with_reducible exact And.left (by assumption) | with_reducible exact And.left (And.right (by assumption)) | with_reducible exact And.left (And.right (And.right (by assumption))) | omega))
  k_with "KNE!" => ((refine neN ?_; (try dsimp only); k_extra "NE!"))
  k_with "LBND!" => (first | assumption | decide | with_reducible exact Int.lt_of_lt_of_le (by assumption) (by decide) | with_reducible exact Int.lt_of_le_of_lt (by assumption) (by decide) | with_reducible exact Int.le_trans (by assumption) (by decide) | with_reducible exact Int.lt_of_lt_of_le (by decide) (by assumption) | with_reducible exact Int.le_trans (by decide) (by assumption) | with_reducible exact Int.natCast_nonneg _ | with_reducible exact Int.ne_of_gt (by assumption) | with_reducible exact Int.le_of_lt (by assumption) | with_reducible exact Nat.lt_of_lt_of_le (by assumption) (by decide) | with_reducible exact Nat.lt_of_le_of_lt (by assumption) (by decide) | with_reducible exact Nat.le_trans (by assumption) (by decide) | k_dflt omega | l_fact)
  k_with "ROOM!" => (((try simp only [depth_under_make, depth_under_kw, depth_in1, depth_deeper, depth_caller]); (try dsimp only [ktrTop]); first | with_reducible assumption | exact room_0 (by with_reducible assumption) | exact room_le (by with_reducible assumption) (by decide) | exact room_12 (by with_reducible assumption) (by decide)))
  k_with "UNITS!" => (((try simp only [units_in1, units_deeper, Around.mark_units, units_caller]); (try dsimp only [ktrTop]); first | with_reducible assumption | exact room_0 (by with_reducible assumption) | exact room_le (by with_reducible assumption) (by decide) | exact room_12 (by with_reducible assumption) (by decide) | exact room_123 (by with_reducible assumption) (by decide)))
  k_with "BITS!" => (first | (with_reducible assumption) | ((with_reducible refine bits_le_of_lt ?_ ?_) <;> l_bnd))
  k_with "ALL!" => (first | assumption | (refine' allNe (by assumption)) | (refine' neOfLt (by assumption)))
  k_with "EV!" => ((repeat' (first | exact Ev.const | exact Ev.cap (by with_unfolding_all rfl) | exact Ev.loc (by with_unfolding_all rfl) (by with_unfolding_all rfl) (by decide) | apply Ev.and1 | apply Ev.add | apply Ev.sub | apply Ev.neg | apply Ev.mul | apply Ev.fmod | apply Ev.fdiv | apply Ev.pow | apply Ev.shr | apply Ev.item (by with_unfolding_all rfl) (hs := by intro _ _; with_unfolding_all rfl) | apply Ev.bxor | apply Ev.band | apply EvP.lt (hm := by with_unfolding_all rfl) | apply EvP.le (hm := by with_unfolding_all rfl) | apply EvP.gt (hm := by with_unfolding_all rfl) | apply EvP.ge (hm := by with_unfolding_all rfl) | apply EvP.eq (hm := by with_unfolding_all rfl) | apply EvP.ne (hm := by with_unfolding_all rfl) | apply EvP.lelt (hm := by with_unfolding_all rfl) | apply EvP.not | apply EvP.int (hi := by rfl) | ((with_reducible show IntMulOk _ _); refine IntMulOk.of_le (by bits_by_make) (by bits_by_make) (by decide)) | exact PyProof.noPylong_small (by decide) | k_extra "EVC!" | ((fail_if_success (with_reducible show Int)); l_bnd))))
  k_with "EVC!" => (fail)
  have hc0 : c ≠ 0 := Int.ne_of_gt hc
  have hm0 := Int.fmod_nonneg_of_pos (-Tn) hc
  have hm1 := Int.fmod_lt_of_pos (-Tn) hc
  have hm2 : (-Tn).fmod c < sl.length := len_lt hsl hc hm1
  have hm3 : (0 : Int) < sl.length := len_pos0 hsl hc
  have hm4 : sl.length ≤ 1000000 := len_mil hsl hc2
  with_unfolding_all (conv at hsc => rhs; whnf)
  dsimp only at hsc
  with_unfolding_all (conv at hbd => lhs; whnf)
  injection hbd with hst0 hbd
  (try dsimp only at hst0)
  clear hbd
  subst hsc hst0
  replace F := fr_focus qS F
  revert B F X N T
  k_fill
  intro B F X N T
  k_with "eval BinOp" => (k_dflt (refine ev_eq (κ := [(Str.ofString "states", .ints sl), (Str.ofString "turn", .int Tn), (Str.ofString "count", .int c)]) (by with_unfolding_all rfl) (by k_asm) (by with_unfolding_all rfl) (by exact List.forall_mem_cons.mpr ⟨rd_locals (by with_unfolding_all rfl) (by k_asm) (by with_unfolding_all rfl) (by k_asm) (by with_unfolding_all rfl) (by k_mem) (by assumption) (by with_unfolding_all rfl) (by with_unfolding_all rfl), List.forall_mem_cons.mpr ⟨rd_cell (by with_unfolding_all rfl) (by k_asm) (by with_unfolding_all rfl) (by with_unfolding_all rfl) (by k_mem) (by assumption) (by with_unfolding_all rfl), List.forall_mem_cons.mpr ⟨rd_cell (by with_unfolding_all rfl) (by k_asm) (by with_unfolding_all rfl) (by with_unfolding_all rfl) (by k_mem) (by assumption) (by with_unfolding_all rfl), List.forall_mem_nil _⟩⟩⟩) (by k_extra "EV!") (by first | with_reducible assumption | exact rfl) _ _ rfl ?_); intro t8 tk8; (try dsimp only))
  k_with "call builtin:list.index" => (k_dflt (refine r_indexI (by k_asm) (by k_mem) hsv hj hm4 ?_); intro t9 k9; (try dsimp only))
  k_steps
  (with_reducible rename News _ _ _ _ => nN)
  with_unfolding_all refine hnext _ _ _ _ (by assumption) (by intro z h2; simp only [List.contains_cons, List.contains_nil, Bool.or_false, Bool.or_eq_false_iff, beq_eq_false_iff_ne, ne_eq] at h2; simp only [h2, if_false, ite_focus qS]) (by with_unfolding_all rfl) (cb_drop nN fun q hq => by repeat (first | exact hq | apply List.Mem.tail))
end Mine
end
section
set_option maxRecDepth 100000
namespace Mine
open Builtin.Int (intBits)

set_option maxHeartbeats 4000000 in
theorem segN {w : World} {loose : List Str} {mean : ExcName → Option Value} {mg mb : Str → Option Value} {fa : Addr} {cd : Value} {base h₀ : Heap} {L : Addr} {m : Str → Option Value} {s : Shared} {E : Value → Shared → Prop} {Q : Flow → Shared → Prop} {sc : Scope} {bd : List Stmt} {st0 : Stmt} (hsc : sc = lawScope) (hbd : lawBody.drop 23 = st0 :: bd) {R W c pl Xv r xr : Int} {tR tW tr tp t4 : Tok} {o4 : Obj} {rst tb : List (Addr × Obj)}
   (B : Below callerA base [] h₀) (F : Fr h₀ L s.heap m) (X : (hd.heap_39 w.params).In h₀) (N : News h₀ L s.heap ((L + 1 + 1 + 1 + 1, o4) :: (rst ++ tb))) (T : Top topProg loose mean mg mb h₀) (qR : m (Str.ofString "ring") = some (.int R tR)) (qW : m (Str.ofString "whole") = some (.int W tW)) (qr : m (Str.ofString "rest") = some (.int r tr)) (qp : m (Str.ofString "place") = some (.int pl tp)) (d4 : o4.data = .cell (some (.int c t4))) (hT : Tabs tb) (hNT : ∀ p ∈ rst, NotTab p.2) (C1 : CodeHd base 34 30) (C2 : CodeHd base 41 37)
   (hX : R * 2 ^ (c - pl).toNat = Xv) (hX0 : 0 ≤ Xv) (hXb : intBits Xv ≤ 20 * intBits W) (hW0 : 0 < W) (hWb : intBits W ≤ 31) (hr : Xv % W = xr) (hxr : Builtin.bitXor R r = xr) (hT0 : 0 ≤ c - pl) (hT1 : (intBits 2 : Int) * (c - pl) ≤ 2 ^ 27) (hTb : intBits ((2 : Int) ^ (c - pl).toNat) ≤ 200) (hRb : intBits R ≤ 31)
   (hnext : ∀ tb' h' tk', Tabs tb' → Fr h₀ L h' m → News h₀ L h' (rst ++ tb') → wpAny (model PySem.Challenge.rw_wo0032_02.row.prog w) (callerA.deeper (envOfC (Str.ofString "law") sc L fa cd)) (execs bd (envOfC (Str.ofString "law") sc L fa cd)) Q E { s with heap := h', toks := tk' }) : wpAny (model PySem.Challenge.rw_wo0032_02.row.prog w) (callerA.deeper (envOfC (Str.ofString "law") sc L fa cd)) (execs (st0 :: bd) (envOfC (Str.ofString "law") sc L fa cd)) Q E s := by
  w_top off
  k_with_none
  k_with "LT1!" => (first | with_reducible assumption | with_reducible exact Nat.lt_succ_self _ | with_reducible exact And.left (by assumption) | with_reducible exact And.left (And.right (by assumption)) | with_reducible exact And.left (And.right (And.right (by assumption))) | with_reducible exact And.left (And.right (And.right (And.right (by assumption)))) | with_reducible exact And.left (And.right (And.right (And.right (And.right (by assumption))))) | with_reducible exact And.left (And.right (And.right (And.right (And.right (And.right (by assumption)))))) | with_reducible exact And.right (by assumption) | with_reducible exact And.right (And.right (by assumption)) | with_reducible exact And.right (And.right (And.right (by assumption))) | with_reducible exact And.right (And.right (And.right (And.right (by assumption)))))
  k_with "LT!" => (first | k_extra "LT1!" | ((with_reducible refine (Nat.lt_succ_of_lt ?_ : @LT.lt Nat _ _ (_ + 1))); first | k_extra "LT1!" | ((with_reducible refine (Nat.lt_succ_of_lt ?_ : @LT.lt Nat _ _ (_ + 1))); first | k_extra "LT1!" | ((with_reducible refine (Nat.lt_succ_of_lt ?_ : @LT.lt Nat _ _ (_ + 1))); k_extra "LT1!"))))
  k_with "NE!" => (first | with_reducible assumption | with_reducible exact Ne.symm (by assumption) | decide | ((fail_if_success (fail_if_success omega)); first | ((with_reducible refine Nat.ne_of_gt ?_); (fail_if_success (fail_if_success omega)); k_extra "LT!") | ((with_reducible refine Nat.ne_of_lt ?_); (fail_if_success (fail_if_success omega)); k_extra "LT!") | with_reducible exact And.left (by assumption) | with_reducible exact And.left (And.right (by assumption)) | with_reducible exact And.left (And.right (And.right (by assumption))) | omega))
  k_with "KNE!" => ((refine neN ?_; (try dsimp only); k_extra "NE!"))
  k_with "LBND!" => (first | assumption | decide | with_reducible exact Int.lt_of_lt_of_le (by assumption) (by decide) | with_reducible exact Int.lt_of_le_of_lt (by assumption) (by decide) | with_reducible exact Int.le_trans (by assumption) (by decide) | with_reducible exact Int.lt_of_lt_of_le (by decide) (by assumption) | with_reducible exact Int.le_trans (by decide) (by assumption) | with_reducible exact Int.natCast_nonneg _ | with_reducible exact Int.ne_of_gt (by assumption) | with_reducible exact Int.le_of_lt (by assumption) | with_reducible exact Nat.lt_of_lt_of_le (by assumption) (by decide) | with_reducible exact Nat.lt_of_le_of_lt (by assumption) (by decide) | with_reducible exact Nat.le_trans (by assumption) (by decide) | k_dflt omega | l_fact)
  k_with "ROOM!" => (((try simp only [depth_under_make, depth_under_kw, depth_in1, depth_deeper, depth_caller]); (try dsimp only [ktrTop]); first | with_reducible assumption | exact room_0 (by with_reducible assumption) | exact room_le (by with_reducible assumption) (by decide) | exact room_12 (by with_reducible assumption) (by decide)))
  k_with "UNITS!" => (((try simp only [units_in1, units_deeper, Around.mark_units, units_caller]); (try dsimp only [ktrTop]); first | with_reducible assumption | exact room_0 (by with_reducible assumption) | exact room_le (by with_reducible assumption) (by decide) | exact room_12 (by with_reducible assumption) (by decide) | exact room_123 (by with_reducible assumption) (by decide)))
  k_with "BITS!" => (first | (with_reducible assumption) | ((with_reducible refine bits_le_of_lt ?_ ?_) <;> l_bnd))
  k_with "ALL!" => (first | assumption | (refine' allNe (by assumption)) | (refine' neOfLt (by assumption)))
  k_with "EV!" => ((repeat' (first | exact Ev.const | exact Ev.cap (by with_unfolding_all rfl) | exact Ev.loc (by with_unfolding_all rfl) (by with_unfolding_all rfl) (by decide) | apply Ev.and1 | apply Ev.add | apply Ev.sub | apply Ev.neg | apply Ev.mul | apply Ev.fmod | apply Ev.fdiv | apply Ev.pow | apply Ev.shr | apply Ev.item (by with_unfolding_all rfl) (hs := by intro _ _; with_unfolding_all rfl) | apply Ev.bxor | apply Ev.band | apply EvP.lt (hm := by with_unfolding_all rfl) | apply EvP.le (hm := by with_unfolding_all rfl) | apply EvP.gt (hm := by with_unfolding_all rfl) | apply EvP.ge (hm := by with_unfolding_all rfl) | apply EvP.eq (hm := by with_unfolding_all rfl) | apply EvP.ne (hm := by with_unfolding_all rfl) | apply EvP.lelt (hm := by with_unfolding_all rfl) | apply EvP.not | apply EvP.int (hi := by rfl) | ((with_reducible show IntMulOk _ _); refine IntMulOk.of_le (by bits_by_make) (by bits_by_make) (by decide)) | exact PyProof.noPylong_small (by decide) | k_extra "EVC!" | ((fail_if_success (with_reducible show Int)); l_bnd))))
  k_with "EVC!" => (fail)
  have hN9 := offs (l := [(L + 1 + 1 + 1 + 1, o4)]) hT N (by intro p hp; cases hp with | head => exact NotTab.cell d4 | tail _ h => cases h) hNT
  simp only [List.cons_append, List.nil_append] at hN9
  with_unfolding_all (conv at hsc => rhs; whnf)
  dsimp only at hsc
  with_unfolding_all (conv at hbd => lhs; whnf)
  injection hbd with hst0 hbd
  (try dsimp only at hst0)
  clear hbd
  subst hsc hst0
  replace F := fr_focus qp F
  replace F := fr_focus (k := Str.ofString "rest") (v := .int r tr) (by (try dsimp only); rw [if_neg (by decide)]; exact qr) F
  replace F := fr_focus (k := Str.ofString "whole") (v := .int W tW) (by (try dsimp only); rw [if_neg (by decide)]; rw [if_neg (by decide)]; exact qW) F
  replace F := fr_focus (k := Str.ofString "ring") (v := .int R tR) (by (try dsimp only); rw [if_neg (by decide)]; rw [if_neg (by decide)]; rw [if_neg (by decide)]; exact qR) F
  revert B F X N T
  k_fill
  intro B F X N T
  k_with "eval BinOp" => (k_dflt (refine ev_eq (κ := [(Str.ofString "count", .int c)]) (by with_unfolding_all rfl) (by k_asm) (by with_unfolding_all rfl) (by exact List.forall_mem_cons.mpr ⟨rd_cell (by with_unfolding_all rfl) (by k_asm) (by with_unfolding_all rfl) (by with_unfolding_all rfl) (by k_mem) (by assumption) (by with_unfolding_all rfl), List.forall_mem_nil _⟩) (by k_extra "EV!") (by first | with_reducible assumption | exact rfl) _ _ rfl ?_); intro t8 tk8; (try dsimp only))
  k_with "call ref" => (((with_unfolding_all refine c_dm hT (Ends.cons (ends_app _ _)) hN9 (by k_asm) (by k_asm) (by k_asm) (by k_asm) (by k_asm) (by rfl) C1 C2 hW0 hWb hX0 hXb (by ktr_room) (by ktr_units) ?_); intro D9 tb9 t9 u9 h9 k9 hT9 F9 N9 l9; (rw [hr] at N9); (simp only [List.cons_append] at N9); (try dsimp only); (try k_fold)))
  k_with "compareOp NotEq int int" => (with_reducible refine r_ne_int rfl ?_)
  k_steps
  (with_reducible rename News _ _ _ _ => nN)
  with_unfolding_all exact hnext tb9 _ _ hT9 (fr_eqm (by assumption) (by intro z; simp only [ite_focus qR, ite_focus qW, ite_focus qr, ite_focus qp])) (cb_drop nN fun q hq => .tail _ (.tail _ hq))
end Mine
end
section
set_option maxRecDepth 100000
namespace Mine
open Builtin.Int (intBits)

set_option maxHeartbeats 4000000 in
theorem segO {w : World} {loose : List Str} {mean : ExcName → Option Value} {mg mb : Str → Option Value} {fa : Addr} {cd : Value} {base h₀ : Heap} {L : Addr} {m : Str → Option Value} {s : Shared} {E : Value → Shared → Prop} {Q : Flow → Shared → Prop} {sc : Scope} {bd : List Stmt} {st0 : Stmt} (hsc : sc = lawScope) (hbd : lawBody.drop 24 = st0 :: bd) {Mk : Addr} {c : Int} {t4 : Tok} {mv : List Value} {ms zs : List Int} {o4 o5 o7 : Obj} {rst : List (Addr × Obj)}
   (B : Below callerA base [] h₀) (F : Fr h₀ L s.heap m) (X : (hd.heap_39 w.params).In h₀) (N : News h₀ L s.heap ((L + 1 + 1 + 1 + 1 + 1, o5) :: (Mk, LCg.lst mv) :: (L + 1 + 1 + 1 + 1, o4) :: (L + 1 + 1 + 1 + 1 + 1 + 1 + 1, o7) :: rst)) (T : Top topProg loose mean mg mb h₀) (d4 : o4.data = .cell (some (.int c t4))) (d5 : o5.data = .cell (some (.ref Mk))) (d7 : o7.data = .cell none) (hmv : IntsAre mv ms) (hc : 0 < c) (hc2 : c ≤ 31) (hml : ms.length = c.toNat) (hz : (List.range c.toNat).map (fun (i : Nat) => ms.getD ((2 * (i : Int)).fmod c).toNat 0) = zs)
   (gM : @Ne Nat Mk (L + 7)) (hoff : ∀ q ∈ rst, q.1 ≠ L + 1 + 1 + 1 + 1 + 1 + 1 + 1)
   (hnext : ∀ (Z : Addr) (zv : List Value) (o7' : Obj) h' tk', IntsAre zv zs → o7'.data = .cell (some (.ref Z)) → LCg.Off1 Z rst → Fr h₀ L h' m → News h₀ L h' ((Z, LCg.lst zv) :: (L + 1 + 1 + 1 + 1 + 1 + 1 + 1, o7') :: rst) → wpAny (model PySem.Challenge.rw_wo0032_02.row.prog w) (callerA.deeper (envOfC (Str.ofString "law") sc L fa cd)) (execs bd (envOfC (Str.ofString "law") sc L fa cd)) Q E { s with heap := h', toks := tk' }) : wpAny (model PySem.Challenge.rw_wo0032_02.row.prog w) (callerA.deeper (envOfC (Str.ofString "law") sc L fa cd)) (execs (st0 :: bd) (envOfC (Str.ofString "law") sc L fa cd)) Q E s := by
  w_top off
  k_with_none
  k_with "LT1!" => (first | with_reducible assumption | with_reducible exact Nat.lt_succ_self _ | with_reducible exact And.left (by assumption) | with_reducible exact And.left (And.right (by assumption)) | with_reducible exact And.left (And.right (And.right (by assumption))) | with_reducible exact And.left (And.right (And.right (And.right (by assumption)))) | with_reducible exact And.left (And.right (And.right (And.right (And.right (by assumption))))) | with_reducible exact And.left (And.right (And.right (And.right (And.right (And.right (by assumption)))))) | with_reducible exact And.right (by assumption) | with_reducible exact And.right (And.right (by assumption)) | with_reducible exact And.right (And.right (And.right (by assumption))) | with_reducible exact And.right (And.right (And.right (And.right (by assumption)))))
  k_with "LT!" => (first | k_extra "LT1!" | ((with_reducible refine (Nat.lt_succ_of_lt ?_ : @LT.lt Nat _ _ (_ + 1))); first | k_extra "LT1!" | ((with_reducible refine (Nat.lt_succ_of_lt ?_ : @LT.lt Nat _ _ (_ + 1))); first | k_extra "LT1!" | ((with_reducible refine (Nat.lt_succ_of_lt ?_ : @LT.lt Nat _ _ (_ + 1))); k_extra "LT1!"))))
  k_with "NE!" => (first | with_reducible assumption | with_reducible exact Ne.symm (by assumption) | decide | ((fail_if_success (fail_if_success omega)); first | ((with_reducible refine Nat.ne_of_gt ?_); (fail_if_success (fail_if_success omega)); k_extra "LT!") | ((with_reducible refine Nat.ne_of_lt ?_); (fail_if_success (fail_if_success omega)); k_extra "LT!") | with_reducible exact And.left (by assumption) | with_reducible exact And.left (And.right (by assumption)) | with_reducible exact And.left (And.right (And.right (by assumption))) | omega))
  k_with "KNE!" => ((refine neN ?_; (try dsimp only); k_extra "NE!"))
  k_with "LBND!" => (first | assumption | decide | with_reducible exact Int.lt_of_lt_of_le (by assumption) (by decide) | with_reducible exact Int.lt_of_le_of_lt (by assumption) (by decide) | with_reducible exact Int.le_trans (by assumption) (by decide) | with_reducible exact Int.lt_of_lt_of_le (by decide) (by assumption) | with_reducible exact Int.le_trans (by decide) (by assumption) | with_reducible exact Int.natCast_nonneg _ | with_reducible exact Int.ne_of_gt (by assumption) | with_reducible exact Int.le_of_lt (by assumption) | with_reducible exact Nat.lt_of_lt_of_le (by assumption) (by decide) | with_reducible exact Nat.lt_of_le_of_lt (by assumption) (by decide) | with_reducible exact Nat.le_trans (by assumption) (by decide) | k_dflt omega | l_fact)
  k_with "ROOM!" => (((try simp only [depth_under_make, depth_under_kw, depth_in1, depth_deeper, depth_caller]); (try dsimp only [ktrTop]); first | with_reducible assumption | exact room_0 (by with_reducible assumption) | exact room_le (by with_reducible assumption) (by decide) | exact room_12 (by with_reducible assumption) (by decide)))
  k_with "UNITS!" => (((try simp only [units_in1, units_deeper, Around.mark_units, units_caller]); (try dsimp only [ktrTop]); first | with_reducible assumption | exact room_0 (by with_reducible assumption) | exact room_le (by with_reducible assumption) (by decide) | exact room_12 (by with_reducible assumption) (by decide) | exact room_123 (by with_reducible assumption) (by decide)))
  k_with "BITS!" => (first | (with_reducible assumption) | ((with_reducible refine bits_le_of_lt ?_ ?_) <;> l_bnd))
  k_with "ALL!" => (first | assumption | (refine' allNe (by assumption)) | (refine' neOfLt (by assumption)))
  k_with "EV!" => ((repeat' (first | exact Ev.const | exact Ev.cap (by with_unfolding_all rfl) | exact Ev.loc (by with_unfolding_all rfl) (by with_unfolding_all rfl) (by decide) | apply Ev.and1 | apply Ev.add | apply Ev.sub | apply Ev.neg | apply Ev.mul | apply Ev.fmod | apply Ev.fdiv | apply Ev.pow | apply Ev.shr | apply Ev.item (by with_unfolding_all rfl) (hs := by intro _ _; with_unfolding_all rfl) | apply Ev.bxor | apply Ev.band | apply EvP.lt (hm := by with_unfolding_all rfl) | apply EvP.le (hm := by with_unfolding_all rfl) | apply EvP.gt (hm := by with_unfolding_all rfl) | apply EvP.ge (hm := by with_unfolding_all rfl) | apply EvP.eq (hm := by with_unfolding_all rfl) | apply EvP.ne (hm := by with_unfolding_all rfl) | apply EvP.lelt (hm := by with_unfolding_all rfl) | apply EvP.not | apply EvP.int (hi := by rfl) | ((with_reducible show IntMulOk _ _); refine IntMulOk.of_le (by bits_by_make) (by bits_by_make) (by decide)) | exact PyProof.noPylong_small (by decide) | k_extra "EVC!" | ((fail_if_success (with_reducible show Int)); l_bnd))))
  k_with "EVC!" => (fail)
  have hvl := hmv.length
  have hc0 : c ≠ 0 := Int.ne_of_gt hc
  have hcn : c.toNat ≤ 31 := by omega
  have hc31 : c ≤ 1000000 := Int.le_trans hc2 (by decide)
  have hcz : (c.toNat : Int) = c - 0 := by omega
  have hc00 : (0 : Int) ≤ c := Int.le_of_lt hc
  have h22 : intBits 2 ≤ 2 := by decide
  with_unfolding_all (conv at hsc => rhs; whnf)
  dsimp only at hsc
  with_unfolding_all (conv at hbd => lhs; whnf)
  injection hbd with hst0 hbd
  (try dsimp only at hst0)
  clear hbd
  subst hsc hst0
  revert B F X N T
  k_fill
  intro B F X N T
  k_with "eval Subscript" => (k_dflt (refine evc_ok (κ := [(Str.ofString "k", .int (i9 : Int)), (Str.ofString "marks", .ints ms), (Str.ofString "count", .int c)]) (by exact List.forall_mem_cons.mpr ⟨rd_comp (by with_unfolding_all rfl) (by k_asm) (by with_unfolding_all rfl) (by k_mem) (by assumption) (by assumption) (by with_unfolding_all rfl) (by with_unfolding_all rfl), List.forall_mem_cons.mpr ⟨rd_cells (by with_unfolding_all rfl) (by k_asm) (by with_unfolding_all rfl) (by with_unfolding_all rfl) (by k_mem) (by assumption) (by k_mem) (by assumption) (by with_unfolding_all rfl), List.forall_mem_cons.mpr ⟨rd_cell (by with_unfolding_all rfl) (by k_asm) (by with_unfolding_all rfl) (by with_unfolding_all rfl) (by k_mem) (by assumption) (by with_unfolding_all rfl), List.forall_mem_nil _⟩⟩⟩) (by k_extra "EV!") (by first | with_reducible assumption | exact rfl) _ _ rfl ?_); intro t7 tk7; (try dsimp only))
  k_with "IEnd" => (with_unfolding_all refine IEnd.int (by first | exact rfl | assumption) (by assumption) (by assumption) (by intro p hp; first | exact hp | exact List.Mem.tail _ hp))
  k_with "exec Assign cons ListComp" => (ktr_tell ((with_reducible refine wpAny_Assign_Name ?_ ?_; rotate_left; with_unfolding_all rfl); k_dflt (refine LCg.ListComp_U (F₀ := by k_asm) (by with_unfolding_all rfl) (by decide) (by rfl) (by decide) (by rfl) ?_)))
  k_with "CompSrc" => (k_dflt (refine LCg.CompSrc.range (by rfl) (by k_asm) (by k_asm) (by assumption) (rng_small (by decide) hc00 hc31) (rng_size (n := c.toNat) hc00 hcz.symm) (by rw [sizeLine_eq]; omega) ?_; intro g9; (refine compG_ints (fun (i : Nat) => ms.getD ((2 * (i : Int)).fmod c).toNat 0) True.intro ?_ ?_); (rotate_left); (intro ys9 hs9; (have hl9 := hs9.length); (simp only [List.length_map, List.length_range] at hl9); (rw [hz] at hs9); (try dsimp only)); (rotate_left); (intro i9 hi9 ys9 hs9 v9 I9 oI9 C9 oC9 D9 m9 h9 tk9 E9 hv9 hC9 hx9 F9 N9 off9 ne9; (obtain ⟨t9', hv9'⟩ := hv9; subst hv9'); (rw [Int.zero_add] at hx9); (have hm0 := Int.fmod_nonneg_of_pos (2 * (i9 : Int)) hc); (have hm1 := Int.fmod_lt_of_pos (2 * (i9 : Int)) hc); (have hm2 := len_lt hml hc hm1); (have hm3 := len_mil hml hc2); (have hb9 : intBits (i9 : Int) ≤ 5 := bits_le_of_lt (Int.natCast_nonneg _) (by have : i9 < 31 := Nat.lt_of_lt_of_le (by assumption) hcn; show (i9 : Int) < 32; omega)); (try dsimp only))))
  k_with "FinE" => (k_dflt (unfold LCg.FinE); intro D9 h9 k9 F9 N9 o9; (have o19 := o9); (try simp only [LCg.Off1, and_true] at o19); (try simp only [List.nil_append, List.cons_append] at N9); (try dsimp only))

  k_steps
  (with_reducible rename News _ _ _ _ => nN)
  with_unfolding_all refine hnext _ _ _ _ _ (by assumption) (by assumption) (off1_d (off1_d (off1_d (off1_d (by assumption))))) (by assumption) (cb_drop nN fun q hq => by simp only [List.mem_cons] at hq ⊢; rcases hq with h | h | h <;> simp only [h, true_or, or_true])
end Mine
end
section
open PyProof.Rows.LCg PyProof.Rows.LCt
open PySem.Builtin
namespace Mine
def cell0 : Obj := { cls := .type "cell", data := .cell none }
def dict0 : Obj := { cls := .type "dict", data := .dict #[] }
section
variable {M : Model} {A : Around} {E : Value → Shared → Prop} {s : Shared}
theorem nfe_cell {scope : Scope} {globals : Addr} {cl : List (Str × Addr)} {qual : Str} {x : Str} {env : Env} {Q : Env → Shared → Prop} (hc1 : ∀ n, cellsFrom n scope.names cl = (x, n) :: cl) (hc2 : ∀ h, pushCells h scope.names = h.push cell0)
    (hQ : Q { scope, locals := s.heap.objs.size, globals, cells := (x, s.heap.objs.size + 1) :: cl, qual, func := none, code := env.code, frame := env.frame, builtins := env.builtins } { s with heap := (s.heap.push dict0).push cell0 }) :
    wpAny M A (newFunctionEnv scope globals cl [] qual none .none (some env)) Q E s := by
  simp only [newFunctionEnv, Option.isSome_some, if_true]
  refine wpAny_bind (wpAny_alloc ?_)
  refine wpAny_bind (wpAny_layCells _ (fun name kind cells => by cases hkc : kind == NameKind.cell <;> simp [hkc]) _ _ _ _ ?_)
  rw [hc1, hc2]
  refine wpAny_bind ?_
  rw [List.forIn_nil]
  refine wpAny_pure (wpAny_pure ?_)
  rw [show ({ s with heap := s.heap.push { cls := .type "dict", data := .dict #[] } } : Shared).heap.objs.size = s.heap.objs.size + 1 from Heap.size_push ..]
  exact hQ
end
end Mine
namespace Mine
section
variable {prog : Program} {w : World} {A : Around} {E : Value → Shared → Prop} {s : Shared} {h₀ : Heap} {L : Addr} {m : Str → Option Value} {env : Env}
def TurnsK (prog : Program) (w : World) (A : Around) (h₀ : Heap) (L : Addr) (m : Str → Option Value) (env : Env) (ct elt : Expr) (x : Str) (scope : Scope) (cl : List (Str × Addr)) (g : Nat → Bool) (f : Nat → Int) (a : Int) (n : Nat) (news : List (Addr × Obj)) (s₂ : Shared) : Prop :=
  (∀ i, i < n → ∀ ys, IntsAre ys (keepF g f i) → ∀ t I oI C oC K oK D h tk (E' : Value → Shared → Prop), oK.data = .cell (some (.int (a + (i : Int)) t)) → Fr h₀ L h m → News h₀ L h ((I, oI) :: (C, oC) :: (K, oK) :: (D, lst ys) :: news) →
    wpAny (model prog w) A (isTrue ct (compEnvC scope ((x, K) :: cl) C env) (eval ct (compEnvC scope ((x, K) :: cl) C env))) (BEnd h₀ L m { s₂ with heap := h, toks := tk } ((I, oI) :: (C, oC) :: (K, oK) :: (D, lst ys) :: news) (g i)) E' { s₂ with heap := h, toks := tk }) ∧
  (∀ i, i < n → g i = true → ∀ ys, IntsAre ys (keepF g f i) → ∀ t I oI C oC K oK D h tk (E' : Value → Shared → Prop), oK.data = .cell (some (.int (a + (i : Int)) t)) → Fr h₀ L h m → News h₀ L h ((I, oI) :: (C, oC) :: (K, oK) :: (D, lst ys) :: news) →
    wpAny (model prog w) A (eval elt (compEnvC scope ((x, K) :: cl) C env)) (IEnd h₀ L m { s₂ with heap := h, toks := tk } ((I, oI) :: (C, oC) :: (K, oK) :: (D, lst ys) :: news) (fun t => .int (f i) t)) E' { s₂ with heap := h, toks := tk })
theorem off1_all {D : Addr} : ∀ {l : List (Addr × Obj)}, (∀ p ∈ l, p.1 ≠ D) → Off1 D l
  | [], _ => trivial
  | _ :: _, h => ⟨h _ (.head _), off1_all fun q hq => h q (.tail _ hq)⟩
theorem cellObj {o : Obj} {v : Option Value} {h : Heap} {c : Addr} (e : h.IsCell c v) : ∃ o, h.get? c = some o ∧ o.data = .cell v := e
theorem block_K {ct elt iter : Expr} {x : Str} {px : Pos} {scope : Scope} {cl : List (Str × Addr)} {pos : Pos} {s₂ : Shared} {I : Addr} {a : Int} {n : Nat} {g : Nat → Bool} {f : Nat → Int} {news : List (Addr × Obj)} {RR : Value → Addr → Result → Shared → Prop}
    (hh : A.handled = none) (hsz : n ≤ sizeLine) (hst : IsRangeIter s₂.heap I (a + ((0 : Nat) : Int) * 1) ((n : Int) - ((0 : Nat) : Int)) 1)
    (hc1 : ∀ n, cellsFrom n scope.names cl = (x, n) :: cl) (hc2 : ∀ h, pushCells h scope.names = h.push cell0) (hkind : scope.kind = .function) (hxK : (relabel scope env).names.lookup x = some .cell)
    (F : Fr h₀ L s₂.heap m) (N : News h₀ L s₂.heap news) (hIL : L ≠ I) (hI₀ : h₀.get? I = none) (off : ∀ p ∈ news, p.1 ≠ I) (R : TurnsK prog w A h₀ L m env ct elt x scope cl g f a n news s₂)
    (hRR : ∀ D C h tk m' ys, IntsAre ys (keepF g f n) → Fr h₀ L h m → News h₀ L h ((D, lst ys) :: news) → Off1 D news → h.Ns C m' → h₀.get? C = none → h₀.get? D = none → C ≠ L → D ≠ L → C ≠ D → (∀ p ∈ news, p.1 ≠ C) → RR (.ref D) C (.ok .next) { s₂ with heap := h, toks := tk }) :
    wpAny (model prog w) A (newList []) (fun acc s₃ => wpAny (model prog w) A (newFunctionEnv scope env.globals cl [] env.qual none .none (some env)) (fun cenv s₄ =>
      codeAny (model prog w) A (.compStart (.ListComp elt [⟨.Name x px, iter, [ct], 0⟩] scope pos) 0 (.ref I) acc { cenv with scope := relabel scope env }) (RR acc cenv.locals) s₄) E s₃) E s₂ := by
  refine wpAny_newObj_type (nfe_cell hc1 hc2 ?_)
  dsimp only
  generalize hH2 : s₂.heap.push { cls := .type "list", dict := none, data := .seq ([] : List Value).toArray } = H2
  have hD : s₂.heap.objs.size = s₂.heap.objs.size := rfl
  have hC : H2.objs.size = s₂.heap.objs.size + 1 := by rw [← hH2, Heap.size_push]
  have hC3 : (H2.push dict0).objs.size = H2.objs.size + 1 := Heap.size_push ..
  generalize hH4 : (H2.push dict0).push cell0 = H4
  have up2 : ∀ b o, s₂.heap.get? b = some o → H2.get? b = some o := fun b o e => hH2 ▸ Heap.get?_push_of_some _ e
  have up4 : ∀ b o, H2.get? b = some o → H4.get? b = some o := fun b o e => hH4 ▸ Heap.get?_push_of_some _ (Heap.get?_push_of_some _ e)
  have old : ∀ b o, s₂.heap.get? b = some o → H4.get? b = some o := fun b o e => up4 b o (up2 b o e)
  have hacc : H4.get? s₂.heap.objs.size = some (lst []) := up4 _ _ (hH2 ▸ Heap.get?_push_size _ rfl)
  have hns : H4.Ns H2.objs.size (fun _ => none) := by
    have h1 := (Heap.Ns.new H2 (.type "dict"))
    rw [← hH4]
    exact h1.keeps fun b o e => Heap.get?_push_of_some _ e
  have hcell : H4.IsCell (H2.objs.size + 1) none := by
    refine ⟨cell0, ?_, rfl⟩
    rw [← hH4, ← hC3]; exact Heap.get?_push_size _ rfl
  have fresh : ∀ b, s₂.heap.objs.size ≤ b → s₂.heap.get? b = none := fun b hb => by
    cases e : s₂.heap.get? b with
    | none => rfl
    | some o' => exact absurd (Heap.lt_size e) (Nat.not_lt.mpr hb)
  have fresh₀ : ∀ b, s₂.heap.objs.size ≤ b → h₀.get? b = none := fun b hb => by
    cases e : h₀.get? b with
    | none => rfl
    | some o' => have := F.keep b o' e; rw [fresh b hb] at this; cases this
  have hLlt : @LT.lt Nat _ L s₂.heap.objs.size := F.ns.lt
  have hIlt : @LT.lt Nat _ I s₂.heap.objs.size := Heap.lt_size hst
  have hLC : @LT.lt Nat _ L H2.objs.size := by omega
  have hLK : @LT.lt Nat _ L (H2.objs.size + 1) := by omega
  have nIC : @Ne Nat H2.objs.size I := by omega
  have nIK : @Ne Nat (H2.objs.size + 1) I := by omega
  have nCK : @Ne Nat H2.objs.size (H2.objs.size + 1) := by omega
  have nDC : @Ne Nat s₂.heap.objs.size H2.objs.size := by omega
  have nDK : @Ne Nat s₂.heap.objs.size (H2.objs.size + 1) := by omega
  have nDI : @Ne Nat s₂.heap.objs.size I := by omega
  have hD₀ : h₀.get? s₂.heap.objs.size = none := fresh₀ _ (Nat.le_refl _)
  have hC₀ : h₀.get? H2.objs.size = none := fresh₀ _ (by omega)
  have hK₀ : h₀.get? (H2.objs.size + 1) = none := fresh₀ _ (by omega)
  have hDL : s₂.heap.objs.size ≠ L := Nat.ne_of_gt hLlt
  have hCL : H2.objs.size ≠ L := Nat.ne_of_gt hLC
  have hKL : H2.objs.size + 1 ≠ L := Nat.ne_of_gt hLK
  have hnl : ∀ p ∈ news, @LT.lt Nat _ p.1 s₂.heap.objs.size := fun p hp => Heap.lt_size (N p hp).1
  have hpC : ∀ p ∈ news, @Ne Nat p.1 H2.objs.size := fun p hp => Nat.ne_of_lt (Nat.lt_trans (hnl p hp) (by omega))
  have hpK : ∀ p ∈ news, @Ne Nat p.1 (H2.objs.size + 1) := fun p hp => Nat.ne_of_lt (Nat.lt_trans (hnl p hp) (by omega))
  have loop : ∀ s₃ : Shared, s₃ = { s₂ with heap := H4 } →
      codeAny (model prog w) A (.compLoop (.ListComp elt [⟨.Name x px, iter, [ct], 0⟩] scope pos) 0 (.ref I) (.ref s₂.heap.objs.size) (compEnvC scope ((x, H2.objs.size + 1) :: cl) H2.objs.size env))
        (RR (.ref s₂.heap.objs.size) H2.objs.size) s₃ := by
    rintro s₃ rfl
    refine codeAny_compLoop_tests
      (fun k s' => ∃ h' tk i ys m' v₀, s' = { s₂ with heap := h', toks := tk } ∧ i ≤ n ∧ k = n + 1 - i ∧ ys.length ≤ i ∧ IsRangeIter h' I (a + (i : Nat) * 1) ((n : Int) - (i : Nat)) 1 ∧ Fr h₀ L h' m ∧ h'.Ns H2.objs.size m' ∧ h'.IsCell (H2.objs.size + 1) v₀ ∧ News h₀ L h' ((s₂.heap.objs.size, lst ys) :: news) ∧ IntsAre ys (keepF g f i)) ?_ (n + 1)
      ⟨H4, _, 0, [], _, none, rfl, Nat.zero_le _, rfl, Nat.le_refl _, old _ _ hst, F.keeps old, hns, hcell, fun p hp => ?_, .nil⟩
    · rintro k s' ⟨h', tk, i, ys, m', v₀, rfl, hi, rfl, hyl, hst', F', hn', hc', N', hys⟩
      have W := range_walks (prog := prog) (w := w) (I := I) hh a n
      by_cases hlt : i < n
      · refine W.item i _ _ _ hlt hst' fun v h₂ tk₂ hPv hst₂ hk₂ => ?_
        obtain ⟨t, rfl⟩ := hPv
        have kp : ∀ b o, b ≠ I → h'.get? b = some o → h₂.get? b = some o := fun b o hb e => hk₂ _ o (by simpa using hb) e
        have hc₂ : h₂.IsCell (H2.objs.size + 1) v₀ := by obtain ⟨o, e, d⟩ := hc'; exact ⟨o, kp _ _ nIK e, d⟩
        refine wpAny_assign_Name (wpAny_storeName_cell (by show (relabel scope env).kind = .function; exact hkind) (by show (relabel scope env).names.lookup x = some .cell; exact hxK) (by show List.lookup x ((x, H2.objs.size + 1) :: cl) = _; simp [List.lookup]) hc₂ (fun h₃ hc₃ hs₃ => ?_))
        refine wpAny_tests_one ?_
        have F₂ : Fr h₀ L h₂ m := fr_but F' hk₂ hIL hI₀
        have F₃ : Fr h₀ L h₃ m := F₂.change hs₃ hKL hK₀
        have hst₃ : IsRangeIter h₃ I (a + (i + 1 : Nat) * 1) ((n : Int) - (i + 1 : Nat)) 1 := hs₃.extBut _ _ (Ne.symm nIK) hst₂
        have N₂ : News h₀ L h₂ ((s₂.heap.objs.size, lst ys) :: news) := news_but N' hk₂ fun p hp => by
          rcases List.mem_cons.mp hp with rfl | hp
          · exact Nat.ne_of_gt hIlt
          · exact off p hp
        obtain ⟨oK, heK, hoK⟩ := hc₃
        have hn₂ : h₂.Ns H2.objs.size m' := hn'.at' fun o e => kp _ o nIC e
        have hn₃ : h₃.Ns H2.objs.size m' := hn₂.at' fun o e => hs₃.extBut _ _ nCK e
        obtain ⟨oC, heC, hoC⟩ := ns_obj hn₃
        have N₃ : News h₀ L h₃ ((I, _) :: (H2.objs.size, oC) :: (H2.objs.size + 1, oK) :: (s₂.heap.objs.size, lst ys) :: news) := fun p hp => by
          rcases List.mem_cons.mp hp with rfl | hp
          · exact ⟨hst₃, Ne.symm hIL, hI₀⟩
          · rcases List.mem_cons.mp hp with rfl | hp
            · exact ⟨heC, hCL, hC₀⟩
            · rcases List.mem_cons.mp hp with rfl | hp
              · exact ⟨heK, hKL, hK₀⟩
              · have z := N₂ p hp
                refine ⟨hs₃.extBut _ _ ?_ z.1, z.2⟩
                rcases List.mem_cons.mp hp with rfl | hp
                · exact nDK
                · exact hpK p hp
        have back : ∀ h₄ ys', News h₀ L h₄ ((I, _) :: (H2.objs.size, oC) :: (H2.objs.size + 1, oK) :: (s₂.heap.objs.size, lst ys') :: news) → IsRangeIter h₄ I (a + (i + 1 : Nat) * 1) ((n : Int) - (i + 1 : Nat)) 1 ∧ h₄.Ns H2.objs.size m' ∧ h₄.IsCell (H2.objs.size + 1) (some (.int (a + (i : Int)) t)) ∧ News h₀ L h₄ ((s₂.heap.objs.size, lst ys') :: news) := fun h₄ ys' N₄ =>
          ⟨(N₄ _ (.head _)).1, hoC.ns (N₄ _ (.tail _ (.head _))).1, ⟨oK, (N₄ _ (.tail _ (.tail _ (.head _)))).1, hoK⟩, fun p hp => N₄ p (.tail _ (.tail _ (.tail _ hp)))⟩
        refine wpAny_mono (R.1 i hlt ys hys t I _ H2.objs.size oC (H2.objs.size + 1) oK s₂.heap.objs.size h₃ _ _ hoK F₃ N₃) (fun ok s₄ h₄ => ?_) fun _ _ e => e
        obtain ⟨h₄, tk₄, rfl, rfl, F₄, N₄⟩ := h₄
        cases hg : g i with
        | true =>
          simp only [if_true]
          refine wpAny_mono (R.2 i hlt hg ys hys t I _ H2.objs.size oC (H2.objs.size + 1) oK s₂.heap.objs.size h₄ _ _ hoK F₄ N₄) (fun y s₅ h₅ => ?_) fun _ _ e => e
          obtain ⟨t', h₅, tk₅, rfl, rfl, F₅, N₅⟩ := h₅
          obtain ⟨b1, b2, b3, b4⟩ := back h₅ ys N₅
          have zD := (b4 _ (.head _)).1
          refine append_at (hsz := by show ys.toArray.size ≤ sizeLine; rw [List.size_toArray]; exact Nat.le_trans (Nat.le_trans hyl hi) hsz) zD fun h₆ hs₆ hD₆ => ?_
          refine ⟨n + 1 - (i + 1), by omega, h₆, tk₅, i + 1, ys ++ [.int (f i) t'], m', _, rfl, hlt, rfl, by rw [List.length_append, List.length_singleton]; exact Nat.succ_le_succ hyl, hs₆.extBut _ _ (Ne.symm nDI) b1,
            F₅.change hs₆ hDL hD₀, b2.sameBut hs₆ (Ne.symm nDC), (by obtain ⟨o, e, d⟩ := b3; exact ⟨o, hs₆.extBut _ _ (Ne.symm nDK) e, d⟩), fun p hp => ?_, ?_⟩
          · rcases List.mem_cons.mp hp with rfl | hp
            · exact ⟨hD₆.trans (congrArg some (lst_snoc ys _)), hDL, hD₀⟩
            · exact ⟨hs₆.extBut _ _ (Nat.ne_of_lt (hnl p hp)) (b4 p (.tail _ hp)).1, (b4 p (.tail _ hp)).2⟩
          · rw [keepF, hg]; exact ints_snoc hys
        | false =>
          simp only [Bool.false_eq_true, if_false]
          obtain ⟨b1, b2, b3, b4⟩ := back h₄ ys N₄
          exact ⟨n + 1 - (i + 1), by omega, h₄, tk₄, i + 1, ys, m', _, rfl, hlt, rfl, Nat.le_succ_of_le hyl, b1, F₄, b2, b3, b4, by rw [keepF, hg]; simpa using hys⟩
      · obtain rfl : i = n := Nat.le_antisymm hi (Nat.not_lt.mp hlt)
        refine W.done _ _ _ hst' fun h₂ tk₂ hk₂ => ?_
        exact hRR _ _ h₂ tk₂ _ ys hys (fr_but F' hk₂ hIL hI₀) (news_but N' hk₂ fun p hp => by
          rcases List.mem_cons.mp hp with rfl | hp
          · exact Nat.ne_of_gt hIlt
          · exact off p hp) (off1_all fun p hp => Nat.ne_of_lt (hnl p hp)) (hn'.at' fun o e => hk₂ _ o (by simpa using nIC) e) hC₀ hD₀ hCL hDL (Ne.symm nDC) (fun p hp => hpC p hp)
    · rcases List.mem_cons.mp hp with rfl | hp
      · exact ⟨hacc, hDL, hD₀⟩
      · exact ⟨old _ _ (N p hp).1, (N p hp).2⟩
  exact codeAny_compStart_list (loop _ rfl) ((range_walks (prog := prog) (w := w) hh a n).self 0 _ _ _ (old _ _ hst) (loop _ rfl))
end
end Mine
namespace Mine
section
variable {prog : Program} {w : World} {A : Around} {E : Value → Shared → Prop} {s : Shared} {h₀ : Heap} {L : Addr} {m : Str → Option Value} {env : Env}
def SrcK (prog : Program) (w : World) (A : Around) (h₀ : Heap) (L : Addr) (m : Str → Option Value) (env : Env) (ct elt : Expr) (x : Str) (scope : Scope) (cl : List (Str × Addr)) (Fin : Shared → List Value → List (Addr × Obj) → Prop) (xv : Value) (s₁ : Shared) : Prop :=
  ∃ r a b t u v n g f news, xv = .ref r ∧ A.handled = none ∧ Fr h₀ L s₁.heap m ∧ News h₀ L s₁.heap news ∧ IsRange s₁.heap r a b 1 t u v ∧ Builtin.Range.small a b 1 = true ∧ Builtin.Range.rangeSize a b 1 = ((n : Nat) : Int) ∧ n ≤ sizeLine ∧
    ∀ s₂ : Shared, (∃ h, s₂ = { s₁ with heap := h }) → TurnsK prog w A h₀ L m env ct elt x scope cl g f a n news s₂ ∧ (∀ ys, IntsAre ys (keepF g f n) → Fin s₂ ys news)
theorem SrcK.range {ct elt : Expr} {x : Str} {scope : Scope} {cl : List (Str × Addr)} {Fin : Shared → List Value → List (Addr × Obj) → Prop} {r : Addr} {a b : Int} {t u v : Tok} {n : Nat} {news : List (Addr × Obj)} {s₁ : Shared} (g : Nat → Bool) (f : Nat → Int)
    (hh : A.handled = none) (F : Fr h₀ L s₁.heap m) (N : News h₀ L s₁.heap news) (hr : IsRange s₁.heap r a b 1 t u v) (hsm : Builtin.Range.small a b 1 = true) (hn : Builtin.Range.rangeSize a b 1 = ((n : Nat) : Int)) (hsz : n ≤ sizeLine)
    (h : ∀ g', TurnsK prog w A h₀ L m env ct elt x scope cl g f a n news { s₁ with heap := g' } ∧ (∀ ys, IntsAre ys (keepF g f n) → Fin { s₁ with heap := g' } ys news)) :
    SrcK prog w A h₀ L m env ct elt x scope cl Fin (.ref r) s₁ := ⟨r, a, b, t, u, v, n, g, f, news, rfl, hh, F, N, hr, hsm, hn, hsz, fun _ ⟨g', e⟩ => e ▸ h g'⟩
theorem Assign_ListComp_K {ct elt iter : Expr} {x y : Str} {px py : Pos} {scope : Scope} {cl : List (Str × Addr)} {pos spos : Pos} {Q : Flow → Shared → Prop} (F₀ : Fr h₀ L s.heap m) (hLe : env.locals = L)
    (hsw : swapsWith (.ListComp elt [⟨.Name x px, iter, [ct], 0⟩] scope pos) (some (.Name y py)) spos.line env = pure true)
    (hclos : closureFor scope env = pure cl) (hc1 : ∀ n, cellsFrom n scope.names cl = (x, n) :: cl) (hc2 : ∀ h, pushCells h scope.names = h.push cell0) (hkind : scope.kind = .function)
    (hnames : ∀ z ∈ scope.names, z.2 = .local → scope.names.lookup z.1 = some .local) (hxK : (relabel scope env).names.lookup x = some .cell)
    (hy : env.kindOf y = some .local) (hp : (env.scope.kind == .class || (env.scope.kind == .module && env.locals != env.globals)) = false)
    (h : wpAny (model prog w) A (eval iter env) (SrcK prog w A h₀ L m env ct elt x scope cl (fun s₂ => FinA h₀ L m s₂ y Q)) E s)
    (hs : ∀ x, foldedSetIterable iter env x = pure x := by intro _; rfl) :
    wpAny (model prog w) A (exec (.Assign [.Name y py] (.ListComp elt [⟨.Name x px, iter, [ct], 0⟩] scope pos) spos) env) Q E s := by
  subst hLe
  rw [exec_Assign_Name_used _ _ _ _ hsw]
  refine wpAny_bind (wpAny_standAt (wpAny_bind ?_))
  show wpAny _ A (do let _ ← comprehension (.ListComp elt [⟨.Name x px, iter, [ct], 0⟩] scope pos) scope env _ (newList []) false (eval iter env) (some (assign (.Name y py) env))) _ _ s
  refine wpAny_bind (wpAny_mono (wpAny_comprehension_free (use := some (assign (.Name y py) env)) (Q := fun _ s' => Q .next s') rfl hs hclos hkind hnames
    (wpAny_mono h (fun xv s₁ h₁ => ?_) fun _ _ e => e)) (fun _ s' hq => wpAny_pure (wpAny_pure hq)) fun _ _ e => e)
  obtain ⟨r, a, b, t, u, v, n, g, f, news, rfl, hh, F, N, hr, hsm, hn, hsz, R⟩ := h₁
  refine wpAny_pyIter_range hr hsm ?_
  obtain ⟨R1, R2⟩ := R { s₁ with heap := s₁.heap.push _ } ⟨_, rfl⟩
  refine block_K hh hsz (by show IsRangeIter _ _ _ _ _; rw [hn]; simpa using Heap.get?_push_size _ rfl) hc1 hc2 hkind hxK
    (F.keeps fun _ _ e => Heap.get?_push_of_some _ e) (N.grown fun _ _ e => Heap.get?_push_of_some _ e) (Nat.ne_of_lt F.ns.lt) (next_is_new F) (fun p hp => Nat.ne_of_lt (Heap.lt_size (N p hp).1)) R1 ?_
  intro D C h' tk m' ys hys F' N' o1 hn hC₀ hD₀ hCL hDL hCD offC
  show wpAny _ A (assign (.Name y py) env (.ref D)) _ _ _
  refine wpAny_assign_Name (wpAny_storeName_local hy F'.ns (fun h₂ hn₂ hs₂ => ?_) hp)
  have hL₀ : h₀.get? env.locals = none := Heap.get?_none_of_le F'.above
  have F₂ : Fr h₀ env.locals h₂ (fun z => if z = y then some (.ref D) else m z) := ⟨hn₂, fun b o e => hs₂.extBut b o (fun q => by rw [q, hL₀] at e; cases e) (F'.keep b o e), F'.above⟩
  refine ⟨m', hn.sameBut hs₂ hCL, fun h'' hs'' => R2 ys hys D h'' _ (F₂.change hs'' hCL hC₀) (fun p hp => ?_) o1⟩
  have z : h₂.get? p.1 = some p.2 := hs₂.extBut _ _ (N' p hp).2.1 (N' p hp).1
  refine ⟨hs''.extBut _ _ ?_ z, (N' p hp).2⟩
  rcases List.mem_cons.mp hp with rfl | hp
  · exact Ne.symm hCD
  · exact offC p hp
end
end Mine
namespace Mine
theorem r_eq_slice {prog : Program} {w : World} {A : Around} {E : Value → Shared → Prop} {s : Shared} {Q : Value → Shared → Prop} {h₀ : Heap} {L : Addr} {news : List (Addr × Obj)} {a b : Addr} {vs us : List Value} {ns ms : List Int} {c c2 : Nat} {y : Int} (N : News h₀ L s.heap news) (ha : (a, W.listOf (List.toArray vs) c) ∈ news) (hi : IntsAre vs ns)
    (hb : (b, W.listOf (slicePick us.toArray none (some y) none) c2) ∈ news) (hi' : IntsAre us ms) (h0 : 0 ≤ y) (hu : A.units + 64 < cLine) (h : Q (.bool (decide (ns = ms.take y.toNat))) s) :
    wpAny (model prog w) A (compareOp .Eq (.ref a) (.ref b)) Q E s :=
  eq_intsK (us := (slicePick us.toArray none (some y) none).toList) ⟨_, (N _ ha).1, rfl, c, rfl⟩ hi ⟨_, (N _ hb).1, rfl, c2, by simp [W.listOf]⟩ (slice_ints_uptoW hi' h0) hu h
end Mine
end
section
set_option maxRecDepth 100000
namespace Mine
open Builtin.Int (intBits)

set_option maxHeartbeats 4000000 in
theorem segP {w : World} {loose : List Str} {mean : ExcName → Option Value} {mg mb : Str → Option Value} {fa : Addr} {cd : Value} {base h₀ : Heap} {L : Addr} {m : Str → Option Value} {s : Shared} {E : Value → Shared → Prop} {Q : Flow → Shared → Prop} {sc : Scope} {bd : List Stmt} {st0 : Stmt} (hsc : sc = lawScope) (hbd : lawBody.drop 25 = st0 :: bd) {Mk Z : Addr} {c n : Int} {t3 t4 : Tok} {mv zv : List Value} {ms zs bl : List Int} {o3 o4 o5 o7 : Obj} {rst : List (Addr × Obj)}
   (B : Below callerA base [] h₀) (F : Fr h₀ L s.heap m) (X : (hd.heap_39 w.params).In h₀) (N : News h₀ L s.heap ((L + 1 + 1 + 1, o3) :: (L + 1 + 1 + 1 + 1, o4) :: (L + 1 + 1 + 1 + 1 + 1, o5) :: (Mk, LCg.lst mv) :: (L + 1 + 1 + 1 + 1 + 1 + 1 + 1, o7) :: (Z, LCg.lst zv) :: rst)) (T : Top topProg loose mean mg mb h₀) (d3 : o3.data = .cell (some (.int n t3))) (d4 : o4.data = .cell (some (.int c t4))) (d5 : o5.data = .cell (some (.ref Mk))) (d7 : o7.data = .cell (some (.ref Z))) (hmv : IntsAre mv ms) (hzv : IntsAre zv zs) (hc : 0 < c) (hc2 : c ≤ 31) (hn3 : 0 ≤ n) (hn5 : n ≤ 5) (hml : ms.length = c.toNat) (hzl : zs.length = c.toNat) (hb : keepF (fun (i : Nat) => decide ((List.range n.toNat).map (fun (j : Nat) => ms.getD (((i : Int) + (j : Int)).fmod c).toNat 0) = zs.take n.toNat)) (fun (i : Nat) => (i : Int)) c.toNat = bl)
   (hnext : ∀ (Bg : Addr) (bv : List Value) m' h' tk', IntsAre bv bl → Fr h₀ L h' m' → (∀ y, [Str.ofString "begins"].contains y = false → m' y = m y) → m' (Str.ofString "begins") = some (.ref Bg) → News h₀ L h' ((Bg, LCg.lst bv) :: rst) → wpAny (model PySem.Challenge.rw_wo0032_02.row.prog w) (callerA.deeper (envOfC (Str.ofString "law") sc L fa cd)) (execs bd (envOfC (Str.ofString "law") sc L fa cd)) Q E { s with heap := h', toks := tk' }) : wpAny (model PySem.Challenge.rw_wo0032_02.row.prog w) (callerA.deeper (envOfC (Str.ofString "law") sc L fa cd)) (execs (st0 :: bd) (envOfC (Str.ofString "law") sc L fa cd)) Q E s := by
  w_top off
  k_with_none
  k_with "LT1!" => (first | with_reducible assumption | with_reducible exact Nat.lt_succ_self _ | with_reducible exact And.left (by assumption) | with_reducible exact And.left (And.right (by assumption)) | with_reducible exact And.left (And.right (And.right (by assumption))) | with_reducible exact And.left (And.right (And.right (And.right (by assumption)))) | with_reducible exact And.left (And.right (And.right (And.right (And.right (by assumption))))) | with_reducible exact And.left (And.right (And.right (And.right (And.right (And.right (by assumption)))))) | with_reducible exact And.right (by assumption) | with_reducible exact And.right (And.right (by assumption)) | with_reducible exact And.right (And.right (And.right (by assumption))) | with_reducible exact And.right (And.right (And.right (And.right (by assumption)))))
  k_with "LT!" => (first | k_extra "LT1!" | ((with_reducible refine (Nat.lt_succ_of_lt ?_ : @LT.lt Nat _ _ (_ + 1))); first | k_extra "LT1!" | ((with_reducible refine (Nat.lt_succ_of_lt ?_ : @LT.lt Nat _ _ (_ + 1))); first | k_extra "LT1!" | ((with_reducible refine (Nat.lt_succ_of_lt ?_ : @LT.lt Nat _ _ (_ + 1))); k_extra "LT1!"))))
  k_with "NE!" => (first | with_reducible assumption | with_reducible exact Ne.symm (by assumption) | decide | ((fail_if_success (fail_if_success omega)); first | ((with_reducible refine Nat.ne_of_gt ?_); (fail_if_success (fail_if_success omega)); k_extra "LT!") | ((with_reducible refine Nat.ne_of_lt ?_); (fail_if_success (fail_if_success omega)); k_extra "LT!") | with_reducible exact And.left (by assumption) | with_reducible exact And.left (And.right (by assumption)) | with_reducible exact And.left (And.right (And.right (by assumption))) | omega))
  k_with "KNE!" => ((refine neN ?_; (try dsimp only); k_extra "NE!"))
  k_with "LBND!" => (first | assumption | decide | with_reducible exact Int.lt_of_lt_of_le (by assumption) (by decide) | with_reducible exact Int.lt_of_le_of_lt (by assumption) (by decide) | with_reducible exact Int.le_trans (by assumption) (by decide) | with_reducible exact Int.lt_of_lt_of_le (by decide) (by assumption) | with_reducible exact Int.le_trans (by decide) (by assumption) | with_reducible exact Int.natCast_nonneg _ | with_reducible exact Int.ne_of_gt (by assumption) | with_reducible exact Int.le_of_lt (by assumption) | with_reducible exact Nat.lt_of_lt_of_le (by assumption) (by decide) | with_reducible exact Nat.lt_of_le_of_lt (by assumption) (by decide) | with_reducible exact Nat.le_trans (by assumption) (by decide) | k_dflt omega | l_fact)
  k_with "ROOM!" => (((try simp only [depth_under_make, depth_under_kw, depth_in1, depth_deeper, depth_caller]); (try dsimp only [ktrTop]); first | with_reducible assumption | exact room_0 (by with_reducible assumption) | exact room_le (by with_reducible assumption) (by decide) | exact room_12 (by with_reducible assumption) (by decide)))
  k_with "UNITS!" => (((try simp only [units_in1, units_deeper, Around.mark_units, units_caller]); (try dsimp only [ktrTop]); first | with_reducible assumption | exact room_0 (by with_reducible assumption) | exact room_le (by with_reducible assumption) (by decide) | exact room_12 (by with_reducible assumption) (by decide) | exact room_123 (by with_reducible assumption) (by decide)))
  k_with "BITS!" => (first | (with_reducible assumption) | ((with_reducible refine bits_le_of_lt ?_ ?_) <;> l_bnd))
  k_with "ALL!" => (first | assumption | (refine' allNe (by assumption)) | (refine' neOfLt (by assumption)))
  k_with "EV!" => ((repeat' (first | exact Ev.const | exact Ev.cap (by with_unfolding_all rfl) | exact Ev.loc (by with_unfolding_all rfl) (by with_unfolding_all rfl) (by decide) | apply Ev.and1 | apply Ev.add | apply Ev.sub | apply Ev.neg | apply Ev.mul | apply Ev.fmod | apply Ev.fdiv | apply Ev.pow | apply Ev.shr | apply Ev.item (by with_unfolding_all rfl) (hs := by intro _ _; with_unfolding_all rfl) | apply Ev.bxor | apply Ev.band | apply EvP.lt (hm := by with_unfolding_all rfl) | apply EvP.le (hm := by with_unfolding_all rfl) | apply EvP.gt (hm := by with_unfolding_all rfl) | apply EvP.ge (hm := by with_unfolding_all rfl) | apply EvP.eq (hm := by with_unfolding_all rfl) | apply EvP.ne (hm := by with_unfolding_all rfl) | apply EvP.lelt (hm := by with_unfolding_all rfl) | apply EvP.not | apply EvP.int (hi := by rfl) | ((with_reducible show IntMulOk _ _); refine IntMulOk.of_le (by bits_by_make) (by bits_by_make) (by decide)) | exact PyProof.noPylong_small (by decide) | k_extra "EVC!" | ((fail_if_success (with_reducible show Int)); l_bnd))))
  k_with "EVC!" => (fail)
  have hvl := hmv.length
  have hzvl := hzv.length
  have hc0 : c ≠ 0 := Int.ne_of_gt hc
  have hcn : c.toNat ≤ 31 := by omega
  have hc31 : c ≤ 1000000 := Int.le_trans hc2 (by decide)
  have hcz : (c.toNat : Int) = c - 0 := by omega
  have hc00 : (0 : Int) ≤ c := Int.le_of_lt hc
  have hnz : (n.toNat : Int) = n - 0 := by omega
  have hn31 : n ≤ 1000000 := Int.le_trans hn5 (by decide)
  have hm3 : ms.length ≤ 1000000 := len_mil hml hc2
  have hz3 : zs.length ≤ 1000000 := by omega
  with_unfolding_all (conv at hsc => rhs; whnf)
  dsimp only at hsc
  with_unfolding_all (conv at hbd => lhs; whnf)
  injection hbd with hst0 hbd
  (try dsimp only at hst0)
  clear hbd
  subst hsc hst0
  revert B F X N T
  k_fill
  intro B F X N T
  k_with "eval Subscript" => (k_dflt (refine evc_ok (κ := [(Str.ofString "n", .int (i7 : Int)), (Str.ofString "k", .int (i9 : Int)), (Str.ofString "marks", .ints ms), (Str.ofString "count", .int c)]) (by exact List.forall_mem_cons.mpr ⟨rd_comp (by with_unfolding_all rfl) (by k_asm) (by with_unfolding_all rfl) (by k_mem) (by assumption) (by assumption) (by with_unfolding_all rfl) (by with_unfolding_all rfl), List.forall_mem_cons.mpr ⟨rd_cell (by with_unfolding_all rfl) (by k_asm) (by with_unfolding_all rfl) (by with_unfolding_all rfl) (by k_mem) (by assumption) (by with_unfolding_all rfl), List.forall_mem_cons.mpr ⟨rd_cells (by with_unfolding_all rfl) (by k_asm) (by with_unfolding_all rfl) (by with_unfolding_all rfl) (by k_mem) (by assumption) (by k_mem) (by assumption) (by with_unfolding_all rfl), List.forall_mem_cons.mpr ⟨rd_cell (by with_unfolding_all rfl) (by k_asm) (by with_unfolding_all rfl) (by with_unfolding_all rfl) (by k_mem) (by assumption) (by with_unfolding_all rfl), List.forall_mem_nil _⟩⟩⟩⟩) (by k_extra "EV!") (by first | with_reducible assumption | exact rfl) _ _ rfl ?_); intro t7 tk7; (try dsimp only))
  k_with "IEnd" => (with_unfolding_all refine IEnd.int (by first | exact rfl | assumption) (by assumption) (by assumption) (by intro p hp; repeat (first | exact hp | apply List.Mem.tail)))
  k_with "eval ListComp" => (k_dflt (refine LCg.ListComp_U (F₀ := by k_asm) (by with_unfolding_all rfl) (by decide) (by rfl) (by decide) (by rfl) ?_))
  k_with "BEnd" => (with_unfolding_all refine BEnd.intro (by first | exact rfl | assumption) (by assumption) (by assumption) (by intro p hp; repeat (first | exact hp | apply List.Mem.tail)))
  k_with "exec Assign cons ListComp" => (k_dflt (refine Assign_ListComp_K (F₀ := by k_asm) (by rfl) (by with_unfolding_all rfl) (by with_unfolding_all rfl) (by intro _; rfl) (by intro _; rfl) (by rfl) (by decide) (by with_unfolding_all rfl) (by rfl) (by rfl) ?_))
  k_with "SrcK" => (k_dflt (refine SrcK.range (fun (i : Nat) => decide ((List.range n.toNat).map (fun (j : Nat) => ms.getD (((i : Int) + (j : Int)).fmod c).toNat 0) = zs.take n.toNat)) (fun (i : Nat) => (i : Int)) (by rfl) (by k_asm) (by k_asm) (by assumption) (rng_small (by decide) hc00 hc31) (rng_size (n := c.toNat) hc00 hcz.symm) (by rw [sizeLine_eq]; omega) ?_; intro g9; (refine ⟨⟨?_, ?_⟩, ?_⟩); (rotate_left); (rotate_left); (intro ys9 hs9; (rw [hb] at hs9); (have hl9 := hs9.length); (try dsimp only)); (rotate_left); (intro i9 hi9 ys9 hs9 t9 I9 oI9 C9 oC9 K9 oK9 D9 h9 tk9 E9 hK9 F9 N9; (rw [Int.zero_add] at hK9); (try dsimp only)); (rotate_left); (intro i9 hi9 hg9 ys9 hs9 t9 I9 oI9 C9 oC9 K9 oK9 D9 h9 tk9 E9 hK9 F9 N9; (rw [Int.zero_add] at hK9); (try dsimp only)); (rotate_left)))
  k_with "CompSrc" => (k_dflt (refine LCg.CompSrc.range (by rfl) (by k_asm) (by k_asm) (by assumption) (rng_small (by decide) hn3 hn31) (rng_size (n := n.toNat) hn3 hnz.symm) (by rw [sizeLine_eq]; omega) ?_; intro g7; (refine compG_ints (fun (j : Nat) => ms.getD (((i9 : Int) + (j : Int)).fmod c).toNat 0) True.intro ?_ ?_); (rotate_left); (intro ys7 hs7; (have hl7 := hs7.length); (simp only [List.length_map, List.length_range] at hl7); (try dsimp only)); (rotate_left); (intro i7 hi7 ys7 hs7 v7 I7 oI7 C7 oC7 D7 m7 h7 tk7 E7 hv7 hC7 hx7 F7 N7 off7 ne7; (obtain ⟨t7', hv7'⟩ := hv7; subst hv7'); (rw [Int.zero_add] at hx7); (have hm0 := Int.fmod_nonneg_of_pos ((i9 : Int) + (i7 : Int)) hc); (have hm1 := Int.fmod_lt_of_pos ((i9 : Int) + (i7 : Int)) hc); (have hm2 : ((i9 : Int) + (i7 : Int)).fmod c < ms.length := by rw [hml, Int.toNat_of_nonneg hc00]; exact hm1); (try dsimp only))))
  k_with "compareOp Eq ref ref" => (k_dflt (refine r_eq_slice (by k_asm) (by k_mem) (by assumption) (by k_mem) hzv hn3 (by ke_room) ?_))
  k_with "FinE" => (k_dflt (unfold LCg.FinE); intro D6 h6 k6 F6 N6 o6; (have o16 := o6); (try simp only [LCg.Off1, and_true] at o16); (try simp only [List.nil_append, List.cons_append] at N6); (try dsimp only))
  k_with "FinA" => (k_dflt (unfold LCg.FinA); intro D9 h9 k9 F9 N9 o9; (have o19 := o9); (try simp only [LCg.Off1, and_true] at o19); (try simp only [List.nil_append, List.cons_append] at N9); (try dsimp only))

  k_steps
  (with_reducible rename News _ _ _ _ => nN)
  with_unfolding_all refine hnext _ _ _ _ _ (by assumption) (by assumption) (by intro z h2; simp only [List.contains_cons, List.contains_nil, Bool.or_false, Bool.or_eq_false_iff, beq_eq_false_iff_ne, ne_eq] at h2; simp only [h2, if_false]) (by with_unfolding_all rfl) (cb_drop nN fun q hq => by simp only [List.mem_cons] at hq ⊢; rcases hq with h | h <;> simp only [h, true_or, or_true])
end Mine
end
section
set_option maxRecDepth 100000
namespace Mine
open Builtin.Int (intBits)

set_option maxHeartbeats 4000000 in
theorem segQ {w : World} {loose : List Str} {mean : ExcName → Option Value} {mg mb : Str → Option Value} {fa : Addr} {cd : Value} {base h₀ : Heap} {L : Addr} {m : Str → Option Value} {s : Shared} {E : Value → Shared → Prop} {Q : Flow → Shared → Prop} {sc : Scope} {bd : List Stmt} {st0 st1 : Stmt} (hsc : sc = lawScope) (hbd : lawBody.drop 26 = st0 :: st1 :: bd) {R W c Xv bk : Int} {tR tW t4 : Tok} {Bg Z : Addr} {bv zv : List Value} {bl zs : List Int} {o4 o7 : Obj} {rst tb : List (Addr × Obj)}
   (B : Below callerA base [] h₀) (F : Fr h₀ L s.heap m) (X : (hd.heap_39 w.params).In h₀) (N : News h₀ L s.heap ((L + 1 + 1 + 1 + 1, o4) :: (Bg, LCg.lst bv) :: (L + 1 + 1 + 1 + 1 + 1 + 1 + 1, o7) :: (Z, LCg.lst zv) :: (rst ++ tb))) (T : Top topProg loose mean mg mb h₀) (qR : m (Str.ofString "ring") = some (.int R tR)) (qW : m (Str.ofString "whole") = some (.int W tW)) (qB : m (Str.ofString "begins") = some (.ref Bg)) (d4 : o4.data = .cell (some (.int c t4))) (d7 : o7.data = .cell (some (.ref Z))) (hbv : IntsAre bv bl) (hzv : IntsAre zv zs) (hT : Tabs tb) (hNT : ∀ p ∈ rst, NotTab p.2) (C1 : CodeHd base 34 30) (C2 : CodeHd base 41 37)
   (hb0 : (0 : Int) < bl.length) (hb1 : bl.length ≤ 1000000) (hc : 0 < c) (hc2 : c ≤ 31) (hzl : zs.length = c.toNat) (hz01 : ∀ x ∈ zs, x = 0 ∨ x = 1)
   (hX : R * 2 ^ (c - bl.getD (Int.toNat 0) 0).toNat = Xv) (hX0 : 0 ≤ Xv) (hXb : intBits Xv ≤ 20 * intBits W) (hW0 : 0 < W) (hWb : intBits W ≤ 31) (hr : Xv % W = bk) (hT0 : 0 ≤ c - bl.getD (Int.toNat 0) 0) (hT1 : (intBits 2 : Int) * (c - bl.getD (Int.toNat 0) 0) ≤ 2 ^ 27) (hTb : intBits ((2 : Int) ^ (c - bl.getD (Int.toNat 0) 0).toNat) ≤ 200) (hRb : intBits R ≤ 31)
   (hS : ((List.range c.toNat).map (fun (i : Nat) => zs.getD i 0 * (2 : Int) ^ i)).sum = bk)
   (hnext : ∀ tb' m' h' tk', Tabs tb' → Fr h₀ L h' m' → (∀ y, [Str.ofString "back"].contains y = false → m' y = m y) → News h₀ L h' (rst ++ tb') → wpAny (model PySem.Challenge.rw_wo0032_02.row.prog w) (callerA.deeper (envOfC (Str.ofString "law") sc L fa cd)) (execs bd (envOfC (Str.ofString "law") sc L fa cd)) Q E { s with heap := h', toks := tk' }) : wpAny (model PySem.Challenge.rw_wo0032_02.row.prog w) (callerA.deeper (envOfC (Str.ofString "law") sc L fa cd)) (execs (st0 :: st1 :: bd) (envOfC (Str.ofString "law") sc L fa cd)) Q E s := by
  w_top off
  k_with_none
  k_with "LT1!" => (first | with_reducible assumption | with_reducible exact Nat.lt_succ_self _ | with_reducible exact And.left (by assumption) | with_reducible exact And.left (And.right (by assumption)) | with_reducible exact And.left (And.right (And.right (by assumption))) | with_reducible exact And.left (And.right (And.right (And.right (by assumption)))) | with_reducible exact And.left (And.right (And.right (And.right (And.right (by assumption))))) | with_reducible exact And.left (And.right (And.right (And.right (And.right (And.right (by assumption)))))) | with_reducible exact And.right (by assumption) | with_reducible exact And.right (And.right (by assumption)) | with_reducible exact And.right (And.right (And.right (by assumption))) | with_reducible exact And.right (And.right (And.right (And.right (by assumption)))))
  k_with "LT!" => (first | k_extra "LT1!" | ((with_reducible refine (Nat.lt_succ_of_lt ?_ : @LT.lt Nat _ _ (_ + 1))); first | k_extra "LT1!" | ((with_reducible refine (Nat.lt_succ_of_lt ?_ : @LT.lt Nat _ _ (_ + 1))); first | k_extra "LT1!" | ((with_reducible refine (Nat.lt_succ_of_lt ?_ : @LT.lt Nat _ _ (_ + 1))); k_extra "LT1!"))))
  k_with "NE!" => (first | with_reducible assumption | with_reducible exact Ne.symm (by assumption) | decide | ((fail_if_success (fail_if_success omega)); first | ((with_reducible refine Nat.ne_of_gt ?_); (fail_if_success (fail_if_success omega)); k_extra "LT!") | ((with_reducible refine Nat.ne_of_lt ?_); (fail_if_success (fail_if_success omega)); k_extra "LT!") | with_reducible exact And.left (by assumption) | with_reducible exact And.left (And.right (by assumption)) | with_reducible exact And.left (And.right (And.right (by assumption))) | omega))
  k_with "KNE!" => ((refine neN ?_; (try dsimp only); k_extra "NE!"))
  k_with "LBND!" => (first | assumption | decide | with_reducible exact Int.lt_of_lt_of_le (by assumption) (by decide) | with_reducible exact Int.lt_of_le_of_lt (by assumption) (by decide) | with_reducible exact Int.le_trans (by assumption) (by decide) | with_reducible exact Int.lt_of_lt_of_le (by decide) (by assumption) | with_reducible exact Int.le_trans (by decide) (by assumption) | with_reducible exact Int.natCast_nonneg _ | with_reducible exact Int.ne_of_gt (by assumption) | with_reducible exact Int.le_of_lt (by assumption) | with_reducible exact Nat.lt_of_lt_of_le (by assumption) (by decide) | with_reducible exact Nat.lt_of_le_of_lt (by assumption) (by decide) | with_reducible exact Nat.le_trans (by assumption) (by decide) | k_dflt omega | l_fact)
  k_with "ROOM!" => (((try simp only [depth_under_make, depth_under_kw, depth_in1, depth_deeper, depth_caller]); (try dsimp only [ktrTop]); first | with_reducible assumption | exact room_0 (by with_reducible assumption) | exact room_le (by with_reducible assumption) (by decide) | exact room_12 (by with_reducible assumption) (by decide)))
  k_with "UNITS!" => (((try simp only [units_in1, units_deeper, Around.mark_units, units_caller]); (try dsimp only [ktrTop]); first | with_reducible assumption | exact room_0 (by with_reducible assumption) | exact room_le (by with_reducible assumption) (by decide) | exact room_12 (by with_reducible assumption) (by decide) | exact room_123 (by with_reducible assumption) (by decide)))
  k_with "BITS!" => (first | (with_reducible assumption) | ((with_reducible refine bits_le_of_lt ?_ ?_) <;> l_bnd))
  k_with "ALL!" => (first | assumption | (refine' allNe (by assumption)) | (refine' neOfLt (by assumption)))
  k_with "EV!" => ((repeat' (first | exact Ev.const | exact Ev.cap (by with_unfolding_all rfl) | exact Ev.loc (by with_unfolding_all rfl) (by with_unfolding_all rfl) (by decide) | apply Ev.and1 | apply Ev.add | apply Ev.sub | apply Ev.neg | apply Ev.mul | apply Ev.fmod | apply Ev.fdiv | apply Ev.pow | apply Ev.shr | apply Ev.item (by with_unfolding_all rfl) (hs := by intro _ _; with_unfolding_all rfl) | apply Ev.bxor | apply Ev.band | apply EvP.lt (hm := by with_unfolding_all rfl) | apply EvP.le (hm := by with_unfolding_all rfl) | apply EvP.gt (hm := by with_unfolding_all rfl) | apply EvP.ge (hm := by with_unfolding_all rfl) | apply EvP.eq (hm := by with_unfolding_all rfl) | apply EvP.ne (hm := by with_unfolding_all rfl) | apply EvP.lelt (hm := by with_unfolding_all rfl) | apply EvP.not | apply EvP.int (hi := by rfl) | ((with_reducible show IntMulOk _ _); refine IntMulOk.of_le (by bits_by_make) (by bits_by_make) (by decide)) | exact PyProof.noPylong_small (by decide) | k_extra "EVC!" | ((fail_if_success (with_reducible show Int)); l_bnd))))
  k_with "EVC!" => (fail)
  have hN9 := offs (l := [(L + 1 + 1 + 1 + 1, o4), (Bg, LCg.lst bv), (L + 1 + 1 + 1 + 1 + 1 + 1 + 1, o7), (Z, LCg.lst zv)]) hT N (by intro p hp; simp only [List.mem_cons, List.not_mem_nil, or_false] at hp; rcases hp with rfl | rfl | rfl | rfl; exact NotTab.cell d4; exact NotTab.lst; exact NotTab.cell d7; exact NotTab.lst) hNT
  simp only [List.cons_append, List.nil_append] at hN9
  have hvl := hzv.length
  have hcn : c.toNat ≤ 31 := by omega
  have hc31 : c ≤ 1000000 := Int.le_trans hc2 (by decide)
  have hcz : (c.toNat : Int) = c - 0 := by omega
  have hc00 : (0 : Int) ≤ c := Int.le_of_lt hc
  have h22 : intBits 2 ≤ 2 := by decide
  with_unfolding_all (conv at hsc => rhs; whnf)
  dsimp only at hsc
  with_unfolding_all (conv at hbd => lhs; whnf)
  injection hbd with hst0 hbd
  (try dsimp only at hst0)
  with_unfolding_all (conv at hbd => lhs; whnf)
  injection hbd with hst1 hbd
  (try dsimp only at hst1)
  clear hbd
  subst hsc hst0 hst1
  replace F := fr_focus qB F
  replace F := fr_focus (k := Str.ofString "whole") (v := .int W tW) (by (try dsimp only); rw [if_neg (by decide)]; exact qW) F
  replace F := fr_focus (k := Str.ofString "ring") (v := .int R tR) (by (try dsimp only); rw [if_neg (by decide)]; rw [if_neg (by decide)]; exact qR) F
  revert B F X N T
  k_fill
  intro B F X N T
  k_with "eval BinOp" => (k_dflt (refine ev_eq (κ := [(Str.ofString "count", .int c), (Str.ofString "begins", .ints bl)]) (by with_unfolding_all rfl) (by k_asm) (by with_unfolding_all rfl) (by exact List.forall_mem_cons.mpr ⟨rd_cell (by with_unfolding_all rfl) (by k_asm) (by with_unfolding_all rfl) (by with_unfolding_all rfl) (by k_mem) (by assumption) (by with_unfolding_all rfl), List.forall_mem_cons.mpr ⟨rd_locals (by with_unfolding_all rfl) (by k_asm) (by with_unfolding_all rfl) (by k_asm) (by with_unfolding_all rfl) (by k_mem) (by assumption) (by with_unfolding_all rfl) (by with_unfolding_all rfl), List.forall_mem_nil _⟩⟩) (by k_extra "EV!") (by first | with_reducible assumption | exact rfl) _ _ rfl ?_); intro t8 tk8; (try dsimp only))
  k_with "eval BinOp" => (k_dflt (refine evc_ok (κ := [(Str.ofString "k", .int (i9 : Int)), (Str.ofString "second", .ints zs)]) (by exact List.forall_mem_cons.mpr ⟨rd_comp (by with_unfolding_all rfl) (by k_asm) (by with_unfolding_all rfl) (by k_mem) (by assumption) (by assumption) (by with_unfolding_all rfl) (by with_unfolding_all rfl), List.forall_mem_cons.mpr ⟨rd_cells (by with_unfolding_all rfl) (by k_asm) (by with_unfolding_all rfl) (by with_unfolding_all rfl) (by k_mem) (by assumption) (by k_mem) (by assumption) (by with_unfolding_all rfl), List.forall_mem_nil _⟩⟩) (by k_extra "EV!") (by first | with_reducible assumption | exact rfl) _ _ rfl ?_); intro t7 tk7; (try dsimp only))
  k_with "IEnd" => (with_unfolding_all refine IEnd.int (by first | exact rfl | assumption) (by assumption) (by assumption) (by intro p hp; first | exact hp | exact List.Mem.tail _ hp))
  k_with "eval ListComp" => (k_dflt (refine LCg.ListComp_U (F₀ := by k_asm) (by with_unfolding_all rfl) (by decide) (by rfl) (by decide) (by rfl) ?_))
  k_with "call builtin:sum" => (k_dflt (refine sumK (by with_unfolding_all rfl) (by k_asm) (by k_asm) (news_list (by k_asm) (by k_mem)) hs9 ?_); intro h6 k6 t6 F6 N6; (rw [hS]); (try dsimp only))
  k_with "CompSrc" => (k_dflt (refine LCg.CompSrc.range (by rfl) (by k_asm) (by k_asm) (by assumption) (rng_small (by decide) hc00 hc31) (rng_size (n := c.toNat) hc00 hcz.symm) (by rw [sizeLine_eq]; omega) ?_; intro g9; (refine compG_ints (fun (i : Nat) => zs.getD i 0 * (2 : Int) ^ i) True.intro ?_ ?_); (rotate_left); (intro ys9 hs9; (have hl9 := hs9.length); (simp only [List.length_map, List.length_range] at hl9); (try dsimp only)); (rotate_left); (intro i9 hi9 ys9 hs9 v9 I9 oI9 C9 oC9 D9 m9 h9 tk9 E9 hv9 hC9 hx9 F9 N9 off9 ne9; (obtain ⟨t9', hv9'⟩ := hv9; subst hv9'); (rw [Int.zero_add] at hx9); (have hi31 : i9 < 31 := Nat.lt_of_lt_of_le hi9 hcn); (have hi64 := Nat.lt_trans hi31 (by decide : 31 < 64)); (have hpw9 := pw_27 hi64); (have hm2 := len_nat hzl hi9); (have hm3 := len_mil hzl hc2); (have hb5 : intBits (zs.getD ((i9 : Int)).toNat 0) ≤ 1 := bits_01 (getD_01 hz01 _)); (have hb6 := bits_pow2 hi64); (try dsimp only))))
  k_with "FinE" => (k_dflt (unfold LCg.FinE); intro D9 h9 k9 F9 N9 o9; (have o19 := o9); (try simp only [LCg.Off1, and_true] at o19); (try simp only [List.nil_append, List.cons_append] at N9); (try dsimp only))
  k_with "call ref" => (((with_unfolding_all refine c_dm hT (Ends.cons (Ends.cons (Ends.cons (Ends.cons (ends_app _ _))))) hN9 (by k_asm) (by k_asm) (by k_asm) (by k_asm) (by k_asm) (by rfl) C1 C2 hW0 hWb hX0 hXb (by ktr_room) (by ktr_units) ?_); intro D8 tb8 t8 u8 h8 k8 hT8 F8 N8 l8; (rw [hr] at N8); (simp only [List.cons_append] at N8); (try dsimp only); (try k_fold)))
  k_with "compareOp NotEq int int" => (with_reducible refine r_ne_int rfl ?_)
  k_steps
  (with_reducible rename News _ _ _ _ => nN)
  with_unfolding_all refine hnext tb8 _ _ _ hT8 (by assumption) (by intro z h2; simp only [List.contains_cons, List.contains_nil, Bool.or_false, Bool.or_eq_false_iff, beq_eq_false_iff_ne, ne_eq] at h2; simp only [h2, if_false, ite_focus qR, ite_focus qW, ite_focus qB]) (cb_drop nN fun q hq => by repeat (first | exact hq | apply List.Mem.tail))
end Mine
end
section
set_option maxRecDepth 100000
namespace Mine
open Builtin.Int (intBits)

theorem pf0 : Txt.join (Str.ofString ", ") (pfW PFT 0) = Str.ofString "0x0" := by decide +kernel
set_option maxHeartbeats 4000000 in
theorem segS {w : World} {loose : List Str} {mean : ExcName → Option Value} {mg mb : Str → Option Value} {fa : Addr} {cd : Value} {base h₀ : Heap} {L : Addr} {m : Str → Option Value} {s : Shared} {E : Value → Shared → Prop} {Q : Flow → Shared → Prop} {sc : Scope} {bd : List Stmt} {st0 : Stmt} (hsc : sc = lawScope) (hbd : lawBody.drop 30 = st0 :: bd) {Wh : Int} {tW tl : Tok} {rst tb : List (Addr × Obj)}
   (B : Below callerA base [] h₀) (F : Fr h₀ L s.heap m) (X : (hd.heap_39 w.params).In h₀) (N : News h₀ L s.heap (rst ++ tb)) (T : Top topProg loose mean mg mb h₀) (qL : m (Str.ofString "left") = some (.int 0 tl)) (qW : m (Str.ofString "whole") = some (.int Wh tW)) (hT : Tabs tb) (hNT : ∀ p ∈ rst, NotTab p.2) (C1 : CodeHd base 34 30) (C2 : CodeHd base 41 37) (hW0 : 0 < Wh) (hWb : intBits Wh ≤ 31)
   (hnext : ∀ tb' h' tk', Tabs tb' → Fr h₀ L h' m → News h₀ L h' (rst ++ tb') → wpAny (model PySem.Challenge.rw_wo0032_02.row.prog w) (callerA.deeper (envOfC (Str.ofString "law") sc L fa cd)) (execs bd (envOfC (Str.ofString "law") sc L fa cd)) Q E { s with heap := h', toks := tk' }) : wpAny (model PySem.Challenge.rw_wo0032_02.row.prog w) (callerA.deeper (envOfC (Str.ofString "law") sc L fa cd)) (execs (st0 :: bd) (envOfC (Str.ofString "law") sc L fa cd)) Q E s := by
  w_top off
  k_with_none
  k_with "LT1!" => (first | with_reducible assumption | with_reducible exact Nat.lt_succ_self _ | with_reducible exact And.left (by assumption) | with_reducible exact And.left (And.right (by assumption)) | with_reducible exact And.left (And.right (And.right (by assumption))) | with_reducible exact And.left (And.right (And.right (And.right (by assumption)))) | with_reducible exact And.left (And.right (And.right (And.right (And.right (by assumption))))) | with_reducible exact And.left (And.right (And.right (And.right (And.right (And.right (by assumption)))))) | with_reducible exact And.right (by assumption) | with_reducible exact And.right (And.right (by assumption)) | with_reducible exact And.right (And.right (And.right (by assumption))) | with_reducible exact And.right (And.right (And.right (And.right (by assumption)))))
  k_with "LT!" => (first | k_extra "LT1!" | ((with_reducible refine (Nat.lt_succ_of_lt ?_ : @LT.lt Nat _ _ (_ + 1))); first | k_extra "LT1!" | ((with_reducible refine (Nat.lt_succ_of_lt ?_ : @LT.lt Nat _ _ (_ + 1))); first | k_extra "LT1!" | ((with_reducible refine (Nat.lt_succ_of_lt ?_ : @LT.lt Nat _ _ (_ + 1))); k_extra "LT1!"))))
  k_with "NE!" => (first | with_reducible assumption | with_reducible exact Ne.symm (by assumption) | decide | ((fail_if_success (fail_if_success omega)); first | ((with_reducible refine Nat.ne_of_gt ?_); (fail_if_success (fail_if_success omega)); k_extra "LT!") | ((with_reducible refine Nat.ne_of_lt ?_); (fail_if_success (fail_if_success omega)); k_extra "LT!") | with_reducible exact And.left (by assumption) | with_reducible exact And.left (And.right (by assumption)) | with_reducible exact And.left (And.right (And.right (by assumption))) | omega))
  k_with "KNE!" => ((refine neN ?_; (try dsimp only); k_extra "NE!"))
  k_with "LBND!" => (first | assumption | decide | with_reducible exact Int.lt_of_lt_of_le (by assumption) (by decide) | with_reducible exact Int.lt_of_le_of_lt (by assumption) (by decide) | with_reducible exact Int.le_trans (by assumption) (by decide) | with_reducible exact Int.lt_of_lt_of_le (by decide) (by assumption) | with_reducible exact Int.le_trans (by decide) (by assumption) | with_reducible exact Int.natCast_nonneg _ | with_reducible exact Int.ne_of_gt (by assumption) | with_reducible exact Int.le_of_lt (by assumption) | with_reducible exact Nat.lt_of_lt_of_le (by assumption) (by decide) | with_reducible exact Nat.lt_of_le_of_lt (by assumption) (by decide) | with_reducible exact Nat.le_trans (by assumption) (by decide) | k_dflt omega | l_fact)
  k_with "ROOM!" => (((try simp only [depth_under_make, depth_under_kw, depth_in1, depth_deeper, depth_caller]); (try dsimp only [ktrTop]); first | with_reducible assumption | exact room_0 (by with_reducible assumption) | exact room_le (by with_reducible assumption) (by decide) | exact room_12 (by with_reducible assumption) (by decide)))
  k_with "UNITS!" => (((try simp only [units_in1, units_deeper, Around.mark_units, units_caller]); (try dsimp only [ktrTop]); first | with_reducible assumption | exact room_0 (by with_reducible assumption) | exact room_le (by with_reducible assumption) (by decide) | exact room_12 (by with_reducible assumption) (by decide) | exact room_123 (by with_reducible assumption) (by decide)))
  k_with "BITS!" => (first | (with_reducible assumption) | ((with_reducible refine bits_le_of_lt ?_ ?_) <;> l_bnd))
  k_with "ALL!" => (first | assumption | (refine' allNe (by assumption)) | (refine' neOfLt (by assumption)))
  k_with "EV!" => ((repeat' (first | exact Ev.const | exact Ev.cap (by with_unfolding_all rfl) | exact Ev.loc (by with_unfolding_all rfl) (by with_unfolding_all rfl) (by decide) | apply Ev.and1 | apply Ev.add | apply Ev.sub | apply Ev.neg | apply Ev.mul | apply Ev.fmod | apply Ev.fdiv | apply Ev.pow | apply Ev.shr | apply Ev.item (by with_unfolding_all rfl) (hs := by intro _ _; with_unfolding_all rfl) | apply Ev.bxor | apply Ev.band | apply EvP.lt (hm := by with_unfolding_all rfl) | apply EvP.le (hm := by with_unfolding_all rfl) | apply EvP.gt (hm := by with_unfolding_all rfl) | apply EvP.ge (hm := by with_unfolding_all rfl) | apply EvP.eq (hm := by with_unfolding_all rfl) | apply EvP.ne (hm := by with_unfolding_all rfl) | apply EvP.lelt (hm := by with_unfolding_all rfl) | apply EvP.not | apply EvP.int (hi := by rfl) | ((with_reducible show IntMulOk _ _); refine IntMulOk.of_le (by bits_by_make) (by bits_by_make) (by decide)) | exact PyProof.noPylong_small (by decide) | k_extra "EVC!" | ((fail_if_success (with_reducible show Int)); l_bnd))))
  k_with "EVC!" => (fail)
  have hN9 := offs (l := []) hT N (by intro p hp; cases hp) hNT
  simp only [List.nil_append] at hN9
  have hz20 : intBits 0 ≤ 20 * intBits Wh := by rw [show intBits 0 = 0 by decide]; exact Nat.zero_le _
  with_unfolding_all (conv at hsc => rhs; whnf)
  dsimp only at hsc
  with_unfolding_all (conv at hbd => lhs; whnf)
  injection hbd with hst0 hbd
  (try dsimp only at hst0)
  clear hbd
  subst hsc hst0
  replace F := fr_focus qW F
  replace F := fr_focus (k := Str.ofString "left") (v := .int 0 tl) (by (try dsimp only); rw [if_neg (by decide)]; exact qL) F
  revert B F X N T
  k_fill
  intro B F X N T
  k_with "call ref" => (first | (((with_unfolding_all refine c_dm (x := 0) hT (ends_app _ _) hN9 (by k_asm) (by k_asm) (by k_asm) (by k_asm) (by k_asm) (by rfl) C1 C2 hW0 hWb (by decide) hz20 (by ktr_room) (by ktr_units) ?_); intro D9 tb9 t9 u9 h9 k9 hT9 F9 N9 l9; (rw [Int.zero_ediv, Int.zero_emod] at N9); (try dsimp only); (try k_fold))) | (((with_unfolding_all refine c_pf (x := 0) (by k_asm) (by k_asm) (by k_asm) (by k_asm) (by k_asm) (by rfl) (by decide) (by decide) (by ktr_room) (by ktr_units) ?_); intro t8 h8 k8 F8 N8; (try dsimp only); (try k_fold))))
  k_with "compareOp NotEq str str" => (k_dflt (refine r_nestr pf0 ?_))
  k_steps
  (try dsimp only)
  (with_reducible rename News _ _ _ _ => nN)
  with_unfolding_all exact hnext tb9 _ _ hT9 (fr_eqm (by assumption) (by intro z; simp only [ite_focus qL, ite_focus qW])) (cb_drop nN fun q hq => by repeat (first | exact hq | apply List.Mem.tail))
end Mine
end
section
set_option maxRecDepth 100000
namespace Mine
open Builtin.Int (intBits)

set_option maxHeartbeats 4000000 in
theorem segT {w : World} {loose : List Str} {mean : ExcName → Option Value} {mg mb : Str → Option Value} {fa : Addr} {cd : Value} {base h₀ : Heap} {L : Addr} {m : Str → Option Value} {s : Shared} {E : Value → Shared → Prop} {Q : Flow → Shared → Prop} {sc : Scope} {bd : List Stmt} {st0 : Stmt} (hsc : sc = lawScope) (hbd : lawBody.drop 31 = st0 :: bd) {R Wh Xv : Int} {tR tW : Tok} {rst tb : List (Addr × Obj)}
   (B : Below callerA base [] h₀) (F : Fr h₀ L s.heap m) (X : (hd.heap_39 w.params).In h₀) (N : News h₀ L s.heap (rst ++ tb)) (T : Top topProg loose mean mg mb h₀) (qR : m (Str.ofString "ring") = some (.int R tR)) (qW : m (Str.ofString "whole") = some (.int Wh tW)) (hT : Tabs tb) (hNT : ∀ p ∈ rst, NotTab p.2) (C1 : CodeHd base 34 30) (C2 : CodeHd base 41 37) (hW0 : 0 < Wh) (hWb : intBits Wh ≤ 31) (hRb : intBits R ≤ 31)
   (hX : R * Wh = Xv) (hX0 : 0 ≤ Xv) (hXb : intBits Xv ≤ 20 * intBits Wh) (hq : Xv / Wh = R) (hr : Xv % Wh = 0)
   (hnext : ∀ tb' h' tk', Tabs tb' → Fr h₀ L h' m → News h₀ L h' (rst ++ tb') → wpAny (model PySem.Challenge.rw_wo0032_02.row.prog w) (callerA.deeper (envOfC (Str.ofString "law") sc L fa cd)) (execs bd (envOfC (Str.ofString "law") sc L fa cd)) Q E { s with heap := h', toks := tk' }) : wpAny (model PySem.Challenge.rw_wo0032_02.row.prog w) (callerA.deeper (envOfC (Str.ofString "law") sc L fa cd)) (execs (st0 :: bd) (envOfC (Str.ofString "law") sc L fa cd)) Q E s := by
  w_top off
  k_with_none
  k_with "LT1!" => (first | with_reducible assumption | with_reducible exact Nat.lt_succ_self _ | with_reducible exact And.left (by assumption) | with_reducible exact And.left (And.right (by assumption)) | with_reducible exact And.left (And.right (And.right (by assumption))) | with_reducible exact And.left (And.right (And.right (And.right (by assumption)))) | with_reducible exact And.left (And.right (And.right (And.right (And.right (by assumption))))) | with_reducible exact And.left (And.right (And.right (And.right (And.right (And.right (by assumption)))))) | with_reducible exact And.right (by assumption) | with_reducible exact And.right (And.right (by assumption)) | with_reducible exact And.right (And.right (And.right (by assumption))) | with_reducible exact And.right (And.right (And.right (And.right (by assumption)))))
  k_with "LT!" => (first | k_extra "LT1!" | ((with_reducible refine (Nat.lt_succ_of_lt ?_ : @LT.lt Nat _ _ (_ + 1))); first | k_extra "LT1!" | ((with_reducible refine (Nat.lt_succ_of_lt ?_ : @LT.lt Nat _ _ (_ + 1))); first | k_extra "LT1!" | ((with_reducible refine (Nat.lt_succ_of_lt ?_ : @LT.lt Nat _ _ (_ + 1))); k_extra "LT1!"))))
  k_with "NE!" => (first | with_reducible assumption | with_reducible exact Ne.symm (by assumption) | decide | ((fail_if_success (fail_if_success omega)); first | ((with_reducible refine Nat.ne_of_gt ?_); (fail_if_success (fail_if_success omega)); k_extra "LT!") | ((with_reducible refine Nat.ne_of_lt ?_); (fail_if_success (fail_if_success omega)); k_extra "LT!") | with_reducible exact And.left (by assumption) | with_reducible exact And.left (And.right (by assumption)) | with_reducible exact And.left (And.right (And.right (by assumption))) | omega))
  k_with "KNE!" => ((refine neN ?_; (try dsimp only); k_extra "NE!"))
  k_with "LBND!" => (first | assumption | decide | with_reducible exact Int.lt_of_lt_of_le (by assumption) (by decide) | with_reducible exact Int.lt_of_le_of_lt (by assumption) (by decide) | with_reducible exact Int.le_trans (by assumption) (by decide) | with_reducible exact Int.lt_of_lt_of_le (by decide) (by assumption) | with_reducible exact Int.le_trans (by decide) (by assumption) | with_reducible exact Int.natCast_nonneg _ | with_reducible exact Int.ne_of_gt (by assumption) | with_reducible exact Int.le_of_lt (by assumption) | with_reducible exact Nat.lt_of_lt_of_le (by assumption) (by decide) | with_reducible exact Nat.lt_of_le_of_lt (by assumption) (by decide) | with_reducible exact Nat.le_trans (by assumption) (by decide) | k_dflt omega | l_fact)
  k_with "ROOM!" => (((try simp only [depth_under_make, depth_under_kw, depth_in1, depth_deeper, depth_caller]); (try dsimp only [ktrTop]); first | with_reducible assumption | exact room_0 (by with_reducible assumption) | exact room_le (by with_reducible assumption) (by decide) | exact room_12 (by with_reducible assumption) (by decide)))
  k_with "UNITS!" => (((try simp only [units_in1, units_deeper, Around.mark_units, units_caller]); (try dsimp only [ktrTop]); first | with_reducible assumption | exact room_0 (by with_reducible assumption) | exact room_le (by with_reducible assumption) (by decide) | exact room_12 (by with_reducible assumption) (by decide) | exact room_123 (by with_reducible assumption) (by decide)))
  k_with "BITS!" => (first | (with_reducible assumption) | ((with_reducible refine bits_le_of_lt ?_ ?_) <;> l_bnd))
  k_with "ALL!" => (first | assumption | (refine' allNe (by assumption)) | (refine' neOfLt (by assumption)))
  k_with "EV!" => ((repeat' (first | exact Ev.const | exact Ev.cap (by with_unfolding_all rfl) | exact Ev.loc (by with_unfolding_all rfl) (by with_unfolding_all rfl) (by decide) | apply Ev.and1 | apply Ev.add | apply Ev.sub | apply Ev.neg | apply Ev.mul | apply Ev.fmod | apply Ev.fdiv | apply Ev.pow | apply Ev.shr | apply Ev.item (by with_unfolding_all rfl) (hs := by intro _ _; with_unfolding_all rfl) | apply Ev.bxor | apply Ev.band | apply EvP.lt (hm := by with_unfolding_all rfl) | apply EvP.le (hm := by with_unfolding_all rfl) | apply EvP.gt (hm := by with_unfolding_all rfl) | apply EvP.ge (hm := by with_unfolding_all rfl) | apply EvP.eq (hm := by with_unfolding_all rfl) | apply EvP.ne (hm := by with_unfolding_all rfl) | apply EvP.lelt (hm := by with_unfolding_all rfl) | apply EvP.not | apply EvP.int (hi := by rfl) | ((with_reducible show IntMulOk _ _); refine IntMulOk.of_le (by bits_by_make) (by bits_by_make) (by decide)) | exact PyProof.noPylong_small (by decide) | k_extra "EVC!" | ((fail_if_success (with_reducible show Int)); l_bnd))))
  k_with "EVC!" => (fail)
  have hN9 := offs (l := []) hT N (by intro p hp; cases hp) hNT
  simp only [List.nil_append] at hN9
  with_unfolding_all (conv at hsc => rhs; whnf)
  dsimp only at hsc
  with_unfolding_all (conv at hbd => lhs; whnf)
  injection hbd with hst0 hbd
  (try dsimp only at hst0)
  clear hbd
  subst hsc hst0
  replace F := fr_focus qW F
  replace F := fr_focus (k := Str.ofString "ring") (v := .int R tR) (by (try dsimp only); rw [if_neg (by decide)]; exact qR) F
  revert B F X N T
  k_fill
  intro B F X N T
  k_with "eval BinOp" => (k_dflt (refine ev_eq (κ := []) (by with_unfolding_all rfl) (by k_asm) (by with_unfolding_all rfl) (by exact List.forall_mem_nil _) (by k_extra "EV!") (by first | with_reducible assumption | exact rfl) _ _ rfl ?_); intro t8 tk8; (try dsimp only))
  k_with "call ref" => (((with_unfolding_all refine c_dm hT (ends_app _ _) hN9 (by k_asm) (by k_asm) (by k_asm) (by k_asm) (by k_asm) (by rfl) C1 C2 hW0 hWb hX0 hXb (by ktr_room) (by ktr_units) ?_); intro D9 tb9 t9 u9 h9 k9 hT9 F9 N9 l9; (rw [hq, hr] at N9); (try dsimp only); (try k_fold)))
  k_steps
  (try dsimp only)
  (with_reducible rename News _ _ _ _ => nN)
  with_unfolding_all exact hnext tb9 _ _ hT9 (fr_eqm (by assumption) (by intro z; simp only [ite_focus qR, ite_focus qW])) (cb_drop nN fun q hq => by repeat (first | exact hq | apply List.Mem.tail))
end Mine
end
section
set_option maxRecDepth 100000
namespace Mine
open Builtin.Int (intBits)

set_option maxHeartbeats 4000000 in
theorem segU {w : World} {loose : List Str} {mean : ExcName → Option Value} {mg mb : Str → Option Value} {fa : Addr} {cd : Value} {base h₀ : Heap} {L : Addr} {m : Str → Option Value} {s : Shared} {E : Value → Shared → Prop} {Q : Flow → Shared → Prop} {sc : Scope} {bd : List Stmt} {st0 : Stmt} (hsc : sc = lawScope) (hbd : lawBody.drop 32 = st0 :: bd) {tl : Tok} {rst : List (Addr × Obj)}
   (B : Below callerA base [] h₀) (F : Fr h₀ L s.heap m) (X : (hd.heap_39 w.params).In h₀) (N : News h₀ L s.heap (rst)) (T : Top topProg loose mean mg mb h₀) (qL : m (Str.ofString "left") = some (.int 0 tl))
   (hret : ∀ m' h' tk', Fr h₀ L h' m' → News h₀ L h' rst → Q (.ret (.bool true)) { s with heap := h', toks := tk' }) : wpAny (model PySem.Challenge.rw_wo0032_02.row.prog w) (callerA.deeper (envOfC (Str.ofString "law") sc L fa cd)) (execs (st0 :: bd) (envOfC (Str.ofString "law") sc L fa cd)) Q E s := by
  w_top off
  k_with_none
  k_with "LT1!" => (first | with_reducible assumption | with_reducible exact Nat.lt_succ_self _ | with_reducible exact And.left (by assumption) | with_reducible exact And.left (And.right (by assumption)) | with_reducible exact And.left (And.right (And.right (by assumption))) | with_reducible exact And.left (And.right (And.right (And.right (by assumption)))) | with_reducible exact And.left (And.right (And.right (And.right (And.right (by assumption))))) | with_reducible exact And.left (And.right (And.right (And.right (And.right (And.right (by assumption)))))) | with_reducible exact And.right (by assumption) | with_reducible exact And.right (And.right (by assumption)) | with_reducible exact And.right (And.right (And.right (by assumption))) | with_reducible exact And.right (And.right (And.right (And.right (by assumption)))))
  k_with "LT!" => (first | k_extra "LT1!" | ((with_reducible refine (Nat.lt_succ_of_lt ?_ : @LT.lt Nat _ _ (_ + 1))); first | k_extra "LT1!" | ((with_reducible refine (Nat.lt_succ_of_lt ?_ : @LT.lt Nat _ _ (_ + 1))); first | k_extra "LT1!" | ((with_reducible refine (Nat.lt_succ_of_lt ?_ : @LT.lt Nat _ _ (_ + 1))); k_extra "LT1!"))))
  k_with "NE!" => (first | with_reducible assumption | with_reducible exact Ne.symm (by assumption) | decide | ((fail_if_success (fail_if_success omega)); first | ((with_reducible refine Nat.ne_of_gt ?_); (fail_if_success (fail_if_success omega)); k_extra "LT!") | ((with_reducible refine Nat.ne_of_lt ?_); (fail_if_success (fail_if_success omega)); k_extra "LT!") | with_reducible exact And.left (by assumption) | with_reducible exact And.left (And.right (by assumption)) | with_reducible exact And.left (And.right (And.right (by assumption))) | omega))
  k_with "KNE!" => ((refine neN ?_; (try dsimp only); k_extra "NE!"))
  k_with "LBND!" => (first | assumption | decide | with_reducible exact Int.lt_of_lt_of_le (by assumption) (by decide) | with_reducible exact Int.lt_of_le_of_lt (by assumption) (by decide) | with_reducible exact Int.le_trans (by assumption) (by decide) | with_reducible exact Int.lt_of_lt_of_le (by decide) (by assumption) | with_reducible exact Int.le_trans (by decide) (by assumption) | with_reducible exact Int.natCast_nonneg _ | with_reducible exact Int.ne_of_gt (by assumption) | with_reducible exact Int.le_of_lt (by assumption) | with_reducible exact Nat.lt_of_lt_of_le (by assumption) (by decide) | with_reducible exact Nat.lt_of_le_of_lt (by assumption) (by decide) | with_reducible exact Nat.le_trans (by assumption) (by decide) | k_dflt omega | l_fact)
  k_with "ROOM!" => (((try simp only [depth_under_make, depth_under_kw, depth_in1, depth_deeper, depth_caller]); (try dsimp only [ktrTop]); first | with_reducible assumption | exact room_0 (by with_reducible assumption) | exact room_le (by with_reducible assumption) (by decide) | exact room_12 (by with_reducible assumption) (by decide)))
  k_with "UNITS!" => (((try simp only [units_in1, units_deeper, Around.mark_units, units_caller]); (try dsimp only [ktrTop]); first | with_reducible assumption | exact room_0 (by with_reducible assumption) | exact room_le (by with_reducible assumption) (by decide) | exact room_12 (by with_reducible assumption) (by decide) | exact room_123 (by with_reducible assumption) (by decide)))
  k_with "BITS!" => (first | (with_reducible assumption) | ((with_reducible refine bits_le_of_lt ?_ ?_) <;> l_bnd))
  k_with "ALL!" => (first | assumption | (refine' allNe (by assumption)) | (refine' neOfLt (by assumption)))
  k_with "EV!" => ((repeat' (first | exact Ev.const | exact Ev.cap (by with_unfolding_all rfl) | exact Ev.loc (by with_unfolding_all rfl) (by with_unfolding_all rfl) (by decide) | apply Ev.and1 | apply Ev.add | apply Ev.sub | apply Ev.neg | apply Ev.mul | apply Ev.fmod | apply Ev.fdiv | apply Ev.pow | apply Ev.shr | apply Ev.item (by with_unfolding_all rfl) (hs := by intro _ _; with_unfolding_all rfl) | apply Ev.bxor | apply Ev.band | apply EvP.lt (hm := by with_unfolding_all rfl) | apply EvP.le (hm := by with_unfolding_all rfl) | apply EvP.gt (hm := by with_unfolding_all rfl) | apply EvP.ge (hm := by with_unfolding_all rfl) | apply EvP.eq (hm := by with_unfolding_all rfl) | apply EvP.ne (hm := by with_unfolding_all rfl) | apply EvP.lelt (hm := by with_unfolding_all rfl) | apply EvP.not | apply EvP.int (hi := by rfl) | ((with_reducible show IntMulOk _ _); refine IntMulOk.of_le (by bits_by_make) (by bits_by_make) (by decide)) | exact PyProof.noPylong_small (by decide) | k_extra "EVC!" | ((fail_if_success (with_reducible show Int)); l_bnd))))
  k_with "EVC!" => (fail)
  have hh1 : ((intBits 0 : Nat) : Int) - 1 = -1 := by decide
  have hh2 : (if (0 : Int) = 0 then false else (Builtin.bitAnd 0 (0 - 1) == 0)) = false := rfl
  with_unfolding_all (conv at hsc => rhs; whnf)
  dsimp only at hsc
  with_unfolding_all (conv at hbd => lhs; whnf)
  injection hbd with hst0 hbd
  (try dsimp only at hst0)
  clear hbd
  subst hsc hst0
  replace F := fr_focus qL F
  revert B F X N T
  k_fill
  intro B F X N T
  k_with "call ref" => (first | (((with_unfolding_all refine c_isb' (by first | with_reducible assumption | exact hh2) (by k_asm) (by k_asm) (by k_asm) (by k_asm) (by k_asm) (by rfl) (by ktr_room) (by ktr_units) ?_); intro h9 k9 F9 N9; (try dsimp only); (try k_fold))) | (((with_unfolding_all refine c_high' (by with_reducible assumption) (by k_asm) (by k_asm) (by k_asm) (by k_asm) (by k_asm) (by rfl) (by ktr_room) (by ktr_units) ?_); intro t9 h9 k9 F9 N9; (try dsimp only); (try k_fold))))
  k_steps
  (try dsimp only)
  (with_reducible rename News _ _ _ _ => nN)
  with_unfolding_all exact hret _ _ _ (by assumption) nN
end Mine
end
section
set_option maxRecDepth 100000
namespace Mine
open Builtin.Int (intBits)
section
variable {h₀ h : Heap} {L : Addr} {e : Addr × Obj} {l r : List (Addr × Obj)}
theorem nc (h1 : h.get? e.1 = some e.2 ∧ e.1 ≠ L ∧ h₀.get? e.1 = none) (N : News h₀ L h l) : News h₀ L h (e :: l) := List.forall_mem_cons.mpr ⟨h1, N⟩
theorem nh (N : News h₀ L h (e :: l)) : h.get? e.1 = some e.2 ∧ e.1 ≠ L ∧ h₀.get? e.1 = none := N _ (.head _)
theorem nt (N : News h₀ L h (e :: l)) : News h₀ L h l := fun p hp => N p (.tail _ hp)
theorem nl (N : News h₀ L h (l ++ r)) : News h₀ L h l := fun p hp => N p (List.mem_append_left _ hp)
theorem nr (N : News h₀ L h (l ++ r)) : News h₀ L h r := fun p hp => N p (List.mem_append_right _ hp)
theorem na (N : News h₀ L h l) (M : News h₀ L h r) : News h₀ L h (l ++ r) := fun p hp => (List.mem_append.mp hp).elim (N p) (M p)
end
theorem tab_grown {h₀ h : Heap} {L P : Addr} {ts all : List (Addr × Obj)} {ln cl : Int} {q : Str} {lo : Nat} (hT : Tab P ln cl q lo ts) (N : News h₀ L h all) (hs : ∀ p ∈ ts, p ∈ all) : GrownAt P h := by
  rcases hT with rfl | ⟨c, oc, vs, t, rfl, _⟩
  · exact GrownAt.of N (hs _ (.head _))
  · exact GrownAt.of N (hs _ (.head _))
theorem Tabs.grown {h₀ h : Heap} {L : Addr} {tb : List (Addr × Obj)} (hT : Tabs tb) (N : News h₀ L h tb) : GrownAt 37 h ∧ GrownAt 30 h := by
  obtain ⟨ts30, ts37, rfl, h30, h37⟩ := hT
  exact ⟨tab_grown h37 N fun p hp => List.mem_append_right _ hp, tab_grown h30 N fun p hp => List.mem_append_left _ hp⟩
theorem nth_drop {k : Nat} (h : k < 33) : lawBody.drop k = lawBody[k]'(by rw [lawBody_len]; exact h) :: lawBody.drop (k + 1) := List.drop_eq_getElem_cons _
theorem nth_drop2 {k : Nat} (h : k + 1 < 33) : lawBody.drop k = lawBody[k]'(by rw [lawBody_len]; omega) :: lawBody[k + 1]'(by rw [lawBody_len]; exact h) :: lawBody.drop (k + 2) := by rw [nth_drop (by omega), nth_drop h]
theorem nth_drop3 {k : Nat} (h : k + 2 < 33) : lawBody.drop k = lawBody[k]'(by rw [lawBody_len]; omega) :: lawBody[k + 1]'(by rw [lawBody_len]; omega) :: lawBody[k + 2]'(by rw [lawBody_len]; exact h) :: lawBody.drop (k + 3) := by rw [nth_drop (by omega), nth_drop2 h]
theorem j_lt (L i j : Nat) (h : i < j) : @LT.lt Nat _ (L + i) (L + j) := Nat.add_lt_add_left h L
theorem j_off {L a : Nat} (h : L + 7 < a) : @Ne Nat a (L + 3) ∧ @Ne Nat a (L + 4) ∧ @Ne Nat a (L + 5) ∧ @Ne Nat a (L + 6) ∧ @Ne Nat a (L + 7) := by omega
theorem j_offL {L a : Nat} (h : a < L) : @Ne Nat a (L + 3) ∧ @Ne Nat a (L + 4) ∧ @Ne Nat a (L + 5) ∧ @Ne Nat a (L + 6) ∧ @Ne Nat a (L + 7) := by omega
theorem j_off1 (L : Nat) : @Ne Nat (L + 1) (L + 3) ∧ @Ne Nat (L + 1) (L + 4) ∧ @Ne Nat (L + 1) (L + 5) ∧ @Ne Nat (L + 1) (L + 6) ∧ @Ne Nat (L + 1) (L + 7) := by omega
theorem j_off2 (L : Nat) : @Ne Nat (L + 2) (L + 3) ∧ @Ne Nat (L + 2) (L + 4) ∧ @Ne Nat (L + 2) (L + 5) ∧ @Ne Nat (L + 2) (L + 6) ∧ @Ne Nat (L + 2) (L + 7) := by omega
theorem j_all3 {P : Addr × Obj → Prop} {a b c : Addr × Obj} {K : List (Addr × Obj)} (h : ∀ q ∈ K, P q) (ha : P a) (hb : P b) (hc : P c) : ∀ q ∈ a :: b :: c :: K, P q := List.forall_mem_cons.mpr ⟨ha, List.forall_mem_cons.mpr ⟨hb, List.forall_mem_cons.mpr ⟨hc, h⟩⟩⟩
set_option maxHeartbeats 4000000 in
theorem law2_main {w : World} {loose : List Str} {mean : ExcName → Option Value} {mg mb : Str → Option Value} {fa : Addr} {cd : Value} {base h₀ : Heap} {L : Addr} {m : Str → Option Value} {s : Shared} {E : Value → Shared → Prop} {Q : Flow → Shared → Prop} {S : Addr} {svs : List Value} {ns : List Int} {o1 o2 o3 o4 o5 o6 o7 : Obj}
   (B : Below callerA base [] h₀) (F : Fr h₀ L s.heap m) (X : (hd.heap_39 w.params).In h₀) (N : News h₀ L s.heap ((L + 1 + 1 + 1 + 1 + 1 + 1 + 1, o7) :: (L + 1 + 1 + 1 + 1 + 1 + 1, o6) :: (L + 1 + 1 + 1 + 1 + 1, o5) :: (L + 1 + 1 + 1 + 1, o4) :: (L + 1 + 1 + 1, o3) :: (L + 1 + 1, o2) :: (L + 1, o1) :: (37, tabObj #[]) :: (30, tabObj #[]) :: [])) (T : Top topProg loose mean mg mb h₀) (qS : m (Str.ofString "script") = some (.ref S)) (d1 : o1.data = .cell none) (d2 : o2.data = .cell none) (d3 : o3.data = .cell none) (d4 : o4.data = .cell none) (d5 : o5.data = .cell none) (d6 : o6.data = .cell none) (d7 : o7.data = .cell none) (g4 : @LT.lt Nat _ 37 L)
   (hS : h₀.IsList S svs.toArray) (hsi : IntsAre svs ns) (hsl : svs.length ≤ 63)
   (hE : PassesOwn (model PySem.Challenge.rw_wo0032_02.row.prog w) (callerA.deeper (envOfC (Str.ofString "law") lawScope L fa cd)) (envOfC (Str.ofString "law") lawScope L fa cd) E) (C1 : CodeHd base 34 30) (C2 : CodeHd base 41 37)
   (hret : ∀ h' tk' m', Fr h₀ L h' m' → GrownAt 37 h' → GrownAt 30 h' → Q (.ret (.bool true)) { s with heap := h', toks := tk' }) :
   wpAny (model PySem.Challenge.rw_wo0032_02.row.prog w) (callerA.deeper (envOfC (Str.ofString "law") lawScope L fa cd)) (execs lawBody (envOfC (Str.ofString "law") lawScope L fa cd)) Q E s := by
  have ez : lawBody = lawBody.drop 0 := rfl
  rw [ez, nth_drop3 (k := 0) (by decide)]
  refine segA (sc := lawScope) rfl (nth_drop3 (by decide)) B F X N T qS d1 d2 d3 d4 d5 d6 d7 g4 hS hsi hsl ?_
  clear N F qS d1 d2
  intro D8 Wn p tp ys wv wc o1 o2 m h1 k1 hp hys hwv d1 d2 gD gW F qp N
  obtain ⟨q, n, c, hq, rfl⟩ := pr_pq hp
  obtain ⟨sl0, sl, ms, zs, bl, Tp, R, Wh, Tn, r, Bv, xv, bk, pl, dl, wsP, f⟩ := law2_facts hq (cells2 ns)
  have hcs := cells2_len ns
  revert hys hcs f qp
  generalize cells2 ns = cs
  generalize ((q : Nat) : Int) = p
  generalize ((n : Nat) : Int) = n
  generalize ((c : Nat) : Int) = c
  intro hys qp f hcs
  have fc0 : 0 < c := Int.lt_of_lt_of_le (by decide) f.c7
  have fn0 : 0 < n := Int.lt_of_lt_of_le (by decide) f.n3
  have fW0 := f.W0
  obtain ⟨g1, g2, g3, g4', g5, g6, g7⟩ := gD
  obtain ⟨K0, mW, m2, m1, mD, m30, m37, off, N⟩ : ∃ K0 : List (Addr × Obj), (Wn, W.listOf (List.toArray wv) wc) ∈ K0 ∧ (L + 1 + 1, o2) ∈ K0 ∧ (L + 1, o1) ∈ K0 ∧ (D8, LCg.lst ys) ∈ K0 ∧ (30, tabObj #[]) ∈ K0 ∧ (37, tabObj #[]) ∈ K0 ∧
      (∀ q ∈ K0, @Ne Nat q.1 (L + 3) ∧ @Ne Nat q.1 (L + 4) ∧ @Ne Nat q.1 (L + 5) ∧ @Ne Nat q.1 (L + 6) ∧ @Ne Nat q.1 (L + 7)) ∧ News h₀ L h1 ((L + 1 + 1 + 1, o3) :: (L + 1 + 1 + 1 + 1, o4) :: (L + 1 + 1 + 1 + 1 + 1 + 1 + 1, o7) :: (L + 1 + 1 + 1 + 1 + 1 + 1, o6) :: (L + 1 + 1 + 1 + 1 + 1, o5) :: K0) := by
    refine ⟨[(Wn, W.listOf (List.toArray wv) wc), (L + 1 + 1, o2), (L + 1, o1), (D8, LCg.lst ys), (30, tabObj #[]), (37, tabObj #[])], .head _, .tail _ (.head _), .tail _ (.tail _ (.head _)), .tail _ (.tail _ (.tail _ (.head _))), .tail _ (.tail _ (.tail _ (.tail _ (.head _)))), .tail _ (.tail _ (.tail _ (.tail _ (.tail _ (.head _))))), ?_, ?_⟩
    · refine List.forall_mem_cons.mpr ⟨?_, List.forall_mem_cons.mpr ⟨?_, List.forall_mem_cons.mpr ⟨?_, List.forall_mem_cons.mpr ⟨?_, List.forall_mem_cons.mpr ⟨?_, List.forall_mem_cons.mpr ⟨?_, List.forall_mem_nil _⟩⟩⟩⟩⟩⟩
      · exact j_off gW.1
      · exact j_off2 L
      · exact j_off1 L
      · exact ⟨g3, g4', g5, g6, g7⟩
      · exact j_offL (Nat.lt_trans (by decide) g4)
      · exact j_offL g4
    · have n1 := nt (nt N)
      have n2 := nt (nt (nt (nt (nt n1))))
      exact nc (nh (nt (nt (nt (nt n1))))) (nc (nh (nt (nt (nt n1)))) (nc (nh n1) (nc (nh (nt n1)) (nc (nh (nt (nt n1))) (nc (nh N) (nc (nh n2) (nc (nh (nt n2)) (nc (nh (nt N)) (nc (nh (nt (nt (nt n2)))) (nc (nh (nt (nt n2))) fun _ hp => nomatch hp))))))))))
  have NK := nt (nt (nt (nt (nt N))))
  rw [nth_drop3 (k := 3) (by decide)]
  refine segB (sc := lawScope) (s := { s with heap := h1, toks := k1 }) rfl (nth_drop3 (by decide)) B F X (nc (nh N) (nc (nh (nt N)) (nc (NK _ m1) (nc (NK _ mD) (nt (nt N)))))) T qp d1 d3 d4 hys hcs ⟨g3, g4'⟩ (j_all3 (fun q hq => (off q hq).1) (Nat.ne_of_gt (j_lt L 3 7 (by decide))) (Nat.ne_of_gt (j_lt L 3 6 (by decide))) (Nat.ne_of_gt (j_lt L 3 5 (by decide)))) (j_all3 (fun q hq => (off q hq).2.1) (Nat.ne_of_gt (j_lt L 4 7 (by decide))) (Nat.ne_of_gt (j_lt L 4 6 (by decide))) (Nat.ne_of_gt (j_lt L 4 5 (by decide)))) (.head _) f.reg f.nb f.n3 f.cn f.c7 f.c31 ?_
  clear N NK F d3 d4
  intro S2 sv sn o3 o4 t3 t4 m' h' tk' hsv d3 d4 hlt F hm qS N
  replace qp := (hm (Str.ofString "prime") rfl).trans qp
  clear hm
  rw [f.st] at hsv
  have lS : @LT.lt Nat _ (L + 7) S2 := hlt _ (.head _)
  rw [nth_drop (k := 6) (by decide)]
  refine segC (sc := lawScope) (s := { s with heap := h', toks := tk' }) rfl (nth_drop (by decide)) B F X (nc (nh N) (nc (nh (nt N)) (nt N))) T qS d4 hsv f.s0l (List.forall_mem_cons.mpr ⟨Nat.lt_trans (j_lt L 4 7 (by decide)) lS, List.forall_mem_cons.mpr ⟨Nat.lt_trans (j_lt L 3 7 (by decide)) lS, hlt⟩⟩) (.head _) f.sdl f.sC1 f.sC2 f.c7 f.c31 ?_
  clear N F hsv
  intro sv sn h' tk' hsv F N
  rw [nth_drop (k := 7) (by decide)]
  refine segD (sc := lawScope) (s := { s with heap := h', toks := tk' }) rfl (nth_drop (by decide)) B F X (nc (nh (nt (nt N))) N) T d3 (Int.le_of_lt fn0) f.n5 ?_
  clear N F
  intro P ps m' h' tk' hps oP F hm qP N
  clear oP
  replace qp := (hm (Str.ofString "prime") rfl).trans qp
  replace qS := (hm (Str.ofString "states") rfl).trans qS
  clear hm
  rw [nth_drop (k := 8) (by decide)]
  refine segE (sc := lawScope) (s := { s with heap := h', toks := tk' }) rfl (nth_drop (by decide)) B F X (nc (nh (nt N)) (nc (nh N) N)) T qS qP hsv hps f.pw f.stok hE ?_
  clear N F
  intro m' h' tk' F hm N
  replace qp := (hm (Str.ofString "prime") rfl).trans qp
  replace qS := (hm (Str.ofString "states") rfl).trans qS
  replace qP := (hm (Str.ofString "powers") rfl).trans qP
  clear hm
  rw [nth_drop (k := 9) (by decide)]
  refine segF (sc := lawScope) (s := { s with heap := h', toks := tk' }) rfl (nth_drop (by decide)) B F X (nc (nh N) (nc (nh (nt (nt (nt N)))) (nt N))) T qP qp d3 hps f.pw f.ng f.nb2 ?_
  clear N F qP hps
  intro h' tk' F N
  have n3 := nt (nt N)
  have n5 := nt (nt (nt n3))
  have NK := nt n5
  rw [nth_drop2 (k := 10) (by decide)]
  refine segG (sc := lawScope) (s := { s with heap := h', toks := tk' }) rfl (nth_drop2 (by decide)) B F X (nc (nh n5) (nc (nh N) (nc (NK _ m1) (nc (NK _ mD) (nc (nh n3) (nc (nh (nt N)) (nc (nh N) (nc (nh (nt N)) (nc (nh n3) (nc (nh (nt n3)) (nc (nh (nt (nt n3))) NK))))))))))) T qS d1 d3 d4 d5 hsv hys hcs fn0 fc0 f.c31 f.sll f.mse f.m01 f.tp lS g5 (List.forall_mem_cons.mpr ⟨Nat.ne_of_gt (Nat.lt_trans (j_lt L 5 7 (by decide)) lS), List.forall_mem_cons.mpr ⟨Nat.ne_of_lt (j_lt L 4 5 (by decide)), List.forall_mem_cons.mpr ⟨Nat.ne_of_lt (j_lt L 3 5 (by decide)), List.forall_mem_cons.mpr ⟨Nat.ne_of_gt (j_lt L 5 7 (by decide)), List.forall_mem_cons.mpr ⟨Nat.ne_of_gt (j_lt L 5 6 (by decide)), fun q hq => (off q hq).2.2.1⟩⟩⟩⟩⟩) ?_
  clear N F n3 n5 NK d5
  intro Mk mv o5 tT m' h' tk' hmv d5 oM F hm qT N
  replace qp := (hm (Str.ofString "prime") rfl).trans qp
  replace qS := (hm (Str.ofString "states") rfl).trans qS
  clear hm
  have oM7 := oM.2.2.2.1
  have oM6 := oM.2.2.2.2.1
  clear oM
  have n5 := nt N
  have nS := nt n5
  have n4 := nt nS
  have NK := nt (nt (nt (nt n4)))
  rw [nth_drop2 (k := 12) (by decide)]
  refine segH (sc := lawScope) (s := { s with heap := h', toks := tk' }) rfl (nth_drop2 (by decide)) B F X (nc (nh n5) (nc (nh N) (nc (NK _ m2) (nc (NK _ mW) (nc (nh n4) N))))) T qT d2 d4 d5 hmv hwv fc0 f.c31 f.ml f.T0 f.T1 f.hdl f.hpf ?_
  clear N F n5 nS n4 NK
  intro h' tk' m' F hm N
  replace qp := (hm (Str.ofString "prime") rfl).trans qp
  replace qS := (hm (Str.ofString "states") rfl).trans qS
  replace qT := (hm (Str.ofString "tape") rfl).trans qT
  clear hm
  have n5 := nt N
  have nS := nt n5
  have n4 := nt nS
  have n3 := nt n4
  have n7 := nt n3
  have NK := nt (nt n7)
  rw [nth_drop3 (k := 14) (by decide)]
  refine segI (sc := lawScope) (s := { s with heap := h', toks := tk' }) rfl (nth_drop3 (by decide)) B F X (nc (NK _ m1) (nc (NK _ mD) (nc (nh n4) (nc (nh (nt n7)) (nc (nh N) (nc (nh n5) (nc (nh nS) (nc (nh n4) (nc (nh n3) (nc (nh n7) NK)))))))))) T qT d1 d4 d6 hys hcs f.c7 f.c31 g6 (List.forall_mem_cons.mpr ⟨Ne.symm oM6, List.forall_mem_cons.mpr ⟨Nat.ne_of_lt (j_lt L 5 6 (by decide)), List.forall_mem_cons.mpr ⟨Nat.ne_of_gt (Nat.lt_trans (j_lt L 6 7 (by decide)) lS), List.forall_mem_cons.mpr ⟨Nat.ne_of_lt (j_lt L 4 6 (by decide)), List.forall_mem_cons.mpr ⟨Nat.ne_of_lt (j_lt L 3 6 (by decide)), List.forall_mem_cons.mpr ⟨Nat.ne_of_gt (j_lt L 6 7 (by decide)), fun q hq => (off q hq).2.2.2.1⟩⟩⟩⟩⟩⟩) f.hR f.hW f.hTn ?_
  clear N F n5 nS n4 n3 n7 NK d6 qT
  intro o6 tR tW t6 m' h' tk' d6 F hm qR qW N
  replace qp := (hm (Str.ofString "prime") rfl).trans qp
  replace qS := (hm (Str.ofString "states") rfl).trans qS
  clear hm
  obtain ⟨KO, k6, kM, k5, kS, k4, k3, kWn, k2, hNT, ho7, N⟩ : ∃ KO : List (Addr × Obj), (L + 1 + 1 + 1 + 1 + 1 + 1, o6) ∈ KO ∧ (Mk, LCg.lst mv) ∈ KO ∧ (L + 1 + 1 + 1 + 1 + 1, o5) ∈ KO ∧ (S2, W.listOf (List.toArray sv) sn) ∈ KO ∧ (L + 1 + 1 + 1 + 1, o4) ∈ KO ∧ (L + 1 + 1 + 1, o3) ∈ KO ∧ (Wn, W.listOf (List.toArray wv) wc) ∈ KO ∧ (L + 1 + 1, o2) ∈ KO ∧ (∀ q ∈ KO, NotTab q.2) ∧ (∀ q ∈ KO, @Ne Nat q.1 (L + 7)) ∧ News h₀ L h' (((L + 1 + 1 + 1 + 1 + 1 + 1 + 1, o7) :: KO) ++ [(30, tabObj #[]), (37, tabObj #[])]) := by
    refine ⟨[(L + 1 + 1 + 1 + 1 + 1 + 1, o6), (Mk, LCg.lst mv), (L + 1 + 1 + 1 + 1 + 1, o5), (S2, W.listOf (List.toArray sv) sn), (L + 1 + 1 + 1 + 1, o4), (L + 1 + 1 + 1, o3), (Wn, W.listOf (List.toArray wv) wc), (L + 1 + 1, o2)], .head _, .tail _ (.head _), .tail _ (.tail _ (.head _)), .tail _ (.tail _ (.tail _ (.head _))), .tail _ (.tail _ (.tail _ (.tail _ (.head _)))), .tail _ (.tail _ (.tail _ (.tail _ (.tail _ (.head _))))), .tail _ (.tail _ (.tail _ (.tail _ (.tail _ (.tail _ (.head _)))))), .tail _ (.tail _ (.tail _ (.tail _ (.tail _ (.tail _ (.tail _ (.head _))))))), ?_, ?_, ?_⟩
    · exact List.forall_mem_cons.mpr ⟨NotTab.cell d6, List.forall_mem_cons.mpr ⟨NotTab.lst, List.forall_mem_cons.mpr ⟨NotTab.cell d5, List.forall_mem_cons.mpr ⟨NotTab.list, List.forall_mem_cons.mpr ⟨NotTab.cell d4, List.forall_mem_cons.mpr ⟨NotTab.cell d3, List.forall_mem_cons.mpr ⟨NotTab.list, List.forall_mem_cons.mpr ⟨NotTab.cell d2, List.forall_mem_nil _⟩⟩⟩⟩⟩⟩⟩⟩
    · exact List.forall_mem_cons.mpr ⟨Nat.ne_of_lt (j_lt L 6 7 (by decide)), List.forall_mem_cons.mpr ⟨Ne.symm oM7, List.forall_mem_cons.mpr ⟨Nat.ne_of_lt (j_lt L 5 7 (by decide)), List.forall_mem_cons.mpr ⟨Nat.ne_of_gt lS, List.forall_mem_cons.mpr ⟨Nat.ne_of_lt (j_lt L 4 7 (by decide)), List.forall_mem_cons.mpr ⟨Nat.ne_of_lt (j_lt L 3 7 (by decide)), List.forall_mem_cons.mpr ⟨(off _ mW).2.2.2.2, List.forall_mem_cons.mpr ⟨(off _ m2).2.2.2.2, List.forall_mem_nil _⟩⟩⟩⟩⟩⟩⟩⟩
    · have n4 := nt (nt (nt (nt N)))
      have n7 := nt (nt n4)
      have NK := nt n7
      exact na (nc (nh n7) (nc (nh N) (nc (nh (nt N)) (nc (nh (nt (nt N))) (nc (nh (nt (nt (nt N)))) (nc (nh n4) (nc (nh (nt n4)) (nc (NK _ mW) (nc (NK _ m2) fun _ hp => nomatch hp))))))))) (nc (NK _ m30) (nc (NK _ m37) fun _ hp => nomatch hp))
  have hTb := Tabs.fresh
  have hN7 : ∀ q ∈ (L + 1 + 1 + 1 + 1 + 1 + 1 + 1, o7) :: KO, NotTab q.2 := List.forall_mem_cons.mpr ⟨NotTab.cell d7, hNT⟩
  generalize [(30, tabObj #[]), (37, tabObj #[])] = tb at N hTb
  obtain ⟨tX0, tXb, txr, tT0, tTb1, tTb2, tqb⟩ := f.tT
  have NO := nt (nl N)
  rw [nth_drop2 (k := 17) (by decide)]
  refine segJ (sc := lawScope) (s := { s with heap := h', toks := tk' }) rfl (nth_drop2 (by decide)) B F X (nc (NO _ k6) N) T qR qW d6 hTb hN7 C1 C2 rfl rfl tX0 tXb fW0 f.Wb rfl txr (by rw [← txr]; exact Int.ediv_mul_add_emod _ _) tT0 tTb1 tTb2 f.Rb tqb ?_
  clear N F hTb NO tX0 tXb txr tT0 tTb1 tTb2 tqb tb
  intro tb tr m' h' tk' hTb F hm qr N
  replace qp := (hm (Str.ofString "prime") rfl).trans qp
  replace qS := (hm (Str.ofString "states") rfl).trans qS
  replace qR := (hm (Str.ofString "ring") rfl).trans qR
  replace qW := (hm (Str.ofString "whole") rfl).trans qW
  clear hm
  have NO := nt (nl N)
  rw [nth_drop (k := 19) (by decide)]
  refine segK (sc := lawScope) (s := { s with heap := h', toks := tk' }) rfl (nth_drop (by decide)) B F X (nc (NO _ k5) (nc (NO _ kM) (nc (NO _ k4) (nc (NO _ k6) N)))) T qr d4 d5 d6 hmv fc0 f.c31 f.ml f.m01 f.rs ?_
  clear N F NO
  intro h' tk' F N
  have NO := nt (nl N)
  rw [nth_drop2 (k := 20) (by decide)]
  refine segL (sc := lawScope) (s := { s with heap := h', toks := tk' }) rfl (nth_drop2 (by decide)) B F X (nc (NO _ k3) N) T qR qr d3 f.n3 f.n5 f.hB f.hNb rfl rfl f.hWd ?_
  clear N F NO
  intro m' h' tk' F hm N
  replace qp := (hm (Str.ofString "prime") rfl).trans qp
  replace qS := (hm (Str.ofString "states") rfl).trans qS
  replace qR := (hm (Str.ofString "ring") rfl).trans qR
  replace qW := (hm (Str.ofString "whole") rfl).trans qW
  replace qr := (hm (Str.ofString "rest") rfl).trans qr
  clear hm
  have NO := nt (nl N)
  rw [nth_drop (k := 22) (by decide)]
  refine segM (sc := lawScope) (s := { s with heap := h', toks := tk' }) rfl (nth_drop (by decide)) B F X (nc (NO _ kS) (nc (NO _ k4) (nc (NO _ k6) N))) T qS d4 d6 hsv fc0 f.c31 f.sll f.hx f.hj ?_
  clear N F NO qS
  intro tp2 m' h' tk' F hm qpl N
  replace qp := (hm (Str.ofString "prime") rfl).trans qp
  replace qR := (hm (Str.ofString "ring") rfl).trans qR
  replace qW := (hm (Str.ofString "whole") rfl).trans qW
  replace qr := (hm (Str.ofString "rest") rfl).trans qr
  clear hm
  have NO := nt (nl N)
  obtain ⟨tX0, tXb, txr, tT0, tTb1, tTb2, tqb⟩ := f.tN
  rw [nth_drop (k := 23) (by decide)]
  refine segN (sc := lawScope) (s := { s with heap := h', toks := tk' }) rfl (nth_drop (by decide)) B F X (nc (NO _ k4) N) T qR qW qr qpl d4 hTb hN7 C1 C2 rfl tX0 tXb fW0 f.Wb txr rfl tT0 tTb1 tTb2 f.Rb ?_
  clear N F NO hTb tX0 tXb txr tT0 tTb1 tTb2 tqb qr qpl tb
  intro tb h' tk' hTb F N
  have NO := nt (nl N)
  have ho : ∀ q ∈ KO ++ tb, @Ne Nat q.1 (L + 7) := fun q hq => (List.mem_append.mp hq).elim (ho7 q) (hTb.ne N (X := L + 1 + 1 + 1 + 1 + 1 + 1 + 1) (ob := o7) (List.mem_append_left _ (.head _)) (fun p hp => List.mem_append_right _ hp) (NotTab.cell d7) q)
  rw [nth_drop (k := 24) (by decide)]
  refine segO (sc := lawScope) (s := { s with heap := h', toks := tk' }) rfl (nth_drop (by decide)) B F X (nc (NO _ k5) (nc (NO _ kM) (nc (NO _ k4) (nc (nh (nl N)) (na NO (nr N)))))) T d4 d5 d7 hmv fc0 f.c31 f.ml f.hz (ho7 _ kM) ho ?_
  clear N F NO d7 ho hN7
  intro Z zv o7 h' tk' hzv d7 oZ F N
  clear oZ
  have NO := nl (nt (nt N))
  rw [nth_drop (k := 25) (by decide)]
  refine segP (sc := lawScope) (s := { s with heap := h', toks := tk' }) rfl (nth_drop (by decide)) B F X (nc (NO _ k3) (nc (NO _ k4) (nc (NO _ k5) (nc (NO _ kM) (nc (nh (nt N)) (nc (nh N) (nc (nh (nt N)) (nc (nh N) (nt (nt N)))))))))) T d3 d4 d5 d7 hmv hzv fc0 f.c31 (Int.le_of_lt fn0) f.n5 f.ml f.zl f.hb ?_
  clear N F NO
  intro Bg bv m' h' tk' hbv F hm qB N
  replace qp := (hm (Str.ofString "prime") rfl).trans qp
  replace qR := (hm (Str.ofString "ring") rfl).trans qR
  replace qW := (hm (Str.ofString "whole") rfl).trans qW
  clear hm
  have n7 := nt N
  have NT := nt (nt n7)
  have NO := nl NT
  obtain ⟨tX0, tXb, txr, tT0, tTb1, tTb2, tqb⟩ := f.tQ
  rw [nth_drop2 (k := 26) (by decide)]
  refine segQ (sc := lawScope) (s := { s with heap := h', toks := tk' }) rfl (nth_drop2 (by decide)) B F X (nc (NO _ k4) (nc (nh N) (nc (nh n7) (nc (nh (nt n7)) NT)))) T qR qW qB d4 d7 hbv hzv hTb hNT C1 C2 f.b0 f.b1 fc0 f.c31 f.zl f.z01 rfl tX0 tXb fW0 f.Wb txr tT0 tTb1 tTb2 f.Rb f.zS ?_
  clear N F NO n7 NT hTb tX0 tXb txr tT0 tTb1 tTb2 tqb qB d7 tb
  intro tb m' h' tk' hTb F hm N
  replace qp := (hm (Str.ofString "prime") rfl).trans qp
  replace qR := (hm (Str.ofString "ring") rfl).trans qR
  replace qW := (hm (Str.ofString "whole") rfl).trans qW
  clear hm
  have NO := nl N
  rw [nth_drop2 (k := 28) (by decide)]
  refine segR (sc := lawScope) (s := { s with heap := h', toks := tk' }) rfl (nth_drop2 (by decide)) B F X (nc (NO _ k2) (nc (NO _ kWn) (nc (NO _ k6) (nc (NO _ k3) N)))) T qR qW qp d2 d3 d6 hwv hTb hNT C1 C2 hE f.p0 f.p1 f.sp fW0 f.Wb f.Rb f.wok f.fin ?_
  clear N F NO hTb qp tb
  intro tb tl m' h' tk' hTb F hm qL N
  replace qR := (hm (Str.ofString "ring") rfl).trans qR
  replace qW := (hm (Str.ofString "whole") rfl).trans qW
  clear hm
  rw [nth_drop (k := 30) (by decide)]
  refine segS (sc := lawScope) (s := { s with heap := h', toks := tk' }) rfl (nth_drop (by decide)) B F X N T qL qW hTb hNT C1 C2 fW0 f.Wb ?_
  clear N F hTb tb
  intro tb h' tk' hTb F N
  rw [nth_drop (k := 31) (by decide)]
  refine segT (sc := lawScope) (s := { s with heap := h', toks := tk' }) rfl (nth_drop (by decide)) B F X N T qR qW hTb hNT C1 C2 fW0 f.Wb f.Rb rfl f.tX0 f.tXb f.tq f.tr ?_
  clear N F hTb tb
  intro tb h' tk' hTb F N
  rw [nth_drop (k := 32) (by decide)]
  refine segU (sc := lawScope) (s := { s with heap := h', toks := tk' }) rfl (nth_drop (by decide)) B F X N T qL ?_
  clear N F
  intro m' h' tk' F N
  have gr := hTb.grown (nr N)
  exact hret h' tk' m' F gr.1 gr.2
end Mine
end
set_option maxHeartbeats 4000000 in
theorem PySem.Challenge.cw_wo0032_02_holds : PySem.Challenge.rw_wo0032_02.Holds := by
  w_top off
  k_with_none
  exact Mine.hd (by
  w_strict (k_go0; (with_reducible rename Fr _ _ _ _ => zF); (with_reducible rename News _ _ _ _ => zN); (with_reducible rename Below _ _ _ _ => zB); (with_reducible rename Frag.In _ _ => zX); (with_reducible rename Top _ _ _ _ _ _ => zT); (with_reducible rename IntsAre _ _ => zI); (with_reducible rename Heap.IsList (ghostOf _ _) _ _ => zL); (with_reducible rename CodeHd _ (34, 30).fst _ => zC1); (with_reducible rename CodeHd _ (41, 37).fst _ => zC2); (with_reducible rename _ < _ ∧ _ < _ => zl); (have zll := IntsAre.length zI); (with_unfolding_all refine law2_main zB zF zX zN zT (by with_unfolding_all rfl) ?d1 ?d2 ?d3 ?d4 ?d5 ?d6 ?d7 zl.1 zL zI (by omega) ?hE zC1 zC2 ?_); (case d1 => with_unfolding_all assumption); (case d2 => with_unfolding_all assumption); (case d3 => with_unfolding_all assumption); (case d4 => with_unfolding_all assumption); (case d5 => with_unfolding_all assumption); (case d6 => with_unfolding_all assumption); (case d7 => with_unfolding_all assumption); (case hE => passes_own); intro h9 k9 m9 F9 a9 b9; (refine ⟨?_, a9, b9, True.intro⟩); clear zF zN zL zT zX zB zC1 zC2 zI zl; (try dsimp only); wrow_close))
