import PyProof.Rows.All
import Wide.All
import OpenK.AllK
import Wide.FinOn
import KE.KLcPair
import PyProof.MinMaxWalk
import PyProof.WalkInts
import Lean
import PySem.Challenge.RW_wo0032_01
set_option Elab.async false
set_option linter.unusedVariables false
set_option linter.unusedSimpArgs false
set_option compiler.extract_closed false
set_option maxRecDepth 100000
open PySem PySem.W PySem.Spec PySem.Calls PyProof.Rows
namespace Mine
end Mine
open Mine
section
namespace Mine
theorem room_le {d a b K : Nat} (h : d + b < K) (hab : a ≤ b) : d + a < K := Nat.lt_of_le_of_lt (Nat.add_le_add_left hab d) h
theorem room_0 {d b K : Nat} (h : d + b < K) : d < K := Nat.lt_of_le_of_lt (Nat.le_add_right d b) h
theorem room_12 {d a b c K : Nat} (h : d + b < K) (hab : c + a ≤ b) : d + c + a < K := by rw [Nat.add_assoc]; exact room_le h hab
theorem room_123 {d a b c e K : Nat} (h : d + b < K) (hab : c + (e + a) ≤ b) : d + c + e + a < K := by rw [Nat.add_assoc, Nat.add_assoc]; exact room_le h hab
theorem halves {l r : Int} {d : Nat} (hd : r - l = (d : Int)) (h1 : 1 ≤ d) (hl : 0 ≤ l) (hr : r ≤ 20) :
    d ≤ 20 ∧ d / 2 ≤ 10 ∧ l < 2 ^ 63 ∧ 0 ≤ (l + r) / 2 ^ (1 : Int).toNat ∧ (l + r) / 2 ^ (1 : Int).toNat ≤ 20 ∧ (l + r) / 2 ^ (1 : Int).toNat - l = ((d / 2 : Nat) : Int) ∧ r - (l + r) / 2 ^ (1 : Int).toNat = ((d - d / 2 : Nat) : Int) ∧ ((l + r) / 2 ^ (1 : Int).toNat).toNat = l.toNat + d / 2 ∧
    -2 ^ 64 < (l + r) / 2 ^ (1 : Int).toNat - l ∧ (l + r) / 2 ^ (1 : Int).toNat - l < 2 ^ 64 ∧ d / 2 + (d - d / 2) = d ∧ (l + r) / 2 ^ (1 : Int).toNat ≤ r := by
  have e2 : (2 : Int) ^ (1 : Int).toNat = 2 := rfl
  have hM : (l + r) / 2 = l + ((d / 2 : Nat) : Int) := by clear hl hr h1 e2; omega
  have h20 : d ≤ 20 := by clear hM e2 h1; omega
  have hq : d / 2 ≤ d := Nat.div_le_self d 2
  have h10 : d / 2 ≤ 20 / 2 := Nat.div_le_div_right h20
  rw [e2, hM]
  generalize d / 2 = k at hq h10 ⊢
  clear hM e2 h1
  have e3 : ((d - k : Nat) : Int) = (d : Int) - (k : Int) := Int.ofNat_sub hq
  have hr2 : r = l + (d : Int) := by clear hr h20 hq h10 e3 hl; omega
  have hkd : (k : Int) ≤ (d : Int) := Int.ofNat_le.mpr hq
  have hlr : l ≤ r := by rw [hr2]; exact Int.le_add_of_nonneg_right (Int.natCast_nonneg _)
  have hkr : l + (k : Int) ≤ r := by rw [hr2]; exact Int.add_le_add_left hkd l
  rw [e3, hr2, show l + (k : Int) - l = (k : Int) by rw [Int.add_comm]; exact Int.add_sub_cancel _ _, ← hr2]
  refine ⟨h20, h10, Int.lt_of_le_of_lt (Int.le_trans hlr hr) (by decide), Int.add_nonneg hl (Int.natCast_nonneg _), Int.le_trans hkr hr, rfl, ?_, ?_, Int.lt_of_lt_of_le (by decide) (Int.natCast_nonneg _), ?_, Nat.add_sub_cancel' hq, hkr⟩
  · rw [hr2]; clear hr h20 hq h10 e3 hkd hlr hkr hd hl hr2; omega
  · exact Int.toNat_add_nat hl k
  · exact Int.lt_of_le_of_lt (Int.ofNat_le.mpr h10) (by decide)
theorem halves_ne {l r : Int} {d : Nat} (hd : r - l = (d : Int)) (h1 : 1 ≤ d) (h : l + 1 ≠ r) : 1 ≤ d / 2 ∧ d / 2 < d ∧ 1 ≤ d - d / 2 ∧ d - d / 2 < d := by omega
theorem halves_one {l r : Int} {d : Nat} (hd : r - l = (d : Int)) (h : l + 1 = r) : d = 1 := by omega
theorem halves_len {l r : Int} {d k : Nat} (hd : r - l = (d : Int)) (h1 : 1 ≤ d) (hl : 0 ≤ l) (hr : r ≤ (k : Int)) : l.toNat + d / 2 ≤ k ∧ l.toNat + d / 2 + (d - d / 2) ≤ k ∧ l < (k : Int) ∧ l.toNat < k ∧ l.toNat + d ≤ k := by omega
theorem halves_n {n M l : Int} {d : Nat} (hn : 0 < n) (hn1 : n ≤ 16000) (gd : M - l = ((d / 2 : Nat) : Int)) (h20 : d ≤ 20) :
    ((M - l) * n).toNat = n.toNat * (d / 2) ∧ 0 ≤ (M - l) * n ∧ (M - l) * n ≤ 1000000 ∧ n.toNat * d ≤ 400000 ∧ 0 ≤ n := by
  have e : (M - l) * n = ((n.toNat * (d / 2) : Nat) : Int) := by
    rw [gd, Int.natCast_mul, Int.toNat_of_nonneg (Int.le_of_lt hn), Int.mul_comm]
  have h1 : n.toNat * (d / 2) ≤ 16000 * 10 := Nat.mul_le_mul (by omega) (by omega)
  have h2 : n.toNat * d ≤ 16000 * 20 := Nat.mul_le_mul (by omega) (by omega)
  rw [e]
  exact ⟨rfl, Int.natCast_nonneg _, by omega, by omega, by omega⟩
theorem halves_x {x : Int} {k n d : Nat} (hk : k = n * (d / 2)) (hdd : d / 2 + (d - d / 2) = d) (h0 : 0 ≤ x) (hx : x < 2 ^ (n * d)) :
    x / 2 ^ k < 2 ^ (n * (d - d / 2)) ∧ 0 ≤ x / 2 ^ k ∧ x % 2 ^ k < 2 ^ (n * (d / 2)) ∧ 0 ≤ x % 2 ^ k := by
  subst hk
  have hp : (0 : Int) < 2 ^ (n * (d / 2)) := Int.pow_pos (by decide)
  refine ⟨Int.ediv_lt_of_lt_mul hp ?_, Int.ediv_nonneg h0 (Int.le_of_lt hp), Int.emod_lt_of_pos _ hp, Int.emod_nonneg _ (Int.ne_of_gt hp)⟩
  rw [← Int.pow_add, ← Nat.mul_add, Nat.add_comm, hdd]
  exact hx
theorem room_half {p d e K : Nat} (h : p + (d + 1) < K) (he : e < d) : p + 1 + (e + 1) < K := by omega
theorem units_half {p d e K : Nat} (h : p + 8 * (d + 1) < K) (he : e < d) : p + 3 + 8 * (e + 1) < K := by omega
theorem room_len {p d K : Nat} (h : p + 30 < K) (he : d ≤ 20) : p + 1 + (d + 1) < K := by omega
theorem units_len {p d K : Nat} (h : p + 8 * 30 < K) (he : d ≤ 20) : p + 3 + 8 * (d + 1) < K := by omega
theorem w_less {y b : Int} (h : y < 0) (hb : 0 < b) : (-(y + b)).toNat < (-y).toNat := by omega
end Mine
end
section
set_option maxRecDepth 100000
set_option maxHeartbeats 8000000
namespace Mine
def vw : Program := { PySem.Challenge.pw_wo0032_01 with main := { PySem.Challenge.pw_wo0032_01.main with body := [1, 2, 4, 5, 6, 7, 8, 9, 11, 12, 14, 15, 16, 17].filterMap fun i => PySem.Challenge.pw_wo0032_01.main.body[i]? } }
theorem two {W A B C : Prop} (f : W → A → B → C) (hw : W) (h : A ∧ B) : C := f hw h.1 h.2
local macro_rules | `(tactic| o_head $H) => `(tactic| (refine two (B := WalkO vw [Str.ofString "COMPILER_FLAG_NAMES"] (XL vw []) (Hook.says $H) (OpenRow.toRowW (OpenLaw.row PySem.Challenge.rw_wo0032_01)) _ _ (fun f vs => PySem.call f vs)) (fun hw hl hc => holds_open (q := vw) (loose := [Str.ofString "COMPILER_FLAG_NAMES"]) (Xt := fun s => xlAt vw [] s && recOk (RowW.records (OpenRow.toRowW (OpenLaw.row PySem.Challenge.rw_wo0032_01))) s) (XP := XL vw []) (Yf := Hook.obs $H) (Ya := Hook.val $H) (YP := Hook.says $H) (N := 1262) hl (Hook.of $H) (Hook.keeps $H) (fun s e => xl_of s (Bool.and_eq_true_iff.mp e).1) XL.keeps (by rfl) (by rfl) (by rfl) (fun s e => recFacts_of (Bool.and_eq_true_iff.mp e).2) (by rfl) (by first | assumption | decide +kernel) (by decide +kernel) ⟨rfl, rfl, rfl, rfl, rfl, by decide +kernel⟩ hw hc) ?hw ?hb))
open_top hd for PySem.Challenge.rw_wo0032_01
abbrev prg : Program := (OpenRow.toRowW (OpenLaw.row PySem.Challenge.rw_wo0032_01)).prog
noncomputable abbrev hk : Hook := kmHook hd.heap_39 [2, 3, 6, 15, 17, 18, 20, 21, 22, 24, 25, 27, 28, 29, 31, 32, 34, 35, 36, 38, 39, 41, 42, 43, 45, 46, 48, 49, 50, 52, 53, 55, 56, 57, 59, 60, 62, 63, 64, 65, 67, 68, 70, 71, 72, 74, 75, 77, 78, 79, 82, 83, 84, 86, 87, 89, 90, 91, 94, 95] (fun _ => by kernel_rfl) [51, 44]
def xt (s : Shared) : Bool := xlAt vw [] s && recOk (RowW.records (OpenRow.toRowW (OpenLaw.row PySem.Challenge.rw_wo0032_01))) s
abbrev SideIs (b : Bool) : Prop := ∀ w : World, (openEnds treeTable prg (w.withFollow "special-get-raises" b) 1262).map (fun s => (openSeen vw [Str.ofString "COMPILER_FLAG_NAMES"] (importedModules prg.main.body) xt true s, Hook.obs hk s)) = some (openGood vw [Str.ofString "COMPILER_FLAG_NAMES"], Hook.val hk (w.withFollow "special-get-raises" b))
theorem lft0 : SideIs false := by intro w; kernel_rfl
theorem lft1 : SideIs true := by intro w; kernel_rfl
theorem lft : LeftO prg vw [Str.ofString "COMPILER_FLAG_NAMES"] xt (Hook.obs hk) (Hook.val hk) 1262 :=
  byRow2 "special-get-raises" (P := fun w => (openEnds treeTable prg w 1262).map (fun s => (openSeen vw [Str.ofString "COMPILER_FLAG_NAMES"] (importedModules prg.main.body) xt true s, Hook.obs hk s)) = some (openGood vw [Str.ofString "COMPILER_FLAG_NAMES"], Hook.val hk w)) lft0 lft1
end Mine
end
local macro_rules | `(tactic| walk_at $s:str) => `(tactic| k_extra $s)
local macro_rules | `(tactic| k_all) => `(tactic| k_extra "ALL!")
local macro_rules | `(tactic| k_mem) => `(tactic| k_extra "MEM!")
local macro_rules | `(tactic| bits_by_make) => `(tactic| k_extra "BITS!")
local macro_rules | `(tactic| k_ne) => `(tactic| k_extra "KNE!")
local macro_rules | `(tactic| l_bnd) => `(tactic| k_extra "LBND!")
local macro_rules | `(tactic| ktr_room) => `(tactic| k_extra "ROOM!")
local macro_rules | `(tactic| ktr_units) => `(tactic| k_extra "UNITS!")
local macro_rules | `(tactic| l_idx) => `(tactic| k_extra "IDX!")
section
set_option maxRecDepth 100000
namespace Mine
open Builtin.Int (intBits)

theorem fdiv_pow (a : Int) (k : Nat) : a.fdiv (2 ^ k) = a / 2 ^ k :=
  Int.fdiv_eq_ediv_of_nonneg a (Int.le_of_lt (Int.pow_pos (by decide)))
theorem pow2_pos (k : Nat) : (0 : Int) < 2 ^ k := Int.pow_pos (by decide)
theorem toNat_pow (k : Nat) : ((2 : Int) ^ k).toNat = 2 ^ k := by
  have h : ((2 : Int) ^ k) = ((2 ^ k : Nat) : Int) := by simp
  rw [h]; rfl
theorem bitAnd_mask (b : Int) (k : Nat) (hb : 0 ≤ b) : Builtin.bitAnd b (1 * 2 ^ k - 1) = b % 2 ^ k := by
  have hp := pow2_pos k
  rw [Int.one_mul, bitAnd_pp hb (by omega)]
  have e : ((2 : Int) ^ k - 1).toNat = 2 ^ k - 1 := by
    have h : ((2 : Int) ^ k) = ((2 ^ k : Nat) : Int) := by simp
    rw [h]; omega
  rw [e, Nat.and_two_pow_sub_one_eq_mod]
  have h : ((2 : Int) ^ k) = ((2 ^ k : Nat) : Int) := by simp
  rw [h, Int.natCast_emod, Int.toNat_of_nonneg hb]
theorem bitOr_pp {x y : Int} (hx : 0 ≤ x) (hy : 0 ≤ y) : Builtin.bitOr x y = ((x.toNat ||| y.toNat : Nat) : Int) := by
  unfold Builtin.bitOr Builtin.bitAnd Builtin.bitNot
  have h1 : ¬ (0 ≤ -x - 1) := by omega
  have h2 : ¬ (0 ≤ -y - 1) := by omega
  simp only [h1, h2, decide_false]
  have e1 : -(-x - 1) - 1 = x := by omega
  have e2 : -(-y - 1) - 1 = y := by omega
  rw [e1, e2]
  omega
theorem bitOr_add {r a : Int} {k : Nat} (hr : 0 ≤ r) (h0 : 0 ≤ a) (h1 : a < 2 ^ k) : Builtin.bitOr (r * 2 ^ k) a = r * 2 ^ k + a := by
  have hp := pow2_pos k
  have hrp : 0 ≤ r * 2 ^ k := Int.mul_nonneg hr (Int.le_of_lt hp)
  rw [bitOr_pp hrp h0]
  have e : (r * 2 ^ k).toNat = 2 ^ k * r.toNat := by
    rw [Int.toNat_mul hr (Int.le_of_lt hp), toNat_pow, Nat.mul_comm]
  have h2 : a.toNat < 2 ^ k := by
    have := toNat_pow k
    omega
  rw [e, ← Nat.two_pow_add_eq_or_of_lt h2, ← e]
  omega
section
variable {prog : Program} {w : World} {A : Around} {E : Value → Shared → Prop} {s : Shared} {a b n : Int} {t u : Tok} {Q : Value → Shared → Prop}
theorem r_shl (hn : 0 ≤ n) {m : Nat} (ha : intBits a ≤ m) (hm : n ≤ 1000000) (hmm : m ≤ 133000000) (h : Q (.int (a * 2 ^ n.toNat) s.toks) { s with toks := s.toks + 1 }) : wpAny (model prog w) A (binaryOp .LShift (.int a t) (.int n u)) Q E s :=
  lshift_int hn (kbm_shl ha hm hmm) h
theorem r_shr (hn : 0 ≤ n) (h : Q (.int (a / 2 ^ n.toNat) s.toks) { s with toks := s.toks + 1 }) : wpAny (model prog w) A (binaryOp .RShift (.int a t) (.int n u)) Q E s :=
  rshift_int hn (by rw [fdiv_pow]; exact h)
theorem r_or {k : Nat} {r : Int} (hr : 0 ≤ r) (h0 : 0 ≤ a) (h1 : a < 2 ^ k) (h : Q (.int (r * 2 ^ k + a) s.toks) { s with toks := s.toks + 1 }) : wpAny (model prog w) A (binaryOp .BitOr (.int (r * 2 ^ k) t) (.int a u)) Q E s :=
  or_int (by rw [bitOr_add hr h0 h1]; exact h)
theorem r_mask {k : Nat} (hb : 0 ≤ b) (h : Q (.int (b % 2 ^ k) s.toks) { s with toks := s.toks + 1 }) : wpAny (model prog w) A (binaryOp .BitAnd (.int b t) (.int (1 * 2 ^ k - 1) u)) Q E s :=
  and_int (by rw [bitAnd_mask b k hb]; exact h)
theorem r_and1 (h : Q (.int (b % 2) s.toks) { s with toks := s.toks + 1 }) : wpAny (model prog w) A (binaryOp .BitAnd (.int b t) (.int 1 u)) Q E s :=
  and_int (by rw [bitAnd_m1]; exact h)
theorem ishl (hn : 0 ≤ n) {m : Nat} (ha : intBits a ≤ m) (hm : n ≤ 1000000) (hmm : m ≤ 133000000) (h : Q (.int (a * 2 ^ n.toNat) s.toks) { s with toks := s.toks + 1 }) : wpAny (model prog w) A (inplaceOp .LShift (.int a t) (.int n u)) Q E s :=
  ilshift_int hn (kbm_shl ha hm hmm) h
theorem ishr (hn : 0 ≤ n) (h : Q (.int (a / 2 ^ n.toNat) s.toks) { s with toks := s.toks + 1 }) : wpAny (model prog w) A (inplaceOp .RShift (.int a t) (.int n u)) Q E s :=
  irshift_int hn (by rw [fdiv_pow]; exact h)
theorem r_divmod {h₀ : Heap} {L : Addr} {m : Str → Option Value} {news : List (Addr × Obj)} (F : Fr h₀ L s.heap m) (N : News h₀ L s.heap news) (hb : 0 < b) (hp : Builtin.divisionGoesByPylong a b = false)
    (h : ∀ D t1 t2 h' tk', Fr h₀ L h' m → News h₀ L h' ((D, { cls := .type "tuple", data := .seq #[.int (a / b) t1, .int (a % b) t2] }) :: news) → (∀ p ∈ news, p.1 < D) →
      Q (.ref D) { s with heap := h', toks := tk' }) :
    wpAny (model prog w) A (call (.builtin "divmod") [.int a t, .int b u]) Q E s := by
  refine divmod_N F N (by omega) (fun h' F' N' => ?_) (Or.inl hp)
  rw [Int.fdiv_eq_ediv_of_nonneg a (Int.le_of_lt hb), Int.fmod_eq_emod_of_nonneg a (Int.le_of_lt hb)] at N'
  exact h _ _ _ _ _ F' N' fun p hp => Heap.lt_size (N p hp).1
end
theorem noPy {x b : Int} (h : (intBits x : Int) - (intBits b : Int) ≤ 4000) : Builtin.divisionGoesByPylong x b = false := by
  unfold Builtin.Int.intBits at h
  show (decide ((if b == 0 then 0 else b.natAbs.log2 / 30 + 1) > 300) && decide ((if x == 0 then 0 else x.natAbs.log2 / 30 + 1) > (if b == 0 then 0 else b.natAbs.log2 / 30 + 1) + 150)) = false
  rw [Bool.and_eq_false_iff]
  by_cases hb : (b == 0) = true
  · left; simp [hb]
  · right
    rw [if_neg hb] at *
    by_cases hx : (x == 0) = true
    · simp [hx]
    · rw [if_neg hx] at *
      simp only [decide_eq_false_iff_not]
      omega
theorem bits_ediv2 {x : Int} {k m : Nat} (h : intBits x ≤ m) : intBits (x / 2 ^ k) ≤ m := by rw [← fdiv_pow]; exact bits_fdiv h
theorem emod_le_self {x y : Int} (hx : 0 ≤ x) (hy : 0 ≤ y) : x % y ≤ x := by
  have h := Int.emod_add_mul_ediv x y
  have h2 : 0 ≤ y * (x / y) := Int.mul_nonneg hy (Int.ediv_nonneg hx hy)
  omega
theorem bits_emod2 {x : Int} {k m : Nat} (hx : 0 ≤ x) (h : intBits x ≤ m) : intBits (x % 2 ^ k) ≤ m := by
  have hp := pow2_pos k
  refine bits_of_natAbs_le (b := x) ?_ h
  have h1 := Int.emod_nonneg x (show (2 : Int) ^ k ≠ 0 by omega)
  have h2 : x % 2 ^ k ≤ x := emod_le_self hx (Int.le_of_lt hp)
  omega
theorem allNe {d : Addr} {l : List (Addr × Obj)} (h : AllLt d l) : ∀ p ∈ l, p.1 ≠ d := fun p hp => Nat.ne_of_lt (ktn_ltOf h p hp)
end Mine
end
section
namespace Mine
open Builtin.Int (intBits)
section
variable {a12 a3 b b1 b2 P q r A : Int}
theorem w_turn (h : q * b + r = A ∧ r < b) (hr : r < 0) : (q - 1) * b + (r + b) = A ∧ r + b < b := by
  refine ⟨?_, by omega⟩
  rw [Int.sub_mul, Int.one_mul]; omega
theorem w_id (hbb : b = b1 * P + b2) (e : a12 = q * b1 + r) : q * b + (r * P + a3 - q * b2) = a12 * P + a3 := by
  subst hbb; subst e
  rw [Int.mul_add, Int.add_mul, Int.mul_assoc q b1 P]; omega
theorem w_eq (hbb : b = b1 * P + b2) (hP : 0 < P) (hab : a12 < b) (h3l : a3 < P) (hb : 0 < b) : (1 * P - 1) * b + ((a12 - b1 * P + b1) * P + a3 - (1 * P - 1) * b2) = a12 * P + a3 ∧ (a12 - b1 * P + b1) * P + a3 - (1 * P - 1) * b2 < b := by
  have e : (1 * P - 1) * b + ((a12 - b1 * P + b1) * P + a3 - (1 * P - 1) * b2) = a12 * P + a3 := by
    refine w_id hbb ?_
    rw [Int.one_mul, Int.sub_mul, Int.one_mul, Int.mul_comm b1 P]; omega
  refine ⟨e, ?_⟩
  have h1 : (a12 + 1) * P ≤ b * P := Int.mul_le_mul_of_nonneg_right (by omega) (Int.le_of_lt hP)
  rw [Int.add_mul, Int.one_mul] at h1
  have h2 : (1 * P - 1) * b = b * P - b := by rw [Int.one_mul, Int.sub_mul, Int.one_mul, Int.mul_comm P b]
  omega
theorem w_ne (hbb : b = b1 * P + b2) (hP : 0 < P) (h3l : a3 < P) (hb1 : 0 < b1) (hb2 : 0 ≤ b2) (ha : 0 ≤ a12) (e1 : q = a12 / b1) (e2 : r = a12 % b1) : q * b + (r * P + a3 - q * b2) = a12 * P + a3 ∧ r * P + a3 - q * b2 < b := by
  have e : a12 = q * b1 + r := by
    subst e1; subst e2
    have := Int.emod_add_mul_ediv a12 b1
    rw [Int.mul_comm]; omega
  refine ⟨w_id hbb e, ?_⟩
  have hq : 0 ≤ q := by subst e1; exact Int.ediv_nonneg ha (Int.le_of_lt hb1)
  have hr : r < b1 := by subst e2; exact Int.emod_lt_of_pos _ hb1
  have h1 : (r + 1) * P ≤ b1 * P := Int.mul_le_mul_of_nonneg_right (by omega) (Int.le_of_lt hP)
  rw [Int.add_mul, Int.one_mul] at h1
  have h2 : 0 ≤ q * b2 := Int.mul_nonneg hq hb2
  omega
theorem w_fin (h : q * b + r = A ∧ r < b) (hr : ¬ r < 0) : q = A / b ∧ r = A % b := by
  obtain ⟨h1, h2⟩ := h
  have hb : 0 < b := by omega
  have h3 := Int.ediv_emod_unique (a := A) (r := r) (q := q) hb
  have := h3.mpr ⟨by rw [Int.mul_comm]; omega, by omega, h2⟩
  exact ⟨this.1.symm, this.2.symm⟩
theorem w_eqle (hP : 0 < P) (h : a12 / P = b1) : b1 * P ≤ a12 := by
  subst h; exact Int.ediv_mul_le a12 (by omega)
theorem w_nelt (hP : 0 < P) (hbb : b = b1 * P + b2) (hb2l : b2 < P) (hab : a12 < b) (h : a12 / P ≠ b1) : a12 < b1 * P := by
  have h1 : a12 / P < b1 + 1 := by
    refine Int.ediv_lt_of_lt_mul hP ?_
    rw [Int.add_mul, Int.one_mul]; omega
  exact Int.lt_mul_of_ediv_lt hP (by omega)
end
theorem bits_le_of_lt {x : Int} {k : Nat} (h0 : 0 ≤ x) (h : x < 2 ^ k) : intBits x ≤ k := by
  refine intBits_le ?_
  have := toNat_pow k
  omega
theorem lt_of_bits {x : Int} {k : Nat} (h : intBits x ≤ k) : x < 2 ^ k := by
  have h1 := lt_pow_of_bits h (Nat.le_refl k)
  have h2 := toNat_pow k
  have := pow2_pos k
  omega
end Mine
end
section
namespace Mine
def W2Post (h₀ : Heap) (L : Addr) (s : Shared) (m₀ : Str → Option Value) (news : List (Addr × Obj)) (xn yn : Str) (I : Int → Int → Prop) (μ : Int → Int → Nat) (x y : Int) (f : Flow) (s₃ : Shared) : Prop :=
  f = .next ∧ ∃ h' tk m' x' y' tx ty, s₃ = { s with heap := h', toks := tk } ∧ Fr h₀ L h' m' ∧ News h₀ L h' news ∧ m' xn = some (.int x' tx) ∧ m' yn = some (.int y' ty) ∧ (∀ z, z ≠ xn → z ≠ yn → m' z = m₀ z) ∧ I x' y' ∧ μ x' y' < μ x y
section
variable {prog : Program} {w : World} {A : Around} {E : Value → Shared → Prop} {Q : Flow → Shared → Prop} {s : Shared} {env : Env} {h₀ : Heap} {L : Addr}
theorem while2 {test : Expr} {body : List Stmt} {pos : Pos} {m₀ : Str → Option Value} {news : List (Addr × Obj)} {xn yn : Str} (I : Int → Int → Prop) (μ : Int → Int → Nat) {x0 y0 : Int} {tx0 ty0 : Tok}
    (F : Fr h₀ L s.heap m₀) (N : News h₀ L s.heap news) (hx : m₀ xn = some (.int x0 tx0)) (hy : m₀ yn = some (.int y0 ty0)) (hne : xn ≠ yn) (hI : I x0 y0)
    (turn : ∀ x y tx ty h tk, I x y → Fr h₀ L h (fun z => if z = yn then some (.int y ty) else if z = xn then some (.int x tx) else m₀ z) → News h₀ L h news →
      wpAny (model prog w) A (isTrue test env (eval test env)) (fun b s₂ =>
        if b = true then wpAny (model prog w) A (execs body env) (W2Post h₀ L s m₀ news xn yn I μ x y) E s₂ else Q .next s₂) E { s with heap := h, toks := tk })
    (hE : PassesOwn (model prog w) A env E := by passes_own) :
    wpAny (model prog w) A (exec (.While test body [] pos) env) Q E s := by
  refine While_inv (fun n m nx => ∃ x y tx ty, nx = news ∧ μ x y = n ∧ m xn = some (.int x tx) ∧ m yn = some (.int y ty) ∧ (∀ z, z ≠ xn → z ≠ yn → m z = m₀ z) ∧ I x y) F N ⟨x0, y0, tx0, ty0, rfl, rfl, hx, hy, fun _ _ _ => rfl, hI⟩ ?_ hE
  rintro n m₁ nx h tk F₁ N₁ ⟨x, y, tx, ty, rfl, rfl, hx1, hy1, hz1, hI1⟩
  have em : m₁ = fun z => if z = yn then some (.int y ty) else if z = xn then some (.int x tx) else m₀ z := by
    funext z
    by_cases h1 : z = yn
    · subst h1; simp [hy1]
    · by_cases h2 : z = xn
      · subst h2; simp [h1, hx1]
      · simp [h1, h2, hz1 z h2 h1]
  rw [em] at F₁
  refine wpAny_mono (turn x y tx ty h tk hI1 F₁ N₁) (fun b s₂ p => ?_) fun _ _ x => x
  cases b with
  | false => simpa using p
  | true =>
    simp only [if_true] at p ⊢
    refine wpAny_mono p (fun f s₃ q => ?_) fun _ _ x => x
    obtain ⟨rfl, h', tk', m', x', y', tx', ty', rfl, F', N', hx', hy', hz', hI', hμ⟩ := q
    exact ⟨rfl, h', tk', m', _, _, rfl, F', N', hμ, x', y', tx', ty', rfl, rfl, hx', hy', hz', hI'⟩
theorem W2Post.intro {s : Shared} {m₀ m' : Str → Option Value} {news : List (Addr × Obj)} {xn yn : Str} {I : Int → Int → Prop} {μ : Int → Int → Nat} {x y x' y' : Int} {tx ty : Tok} {h' : Heap} {tk : Nat}
    (F : Fr h₀ L h' m') (N : News h₀ L h' news) (hx : m' xn = some (.int x' tx)) (hy : m' yn = some (.int y' ty)) (hz : ∀ z, z ≠ xn → z ≠ yn → m' z = m₀ z) (hI : I x' y') (hμ : μ x' y' < μ x y) :
    W2Post h₀ L s m₀ news xn yn I μ x y .next { s with heap := h', toks := tk } := ⟨rfl, h', tk, m', x', y', tx, ty, rfl, F, N, hx, hy, hz, hI, hμ⟩
end
end Mine
namespace Mine
section
variable {h₀ h : Heap} {L : Addr} {x y z u : Addr × Obj} {l : List (Addr × Obj)}
theorem nd1 (N : News h₀ L h (x :: y :: l)) : News h₀ L h (x :: l) := cb_drop N fun p hp => by
  rcases List.mem_cons.mp hp with rfl | hp <;> simp [*]
theorem nd2 (N : News h₀ L h (x :: y :: z :: l)) : News h₀ L h (x :: l) := nd1 (nd1 N)
theorem nd3 (N : News h₀ L h (x :: y :: z :: u :: l)) : News h₀ L h (x :: l) := nd1 (nd2 N)
end
end Mine
namespace Mine
section
variable {prog : Program} {w : World} {A : Around} {E : Value → Shared → Prop} {s : Shared} {h₀ : Heap} {L : Addr} {m : Str → Option Value} {news : List (Addr × Obj)}
theorem flat1 {α : Type} (v : α) : ∀ k : Nat, (List.replicate k [v]).flatten = List.replicate k v
  | 0 => rfl
  | k + 1 => by rw [List.replicate_succ, List.flatten_cons, flat1 v k, List.replicate_succ]; rfl
theorem r_rep0 {l : Addr} {v : Value} {c : Nat} {x : Int} {u : Tok} {Q : Value → Shared → Prop}
    (F : Fr h₀ L s.heap m) (N : News h₀ L s.heap news) (hm : (l, listOf #[v] c) ∈ news) (h0 : 0 ≤ x) (hk : x ≤ 1000000)
    (h : ∀ D h', Fr h₀ L h' m → News h₀ L h' ((D, listOf (List.replicate x.toNat v).toArray 0) :: news) → (∀ p ∈ news, p.1 < D) → Q (.ref D) { s with heap := h' }) :
    wpAny (model prog w) A (binaryOp .Mult (.ref l) (.int x u)) Q E s := by
  refine PyProof.Rows.mul_list F N (N _ hm).1 (by omega) (by omega) (by simp; omega) (fun h' F' N' => ?_)
  have e : (List.foldl (fun x1 x2 => x1 ++ x2) #[] (List.replicate (if (#[v] : Array Value).isEmpty = true then 0 else x.toNat) #[v])) = (List.replicate x.toNat v).toArray := by
    have := listMul_foldl_if #[v] x.toNat
    rw [show (#[v] : Array Value).toList = [v] from rfl, flat1] at this
    exact this
  rw [e] at N'
  exact h _ h' F' N' fun p hp => Heap.lt_size (N p hp).1
end
end Mine
namespace Mine
theorem allNeLt {d e : Addr} {l : List (Addr × Obj)} (h : AllLt d l) (hde : @LE.le Nat _ d e) : ∀ p ∈ l, p.1 ≠ e := fun p hp => Nat.ne_of_lt (Nat.lt_of_lt_of_le (ktn_ltOf h p hp) hde)
end Mine
end
section
set_option maxRecDepth 100000
namespace Mine
open Builtin.Int (intBits)
def Div2OK (w : World) (k : Nat) : Prop := ∀ {loose : List Str} {mean : ExcName → Option Value} {mg mb : Str → Option Value} {dp un : Nat} {gd : Option (List Code)} {cn : Str} {cs : Scope} {a : Addr} {ccd : Value} {cl : List (Str × Addr)} {outer : List Env} {A₀ : Around} {base h₀ : Heap} {L : Addr} {m : Str → Option Value} {news : List (Addr × Obj)} {s : Shared} {Q E : Value → Shared → Prop} {x b n : Int} {t t1 t2 : Tok} (_B : Below A₀ base outer h₀) (_F : Fr h₀ L s.heap m) (_X : (hd.heap_39 w.params).In h₀) (_N : News h₀ L s.heap news) (_T : Top topProg loose mean mg mb h₀) (_hk : cs.kind = .function)
    (_hd : dp + (2 * k + 1) < recursionLimit) (_hu : un + 8 * (2 * k + 1) < cLine) (_hb : 0 < b) (_hx : 0 ≤ x) (_hn : n = (intBits b : Int)) (_hlt : x < b * 2 ^ n.toNat) (_hk4 : n ≤ 4000 * 2 ^ k) (_hn1 : n ≤ 16000)
    (_hret : ∀ D (q r : Int) t1 t2 h' tk', q = x / b → r = x % b → 0 ≤ q → 0 ≤ r → Builtin.Int.intBits q ≤ 100000 → Builtin.Int.intBits r ≤ 100000 → Fr h₀ L h' m → News h₀ L h' ((D, { cls := .type "tuple", data := .seq #[.int q t1, .int r t2] }) :: news) → AllLt D news → Q (.ref D) { s with heap := h', toks := tk' }),
    wpAny (model PySem.Challenge.rw_wo0032_01.row.prog w) (ktrTop dp un gd cn cs L a ccd cl outer) (call (.ref 35) [.int x t, .int b t1, .int n t2]) Q E s


set_option maxHeartbeats 4000000 in
theorem c_div3 {w : World} {loose : List Str} {mean : ExcName → Option Value} {mg mb : Str → Option Value} {dp un : Nat} {gd : Option (List Code)} {cn : Str} {cs : Scope} {a : Addr} {ccd : Value} {cl : List (Str × Addr)} {outer : List Env} {A₀ : Around} {base h₀ : Heap} {L : Addr} {m : Str → Option Value} {news : List (Addr × Obj)} {s : Shared} {Q E : Value → Shared → Prop} {a12 a3 b b1 b2 n : Int} {t1 t2 t3 t4 t5 t6 : Tok} {k : Nat} (H : Div2OK w k) (B : Below A₀ base outer h₀) (F : Fr h₀ L s.heap m) (X : (hd.heap_39 w.params).In h₀) (N : News h₀ L s.heap news) (T : Top topProg loose mean mg mb h₀) (hk : cs.kind = .function)
    (hdp : dp + (2 * k + 2) < recursionLimit) (hu : un + 8 * (2 * k + 2) < cLine) (ha : 0 ≤ a12) (hab : a12 < b) (h3 : 0 ≤ a3) (h3l : a3 < 2 ^ n.toNat) (hb2 : 0 ≤ b2) (hb2l : b2 < 2 ^ n.toNat) (hbb : b = b1 * 2 ^ n.toNat + b2) (hb1 : 0 < b1) (hn : n = (intBits b1 : Int)) (hk4 : n ≤ 4000 * 2 ^ k) (hn1 : n ≤ 16000)
    (hret : ∀ D (q r : Int) t1 t2 h' tk', q = (a12 * 2 ^ n.toNat + a3) / b → r = (a12 * 2 ^ n.toNat + a3) % b → 0 ≤ q → 0 ≤ r → Builtin.Int.intBits q ≤ 100000 → Builtin.Int.intBits r ≤ 100000 → Fr h₀ L h' m → News h₀ L h' ((D, { cls := .type "tuple", data := .seq #[.int q t1, .int r t2] }) :: news) → AllLt D news → Q (.ref D) { s with heap := h', toks := tk' }) :
    wpAny (model PySem.Challenge.rw_wo0032_01.row.prog w) (ktrTop dp un gd cn cs L a ccd cl outer) (call (.ref 42) [.int a12 t1, .int a3 t2, .int b t3, .int b1 t4, .int b2 t5, .int n t6]) Q E s := by
  w_top off
  k_with_none
  k_with "LT1!" => (first | with_reducible assumption | with_reducible exact Nat.lt_succ_self _ | with_reducible exact And.left (by assumption) | with_reducible exact And.left (And.right (by assumption)) | with_reducible exact And.left (And.right (And.right (by assumption))) | with_reducible exact And.left (And.right (And.right (And.right (by assumption)))) | with_reducible exact And.left (And.right (And.right (And.right (And.right (by assumption))))) | with_reducible exact And.left (And.right (And.right (And.right (And.right (And.right (by assumption)))))) | with_reducible exact And.right (by assumption) | with_reducible exact And.right (And.right (by assumption)) | with_reducible exact And.right (And.right (And.right (by assumption))) | with_reducible exact And.right (And.right (And.right (And.right (by assumption)))))
  k_with "LT!" => (first | k_extra "LT1!" | ((with_reducible refine (Nat.lt_succ_of_lt ?_ : @LT.lt Nat _ _ (_ + 1))); first | k_extra "LT1!" | ((with_reducible refine (Nat.lt_succ_of_lt ?_ : @LT.lt Nat _ _ (_ + 1))); first | k_extra "LT1!" | ((with_reducible refine (Nat.lt_succ_of_lt ?_ : @LT.lt Nat _ _ (_ + 1))); k_extra "LT1!"))))
  k_with "NE!" => (first | with_reducible assumption | with_reducible exact Ne.symm (by assumption) | decide | ((fail_if_success (fail_if_success omega)); first | ((with_reducible refine Nat.ne_of_gt ?_); (fail_if_success (fail_if_success omega)); k_extra "LT!") | ((with_reducible refine Nat.ne_of_lt ?_); (fail_if_success (fail_if_success omega)); k_extra "LT!") | with_reducible exact And.left (by assumption) | with_reducible exact And.left (And.right (by assumption)) | with_reducible exact And.left (And.right (And.right (by assumption))) | omega))
  k_with "KNE!" => ((refine neN ?_; (try dsimp only); k_extra "NE!"))
  k_with "LBND!" => (first | assumption | decide | with_reducible exact Int.lt_of_lt_of_le (by assumption) (by decide) | with_reducible exact Int.lt_of_le_of_lt (by assumption) (by decide) | with_reducible exact Int.le_trans (by assumption) (by decide) | with_reducible exact Int.lt_of_lt_of_le (by decide) (by assumption) | with_reducible exact Int.le_trans (by decide) (by assumption) | with_reducible exact Int.natCast_nonneg _ | with_reducible exact Int.ne_of_gt (by assumption) | with_reducible exact Int.le_of_lt (by assumption) | with_reducible exact Nat.lt_of_lt_of_le (by assumption) (by decide) | with_reducible exact Nat.lt_of_le_of_lt (by assumption) (by decide) | with_reducible exact Nat.le_trans (by assumption) (by decide) | k_dflt omega | l_fact)
  k_with "ROOM!" => (((try simp only [depth_under_make, depth_under_kw, depth_in1, depth_deeper, depth_caller]); (try dsimp only [ktrTop]); first | with_reducible assumption | exact room_0 (by with_reducible assumption) | exact room_le (by with_reducible assumption) (by decide) | exact room_12 (by with_reducible assumption) (by decide)))
  k_with "UNITS!" => (((try simp only [units_in1, units_deeper, Around.mark_units, units_caller]); (try dsimp only [ktrTop]); first | with_reducible assumption | exact room_0 (by with_reducible assumption) | exact room_le (by with_reducible assumption) (by decide) | exact room_12 (by with_reducible assumption) (by decide) | exact room_123 (by with_reducible assumption) (by decide)))
  k_with "BITS!" => (first | (with_reducible assumption) | ((with_reducible apply bits_ediv2); bits_by_make) | ((with_reducible refine bits_emod2 ?_ ?_); (focus l_bnd); bits_by_make))
  k_with "binaryOp LShift int int" => ((k_here; (with_reducible refine r_shl (by l_bnd) (by bits_by_make) (by l_bnd) (by decide) ?_)))
  k_with "inplaceOp LShift int int" => ((k_here; (with_reducible refine ishl (by l_bnd) (by bits_by_make) (by l_bnd) (by decide) ?_)))
  k_with "binaryOp RShift int int" => ((k_here; (with_reducible refine r_shr (by l_bnd) ?_)))
  k_with "inplaceOp RShift int int" => ((k_here; (with_reducible refine ishr (by l_bnd) ?_)))
  k_with "binaryOp BitOr int int" => ((k_here; (with_reducible refine r_or (by l_bnd) (by l_bnd) (by l_bnd) ?_)))
  k_with "binaryOp BitAnd int int" => ((k_here; first | (with_reducible refine r_and1 ?_) | ((with_reducible refine r_mask (by l_bnd) ?_))))
  k_with "call builtin:divmod" => ((k_here; (with_reducible show wpAny _ _ (call (Value.builtin _) [Value.int _ _, Value.int _ _]) _ _ _); (refine' r_divmod (by assumption) (by assumption) (by l_bnd) (by assumption) ?_); intro D' t1' t2' h' tk' F' N' l1; (try k_lt l1)))
  k_with "ALL!" => (exact allNe (by assumption))
  k_with "call ref" => ((k_here; (with_reducible show wpAny _ _ (call (Value.ref 35) _) _ _ _); (with_reducible rename Div2OK _ _ => HD); k_dflt (refine' HD (by k_asm) (by k_asm) (by k_asm) (by k_asm) (by k_asm) (by first | exact rfl | assumption) (by ktr_room) (by ktr_units) (by l_bnd) (by l_bnd) (by l_bnd) (by first | assumption | omega) (by l_bnd) (by l_bnd) ?_); intro D' q' r' t1' t2' h' tk' e1' e2' p1' p2' b1' b2' F' N' l1; (try dsimp only); (try k_fold)))
  have hbpos : 0 < b := by omega
  have n0 : 0 ≤ n := by omega
  have sb1 : intBits b1 ≤ 16000 := by omega
  have hP := pow2_pos n.toNat
  have hnat : n.toNat = intBits b1 := by omega
  have sb2 : intBits b2 ≤ 16000 := Nat.le_trans (bits_le_of_lt hb2 hb2l) (by omega)
  have hb1l : b1 < 2 ^ n.toNat := lt_of_bits (by omega)
  have hbl : b < 2 ^ (n.toNat + n.toNat) := by
    have h1 : (b1 + 1) * 2 ^ n.toNat ≤ 2 ^ n.toNat * 2 ^ n.toNat := Int.mul_le_mul_of_nonneg_right (by omega) (Int.le_of_lt hP)
    rw [Int.add_mul, Int.one_mul] at h1
    rw [Int.pow_add]; omega
  have sa12 : intBits a12 ≤ 100000 := Nat.le_trans (bits_le_of_lt (k := n.toNat + n.toNat) ha (by omega)) (by omega)
  have heq : a12 / 2 ^ n.toNat = b1 → b1 * 2 ^ n.toNat ≤ a12 := w_eqle hP
  have hne : a12 / 2 ^ n.toNat ≠ b1 → a12 < b1 * 2 ^ n.toNat := w_nelt hP hbb hb2l hab
  have hAB : a12 * 2 ^ n.toNat + a3 < b * 2 ^ n.toNat := by
    have h1 : (a12 + 1) * 2 ^ n.toNat ≤ b * 2 ^ n.toNat := Int.mul_le_mul_of_nonneg_right (by omega) (Int.le_of_lt hP)
    rw [Int.add_mul, Int.one_mul] at h1
    omega
  have hA0 : 0 ≤ a12 * 2 ^ n.toNat + a3 := Int.add_nonneg (Int.mul_nonneg ha (Int.le_of_lt hP)) h3
  have hfin : ∀ q r, q * b + r = a12 * 2 ^ n.toNat + a3 ∧ r < b → ¬ r < 0 → q = (a12 * 2 ^ n.toNat + a3) / b ∧ r = (a12 * 2 ^ n.toNat + a3) % b ∧ 0 ≤ q ∧ 0 ≤ r ∧ intBits q ≤ 100000 ∧ intBits r ≤ 100000 := by
    intro q r h1 h2
    obtain ⟨e1, e2⟩ := w_fin h1 h2
    have hq : 0 ≤ q := by rw [e1]; exact Int.ediv_nonneg hA0 (Int.le_of_lt hbpos)
    have hq2 : q < 2 ^ n.toNat := by rw [e1]; exact Int.ediv_lt_of_lt_mul hbpos (by have := Int.mul_comm b (2 ^ n.toNat); omega)
    refine ⟨e1, e2, hq, by omega, Nat.le_trans (bits_le_of_lt hq hq2) (by omega), Nat.le_trans (bits_le_of_lt (k := n.toNat + n.toNat) (by omega) (by omega)) (by omega)⟩
  revert B F X N T
  k_fill
  intro B F X N T
  refine wpAny_call ?_
  k_dflt ktr_enter
  k_with "exec While Compare cons nil" => ((with_reducible rename Fr _ _ _ _ => lF'); (with_reducible rename News _ _ _ _ => lN'); (with_unfolding_all refine while2 (xn := Str.ofString "q") (yn := Str.ofString "r") (fun q r => q * b + r = a12 * 2 ^ n.toNat + a3 ∧ r < b) (fun _ r => (-r).toNat) lF' lN' (by with_unfolding_all rfl) (by with_unfolding_all rfl) (by decide) (by first | exact w_eq hbb hP hab h3l hbpos | (refine w_ne hbb hP h3l hb1 hb2 ha ?_ ?_ <;> assumption)) ?_); clear lF' lN'; intro x9 y9 tx9 ty9 h9 tk9 hI9 F9 N9; (try k_fold))
  k_with "W2Post" => (refine W2Post.intro (by assumption) (by assumption) (by with_unfolding_all rfl) (by with_unfolding_all rfl) (by intro z h1 h2; simp [h1, h2]) (w_turn (by assumption) (by assumption)) (by first | exact w_less (by assumption) hbpos | omega))
  k_steps
  all_goals (
    obtain ⟨e1, e2, q0, r0, s1, s2⟩ := hfin _ _ (by assumption) (by assumption)
    exact hret _ _ _ _ _ _ _ e1 e2 q0 r0 s1 s2 (by assumption) (by first | assumption | exact nd1 (by assumption)) (by first | assumption | exact And.right (by assumption)))
end Mine
end
section
namespace Mine
open Builtin.Int (intBits)
structure Setup (k : Nat) (X B N H : Int) : Prop where
  B0 : 0 < B
  X0 : 0 ≤ X
  NB : N = (intBits B : Int)
  NH : N = 2 * H
  lt : X < B * 2 ^ N.toNat
  Hk : H ≤ 4000 * 2 ^ k
  H16 : H ≤ 16000
  H0 : 0 < H
theorem bits_pow_le {x : Int} (hx : 0 < x) : 2 ^ (intBits x - 1) ≤ x := by
  unfold Builtin.Int.intBits
  have h0 : (x == 0) = false := by simp; omega
  rw [h0]
  simp only [Bool.false_eq_true, if_false, Nat.add_sub_cancel]
  have h1 : 2 ^ x.natAbs.log2 ≤ x.natAbs := Nat.log2_self_le (by omega)
  have h2 := toNat_pow x.natAbs.log2
  have h3 := pow2_pos x.natAbs.log2
  omega
theorem bits_eq {x : Int} {k : Nat} (h1 : 2 ^ k ≤ x) (h2 : x < 2 ^ (k + 1)) : intBits x = k + 1 := by
  have hp := pow2_pos k
  have ha : intBits x ≤ k + 1 := bits_le_of_lt (by omega) h2
  have hb : ¬ intBits x ≤ k := fun h => by have := lt_of_bits h; omega
  omega
theorem bits_pos {x : Int} (hx : 0 < x) : 0 < intBits x := by
  unfold Builtin.Int.intBits
  have h0 : (x == 0) = false := by simp; omega
  rw [h0]; simp
theorem bits_dbl {x : Int} (hx : 0 < x) : intBits (x * 2) = intBits x + 1 := by
  have h1 := bits_pow_le hx
  have h2 := lt_of_bits (Nat.le_refl (intBits x))
  have h3 := bits_pos hx
  have e : intBits x - 1 + 1 = intBits x := by omega
  have h4 : (2 : Int) ^ intBits x = 2 ^ (intBits x - 1) * 2 := by
    have h5 := Int.pow_succ 2 (intBits x - 1)
    rw [show (intBits x - 1).succ = intBits x by omega] at h5; exact h5
  refine bits_eq (by omega) ?_
  rw [Int.pow_succ]; omega
theorem bits_shr {x : Int} {h : Nat} (hx : 0 < x) (hh : h < intBits x) : intBits (x / 2 ^ h) = intBits x - h := by
  have hp := pow2_pos h
  have h1 := bits_pow_le hx
  have h2 := lt_of_bits (Nat.le_refl (intBits x))
  have e : intBits x - h = (intBits x - h - 1) + 1 := by omega
  rw [e]
  refine bits_eq ?_ ?_
  · refine Int.le_ediv_of_mul_le hp ?_
    rw [← Int.pow_add, show intBits x - h - 1 + h = intBits x - 1 by omega]; exact h1
  · refine Int.ediv_lt_of_lt_mul hp ?_
    rw [← Int.pow_add, show intBits x - h - 1 + 1 + h = intBits x by omega]; exact h2
section
variable {k : Nat} {X B N H : Int}
theorem Setup.nat (S : Setup k X B N H) : N.toNat = H.toNat + H.toNat := by have := S.NH; have := S.H0; omega
theorem Setup.b1 (S : Setup k X B N H) : H = (intBits (B / 2 ^ H.toNat) : Int) := by
  have h1 := S.NB; have h2 := S.NH; have h3 := S.H0
  rw [bits_shr S.B0 (by omega)]; omega
theorem Setup.b1pos (S : Setup k X B N H) : 0 < B / 2 ^ H.toNat := by
  have h0 : 0 ≤ B / 2 ^ H.toNat := Int.ediv_nonneg (Int.le_of_lt S.B0) (Int.le_of_lt (pow2_pos _))
  have h1 := S.b1; have h2 := S.H0
  rcases Int.lt_or_eq_of_le h0 with h | h
  · exact h
  · rw [← h] at h1
    have : intBits 0 = 0 := by decide
    omega
theorem Setup.bb (S : Setup k X B N H) : B = B / 2 ^ H.toNat * 2 ^ H.toNat + B % 2 ^ H.toNat := by
  have := Int.emod_add_mul_ediv B (2 ^ H.toNat)
  rw [Int.mul_comm]; omega
theorem Setup.b2 (S : Setup k X B N H) : 0 ≤ B % 2 ^ H.toNat ∧ B % 2 ^ H.toNat < 2 ^ H.toNat :=
  ⟨Int.emod_nonneg _ (by have := pow2_pos H.toNat; omega), Int.emod_lt_of_pos _ (pow2_pos _)⟩
theorem mod_b (X : Int) (j : Nat) : 0 ≤ X % 2 ^ j ∧ X % 2 ^ j < 2 ^ j :=
  ⟨Int.emod_nonneg _ (by have := pow2_pos j; omega), Int.emod_lt_of_pos _ (pow2_pos _)⟩
theorem Setup.a12 (S : Setup k X B N H) : 0 ≤ X / 2 ^ N.toNat ∧ X / 2 ^ N.toNat < B :=
  ⟨Int.ediv_nonneg S.X0 (Int.le_of_lt (pow2_pos _)), Int.ediv_lt_of_lt_mul (pow2_pos _) S.lt⟩
theorem Setup.top (S : Setup k X B N H) : X / 2 ^ N.toNat * 2 ^ H.toNat + X / 2 ^ H.toNat % 2 ^ H.toNat = X / 2 ^ H.toNat := by
  rw [S.nat, Int.pow_add, ← Int.ediv_ediv_of_nonneg (Int.le_of_lt (pow2_pos _))]
  have := Int.emod_add_mul_ediv (X / 2 ^ H.toNat) (2 ^ H.toNat)
  rw [Int.mul_comm]; omega
theorem Setup.fin (S : Setup k X B N H) {q1 r1 q2 r2 : Int} (e1 : q1 = X / 2 ^ H.toNat / B) (e2 : r1 = X / 2 ^ H.toNat % B) (e3 : q2 = (r1 * 2 ^ H.toNat + X % 2 ^ H.toNat) / B) (e4 : r2 = (r1 * 2 ^ H.toNat + X % 2 ^ H.toNat) % B) :
    q1 * 2 ^ H.toNat + q2 = X / B ∧ r2 = X % B := by
  have h1 := Int.emod_add_mul_ediv X (2 ^ H.toNat)
  have h2 := Int.emod_add_mul_ediv (X / 2 ^ H.toNat) B
  rw [← e1, ← e2] at h2
  have h3 := Int.emod_add_mul_ediv (r1 * 2 ^ H.toNat + X % 2 ^ H.toNat) B
  rw [← e3, ← e4] at h3
  have hr0 : 0 ≤ r2 := by rw [e4]; exact Int.emod_nonneg _ (by have := S.B0; omega)
  have hr1 : r2 < B := by rw [e4]; exact Int.emod_lt_of_pos _ S.B0
  have key : r2 + B * (q1 * 2 ^ H.toNat + q2) = X := by
    rw [Int.mul_add, ← Int.mul_assoc]
    have h4 : B * q1 = X / 2 ^ H.toNat - r1 := by omega
    rw [h4, Int.sub_mul, Int.mul_comm (X / 2 ^ H.toNat)]
    omega
  have := (Int.ediv_emod_unique (a := X) (r := r2) (q := q1 * 2 ^ H.toNat + q2) S.B0).mpr ⟨key, hr0, hr1⟩
  exact ⟨this.1.symm, this.2.symm⟩
theorem Setup.qlt (S : Setup k X B N H) {r Y : Int} (hr : r < B) (h0 : Y < 2 ^ H.toNat) : (r * 2 ^ H.toNat + Y) / B < 2 ^ H.toNat := by
  refine Int.ediv_lt_of_lt_mul S.B0 ?_
  have h1 : (r + 1) * 2 ^ H.toNat ≤ B * 2 ^ H.toNat := Int.mul_le_mul_of_nonneg_right (by omega) (Int.le_of_lt (pow2_pos _))
  rw [Int.add_mul, Int.one_mul] at h1
  rw [Int.mul_comm (2 ^ H.toNat) B]
  omega
end
theorem setup_even {k : Nat} {x b n : Int} (hb : 0 < b) (hx : 0 ≤ x) (hn : n = (intBits b : Int)) (hlt : x < b * 2 ^ n.toNat) (hk4 : n ≤ 4000 * 2 ^ (k + 1)) (hn1 : n ≤ 16000) (he : ¬ n % 2 ≠ 0) :
    Setup k x b n (n / 2 ^ (1 : Int).toNat) := by
  have e : (2 : Int) ^ (1 : Int).toNat = 2 := rfl
  rw [e]
  have := bits_pos hb
  rw [Int.pow_succ] at hk4
  exact ⟨hb, hx, hn, by omega, hlt, by omega, by omega, by omega⟩
theorem setup_odd {k : Nat} {x b n : Int} (hb : 0 < b) (hx : 0 ≤ x) (hn : n = (intBits b : Int)) (hlt : x < b * 2 ^ n.toNat) (hk4 : n ≤ 4000 * 2 ^ (k + 1)) (hn1 : n ≤ 16000) (he : n % 2 ≠ 0) :
    Setup k (x * 2 ^ (1 : Int).toNat) (b * 2 ^ (1 : Int).toNat) (n + 1) ((n + 1) / 2 ^ (1 : Int).toNat) := by
  have e : (2 : Int) ^ (1 : Int).toNat = 2 := rfl
  rw [e]
  have := bits_pos hb
  rw [Int.pow_succ] at hk4
  have h2 := bits_dbl hb
  refine ⟨by omega, by omega, by omega, by omega, ?_, by omega, by omega, by omega⟩
  have h3 : (n + 1).toNat = n.toNat + 1 := by omega
  have hp := pow2_pos n.toNat
  rw [h3, Int.pow_succ, ← Int.mul_assoc, Int.mul_right_comm b 2]
  have h4 : 0 < b * 2 ^ n.toNat := Int.mul_pos hb hp
  omega
theorem fin_odd {x b q r : Int} (hb : 0 < b) (e1 : q = x * 2 ^ (1 : Int).toNat / (b * 2 ^ (1 : Int).toNat)) (e2 : r = x * 2 ^ (1 : Int).toNat % (b * 2 ^ (1 : Int).toNat)) : q = x / b ∧ r / 2 ^ (1 : Int).toNat = x % b := by
  have e : (2 : Int) ^ (1 : Int).toNat = 2 := rfl
  rw [e] at e1 e2
  rw [e]
  rw [Int.mul_ediv_mul_of_pos_left _ _ (by decide)] at e1
  rw [Int.mul_comm x 2, Int.mul_comm b 2, Int.mul_emod_mul_of_pos _ _ (by decide)] at e2
  exact ⟨e1, by omega⟩
end Mine
namespace Mine
open Builtin.Int (intBits)
theorem bits_quot {x b : Int} {m : Nat} (hx : 0 ≤ x) (hb : 0 ≤ b) (h : intBits x ≤ m) : intBits (x / b) ≤ m := by
  have h1 : x / b ≤ x := Int.ediv_le_self b hx
  have h2 : 0 ≤ x / b := Int.ediv_nonneg hx hb
  exact bits_of_natAbs_le (by omega) h
theorem bits_rem {x b : Int} {m : Nat} (hx : 0 ≤ x) (hb : 0 < b) (h : intBits x ≤ m) : intBits (x % b) ≤ m := by
  have h1 : x % b ≤ x := emod_le_self hx (Int.le_of_lt hb)
  have h2 : 0 ≤ x % b := Int.emod_nonneg _ (by omega)
  exact bits_of_natAbs_le (by omega) h
end Mine
end
section
set_option maxRecDepth 100000
namespace Mine
open Builtin.Int (intBits)
section
variable {w : World} {loose : List Str} {mean : ExcName → Option Value} {mg mb : Str → Option Value} {dp un : Nat} {gd : Option (List Code)} {cn : Str} {cs : Scope} {a : Addr} {ccd : Value} {cl : List (Str × Addr)} {outer : List Env} {A₀ : Around} {base h₀ : Heap} {L : Addr} {m : Str → Option Value} {news : List (Addr × Obj)} {s : Shared} {Q E : Value → Shared → Prop}
theorem c_div3A {Z B' N' H : Int} {t1 t2 t3 t4 t5 t6 : Tok} {k : Nat} (HD : Div2OK w k) (S : Setup k Z B' N' H) (B : Below A₀ base outer h₀) (F : Fr h₀ L s.heap m) (X : (hd.heap_39 w.params).In h₀) (N : News h₀ L s.heap news) (T : Top topProg loose mean mg mb h₀) (hk : cs.kind = .function)
    (hdp : dp + (2 * k + 2) < recursionLimit) (hu : un + 8 * (2 * k + 2) < cLine)
    (hret : ∀ D (q r : Int) t1 t2 h' tk', q = Z / 2 ^ H.toNat / B' → r = Z / 2 ^ H.toNat % B' → 0 ≤ q → r < B' → 0 ≤ r → Builtin.Int.intBits q ≤ 100000 → Builtin.Int.intBits r ≤ 100000 → Fr h₀ L h' m → News h₀ L h' ((D, { cls := .type "tuple", data := .seq #[.int q t1, .int r t2] }) :: news) → AllLt D news → Q (.ref D) { s with heap := h', toks := tk' }) :
    wpAny (model PySem.Challenge.rw_wo0032_01.row.prog w) (ktrTop dp un gd cn cs L a ccd cl outer) (call (.ref 42) [.int (Z / 2 ^ N'.toNat) t1, .int (Z / 2 ^ H.toNat % 2 ^ H.toNat) t2, .int B' t3, .int (B' / 2 ^ H.toNat) t4, .int (B' % 2 ^ H.toNat) t5, .int H t6]) Q E s := by
  refine c_div3 HD B F X N T hk hdp hu S.a12.1 S.a12.2 (mod_b _ _).1 (mod_b _ _).2 S.b2.1 S.b2.2 S.bb S.b1pos S.b1 S.Hk S.H16 ?_
  intro D q r t1 t2 h' tk' e1 e2 p1 p2 b1 b2 F' N' l1
  rw [S.top] at e1 e2
  exact hret D q r t1 t2 h' tk' e1 e2 p1 (by rw [e2]; exact Int.emod_lt_of_pos _ S.B0) p2 b1 b2 F' N' l1
theorem c_div3B {Z B' N' H R : Int} {t1 t2 t3 t4 t5 t6 : Tok} {k : Nat} (HD : Div2OK w k) (S : Setup k Z B' N' H) (hR0 : 0 ≤ R) (hR1 : R < B') (B : Below A₀ base outer h₀) (F : Fr h₀ L s.heap m) (X : (hd.heap_39 w.params).In h₀) (N : News h₀ L s.heap news) (T : Top topProg loose mean mg mb h₀) (hk : cs.kind = .function)
    (hdp : dp + (2 * k + 2) < recursionLimit) (hu : un + 8 * (2 * k + 2) < cLine)
    (hret : ∀ D (q r : Int) t1 t2 h' tk', q = (R * 2 ^ H.toNat + Z % 2 ^ H.toNat) / B' → r = (R * 2 ^ H.toNat + Z % 2 ^ H.toNat) % B' → 0 ≤ q → q < 2 ^ H.toNat → 0 ≤ r → Builtin.Int.intBits q ≤ 100000 → Builtin.Int.intBits r ≤ 100000 → Fr h₀ L h' m → News h₀ L h' ((D, { cls := .type "tuple", data := .seq #[.int q t1, .int r t2] }) :: news) → AllLt D news → Q (.ref D) { s with heap := h', toks := tk' }) :
    wpAny (model PySem.Challenge.rw_wo0032_01.row.prog w) (ktrTop dp un gd cn cs L a ccd cl outer) (call (.ref 42) [.int R t1, .int (Z % 2 ^ H.toNat) t2, .int B' t3, .int (B' / 2 ^ H.toNat) t4, .int (B' % 2 ^ H.toNat) t5, .int H t6]) Q E s := by
  refine c_div3 HD B F X N T hk hdp hu hR0 hR1 (mod_b _ _).1 (mod_b _ _).2 S.b2.1 S.b2.2 S.bb S.b1pos S.b1 S.Hk S.H16 ?_
  intro D q r t1 t2 h' tk' e1 e2 p1 p2 b1 b2 F' N' l1
  exact hret D q r t1 t2 h' tk' e1 e2 p1 (by rw [e1]; exact S.qlt hR1 (mod_b _ _).2) p2 b1 b2 F' N' l1
end


def EvenCase (P : Prop) : Prop := P
set_option maxHeartbeats 4000000 in
theorem c_div2_zero {w : World} : Div2OK w 0 := by
  w_top off
  k_with_none
  k_with "LT1!" => (first | with_reducible assumption | with_reducible exact Nat.lt_succ_self _ | with_reducible exact And.left (by assumption) | with_reducible exact And.left (And.right (by assumption)) | with_reducible exact And.left (And.right (And.right (by assumption))) | with_reducible exact And.left (And.right (And.right (And.right (by assumption)))) | with_reducible exact And.left (And.right (And.right (And.right (And.right (by assumption))))) | with_reducible exact And.left (And.right (And.right (And.right (And.right (And.right (by assumption)))))) | with_reducible exact And.right (by assumption) | with_reducible exact And.right (And.right (by assumption)) | with_reducible exact And.right (And.right (And.right (by assumption))) | with_reducible exact And.right (And.right (And.right (And.right (by assumption)))))
  k_with "LT!" => (first | k_extra "LT1!" | ((with_reducible refine (Nat.lt_succ_of_lt ?_ : @LT.lt Nat _ _ (_ + 1))); first | k_extra "LT1!" | ((with_reducible refine (Nat.lt_succ_of_lt ?_ : @LT.lt Nat _ _ (_ + 1))); first | k_extra "LT1!" | ((with_reducible refine (Nat.lt_succ_of_lt ?_ : @LT.lt Nat _ _ (_ + 1))); k_extra "LT1!"))))
  k_with "NE!" => (first | with_reducible assumption | with_reducible exact Ne.symm (by assumption) | decide | ((fail_if_success (fail_if_success omega)); first | ((with_reducible refine Nat.ne_of_gt ?_); (fail_if_success (fail_if_success omega)); k_extra "LT!") | ((with_reducible refine Nat.ne_of_lt ?_); (fail_if_success (fail_if_success omega)); k_extra "LT!") | with_reducible exact And.left (by assumption) | with_reducible exact And.left (And.right (by assumption)) | with_reducible exact And.left (And.right (And.right (by assumption))) | omega))
  k_with "KNE!" => ((refine neN ?_; (try dsimp only); k_extra "NE!"))
  k_with "LBND!" => (first | assumption | decide | with_reducible exact Int.lt_of_lt_of_le (by assumption) (by decide) | with_reducible exact Int.lt_of_le_of_lt (by assumption) (by decide) | with_reducible exact Int.le_trans (by assumption) (by decide) | with_reducible exact Int.lt_of_lt_of_le (by decide) (by assumption) | with_reducible exact Int.le_trans (by decide) (by assumption) | with_reducible exact Int.natCast_nonneg _ | with_reducible exact Int.ne_of_gt (by assumption) | with_reducible exact Int.le_of_lt (by assumption) | with_reducible exact Nat.lt_of_lt_of_le (by assumption) (by decide) | with_reducible exact Nat.lt_of_le_of_lt (by assumption) (by decide) | with_reducible exact Nat.le_trans (by assumption) (by decide) | k_dflt omega | l_fact)
  k_with "ROOM!" => (((try simp only [depth_under_make, depth_under_kw, depth_in1, depth_deeper, depth_caller]); (try dsimp only [ktrTop]); first | with_reducible assumption | exact room_0 (by with_reducible assumption) | exact room_le (by with_reducible assumption) (by decide) | exact room_12 (by with_reducible assumption) (by decide)))
  k_with "UNITS!" => (((try simp only [units_in1, units_deeper, Around.mark_units, units_caller]); (try dsimp only [ktrTop]); first | with_reducible assumption | exact room_0 (by with_reducible assumption) | exact room_le (by with_reducible assumption) (by decide) | exact room_12 (by with_reducible assumption) (by decide) | exact room_123 (by with_reducible assumption) (by decide)))
  k_with "BITS!" => (first | (with_reducible assumption) | ((with_reducible apply bits_ediv2); bits_by_make) | ((with_reducible refine bits_emod2 ?_ ?_); (focus l_bnd); bits_by_make))
  k_with "binaryOp LShift int int" => ((k_here; (with_reducible refine' r_shl (by l_bnd) (by bits_by_make) (by l_bnd) (by decide) ?_)))
  k_with "inplaceOp LShift int int" => ((k_here; (with_reducible refine' ishl (by l_bnd) (by bits_by_make) (by l_bnd) (by decide) ?_)))
  k_with "binaryOp RShift int int" => ((k_here; (with_reducible refine r_shr (by l_bnd) ?_)))
  k_with "inplaceOp RShift int int" => ((k_here; (with_reducible refine ishr (by l_bnd) ?_)))
  k_with "binaryOp BitOr int int" => ((k_here; (with_reducible refine r_or (by l_bnd) (by l_bnd) (by l_bnd) ?_)))
  k_with "binaryOp BitAnd int int" => ((k_here; first | (with_reducible refine r_and1 ?_) | ((with_reducible refine r_mask (by l_bnd) ?_))))
  k_with "call builtin:divmod" => ((k_here; (with_reducible show wpAny _ _ (call (Value.builtin _) [Value.int _ _, Value.int _ _]) _ _ _); (refine' r_divmod (by assumption) (by assumption) (by l_bnd) (by first | assumption | exact noPy (by omega)) ?_); intro D' t1' t2' h' tk' F' N' l1; (try k_lt l1)))
  k_with "ALL!" => (exact allNe (by assumption))
  k_with "call ref" => ((k_here; (with_reducible show wpAny _ _ (call (Value.ref 42) _) _ _ _); k_extra "call div3"))
  unfold Div2OK
  k_fill
  intro loose mean mg mb dp un gd cn cs a ccd cl outer A₀ base h₀ L m news s Q E x b n t t1 t2 B F X N T hk hd hu hb hx hn hlt hk4 hn1 hret
  have hx2 : intBits x ≤ n.toNat + n.toNat := by
    refine bits_le_of_lt hx ?_
    have h1 := lt_of_bits (Nat.le_refl (intBits b))
    have e : n.toNat = intBits b := by omega
    have h5 : b * 2 ^ n.toNat ≤ 2 ^ n.toNat * 2 ^ n.toNat := Int.mul_le_mul_of_nonneg_right (by rw [e]; omega) (Int.le_of_lt (pow2_pos _))
    rw [Int.pow_add]; omega
  have hk5 : n ≤ 4000 := by simpa using hk4
  have hp : Builtin.divisionGoesByPylong x b = false := noPy (by omega)
  have h1 : (intBits x : Int) - n ≤ 4000 := by omega
  refine wpAny_call ?_
  k_dflt ktr_enter
  k_steps
  have q0 : 0 ≤ x / b := Int.ediv_nonneg hx (Int.le_of_lt hb)
  have r0 : 0 ≤ x % b := Int.emod_nonneg _ (by omega)
  have s0 : intBits x ≤ 100000 := by omega
  exact hret _ _ _ _ _ _ _ rfl rfl q0 r0 (bits_quot hx (Int.le_of_lt hb) s0) (bits_rem hx hb s0) (by assumption) (by first | assumption | exact nd1 (by assumption)) (by first | assumption | exact allLt_of (by assumption) | exact And.right (by assumption))
set_option maxHeartbeats 8000000 in
theorem c_div2_succ {w : World} {k : Nat} (HD : Div2OK w k) : Div2OK w (k + 1) := by
  w_top off
  k_with_none
  k_with "LT1!" => (first | with_reducible assumption | with_reducible exact Nat.lt_succ_self _ | with_reducible exact And.left (by assumption) | with_reducible exact And.left (And.right (by assumption)) | with_reducible exact And.left (And.right (And.right (by assumption))) | with_reducible exact And.left (And.right (And.right (And.right (by assumption)))) | with_reducible exact And.left (And.right (And.right (And.right (And.right (by assumption))))) | with_reducible exact And.left (And.right (And.right (And.right (And.right (And.right (by assumption)))))) | with_reducible exact And.right (by assumption) | with_reducible exact And.right (And.right (by assumption)) | with_reducible exact And.right (And.right (And.right (by assumption))) | with_reducible exact And.right (And.right (And.right (And.right (by assumption)))))
  k_with "LT!" => (first | k_extra "LT1!" | ((with_reducible refine (Nat.lt_succ_of_lt ?_ : @LT.lt Nat _ _ (_ + 1))); first | k_extra "LT1!" | ((with_reducible refine (Nat.lt_succ_of_lt ?_ : @LT.lt Nat _ _ (_ + 1))); first | k_extra "LT1!" | ((with_reducible refine (Nat.lt_succ_of_lt ?_ : @LT.lt Nat _ _ (_ + 1))); k_extra "LT1!"))))
  k_with "NE!" => (first | with_reducible assumption | with_reducible exact Ne.symm (by assumption) | decide | ((fail_if_success (fail_if_success omega)); first | ((with_reducible refine Nat.ne_of_gt ?_); (fail_if_success (fail_if_success omega)); k_extra "LT!") | ((with_reducible refine Nat.ne_of_lt ?_); (fail_if_success (fail_if_success omega)); k_extra "LT!") | with_reducible exact And.left (by assumption) | with_reducible exact And.left (And.right (by assumption)) | with_reducible exact And.left (And.right (And.right (by assumption))) | omega))
  k_with "KNE!" => ((refine neN ?_; (try dsimp only); k_extra "NE!"))
  k_with "LBND!" => (first | assumption | decide | with_reducible exact Int.lt_of_lt_of_le (by assumption) (by decide) | with_reducible exact Int.lt_of_le_of_lt (by assumption) (by decide) | with_reducible exact Int.le_trans (by assumption) (by decide) | with_reducible exact Int.lt_of_lt_of_le (by decide) (by assumption) | with_reducible exact Int.le_trans (by decide) (by assumption) | with_reducible exact Int.natCast_nonneg _ | with_reducible exact Int.ne_of_gt (by assumption) | with_reducible exact Int.le_of_lt (by assumption) | with_reducible exact Nat.lt_of_lt_of_le (by assumption) (by decide) | with_reducible exact Nat.lt_of_le_of_lt (by assumption) (by decide) | with_reducible exact Nat.le_trans (by assumption) (by decide) | k_dflt omega | l_fact)
  k_with "ROOM!" => (((try simp only [depth_under_make, depth_under_kw, depth_in1, depth_deeper, depth_caller]); (try dsimp only [ktrTop]); first | with_reducible assumption | exact room_0 (by with_reducible assumption) | exact room_le (by with_reducible assumption) (by decide) | exact room_12 (by with_reducible assumption) (by decide)))
  k_with "UNITS!" => (((try simp only [units_in1, units_deeper, Around.mark_units, units_caller]); (try dsimp only [ktrTop]); first | with_reducible assumption | exact room_0 (by with_reducible assumption) | exact room_le (by with_reducible assumption) (by decide) | exact room_12 (by with_reducible assumption) (by decide) | exact room_123 (by with_reducible assumption) (by decide)))
  k_with "BITS!" => (first | (with_reducible assumption) | ((with_reducible apply bits_ediv2); bits_by_make) | ((with_reducible refine bits_emod2 ?_ ?_); (focus l_bnd); bits_by_make))
  k_with "binaryOp LShift int int" => ((k_here; (with_reducible refine' r_shl (by l_bnd) (by bits_by_make) (by l_bnd) (by decide) ?_)))
  k_with "inplaceOp LShift int int" => ((k_here; (with_reducible refine' ishl (by l_bnd) (by bits_by_make) (by l_bnd) (by decide) ?_)))
  k_with "binaryOp RShift int int" => ((k_here; (with_reducible refine r_shr (by l_bnd) ?_)))
  k_with "inplaceOp RShift int int" => ((k_here; (with_reducible refine ishr (by l_bnd) ?_)))
  k_with "binaryOp BitOr int int" => ((k_here; (with_reducible refine r_or (by l_bnd) (by l_bnd) (by l_bnd) ?_)))
  k_with "binaryOp BitAnd int int" => ((k_here; first | (with_reducible refine r_and1 ?_) | ((with_reducible refine r_mask (by l_bnd) ?_))))
  k_with "call builtin:divmod" => ((k_here; (with_reducible show wpAny _ _ (call (Value.builtin _) [Value.int _ _, Value.int _ _]) _ _ _); (refine' r_divmod (by assumption) (by assumption) (by l_bnd) (by first | assumption | exact noPy (by omega)) ?_); intro D' t1' t2' h' tk' F' N' l1; (try k_lt l1)))
  k_with "ALL!" => (exact allNe (by assumption))
  k_with "call ref" => ((k_here; (with_reducible show wpAny _ _ (call (Value.ref 42) _) _ _ _); k_extra "call div3"))
  unfold Div2OK
  k_fill
  intro loose mean mg mb dp un gd cn cs a ccd cl outer A₀ base h₀ L m news s Q E x b n t t1 t2 B F X N T hk hd hu hb hx hn hlt hk4 hn1 hret
  have s0 : intBits x ≤ 64000 := by
    have h1 := lt_of_bits (Nat.le_refl (intBits b))
    have e : n.toNat = intBits b := by omega
    have h5 : b * 2 ^ n.toNat ≤ 2 ^ n.toNat * 2 ^ n.toNat := Int.mul_le_mul_of_nonneg_right (by rw [e]; omega) (Int.le_of_lt (pow2_pos _))
    exact Nat.le_trans (bits_le_of_lt (k := n.toNat + n.toNat) hx (by rw [Int.pow_add]; omega)) (by omega)
  have sb : intBits b ≤ 64000 := by omega
  have n0 : 0 ≤ n := by omega
  have S1 : n % 2 = 0 → Setup k x b n (n / 2 ^ (1 : Int).toNat) := fun h => setup_even hb hx hn hlt hk4 hn1 (by omega)
  have S2 : n % 2 ≠ 0 → Setup k (x * 2 ^ (1 : Int).toNat) (b * 2 ^ (1 : Int).toNat) (n + 1) ((n + 1) / 2 ^ (1 : Int).toNat) := setup_odd hb hx hn hlt hk4 hn1
  have e2 : (2 : Int) ^ (1 : Int).toNat = 2 := rfl
  have g1 : 0 ≤ n / 2 ^ (1 : Int).toNat := by rw [e2]; omega
  have g2 : n / 2 ^ (1 : Int).toNat ≤ 1000000 := by rw [e2]; omega
  have g3 : 0 ≤ (n + 1) / 2 ^ (1 : Int).toNat := by rw [e2]; omega
  have g4 : (n + 1) / 2 ^ (1 : Int).toNat ≤ 1000000 := by rw [e2]; omega
  have g5 : 0 ≤ b * 2 ^ (1 : Int).toNat := by rw [e2]; omega
  have g6 : 0 ≤ b := by omega
  have g7 : 0 ≤ x / 2 ^ (n / 2 ^ (1 : Int).toNat).toNat := Int.ediv_nonneg hx (Int.le_of_lt (pow2_pos _))
  have g8 : 0 ≤ x * 2 ^ (1 : Int).toNat / 2 ^ ((n + 1) / 2 ^ (1 : Int).toNat).toNat := Int.ediv_nonneg (by rw [e2]; omega) (Int.le_of_lt (pow2_pos _))
  have g9 : 0 ≤ x * 2 ^ (1 : Int).toNat := by rw [e2]; omega
  have g10 : 0 ≤ n + 1 := by omega
  refine wpAny_call ?_
  k_dflt ktr_enter
  k_with "call div3" => ((first
    | (refine c_div3A HD (S1 (by assumption)) (by k_asm) (by k_asm) (by k_asm) (by k_asm) (by k_asm) (by first | exact rfl | assumption) (by ktr_room) (by ktr_units) ?_; intro D' q' r' t1' t2' h' tk' e1' e2' p1' pR' p2' b1' b2' F' N' l1)
    | (refine c_div3A HD (S2 (by assumption)) (by k_asm) (by k_asm) (by k_asm) (by k_asm) (by k_asm) (by first | exact rfl | assumption) (by ktr_room) (by ktr_units) ?_; intro D' q' r' t1' t2' h' tk' e1' e2' p1' pR' p2' b1' b2' F' N' l1)
    | (refine c_div3B HD (S1 (by assumption)) (by assumption) (by assumption) (by k_asm) (by k_asm) (by k_asm) (by k_asm) (by k_asm) (by first | exact rfl | assumption) (by ktr_room) (by ktr_units) ?_; intro D' q' r' t1' t2' h' tk' e1' e2' p1' pR' p2' b1' b2' F' N' l1)
    | (refine c_div3B HD (S2 (by assumption)) (by assumption) (by assumption) (by k_asm) (by k_asm) (by k_asm) (by k_asm) (by k_asm) (by first | exact rfl | assumption) (by ktr_room) (by ktr_units) ?_; intro D' q' r' t1' t2' h' tk' e1' e2' p1' pR' p2' b1' b2' F' N' l1)); (try dsimp only); (try k_fold))
  k_steps
  all_goals first
    | ((with_reducible rename (n % 2 = 0) => za); (with_reducible rename (n % 2 ≠ 0) => zb); exact absurd za zb)
    | (have q0 : 0 ≤ x / b := Int.ediv_nonneg hx (Int.le_of_lt hb)
       have r0 : 0 ≤ x % b := Int.emod_nonneg _ (by omega)
       have s1 : intBits x ≤ 100000 := by omega
       exact hret _ _ _ _ _ _ _ rfl rfl q0 r0 (bits_quot hx (Int.le_of_lt hb) s1) (bits_rem hx hb s1) (by assumption) (by first | assumption | exact nd1 (by assumption)) (by first | assumption | exact allLt_of (by assumption) | exact And.right (by assumption)))
    | (have q0 : 0 ≤ x / b := Int.ediv_nonneg hx (Int.le_of_lt hb)
       have r0 : 0 ≤ x % b := Int.emod_nonneg _ (by omega)
       have s1 : intBits x ≤ 100000 := by omega
       have ff := Setup.fin (S1 (by assumption)) (by assumption) (by assumption) (by assumption) (by assumption)
       refine hret _ _ _ _ _ _ _ ff.1 ff.2 (by rw [ff.1]; exact q0) (by rw [ff.2]; exact r0) (by rw [ff.1]; exact bits_quot hx (Int.le_of_lt hb) s1) (by rw [ff.2]; exact bits_rem hx hb s1) (by assumption) (nd3 (by assumption)) (And.right (And.right (And.right (by assumption)))))
    | (have q0 : 0 ≤ x / b := Int.ediv_nonneg hx (Int.le_of_lt hb)
       have r0 : 0 ≤ x % b := Int.emod_nonneg _ (by omega)
       have s1 : intBits x ≤ 100000 := by omega
       have ff := Setup.fin (S2 (by assumption)) (by assumption) (by assumption) (by assumption) (by assumption)
       have ff := fin_odd hb ff.1 ff.2
       refine hret _ _ _ _ _ _ _ ff.1 ff.2 (by rw [ff.1]; exact q0) (by rw [ff.2]; exact r0) (by rw [ff.1]; exact bits_quot hx (Int.le_of_lt hb) s1) (by rw [ff.2]; exact bits_rem hx hb s1) (by assumption) (nd3 (by assumption)) (And.right (And.right (And.right (by assumption)))))
end Mine
end
section
namespace Mine
open Builtin.Int (intBits)
def digs (n : Nat) (x : Int) (d : Nat) : List Int := (List.range d).map fun i => x / 2 ^ (n * i) % 2 ^ n
def putDigs (ns : List Int) (l d n : Nat) (x : Int) : List Int := ns.take l ++ digs n x d ++ ns.drop (l + d)
theorem digs_len (n : Nat) (x : Int) (d : Nat) : (digs n x d).length = d := by simp [digs]
theorem putDigs_len {ns : List Int} {l d n : Nat} {x : Int} (h : l + d ≤ ns.length) : (putDigs ns l d n x).length = ns.length := by
  simp only [putDigs, List.length_append, List.length_take, List.length_drop, digs_len]; omega
theorem digs_one {n : Nat} {x : Int} (h0 : 0 ≤ x) (h1 : x < 2 ^ n) : digs n x 1 = [x] := by
  simp [digs, List.range_succ]
  exact Int.emod_eq_of_lt h0 h1
theorem putDigs_one {ns : List Int} {l n : Nat} {x : Int} (hl : l < ns.length) (h0 : 0 ≤ x) (h1 : x < 2 ^ n) : ns.set l x = putDigs ns l 1 n x := by
  rw [putDigs, digs_one h0 h1, List.set_eq_take_append_cons_drop, if_pos hl]
  simp
theorem mod_div_pow (x : Int) (a b : Nat) : x % 2 ^ (a + b) / 2 ^ a = x / 2 ^ a % 2 ^ b := by
  have hp := pow2_pos a
  have hq := pow2_pos b
  rw [Int.pow_add]
  have h := Int.emod_add_mul_ediv x (2 ^ a * 2 ^ b)
  have h3 := Int.emod_add_mul_ediv (x / 2 ^ a) (2 ^ b)
  rw [Int.ediv_ediv_of_nonneg (Int.le_of_lt hp)] at h3
  have h4 : x = x % (2 ^ a * 2 ^ b) + 2 ^ a * (2 ^ b * (x / (2 ^ a * 2 ^ b))) := by rw [← Int.mul_assoc]; omega
  have h5 : x / 2 ^ a = x % (2 ^ a * 2 ^ b) / 2 ^ a + 2 ^ b * (x / (2 ^ a * 2 ^ b)) := by
    conv => lhs; rw [h4]
    rw [Int.add_mul_ediv_left _ _ (by omega)]
  omega
theorem mod_mod_pow (x : Int) (a b : Nat) : x % 2 ^ (a + b) % 2 ^ a = x % 2 ^ a := by
  rw [Int.pow_add]
  exact Int.emod_emod_of_dvd _ ⟨_, rfl⟩
theorem digs_split (n : Nat) (x : Int) (d1 d2 : Nat) : digs n x (d1 + d2) = digs n (x % 2 ^ (n * d1)) d1 ++ digs n (x / 2 ^ (n * d1)) d2 := by
  unfold digs
  rw [List.range_add, List.map_append, List.map_map]
  congr 1
  · refine List.map_congr_left fun i hi => ?_
    have hi' : i < d1 := List.mem_range.mp hi
    have e : n * d1 = n * i + n * (d1 - i) := by rw [← Nat.mul_add]; congr 1; omega
    have e2 : n * (d1 - i) = n + n * (d1 - i - 1) := by
      obtain ⟨k, hk⟩ : ∃ k, d1 - i = k + 1 := ⟨d1 - i - 1, by omega⟩
      rw [hk, Nat.mul_succ, Nat.add_sub_cancel]; omega
    rw [e, mod_div_pow, e2, mod_mod_pow]
  · refine List.map_congr_left fun i hi => ?_
    show x / 2 ^ (n * (d1 + i)) % 2 ^ n = x / 2 ^ (n * d1) / 2 ^ (n * i) % 2 ^ n
    rw [Int.ediv_ediv_of_nonneg (Int.le_of_lt (pow2_pos _)), ← Int.pow_add, Nat.mul_add]
theorem putDigs_two {ns : List Int} {l d1 d2 n : Nat} {x : Int} (h : l + d1 + d2 ≤ ns.length) :
    putDigs (putDigs ns l d1 n (x % 2 ^ (n * d1))) (l + d1) d2 n (x / 2 ^ (n * d1)) = putDigs ns l (d1 + d2) n x := by
  have e1 : (ns.take l ++ digs n (x % 2 ^ (n * d1)) d1).length = l + d1 := by
    simp only [List.length_append, List.length_take, digs_len]; omega
  unfold putDigs
  rw [List.take_append_of_le_length (Nat.le_of_eq e1.symm), List.take_of_length_le (Nat.le_of_eq e1), digs_split]
  rw [show l + d1 + d2 = (ns.take l ++ digs n (x % 2 ^ (n * d1)) d1).length + d2 by rw [e1], List.drop_append, List.drop_drop, e1]
  rw [List.drop_eq_nil_of_le (as := ns.take l ++ digs n (x % 2 ^ (n * d1)) d1) (by rw [e1]; omega), List.nil_append, show l + d1 + (l + d1 + d2 - (l + d1)) = l + (d1 + d2) by omega]
  simp only [List.append_assoc]
theorem bitXor_low {x : Int} {k : Nat} (hx : 0 ≤ x) : Builtin.bitXor x (x / 2 ^ k * 2 ^ k) = x % 2 ^ k := by
  have hp := pow2_pos k
  have hq : 0 ≤ x / 2 ^ k := Int.ediv_nonneg hx (Int.le_of_lt hp)
  have hy : 0 ≤ x / 2 ^ k * 2 ^ k := Int.mul_nonneg hq (Int.le_of_lt hp)
  rw [bitXor_and, bitAnd_pp hx hy]
  have e0 := Int.emod_add_mul_ediv x (2 ^ k)
  have e1 : (x / 2 ^ k * 2 ^ k).toNat = 2 ^ k * (x.toNat / 2 ^ k) := by
    have h1 : (x.toNat / 2 ^ k : Nat) = (x / 2 ^ k).toNat := by
      have : ((x.toNat / 2 ^ k : Nat) : Int) = x / 2 ^ k := by
        rw [Int.natCast_ediv, Int.toNat_of_nonneg hx]; simp
      omega
    rw [Int.toNat_mul hq (Int.le_of_lt hp), toNat_pow, h1, Nat.mul_comm]
  have e2 : x.toNat &&& 2 ^ k * (x.toNat / 2 ^ k) = 2 ^ k * (x.toNat / 2 ^ k) := by
    apply Nat.eq_of_testBit_eq
    intro i
    rw [Nat.testBit_and, Nat.testBit_two_pow_mul, Nat.testBit_div_two_pow]
    by_cases h : k ≤ i
    · simp [h]
    · simp [h]
  rw [e1, e2, ← e1, Int.toNat_of_nonneg hy, Int.mul_comm (x / 2 ^ k)]
  omega
section
variable {prog : Program} {w : World} {A : Around} {E : Value → Shared → Prop} {s : Shared} {a b n : Int} {t u : Tok} {Q : Value → Shared → Prop}
theorem r_xorlow {x : Int} {k : Nat} (hx : 0 ≤ x) (h : Q (.int (x % 2 ^ k) s.toks) { s with toks := s.toks + 1 }) : wpAny (model prog w) A (binaryOp .BitXor (.int x t) (.int (x / 2 ^ k * 2 ^ k) u)) Q E s :=
  xor_int (by rw [bitXor_low hx]; exact h)
theorem r_len {h₀ : Heap} {L D : Addr} {news : List (Addr × Obj)} {vs : List Value} {c k : Nat} (N : News h₀ L s.heap news) (hm : (D, listOf vs.toArray c) ∈ news) (hl : vs.length = k) (hk : k ≤ 1000000000)
    (h : ∀ t tk, Q (.int (k : Int) t) { s with toks := tk }) : wpAny (model prog w) A (call (.builtin "len") [.ref D]) Q E s :=
  KM.len_K N hm (n := k) (by simpa using hl) (by omega) (h _ _)
end
def pick {α : Type} : List Bool → List α → List α
  | true :: m, a :: l => a :: pick m l
  | false :: m, _ :: l => pick m l
  | [], l => l
  | _ :: _, [] => []
theorem pick_sub {α : Type} : ∀ (m : List Bool) (l : List α), ∀ p ∈ pick m l, p ∈ l
  | true :: m, a :: l, p, hp => by
    rcases List.mem_cons.mp hp with rfl | hp
    · exact .head _
    · exact .tail _ (pick_sub m l p hp)
  | false :: m, _ :: l, p, hp => .tail _ (pick_sub m l p hp)
  | [], _, _, hp => hp
  | true :: _, [], _, hp => nomatch hp
  | false :: _, [], _, hp => nomatch hp
theorem pick_news {h₀ h : Heap} {L D : Addr} {o : Obj} {l : List (Addr × Obj)} (m : List Bool) (N : News h₀ L h l) (hm : (D, o) ∈ l) : News h₀ L h ((D, o) :: pick m l) := fun p hp => by
  rcases List.mem_cons.mp hp with rfl | hp
  · exact N _ hm
  · exact N p (pick_sub m l p hp)
end Mine
namespace Mine
theorem ints_rep0 (k : Nat) (t : Tok) : IntsAre (List.replicate k (Value.int 0 t)) (List.replicate k 0) := by
  induction k with
  | zero => exact .nil
  | succ k ih => rw [List.replicate_succ, List.replicate_succ]; exact .cons _ _ ih
end Mine
namespace Mine
section
variable {h₀ h : Heap} {L : Addr} {x1 x2 x3 x4 x5 x6 x7 x8 : Addr × Obj} {l : List (Addr × Obj)}
theorem nsA (N : News h₀ L h (x1 :: x2 :: x3 :: x4 :: x5 :: x6 :: x7 :: x8 :: l)) : News h₀ L h (x1 :: x8 :: x3 :: l) := cb_drop N fun p hp => by
  simp only [List.mem_cons] at hp ⊢; rcases hp with h | h | h | h <;> simp [h]
theorem nsB (N : News h₀ L h (x1 :: x2 :: x3 :: x4 :: x5 :: x6 :: x7 :: x8 :: l)) : News h₀ L h (x3 :: x8 :: x2 :: l) := cb_drop N fun p hp => by
  simp only [List.mem_cons] at hp ⊢; rcases hp with h | h | h | h <;> simp [h]
theorem nsC (N : News h₀ L h (x1 :: x2 :: x3 :: x4 :: x5 :: x6 :: x7 :: x8 :: l)) : News h₀ L h (x1 :: x7 :: x8 :: l) := cb_drop N fun p hp => by
  simp only [List.mem_cons] at hp ⊢; rcases hp with h | h | h | h <;> simp [h]
theorem nsD (N : News h₀ L h (x1 :: x2 :: x3 :: x4 :: x5 :: x6 :: x7 :: x8 :: l)) : News h₀ L h (x2 :: x7 :: x8 :: l) := cb_drop N fun p hp => by
  simp only [List.mem_cons] at hp ⊢; rcases hp with h | h | h | h <;> simp [h]
end
def Tab (P : Addr) (ln cl : Int) (q : Str) (lo : Nat) (ts : List (Addr × Obj)) : Prop :=
  ts = [(P, tabObj #[])] ∨ ∃ c oc vs t, ts = [(P, tabObj #[rawInt ln, rawInt cl, .ref c]), (c, oc)] ∧ oc.data = .fields vs ∧ vs[1]? = some (.str q t) ∧ @LT.lt Nat _ lo c
theorem Tab.fresh {P : Addr} {ln cl : Int} {q : Str} {lo : Nat} : Tab P ln cl q lo [(P, tabObj #[])] := .inl rfl
theorem Tab.made {P c : Addr} {ln cl : Int} {q : Str} {lo : Nat} {oc : Obj} {vs : Array Value} {t : Tok} (h1 : oc.data = .fields vs) (h2 : vs[1]? = some (.str q t)) (h3 : @LT.lt Nat _ lo c) : Tab P ln cl q lo [(P, tabObj #[rawInt ln, rawInt cl, .ref c]), (c, oc)] := .inr ⟨c, oc, vs, t, rfl, h1, h2, h3⟩
theorem Tab.ne {P R : Addr} {ln cl : Int} {q : Str} {lo : Nat} {ts : List (Addr × Obj)} (h : Tab P ln cl q lo ts) (h1 : P ≠ R) (h2 : @LE.le Nat _ R lo) : ∀ p ∈ ts, p.1 ≠ R := by
  rcases h with rfl | ⟨c, oc, vs, t, rfl, _, _, hc⟩
  · intro p hp; rw [List.mem_singleton.mp hp]; exact h1
  · intro p hp
    rcases List.mem_cons.mp hp with rfl | hp
    · exact h1
    · rw [List.mem_singleton.mp hp]; exact Nat.ne_of_gt (Nat.lt_of_le_of_lt h2 hc)
theorem Tab.mem {P : Addr} {ln cl : Int} {q : Str} {lo : Nat} {ts : List (Addr × Obj)} (h : Tab P ln cl q lo ts) : ∃ o, (P, o) ∈ ts := by
  rcases h with rfl | ⟨c, oc, vs, t, rfl, _⟩
  · exact ⟨_, .head _⟩
  · exact ⟨_, .head _⟩
theorem neApp {R : Addr} {a b : List (Addr × Obj)} (h1 : ∀ p ∈ a, p.1 ≠ R) (h2 : ∀ p ∈ b, p.1 ≠ R) : ∀ p ∈ a ++ b, p.1 ≠ R := fun p hp => (List.mem_append.mp hp).elim (h1 p) (h2 p)
end Mine
end
section
set_option maxRecDepth 100000
namespace Mine
open Builtin.Int (intBits)
def InnOK (w : World) (f c' D cN cA cI : Addr) (qual : Str) (params : Arguments) (body : List Stmt) (scope : Scope) (clos : List (Str × Addr)) (doc pm ctv : Value) (oc : Obj) (vs0 : Array Value) (tq : Tok) (oN : Obj) (tn : Tok) (oA oI : Obj) (n : Int) (len : Nat) (base : Heap) (d : Nat) : Prop := ∀ {loose : List Str} {mean : ExcName → Option Value} {mg mb : Str → Option Value} {dp un : Nat} {gd : Option (List Code)} {cn : Str} {cs : Scope} {a : Addr} {ccd : Value} {cl : List (Str × Addr)} {outer : List Env} {A₀ : Around} {h₀ : Heap} {L : Addr} {m : Str → Option Value} {rest : List (Addr × Obj)} {s : Shared} {Q E : Value → Shared → Prop} {x l r : Int} {t1 t2 t3 : Tok} {vs : List Value} {ns : List Int} {nn : Nat} (_B : Below A₀ base outer h₀) (_F : Fr h₀ L s.heap m) (_X : (hd.heap_39 w.params).In h₀) (_N : News h₀ L s.heap ((D, listOf vs.toArray nn) :: rest)) (_T : Top topProg loose mean mg mb h₀) (_hk : cs.kind = .function)
    (_C : CodeHd base 48 44) (_hD : ∀ p ∈ rest, p.1 ≠ D) (_mf : (f, fnMade (Str.ofString "inner") qual params body scope clos doc pm c' ctv) ∈ rest) (_mc : (c', oc) ∈ rest) (_ec : oc.data = .fields vs0) (_ev : vs0[1]? = some (.str qual tq))
    (_mN : (cN, oN) ∈ rest) (_eN : oN.data = .cell (some (.int n tn))) (_mA : (cA, oA) ∈ rest) (_eA : oA.data = .cell (some (.ref D))) (_mI : (cI, oI) ∈ rest) (_eI : oI.data = .cell (some (.ref f)))
    (_hd : r - l = (d : Int)) (_h1 : 1 ≤ d) (_hl : 0 ≤ l) (_hr : r ≤ (len : Int)) (_h0 : 0 ≤ x) (_hx : x < 2 ^ (n.toNat * d)) (_hi : IntsAre vs ns) (_hn : ns.length = len) (_hdp : dp + (d + 1) < recursionLimit) (_hu : un + 8 * (d + 1) < cLine)
    (_hret : ∀ vs' h' tk', IntsAre vs' (putDigs ns l.toNat d n.toNat x) → Fr h₀ L h' m → News h₀ L h' ((D, listOf vs'.toArray nn) :: rest) → Q .none { s with heap := h', toks := tk' }),
    wpAny (model PySem.Challenge.rw_wo0032_01.row.prog w) (ktrTop dp un gd cn cs L a ccd cl outer) (call (.ref f) [.int x t1, .int l t2, .int r t3]) Q E s
theorem inn_all {w : World} {f c' D cN cA cI : Addr} {qual : Str} {params : Arguments} {body : List Stmt} {scope : Scope} {clos : List (Str × Addr)} {doc pm ctv : Value} {oc : Obj} {vs0 : Array Value} {tq : Tok} {oN : Obj} {tn : Tok} {oA oI : Obj} {n : Int} {len : Nat} {base : Heap}
    (step : ∀ d, (∀ d', d' < d → InnOK w f c' D cN cA cI qual params body scope clos doc pm ctv oc vs0 tq oN tn oA oI n len base d') → InnOK w f c' D cN cA cI qual params body scope clos doc pm ctv oc vs0 tq oN tn oA oI n len base d) (d : Nat) : InnOK w f c' D cN cA cI qual params body scope clos doc pm ctv oc vs0 tq oN tn oA oI n len base d := by
  induction d using Nat.strongRecOn with
  | ind d ih => exact step d ih
theorem inn_use {w : World} {f c' D cN cA cI : Addr} {qual : Str} {params : Arguments} {body : List Stmt} {scope : Scope} {clos : List (Str × Addr)} {doc pm ctv : Value} {oc : Obj} {vs0 : Array Value} {tq : Tok} {oN : Obj} {tn : Tok} {oA oI : Obj} {n : Int} {len : Nat}
    {loose : List Str} {mean : ExcName → Option Value} {mg mb : Str → Option Value} {dp un : Nat} {gd : Option (List Code)} {cn : Str} {cs : Scope} {a : Addr} {ccd : Value} {cl : List (Str × Addr)} {outer : List Env} {A₀ : Around} {base h₀ : Heap} {L : Addr} {m : Str → Option Value} {news : List (Addr × Obj)} {s : Shared} {Q E : Value → Shared → Prop} {lst : List (Addr × Obj)} {x : Int} {t1 t2 t3 : Tok} {vs : List Value} {ns : List Int} {nn : Nat} (B : Below A₀ base outer h₀) (F : Fr h₀ L s.heap m) (X : (hd.heap_39 w.params).In h₀) (N : News h₀ L s.heap lst) (T : Top topProg loose mean mg mb h₀) (hk : cs.kind = .function)
    (C : CodeHd base 48 44) (mD : (D, listOf vs.toArray nn) ∈ lst) (msk : List Bool) (hpk : pick msk lst = news) (hDn : ∀ p ∈ news, p.1 ≠ D) (mf : (f, fnMade (Str.ofString "inner") qual params body scope clos doc pm c' ctv) ∈ news) (mc : (c', oc) ∈ news) (ec : oc.data = .fields vs0) (ev : vs0[1]? = some (.str qual tq))
    (cn1 : clos.lookup (Str.ofString "n") = some cN) (mN : (cN, oN) ∈ news) (eN : oN.data = .cell (some (.int n tn))) (cn2 : clos.lookup (Str.ofString "a_digits") = some cA) (mA : (cA, oA) ∈ news) (eA : oA.data = .cell (some (.ref D))) (cn3 : clos.lookup (Str.ofString "inner") = some cI) (mI : (cI, oI) ∈ news) (eI : oI.data = .cell (some (.ref f)))
    (step : ∀ d, (∀ d', d' < d → InnOK w f c' D cN cA cI qual params body scope clos doc pm ctv oc vs0 tq oN tn oA oI n len base d') → InnOK w f c' D cN cA cI qual params body scope clos doc pm ctv oc vs0 tq oN tn oA oI n len base d)
    (h1 : 1 ≤ len) (h0 : 0 ≤ x) (hx : x < 2 ^ (n.toNat * len)) (hi : IntsAre vs ns) (hn : ns.length = len) (hdp : dp + (len + 1) < recursionLimit) (hu : un + 8 * (len + 1) < cLine)
    (hret : ∀ vs' h' tk', IntsAre vs' (digs n.toNat x len) → Fr h₀ L h' m → News h₀ L h' ((D, listOf vs'.toArray nn) :: news) → Q .none { s with heap := h', toks := tk' }) :
    wpAny (model PySem.Challenge.rw_wo0032_01.row.prog w) (ktrTop dp un gd cn cs L a ccd cl outer) (call (.ref f) [.int x t1, .int 0 t2, .int (len : Int) t3]) Q E s := by
  refine inn_all step len B F X (by rw [← hpk]; exact pick_news msk N mD) T hk C hDn mf mc ec ev mN eN mA eA mI eI (by omega) h1 (by omega) (by omega) h0 hx hi hn hdp hu ?_
  intro vs' h' tk' hi' F' N'
  refine hret vs' h' tk' ?_ F' N'
  have e : putDigs ns (0 : Int).toNat len n.toNat x = digs n.toNat x len := by
    simp [putDigs, hn]
  rw [e] at hi'
  exact hi'


def iDef : Arguments × List Stmt × Scope := match (PySem.Challenge.rw_wo0032_01.row.prog.main.body.drop 7).head? with
  | some (.FunctionDef _ _ b _ _ _ _ _ _ _) => (match (b.drop 1).head? with
    | some (.FunctionDef _ p b2 _ _ _ sc _ _ _) => (p, b2, sc)
    | _ => ({ posonlyargs := [], args := [], vararg := none, kwonlyargs := [], kw_defaults := [], kwarg := none, defaults := [] }, [], { kind := .function, names := [], isGenerator := false, isCoroutine := false }))
  | _ => ({ posonlyargs := [], args := [], vararg := none, kwonlyargs := [], kw_defaults := [], kwarg := none, defaults := [] }, [], { kind := .function, names := [], isGenerator := false, isCoroutine := false })
theorem digs_pre {x n : Int} (hn : 0 < n) (hx : 0 ≤ x) (hn1 : n ≤ 16000) (hx2 : intBits x ≤ 20 * n) :
    (((intBits x : Nat) : Int) + n - 1).fdiv n = (((intBits x : Nat) : Int) + n - 1) / n ∧ 0 ≤ (((intBits x : Nat) : Int) + n - 1).fdiv n ∧ (((intBits x : Nat) : Int) + n - 1).fdiv n ≤ 20 ∧ (x = 0 → ((((intBits x : Nat) : Int) + n - 1).fdiv n).toNat = 0) ∧
    intBits x ≤ n.toNat * ((((intBits x : Nat) : Int) + n - 1).fdiv n).toNat ∧ (x ≠ 0 → 1 ≤ ((((intBits x : Nat) : Int) + n - 1).fdiv n).toNat) ∧ n ≠ 0 ∧ (((intBits x : Nat) : Int) + n - 1).fdiv n ≤ 1000000 ∧ ((((intBits x : Nat) : Int) + n - 1).fdiv n).toNat ≤ 1000000000 ∧ n.natAbs < 1073741824 := by
  have hm : (((intBits x : Nat) : Int) + n - 1).fdiv n = (((intBits x : Nat) : Int) + n - 1) / n := Int.fdiv_eq_ediv_of_nonneg _ (Int.le_of_lt hn)
  have hm0 : 0 ≤ (((intBits x : Nat) : Int) + n - 1).fdiv n := by rw [hm]; exact Int.ediv_nonneg (by omega) (by omega)
  have hm1 : (((intBits x : Nat) : Int) + n - 1).fdiv n ≤ 20 := by
    rw [hm]; exact Int.lt_add_one_iff.mp (Int.ediv_lt_of_lt_mul hn (by omega))
  have hz : x = 0 → ((((intBits x : Nat) : Int) + n - 1).fdiv n).toNat = 0 := fun h => by
    subst h
    rw [hm, show intBits 0 = 0 by decide]
    have : ((0 : Nat) : Int) + n - 1 = n - 1 := by omega
    rw [this, Int.ediv_eq_zero_of_lt (by omega) (by omega)]; rfl
  have hmul : ((((intBits x : Nat) : Int) + n - 1).fdiv n).toNat * n.toNat + (((intBits x : Nat) : Int) + n - 1) % n = (((intBits x : Nat) : Int) + n - 1) := by
    have h1 := Int.emod_add_mul_ediv (((intBits x : Nat) : Int) + n - 1) n
    rw [← hm] at h1
    rw [Int.toNat_of_nonneg hm0, Int.toNat_of_nonneg (Int.le_of_lt hn), Int.mul_comm]; omega
  have hrem := Int.emod_lt_of_pos (((intBits x : Nat) : Int) + n - 1) hn
  have hlen : intBits x ≤ n.toNat * ((((intBits x : Nat) : Int) + n - 1).fdiv n).toNat := by
    have : ((intBits x : Nat) : Int) ≤ ((((intBits x : Nat) : Int) + n - 1).fdiv n).toNat * n.toNat := by omega
    rw [Nat.mul_comm]; exact_mod_cast this
  have hpos : x ≠ 0 → 1 ≤ ((((intBits x : Nat) : Int) + n - 1).fdiv n).toNat := fun h => by
    have := bits_pos (x := x) (by omega)
    have : 0 < ((((intBits x : Nat) : Int) + n - 1).fdiv n).toNat * n.toNat := by
      have : (0 : Int) < ((((intBits x : Nat) : Int) + n - 1).fdiv n).toNat * n.toNat := by omega
      exact_mod_cast this
    exact Nat.pos_of_mul_pos_right this
  exact ⟨hm, hm0, hm1, hz, hlen, hpos, by omega, by omega, by omega, by omega⟩
set_option maxHeartbeats 4000000 in
theorem inn_step {w : World} {f c' D cN cA cI : Addr} {qual : Str} {params : Arguments} {body : List Stmt} {scope : Scope} {clos : List (Str × Addr)} {doc pm ctv : Value} {oc : Obj} {vs0 : Array Value} {tq : Tok} {oN : Obj} {tn : Tok} {oA oI : Obj} {n : Int} {len : Nat} {base : Heap}
    (hparams : params = iDef.1) (hbody : body = iDef.2.1) (hscope : scope = iDef.2.2) (hclos : clos = [(Str.ofString "n", cN), (Str.ofString "inner", cI), (Str.ofString "a_digits", cA)]) (hn : 0 < n) (hn1 : n ≤ 16000) (hlen20 : len ≤ 20) (d : Nat)
    (IH : ∀ d', d' < d → InnOK w f c' D cN cA cI qual params body scope clos doc pm ctv oc vs0 tq oN tn oA oI n len base d') : InnOK w f c' D cN cA cI qual params body scope clos doc pm ctv oc vs0 tq oN tn oA oI n len base d := by
  w_top off
  k_with_none
  k_with "LT1!" => (first | with_reducible assumption | with_reducible exact Nat.lt_succ_self _ | with_reducible exact And.left (by assumption) | with_reducible exact And.left (And.right (by assumption)) | with_reducible exact And.left (And.right (And.right (by assumption))) | with_reducible exact And.left (And.right (And.right (And.right (by assumption)))) | with_reducible exact And.left (And.right (And.right (And.right (And.right (by assumption))))) | with_reducible exact And.left (And.right (And.right (And.right (And.right (And.right (by assumption)))))) | with_reducible exact And.right (by assumption) | with_reducible exact And.right (And.right (by assumption)) | with_reducible exact And.right (And.right (And.right (by assumption))) | with_reducible exact And.right (And.right (And.right (And.right (by assumption)))))
  k_with "LT!" => (first | k_extra "LT1!" | ((with_reducible refine (Nat.lt_succ_of_lt ?_ : @LT.lt Nat _ _ (_ + 1))); first | k_extra "LT1!" | ((with_reducible refine (Nat.lt_succ_of_lt ?_ : @LT.lt Nat _ _ (_ + 1))); first | k_extra "LT1!" | ((with_reducible refine (Nat.lt_succ_of_lt ?_ : @LT.lt Nat _ _ (_ + 1))); k_extra "LT1!"))))
  k_with "NE!" => (first | with_reducible assumption | with_reducible exact Ne.symm (by assumption) | decide | ((fail_if_success (fail_if_success omega)); first | ((with_reducible refine Nat.ne_of_gt ?_); (fail_if_success (fail_if_success omega)); k_extra "LT!") | ((with_reducible refine Nat.ne_of_lt ?_); (fail_if_success (fail_if_success omega)); k_extra "LT!") | with_reducible exact And.left (by assumption) | with_reducible exact And.left (And.right (by assumption)) | with_reducible exact And.left (And.right (And.right (by assumption))) | omega))
  k_with "KNE!" => ((refine neN ?_; (try dsimp only); k_extra "NE!"))
  k_with "LBND!" => (first | assumption | decide | with_reducible exact Int.lt_of_lt_of_le (by assumption) (by decide) | with_reducible exact Int.lt_of_le_of_lt (by assumption) (by decide) | with_reducible exact Int.le_trans (by assumption) (by decide) | with_reducible exact Int.lt_of_lt_of_le (by decide) (by assumption) | with_reducible exact Int.le_trans (by decide) (by assumption) | with_reducible exact Int.natCast_nonneg _ | with_reducible exact Int.ne_of_gt (by assumption) | with_reducible exact Int.le_of_lt (by assumption) | with_reducible exact Nat.lt_of_lt_of_le (by assumption) (by decide) | with_reducible exact Nat.lt_of_le_of_lt (by assumption) (by decide) | with_reducible exact Nat.le_trans (by assumption) (by decide) | k_dflt omega | l_fact)
  k_with "ROOM!" => (((try simp only [depth_under_make, depth_under_kw, depth_in1, depth_deeper, depth_caller]); (try dsimp only [ktrTop]); first | with_reducible assumption | exact room_0 (by with_reducible assumption) | exact room_le (by with_reducible assumption) (by decide) | exact room_12 (by with_reducible assumption) (by decide)))
  k_with "UNITS!" => (((try simp only [units_in1, units_deeper, Around.mark_units, units_caller]); (try dsimp only [ktrTop]); first | with_reducible assumption | exact room_0 (by with_reducible assumption) | exact room_le (by with_reducible assumption) (by decide) | exact room_12 (by with_reducible assumption) (by decide) | exact room_123 (by with_reducible assumption) (by decide)))
  k_with "BITS!" => (first | (with_reducible assumption) | ((with_reducible apply bits_ediv2); bits_by_make) | ((with_reducible refine bits_emod2 ?_ ?_); (focus l_bnd); bits_by_make))
  k_with "binaryOp LShift int int" => ((k_here; (with_reducible refine' r_shl (by l_bnd) (by bits_by_make) (by l_bnd) (by decide) ?_)))
  k_with "inplaceOp LShift int int" => ((k_here; (with_reducible refine' ishl (by l_bnd) (by bits_by_make) (by l_bnd) (by decide) ?_)))
  k_with "binaryOp RShift int int" => ((k_here; (with_reducible refine r_shr (by l_bnd) ?_)))
  k_with "inplaceOp RShift int int" => ((k_here; (with_reducible refine ishr (by l_bnd) ?_)))
  k_with "binaryOp BitOr int int" => ((k_here; (with_reducible refine r_or (by l_bnd) (by l_bnd) (by l_bnd) ?_)))
  k_with "binaryOp BitAnd int int" => ((k_here; first | (with_reducible refine r_and1 ?_) | ((with_reducible refine r_mask (by l_bnd) ?_))))
  k_with "call builtin:divmod" => ((k_here; (with_reducible show wpAny _ _ (call (Value.builtin _) [Value.int _ _, Value.int _ _]) _ _ _); (refine' r_divmod (by assumption) (by assumption) (by l_bnd) (by first | assumption | exact noPy (by omega)) ?_); intro D' t1' t2' h' tk' F' N' l1; (try k_lt l1)))
  k_with "ALL!" => (first | assumption | (refine' allNe (by assumption)) | (refine' allNeLt (by assumption) (by first | exact Nat.le_add_right _ 1 | exact Nat.le_add_right _ 2 | exact Nat.le_add_right _ 3 | omega)))
  k_with "binaryOp Mult ref int" => ((k_here; k_dflt (refine' r_rep0 (by k_asm) (by k_asm) (by k_mem) (by l_bnd) (by l_bnd) ?_); intro D' h' F' N' l1; (try k_lt l1)))
  k_with "binaryOp BitXor int int" => ((k_here; (with_reducible refine' r_xorlow (by l_bnd) ?_)))
  k_with "call builtin:len" => ((k_here; k_dflt (refine' r_len (by k_asm) (by k_mem) (by exact List.length_replicate) (by l_bnd) ?_); intro t' tk'))
  k_with "call ref" => ((k_here; k_extra "call inner"))
  k_with "MEM!" => (first | assumption | (refine' List.Mem.tail _ ?_; assumption))
  with_unfolding_all (conv at hparams => rhs; whnf)
  with_unfolding_all (conv at hbody => rhs; whnf)
  with_unfolding_all (conv at hscope => rhs; whnf)
  subst hparams hbody hscope hclos
  have hnpos := hn
  unfold InnOK
  intro loose mean mg mb dp un gd cn cs a ccd cl outer A₀ h₀ L m rest s Q E x l r t1 t2 t3 vs ns nn B F X N T hk C hD mf mc ec ev mN eN mA eA mI eI hd h1 hl hr h0 hx hi hnl hdp hu hret
  obtain ⟨d20, d10, l63, gm0, gm1, gd, gr, gmn, gneg, gpos, gdd, gMr⟩ := halves hd h1 hl (Int.le_trans hr (Int.ofNat_le.mpr hlen20))
  have hbr : l + 1 ≠ r → _ := halves_ne hd h1
  have hone : l + 1 = r → _ := halves_one hd
  obtain ⟨hl1, hl2, hll, hlN, hlD⟩ := halves_len hd h1 hl (hnl.symm ▸ hr)
  obtain ⟨gsn, gs0, gs1, gxm, hn0⟩ := halves_n hn hn1 gd d20
  obtain ⟨hx2, hx20, hx1, hx10⟩ := halves_x gsn gdd h0 hx
  have gMlen := Int.le_trans gMr hr
  have sx : intBits x ≤ 400000 := Nat.le_trans (bits_le_of_lt h0 hx) gxm
  have hdp0 : dp < recursionLimit := room_0 hdp
  have hr9 := hr
  clear hd h1 gMr d10 d20 hlen20 hn1
  k_with "call inner" => ((first
      | (refine IH (d / 2) (hbr (by assumption)).2.1 (by k_asm) (by k_asm) (by k_asm) (by k_asm) (by k_asm) (by first | exact rfl | assumption) C hD mf mc ec ev mN eN mA eA mI eI gd (hbr (by assumption)).1 hl gMlen hx10 hx1 hi hnl (room_half hdp (hbr (by assumption)).2.1) (units_half hu (hbr (by assumption)).2.1) ?_)
      | (refine IH (d - d / 2) (hbr (by assumption)).2.2.2 (by k_asm) (by k_asm) (by k_asm) (by k_asm) (by k_asm) (by first | exact rfl | assumption) C hD mf mc ec ev mN eN mA eA mI eI gr (hbr (by assumption)).2.2.1 gm0 hr9 hx20 hx2 (by assumption) (by rw [putDigs_len hl1]; exact hnl) (room_half hdp (hbr (by assumption)).2.2.2) (units_half hu (hbr (by assumption)).2.2.2) ?_)); intro vs' h' tk' hi' F' N'; (try dsimp only); (try k_fold))
  refine wpAny_call ?_
  k_dflt (refine' code_nest ?k1 ?k2 ?k3 ?k4 ?k5 ?kA ?kF ?kK ?k6 ?k7 ?k8 ?k9 ?kB ?_ ?c2 ?c3 ?c4 ?c5; (case kA => exact rfl); (case kF => exact rfl); (case kK => assumption); (case k1 => k_asm); (case k2 => k_asm); (case k3 => k_asm); (case k4 => k_asm); (case k5 => k_asm); (case k6 => k_mem); (case k7 => exact codeRec_news (by k_asm) (by k_mem) (by assumption) (by assumption)); (case k8 => ktr_room); (case k9 => exact BindsTo.of_eq rfl); (case c5 => decide); (case kB => exact locs rfl); (case c2 => exact rfl); (case c3 => exact rfl); (case c4 => exact rfl); k_whole; intro g' L' h' FG' F' N' B' X' T'; (try dsimp only); (try k_lift B'); (try k_fold))
  k_steps
  · refine hret _ _ _ ?_ (by assumption) (by assumption)
    have hd1 : d = 1 := hone (by assumption)
    subst hd1
    rw [← putDigs_one hlN h0 (by simpa using hx)]
    assumption
  · refine hret _ _ _ ?_ (by assumption) (by assumption)
    (with_reducible rename IntsAre _ (putDigs (putDigs _ _ _ _ _) _ _ _ _) => hi9)
    rw [gmn, gsn, putDigs_two hl2, gdd] at hi9
    exact hi9
set_option maxHeartbeats 4000000 in
theorem c_i2d_F {w : World} {loose : List Str} {mean : ExcName → Option Value} {mg mb : Str → Option Value} {dp un : Nat} {gd : Option (List Code)} {cn : Str} {cs : Scope} {a : Addr} {ccd : Value} {cl : List (Str × Addr)} {outer : List Env} {A₀ : Around} {base h₀ : Heap} {L : Addr} {m : Str → Option Value} {news : List (Addr × Obj)} {s : Shared} {Q E : Value → Shared → Prop} {x n : Int} {t t1 : Tok} (B : Below A₀ base outer h₀) (F : Fr h₀ L s.heap m) (X : (hd.heap_39 w.params).In h₀) (N : News h₀ L s.heap ((44, tabObj #[]) :: news)) (T : Top topProg loose mean mg mb h₀) (hk : cs.kind = .function)
    (C : CodeHd base 48 44) (hne : ∀ p ∈ news, p.1 ≠ 44) (hn : 0 < n) (hx : 0 ≤ x) (hn1 : n ≤ 16000) (hx1 : intBits x ≤ 64000) (hx2 : intBits x ≤ 20 * n)
    (hdp : dp + 30 < recursionLimit) (hu : un + 8 * 30 < cLine)
    (hret : ∀ D c' oc vs0 t vs' h' tk', IntsAre vs' (digs n.toNat x ((((intBits x : Nat) : Int) + n - 1) / n).toNat) → oc.data = .fields vs0 → vs0[1]? = some (.str (Str.ofString "_int2digits.<locals>.inner") t) → @LT.lt Nat _ L c' → Fr h₀ L h' m → News h₀ L h' ((D, listOf vs'.toArray 0) :: (44, tabObj #[rawInt 40, rawInt 4, .ref c']) :: (c', oc) :: news) → AllLt D news → Q (.ref D) { s with heap := h', toks := tk' }) :
    wpAny (model PySem.Challenge.rw_wo0032_01.row.prog w) (ktrTop dp un gd cn cs L a ccd cl outer) (call (.ref 49) [.int x t, .int n t1]) Q E s := by
  w_top off
  k_with_none
  k_with "LT1!" => (first | with_reducible assumption | with_reducible exact Nat.lt_succ_self _ | with_reducible exact And.left (by assumption) | with_reducible exact And.left (And.right (by assumption)) | with_reducible exact And.left (And.right (And.right (by assumption))) | with_reducible exact And.left (And.right (And.right (And.right (by assumption)))) | with_reducible exact And.left (And.right (And.right (And.right (And.right (by assumption))))) | with_reducible exact And.left (And.right (And.right (And.right (And.right (And.right (by assumption)))))) | with_reducible exact And.right (by assumption) | with_reducible exact And.right (And.right (by assumption)) | with_reducible exact And.right (And.right (And.right (by assumption))) | with_reducible exact And.right (And.right (And.right (And.right (by assumption)))))
  k_with "LT!" => (first | k_extra "LT1!" | ((with_reducible refine (Nat.lt_succ_of_lt ?_ : @LT.lt Nat _ _ (_ + 1))); first | k_extra "LT1!" | ((with_reducible refine (Nat.lt_succ_of_lt ?_ : @LT.lt Nat _ _ (_ + 1))); first | k_extra "LT1!" | ((with_reducible refine (Nat.lt_succ_of_lt ?_ : @LT.lt Nat _ _ (_ + 1))); k_extra "LT1!"))))
  k_with "NE!" => (first | with_reducible assumption | with_reducible exact Ne.symm (by assumption) | decide | ((fail_if_success (fail_if_success omega)); first | ((with_reducible refine Nat.ne_of_gt ?_); (fail_if_success (fail_if_success omega)); k_extra "LT!") | ((with_reducible refine Nat.ne_of_lt ?_); (fail_if_success (fail_if_success omega)); k_extra "LT!") | with_reducible exact And.left (by assumption) | with_reducible exact And.left (And.right (by assumption)) | with_reducible exact And.left (And.right (And.right (by assumption))) | omega))
  k_with "KNE!" => ((refine neN ?_; (try dsimp only); k_extra "NE!"))
  k_with "LBND!" => (first | assumption | decide | with_reducible exact Int.lt_of_lt_of_le (by assumption) (by decide) | with_reducible exact Int.lt_of_le_of_lt (by assumption) (by decide) | with_reducible exact Int.le_trans (by assumption) (by decide) | with_reducible exact Int.lt_of_lt_of_le (by decide) (by assumption) | with_reducible exact Int.le_trans (by decide) (by assumption) | with_reducible exact Int.natCast_nonneg _ | with_reducible exact Int.ne_of_gt (by assumption) | with_reducible exact Int.le_of_lt (by assumption) | with_reducible exact Nat.lt_of_lt_of_le (by assumption) (by decide) | with_reducible exact Nat.lt_of_le_of_lt (by assumption) (by decide) | with_reducible exact Nat.le_trans (by assumption) (by decide) | k_dflt omega | l_fact)
  k_with "ROOM!" => (((try simp only [depth_under_make, depth_under_kw, depth_in1, depth_deeper, depth_caller]); (try dsimp only [ktrTop]); first | with_reducible assumption | exact room_0 (by with_reducible assumption) | exact room_le (by with_reducible assumption) (by decide) | exact room_12 (by with_reducible assumption) (by decide)))
  k_with "UNITS!" => (((try simp only [units_in1, units_deeper, Around.mark_units, units_caller]); (try dsimp only [ktrTop]); first | with_reducible assumption | exact room_0 (by with_reducible assumption) | exact room_le (by with_reducible assumption) (by decide) | exact room_12 (by with_reducible assumption) (by decide) | exact room_123 (by with_reducible assumption) (by decide)))
  k_with "BITS!" => (first | (with_reducible assumption) | ((with_reducible apply bits_ediv2); bits_by_make) | ((with_reducible refine bits_emod2 ?_ ?_); (focus l_bnd); bits_by_make))
  k_with "binaryOp LShift int int" => ((k_here; (with_reducible refine' r_shl (by l_bnd) (by bits_by_make) (by l_bnd) (by decide) ?_)))
  k_with "inplaceOp LShift int int" => ((k_here; (with_reducible refine' ishl (by l_bnd) (by bits_by_make) (by l_bnd) (by decide) ?_)))
  k_with "binaryOp RShift int int" => ((k_here; (with_reducible refine r_shr (by l_bnd) ?_)))
  k_with "inplaceOp RShift int int" => ((k_here; (with_reducible refine ishr (by l_bnd) ?_)))
  k_with "binaryOp BitOr int int" => ((k_here; (with_reducible refine r_or (by l_bnd) (by l_bnd) (by l_bnd) ?_)))
  k_with "binaryOp BitAnd int int" => ((k_here; first | (with_reducible refine r_and1 ?_) | ((with_reducible refine r_mask (by l_bnd) ?_))))
  k_with "call builtin:divmod" => ((k_here; (with_reducible show wpAny _ _ (call (Value.builtin _) [Value.int _ _, Value.int _ _]) _ _ _); (refine' r_divmod (by assumption) (by assumption) (by l_bnd) (by first | assumption | exact noPy (by omega)) ?_); intro D' t1' t2' h' tk' F' N' l1; (try k_lt l1)))
  k_with "ALL!" => (first | assumption | (refine' allNe (by assumption)) | (refine' allNeLt (by assumption) (by first | exact Nat.le_add_right _ 1 | exact Nat.le_add_right _ 2 | exact Nat.le_add_right _ 3 | omega)))
  k_with "binaryOp Mult ref int" => ((k_here; k_dflt (refine' r_rep0 (by k_asm) (by k_asm) (by k_mem) (by l_bnd) (by l_bnd) ?_); intro D' h' F' N' l1; (try k_lt l1)))
  k_with "binaryOp BitXor int int" => ((k_here; (with_reducible refine' r_xorlow (by l_bnd) ?_)))
  k_with "call builtin:len" => ((k_here; k_dflt (refine' r_len (by k_asm) (by k_mem) (by exact List.length_replicate) (by l_bnd) ?_); intro t' tk'))
  k_with "call ref" => ((k_here; k_extra "call inner"))
  k_with "MEM!" => (first | assumption | (refine' List.Mem.tail _ ?_; assumption))
  obtain ⟨hm, hm0, hm1, hz, hlen, hpos, hnz, hm6, hm9, hnA⟩ := digs_pre hn hx hn1 hx2
  revert B F X N T
  k_fill
  intro B F X N T
  refine wpAny_call ?_
  k_dflt (refine' code_defC ?k1 ?k2 ?k3 ?k4 ?k5 ?kA ?kF ?kK ?k6 ?k7 ?k8 ?k9 ?kB ?kD ?_ ?c2 ?c3 ?c4; (case kA => exact rfl); (case kF => exact rfl); (case kK => assumption); (case k1 => k_asm); (case k2 => k_asm); (case k3 => k_asm); (case k4 => k_asm); (case k5 => k_asm); (case k6 => k_is); (case k7 => k_is); (case k8 => ktr_room); (case k9 => first | exact BindsTo.of_eq rfl | exact binds_K (by k_in) rfl (by k_is) rfl rfl rfl); (case kB => exact rfl); (case kD => decide +kernel); (case c2 => exact rfl); (case c3 => exact rfl); (case c4 => exact rfl); k_whole; intro g' L' h' tk' cells' FG' F' N' Y' B' X' T' l1; (try k_lt l1); k_cells Y'; (try simp only [List.cons_append, List.nil_append] at N'); (try dsimp only); (try k_lift B'); (try k_fold))
  have lN : AllLt _ news := And.right (by assumption)
  have hLL : @LT.lt Nat _ L L' := Nat.lt_of_lt_of_le FG'.ns.lt F'.above
  k_steps
  rotate_left; rotate_right
  k_dflt (refine' inn_use ?z1 ?z2 ?z3 ?z4 ?z5 ?z6 ?z7 ?z8 [true, true, false] ?z9 ?z9b ?z10 ?z11 ?z12 ?z13 ?y1 ?z14 ?z15 ?y2 ?z16 ?z17 ?y3 ?z18 ?z19 ?zstep ?z21 ?z22 ?z23 ?z24 ?z25 ?z26 ?z27 ?zret; (case z1 => k_asm); (case z2 => k_asm); (case z3 => k_asm); (case z4 => k_asm); (case z5 => k_asm); (case z6 => exact rfl); (case z7 => kn_code); (case z8 => k_mem); (case z9 => (dsimp only [pick]; done)); (case z9b => first | k_all | done); (case z10 => k_mem); (case z11 => k_mem); (case z12 => assumption); (case z13 => assumption); (case y1 => rfl); (case y2 => rfl); (case y3 => rfl); (case z14 => k_mem); (case z15 => assumption); (case z16 => k_mem); (case z17 => assumption); (case z18 => k_mem); (case z19 => assumption))
  case z22 => exact hx
  case z24 => exact ints_rep0 _ _
  case z25 => exact List.length_replicate
  case z26 => exact room_len hdp (Int.toNat_le.mpr hm1)
  case z27 => exact units_len hu (Int.toNat_le.mpr hm1)
  case z23 => exact lt_of_bits hlen
  case z21 => exact hpos (by assumption)
  case zret =>
    intro vs' h' tk' hi' F' N'
    (try dsimp only)
    k_steps
    refine hret _ _ _ _ _ _ _ _ (by rw [← hm]; exact hi') (by assumption) (by assumption) ?_ (by assumption) (nsA (by assumption)) (And.right (And.right (And.right (And.right (And.right (by assumption))))))
    omega
  case zstep => exact inn_step (by with_unfolding_all rfl) (by with_unfolding_all rfl) (by with_unfolding_all rfl) rfl hn hn1 (Int.toNat_le.mpr hm1)
  refine hret _ _ _ _ _ _ _ _ ?_ (by assumption) (by assumption) ?_ (by assumption) (nsB (by assumption)) (And.right (And.right (And.right (And.right (And.right (by assumption))))))
  · rw [← hm, hz (by assumption)]; exact .nil
  · omega
set_option maxHeartbeats 4000000 in
theorem c_i2d_M {w : World} {c0 : Addr} {oc0 : Obj} {vs00 : Array Value} {t00 : Tok} {loose : List Str} {mean : ExcName → Option Value} {mg mb : Str → Option Value} {dp un : Nat} {gd : Option (List Code)} {cn : Str} {cs : Scope} {a : Addr} {ccd : Value} {cl : List (Str × Addr)} {outer : List Env} {A₀ : Around} {base h₀ : Heap} {L : Addr} {m : Str → Option Value} {news : List (Addr × Obj)} {s : Shared} {Q E : Value → Shared → Prop} {x n : Int} {t t1 : Tok} (B : Below A₀ base outer h₀) (F : Fr h₀ L s.heap m) (X : (hd.heap_39 w.params).In h₀) (N : News h₀ L s.heap ((44, tabObj #[rawInt 40, rawInt 4, .ref c0]) :: (c0, oc0) :: news)) (T : Top topProg loose mean mg mb h₀) (hk : cs.kind = .function)
    (C : CodeHd base 48 44) (hoc0 : oc0.data = .fields vs00) (hvs0 : vs00[1]? = some (.str (Str.ofString "_int2digits.<locals>.inner") t00)) (hne : ∀ p ∈ news, p.1 ≠ 44) (hn : 0 < n) (hx : 0 ≤ x) (hn1 : n ≤ 16000) (hx1 : intBits x ≤ 64000) (hx2 : intBits x ≤ 20 * n)
    (hdp : dp + 30 < recursionLimit) (hu : un + 8 * 30 < cLine)
    (hret : ∀ D vs' h' tk', IntsAre vs' (digs n.toNat x ((((intBits x : Nat) : Int) + n - 1) / n).toNat) → Fr h₀ L h' m → News h₀ L h' ((D, listOf vs'.toArray 0) :: (44, tabObj #[rawInt 40, rawInt 4, .ref c0]) :: (c0, oc0) :: news) → AllLt D news → Q (.ref D) { s with heap := h', toks := tk' }) :
    wpAny (model PySem.Challenge.rw_wo0032_01.row.prog w) (ktrTop dp un gd cn cs L a ccd cl outer) (call (.ref 49) [.int x t, .int n t1]) Q E s := by
  w_top off
  k_with_none
  k_with "LT1!" => (first | with_reducible assumption | with_reducible exact Nat.lt_succ_self _ | with_reducible exact And.left (by assumption) | with_reducible exact And.left (And.right (by assumption)) | with_reducible exact And.left (And.right (And.right (by assumption))) | with_reducible exact And.left (And.right (And.right (And.right (by assumption)))) | with_reducible exact And.left (And.right (And.right (And.right (And.right (by assumption))))) | with_reducible exact And.left (And.right (And.right (And.right (And.right (And.right (by assumption)))))) | with_reducible exact And.right (by assumption) | with_reducible exact And.right (And.right (by assumption)) | with_reducible exact And.right (And.right (And.right (by assumption))) | with_reducible exact And.right (And.right (And.right (And.right (by assumption)))))
  k_with "LT!" => (first | k_extra "LT1!" | ((with_reducible refine (Nat.lt_succ_of_lt ?_ : @LT.lt Nat _ _ (_ + 1))); first | k_extra "LT1!" | ((with_reducible refine (Nat.lt_succ_of_lt ?_ : @LT.lt Nat _ _ (_ + 1))); first | k_extra "LT1!" | ((with_reducible refine (Nat.lt_succ_of_lt ?_ : @LT.lt Nat _ _ (_ + 1))); k_extra "LT1!"))))
  k_with "NE!" => (first | with_reducible assumption | with_reducible exact Ne.symm (by assumption) | decide | ((fail_if_success (fail_if_success omega)); first | ((with_reducible refine Nat.ne_of_gt ?_); (fail_if_success (fail_if_success omega)); k_extra "LT!") | ((with_reducible refine Nat.ne_of_lt ?_); (fail_if_success (fail_if_success omega)); k_extra "LT!") | with_reducible exact And.left (by assumption) | with_reducible exact And.left (And.right (by assumption)) | with_reducible exact And.left (And.right (And.right (by assumption))) | omega))
  k_with "KNE!" => ((refine neN ?_; (try dsimp only); k_extra "NE!"))
  k_with "LBND!" => (first | assumption | decide | with_reducible exact Int.lt_of_lt_of_le (by assumption) (by decide) | with_reducible exact Int.lt_of_le_of_lt (by assumption) (by decide) | with_reducible exact Int.le_trans (by assumption) (by decide) | with_reducible exact Int.lt_of_lt_of_le (by decide) (by assumption) | with_reducible exact Int.le_trans (by decide) (by assumption) | with_reducible exact Int.natCast_nonneg _ | with_reducible exact Int.ne_of_gt (by assumption) | with_reducible exact Int.le_of_lt (by assumption) | with_reducible exact Nat.lt_of_lt_of_le (by assumption) (by decide) | with_reducible exact Nat.lt_of_le_of_lt (by assumption) (by decide) | with_reducible exact Nat.le_trans (by assumption) (by decide) | k_dflt omega | l_fact)
  k_with "ROOM!" => (((try simp only [depth_under_make, depth_under_kw, depth_in1, depth_deeper, depth_caller]); (try dsimp only [ktrTop]); first | with_reducible assumption | exact room_0 (by with_reducible assumption) | exact room_le (by with_reducible assumption) (by decide) | exact room_12 (by with_reducible assumption) (by decide)))
  k_with "UNITS!" => (((try simp only [units_in1, units_deeper, Around.mark_units, units_caller]); (try dsimp only [ktrTop]); first | with_reducible assumption | exact room_0 (by with_reducible assumption) | exact room_le (by with_reducible assumption) (by decide) | exact room_12 (by with_reducible assumption) (by decide) | exact room_123 (by with_reducible assumption) (by decide)))
  k_with "BITS!" => (first | (with_reducible assumption) | ((with_reducible apply bits_ediv2); bits_by_make) | ((with_reducible refine bits_emod2 ?_ ?_); (focus l_bnd); bits_by_make))
  k_with "binaryOp LShift int int" => ((k_here; (with_reducible refine' r_shl (by l_bnd) (by bits_by_make) (by l_bnd) (by decide) ?_)))
  k_with "inplaceOp LShift int int" => ((k_here; (with_reducible refine' ishl (by l_bnd) (by bits_by_make) (by l_bnd) (by decide) ?_)))
  k_with "binaryOp RShift int int" => ((k_here; (with_reducible refine r_shr (by l_bnd) ?_)))
  k_with "inplaceOp RShift int int" => ((k_here; (with_reducible refine ishr (by l_bnd) ?_)))
  k_with "binaryOp BitOr int int" => ((k_here; (with_reducible refine r_or (by l_bnd) (by l_bnd) (by l_bnd) ?_)))
  k_with "binaryOp BitAnd int int" => ((k_here; first | (with_reducible refine r_and1 ?_) | ((with_reducible refine r_mask (by l_bnd) ?_))))
  k_with "call builtin:divmod" => ((k_here; (with_reducible show wpAny _ _ (call (Value.builtin _) [Value.int _ _, Value.int _ _]) _ _ _); (refine' r_divmod (by assumption) (by assumption) (by l_bnd) (by first | assumption | exact noPy (by omega)) ?_); intro D' t1' t2' h' tk' F' N' l1; (try k_lt l1)))
  k_with "ALL!" => (first | assumption | (refine' allNe (by assumption)) | (refine' allNeLt (by assumption) (by first | exact Nat.le_add_right _ 1 | exact Nat.le_add_right _ 2 | exact Nat.le_add_right _ 3 | omega)))
  k_with "binaryOp Mult ref int" => ((k_here; k_dflt (refine' r_rep0 (by k_asm) (by k_asm) (by k_mem) (by l_bnd) (by l_bnd) ?_); intro D' h' F' N' l1; (try k_lt l1)))
  k_with "binaryOp BitXor int int" => ((k_here; (with_reducible refine' r_xorlow (by l_bnd) ?_)))
  k_with "call builtin:len" => ((k_here; k_dflt (refine' r_len (by k_asm) (by k_mem) (by exact List.length_replicate) (by l_bnd) ?_); intro t' tk'))
  k_with "call ref" => ((k_here; k_extra "call inner"))
  k_with "MEM!" => (first | assumption | (refine' List.Mem.tail _ ?_; assumption))
  obtain ⟨hm, hm0, hm1, hz, hlen, hpos, hnz, hm6, hm9, hnA⟩ := digs_pre hn hx hn1 hx2
  revert B F X N T
  k_fill
  intro B F X N T
  refine wpAny_call ?_
  k_dflt (refine' code_defC ?k1 ?k2 ?k3 ?k4 ?k5 ?kA ?kF ?kK ?k6 ?k7 ?k8 ?k9 ?kB ?kD ?_ ?c2 ?c3 ?c4; (case kA => exact rfl); (case kF => exact rfl); (case kK => assumption); (case k1 => k_asm); (case k2 => k_asm); (case k3 => k_asm); (case k4 => k_asm); (case k5 => k_asm); (case k6 => k_is); (case k7 => k_is); (case k8 => ktr_room); (case k9 => first | exact BindsTo.of_eq rfl | exact binds_K (by k_in) rfl (by k_is) rfl rfl rfl); (case kB => exact rfl); (case kD => decide +kernel); (case c2 => exact rfl); (case c3 => exact rfl); (case c4 => exact rfl); k_whole; intro g' L' h' tk' cells' FG' F' N' Y' B' X' T' l1; (try k_lt l1); k_cells Y'; (try simp only [List.cons_append, List.nil_append] at N'); (try dsimp only); (try k_lift B'); (try k_fold))
  have lN : AllLt _ news := And.right (And.right (by assumption))
  k_steps
  rotate_left; rotate_right
  k_dflt (refine' inn_use ?z1 ?z2 ?z3 ?z4 ?z5 ?z6 ?z7 ?z8 [true, false] ?z9 ?z9b ?z10 ?z11 ?z12 ?z13 ?y1 ?z14 ?z15 ?y2 ?z16 ?z17 ?y3 ?z18 ?z19 ?zstep ?z21 ?z22 ?z23 ?z24 ?z25 ?z26 ?z27 ?zret; (case z1 => k_asm); (case z2 => k_asm); (case z3 => k_asm); (case z4 => k_asm); (case z5 => k_asm); (case z6 => exact rfl); (case z7 => kn_code); (case z8 => k_mem); (case z9 => (dsimp only [pick]; done)); (case z9b => first | k_all | done); (case z10 => k_mem); (case z11 => k_mem); (case z12 => assumption); (case z13 => assumption); (case y1 => rfl); (case y2 => rfl); (case y3 => rfl); (case z14 => k_mem); (case z15 => assumption); (case z16 => k_mem); (case z17 => assumption); (case z18 => k_mem); (case z19 => assumption))
  case z22 => exact hx
  case z24 => exact ints_rep0 _ _
  case z25 => exact List.length_replicate
  case z26 => exact room_len hdp (Int.toNat_le.mpr hm1)
  case z27 => exact units_len hu (Int.toNat_le.mpr hm1)
  case z23 => exact lt_of_bits hlen
  case z21 => exact hpos (by assumption)
  case zret =>
    intro vs' h' tk' hi' F' N'
    (try dsimp only)
    k_steps
    exact hret _ _ _ _ (by rw [← hm]; exact hi') (by assumption) (nsC (by assumption)) (And.right (And.right (And.right (And.right (And.right (And.right (by assumption)))))))
  case zstep => exact inn_step (by with_unfolding_all rfl) (by with_unfolding_all rfl) (by with_unfolding_all rfl) rfl hn hn1 (Int.toNat_le.mpr hm1)
  refine hret _ _ _ _ ?_ (by assumption) (nsD (by assumption)) (And.right (And.right (And.right (And.right (And.right (And.right (by assumption)))))))
  rw [← hm, hz (by assumption)]; exact .nil
end Mine
end
section
namespace Mine
open Builtin.Int (intBits)
def undig (n : Nat) (ns : List Int) : Int := ns.foldr (fun a acc => a + 2 ^ n * acc) 0
theorem undig_append (n : Nat) (a b : List Int) : undig n (a ++ b) = undig n a + 2 ^ (n * a.length) * undig n b := by
  induction a with
  | nil => simp [undig]
  | cons x r ih =>
    simp only [undig, List.cons_append, List.foldr_cons, List.length_cons] at ih ⊢
    rw [ih, Int.mul_add, Nat.mul_succ, Nat.add_comm (n * r.length), Int.pow_add, ← Int.mul_assoc]
    omega
theorem undig_bound {n : Nat} {ns : List Int} (h : ∀ a ∈ ns, 0 ≤ a ∧ a < 2 ^ n) : 0 ≤ undig n ns ∧ undig n ns < 2 ^ (n * ns.length) := by
  induction ns with
  | nil => simp [undig]
  | cons x r ih =>
    have h1 := h x (.head _)
    have h2 := ih fun a ha => h a (.tail _ ha)
    have hp := pow2_pos n
    have e : undig n (x :: r) = x + 2 ^ n * undig n r := rfl
    rw [e, List.length_cons, Nat.mul_succ, Nat.add_comm, Int.pow_add]
    refine ⟨Int.add_nonneg h1.1 (Int.mul_nonneg (Int.le_of_lt hp) h2.1), ?_⟩
    have h3 : 2 ^ n * (undig n r + 1) ≤ 2 ^ n * 2 ^ (n * r.length) := Int.mul_le_mul_of_nonneg_left (by omega) (Int.le_of_lt hp)
    rw [Int.mul_add, Int.mul_one] at h3
    omega
def sec (ns : List Int) (l d : Nat) : List Int := (ns.drop l).take d
theorem sec_len {ns : List Int} {l d : Nat} (h : l + d ≤ ns.length) : (sec ns l d).length = d := by
  simp only [sec, List.length_take, List.length_drop]; omega
theorem sec_one {ns : List Int} {l : Nat} (h : l < ns.length) (n : Nat) : undig n (sec ns l 1) = ns.getD l 0 := by
  have e : sec ns l 1 = [ns.getD l 0] := by
    unfold sec
    rw [List.drop_eq_getElem_cons h, List.take_succ_cons, List.take_zero, List.getD_eq_getElem?_getD, List.getElem?_eq_getElem h]
    rfl
  rw [e]; simp [undig]
theorem sec_two {ns : List Int} {l d1 d2 n : Nat} (h : l + d1 + d2 ≤ ns.length) : undig n (sec ns (l + d1) d2) * 2 ^ (n * d1) + undig n (sec ns l d1) = undig n (sec ns l (d1 + d2)) := by
  have e : sec ns l (d1 + d2) = sec ns l d1 ++ sec ns (l + d1) d2 := by
    unfold sec
    rw [List.take_add, List.drop_drop]
  rw [e, undig_append, sec_len (by omega), Int.mul_comm]
  omega
theorem sec_all {ns : List Int} : sec ns 0 ns.length = ns := by simp [sec]
theorem sec_sub {ns : List Int} {l d : Nat} {P : Int → Prop} (h : ∀ a ∈ ns, P a) : ∀ a ∈ sec ns l d, P a := fun a ha => h a (List.mem_of_mem_drop (List.mem_of_mem_take ha))
end Mine
namespace Mine
section
variable {prog : Program} {w : World} {A : Around} {E : Value → Shared → Prop} {s : Shared}
theorem r_truth {h₀ : Heap} {L D : Addr} {news : List (Addr × Obj)} {vs : List Value} {c : Nat} {Q : Bool → Shared → Prop} (N : News h₀ L s.heap news) (hm : (D, listOf vs.toArray c) ∈ news) (hk : vs.length ≤ 1000000000)
    (h0 : vs = [] → ∀ tk, Q false { s with toks := tk }) (h1 : vs ≠ [] → ∀ tk, Q true { s with toks := tk }) : wpAny (model prog w) A (truthy (.ref D)) Q E s := by
  refine wpAny_truthy_list (PySem.IsL.isList (n := c) (N _ hm).1) (by rw [List.size_toArray]; omega) ?_
  by_cases h : vs = []
  · subst h; exact h0 rfl _
  · have e : vs.toArray.isEmpty = false := by simpa using h
    rw [e]; exact h1 h _
end
end Mine
namespace Mine
theorem len_pos {vs : List Value} {ns : List Int} (h : vs.length = ns.length) (hT : vs ≠ []) : 1 ≤ ns.length := by
  have := List.length_pos_iff.mpr hT; omega
end Mine
namespace Mine
section
variable {h₀ h : Heap} {L : Addr} {x1 x2 x3 x4 x5 x6 : Addr × Obj} {l : List (Addr × Obj)}
theorem nsE (N : News h₀ L h (x1 :: x2 :: x3 :: x4 :: x5 :: x6 :: l)) : News h₀ L h (x6 :: x2 :: l) := cb_drop N fun p hp => by
  simp only [List.mem_cons] at hp ⊢; rcases hp with h | h | h <;> simp [h]
theorem nsF (N : News h₀ L h (x1 :: x2 :: x3 :: x4 :: x5 :: x6 :: l)) : News h₀ L h (x5 :: x6 :: l) := cb_drop N fun p hp => by
  simp only [List.mem_cons] at hp ⊢; rcases hp with h | h | h <;> simp [h]
end
end Mine
end
section
set_option maxRecDepth 100000
namespace Mine
open Builtin.Int (intBits)
def InnD (w : World) (f c' D cN cA cI : Addr) (qual : Str) (params : Arguments) (body : List Stmt) (scope : Scope) (clos : List (Str × Addr)) (doc pm ctv : Value) (oc : Obj) (vs0 : Array Value) (tq : Tok) (oN : Obj) (tn : Tok) (oA oI : Obj) (vs : List Value) (ns : List Int) (nn : Nat) (lst : List (Addr × Obj)) (n : Int) (base : Heap) (d : Nat) : Prop := ∀ {loose : List Str} {mean : ExcName → Option Value} {mg mb : Str → Option Value} {dp un : Nat} {gd : Option (List Code)} {cn : Str} {cs : Scope} {a : Addr} {ccd : Value} {cl : List (Str × Addr)} {outer : List Env} {A₀ : Around} {h₀ : Heap} {L : Addr} {m : Str → Option Value} {s : Shared} {Q E : Value → Shared → Prop} {l r : Int} {t2 t3 : Tok} (_B : Below A₀ base outer h₀) (_F : Fr h₀ L s.heap m) (_X : (hd.heap_39 w.params).In h₀) (_N : News h₀ L s.heap lst) (_T : Top topProg loose mean mg mb h₀) (_hk : cs.kind = .function)
    (_C : CodeHd base 55 51) (_mf : (f, fnMade (Str.ofString "inner") qual params body scope clos doc pm c' ctv) ∈ lst) (_mc : (c', oc) ∈ lst) (_ec : oc.data = .fields vs0) (_ev : vs0[1]? = some (.str qual tq)) (_mD : (D, listOf vs.toArray nn) ∈ lst)
    (_mN : (cN, oN) ∈ lst) (_eN : oN.data = .cell (some (.int n tn))) (_mA : (cA, oA) ∈ lst) (_eA : oA.data = .cell (some (.ref D))) (_mI : (cI, oI) ∈ lst) (_eI : oI.data = .cell (some (.ref f)))
    (_hd : r - l = (d : Int)) (_h1 : 1 ≤ d) (_hl : 0 ≤ l) (_hr : r ≤ (ns.length : Int)) (_hi : IntsAre vs ns) (_hb : ∀ a ∈ ns, 0 ≤ a ∧ a < 2 ^ n.toNat) (_hdp : dp + (d + 1) < recursionLimit) (_hu : un + 8 * (d + 1) < cLine)
    (_hret : ∀ v t h' tk', v = undig n.toNat (sec ns l.toNat d) → 0 ≤ v → intBits v ≤ 400000 → Fr h₀ L h' m → News h₀ L h' lst → Q (.int v t) { s with heap := h', toks := tk' }),
    wpAny (model PySem.Challenge.rw_wo0032_01.row.prog w) (ktrTop dp un gd cn cs L a ccd cl outer) (call (.ref f) [.int l t2, .int r t3]) Q E s
theorem innD_all {w : World} {f c' D cN cA cI : Addr} {qual : Str} {params : Arguments} {body : List Stmt} {scope : Scope} {clos : List (Str × Addr)} {doc pm ctv : Value} {oc : Obj} {vs0 : Array Value} {tq : Tok} {oN : Obj} {tn : Tok} {oA oI : Obj} {vs : List Value} {ns : List Int} {nn : Nat} {lst : List (Addr × Obj)} {n : Int} {base : Heap}
    (step : ∀ d, (∀ d', d' < d → InnD w f c' D cN cA cI qual params body scope clos doc pm ctv oc vs0 tq oN tn oA oI vs ns nn lst n base d') → InnD w f c' D cN cA cI qual params body scope clos doc pm ctv oc vs0 tq oN tn oA oI vs ns nn lst n base d) (d : Nat) : InnD w f c' D cN cA cI qual params body scope clos doc pm ctv oc vs0 tq oN tn oA oI vs ns nn lst n base d := by
  induction d using Nat.strongRecOn with
  | ind d ih => exact step d ih
theorem innD_use {w : World} {f c' D cN cA cI : Addr} {qual : Str} {params : Arguments} {body : List Stmt} {scope : Scope} {clos : List (Str × Addr)} {doc pm ctv : Value} {oc : Obj} {vs0 : Array Value} {tq : Tok} {oN : Obj} {tn : Tok} {oA oI : Obj} {vs : List Value} {ns : List Int} {nn : Nat} {n : Int}
    {loose : List Str} {mean : ExcName → Option Value} {mg mb : Str → Option Value} {dp un : Nat} {gd : Option (List Code)} {cn : Str} {cs : Scope} {a : Addr} {ccd : Value} {cl : List (Str × Addr)} {outer : List Env} {A₀ : Around} {base h₀ : Heap} {L : Addr} {m : Str → Option Value} {s : Shared} {Q E : Value → Shared → Prop} {lst : List (Addr × Obj)} {len : Nat} {t2 t3 : Tok} (B : Below A₀ base outer h₀) (F : Fr h₀ L s.heap m) (X : (hd.heap_39 w.params).In h₀) (N : News h₀ L s.heap lst) (T : Top topProg loose mean mg mb h₀) (hk : cs.kind = .function)
    (C : CodeHd base 55 51) (mf : (f, fnMade (Str.ofString "inner") qual params body scope clos doc pm c' ctv) ∈ lst) (mc : (c', oc) ∈ lst) (ec : oc.data = .fields vs0) (ev : vs0[1]? = some (.str qual tq)) (mD : (D, listOf vs.toArray nn) ∈ lst)
    (cn1 : clos.lookup (Str.ofString "n") = some cN) (mN : (cN, oN) ∈ lst) (eN : oN.data = .cell (some (.int n tn))) (cn2 : clos.lookup (Str.ofString "digits") = some cA) (mA : (cA, oA) ∈ lst) (eA : oA.data = .cell (some (.ref D))) (cn3 : clos.lookup (Str.ofString "inner") = some cI) (mI : (cI, oI) ∈ lst) (eI : oI.data = .cell (some (.ref f)))
    (step : ∀ d, (∀ d', d' < d → InnD w f c' D cN cA cI qual params body scope clos doc pm ctv oc vs0 tq oN tn oA oI vs ns nn lst n base d') → InnD w f c' D cN cA cI qual params body scope clos doc pm ctv oc vs0 tq oN tn oA oI vs ns nn lst n base d)
    (h1 : 1 ≤ len) (hi : IntsAre vs ns) (hn : ns.length = len) (hb : ∀ a ∈ ns, 0 ≤ a ∧ a < 2 ^ n.toNat) (hdp : dp + (len + 1) < recursionLimit) (hu : un + 8 * (len + 1) < cLine)
    (hret : ∀ t h' tk', Fr h₀ L h' m → News h₀ L h' lst → Q (.int (undig n.toNat ns) t) { s with heap := h', toks := tk' }) :
    wpAny (model PySem.Challenge.rw_wo0032_01.row.prog w) (ktrTop dp un gd cn cs L a ccd cl outer) (call (.ref f) [.int 0 t2, .int (len : Int) t3]) Q E s := by
  subst hn
  refine innD_all step ns.length B F X N T hk C mf mc ec ev mD mN eN mA eA mI eI (by omega) h1 (by omega) (by omega) hi hb hdp hu ?_
  intro v t h' tk' e v0 v1 F' N'
  subst e
  rw [show (0 : Int).toNat = 0 from rfl, sec_all]
  exact hret t h' tk' F' N'


def iDefD : Arguments × List Stmt × Scope := match (PySem.Challenge.rw_wo0032_01.row.prog.main.body.drop 8).head? with
  | some (.FunctionDef _ _ b _ _ _ _ _ _ _) => (match b.head? with
    | some (.FunctionDef _ p b2 _ _ _ sc _ _ _) => (p, b2, sc)
    | _ => ({ posonlyargs := [], args := [], vararg := none, kwonlyargs := [], kw_defaults := [], kwarg := none, defaults := [] }, [], { kind := .function, names := [], isGenerator := false, isCoroutine := false }))
  | _ => ({ posonlyargs := [], args := [], vararg := none, kwonlyargs := [], kw_defaults := [], kwarg := none, defaults := [] }, [], { kind := .function, names := [], isGenerator := false, isCoroutine := false })
set_option maxHeartbeats 4000000 in
theorem innD_step {w : World} {f c' D cN cA cI : Addr} {qual : Str} {params : Arguments} {body : List Stmt} {scope : Scope} {clos : List (Str × Addr)} {doc pm ctv : Value} {oc : Obj} {vs0 : Array Value} {tq : Tok} {oN : Obj} {tn : Tok} {oA oI : Obj} {vs : List Value} {ns : List Int} {nn : Nat} {lst : List (Addr × Obj)} {n : Int} {base : Heap}
    (hparams : params = iDefD.1) (hbody : body = iDefD.2.1) (hscope : scope = iDefD.2.2) (hclos : clos = [(Str.ofString "n", cN), (Str.ofString "inner", cI), (Str.ofString "digits", cA)]) (hn : 0 < n) (hn1 : n ≤ 16000) (hlen20 : ns.length ≤ 20) (d : Nat)
    (IH : ∀ d', d' < d → InnD w f c' D cN cA cI qual params body scope clos doc pm ctv oc vs0 tq oN tn oA oI vs ns nn lst n base d') : InnD w f c' D cN cA cI qual params body scope clos doc pm ctv oc vs0 tq oN tn oA oI vs ns nn lst n base d := by
  w_top off
  k_with_none
  k_with "LT1!" => (first | with_reducible assumption | with_reducible exact Nat.lt_succ_self _ | with_reducible exact And.left (by assumption) | with_reducible exact And.left (And.right (by assumption)) | with_reducible exact And.left (And.right (And.right (by assumption))) | with_reducible exact And.left (And.right (And.right (And.right (by assumption)))) | with_reducible exact And.left (And.right (And.right (And.right (And.right (by assumption))))) | with_reducible exact And.left (And.right (And.right (And.right (And.right (And.right (by assumption)))))) | with_reducible exact And.right (by assumption) | with_reducible exact And.right (And.right (by assumption)) | with_reducible exact And.right (And.right (And.right (by assumption))) | with_reducible exact And.right (And.right (And.right (And.right (by assumption)))))
  k_with "LT!" => (first | k_extra "LT1!" | ((with_reducible refine (Nat.lt_succ_of_lt ?_ : @LT.lt Nat _ _ (_ + 1))); first | k_extra "LT1!" | ((with_reducible refine (Nat.lt_succ_of_lt ?_ : @LT.lt Nat _ _ (_ + 1))); first | k_extra "LT1!" | ((with_reducible refine (Nat.lt_succ_of_lt ?_ : @LT.lt Nat _ _ (_ + 1))); k_extra "LT1!"))))
  k_with "NE!" => (first | with_reducible assumption | with_reducible exact Ne.symm (by assumption) | decide | ((fail_if_success (fail_if_success omega)); first | ((with_reducible refine Nat.ne_of_gt ?_); (fail_if_success (fail_if_success omega)); k_extra "LT!") | ((with_reducible refine Nat.ne_of_lt ?_); (fail_if_success (fail_if_success omega)); k_extra "LT!") | with_reducible exact And.left (by assumption) | with_reducible exact And.left (And.right (by assumption)) | with_reducible exact And.left (And.right (And.right (by assumption))) | omega))
  k_with "KNE!" => ((refine neN ?_; (try dsimp only); k_extra "NE!"))
  k_with "LBND!" => (first | assumption | decide | with_reducible exact Int.lt_of_lt_of_le (by assumption) (by decide) | with_reducible exact Int.lt_of_le_of_lt (by assumption) (by decide) | with_reducible exact Int.le_trans (by assumption) (by decide) | with_reducible exact Int.lt_of_lt_of_le (by decide) (by assumption) | with_reducible exact Int.le_trans (by decide) (by assumption) | with_reducible exact Int.natCast_nonneg _ | with_reducible exact Int.ne_of_gt (by assumption) | with_reducible exact Int.le_of_lt (by assumption) | with_reducible exact Nat.lt_of_lt_of_le (by assumption) (by decide) | with_reducible exact Nat.lt_of_le_of_lt (by assumption) (by decide) | with_reducible exact Nat.le_trans (by assumption) (by decide) | k_dflt omega | l_fact)
  k_with "ROOM!" => (((try simp only [depth_under_make, depth_under_kw, depth_in1, depth_deeper, depth_caller]); (try dsimp only [ktrTop]); first | with_reducible assumption | exact room_0 (by with_reducible assumption) | exact room_le (by with_reducible assumption) (by decide) | exact room_12 (by with_reducible assumption) (by decide)))
  k_with "UNITS!" => (((try simp only [units_in1, units_deeper, Around.mark_units, units_caller]); (try dsimp only [ktrTop]); first | with_reducible assumption | exact room_0 (by with_reducible assumption) | exact room_le (by with_reducible assumption) (by decide) | exact room_12 (by with_reducible assumption) (by decide) | exact room_123 (by with_reducible assumption) (by decide)))
  k_with "BITS!" => (first | (with_reducible assumption) | ((with_reducible apply bits_ediv2); bits_by_make) | ((with_reducible refine bits_emod2 ?_ ?_); (focus l_bnd); bits_by_make))
  k_with "binaryOp LShift int int" => ((k_here; (with_reducible refine' r_shl (by l_bnd) (by bits_by_make) (by l_bnd) (by decide) ?_)))
  k_with "inplaceOp LShift int int" => ((k_here; (with_reducible refine' ishl (by l_bnd) (by bits_by_make) (by l_bnd) (by decide) ?_)))
  k_with "binaryOp RShift int int" => ((k_here; (with_reducible refine r_shr (by l_bnd) ?_)))
  k_with "inplaceOp RShift int int" => ((k_here; (with_reducible refine ishr (by l_bnd) ?_)))
  k_with "binaryOp BitOr int int" => ((k_here; (with_reducible refine r_or (by l_bnd) (by l_bnd) (by l_bnd) ?_)))
  k_with "binaryOp BitAnd int int" => ((k_here; first | (with_reducible refine r_and1 ?_) | ((with_reducible refine r_mask (by l_bnd) ?_))))
  k_with "call builtin:divmod" => ((k_here; (with_reducible show wpAny _ _ (call (Value.builtin _) [Value.int _ _, Value.int _ _]) _ _ _); (refine' r_divmod (by assumption) (by assumption) (by l_bnd) (by first | assumption | exact noPy (by omega)) ?_); intro D' t1' t2' h' tk' F' N' l1; (try k_lt l1)))
  k_with "ALL!" => (first | assumption | (refine' allNe (by assumption)) | (refine' allNeLt (by assumption) (by first | exact Nat.le_add_right _ 1 | exact Nat.le_add_right _ 2 | exact Nat.le_add_right _ 3 | omega)))
  k_with "binaryOp Mult ref int" => ((k_here; k_dflt (refine' r_rep0 (by k_asm) (by k_asm) (by k_mem) (by l_bnd) (by l_bnd) ?_); intro D' h' F' N' l1; (try k_lt l1)))
  k_with "call builtin:len" => ((k_here; k_dflt (refine' r_len (by k_asm) (by k_mem) (by exact IntsAre.length (by assumption)) (by l_bnd) ?_); intro t' tk'))
  k_with "truthy ref" => ((k_here; k_dflt (refine' r_truth (by k_asm) (by k_mem) (by omega) ?_ ?_); (all_goals intro hTT tk')))
  k_with "call ref" => ((k_here; k_extra "call inner"))
  k_with "MEM!" => (assumption)
  with_unfolding_all (conv at hparams => rhs; whnf)
  with_unfolding_all (conv at hbody => rhs; whnf)
  with_unfolding_all (conv at hscope => rhs; whnf)
  subst hparams hbody hscope hclos
  have hnpos := hn
  unfold InnD
  intro loose mean mg mb dp un gd cn cs a ccd cl outer A₀ h₀ L m s Q E l r t2 t3 B F X N T hk C mf mc ec ev mD mN eN mA eA mI eI hd h1 hl hr hi hb hdp hu hret
  obtain ⟨d20, d10, l63, gm0, gm1, gd, gr, gmn, gneg, gpos, gdd, gMr⟩ := halves hd h1 hl (Int.le_trans hr (Int.ofNat_le.mpr hlen20))
  have hbr : l + 1 ≠ r → _ := halves_ne hd h1
  have hone : l + 1 = r → _ := halves_one hd
  obtain ⟨hl1, hl2, hl0, hll, hlD⟩ := halves_len hd h1 hl hr
  obtain ⟨gsn, gs0, gs1, gxm, hn0⟩ := halves_n hn hn1 gd d20
  have gMlen := Int.le_trans gMr hr
  have hr9 := hr
  have hv := undig_bound (n := n.toNat) (sec_sub (l := l.toNat) (d := d) hb)
  rw [sec_len hlD] at hv
  have hvb : intBits (undig n.toNat (sec ns l.toNat d)) ≤ 400000 := Nat.le_trans (bits_le_of_lt hv.1 hv.2) gxm
  have hdp0 : dp < recursionLimit := room_0 hdp
  clear hd h1 gMr d10 d20 hlen20 hn1 hl1 hlD
  k_with "call inner" => ((first
      | (refine IH (d - d / 2) (hbr (by assumption)).2.2.2 (by k_asm) (by k_asm) (by k_asm) (by k_asm) (by k_asm) (by first | exact rfl | assumption) C mf mc ec ev mD mN eN mA eA mI eI gr (hbr (by assumption)).2.2.1 gm0 hr9 hi hb (room_half hdp (hbr (by assumption)).2.2.2) (units_half hu (hbr (by assumption)).2.2.2) ?_)
      | (refine IH (d / 2) (hbr (by assumption)).2.1 (by k_asm) (by k_asm) (by k_asm) (by k_asm) (by k_asm) (by first | exact rfl | assumption) C mf mc ec ev mD mN eN mA eA mI eI gd (hbr (by assumption)).1 hl gMlen hi hb (room_half hdp (hbr (by assumption)).2.1) (units_half hu (hbr (by assumption)).2.1) ?_)); intro v' t' h' tk' ev' ev0 evb F' N'; (try dsimp only); (try k_fold))
  refine wpAny_call ?_
  k_dflt (refine' code_nest ?k1 ?k2 ?k3 ?k4 ?k5 ?kA ?kF ?kK ?k6 ?k7 ?k8 ?k9 ?kB ?_ ?c2 ?c3 ?c4 ?c5; (case kA => exact rfl); (case kF => exact rfl); (case kK => assumption); (case k1 => k_asm); (case k2 => k_asm); (case k3 => k_asm); (case k4 => k_asm); (case k5 => k_asm); (case k6 => k_mem); (case k7 => exact codeRec_news (by k_asm) (by k_mem) (by assumption) (by assumption)); (case k8 => ktr_room); (case k9 => exact BindsTo.of_eq rfl); (case c5 => decide); (case kB => exact locs rfl); (case c2 => exact rfl); (case c3 => exact rfl); (case c4 => exact rfl); k_whole; intro g' L' h' FG' F' N' B' X' T'; (try dsimp only); (try k_lift B'); (try k_fold))
  k_steps
  · have hd1 : d = 1 := hone (by assumption)
    subst hd1
    have e := sec_one hll n.toNat
    exact hret _ _ _ _ e.symm (by rw [← e]; exact hv.1) (by rw [← e]; exact hvb) (by assumption) (by assumption)
  · (with_reducible rename _ = undig n.toNat (sec ns l.toNat (d / 2)) => z1)
    (with_reducible rename _ = undig n.toNat (sec ns ((l + r) / 2 ^ (1 : Int).toNat).toNat (d - d / 2)) => z2)
    have e := sec_two (n := n.toNat) hl2
    rw [gdd, ← gmn, ← gsn, ← z1, ← z2] at e
    exact hret _ _ _ _ e (by rw [e]; exact hv.1) (by rw [e]; exact hvb) (by assumption) (by assumption)
set_option maxHeartbeats 4000000 in
theorem c_d2i_F {w : World} {loose : List Str} {mean : ExcName → Option Value} {mg mb : Str → Option Value} {dp un : Nat} {gd : Option (List Code)} {cn : Str} {cs : Scope} {a : Addr} {ccd : Value} {cl : List (Str × Addr)} {outer : List Env} {A₀ : Around} {base h₀ : Heap} {L : Addr} {m : Str → Option Value} {news : List (Addr × Obj)} {s : Shared} {Q E : Value → Shared → Prop} {D : Addr} {vs : List Value} {ns : List Int} {nn : Nat} {n : Int} {t1 : Tok} (B : Below A₀ base outer h₀) (F : Fr h₀ L s.heap m) (X : (hd.heap_39 w.params).In h₀) (N : News h₀ L s.heap ((51, tabObj #[]) :: news)) (T : Top topProg loose mean mg mb h₀) (hk : cs.kind = .function)
    (C : CodeHd base 55 51) (hne : ∀ p ∈ news, p.1 ≠ 51) (mD : (D, listOf vs.toArray nn) ∈ news) (hi : IntsAre vs ns) (hb : ∀ a ∈ ns, 0 ≤ a ∧ a < 2 ^ n.toNat) (hn : 0 < n) (hn1 : n ≤ 16000) (hlen : ns.length ≤ 20)
    (hdp : dp + 30 < recursionLimit) (hu : un + 8 * 30 < cLine)
    (hret : ∀ c' oc vs0 tq t h' tk', oc.data = .fields vs0 → vs0[1]? = some (.str (Str.ofString "_digits2int.<locals>.inner") tq) → @LT.lt Nat _ L c' → Fr h₀ L h' m → News h₀ L h' ((51, tabObj #[rawInt 55, rawInt 4, .ref c']) :: (c', oc) :: news) → Q (.int (undig n.toNat ns) t) { s with heap := h', toks := tk' }) :
    wpAny (model PySem.Challenge.rw_wo0032_01.row.prog w) (ktrTop dp un gd cn cs L a ccd cl outer) (call (.ref 56) [.ref D, .int n t1]) Q E s := by
  w_top off
  k_with_none
  k_with "LT1!" => (first | with_reducible assumption | with_reducible exact Nat.lt_succ_self _ | with_reducible exact And.left (by assumption) | with_reducible exact And.left (And.right (by assumption)) | with_reducible exact And.left (And.right (And.right (by assumption))) | with_reducible exact And.left (And.right (And.right (And.right (by assumption)))) | with_reducible exact And.left (And.right (And.right (And.right (And.right (by assumption))))) | with_reducible exact And.left (And.right (And.right (And.right (And.right (And.right (by assumption)))))) | with_reducible exact And.right (by assumption) | with_reducible exact And.right (And.right (by assumption)) | with_reducible exact And.right (And.right (And.right (by assumption))) | with_reducible exact And.right (And.right (And.right (And.right (by assumption)))))
  k_with "LT!" => (first | k_extra "LT1!" | ((with_reducible refine (Nat.lt_succ_of_lt ?_ : @LT.lt Nat _ _ (_ + 1))); first | k_extra "LT1!" | ((with_reducible refine (Nat.lt_succ_of_lt ?_ : @LT.lt Nat _ _ (_ + 1))); first | k_extra "LT1!" | ((with_reducible refine (Nat.lt_succ_of_lt ?_ : @LT.lt Nat _ _ (_ + 1))); k_extra "LT1!"))))
  k_with "NE!" => (first | with_reducible assumption | with_reducible exact Ne.symm (by assumption) | decide | ((fail_if_success (fail_if_success omega)); first | ((with_reducible refine Nat.ne_of_gt ?_); (fail_if_success (fail_if_success omega)); k_extra "LT!") | ((with_reducible refine Nat.ne_of_lt ?_); (fail_if_success (fail_if_success omega)); k_extra "LT!") | with_reducible exact And.left (by assumption) | with_reducible exact And.left (And.right (by assumption)) | with_reducible exact And.left (And.right (And.right (by assumption))) | omega))
  k_with "KNE!" => ((refine neN ?_; (try dsimp only); k_extra "NE!"))
  k_with "LBND!" => (first | assumption | decide | with_reducible exact Int.lt_of_lt_of_le (by assumption) (by decide) | with_reducible exact Int.lt_of_le_of_lt (by assumption) (by decide) | with_reducible exact Int.le_trans (by assumption) (by decide) | with_reducible exact Int.lt_of_lt_of_le (by decide) (by assumption) | with_reducible exact Int.le_trans (by decide) (by assumption) | with_reducible exact Int.natCast_nonneg _ | with_reducible exact Int.ne_of_gt (by assumption) | with_reducible exact Int.le_of_lt (by assumption) | with_reducible exact Nat.lt_of_lt_of_le (by assumption) (by decide) | with_reducible exact Nat.lt_of_le_of_lt (by assumption) (by decide) | with_reducible exact Nat.le_trans (by assumption) (by decide) | k_dflt omega | l_fact)
  k_with "ROOM!" => (((try simp only [depth_under_make, depth_under_kw, depth_in1, depth_deeper, depth_caller]); (try dsimp only [ktrTop]); first | with_reducible assumption | exact room_0 (by with_reducible assumption) | exact room_le (by with_reducible assumption) (by decide) | exact room_12 (by with_reducible assumption) (by decide)))
  k_with "UNITS!" => (((try simp only [units_in1, units_deeper, Around.mark_units, units_caller]); (try dsimp only [ktrTop]); first | with_reducible assumption | exact room_0 (by with_reducible assumption) | exact room_le (by with_reducible assumption) (by decide) | exact room_12 (by with_reducible assumption) (by decide) | exact room_123 (by with_reducible assumption) (by decide)))
  k_with "BITS!" => (first | (with_reducible assumption) | ((with_reducible apply bits_ediv2); bits_by_make) | ((with_reducible refine bits_emod2 ?_ ?_); (focus l_bnd); bits_by_make))
  k_with "binaryOp LShift int int" => ((k_here; (with_reducible refine' r_shl (by l_bnd) (by bits_by_make) (by l_bnd) (by decide) ?_)))
  k_with "inplaceOp LShift int int" => ((k_here; (with_reducible refine' ishl (by l_bnd) (by bits_by_make) (by l_bnd) (by decide) ?_)))
  k_with "binaryOp RShift int int" => ((k_here; (with_reducible refine r_shr (by l_bnd) ?_)))
  k_with "inplaceOp RShift int int" => ((k_here; (with_reducible refine ishr (by l_bnd) ?_)))
  k_with "binaryOp BitOr int int" => ((k_here; (with_reducible refine r_or (by l_bnd) (by l_bnd) (by l_bnd) ?_)))
  k_with "binaryOp BitAnd int int" => ((k_here; first | (with_reducible refine r_and1 ?_) | ((with_reducible refine r_mask (by l_bnd) ?_))))
  k_with "call builtin:divmod" => ((k_here; (with_reducible show wpAny _ _ (call (Value.builtin _) [Value.int _ _, Value.int _ _]) _ _ _); (refine' r_divmod (by assumption) (by assumption) (by l_bnd) (by first | assumption | exact noPy (by omega)) ?_); intro D' t1' t2' h' tk' F' N' l1; (try k_lt l1)))
  k_with "ALL!" => (first | assumption | (refine' allNe (by assumption)) | (refine' allNeLt (by assumption) (by first | exact Nat.le_add_right _ 1 | exact Nat.le_add_right _ 2 | exact Nat.le_add_right _ 3 | omega)))
  k_with "binaryOp Mult ref int" => ((k_here; k_dflt (refine' r_rep0 (by k_asm) (by k_asm) (by k_mem) (by l_bnd) (by l_bnd) ?_); intro D' h' F' N' l1; (try k_lt l1)))
  k_with "call builtin:len" => ((k_here; k_dflt (refine' r_len (by k_asm) (by k_mem) (by exact IntsAre.length (by assumption)) (by l_bnd) ?_); intro t' tk'))
  k_with "truthy ref" => ((k_here; k_dflt (refine' r_truth (by k_asm) (by k_mem) (by omega) ?_ ?_); (all_goals intro hTT tk')))
  k_with "call ref" => ((k_here; k_extra "call inner"))
  k_with "MEM!" => (assumption)
  have hvl := hi.length
  have hl9 : ns.length ≤ 1000000000 := Nat.le_trans hlen (by decide)
  have hv9 : vs.length ≤ 1000000000 := hvl ▸ hl9
  revert B F X N T
  k_fill
  intro B F X N T
  refine wpAny_call ?_
  k_dflt (refine' code_defC ?k1 ?k2 ?k3 ?k4 ?k5 ?kA ?kF ?kK ?k6 ?k7 ?k8 ?k9 ?kB ?kD ?_ ?c2 ?c3 ?c4; (case kA => exact rfl); (case kF => exact rfl); (case kK => assumption); (case k1 => k_asm); (case k2 => k_asm); (case k3 => k_asm); (case k4 => k_asm); (case k5 => k_asm); (case k6 => k_is); (case k7 => k_is); (case k8 => ktr_room); (case k9 => first | exact BindsTo.of_eq rfl | exact binds_K (by k_in) rfl (by k_is) rfl rfl rfl); (case kB => exact rfl); (case kD => decide +kernel); (case c2 => exact rfl); (case c3 => exact rfl); (case c4 => exact rfl); k_whole; intro g' L' h' tk' cells' FG' F' N' Y' B' X' T' l1; (try k_lt l1); k_cells Y'; (try simp only [List.cons_append, List.nil_append] at N'); (try dsimp only); (try k_lift B'); (try k_fold))
  have lN : AllLt _ news := And.right (by assumption)
  have hLL : @LT.lt Nat _ L L' := Nat.lt_of_lt_of_le FG'.ns.lt F'.above
  k_steps
  · (with_reducible rename vs = [] => hTT)
    have e0 : undig n.toNat ns = 0 := by
      have : ns = [] := List.length_eq_zero_iff.mp (by rw [← hvl, hTT]; rfl)
      subst this; rfl
    simp only [e0] at hret
    (refine hret _ _ _ _ _ _ _ (by assumption) (by assumption) ?_ (by assumption) (nsE (by assumption)); omega)
  k_dflt (refine' innD_use ?z1 ?z2 ?z3 ?z4 ?z5 ?z6 ?z7 ?z8 ?z9 ?z10 ?z11 ?mD ?y1 ?z14 ?z15 ?y2 ?z16 ?z17 ?y3 ?z18 ?z19 ?zstep ?w1 ?w2 ?w3 ?w4 ?w5 ?w6 ?zret; (case z1 => k_asm); (case z2 => k_asm); (case z3 => k_asm); (case z4 => k_asm); (case z5 => k_asm); (case z6 => exact rfl); (case z7 => kn_code); (case z8 => k_mem); (case z9 => k_mem); (case z10 => assumption); (case z11 => assumption); (case y1 => rfl); (case y2 => rfl); (case y3 => rfl); (case z14 => k_mem); (case z15 => assumption); (case z16 => k_mem); (case z17 => assumption); (case z18 => k_mem); (case z19 => assumption); (case mD => k_mem))
  case w2 => exact hi
  case w3 => rfl
  case w4 => exact hb
  case w5 => exact room_len hdp hlen
  case w6 => exact units_len hu hlen
  case w1 => exact len_pos hvl (by assumption)
  case zret =>
    intro t' h' tk' F' N'
    (try dsimp only)
    k_steps
    (refine hret _ _ _ _ _ _ _ (by assumption) (by assumption) ?_ (by assumption) (nsE (by assumption)); omega)
  case zstep => exact innD_step (by with_unfolding_all rfl) (by with_unfolding_all rfl) (by with_unfolding_all rfl) rfl hn hn1 hlen
set_option maxHeartbeats 4000000 in
theorem c_d2i_M {w : World} {c0 : Addr} {oc0 : Obj} {vs00 : Array Value} {t00 : Tok} {loose : List Str} {mean : ExcName → Option Value} {mg mb : Str → Option Value} {dp un : Nat} {gd : Option (List Code)} {cn : Str} {cs : Scope} {a : Addr} {ccd : Value} {cl : List (Str × Addr)} {outer : List Env} {A₀ : Around} {base h₀ : Heap} {L : Addr} {m : Str → Option Value} {news : List (Addr × Obj)} {s : Shared} {Q E : Value → Shared → Prop} {D : Addr} {vs : List Value} {ns : List Int} {nn : Nat} {n : Int} {t1 : Tok} (B : Below A₀ base outer h₀) (F : Fr h₀ L s.heap m) (X : (hd.heap_39 w.params).In h₀) (N : News h₀ L s.heap ((51, tabObj #[rawInt 55, rawInt 4, .ref c0]) :: (c0, oc0) :: news)) (T : Top topProg loose mean mg mb h₀) (hk : cs.kind = .function)
    (C : CodeHd base 55 51) (hoc0 : oc0.data = .fields vs00) (hvs0 : vs00[1]? = some (.str (Str.ofString "_digits2int.<locals>.inner") t00)) (hne : ∀ p ∈ news, p.1 ≠ 51) (mD : (D, listOf vs.toArray nn) ∈ news) (hi : IntsAre vs ns) (hb : ∀ a ∈ ns, 0 ≤ a ∧ a < 2 ^ n.toNat) (hn : 0 < n) (hn1 : n ≤ 16000) (hlen : ns.length ≤ 20)
    (hdp : dp + 30 < recursionLimit) (hu : un + 8 * 30 < cLine)
    (hret : ∀ t h' tk', Fr h₀ L h' m → News h₀ L h' ((51, tabObj #[rawInt 55, rawInt 4, .ref c0]) :: (c0, oc0) :: news) → Q (.int (undig n.toNat ns) t) { s with heap := h', toks := tk' }) :
    wpAny (model PySem.Challenge.rw_wo0032_01.row.prog w) (ktrTop dp un gd cn cs L a ccd cl outer) (call (.ref 56) [.ref D, .int n t1]) Q E s := by
  w_top off
  k_with_none
  k_with "LT1!" => (first | with_reducible assumption | with_reducible exact Nat.lt_succ_self _ | with_reducible exact And.left (by assumption) | with_reducible exact And.left (And.right (by assumption)) | with_reducible exact And.left (And.right (And.right (by assumption))) | with_reducible exact And.left (And.right (And.right (And.right (by assumption)))) | with_reducible exact And.left (And.right (And.right (And.right (And.right (by assumption))))) | with_reducible exact And.left (And.right (And.right (And.right (And.right (And.right (by assumption)))))) | with_reducible exact And.right (by assumption) | with_reducible exact And.right (And.right (by assumption)) | with_reducible exact And.right (And.right (And.right (by assumption))) | with_reducible exact And.right (And.right (And.right (And.right (by assumption)))))
  k_with "LT!" => (first | k_extra "LT1!" | ((with_reducible refine (Nat.lt_succ_of_lt ?_ : @LT.lt Nat _ _ (_ + 1))); first | k_extra "LT1!" | ((with_reducible refine (Nat.lt_succ_of_lt ?_ : @LT.lt Nat _ _ (_ + 1))); first | k_extra "LT1!" | ((with_reducible refine (Nat.lt_succ_of_lt ?_ : @LT.lt Nat _ _ (_ + 1))); k_extra "LT1!"))))
  k_with "NE!" => (first | with_reducible assumption | with_reducible exact Ne.symm (by assumption) | decide | ((fail_if_success (fail_if_success omega)); first | ((with_reducible refine Nat.ne_of_gt ?_); (fail_if_success (fail_if_success omega)); k_extra "LT!") | ((with_reducible refine Nat.ne_of_lt ?_); (fail_if_success (fail_if_success omega)); k_extra "LT!") | with_reducible exact And.left (by assumption) | with_reducible exact And.left (And.right (by assumption)) | with_reducible exact And.left (And.right (And.right (by assumption))) | omega))
  k_with "KNE!" => ((refine neN ?_; (try dsimp only); k_extra "NE!"))
  k_with "LBND!" => (first | assumption | decide | with_reducible exact Int.lt_of_lt_of_le (by assumption) (by decide) | with_reducible exact Int.lt_of_le_of_lt (by assumption) (by decide) | with_reducible exact Int.le_trans (by assumption) (by decide) | with_reducible exact Int.lt_of_lt_of_le (by decide) (by assumption) | with_reducible exact Int.le_trans (by decide) (by assumption) | with_reducible exact Int.natCast_nonneg _ | with_reducible exact Int.ne_of_gt (by assumption) | with_reducible exact Int.le_of_lt (by assumption) | with_reducible exact Nat.lt_of_lt_of_le (by assumption) (by decide) | with_reducible exact Nat.lt_of_le_of_lt (by assumption) (by decide) | with_reducible exact Nat.le_trans (by assumption) (by decide) | k_dflt omega | l_fact)
  k_with "ROOM!" => (((try simp only [depth_under_make, depth_under_kw, depth_in1, depth_deeper, depth_caller]); (try dsimp only [ktrTop]); first | with_reducible assumption | exact room_0 (by with_reducible assumption) | exact room_le (by with_reducible assumption) (by decide) | exact room_12 (by with_reducible assumption) (by decide)))
  k_with "UNITS!" => (((try simp only [units_in1, units_deeper, Around.mark_units, units_caller]); (try dsimp only [ktrTop]); first | with_reducible assumption | exact room_0 (by with_reducible assumption) | exact room_le (by with_reducible assumption) (by decide) | exact room_12 (by with_reducible assumption) (by decide) | exact room_123 (by with_reducible assumption) (by decide)))
  k_with "BITS!" => (first | (with_reducible assumption) | ((with_reducible apply bits_ediv2); bits_by_make) | ((with_reducible refine bits_emod2 ?_ ?_); (focus l_bnd); bits_by_make))
  k_with "binaryOp LShift int int" => ((k_here; (with_reducible refine' r_shl (by l_bnd) (by bits_by_make) (by l_bnd) (by decide) ?_)))
  k_with "inplaceOp LShift int int" => ((k_here; (with_reducible refine' ishl (by l_bnd) (by bits_by_make) (by l_bnd) (by decide) ?_)))
  k_with "binaryOp RShift int int" => ((k_here; (with_reducible refine r_shr (by l_bnd) ?_)))
  k_with "inplaceOp RShift int int" => ((k_here; (with_reducible refine ishr (by l_bnd) ?_)))
  k_with "binaryOp BitOr int int" => ((k_here; (with_reducible refine r_or (by l_bnd) (by l_bnd) (by l_bnd) ?_)))
  k_with "binaryOp BitAnd int int" => ((k_here; first | (with_reducible refine r_and1 ?_) | ((with_reducible refine r_mask (by l_bnd) ?_))))
  k_with "call builtin:divmod" => ((k_here; (with_reducible show wpAny _ _ (call (Value.builtin _) [Value.int _ _, Value.int _ _]) _ _ _); (refine' r_divmod (by assumption) (by assumption) (by l_bnd) (by first | assumption | exact noPy (by omega)) ?_); intro D' t1' t2' h' tk' F' N' l1; (try k_lt l1)))
  k_with "ALL!" => (first | assumption | (refine' allNe (by assumption)) | (refine' allNeLt (by assumption) (by first | exact Nat.le_add_right _ 1 | exact Nat.le_add_right _ 2 | exact Nat.le_add_right _ 3 | omega)))
  k_with "binaryOp Mult ref int" => ((k_here; k_dflt (refine' r_rep0 (by k_asm) (by k_asm) (by k_mem) (by l_bnd) (by l_bnd) ?_); intro D' h' F' N' l1; (try k_lt l1)))
  k_with "call builtin:len" => ((k_here; k_dflt (refine' r_len (by k_asm) (by k_mem) (by exact IntsAre.length (by assumption)) (by l_bnd) ?_); intro t' tk'))
  k_with "truthy ref" => ((k_here; k_dflt (refine' r_truth (by k_asm) (by k_mem) (by omega) ?_ ?_); (all_goals intro hTT tk')))
  k_with "call ref" => ((k_here; k_extra "call inner"))
  k_with "MEM!" => (assumption)
  have hvl := hi.length
  have hl9 : ns.length ≤ 1000000000 := Nat.le_trans hlen (by decide)
  have hv9 : vs.length ≤ 1000000000 := hvl ▸ hl9
  revert B F X N T
  k_fill
  intro B F X N T
  refine wpAny_call ?_
  k_dflt (refine' code_defC ?k1 ?k2 ?k3 ?k4 ?k5 ?kA ?kF ?kK ?k6 ?k7 ?k8 ?k9 ?kB ?kD ?_ ?c2 ?c3 ?c4; (case kA => exact rfl); (case kF => exact rfl); (case kK => assumption); (case k1 => k_asm); (case k2 => k_asm); (case k3 => k_asm); (case k4 => k_asm); (case k5 => k_asm); (case k6 => k_is); (case k7 => k_is); (case k8 => ktr_room); (case k9 => first | exact BindsTo.of_eq rfl | exact binds_K (by k_in) rfl (by k_is) rfl rfl rfl); (case kB => exact rfl); (case kD => decide +kernel); (case c2 => exact rfl); (case c3 => exact rfl); (case c4 => exact rfl); k_whole; intro g' L' h' tk' cells' FG' F' N' Y' B' X' T' l1; (try k_lt l1); k_cells Y'; (try simp only [List.cons_append, List.nil_append] at N'); (try dsimp only); (try k_lift B'); (try k_fold))
  have lN : AllLt _ news := And.right (And.right (by assumption))
  have hLL : @LT.lt Nat _ L L' := Nat.lt_of_lt_of_le FG'.ns.lt F'.above
  k_steps
  · (with_reducible rename vs = [] => hTT)
    have e0 : undig n.toNat ns = 0 := by
      have : ns = [] := List.length_eq_zero_iff.mp (by rw [← hvl, hTT]; rfl)
      subst this; rfl
    simp only [e0] at hret
    exact hret _ _ _ (by assumption) (nsF (by assumption))
  k_dflt (refine' innD_use ?z1 ?z2 ?z3 ?z4 ?z5 ?z6 ?z7 ?z8 ?z9 ?z10 ?z11 ?mD ?y1 ?z14 ?z15 ?y2 ?z16 ?z17 ?y3 ?z18 ?z19 ?zstep ?w1 ?w2 ?w3 ?w4 ?w5 ?w6 ?zret; (case z1 => k_asm); (case z2 => k_asm); (case z3 => k_asm); (case z4 => k_asm); (case z5 => k_asm); (case z6 => exact rfl); (case z7 => kn_code); (case z8 => k_mem); (case z9 => k_mem); (case z10 => assumption); (case z11 => assumption); (case y1 => rfl); (case y2 => rfl); (case y3 => rfl); (case z14 => k_mem); (case z15 => assumption); (case z16 => k_mem); (case z17 => assumption); (case z18 => k_mem); (case z19 => assumption); (case mD => k_mem))
  case w2 => exact hi
  case w3 => rfl
  case w4 => exact hb
  case w5 => exact room_len hdp hlen
  case w6 => exact units_len hu hlen
  case w1 => exact len_pos hvl (by assumption)
  case zret =>
    intro t' h' tk' F' N'
    (try dsimp only)
    k_steps
    exact hret _ _ _ (by assumption) (nsF (by assumption))
  case zstep => exact innD_step (by with_unfolding_all rfl) (by with_unfolding_all rfl) (by with_unfolding_all rfl) rfl hn hn1 hlen
end Mine
end
section
namespace Mine
def RPost (h₀ : Heap) (L : Addr) (s : Shared) (m₀ : Str → Option Value) (fg : List Str) (rn : Str) (I₀ : Addr) (it : Obj) (Dq : Addr) (rest : List (Addr × Obj)) (P : Int → List Int → Prop) (f : Flow) (s₂ : Shared) : Prop :=
  f = .next ∧ ∃ h' tk m' vs' ns' nn' r' tr', s₂ = { s with heap := h', toks := tk } ∧ Fr h₀ L h' m' ∧ News h₀ L h' ((I₀, it) :: (Dq, listOf (vs' : List Value).toArray nn') :: rest) ∧ IntsAre vs' ns' ∧ m' rn = some (.int r' tr') ∧ (∀ z, z ≠ rn → fg.contains z = false → m' z = m₀ z) ∧ P r' ns'
section
variable {prog : Program} {w : World} {A : Around} {E : Value → Shared → Prop} {Q : Flow → Shared → Prop} {s : Shared} {env : Env} {h₀ : Heap} {x : Str} {body : List Stmt}
theorem RPost.intro {L : Addr} {m₀ m' : Str → Option Value} {fg : List Str} {rn : Str} {I₀ Dq : Addr} {it : Obj} {rest : List (Addr × Obj)} {P : Int → List Int → Prop} {h' : Heap} {tk : Nat} {vs' : List Value} {ns' : List Int} {nn' : Nat} {r' : Int} {tr' : Tok}
    (F : Fr h₀ L h' m') (N : News h₀ L h' ((I₀, it) :: (Dq, listOf vs'.toArray nn') :: rest)) (hi : IntsAre vs' ns') (hr : m' rn = some (.int r' tr')) (hz : ∀ z, z ≠ rn → fg.contains z = false → m' z = m₀ z) (hP : P r' ns') :
    RPost h₀ L s m₀ fg rn I₀ it Dq rest P .next { s with heap := h', toks := tk } := ⟨rfl, h', tk, m', vs', ns', nn', r', tr', rfl, F, N, hi, hr, hz, hP⟩
theorem rev_rest {I₀ Dq Da : Addr} {lo : Obj} {m₀ : Str → Option Value} {fg : List Str} {rn : Str} {rest : List (Addr × Obj)} (I : List Int → Int → List Int → Prop)
    (hx : fg.contains x = true) (hrx : rn ≠ x) (hrf : fg.contains rn = false) (hlp : (Da, lo) ∈ rest) (hoff : ∀ p ∈ rest, p.1 ≠ I₀) (hDq : Dq ≠ I₀)
    (turn : ∀ a t rem r tr vs ns nn (u : Str → Option Value) it h tk, IntsAre vs ns → I (a :: rem) r ns → Fr h₀ env.locals h (fun y => if y = x then some (.int a t) else if y = rn then some (.int r tr) else if fg.contains y then u y else m₀ y) →
      News h₀ env.locals h ((I₀, it) :: (Dq, listOf vs.toArray nn) :: rest) →
      wpAny (model prog w) A (execs body env) (RPost h₀ env.locals { s with heap := h, toks := tk } m₀ fg rn I₀ it Dq rest (I rem)) E { s with heap := h, toks := tk })
    (done : ∀ r tr vs ns nn (u : Str → Option Value) h tk, IntsAre vs ns → I [] r ns → Fr h₀ env.locals h (fun y => if y = rn then some (.int r tr) else if fg.contains y then u y else m₀ y) → News h₀ env.locals h ((Dq, listOf vs.toArray nn) :: rest) → Q .next { s with heap := h, toks := tk }) :
    ∀ (rv : List Value) (rem : List Int), IntsAre rv rem → ∀ r tr vs ns nn (u : Str → Option Value), IntsAre vs ns → I rem r ns →
      RevRest prog w A E h₀ env x body Q s I₀ (Da, lo) rv (fun y => if y = rn then some (.int r tr) else if fg.contains y then u y else m₀ y) ((Dq, listOf vs.toArray nn) :: rest)
  | _, _, .nil, r, tr, vs, ns, nn, u, hi, hI => fun h tk F N => done r tr vs ns nn u h tk hi hI F N
  | _, _, .cons a t hrv, r, tr, vs, ns, nn, u, hi, hI => fun it h tk hc F N => by
    refine wpAny_mono (turn a t _ r tr vs ns nn u it h tk hi hI F N) (fun f s₂ p => ?_) fun _ _ e => e
    obtain ⟨rfl, h', tk', m', vs', ns', nn', r', tr', rfl, F', N', hi', hr', hz', hI'⟩ := p
    refine ⟨h', tk', m', (Dq, listOf vs'.toArray nn') :: rest, rfl, F', N', fun p hp => ?_, .tail _ hlp, ?_⟩
    · rcases List.mem_cons.mp hp with rfl | hp
      · exact hDq
      · exact hoff p hp
    · have em : m' = fun y => if y = rn then some (.int r' tr') else if fg.contains y then m' y else m₀ y := by
        funext y
        by_cases h1 : y = rn
        · subst h1; simp [hr']
        · rw [if_neg h1]
          cases h2 : fg.contains y with
          | true => simp
          | false => simp only [Bool.false_eq_true, if_false]; exact hz' y h1 h2
      rw [em]
      exact rev_rest I hx hrx hrf hlp hoff hDq turn done _ _ hrv r' tr' vs' ns' nn' m' hi' hI'
theorem ints_rev : ∀ {vs : List Value} {ns : List Int}, IntsAre vs ns → IntsAre vs.reverse ns.reverse := by
  intro vs ns h
  induction h with
  | nil => exact .nil
  | cons n t h ih =>
    rw [List.reverse_cons, List.reverse_cons]
    clear h
    revert ih
    generalize List.reverse _ = a
    generalize List.reverse _ = b
    intro ih
    induction ih with
    | nil => exact .cons _ _ .nil
    | cons _ _ _ ih2 => exact .cons _ _ ih2
theorem rev_loop {I₀ Dq Da : Addr} {m₀ : Str → Option Value} {fg : List Str} {rn : Str} {rest : List (Addr × Obj)} {av : List Value} {as : List Int} {an : Nat} {r0 : Int} {tr0 : Tok} {vs0 : List Value} {ns0 : List Int} {nn0 : Nat} (I : List Int → Int → List Int → Prop)
    (hh : A.handled = none) (F : Fr h₀ env.locals s.heap m₀) (N : News h₀ env.locals s.heap ((I₀, revObj Da ((av.length : Int) - 1)) :: (Dq, listOf vs0.toArray nn0) :: rest)) (ha : IntsAre av as) (hr0 : m₀ rn = some (.int r0 tr0)) (hi0 : IntsAre vs0 ns0) (hI0 : I as.reverse r0 ns0)
    (hx : fg.contains x = true) (hrx : rn ≠ x) (hrf : fg.contains rn = false) (hlp : (Da, listOf av.toArray an) ∈ rest) (hoff : ∀ p ∈ rest, p.1 ≠ I₀) (hDq : Dq ≠ I₀)
    (turn : ∀ a t rem r tr vs ns nn (u : Str → Option Value) it h tk, IntsAre vs ns → I (a :: rem) r ns → Fr h₀ env.locals h (fun y => if y = x then some (.int a t) else if y = rn then some (.int r tr) else if fg.contains y then u y else m₀ y) →
      News h₀ env.locals h ((I₀, it) :: (Dq, listOf vs.toArray nn) :: rest) →
      wpAny (model prog w) A (execs body env) (RPost h₀ env.locals { s with heap := h, toks := tk } m₀ fg rn I₀ it Dq rest (I rem)) E { s with heap := h, toks := tk })
    (done : ∀ r tr vs ns nn (u : Str → Option Value) h tk, IntsAre vs ns → I [] r ns → Fr h₀ env.locals h (fun y => if y = rn then some (.int r tr) else if fg.contains y then u y else m₀ y) → News h₀ env.locals h ((Dq, listOf vs.toArray nn) :: rest) → Q .next { s with heap := h, toks := tk }) :
    wpAny (model prog w) A (pyIter (.ref I₀)) (fun it s₂ => LoopAtV prog w A h₀ env x body Q E it s₂) E s := by
  have em : m₀ = fun y => if y = rn then some (.int r0 tr0) else if fg.contains y then m₀ y else m₀ y := by
    funext y
    by_cases h1 : y = rn
    · subst h1; simp [hr0]
    · simp [h1]
  have hof : OffI I₀ (revObj Da ((av.length : Int) - 1)) ((Dq, listOf vs0.toArray nn0) :: rest) := by
    refine ⟨.inl hDq, ?_⟩
    clear N hlp turn done
    induction rest with
    | nil => exact trivial
    | cons p r ih => exact ⟨.inl (hoff p (.head _)), ih fun q hq => hoff q (.tail _ hq)⟩
  refine iter_revUnr hh F N hof (.tail _ hlp) rfl rfl ?_
  rw [em]
  have := rev_rest (prog := prog) (w := w) (A := A) (E := E) (Q := Q) (s := s) (body := body) (m₀ := m₀) I hx hrx hrf hlp hoff hDq turn done av.reverse as.reverse (ints_rev ha) r0 tr0 vs0 ns0 nn0 m₀ hi0 hI0
  exact this
end
end Mine
end
section
namespace Mine
open Builtin.Int (intBits)
structure LI (n : Nat) (x b : Int) (m : Nat) (rem : List Int) (r : Int) (ns : List Int) : Prop where
  e : rem = (digs n x rem.length).reverse
  r : r = (x / 2 ^ (n * rem.length)) % b
  q : undig n ns.reverse = (x / 2 ^ (n * rem.length)) / b
  bd : ∀ a ∈ ns, 0 ≤ a ∧ a < 2 ^ n
  len : ns.length + rem.length = m
theorem LI.start {n : Nat} {x b : Int} {m : Nat} (hx : 0 ≤ x) (hb : 0 < b) (hlt : x < 2 ^ (n * m)) : LI n x b m (digs n x m).reverse 0 [] := by
  have hl : (digs n x m).reverse.length = m := by rw [List.length_reverse, digs_len]
  have h0 : x / 2 ^ (n * m) = 0 := Int.ediv_eq_zero_of_lt hx hlt
  refine ⟨by rw [hl], by rw [hl, h0]; rfl, by rw [hl, h0]; simp [undig], fun a ha => (nomatch ha), by rw [hl]; simp⟩
theorem digs_succ (n : Nat) (x : Int) (k : Nat) : (digs n x (k + 1)).reverse = (x / 2 ^ (n * k) % 2 ^ n) :: (digs n x k).reverse := by
  unfold digs
  rw [List.range_succ, List.map_append, List.reverse_append]
  rfl
theorem LI.head {n : Nat} {x b : Int} {m : Nat} {a : Int} {rem : List Int} {r : Int} {ns : List Int} (h : LI n x b m (a :: rem) r ns) : a = x / 2 ^ (n * rem.length) % 2 ^ n ∧ rem = (digs n x rem.length).reverse := by
  have h1 := h.e
  rw [List.length_cons, digs_succ] at h1
  exact ⟨(List.cons.inj h1).1, (List.cons.inj h1).2⟩
theorem LI.bounds {n : Nat} {x b : Int} {m : Nat} {a : Int} {rem : List Int} {r : Int} {ns : List Int} (hb : 0 < b) (h : LI n x b m (a :: rem) r ns) : 0 ≤ r ∧ r < b ∧ 0 ≤ a ∧ a < 2 ^ n := by
  refine ⟨by rw [h.r]; exact Int.emod_nonneg _ (by omega), by rw [h.r]; exact Int.emod_lt_of_pos _ hb, ?_, ?_⟩
  · rw [h.head.1]; exact (mod_b _ _).1
  · rw [h.head.1]; exact (mod_b _ _).2
theorem LI.lt {n : Nat} {x b : Int} {m : Nat} {a : Int} {rem : List Int} {r : Int} {ns : List Int} (hb : 0 < b) (h : LI n x b m (a :: rem) r ns) : 0 ≤ r * 2 ^ n + a ∧ r * 2 ^ n + a < b * 2 ^ n := by
  obtain ⟨h1, h2, h3, h4⟩ := h.bounds hb
  have hp := pow2_pos n
  refine ⟨Int.add_nonneg (Int.mul_nonneg h1 (Int.le_of_lt hp)) h3, ?_⟩
  have h5 : (r + 1) * 2 ^ n ≤ b * 2 ^ n := Int.mul_le_mul_of_nonneg_right (by omega) (Int.le_of_lt hp)
  rw [Int.add_mul, Int.one_mul] at h5
  omega
theorem LI.step {n : Nat} {x b : Int} {m : Nat} {a : Int} {rem : List Int} {r : Int} {ns : List Int} {q r' : Int} (hb : 0 < b) (h : LI n x b m (a :: rem) r ns) (eq : q = (r * 2 ^ n + a) / b) (er : r' = (r * 2 ^ n + a) % b) : LI n x b m rem r' (ns ++ [q]) := by
  have hlt := h.lt hb
  have hp := pow2_pos n
  have e1 : x / 2 ^ (n * (rem.length + 1)) = x / 2 ^ (n * rem.length) / 2 ^ n := by
    rw [Nat.mul_succ, Int.pow_add, ← Int.ediv_ediv_of_nonneg (Int.le_of_lt (pow2_pos _))]
  have h2 := h.r
  have h3 := h.q
  rw [List.length_cons, e1] at h2 h3
  have ha := h.head.1
  generalize hV : x / 2 ^ (n * rem.length) = V at *
  have e2 := Int.emod_add_mul_ediv V (2 ^ n)
  have e3 := Int.emod_add_mul_ediv (V / 2 ^ n) b
  rw [← h2] at e3
  rw [← ha] at e2
  have e4 := Int.emod_add_mul_ediv (r * 2 ^ n + a) b
  rw [← eq, ← er] at e4
  have hr0 : 0 ≤ r' := by rw [er]; exact Int.emod_nonneg _ (by omega)
  have hr1 : r' < b := by rw [er]; exact Int.emod_lt_of_pos _ hb
  have key : r' + b * (V / 2 ^ n / b * 2 ^ n + q) = V := by
    rw [Int.mul_add, ← Int.mul_assoc]
    have h5 : b * (V / 2 ^ n / b) = V / 2 ^ n - r := by omega
    rw [h5, Int.sub_mul, Int.mul_comm (V / 2 ^ n)]
    omega
  have hu := (Int.ediv_emod_unique (a := V) (r := r') (q := V / 2 ^ n / b * 2 ^ n + q) hb).mpr ⟨key, hr0, hr1⟩
  refine ⟨h.head.2, by rw [hV]; exact hu.2.symm, ?_, ?_, ?_⟩
  · rw [hV, List.reverse_append]
    show undig n (q :: ns.reverse) = V / b
    have : undig n (q :: ns.reverse) = q + 2 ^ n * undig n ns.reverse := rfl
    rw [this, h3, hu.1, Int.mul_comm]; omega
  · intro c hc
    rcases List.mem_append.mp hc with hc | hc
    · exact h.bd c hc
    · rw [List.mem_singleton.mp hc, eq]
      exact ⟨Int.ediv_nonneg hlt.1 (Int.le_of_lt hb), Int.ediv_lt_of_lt_mul hb (by rw [Int.mul_comm (2 ^ n)]; exact hlt.2)⟩
  · have := h.len
    simp only [List.length_cons, List.length_append, List.length_nil] at this ⊢
    omega
theorem LI.fin {n : Nat} {x b : Int} {m : Nat} {r : Int} {ns : List Int} (h : LI n x b m [] r ns) : r = x % b ∧ undig n ns.reverse = x / b ∧ ns.length = m ∧ ∀ a ∈ ns.reverse, 0 ≤ a ∧ a < 2 ^ n := by
  have h1 := h.r; have h2 := h.q; have h3 := h.len
  simp only [List.length_nil, Nat.mul_zero, Int.pow_zero, Int.ediv_one, Nat.add_zero] at h1 h2 h3
  exact ⟨h1, h2, h3, fun a ha => h.bd a (List.mem_reverse.mp ha)⟩
end Mine
namespace Mine
theorem cd_lt {base h₀ h : Heap} {c P : Addr} (C : CodeHd base c P) (k : base.StaysIn h₀) (k2 : ∀ b o, h₀.get? b = some o → h.get? b = some o) : @LT.lt Nat _ c h₀.objs.size := by
  obtain ⟨o, vs, file, tf, flags, tg, inF, text, tt, e, r⟩ := C
  exact Heap.lt_size (k _ _ e)
end Mine
namespace Mine
theorem ndh {h₀ h : Heap} {L : Addr} {x : Addr × Obj} {l : List (Addr × Obj)} (N : News h₀ L h (x :: l)) : News h₀ L h l := fun p hp => N p (.tail _ hp)
theorem ints_snoc {x : Int} {u : Tok} : ∀ {vs : List Value} {ns : List Int}, IntsAre vs ns → IntsAre (vs ++ [.int x u]) (ns ++ [x])
  | _, _, .nil => .cons _ _ .nil
  | _, _, .cons i t h => .cons i t (ints_snoc h)
end Mine
namespace Mine
open Builtin.Int (intBits)
theorem ceil_facts {x n : Int} (hn : 0 < n) : intBits x ≤ n.toNat * ((((intBits x : Nat) : Int) + n - 1) / n).toNat ∧ ((intBits x : Int) ≤ 20 * n → ((((intBits x : Nat) : Int) + n - 1) / n).toNat ≤ 20) := by
  have hm0 : 0 ≤ (((intBits x : Nat) : Int) + n - 1) / n := Int.ediv_nonneg (by omega) (by omega)
  have h1 := Int.emod_add_mul_ediv (((intBits x : Nat) : Int) + n - 1) n
  have hrem := Int.emod_lt_of_pos (((intBits x : Nat) : Int) + n - 1) hn
  refine ⟨?_, fun h => ?_⟩
  · have h2 : ((n.toNat * ((((intBits x : Nat) : Int) + n - 1) / n).toNat : Nat) : Int) = n * ((((intBits x : Nat) : Int) + n - 1) / n) := by
      rw [Int.natCast_mul, Int.toNat_of_nonneg hm0, Int.toNat_of_nonneg (Int.le_of_lt hn)]
    omega
  · have : (((intBits x : Nat) : Int) + n - 1) / n < 21 := Int.ediv_lt_of_lt_mul hn (by omega)
    omega
end Mine
namespace Mine
section
variable {prog : Program} {w : World} {A : Around} {E : Value → Shared → Prop} {s : Shared} {h₀ : Heap} {L D : Addr} {m : Str → Option Value} {news news' : List (Addr × Obj)}
theorem r_rev {vs : List Value} {n : Nat} {Q : Value → Shared → Prop} (F : Fr h₀ L s.heap m) (N : News h₀ L s.heap news) (U : Upd D (listOf vs.toArray n) (listOf vs.reverse.toArray n) news news') (hz : vs.length ≤ 1000000)
    (h : ∀ h', Fr h₀ L h' m → News h₀ L h' news' → Q .none { s with heap := h' }) : wpAny (model prog w) A (call (.builtin "list.reverse") [.ref D]) Q E s :=
  kl_reverse F N (l := vs.reverse) (by simp) U (by rw [sizeLine_eq]; simp; omega) h
end
end Mine
end
section
set_option maxRecDepth 100000
namespace Mine
open Builtin.Int (intBits)
theorem c_i2d {w : World} {loose : List Str} {mean : ExcName → Option Value} {mg mb : Str → Option Value} {dp un : Nat} {gd : Option (List Code)} {cn : Str} {cs : Scope} {a : Addr} {ccd : Value} {cl : List (Str × Addr)} {outer : List Env} {A₀ : Around} {base h₀ : Heap} {L : Addr} {m : Str → Option Value} {news : List (Addr × Obj)} {s : Shared} {Q E : Value → Shared → Prop} {ts : List (Addr × Obj)} {x n : Int} {t t1 : Tok} (ht : Tab 44 40 4 (Str.ofString "_int2digits.<locals>.inner") 55 ts) (B : Below A₀ base outer h₀) (F : Fr h₀ L s.heap m) (X : (hd.heap_39 w.params).In h₀) (N : News h₀ L s.heap (ts ++ news)) (T : Top topProg loose mean mg mb h₀) (hk : cs.kind = .function)
    (C : CodeHd base 48 44) (hL55 : @LT.lt Nat _ 55 L) (hne : ∀ p ∈ news, p.1 ≠ 44) (hn : 0 < n) (hx : 0 ≤ x) (hn1 : n ≤ 16000) (hx1 : intBits x ≤ 64000) (hx2 : intBits x ≤ 20 * n)
    (hdp : dp + 30 < recursionLimit) (hu : un + 8 * 30 < cLine)
    (hret : ∀ D ts' vs' h' tk', Tab 44 40 4 (Str.ofString "_int2digits.<locals>.inner") 55 ts' → IntsAre vs' (digs n.toNat x ((((intBits x : Nat) : Int) + n - 1) / n).toNat) → Fr h₀ L h' m → News h₀ L h' ((D, listOf vs'.toArray 0) :: (ts' ++ news)) → AllLt D news → Q (.ref D) { s with heap := h', toks := tk' }) :
    wpAny (model PySem.Challenge.rw_wo0032_01.row.prog w) (ktrTop dp un gd cn cs L a ccd cl outer) (call (.ref 49) [.int x t, .int n t1]) Q E s := by
  rcases ht with rfl | ⟨c, oc, vs, tq, rfl, h1, h2, h3⟩
  · refine c_i2d_F B F X N T hk C hne hn hx hn1 hx1 hx2 hdp hu ?_
    intro D c' oc vs0 t vs' h' tk' hi h1 h2 h3 F' N' l1
    exact hret D _ vs' h' tk' (.made h1 h2 (Nat.lt_trans hL55 h3)) hi F' N' l1
  · refine c_i2d_M B F X N T hk C h1 h2 hne hn hx hn1 hx1 hx2 hdp hu ?_
    intro D vs' h' tk' hi F' N' l1
    exact hret D _ vs' h' tk' (.made h1 h2 h3) hi F' N' l1
theorem c_d2i {w : World} {loose : List Str} {mean : ExcName → Option Value} {mg mb : Str → Option Value} {dp un : Nat} {gd : Option (List Code)} {cn : Str} {cs : Scope} {a : Addr} {ccd : Value} {cl : List (Str × Addr)} {outer : List Env} {A₀ : Around} {base h₀ : Heap} {L : Addr} {m : Str → Option Value} {news : List (Addr × Obj)} {s : Shared} {Q E : Value → Shared → Prop} {ts : List (Addr × Obj)} {D : Addr} {vs : List Value} {ns : List Int} {nn : Nat} {n : Int} {t1 : Tok} (ht : Tab 51 55 4 (Str.ofString "_digits2int.<locals>.inner") 55 ts) (B : Below A₀ base outer h₀) (F : Fr h₀ L s.heap m) (X : (hd.heap_39 w.params).In h₀) (N : News h₀ L s.heap (ts ++ news)) (T : Top topProg loose mean mg mb h₀) (hk : cs.kind = .function)
    (C : CodeHd base 55 51) (hL55 : @LT.lt Nat _ 55 L) (hne : ∀ p ∈ news, p.1 ≠ 51) (mD : (D, listOf vs.toArray nn) ∈ news) (hi : IntsAre vs ns) (hb : ∀ a ∈ ns, 0 ≤ a ∧ a < 2 ^ n.toNat) (hn : 0 < n) (hn1 : n ≤ 16000) (hlen : ns.length ≤ 20)
    (hdp : dp + 30 < recursionLimit) (hu : un + 8 * 30 < cLine)
    (hret : ∀ ts' t h' tk', Tab 51 55 4 (Str.ofString "_digits2int.<locals>.inner") 55 ts' → Fr h₀ L h' m → News h₀ L h' (ts' ++ news) → Q (.int (undig n.toNat ns) t) { s with heap := h', toks := tk' }) :
    wpAny (model PySem.Challenge.rw_wo0032_01.row.prog w) (ktrTop dp un gd cn cs L a ccd cl outer) (call (.ref 56) [.ref D, .int n t1]) Q E s := by
  rcases ht with rfl | ⟨c, oc, vs, tq, rfl, h1, h2, h3⟩
  · refine c_d2i_F B F X N T hk C hne mD hi hb hn hn1 hlen hdp hu ?_
    intro c' oc vs0 tq t h' tk' h1 h2 h3 F' N'
    exact hret _ t h' tk' (.made h1 h2 (Nat.lt_trans hL55 h3)) F' N'
  · refine c_d2i_M B F X N T hk C h1 h2 hne mD hi hb hn hn1 hlen hdp hu ?_
    intro t h' tk' F' N'
    exact hret _ t h' tk' (.made h1 h2 h3) F' N'
theorem permA {h₀ h : Heap} {L : Addr} {q a : Addr × Obj} {t4 t5 l : List (Addr × Obj)} (N : News h₀ L h (q :: a :: (t4 ++ (t5 ++ l)))) : News h₀ L h (t5 ++ (q :: (t4 ++ l))) := cb_drop N fun p hp => by
  simp only [List.mem_append, List.mem_cons] at hp ⊢
  rcases hp with h | h | h | h <;> simp [h]
theorem permB {h₀ h : Heap} {L : Addr} {q a : Addr × Obj} {t4 t5 l : List (Addr × Obj)} (N : News h₀ L h (a :: (t5 ++ (q :: (t4 ++ l))))) : News h₀ L h (a :: (t4 ++ (t5 ++ l))) := cb_drop N fun p hp => by
  simp only [List.mem_append, List.mem_cons] at hp ⊢
  rcases hp with h | h | h | h <;> simp [h]


set_option maxHeartbeats 4000000 in
theorem c_dmp {w : World} {loose : List Str} {mean : ExcName → Option Value} {mg mb : Str → Option Value} {dp un : Nat} {gd : Option (List Code)} {cn : Str} {cs : Scope} {a : Addr} {ccd : Value} {cl : List (Str × Addr)} {outer : List Env} {A₀ : Around} {base h₀ : Heap} {L : Addr} {m : Str → Option Value} {news : List (Addr × Obj)} {s : Shared} {Q E : Value → Shared → Prop} {k : Nat} {ts44 ts51 : List (Addr × Obj)} {x b : Int} {t t1 : Tok} (HD : Div2OK w k) (h44 : Tab 44 40 4 (Str.ofString "_int2digits.<locals>.inner") 55 ts44) (h51 : Tab 51 55 4 (Str.ofString "_digits2int.<locals>.inner") 55 ts51) (B : Below A₀ base outer h₀) (F : Fr h₀ L s.heap m) (X : (hd.heap_39 w.params).In h₀) (N : News h₀ L s.heap (ts44 ++ (ts51 ++ news))) (T : Top topProg loose mean mg mb h₀) (hk : cs.kind = .function)
    (C1 : CodeHd base 48 44) (C2 : CodeHd base 55 51) (hne1 : ∀ p ∈ news, p.1 ≠ 44) (hne2 : ∀ p ∈ news, p.1 ≠ 51) (hb : 0 < b) (hx : 0 ≤ x) (hk4 : (intBits b : Int) ≤ 4000 * 2 ^ k) (hn1 : intBits b ≤ 16000) (hx1 : intBits x ≤ 64000) (hx2 : intBits x ≤ 20 * intBits b)
    (hdp : dp + (40 + 2 * k) < recursionLimit) (hu : un + 8 * (40 + 2 * k) < cLine)
    (hret : ∀ D ts44' ts51' t1 t2 h' tk', Tab 44 40 4 (Str.ofString "_int2digits.<locals>.inner") 55 ts44' → Tab 51 55 4 (Str.ofString "_digits2int.<locals>.inner") 55 ts51' → Fr h₀ L h' m → News h₀ L h' ((D, { cls := .type "tuple", data := .seq #[.int (x / b) t1, .int (x % b) t2] }) :: (ts44' ++ (ts51' ++ news))) → AllLt D news → Q (.ref D) { s with heap := h', toks := tk' }) :
    wpAny (model PySem.Challenge.rw_wo0032_01.row.prog w) (ktrTop dp un gd cn cs L a ccd cl outer) (call (.ref 63) [.int x t, .int b t1]) Q E s := by
  w_top off
  k_with_none
  k_with "LT1!" => (first | with_reducible assumption | with_reducible exact Nat.lt_succ_self _ | with_reducible exact And.left (by assumption) | with_reducible exact And.left (And.right (by assumption)) | with_reducible exact And.left (And.right (And.right (by assumption))) | with_reducible exact And.left (And.right (And.right (And.right (by assumption)))) | with_reducible exact And.left (And.right (And.right (And.right (And.right (by assumption))))) | with_reducible exact And.left (And.right (And.right (And.right (And.right (And.right (by assumption)))))) | with_reducible exact And.right (by assumption) | with_reducible exact And.right (And.right (by assumption)) | with_reducible exact And.right (And.right (And.right (by assumption))) | with_reducible exact And.right (And.right (And.right (And.right (by assumption)))))
  k_with "LT!" => (first | k_extra "LT1!" | ((with_reducible refine (Nat.lt_succ_of_lt ?_ : @LT.lt Nat _ _ (_ + 1))); first | k_extra "LT1!" | ((with_reducible refine (Nat.lt_succ_of_lt ?_ : @LT.lt Nat _ _ (_ + 1))); first | k_extra "LT1!" | ((with_reducible refine (Nat.lt_succ_of_lt ?_ : @LT.lt Nat _ _ (_ + 1))); k_extra "LT1!"))))
  k_with "NE!" => (first | with_reducible assumption | with_reducible exact Ne.symm (by assumption) | decide | ((fail_if_success (fail_if_success omega)); first | ((with_reducible refine Nat.ne_of_gt ?_); (fail_if_success (fail_if_success omega)); k_extra "LT!") | ((with_reducible refine Nat.ne_of_lt ?_); (fail_if_success (fail_if_success omega)); k_extra "LT!") | with_reducible exact And.left (by assumption) | with_reducible exact And.left (And.right (by assumption)) | with_reducible exact And.left (And.right (And.right (by assumption))) | omega))
  k_with "KNE!" => ((refine neN ?_; (try dsimp only); k_extra "NE!"))
  k_with "LBND!" => (first | assumption | decide | with_reducible exact Int.lt_of_lt_of_le (by assumption) (by decide) | with_reducible exact Int.lt_of_le_of_lt (by assumption) (by decide) | with_reducible exact Int.le_trans (by assumption) (by decide) | with_reducible exact Int.lt_of_lt_of_le (by decide) (by assumption) | with_reducible exact Int.le_trans (by decide) (by assumption) | with_reducible exact Int.natCast_nonneg _ | with_reducible exact Int.ne_of_gt (by assumption) | with_reducible exact Int.le_of_lt (by assumption) | with_reducible exact Nat.lt_of_lt_of_le (by assumption) (by decide) | with_reducible exact Nat.lt_of_le_of_lt (by assumption) (by decide) | with_reducible exact Nat.le_trans (by assumption) (by decide) | k_dflt omega | l_fact)
  k_with "ROOM!" => (((try simp only [depth_under_make, depth_under_kw, depth_in1, depth_deeper, depth_caller]); (try dsimp only [ktrTop]); first | with_reducible assumption | exact room_0 (by with_reducible assumption) | exact room_le (by with_reducible assumption) (by decide) | exact room_12 (by with_reducible assumption) (by decide)))
  k_with "UNITS!" => (((try simp only [units_in1, units_deeper, Around.mark_units, units_caller]); (try dsimp only [ktrTop]); first | with_reducible assumption | exact room_0 (by with_reducible assumption) | exact room_le (by with_reducible assumption) (by decide) | exact room_12 (by with_reducible assumption) (by decide) | exact room_123 (by with_reducible assumption) (by decide)))
  k_with "BITS!" => (first | (with_reducible assumption) | ((with_reducible apply bits_ediv2); bits_by_make) | ((with_reducible refine bits_emod2 ?_ ?_); (focus l_bnd); bits_by_make))
  k_with "binaryOp LShift int int" => ((k_here; (with_reducible refine' r_shl (by l_bnd) (by bits_by_make) (by l_bnd) (by decide) ?_)))
  k_with "inplaceOp LShift int int" => ((k_here; (with_reducible refine' ishl (by l_bnd) (by bits_by_make) (by l_bnd) (by decide) ?_)))
  k_with "binaryOp RShift int int" => ((k_here; (with_reducible refine r_shr (by l_bnd) ?_)))
  k_with "inplaceOp RShift int int" => ((k_here; (with_reducible refine ishr (by l_bnd) ?_)))
  k_with "binaryOp BitOr int int" => ((k_here; (with_reducible refine r_or (by l_bnd) (by l_bnd) (by l_bnd) ?_)))
  k_with "binaryOp BitAnd int int" => ((k_here; first | (with_reducible refine r_and1 ?_) | ((with_reducible refine r_mask (by l_bnd) ?_))))
  k_with "call builtin:divmod" => ((k_here; (with_reducible show wpAny _ _ (call (Value.builtin _) [Value.int _ _, Value.int _ _]) _ _ _); (refine' r_divmod (by assumption) (by assumption) (by l_bnd) (by first | assumption | exact noPy (by omega)) ?_); intro D' t1' t2' h' tk' F' N' l1; (try k_lt l1)))
  k_with "ALL!" => (first | assumption | (refine' allNe (by assumption)) | (refine' allNe (And.right (by assumption))) | (refine' allNe (And.right (And.right (by assumption)))) | (refine' allNeLt (by assumption) (by omega)))
  k_with "binaryOp Mult ref int" => ((k_here; k_dflt (refine' r_rep0 (by k_asm) (by k_asm) (by k_mem) (by l_bnd) (by l_bnd) ?_); intro D' h' F' N' l1; (try k_lt l1)))
  k_with "call builtin:list.reverse" => ((k_here; dsimp only; k_dflt (refine' r_rev (by k_asm) (by k_asm) (by k_upd) (by l_bnd) ?_); intro h' F' N'))
  have hbb := bits_pos hb
  revert B F X N T
  k_fill
  intro B F X N T
  k_with "call ref" => (first | ((refine' c_i2d (by assumption) ?a1 ?a2 ?a3 ?a4 ?a5 ?a6 C1 ?a7 ?a8 ?a9 hx ?b1 hx1 ?b2 ?b3 ?b4 ?b5; (case a1 => k_asm); (case a2 => k_asm); (case a3 => k_asm); (case a4 => k_asm); (case a5 => k_asm); (case a6 => first | exact rfl | assumption); (case a7 => assumption); (case a8 => assumption); (case a9 => omega); (case b1 => omega); (case b2 => omega); (case b3 => ktr_room); (case b4 => ktr_units)); intro D' ts' vs' h' tk' ht' hi' F' N' l1; (have h51D : @LT.lt Nat _ 51 D' := (by obtain ⟨o, ho⟩ := h51.mem; exact ktn_ltOf l1 _ (List.mem_append_left _ ho))); (have htn : ∀ p ∈ ts' ++ news, p.1 ≠ 51 := neApp (ht'.ne (by decide) (by decide)) hne2); (try dsimp only); (try k_fold)) | ((refine HD (by k_asm) (by k_asm) (by k_asm) (by k_asm) (by k_asm) (by first | exact rfl | assumption) (by ktr_room) (by ktr_units) hb hlt9.1 rfl hlt9.2 hk4 (by omega) ?_); intro D' q' r' t1' t2' h' tk' e1' e2' p1' p2' b1' b2' F' N' l1; (try simp only [AllLt, and_true] at l1); (try dsimp only); (try k_fold)) | ((refine c_d2i h51 (by k_asm) (by k_asm) (by k_asm) (permA (by assumption)) (by k_asm) (by first | exact rfl | assumption) C2 hL55 (List.forall_mem_cons.mpr ⟨by k_ne, htn⟩) (List.Mem.head _) (ints_rev hi9) hf9.2.2.2 hnpos (by omega) (by rw [List.length_reverse]; omega) (by ktr_room) (by ktr_units) ?_); intro ts5' t5 h5 tk5 ht5 F5 N5; (try dsimp only); (try k_fold)))
  refine wpAny_call ?_
  k_dflt (refine' code_def ?k1 ?k2 ?k3 ?k4 ?k5 ?kA ?kF ?kK ?k6 ?k7 ?k8 ?k9 ?kB ?_ ?c2 ?c3 ?c4 ?c5; (case kA => exact rfl); (case kF => exact rfl); (case kK => assumption); (case k1 => k_asm); (case k2 => k_asm); (case k3 => k_asm); (case k4 => k_asm); (case k5 => k_asm); (case k6 => k_is); (case k7 => k_is); (case k8 => ktr_room); (case k9 => exact BindsTo.of_eq rfl); (case c5 => decide); (case kB => exact locs rfl); (case c2 => exact rfl); (case c3 => exact rfl); (case c4 => exact rfl); k_whole; intro g' L' h' FG' F' N' B' X' T'; (try dsimp only); (try k_fold))
  have hL55 : @LT.lt Nat _ 55 L' := Nat.lt_of_lt_of_le (cd_lt C2 B.stays F.keep) (Nat.le_trans F.above (Nat.le_of_lt (Nat.lt_of_lt_of_le FG'.ns.lt F'.above)))
  have hne3 : ∀ p ∈ ts51 ++ news, p.1 ≠ 44 := neApp (h51.ne (by decide) (by decide)) hne1
  have hnpos : 0 < (intBits b : Int) := by omega
  have hblt := lt_of_bits (Nat.le_refl (intBits b))
  have hmm := ceil_facts hnpos (x := x)
  have hn2 : (intBits b : Int).toNat = intBits b := rfl
  have hm20 : ((((intBits x : Nat) : Int) + (intBits b : Int) - 1) / (intBits b : Int)).toNat ≤ 20 := hmm.2 (by omega)
  have hxlt : x < 2 ^ ((intBits b : Int).toNat * ((((intBits x : Nat) : Int) + (intBits b : Int) - 1) / (intBits b : Int)).toNat) := lt_of_bits hmm.1
  k_with "pyIter ref" => ((with_reducible rename Fr _ _ _ _ => lF'); (with_reducible rename News _ _ _ _ => lN'); (with_unfolding_all refine rev_loop (rn := Str.ofString "r") (fg := [Str.ofString "q_digit", Str.ofString "a_digit"]) (LI (intBits b : Int).toNat x b ((((intBits x : Nat) : Int) + (intBits b : Int) - 1) / (intBits b : Int)).toNat) (by rfl) lF' lN' hi' (by rfl) IntsAre.nil (LI.start hx hb hxlt) (by decide) (by decide) (by decide) (by k_mem) (by k_all) (by k_ne) ?_ ?_); (clear lF' lN'); (rotate_left); (intro r9 tr9 vs9 ns9 nn9 u9 h9 tk9 hi9 hI9 F9 N9; (have hf9 := hI9.fin); (have hl99 := hi9.length); (have hl999 : vs9.length ≤ 20 := by omega); (try k_fold)); (rotate_left); (intro a9 t9 rem9 r9 tr9 vs9 ns9 nn9 u9 it9 h9 tk9 hi9 hI9 F9 N9; (have hb9 := hI9.bounds hb); (have hlt9 := hI9.lt hb); (have hl9 := hI9.len); (have hl99 := hi9.length); (have hr9 : intBits r9 ≤ 16000 := Nat.le_trans (bits_le_of_lt hb9.1 (by omega)) hn1); (have hl999 : vs9.length ≤ 20 := by simp only [List.length_cons] at hl9; omega); (try k_fold)))
  k_with "RPost" => ((with_reducible rename News _ _ _ _ => nN); (simp only [List.push_toArray] at nN); (refine RPost.intro (by assumption) (ndh nN) (ints_snoc hi9) (by with_unfolding_all rfl) (by intro z h1 h2; simp only [List.contains_cons, List.contains_nil, Bool.or_false, Bool.or_eq_false_iff, beq_eq_false_iff_ne, ne_eq] at h2; simp [h1, h2]) (hI9.step hb e1' e2')))
  k_steps
  (with_reducible rename News h₀ L _ (_ :: (ts5' ++ _)) => nN)
  (with_reducible rename (∀ p ∈ ts5' ++ _, p.1 < _) => lN)
  rw [hf9.1, hf9.2.1] at nN
  exact hret _ _ _ _ _ _ _ ht' ht5 (by assumption) (permB nN) (allLt_of fun p hp => lN p (by simp [hp]))
end Mine
end
section
namespace Mine
def EPost (h₀ : Heap) (L : Addr) (s : Shared) (I : Addr) (it : Obj) (J : (Str → Option Value) → List (Addr × Obj) → Prop) (Q : Flow → Shared → Prop) (f : Flow) (s₃ : Shared) : Prop :=
  match f with
  | .ret v => Q (.ret v) s₃
  | .brk => Q .next s₃
  | _ => ∃ h' tk m' news', s₃ = { s with heap := h', toks := tk } ∧ Fr h₀ L h' m' ∧ News h₀ L h' ((I, it) :: news') ∧ (∀ p ∈ news', p.1 ≠ I) ∧ J m' news'
def LoopE (prog : Program) (w : World) (A : Around) (h₀ : Heap) (env : Env) (x : Str) (body orelse : List Stmt) (Q : Flow → Shared → Prop) (E : Value → Shared → Prop) (it : Value) (s₂ : Shared) : Prop :=
  ∃ (I : Addr) (n : Nat) (m : Str → Option Value) (news : List (Addr × Obj)) (J : Nat → (Str → Option Value) → List (Addr × Obj) → Prop),
    it = .ref I ∧ IsRangeIter s₂.heap I 0 (n : Int) 1 ∧ h₀.get? I = none ∧ I ≠ env.locals ∧ (∀ p ∈ news, p.1 ≠ I) ∧ A.handled = none ∧ Fr h₀ env.locals s₂.heap m ∧ News h₀ env.locals s₂.heap news ∧ J 0 m news ∧
    (∀ i t m₁ news₁ h tk, i < n → (∀ p ∈ news₁, p.1 ≠ I) → J i m₁ news₁ → Fr h₀ env.locals h (fun y => if y = x then some (.int (i : Int) t) else m₁ y) → News h₀ env.locals h ((I, itR ((i + 1 : Nat) : Int) ((n : Int) - ((i + 1 : Nat) : Int))) :: news₁) →
      wpAny (model prog w) A (execs body env) (EPost h₀ env.locals { s₂ with heap := h, toks := tk } I (itR ((i + 1 : Nat) : Int) ((n : Int) - ((i + 1 : Nat) : Int))) (J (i + 1)) Q) E { s₂ with heap := h, toks := tk }) ∧
    ∀ m₁ news₁ h tk, J n m₁ news₁ → Fr h₀ env.locals h m₁ → News h₀ env.locals h news₁ → wpAny (model prog w) A (execs orelse env) Q E { s₂ with heap := h, toks := tk }
section
variable {prog : Program} {w : World} {A : Around} {E : Value → Shared → Prop} {Q : Flow → Shared → Prop} {s : Shared} {env : Env} {h₀ : Heap} {x : Str} {body orelse : List Stmt}
theorem for_else {px pos : Pos} {iter : Expr} (hx : env.kindOf x = some .local) (hp : (env.scope.kind == .class || (env.scope.kind == .module && env.locals != env.globals)) = false)
    (h : wpAny (model prog w) A (eval iter env) (fun xv s₁ => wpAny (model prog w) A (pyIter xv) (fun it s₂ => LoopE prog w A h₀ env x body orelse Q E it s₂) E s₁) E s)
    (hs : ∀ x, foldedSetIterable iter env x = pure x := by intro _; rfl)
    (hE : PassesOwn (model prog w) A env E := by passes_own) :
    wpAny (model prog w) A (exec (.For (.Name x px) iter body orelse pos) env) Q E s := by
  refine wpAny_For (wpAny_mono h (fun xv s₁ h₁ => wpAny_mono h₁ (fun it s₂ h₂ => ?_) fun _ _ e => e) fun _ _ e => e) hs
  obtain ⟨I, n, m, news, J, rfl, hit, hIn, hIL, hnI, hh, F, N, h0, step, done⟩ := h₂
  have W := Walks.range (prog := prog) (w := w) hh I 0 1 n
  refine codeAny_forLoop (fun k s' => ∃ h' tk m' news' i, s' = { s₂ with heap := h', toks := tk } ∧ IsRangeIter h' I ((i : Nat) : Int) ((n : Int) - (i : Nat)) 1 ∧ Fr h₀ env.locals h' m' ∧ News h₀ env.locals h' news' ∧ (∀ p ∈ news', p.1 ≠ I) ∧ J i m' news' ∧ i ≤ n ∧ k = n + 1 - i) ?_ (n + 1)
    ⟨s₂.heap, s₂.toks, m, news, 0, rfl, by simpa using hit, F, N, hnI, h0, Nat.zero_le _, rfl⟩
  rintro k s' ⟨h', tk, m', news', i, rfl, hst, F', N', hnI', hJ, hi, rfl⟩
  have next : ∀ h₁ : Heap, (∀ b o, b ∉ [I] → h'.get? b = some o → h₁.get? b = some o) → Fr h₀ env.locals h₁ m' ∧ News h₀ env.locals h₁ news' := fun h₁ hk₁ =>
    ⟨⟨F'.ns.at' fun o e => hk₁ _ o (fun q => hIL (List.mem_singleton.mp q).symm) e, fun b o e => hk₁ b o (fun q => by rw [List.mem_singleton.mp q, hIn] at e; cases e) (F'.keep b o e), F'.above⟩,
      fun p hp => ⟨hk₁ _ _ (fun q => hnI' p hp (List.mem_singleton.mp q)) (N' p hp).1, (N' p hp).2⟩⟩
  have hst0 : IsRangeIter h' I (0 + ((i : Nat) : Int) * 1) ((n : Int) - (i : Nat)) 1 := by
    rw [Int.mul_one, Int.zero_add]; exact hst
  by_cases hlt : i < n
  · refine W.item i _ _ _ hlt hst0 fun v h₁ tk₁ hP hst₁ hk₁ => ?_
    obtain ⟨t, rfl⟩ := hP
    obtain ⟨F₁, N₁⟩ := next h₁ hk₁
    have e1 : (0 : Int) + ((i : Nat) : Int) * 1 = (i : Int) := by omega
    have e2 : (0 : Int) + ((i + 1 : Nat) : Int) * 1 = ((i + 1 : Nat) : Int) := by omega
    rw [e1]
    rw [e2] at hst₁
    refine wpAny_assign_Name (wpAny_storeName_local hx F₁.ns (fun h₂ hn₂ hs₂ => ?_) hp)
    have F₂ := F₁.set hn₂ hs₂
    have NI : News h₀ env.locals h₂ ((I, itR ((i + 1 : Nat) : Int) ((n : Int) - ((i + 1 : Nat) : Int))) :: news') := fun p hp => by
      rcases List.mem_cons.mp hp with rfl | hp
      · exact ⟨(hs₂.2 I hIL).trans hst₁, hIL, hIn⟩
      · exact (N₁.set hs₂) p hp
    refine wpAny_passesOwn hE (wpAny_mono (step i t m' news' h₂ _ hlt hnI' hJ F₂ NI) (fun f s₃ h₃ => ?_) fun _ _ e => e)
    cases f with
    | ret v => exact h₃
    | brk => exact h₃
    | next =>
      obtain ⟨h₃', tk₃, m₂, news₂, rfl, F₃, N₃, ha₃, hJ₃⟩ := h₃
      exact ⟨n + 1 - (i + 1), by omega, h₃', tk₃, m₂, news₂, i + 1, rfl, (N₃ _ (.head _)).1, F₃, fun p hp => N₃ p (.tail _ hp), ha₃, hJ₃, hlt, rfl⟩
    | cont =>
      obtain ⟨h₃', tk₃, m₂, news₂, rfl, F₃, N₃, ha₃, hJ₃⟩ := h₃
      exact ⟨n + 1 - (i + 1), by omega, h₃', tk₃, m₂, news₂, i + 1, rfl, (N₃ _ (.head _)).1, F₃, fun p hp => N₃ p (.tail _ hp), ha₃, hJ₃, hlt, rfl⟩
  · have hin : i = n := by omega
    subst hin
    refine W.done _ _ _ hst0 fun h₁ tk₁ hk₁ => ?_
    obtain ⟨F₁, N₁⟩ := next h₁ hk₁
    exact wpAny_passesOwn hE (done m' news' h₁ tk₁ hJ F₁ N₁)
end
end Mine
end
section
namespace Mine
open Builtin.Int (intBits)
theorem pow2_le {i j : Nat} (h : i ≤ j) : (2 : Int) ^ i ≤ 2 ^ j := by
  have : (2 : Nat) ^ i ≤ 2 ^ j := Nat.pow_le_pow_right (by decide) h
  have e1 : ((2 : Int) ^ i) = ((2 ^ i : Nat) : Int) := by simp
  have e2 : ((2 : Int) ^ j) = ((2 ^ j : Nat) : Int) := by simp
  rw [e1, e2]; exact Int.ofNat_le.mpr this
theorem neOfLt {d : Addr} {l : List (Addr × Obj)} (h : ∀ p ∈ l, p.1 < d) : ∀ p ∈ l, p.1 ≠ d := fun p hp => Nat.ne_of_lt (h p hp)
theorem pow2_32 {i : Nat} (h : i < 32) : (2 : Int) ^ i ≤ 4294967296 := pow2_le (j := 32) (by omega)
theorem nat_and_pow (n i : Nat) : n &&& 2 ^ i = n / 2 ^ i % 2 * 2 ^ i := by
  apply Nat.eq_of_testBit_eq
  intro j
  rw [Nat.testBit_and, Nat.testBit_two_pow, Nat.mul_comm, Nat.testBit_two_pow_mul]
  by_cases h : i = j
  · subst h
    rw [Nat.sub_self, Nat.testBit_zero, Nat.testBit_eq_decide_div_mod_eq]
    simp
  · have h1 : decide (i = j) = false := by simp [h]
    rw [h1, Bool.and_false]
    by_cases h2 : i ≤ j
    · rw [Nat.testBit_lt_two_pow, Bool.and_false]
      exact Nat.lt_of_lt_of_le (Nat.mod_lt _ (by decide)) (Nat.le_trans (by decide : 2 ≤ 2 ^ 1) (Nat.pow_le_pow_right (by decide) (by omega)))
    · simp [h2]
theorem bitAnd_pow {a : Int} {k : Nat} (ha : 0 ≤ a) : Builtin.bitAnd a (1 * 2 ^ k) = a / 2 ^ k % 2 * 2 ^ k := by
  have hp := pow2_pos k
  rw [Int.one_mul, bitAnd_pp ha (by omega), toNat_pow, nat_and_pow]
  have e : ((a.toNat / 2 ^ k % 2 : Nat) : Int) = a / 2 ^ k % 2 := by
    rw [Int.natCast_emod, Int.natCast_ediv, Int.toNat_of_nonneg ha]; simp
  rw [← e]
  simp
def wAt (k : Int) (z : Str) : List (Int × PyData) → Str
  | [] => z
  | (i, .str x) :: r => if k = i then x else wAt k z r
  | _ :: r => wAt k z r
def isStrs : List (Int × PyData) → Bool
  | [] => true
  | (_, .str x) :: r => decide (x.length ≤ 100) && isStrs r
  | _ :: _ => false
theorem wAt_len {k : Int} {z : Str} (hz : z.length ≤ 100) : ∀ {D : List (Int × PyData)}, isStrs D = true → (wAt k z D).length ≤ 100
  | [], _ => hz
  | (i, .str x) :: r, h => by
    simp only [isStrs, Bool.and_eq_true, decide_eq_true_eq] at h
    simp only [wAt]
    split
    · exact h.1
    · exact wAt_len hz h.2
  | (i, .none) :: r, h | (i, .bool _) :: r, h | (i, .int _) :: r, h | (i, .list _) :: r, h | (i, .tuple _) :: r, h | (i, .dict _) :: r, h => by simp [isStrs] at h
theorem wAt_at {k : Int} {z : Str} : ∀ {D : List (Int × PyData)}, isStrs D = true → (KTD.datumAt k D).getD (.str z) = PyData.str (wAt k z D)
  | [], _ => rfl
  | (i, .str x) :: r, h => by
    simp only [isStrs, Bool.and_eq_true, decide_eq_true_eq] at h
    simp only [wAt, KTD.datumAt, decide_eq_true_eq]
    split
    · rfl
    · exact wAt_at h.2
  | (i, .none) :: r, h | (i, .bool _) :: r, h | (i, .int _) :: r, h | (i, .list _) :: r, h | (i, .tuple _) :: r, h | (i, .dict _) :: r, h => by simp [isStrs] at h
def pfWord (D : List (Int × PyData)) (j : Nat) : Str := wAt (1 * 2 ^ j) (baseText "0x" 16 (1 * 2 ^ j)) D
def pfL (D : List (Int × PyData)) (F : Int) : Nat → List Str
  | 0 => []
  | i + 1 => pfL D F i ++ (if F / 2 ^ i % 2 = 1 then [pfWord D i] else [])
def pfW (D : List (Int × PyData)) (F : Int) : List Str :=
  if F / 2 ^ 32 * 2 ^ 32 = 0 ∧ F ≠ 0 then pfL D F 32 else pfL D F 32 ++ [baseText "0x" 16 (F / 2 ^ 32 * 2 ^ 32)]
structure PI (D : List (Int × PyData)) (F : Int) (i : Nat) (fl : Int) (ss : List Str) : Prop where
  e1 : fl = F / 2 ^ i * 2 ^ i
  e2 : ss = pfL D F i
  e3 : fl = 0 → F = 0
theorem PI.bnd {D : List (Int × PyData)} {F : Int} {i : Nat} {fl : Int} {ss : List Str} (h : PI D F i fl ss) (h0 : 0 ≤ F) : 0 ≤ fl ∧ fl ≤ F := by
  have hp := pow2_pos i
  have h1 := Int.emod_add_mul_ediv F (2 ^ i)
  have h2 := Int.emod_nonneg F (show (2 : Int) ^ i ≠ 0 by omega)
  have h3 := Int.ediv_nonneg h0 (Int.le_of_lt hp)
  have h4 := Int.mul_nonneg h3 (Int.le_of_lt hp)
  rw [Int.mul_comm] at h1
  rw [h.e1]
  omega
theorem PI.start {D : List (Int × PyData)} {F : Int} : PI D F 0 F [] := ⟨by simp, rfl, id⟩
theorem div_succ (F : Int) (i : Nat) : F / 2 ^ i = F / 2 ^ i % 2 + 2 * (F / 2 ^ (i + 1)) := by
  have := Int.emod_add_mul_ediv (F / 2 ^ i) 2
  rw [Int.pow_succ, ← Int.ediv_ediv_of_nonneg (Int.le_of_lt (pow2_pos i))]
  omega
theorem PI.off {D : List (Int × PyData)} {F : Int} {i : Nat} {fl : Int} {ss : List Str} (h : PI D F i fl ss) (hb : fl / 2 ^ i % 2 = 0) : PI D F (i + 1) fl ss := by
  have hp := pow2_pos i
  have e := h.e1
  have hb' : F / 2 ^ i % 2 = 0 := by rw [e, Int.mul_ediv_cancel _ (by omega)] at hb; exact hb
  refine ⟨?_, ?_, h.e3⟩
  · rw [e]
    have := div_succ F i
    rw [hb', Int.zero_add] at this
    rw [Int.pow_succ, this]
    rw [Int.mul_comm 2, Int.mul_assoc, Int.mul_comm 2, Int.pow_succ]
  · rw [h.e2, pfL, if_neg (by omega), List.append_nil]
theorem PI.bit {D : List (Int × PyData)} {F : Int} {i : Nat} {fl : Int} {ss : List Str} (h : PI D F i fl ss) (hb : fl / 2 ^ i % 2 = 1) : fl - 1 * 2 ^ i = F / 2 ^ (i + 1) * 2 ^ (i + 1) ∧ ss ++ [pfWord D i] = pfL D F (i + 1) ∧ F ≠ 0 := by
  have hp := pow2_pos i
  have e := h.e1
  have hb' : F / 2 ^ i % 2 = 1 := by rw [e, Int.mul_ediv_cancel _ (by omega)] at hb; exact hb
  refine ⟨?_, ?_, ?_⟩
  · have := div_succ F i
    rw [hb'] at this
    rw [e, this, Int.add_mul, Int.pow_succ, Int.mul_comm 2, Int.mul_assoc, Int.mul_comm 2]
    omega
  · rw [h.e2, pfL, if_pos hb']
  · rintro rfl; simp at hb'
theorem PI.on {D : List (Int × PyData)} {F : Int} {i : Nat} {fl : Int} {ss : List Str} (h : PI D F i fl ss) (hb : fl / 2 ^ i % 2 = 1) (hn : fl - 1 * 2 ^ i ≠ 0) : PI D F (i + 1) (fl - 1 * 2 ^ i) (ss ++ [pfWord D i]) :=
  ⟨(h.bit hb).1, (h.bit hb).2.1, fun e => absurd e hn⟩
theorem pfL_stop {D : List (Int × PyData)} {F : Int} {i : Nat} (h0 : 0 ≤ F) (hz : F / 2 ^ i = 0) : ∀ j, pfL D F (i + j) = pfL D F i
  | 0 => rfl
  | j + 1 => by
    have hp := pow2_pos i
    have hlt : F < 2 ^ i := by
      have := Int.emod_add_mul_ediv F (2 ^ i)
      have := Int.emod_lt_of_pos F hp
      rw [hz] at *
      omega
    have : F / 2 ^ (i + j) = 0 := Int.ediv_eq_zero_of_lt h0 (Int.lt_of_lt_of_le hlt (pow2_le (Nat.le_add_right _ _)))
    rw [show i + (j + 1) = (i + j) + 1 from rfl, pfL, this, pfL_stop h0 hz j]
    simp
theorem PI.brk {D : List (Int × PyData)} {F : Int} {i : Nat} {fl : Int} {ss : List Str} (h : PI D F i fl ss) (h0 : 0 ≤ F) (hi : i < 32) (hb : fl / 2 ^ i % 2 = 1) (hn : fl - 1 * 2 ^ i = 0) : ss ++ [pfWord D i] = pfW D F := by
  obtain ⟨h1, h2, h3⟩ := h.bit hb
  have hp := pow2_pos (i + 1)
  rw [hn] at h1
  have hz : F / 2 ^ (i + 1) = 0 := by
    rcases Int.mul_eq_zero.mp h1.symm with e | e
    · exact e
    · omega
  have e := pfL_stop (D := D) h0 hz (32 - (i + 1))
  rw [show i + 1 + (32 - (i + 1)) = 32 by omega] at e
  have e32 : F / 2 ^ 32 = 0 := by
    have hlt : F < 2 ^ (i + 1) := by
      have := Int.emod_add_mul_ediv F (2 ^ (i + 1))
      have := Int.emod_lt_of_pos F hp
      rw [hz] at *
      omega
    exact Int.ediv_eq_zero_of_lt h0 (Int.lt_of_lt_of_le hlt (pow2_le (by omega)))
  rw [pfW, if_pos ⟨by rw [e32]; rfl, h3⟩, h2, e]
theorem PI.fin {D : List (Int × PyData)} {F : Int} {fl : Int} {ss : List Str} (h : PI D F 32 fl ss) : ss ++ [baseText "0x" 16 fl] = pfW D F := by
  rw [pfW, if_neg, h.e2, h.e1]
  rintro ⟨h1, h2⟩
  exact h2 (h.e3 (h.e1.trans h1))
theorem hex_len {x : Int} (h0 : 0 ≤ x) (h1 : x < 2 ^ 60) : (baseText "0x" 16 x).length ≤ 100 := by
  have e : (2 : Int) ^ 60 = 1152921504606846976 := by decide
  have e2 : (16 : Nat) ^ 15 = 1152921504606846976 := by decide
  have h2 := toDigits_len_pow (b := 16) (k := 15) (n := x.natAbs) (by decide) (by decide) (by omega)
  rw [baseText_nonneg h0, Str.length_append, Str.length_append, ofString_ofList_length (Nat.toDigits 16 x.natAbs)]
  rw [PyProof.Rows.ofString_len, PyProof.Rows.ofString_len]
  have h3 : "".length = 0 := by decide
  have h4 : "0x".length = 2 := by decide
  omega
theorem pfWord_len {D : List (Int × PyData)} (hD : isStrs D = true) {j : Nat} (hj : j < 32) : (pfWord D j).length ≤ 100 := by
  refine wAt_len (hex_len (by have := pow2_pos j; omega) ?_) hD
  have := pow2_pos j
  have h : (2 : Int) ^ j ≤ 2 ^ 32 := pow2_le (by omega)
  have e : (2 : Int) ^ 60 = 1152921504606846976 := by decide
  have e' : (2 : Int) ^ 32 = 4294967296 := by decide
  omega
theorem pfL_len {D : List (Int × PyData)} (hD : isStrs D = true) {F : Int} : ∀ {i : Nat}, i ≤ 32 → (∀ x ∈ pfL D F i, x.length ≤ 100) ∧ (pfL D F i).length ≤ i
  | 0, _ => ⟨by simp [pfL], by simp [pfL]⟩
  | i + 1, h => by
    obtain ⟨h1, h2⟩ := pfL_len hD (F := F) (i := i) (by omega)
    have h3 := pfWord_len hD (j := i) (by omega)
    simp only [pfL]
    split
    · refine ⟨fun x hx => ?_, by simp; omega⟩
      rcases List.mem_append.mp hx with hx | hx
      · exact h1 x hx
      · rw [List.mem_singleton.mp hx]; exact h3
    · rw [List.append_nil]; exact ⟨h1, by omega⟩
theorem pfW_len {D : List (Int × PyData)} (hD : isStrs D = true) {F : Int} (h0 : 0 ≤ F) (h1 : F < 2 ^ 60) : (∀ x ∈ pfW D F, x.length ≤ 100) ∧ (pfW D F).length ≤ 33 := by
  obtain ⟨h2, h3⟩ := pfL_len hD (F := F) (i := 32) (Nat.le_refl _)
  have hx : (baseText "0x" 16 (F / 2 ^ 32 * 2 ^ 32)).length ≤ 100 := by
    have hp := pow2_pos 32
    have := Int.emod_add_mul_ediv F (2 ^ 32)
    have := Int.emod_nonneg F (show (2 : Int) ^ 32 ≠ 0 by omega)
    refine hex_len (Int.mul_nonneg (Int.ediv_nonneg h0 (by omega)) (by omega)) ?_
    rw [Int.mul_comm]; omega
  unfold pfW
  split
  · exact ⟨h2, by omega⟩
  · refine ⟨fun x hx' => ?_, by simp; omega⟩
    rcases List.mem_append.mp hx' with h | h
    · exact h2 x h
    · rw [List.mem_singleton.mp h]; exact hx
theorem PI.len {D : List (Int × PyData)} (hD : isStrs D = true) {F : Int} {i : Nat} {fl : Int} {ss : List Str} {vs : List Value} (h : PI D F i fl ss) (hv : StrsAre vs ss) (hi : i ≤ 32) : vs.length ≤ 32 := by
  have := (pfL_len hD (F := F) hi).2
  have := hv.length
  rw [← h.e2] at *
  omega
theorem total_le : ∀ {l : List Str}, (∀ x ∈ l, x.length ≤ 100) → (l.map (·.length)).sum ≤ 100 * l.length
  | [], _ => by simp
  | a :: l, h => by
    have h1 := h a (.head _)
    have h2 := total_le (l := l) fun x hx => h x (.tail _ hx)
    simp only [List.map_cons, List.sum_cons, List.length_cons]
    omega
section
variable {prog : Program} {w : World} {A : Around} {E : Value → Shared → Prop} {s : Shared} {t u : Tok} {Q : Value → Shared → Prop}
theorem kget {h₀ : Heap} {a : Addr} {D : List (Int × PyData)} {k : Int} {z : Str} (K : KTD.Keyed h₀ a D) (hk : ∀ b o, h₀.get? b = some o → s.heap.get? b = some o) (hD : isStrs D = true)
    (h : ∀ t', Q (.str (wAt k z D) t') { s with toks := s.toks + 1 }) : wpAny (model prog w) A (call (.builtin "dict.get") [.ref a, .int k t, .str z u]) Q E s :=
  call_get2_intTab (K.keep hk prog w) (PyProof.V.Flat.str z u) fun v hv => by
    rw [KTD.lookup_keyed, wAt_at hD] at hv
    obtain ⟨t', rfl⟩ := hv.str_inv
    exact h t'
theorem r_shl1 {k : Nat} (hk : k < 64) (h : Q (.int (1 * 2 ^ k) s.toks) { s with toks := s.toks + 1 }) : wpAny (model prog w) A (binaryOp .LShift (.int 1 t) (.int (k : Int) u)) Q E s :=
  r_shl (Int.natCast_nonneg k) (show intBits 1 ≤ 1 by decide) (by omega) (by decide) (by rw [Int.toNat_natCast]; exact h)
theorem r_andpow {a : Int} {k : Nat} (ha : 0 ≤ a) (h0 : a / 2 ^ k % 2 = 0 → Q (.int 0 s.toks) { s with toks := s.toks + 1 }) (h1 : a / 2 ^ k % 2 = 1 → Q (.int (1 * 2 ^ k) s.toks) { s with toks := s.toks + 1 }) : wpAny (model prog w) A (binaryOp .BitAnd (.int a t) (.int (1 * 2 ^ k) u)) Q E s :=
  and_int (by
    rw [bitAnd_pow ha]
    rcases Int.emod_two_eq (a / 2 ^ k) with e | e
    · rw [e, Int.zero_mul]; exact h0 e
    · rw [e]; exact h1 e)
theorem ixor_pow {a : Int} {k : Nat} (ha : 0 ≤ a) (hb : a / 2 ^ k % 2 = 1) (h : Q (.int (a - 1 * 2 ^ k) s.toks) { s with toks := s.toks + 1 }) : wpAny (model prog w) A (inplaceOp .BitXor (.int a t) (.int (1 * 2 ^ k) u)) Q E s :=
  ixor_int (by
    rw [bitXor_and, bitAnd_pow ha, hb]
    rw [show a + 1 * 2 ^ k - 2 * (1 * 2 ^ k) = a - 1 * 2 ^ k by omega]; exact h)
theorem r_hex {x : Int} (h0 : 0 ≤ x) (h1 : x < 1152921504606846976) (h : Q (.str (baseText "0x" 16 x) s.toks) { s with toks := s.toks + 1 }) : wpAny (model prog w) A (call (.builtin "hex") [.int x t]) Q E s :=
  P.hex_of_int h (by have := hex_len h0 (show x < 2 ^ 60 from h1); rw [sizeLine_eq]; omega)
theorem r_join {h₀ : Heap} {L D : Addr} {news : List (Addr × Obj)} {vs : List Value} {ys : List Str} {x : Str} {c : Nat} (N : News h₀ L s.heap news) (hm : (D, listOf vs.toArray c) ∈ news) (hi : StrsAre vs ys) (hx : x.length ≤ 10) (hl : (∀ x ∈ ys, x.length ≤ 100) ∧ ys.length ≤ 100)
    (h : ∀ t' k, Q (.str (Txt.join x ys) t') { s with toks := k }) : wpAny (model prog w) A (call (.builtin "str.join") [.str x t, .ref D]) Q E s := by
  refine join_list (items := vs.toArray) ⟨_, (N _ hm).1, rfl, _, rfl⟩ hi ?_ h
  have := total_le hl.1
  have : ys.length * x.length ≤ 100 * 10 := Nat.mul_le_mul hl.2 hx
  omega
end
end Mine
end
section
namespace Mine
section
variable {prog : Program} {w : World} {A : Around} {E : Value → Shared → Prop} {Q : Flow → Shared → Prop} {s : Shared} {env : Env} {h₀ : Heap} {x : Str} {body orelse : List Stmt}
theorem iter_E {r : Addr} {b₀ : Int} {t₀ u₀ v₀ : Tok} {n : Nat} {m₀ : Str → Option Value} {news : List (Addr × Obj)} (J : Nat → (Str → Option Value) → List (Addr × Obj) → Prop)
    (hh : A.handled = none) (hr : IsRange s.heap r 0 b₀ 1 t₀ u₀ v₀) (hsmall : Builtin.Range.small 0 b₀ 1 = true) (hn : Builtin.Range.rangeSize 0 b₀ 1 = (n : Int)) (F : Fr h₀ env.locals s.heap m₀) (N : News h₀ env.locals s.heap news)
    (h0 : J 0 m₀ news)
    (turn : ∀ I i t m₁ news₁ h tk, (∀ p ∈ news, p.1 < I) → i < n → (∀ p ∈ news₁, p.1 ≠ I) → J i m₁ news₁ → Fr h₀ env.locals h (fun y => if y = x then some (.int (i : Int) t) else m₁ y) → News h₀ env.locals h ((I, itR ((i + 1 : Nat) : Int) ((n : Int) - ((i + 1 : Nat) : Int))) :: news₁) →
      wpAny (model prog w) A (execs body env) (EPost h₀ env.locals { s with heap := h, toks := tk } I (itR ((i + 1 : Nat) : Int) ((n : Int) - ((i + 1 : Nat) : Int))) (J (i + 1)) Q) E { s with heap := h, toks := tk })
    (done : ∀ m₁ news₁ h tk, J n m₁ news₁ → Fr h₀ env.locals h m₁ → News h₀ env.locals h news₁ → wpAny (model prog w) A (execs orelse env) Q E { s with heap := h, toks := tk }) :
    wpAny (model prog w) A (pyIter (.ref r)) (fun it s₂ => LoopE prog w A h₀ env x body orelse Q E it s₂) E s := by
  refine wpAny_pyIter_range hr hsmall ?_
  have hlt : ∀ p ∈ news, p.1 < s.heap.objs.size := fun p hp => Heap.lt_size (N p hp).1
  refine ⟨s.heap.objs.size, n, m₀, news, J, rfl, ?_, next_is_new F, ?_, fun p hp => Nat.ne_of_lt (hlt p hp), hh, F.push _, fun p hp => ⟨Heap.get?_push_of_some _ (N p hp).1, (N p hp).2⟩, h0, ?_, ?_⟩
  · show IsRangeIter _ _ _ _ _; rw [hn]; simpa using Heap.get?_push_size _ rfl
  · intro e; exact Nat.lt_irrefl _ (e ▸ F.ns.lt)
  · intro i t m₁ news₁ h tk h1 h2 h3 F₁ N₁
    exact turn _ i t m₁ news₁ h tk hlt h1 h2 h3 F₁ N₁
  · exact done
def JPf (Dq : Addr) (m₀ : Str → Option Value) (fg : List Str) (rn : Str) (rest : List (Addr × Obj)) (P : Nat → Int → List Str → Prop) (i : Nat) (m : Str → Option Value) (news : List (Addr × Obj)) : Prop :=
  ∃ (r : Int) (tr : Tok) (vs : List Value) (ss : List Str) (nn : Nat) (u : Str → Option Value), StrsAre vs ss ∧ P i r ss ∧ m = (fun y => if y = rn then some (.int r tr) else if fg.contains y then u y else m₀ y) ∧ news = (Dq, listOf vs.toArray nn) :: rest
theorem pf_loop {r Dq : Addr} {b₀ : Int} {t₀ u₀ v₀ : Tok} {n : Nat} {m₀ : Str → Option Value} {fg : List Str} {rn : Str} {rest : List (Addr × Obj)} {r0 : Int} {tr0 : Tok} {vs0 : List Value} {ss0 : List Str} {nn0 : Nat} (P : Nat → Int → List Str → Prop)
    (hh : A.handled = none) (hr : IsRange s.heap r 0 b₀ 1 t₀ u₀ v₀) (hsmall : Builtin.Range.small 0 b₀ 1 = true) (hn : Builtin.Range.rangeSize 0 b₀ 1 = (n : Int)) (F : Fr h₀ env.locals s.heap m₀) (N : News h₀ env.locals s.heap ((Dq, listOf vs0.toArray nn0) :: rest))
    (hr0 : m₀ rn = some (.int r0 tr0)) (hi0 : StrsAre vs0 ss0) (hP0 : P 0 r0 ss0) (hx : fg.contains x = true) (hrx : rn ≠ x) (hrf : fg.contains rn = false)
    (turn : ∀ I i t r tr vs ss nn (u : Str → Option Value) h tk, i < n → Dq ≠ I → (∀ p ∈ rest, p.1 < I) → StrsAre vs ss → P i r ss →
      Fr h₀ env.locals h (fun y => if y = x then some (.int (i : Int) t) else if y = rn then some (.int r tr) else if fg.contains y then u y else m₀ y) → News h₀ env.locals h ((I, itR ((i + 1 : Nat) : Int) ((n : Int) - ((i + 1 : Nat) : Int))) :: (Dq, listOf vs.toArray nn) :: rest) →
      wpAny (model prog w) A (execs body env) (EPost h₀ env.locals { s with heap := h, toks := tk } I (itR ((i + 1 : Nat) : Int) ((n : Int) - ((i + 1 : Nat) : Int))) (JPf Dq m₀ fg rn rest P (i + 1)) Q) E { s with heap := h, toks := tk })
    (done : ∀ r tr vs ss nn (u : Str → Option Value) h tk, StrsAre vs ss → P n r ss → Fr h₀ env.locals h (fun y => if y = rn then some (.int r tr) else if fg.contains y then u y else m₀ y) → News h₀ env.locals h ((Dq, listOf vs.toArray nn) :: rest) → wpAny (model prog w) A (execs orelse env) Q E { s with heap := h, toks := tk }) :
    wpAny (model prog w) A (pyIter (.ref r)) (fun it s₂ => LoopE prog w A h₀ env x body orelse Q E it s₂) E s := by
  have em : m₀ = fun y => if y = rn then some (.int r0 tr0) else if fg.contains y then m₀ y else m₀ y := by
    funext y
    by_cases h1 : y = rn
    · subst h1; simp [hr0]
    · simp [h1]
  refine iter_E (JPf Dq m₀ fg rn rest P) hh hr hsmall hn F N ⟨r0, tr0, vs0, ss0, nn0, m₀, hi0, hP0, em, rfl⟩ ?_ ?_
  · rintro I i t m₁ news₁ h tk hlt hi hne ⟨r, tr, vs, ss, nn, u, h1, h2, rfl, rfl⟩ F₁ N₁
    exact turn I i t r tr vs ss nn u h tk hi (hne _ (.head _)) (fun p hp => hlt p (.tail _ hp)) h1 h2 F₁ N₁
  · rintro m₁ news₁ h tk ⟨r, tr, vs, ss, nn, u, h1, h2, rfl, rfl⟩ F₁ N₁
    exact done r tr vs ss nn u h tk h1 h2 F₁ N₁
theorem EPost.brk {L : Addr} {I : Addr} {it : Obj} {J : (Str → Option Value) → List (Addr × Obj) → Prop} {s₃ : Shared} (h : Q .next s₃) : EPost h₀ L s I it J Q .brk s₃ := h
theorem EPost.pf {L : Addr} {I Dq : Addr} {it : Obj} {m₀ m' : Str → Option Value} {fg : List Str} {rn : Str} {rest : List (Addr × Obj)} {P : Nat → Int → List Str → Prop} {j : Nat} {h' : Heap} {tk : Nat} {vs : List Value} {ss : List Str} {nn : Nat} {r : Int} {tr : Tok}
    (F : Fr h₀ L h' m') (N : News h₀ L h' ((I, it) :: (Dq, listOf vs.toArray nn) :: rest)) (hi : StrsAre vs ss) (hr : m' rn = some (.int r tr)) (hz : ∀ z, z ≠ rn → fg.contains z = false → m' z = m₀ z) (hP : P j r ss) (hD : Dq ≠ I) (hoff : ∀ p ∈ rest, p.1 < I) :
    EPost h₀ L s I it (JPf Dq m₀ fg rn rest P j) Q .next { s with heap := h', toks := tk } := by
  refine ⟨h', tk, m', _, rfl, F, N, ?_, r, tr, vs, ss, nn, m', hi, hP, ?_, rfl⟩
  · intro p hp
    rcases List.mem_cons.mp hp with rfl | hp
    · exact hD
    · exact Nat.ne_of_lt (hoff p hp)
  · funext y
    by_cases h1 : y = rn
    · subst h1; simp [hr]
    · rw [if_neg h1]
      cases h2 : fg.contains y with
      | true => simp
      | false => simp only [Bool.false_eq_true, if_false]; exact hz y h1 h2
end
theorem strs_snoc {vs : List Value} {ss : List Str} {x : Str} {t : Tok} (h : StrsAre vs ss) : StrsAre (vs ++ [.str x t]) (ss ++ [x]) := h.append' (.cons _ _ .nil)
end Mine
end
section
set_option maxRecDepth 100000
namespace Mine
def PFT : List (Int × PyData) := [(1, .str { cps := #[79, 80, 84, 73, 77, 73, 90, 69, 68] }), (2, .str { cps := #[78, 69, 87, 76, 79, 67, 65, 76, 83] }), (4, .str { cps := #[86, 65, 82, 65, 82, 71, 83] }), (8, .str { cps := #[86, 65, 82, 75, 69, 89, 87, 79, 82, 68, 83] }), (16, .str { cps := #[78, 69, 83, 84, 69, 68] }), (32, .str { cps := #[71, 69, 78, 69, 82, 65, 84, 79, 82] }), (64, .str { cps := #[78, 79, 70, 82, 69, 69] }), (128, .str { cps := #[67, 79, 82, 79, 85, 84, 73, 78, 69] }), (256, .str { cps := #[73, 84, 69, 82, 65, 66, 76, 69, 95, 67, 79, 82, 79, 85, 84, 73, 78, 69] }), (512, .str { cps := #[65, 83, 89, 78, 67, 95, 71, 69, 78, 69, 82, 65, 84, 79, 82] })]
def wordS (x : Int) : Str := if x < 10 then [Str.ofString "OPTIMIZED", Str.ofString "NEWLOCALS", Str.ofString "VARARGS", Str.ofString "VARKEYWORDS",
            Str.ofString "NESTED", Str.ofString "GENERATOR", Str.ofString "NOFREE", Str.ofString "COROUTINE",
            Str.ofString "ITERABLE_COROUTINE", Str.ofString "ASYNC_GENERATOR"].getD
        x.toNat Str.empty else Str.ofString "0x" ++ Txt.item (Str.ofString "1248") (x.fmod 4) ++ Txt.mul (Str.ofString "0") (x.fdiv 4)
theorem neOfLt2 {d e : Addr} {l : List (Addr × Obj)} (h : ∀ p ∈ l, p.1 < d) (hde : @LE.le Nat _ d e) : ∀ p ∈ l, p.1 ≠ e := fun p hp => Nat.ne_of_lt (Nat.lt_of_lt_of_le (h p hp) hde)
theorem wordS_all : ∀ x : Fin 32, wordS (x.val : Int) = pfWord PFT x.val := by decide +kernel
theorem wordS_mul : ∀ x : Fin 32, (Txt.mul (Str.ofString "0") ((x.val : Int).fdiv 4)).length ≤ 8 := by decide +kernel
theorem wordS_eq {x : Int} (h0 : 0 ≤ x) (h1 : x < 32) : wordS x = pfWord PFT x.toNat := by
  have := wordS_all ⟨x.toNat, by omega⟩
  simpa [Int.toNat_of_nonneg h0] using this
theorem mul_len {x : Int} (h0 : 0 ≤ x) (h1 : x < 32) : (Txt.mul (Str.ofString "0") (x.fdiv 4)).length ≤ 8 := by
  have := wordS_mul ⟨x.toNat, by omega⟩
  simpa [Int.toNat_of_nonneg h0] using this
end Mine
namespace Mine
section
variable {prog : Program} {w : World} {A : Around} {E : Value → Shared → Prop} {s : Shared} {Q : Value → Shared → Prop}
theorem r_sumpick {h₀ : Heap} {L : Addr} {m : Str → Option Value} {news : List (Addr × Obj)} {l : Addr} {vs : List Value} {ns : List Int} {lo hi st : Option Int} {c : Nat} (hh : A.handled = none) (F : Fr h₀ L s.heap m) (N : News h₀ L s.heap news) (hm : (l, W.listOf (slicePick vs.toArray lo hi st) c) ∈ news) (hi' : IntsAre vs ns)
    (h : ∀ h' tk t', Fr h₀ L h' m → News h₀ L h' news → Q (.int (pickNums ns lo hi st).sum t') { s with heap := h', toks := tk }) :
    wpAny (model prog w) A (call (.builtin "sum") [.ref l]) Q E s :=
  sumK (vs := (slicePick vs.toArray lo hi st).toList) hh F N ⟨_, (N _ hm).1, rfl, c, by simp [W.listOf]⟩ (hi'.pick lo hi st) h
end
end Mine
namespace Mine
def cellsOf (ns : List Int) : List Int := (rangeKs 0 11).map fun k => [0, 110, 20, 90, 10, 71, 30, 58, 40, -1, -1].getD k.toNat 0 + (pickNums ns (some k) none (some 11)).sum
theorem cellsOf_len (ns : List Int) : (cellsOf ns).length = 11 := rfl
end Mine
end
section
set_option maxRecDepth 100000
namespace Mine
open Builtin.Int (intBits)


set_option maxHeartbeats 4000000 in
theorem c_pf {w : World} {loose : List Str} {mean : ExcName → Option Value} {mg mb : Str → Option Value} {dp un : Nat} {gd : Option (List Code)} {cn : Str} {cs : Scope} {a : Addr} {ccd : Value} {cl : List (Str × Addr)} {outer : List Env} {A₀ : Around} {base h₀ : Heap} {L : Addr} {m : Str → Option Value} {news : List (Addr × Obj)} {s : Shared} {Q E : Value → Shared → Prop} {x : Int} {t : Tok} (B : Below A₀ base outer h₀) (F : Fr h₀ L s.heap m) (X : (hd.heap_39 w.params).In h₀) (N : News h₀ L s.heap news) (T : Top topProg loose mean mg mb h₀) (hk : cs.kind = .function)
    (hx : 0 ≤ x) (hx1 : x < 2 ^ 60) 
    (hdp : dp + 3 < recursionLimit) (hu : un + 8 * 3 < cLine)
    (hret : ∀ t h' tk', Fr h₀ L h' m → News h₀ L h' news → Q (.str (Txt.join (Str.ofString ", ") (pfW PFT x)) t) { s with heap := h', toks := tk' }) :
    wpAny (model PySem.Challenge.rw_wo0032_01.row.prog w) (ktrTop dp un gd cn cs L a ccd cl outer) (call (.ref 71) [.int x t]) Q E s := by
  w_top off
  k_with_none
  k_with "LT1!" => (first | with_reducible assumption | with_reducible exact Nat.lt_succ_self _ | with_reducible exact And.left (by assumption) | with_reducible exact And.left (And.right (by assumption)) | with_reducible exact And.left (And.right (And.right (by assumption))) | with_reducible exact And.left (And.right (And.right (And.right (by assumption)))) | with_reducible exact And.left (And.right (And.right (And.right (And.right (by assumption))))) | with_reducible exact And.left (And.right (And.right (And.right (And.right (And.right (by assumption)))))) | with_reducible exact And.right (by assumption) | with_reducible exact And.right (And.right (by assumption)) | with_reducible exact And.right (And.right (And.right (by assumption))) | with_reducible exact And.right (And.right (And.right (And.right (by assumption)))))
  k_with "LT!" => (first | k_extra "LT1!" | ((with_reducible refine (Nat.lt_succ_of_lt ?_ : @LT.lt Nat _ _ (_ + 1))); first | k_extra "LT1!" | ((with_reducible refine (Nat.lt_succ_of_lt ?_ : @LT.lt Nat _ _ (_ + 1))); first | k_extra "LT1!" | ((with_reducible refine (Nat.lt_succ_of_lt ?_ : @LT.lt Nat _ _ (_ + 1))); k_extra "LT1!"))))
  k_with "NE!" => (first | with_reducible assumption | with_reducible exact Ne.symm (by assumption) | decide | ((fail_if_success (fail_if_success omega)); first | ((with_reducible refine Nat.ne_of_gt ?_); (fail_if_success (fail_if_success omega)); k_extra "LT!") | ((with_reducible refine Nat.ne_of_lt ?_); (fail_if_success (fail_if_success omega)); k_extra "LT!") | with_reducible exact And.left (by assumption) | with_reducible exact And.left (And.right (by assumption)) | with_reducible exact And.left (And.right (And.right (by assumption))) | omega))
  k_with "KNE!" => ((refine neN ?_; (try dsimp only); k_extra "NE!"))
  k_with "LBND!" => (first | assumption | decide | with_reducible exact Int.lt_of_lt_of_le (by assumption) (by decide) | with_reducible exact Int.lt_of_le_of_lt (by assumption) (by decide) | with_reducible exact Int.le_trans (by assumption) (by decide) | with_reducible exact Int.lt_of_lt_of_le (by decide) (by assumption) | with_reducible exact Int.le_trans (by decide) (by assumption) | with_reducible exact Int.natCast_nonneg _ | with_reducible exact Int.ne_of_gt (by assumption) | with_reducible exact Int.le_of_lt (by assumption) | with_reducible exact Nat.lt_of_lt_of_le (by assumption) (by decide) | with_reducible exact Nat.lt_of_le_of_lt (by assumption) (by decide) | with_reducible exact Nat.le_trans (by assumption) (by decide) | k_dflt omega | l_fact)
  k_with "ROOM!" => (((try simp only [depth_under_make, depth_under_kw, depth_in1, depth_deeper, depth_caller]); (try dsimp only [ktrTop]); first | with_reducible assumption | exact room_0 (by with_reducible assumption) | exact room_le (by with_reducible assumption) (by decide) | exact room_12 (by with_reducible assumption) (by decide)))
  k_with "UNITS!" => (((try simp only [units_in1, units_deeper, Around.mark_units, units_caller]); (try dsimp only [ktrTop]); first | with_reducible assumption | exact room_0 (by with_reducible assumption) | exact room_le (by with_reducible assumption) (by decide) | exact room_12 (by with_reducible assumption) (by decide) | exact room_123 (by with_reducible assumption) (by decide)))
  k_with "BITS!" => (first | (with_reducible assumption) | ((with_reducible apply bits_ediv2); bits_by_make) | ((with_reducible refine bits_emod2 ?_ ?_); (focus l_bnd); bits_by_make))
  k_with "binaryOp LShift int int" => ((k_here; (with_reducible refine' r_shl (by l_bnd) (by bits_by_make) (by l_bnd) (by decide) ?_)))
  k_with "inplaceOp LShift int int" => ((k_here; (with_reducible refine' ishl (by l_bnd) (by bits_by_make) (by l_bnd) (by decide) ?_)))
  k_with "binaryOp RShift int int" => ((k_here; (with_reducible refine r_shr (by l_bnd) ?_)))
  k_with "inplaceOp RShift int int" => ((k_here; (with_reducible refine ishr (by l_bnd) ?_)))
  k_with "binaryOp BitOr int int" => ((k_here; (with_reducible refine r_or (by l_bnd) (by l_bnd) (by l_bnd) ?_)))
  k_with "binaryOp BitAnd int int" => ((k_here; first | (with_reducible refine r_and1 ?_) | ((with_reducible refine r_mask (by l_bnd) ?_))))
  k_with "call builtin:divmod" => ((k_here; (with_reducible show wpAny _ _ (call (Value.builtin _) [Value.int _ _, Value.int _ _]) _ _ _); (refine' r_divmod (by assumption) (by assumption) (by l_bnd) (by first | assumption | exact noPy (by omega)) ?_); intro D' t1' t2' h' tk' F' N' l1; (try k_lt l1)))
  k_with "ALL!" => (first | assumption | (refine' allNe (by assumption)) | (refine' allNe (And.right (by assumption))) | (refine' allNe (And.right (And.right (by assumption)))) | (refine' allNeLt (by assumption) (by omega)))
  k_with "binaryOp Mult ref int" => ((k_here; k_dflt (refine' r_rep0 (by k_asm) (by k_asm) (by k_mem) (by l_bnd) (by l_bnd) ?_); intro D' h' F' N' l1; (try k_lt l1)))
  k_with "binaryOp LShift int int" => ((k_here; k_dflt (refine' r_shl1 (by omega) ?_)))
  k_with "ALL!" => ((refine' neOfLt (by assumption)))
  k_with "inplaceOp BitXor int int" => ((k_here; k_dflt (refine' ixor_pow (by omega) (by assumption) ?_)))
  k_with "call builtin:hex" => ((k_here; k_dflt (refine' r_hex (by omega) (by omega) ?_)))
  have hb60 : (2 : Int) ^ 60 = 1152921504606846976 := by decide
  rw [hb60] at hx1
  have hi1 : intBits 1 ≤ 1 := by decide
  revert B F X N T
  k_fill
  intro B F X N T
  refine wpAny_call ?_
  k_dflt (refine' code_def ?k1 ?k2 ?k3 ?k4 ?k5 ?kA ?kF ?kK ?k6 ?k7 ?k8 ?k9 ?kB ?_ ?c2 ?c3 ?c4 ?c5; (case kA => exact rfl); (case kF => exact rfl); (case kK => assumption); (case k1 => k_asm); (case k2 => k_asm); (case k3 => k_asm); (case k4 => k_asm); (case k5 => k_asm); (case k6 => k_is); (case k7 => k_is); (case k8 => ktr_room); (case k9 => exact BindsTo.of_eq rfl); (case c5 => decide); (case kB => exact locs rfl); (case c2 => exact rfl); (case c3 => exact rfl); (case c4 => exact rfl); k_whole; intro g' L' h' FG' F' N' B' X' T'; (try dsimp only); (try k_fold))
  k_with "exec For" => ((refine for_else (h₀ := g') rfl rfl ?_))
  k_with "pyIter ref" => (((with_reducible rename Fr g' _ _ _ => lF'); (with_reducible rename News g' _ _ _ => lN'); (with_reducible rename IsRange _ _ _ _ _ _ _ _ => lR'); (with_unfolding_all refine pf_loop (n := 32) (rn := Str.ofString "flags") (fg := [Str.ofString "i", Str.ofString "flag"]) (PI PFT x) (by rfl) lR' (by rfl) (by rfl) lF' lN' (by rfl) StrsAre.nil PI.start (by decide) (by decide) (by decide) ?_ ?_); (clear lF' lN' lR'); (rotate_left); (intro r9 tr9 vs9 ss9 nn9 u9 h9 tk9 hi9 hI9 F9 N9; (have hb9 := hI9.bnd hx); (have hl9 := hI9.len (by decide) hi9 (by decide)); (try k_fold)); (rotate_left); (intro I9 i9 t9 r9 tr9 vs9 ss9 nn9 u9 h9 tk9 hlt9 hD9 hoff9 hi9 hI9 F9 N9; (have hb9 := hI9.bnd hx); (have hD99 := Ne.symm hD9); (have hp9 := pow2_pos i9); (have hp99 := pow2_32 hlt9); (have hl9 := hI9.len (by decide) hi9 (by omega)); (try k_fold))))
  k_with "binaryOp BitAnd int int" => ((refine r_andpow ?_ ?_ ?_); (focus l_bnd); (intro hz9); (rotate_left); (intro ho9))
  k_with "EPost" => (first | (exfalso; omega) | (refine EPost.brk ?_) | (refine EPost.pf (by assumption) (by assumption) hi9 (by with_unfolding_all rfl) (by intro z h1 h2; simp only [List.contains_cons, List.contains_nil, Bool.or_false, Bool.or_eq_false_iff, beq_eq_false_iff_ne, ne_eq] at h2; simp [h1, h2]) (hI9.off hz9) hD9 hoff9) | ((with_reducible rename News _ _ _ _ => nN); (simp only [List.push_toArray] at nN); (refine EPost.pf (by assumption) nN (strs_snoc hi9) (by with_unfolding_all rfl) (by intro z h1 h2; simp only [List.contains_cons, List.contains_nil, Bool.or_false, Bool.or_eq_false_iff, beq_eq_false_iff_ne, ne_eq] at h2; simp [h1, h2]) (hI9.on ho9 (by assumption)) hD9 hoff9)))
  k_with "call builtin:dict.get" => (((try kt_k); (refine kget (D := PFT) (by with_unfolding_all assumption) (by kt_keeps) (by decide) ?_); intro t7))
  k_with "call builtin:str.join" => (((with_reducible rename News _ _ _ _ => nN); (simp only [List.push_toArray] at nN); (refine r_join (ys := pfW PFT x) nN (by first | exact List.mem_cons_self | exact List.mem_cons_of_mem _ List.mem_cons_self) (by first | (rw [← hI9.fin]; exact strs_snoc hi9) | (rw [← hI9.brk hx hlt9 ho9 (by assumption)]; exact strs_snoc hi9)) (by decide) (by have := pfW_len (D := PFT) (by decide) hx (show x < 2 ^ 60 from hx1); exact ⟨this.1, by omega⟩) ?_); intro t8 k8))
  k_steps
  all_goals (refine hret _ _ _ (by assumption) ?_; first | assumption | (refine cb_drop (by assumption) fun p hp => ?_; simp [hp]))
end Mine
end
section
set_option maxRecDepth 100000
namespace Mine
open Builtin.Int (intBits)


set_option maxHeartbeats 4000000 in
theorem c_word {w : World} {loose : List Str} {mean : ExcName → Option Value} {mg mb : Str → Option Value} {dp un : Nat} {gd : Option (List Code)} {cn : Str} {cs : Scope} {a : Addr} {ccd : Value} {cl : List (Str × Addr)} {outer : List Env} {A₀ : Around} {base h₀ : Heap} {L : Addr} {m : Str → Option Value} {news : List (Addr × Obj)} {s : Shared} {Q E : Value → Shared → Prop} {x : Int} {t : Tok} (B : Below A₀ base outer h₀) (F : Fr h₀ L s.heap m) (X : (hd.heap_39 w.params).In h₀) (N : News h₀ L s.heap news) (T : Top topProg loose mean mg mb h₀) (hk : cs.kind = .function)
    (hx : 0 ≤ x) (hx1 : x < 32) 
    (hdp : dp + 3 < recursionLimit) (hu : un + 8 * 3 < cLine)
    (hret : ∀ t h' tk', Fr h₀ L h' m → News h₀ L h' news → Q (.str (pfWord PFT x.toNat) t) { s with heap := h', toks := tk' }) :
    wpAny (model PySem.Challenge.rw_wo0032_01.row.prog w) (ktrTop dp un gd cn cs L a ccd cl outer) (call (.ref 78) [.int x t]) Q E s := by
  w_top off
  k_with_none
  k_with "BITS!" => (first | (with_reducible assumption) | ((with_reducible apply bits_ediv2); bits_by_make) | ((with_reducible refine bits_emod2 ?_ ?_); (focus l_bnd); bits_by_make))
  k_with "binaryOp LShift int int" => ((k_here; (with_reducible refine' r_shl (by l_bnd) (by bits_by_make) (by l_bnd) (by decide) ?_)))
  k_with "inplaceOp LShift int int" => ((k_here; (with_reducible refine' ishl (by l_bnd) (by bits_by_make) (by l_bnd) (by decide) ?_)))
  k_with "binaryOp RShift int int" => ((k_here; (with_reducible refine r_shr (by l_bnd) ?_)))
  k_with "inplaceOp RShift int int" => ((k_here; (with_reducible refine ishr (by l_bnd) ?_)))
  k_with "binaryOp BitOr int int" => ((k_here; (with_reducible refine r_or (by l_bnd) (by l_bnd) (by l_bnd) ?_)))
  k_with "binaryOp BitAnd int int" => ((k_here; first | (with_reducible refine r_and1 ?_) | ((with_reducible refine r_mask (by l_bnd) ?_))))
  k_with "call builtin:divmod" => ((k_here; (with_reducible show wpAny _ _ (call (Value.builtin _) [Value.int _ _, Value.int _ _]) _ _ _); (refine' r_divmod (by assumption) (by assumption) (by l_bnd) (by first | assumption | exact noPy (by omega)) ?_); intro D' t1' t2' h' tk' F' N' l1; (try k_lt l1)))
  k_with "ALL!" => (first | assumption | (refine' allNe (by assumption)) | (refine' allNe (And.right (by assumption))) | (refine' allNe (And.right (And.right (by assumption)))) | (refine' allNeLt (by assumption) (by omega)))
  k_with "binaryOp Mult ref int" => ((k_here; k_dflt (refine' r_rep0 (by k_asm) (by k_asm) (by k_mem) (by l_bnd) (by l_bnd) ?_); intro D' h' F' N' l1; (try k_lt l1)))
  have hml := mul_len hx hx1
  rw [← wordS_eq hx hx1] at hret
  unfold wordS at hret
  revert B F X N T
  k_fill
  intro B F X N T
  refine wpAny_call ?_
  k_dflt (refine' code_def ?k1 ?k2 ?k3 ?k4 ?k5 ?kA ?kF ?kK ?k6 ?k7 ?k8 ?k9 ?kB ?_ ?c2 ?c3 ?c4 ?c5; (case kA => exact rfl); (case kF => exact rfl); (case kK => assumption); (case k1 => k_asm); (case k2 => k_asm); (case k3 => k_asm); (case k4 => k_asm); (case k5 => k_asm); (case k6 => k_is); (case k7 => k_is); (case k8 => ktr_room); (case k9 => exact BindsTo.of_eq rfl); (case c5 => decide); (case kB => exact locs rfl); (case c2 => exact rfl); (case c3 => exact rfl); (case c4 => exact rfl); k_whole; intro g' L' h' FG' F' N' B' X' T'; (try dsimp only); (try k_fold))
  k_steps
  · rw [if_pos (by assumption)] at hret
    exact hret _ _ _ (by assumption) (cb_drop (by assumption) fun p hp => by simp [hp])
  · rw [if_neg (by assumption)] at hret
    exact hret _ _ _ (by assumption) (cb_drop (by assumption) fun p hp => by simp [hp])
end Mine
end
section
set_option maxRecDepth 100000
namespace Mine
open Builtin.Int (intBits)


set_option maxHeartbeats 4000000 in
theorem c_cells {w : World} {loose : List Str} {mean : ExcName → Option Value} {mg mb : Str → Option Value} {dp un : Nat} {gd : Option (List Code)} {cn : Str} {cs : Scope} {a : Addr} {ccd : Value} {cl : List (Str × Addr)} {outer : List Env} {A₀ : Around} {base h₀ : Heap} {L : Addr} {m : Str → Option Value} {news : List (Addr × Obj)} {s : Shared} {Q E : Value → Shared → Prop} {S : Addr} {vs : List Value} {ns : List Int} (B : Below A₀ base outer h₀) (F : Fr h₀ L s.heap m) (X : (hd.heap_39 w.params).In h₀) (N : News h₀ L s.heap news) (T : Top topProg loose mean mg mb h₀) (hk : cs.kind = .function)
    (hS : h₀.IsList S vs.toArray) (hi : IntsAre vs ns) (hl : vs.length ≤ 63)
    (hdp : dp + 3 < recursionLimit) (hu : un + 8 * 3 < cLine)
    (hret : ∀ D ys h' tk', IntsAre ys (cellsOf ns) → Fr h₀ L h' m → News h₀ L h' ((D, LCg.lst ys) :: news) → LCg.Off1 D news → Q (.ref D) { s with heap := h', toks := tk' }) :
    wpAny (model PySem.Challenge.rw_wo0032_01.row.prog w) (ktrTop dp un gd cn cs L a ccd cl outer) (call (.ref 83) [.ref S]) Q E s := by
  w_top off
  k_with_none
  k_with "LT1!" => (first | with_reducible assumption | with_reducible exact Nat.lt_succ_self _ | with_reducible exact And.left (by assumption) | with_reducible exact And.left (And.right (by assumption)) | with_reducible exact And.left (And.right (And.right (by assumption))) | with_reducible exact And.left (And.right (And.right (And.right (by assumption)))) | with_reducible exact And.left (And.right (And.right (And.right (And.right (by assumption))))) | with_reducible exact And.left (And.right (And.right (And.right (And.right (And.right (by assumption)))))) | with_reducible exact And.right (by assumption) | with_reducible exact And.right (And.right (by assumption)) | with_reducible exact And.right (And.right (And.right (by assumption))) | with_reducible exact And.right (And.right (And.right (And.right (by assumption)))))
  k_with "LT!" => (first | k_extra "LT1!" | ((with_reducible refine (Nat.lt_succ_of_lt ?_ : @LT.lt Nat _ _ (_ + 1))); first | k_extra "LT1!" | ((with_reducible refine (Nat.lt_succ_of_lt ?_ : @LT.lt Nat _ _ (_ + 1))); first | k_extra "LT1!" | ((with_reducible refine (Nat.lt_succ_of_lt ?_ : @LT.lt Nat _ _ (_ + 1))); k_extra "LT1!"))))
  k_with "NE!" => (first | with_reducible assumption | with_reducible exact Ne.symm (by assumption) | decide | ((fail_if_success (fail_if_success omega)); first | ((with_reducible refine Nat.ne_of_gt ?_); (fail_if_success (fail_if_success omega)); k_extra "LT!") | ((with_reducible refine Nat.ne_of_lt ?_); (fail_if_success (fail_if_success omega)); k_extra "LT!") | with_reducible exact And.left (by assumption) | with_reducible exact And.left (And.right (by assumption)) | with_reducible exact And.left (And.right (And.right (by assumption))) | omega))
  k_with "KNE!" => ((refine neN ?_; (try dsimp only); k_extra "NE!"))
  k_with "LBND!" => (first | assumption | decide | with_reducible exact Int.lt_of_lt_of_le (by assumption) (by decide) | with_reducible exact Int.lt_of_le_of_lt (by assumption) (by decide) | with_reducible exact Int.le_trans (by assumption) (by decide) | with_reducible exact Int.lt_of_lt_of_le (by decide) (by assumption) | with_reducible exact Int.le_trans (by decide) (by assumption) | with_reducible exact Int.natCast_nonneg _ | with_reducible exact Int.ne_of_gt (by assumption) | with_reducible exact Int.le_of_lt (by assumption) | with_reducible exact Nat.lt_of_lt_of_le (by assumption) (by decide) | with_reducible exact Nat.lt_of_le_of_lt (by assumption) (by decide) | with_reducible exact Nat.le_trans (by assumption) (by decide) | k_dflt omega | l_fact)
  k_with "ROOM!" => (((try simp only [depth_under_make, depth_under_kw, depth_in1, depth_deeper, depth_caller]); (try dsimp only [ktrTop]); first | with_reducible assumption | exact room_0 (by with_reducible assumption) | exact room_le (by with_reducible assumption) (by decide) | exact room_12 (by with_reducible assumption) (by decide)))
  k_with "UNITS!" => (((try simp only [units_in1, units_deeper, Around.mark_units, units_caller]); (try dsimp only [ktrTop]); first | with_reducible assumption | exact room_0 (by with_reducible assumption) | exact room_le (by with_reducible assumption) (by decide) | exact room_12 (by with_reducible assumption) (by decide) | exact room_123 (by with_reducible assumption) (by decide)))
  k_with "BITS!" => (first | (with_reducible assumption) | ((with_reducible apply bits_ediv2); bits_by_make) | ((with_reducible refine bits_emod2 ?_ ?_); (focus l_bnd); bits_by_make))
  k_with "binaryOp LShift int int" => ((k_here; (with_reducible refine' r_shl (by l_bnd) (by bits_by_make) (by l_bnd) (by decide) ?_)))
  k_with "inplaceOp LShift int int" => ((k_here; (with_reducible refine' ishl (by l_bnd) (by bits_by_make) (by l_bnd) (by decide) ?_)))
  k_with "binaryOp RShift int int" => ((k_here; (with_reducible refine r_shr (by l_bnd) ?_)))
  k_with "inplaceOp RShift int int" => ((k_here; (with_reducible refine ishr (by l_bnd) ?_)))
  k_with "binaryOp BitOr int int" => ((k_here; (with_reducible refine r_or (by l_bnd) (by l_bnd) (by l_bnd) ?_)))
  k_with "binaryOp BitAnd int int" => ((k_here; first | (with_reducible refine r_and1 ?_) | ((with_reducible refine r_mask (by l_bnd) ?_))))
  k_with "call builtin:divmod" => ((k_here; (with_reducible show wpAny _ _ (call (Value.builtin _) [Value.int _ _, Value.int _ _]) _ _ _); (refine' r_divmod (by assumption) (by assumption) (by l_bnd) (by first | assumption | exact noPy (by omega)) ?_); intro D' t1' t2' h' tk' F' N' l1; (try k_lt l1)))
  k_with "ALL!" => (first | assumption | (refine' allNe (by assumption)) | (refine' allNe (And.right (by assumption))) | (refine' allNe (And.right (And.right (by assumption)))) | (refine' allNeLt (by assumption) (by omega)))
  k_with "binaryOp Mult ref int" => ((k_here; k_dflt (refine' r_rep0 (by k_asm) (by k_asm) (by k_mem) (by l_bnd) (by l_bnd) ?_); intro D' h' F' N' l1; (try k_lt l1)))
  k_with "ALL!" => (first | (refine' neOfLt (by assumption)) | (refine' neOfLt2 (by assumption) (by omega)))
  revert B F X N T
  k_fill
  intro B F X N T
  refine wpAny_call ?_
  k_dflt (refine' code_defC ?k1 ?k2 ?k3 ?k4 ?k5 ?kA ?kF ?kK ?k6 ?k7 ?k8 ?k9 ?kB ?kD ?_ ?c2 ?c3 ?c4; (case kA => exact rfl); (case kF => exact rfl); (case kK => assumption); (case k1 => k_asm); (case k2 => k_asm); (case k3 => k_asm); (case k4 => k_asm); (case k5 => k_asm); (case k6 => k_is); (case k7 => k_is); (case k8 => ktr_room); (case k9 => first | exact BindsTo.of_eq rfl | exact binds_K (by k_in) rfl (by k_is) rfl rfl rfl); (case kB => exact rfl); (case kD => decide +kernel); (case c2 => exact rfl); (case c3 => exact rfl); (case c4 => exact rfl); k_whole; intro g' L' h' tk' cells' FG' F' N' Y' B' X' T' l1; (try k_lt l1); k_cells Y'; (try simp only [List.cons_append, List.nil_append] at N'); (try dsimp only); (try k_lift B'); (try k_fold))
  have hS' : g'.IsList S vs.toArray := by obtain ⟨o, h1, h2⟩ := hS; exact ⟨o, FG'.keep _ _ h1, h2⟩
  k_with "eval BinOp" => ((with_reducible rename _ < (0 : Int) + _ => q9); (replace q9 : _ < (11 : Int) := q9))
  k_with "call builtin:sum" => (((refine r_sumpick (by with_unfolding_all rfl) (by k_asm) (by k_asm) List.mem_cons_self hi ?_); intro h7 k7 t7 F7 N7))
  k_steps
  refine hret _ _ _ _ (by assumption) (by assumption) (cb_drop (by assumption) fun p hp => ?_) (by rename_i o1 _ _ _ _; exact o1.2.2.2)
  rcases List.mem_cons.mp hp with rfl | hp <;> simp [hp]
end Mine
end
section
namespace Mine
def JPost (h₀ : Heap) (L : Addr) (s : Shared) (I : Addr) (it : Obj) (J : (Str → Option Value) → List (Addr × Obj) → Prop) (f : Flow) (s₂ : Shared) : Prop :=
  f = .next ∧ ∃ h' tk m' news', s₂ = { s with heap := h', toks := tk } ∧ Fr h₀ L h' m' ∧ News h₀ L h' ((I, it) :: news') ∧ (∀ p ∈ news', p.1 ≠ I) ∧ J m' news'
theorem JPost.intro {h₀ : Heap} {L : Addr} {s : Shared} {I : Addr} {it : Obj} {J : (Str → Option Value) → List (Addr × Obj) → Prop} {h' : Heap} {tk : Nat} {m' : Str → Option Value} {news' : List (Addr × Obj)}
    (F : Fr h₀ L h' m') (N : News h₀ L h' ((I, it) :: news')) (off : ∀ p ∈ news', p.1 ≠ I) (hJ : J m' news') : JPost h₀ L s I it J .next { s with heap := h', toks := tk } := ⟨rfl, h', tk, m', news', rfl, F, N, off, hJ⟩
section
variable {prog : Program} {w : World} {A : Around} {E : Value → Shared → Prop} {Q : Flow → Shared → Prop} {s : Shared} {env : Env} {h₀ : Heap} {x : Str} {body : List Stmt}
theorem list_rest {I₀ : Addr} {lp : Addr × Obj} (J : List Value → (Str → Option Value) → List (Addr × Obj) → Prop) (hmem : ∀ r m news, J r m news → lp ∈ news)
    (turn : ∀ v r m news it h tk, J (v :: r) m news → Fr h₀ env.locals h (fun y => if y = x then some v else m y) → News h₀ env.locals h ((I₀, it) :: news) →
      wpAny (model prog w) A (execs body env) (JPost h₀ env.locals { s with heap := h, toks := tk } I₀ it (J r)) E { s with heap := h, toks := tk })
    (done : ∀ m news h tk, J [] m news → Fr h₀ env.locals h m → News h₀ env.locals h news → Q .next { s with heap := h, toks := tk }) :
    ∀ (rv : List Value) m news, J rv m news → ListRest prog w A E h₀ env x body Q s I₀ lp rv m news
  | [], m, news, hJ => fun h tk F N => done m news h tk hJ F N
  | v :: r, m, news, hJ => fun it h tk hc F N => by
    refine wpAny_mono (turn v r m news it h tk hJ F N) (fun f s₂ p => ?_) fun _ _ e => e
    obtain ⟨rfl, h', tk', m', news', rfl, F', N', off, hJ'⟩ := p
    exact ⟨h', tk', m', news', rfl, F', N', off, hmem _ _ _ hJ', list_rest J hmem turn done r m' news' hJ'⟩
theorem list_loop {ax : Addr} {lo : Obj} {vs : List Value} {n : Nat} {m₀ : Str → Option Value} {news : List (Addr × Obj)} (J : List Value → (Str → Option Value) → List (Addr × Obj) → Prop)
    (hh : A.handled = none) (F : Fr h₀ env.locals s.heap m₀) (N : News h₀ env.locals s.heap news) (hm : (ax, lo) ∈ news) (hc : lo.cls = .type "list") (hd : lo.data = .seq vs.toArray n) (hmem : ∀ r m news, J r m news → (ax, lo) ∈ news) (h0 : J vs m₀ news)
    (turn : ∀ I v r m news₁ it h tk, (∀ p ∈ news, p.1 < I) → J (v :: r) m news₁ → Fr h₀ env.locals h (fun y => if y = x then some v else m y) → News h₀ env.locals h ((I, it) :: news₁) →
      wpAny (model prog w) A (execs body env) (JPost h₀ env.locals { s with heap := h, toks := tk } I it (J r)) E { s with heap := h, toks := tk })
    (done : ∀ m news h tk, J [] m news → Fr h₀ env.locals h m → News h₀ env.locals h news → Q .next { s with heap := h, toks := tk }) :
    wpAny (model prog w) A (pyIter (.ref ax)) (fun it s₂ => LoopAtV prog w A h₀ env x body Q E it s₂) E s := by
  refine iter_listUnr hh F N hm hc hd fun I hI => ?_
  exact list_rest J hmem (fun v r m news₁ it h tk hJ F₁ N₁ => turn I v r m news₁ it h tk hI hJ F₁ N₁) done vs m₀ news h0
end
def tbOK : List Int → List Int → Prop
  | [], [] => True
  | t :: ts, b :: bs => (b = 0 ∨ b = 2 ^ (2 ^ t.toNat : Int).toNat) ∧ tbOK ts bs
  | _, _ => False
theorem tbOK.snoc {t b : Int} (h : b = 0 ∨ b = 2 ^ (2 ^ t.toNat : Int).toNat) : ∀ {ts bs : List Int}, tbOK ts bs → tbOK (ts ++ [t]) (bs ++ [b])
  | [], [], _ => ⟨h, trivial⟩
  | _ :: _, _ :: _, h' => ⟨h'.1, tbOK.snoc h h'.2⟩
theorem tbOK.len : ∀ {ts bs : List Int}, tbOK ts bs → bs.length = ts.length
  | [], [], _ => rfl
  | _ :: _, _ :: _, h' => by simp [tbOK.len h'.2]
structure TabI (k : Nat) (sp tn tb : List Int) : Prop where
  ltn : tn.length + k = 9
  lsp : sp.length = 4 + k
  nd : (sp ++ tn).Nodup
  bd : ∀ z ∈ sp ++ tn, 0 ≤ z ∧ z ≤ 12
  ok : tbOK tn tb
theorem TabI.start : TabI 9 (rangeKs 0 13) [] [] := ⟨rfl, rfl, by decide, by decide, trivial⟩
theorem eraseIdx_perm {l : List Int} {i : Nat} (h : i < l.length) : (l.eraseIdx i ++ [l[i]]).Perm l := by
  rw [List.eraseIdx_eq_take_drop_succ]
  have e : l = l.take i ++ l[i] :: l.drop (i + 1) := by
    rw [← List.drop_eq_getElem_cons h, List.take_append_drop]
  conv => rhs; rw [e]
  rw [List.append_assoc]
  exact List.Perm.append_left _ List.perm_append_comm
theorem TabI.step {k : Nat} {sp tn tb : List Int} {i : Nat} {b : Int} (h : TabI (k + 1) sp tn tb) (hi : i < sp.length) (hb : b = 0 ∨ b = 2 ^ (2 ^ (sp[i]).toNat : Int).toNat) : TabI k (sp.eraseIdx i) (tn ++ [sp[i]]) (tb ++ [b]) := by
  have hp : (sp.eraseIdx i ++ (tn ++ [sp[i]])).Perm (sp ++ tn) := by
    refine ((List.perm_append_comm (l₁ := tn) (l₂ := [sp[i]])).append_left _).trans ?_
    rw [← List.append_assoc]
    exact (eraseIdx_perm hi).append_right _
  refine ⟨by have := h.ltn; simp; omega, by rw [List.length_eraseIdx_of_lt hi]; have := h.lsp; omega, hp.nodup_iff.mpr h.nd, fun z hz => h.bd z (hp.mem_iff.mp hz), h.ok.snoc hb⟩
theorem kl_cut_get : ∀ {l : List Value} {k : Nat} (h : k < l.length), kl_cut l k = some (l.take k, l[k], l.drop (k + 1))
  | x :: r, 0, _ => rfl
  | x :: r, k + 1, h => by
    have h' : k < r.length := by simpa using h
    simp only [kl_cut, kl_cut_get h', List.take_succ_cons, List.getElem_cons_succ, List.drop_succ_cons]
theorem ints_get : ∀ {vs : List Value} {ns : List Int}, IntsAre vs ns → ∀ {k : Nat} (h : k < vs.length) (h' : k < ns.length), ∃ t, vs[k] = .int ns[k] t
  | _, _, .cons n t _, 0, _, _ => ⟨t, rfl⟩
  | _, _, .cons n t r, k + 1, h, h' => ints_get r (by simpa using h) (by simpa using h')
theorem ints_erase : ∀ {vs : List Value} {ns : List Int}, IntsAre vs ns → ∀ (k : Nat), IntsAre (vs.take k ++ vs.drop (k + 1)) (ns.eraseIdx k)
  | _, _, .nil, k => by simpa using IntsAre.nil
  | _, _, .cons n t r, 0 => by simpa using r
  | _, _, .cons n t r, k + 1 => by simpa using IntsAre.cons n t (ints_erase r k)
section
variable {prog : Program} {w : World} {A : Around} {E : Value → Shared → Prop} {s : Shared} {Q : Value → Shared → Prop}
theorem r_popint {h₀ : Heap} {L D : Addr} {m : Str → Option Value} {news : List (Addr × Obj)} {news' : List Value → List (Addr × Obj)} {vs : List Value} {ns : List Int} {n : Nat} {i : Int} {u : Tok} (F : Fr h₀ L s.heap m) (N : News h₀ L s.heap news) (hi : IntsAre vs ns) (h0 : 0 ≤ i) (h1 : i < ns.length) (h2 : ns.length ≤ 100)
    (U : ∀ vs', Upd D (W.listOf vs.toArray n) (W.listOf vs'.toArray (n + 1)) news (news' vs'))
    (h : ∀ vs' t h', IntsAre vs' (ns.eraseIdx i.toNat) → Fr h₀ L h' m → News h₀ L h' (news' vs') → Q (.int (ns[i.toNat]'(by omega)) t) { s with heap := h' }) :
    wpAny (model prog w) A (call (.builtin "list.pop") [.ref D, .int i u]) Q E s := by
  have hl := hi.length
  have hk : i.toNat < vs.length := by omega
  have hk' : i.toNat < ns.length := by omega
  obtain ⟨t, ht⟩ := ints_get hi hk hk'
  refine kl_popAt F N ?_ (k := i.toNat) ?_ (kl_cut_get (by simpa using hk)) (U _) (by rw [sizeLine_eq]; simp; omega) fun h' F' N' => ?_
  · unfold Builtin.List.listFitsIndex
    simp only [Bool.and_eq_true, decide_eq_true_eq]
    constructor <;> omega
  · unfold seqIndex?
    simp only [List.size_toArray]
    rw [if_neg (show ¬ i < 0 by omega), if_pos (by simp; omega)]
  · have e : vs.toArray.toList[i.toNat] = Value.int ns[i.toNat] t := by simpa using ht
    rw [e]
    exact h _ t h' (by simpa using ints_erase hi i.toNat) F' N'
end
end Mine
namespace Mine
def JTab (Sp Tn Tb : Addr) (m₀ : Str → Option Value) (rest : List (Addr × Obj)) (ds : Addr × Obj) (x : Str) (rv : List Value) (m : Str → Option Value) (news : List (Addr × Obj)) : Prop :=
  ∃ (sp tn tb : List Int) (spv tnv tbv : List Value) (n1 n2 n3 : Nat) (u : Str → Option Value), IntsAre spv sp ∧ IntsAre tnv tn ∧ IntsAre tbv tb ∧ TabI rv.length sp tn tb ∧ (∃ zs, IntsAre rv zs) ∧ m = (fun y => if y = x then u y else m₀ y) ∧
    news = ds :: (Tb, W.listOf tbv.toArray n3) :: (Tn, W.listOf tnv.toArray n2) :: (Sp, W.listOf spv.toArray n1) :: rest
theorem JTab.mem {Sp Tn Tb : Addr} {m₀ : Str → Option Value} {rest : List (Addr × Obj)} {ds : Addr × Obj} {x : Str} {rv : List Value} {m : Str → Option Value} {news : List (Addr × Obj)} (h : JTab Sp Tn Tb m₀ rest ds x rv m news) : ds ∈ news := by
  obtain ⟨_, _, _, _, _, _, _, _, _, _, _, _, _, _, _, _, rfl⟩ := h
  exact .head _
end Mine
namespace Mine
theorem ints_cons {v : Value} {r : List Value} {zs : List Int} (h : IntsAre (v :: r) zs) : ∃ a t zs', v = .int a t ∧ zs = a :: zs' ∧ IntsAre r zs' := by
  cases h with
  | cons a t h => exact ⟨a, t, _, rfl, rfl, h⟩
end Mine
namespace Mine
theorem pow2_12 {z : Int} (h : 0 ≤ z ∧ z ≤ 12) : 0 < (2 : Int) ^ z.toNat ∧ (2 : Int) ^ z.toNat ≤ 4096 := by
  have h1 := pow2_pos z.toNat
  have h2 := pow2_le (i := z.toNat) (j := 12) (by omega)
  exact ⟨h1, h2⟩
end Mine
namespace Mine
theorem nsT {h₀ h : Heap} {L : Addr} {q ds a b c d : Addr × Obj} {l : List (Addr × Obj)} (N : News h₀ L h (q :: ds :: a :: b :: c :: d :: l)) : News h₀ L h (q :: a :: b :: d :: l) := cb_drop N fun p hp => by
  simp only [List.mem_cons] at hp ⊢
  rcases hp with h | h | h | h | h <;> simp [h]
end Mine
end
section
set_option maxRecDepth 100000
namespace Mine
open Builtin.Int (intBits)


theorem sp_num {n m k : Nat} (h : n = 4 + k) (hk : m + k = 9) : (0 : Int) < (n : Int) ∧ n ≤ 100 ∧ n < 2 ^ 62 ∧ m ≤ 16777216 ∧ -((m + 1 : Nat) : Int) ≤ -1 ∧ m ≤ 9 := by omega
set_option maxHeartbeats 4000000 in
theorem c_table {w : World} {loose : List Str} {mean : ExcName → Option Value} {mg mb : Str → Option Value} {dp un : Nat} {gd : Option (List Code)} {cn : Str} {cs : Scope} {a : Addr} {ccd : Value} {cl : List (Str × Addr)} {outer : List Env} {A₀ : Around} {base h₀ : Heap} {L : Addr} {m : Str → Option Value} {news : List (Addr × Obj)} {s : Shared} {Q E : Value → Shared → Prop} {S : Addr} {vs : List Value} {ns : List Int} {c : Nat} (B : Below A₀ base outer h₀) (F : Fr h₀ L s.heap m) (X : (hd.heap_39 w.params).In h₀) (N : News h₀ L s.heap ((S, W.listOf vs.toArray c) :: news)) (T : Top topProg loose mean mg mb h₀) (hk : cs.kind = .function)
    (hi : IntsAre vs ns) (hl : ns.length = 11)
    (hdp : dp + 3 < recursionLimit) (hu : un + 8 * 3 < cLine)
    (hret : ∀ D Tn Tb tnv tbv sp ts tb n1 n2 h' tk', IntsAre tnv ts → IntsAre tbv tb → TabI 0 sp ts tb → Fr h₀ L h' m → News h₀ L h' ((D, { cls := .type "tuple", data := .seq #[.ref Tn, .ref Tb] }) :: (Tb, W.listOf tbv.toArray n1) :: (Tn, W.listOf tnv.toArray n2) :: (S, W.listOf vs.toArray c) :: news) →
      @LT.lt Nat _ Tb D ∧ @LT.lt Nat _ Tn D ∧ @LT.lt Nat _ S D ∧ AllLt D news → @LT.lt Nat _ Tn Tb ∧ @LT.lt Nat _ S Tb ∧ AllLt Tb news → @LT.lt Nat _ S Tn ∧ AllLt Tn news → Q (.ref D) { s with heap := h', toks := tk' }) :
    wpAny (model PySem.Challenge.rw_wo0032_01.row.prog w) (ktrTop dp un gd cn cs L a ccd cl outer) (call (.ref 90) [.ref S]) Q E s := by
  w_top off
  k_with_none
  k_with "LT!" => (first | with_reducible assumption | with_reducible exact Nat.lt_succ_self _ | with_reducible exact And.left (by assumption) | with_reducible exact And.left (And.right (by assumption)) | with_reducible exact And.left (And.right (And.right (by assumption))) | with_reducible exact And.left (And.right (And.right (And.right (by assumption)))) | with_reducible exact And.left (And.right (And.right (And.right (And.right (by assumption))))) | with_reducible exact And.left (And.right (And.right (And.right (And.right (And.right (by assumption)))))) | with_reducible exact And.right (by assumption) | with_reducible exact And.right (And.right (by assumption)) | with_reducible exact And.right (And.right (And.right (by assumption))) | with_reducible exact And.right (And.right (And.right (And.right (by assumption)))) | with_reducible exact Nat.lt_trans (by decide) (by assumption) | ((with_reducible refine Nat.lt_succ_of_lt ?_); k_extra "LT!"))
  k_with "NE!" => (first | with_reducible assumption | with_reducible exact Ne.symm (by assumption) | ((with_reducible refine Nat.ne_of_lt ?_); k_extra "LT!") | ((with_reducible refine Nat.ne_of_gt ?_); k_extra "LT!") | with_reducible exact And.left (by assumption) | with_reducible exact And.left (And.right (by assumption)) | with_reducible exact And.left (And.right (And.right (by assumption))) | decide | omega)
  k_with "KNE!" => ((refine neN ?_; (try dsimp only); k_extra "NE!"))
  k_with "LBND!" => (first | assumption | decide | k_dflt omega | l_fact)
  k_with "ROOM!" => (((try simp only [depth_under_make, depth_under_kw, depth_in1, depth_deeper, depth_caller]); (try dsimp only [ktrTop]); first | with_reducible assumption | exact room_0 (by with_reducible assumption) | exact room_le (by with_reducible assumption) (by decide) | exact room_12 (by with_reducible assumption) (by decide)))
  k_with "UNITS!" => (((try simp only [units_in1, units_deeper, Around.mark_units, units_caller]); (try dsimp only [ktrTop]); first | with_reducible assumption | exact room_0 (by with_reducible assumption) | exact room_le (by with_reducible assumption) (by decide) | exact room_12 (by with_reducible assumption) (by decide) | exact room_123 (by with_reducible assumption) (by decide)))
  k_with "BITS!" => (first | (with_reducible assumption) | ((with_reducible apply bits_ediv2); bits_by_make) | ((with_reducible refine bits_emod2 ?_ ?_); (focus l_bnd); bits_by_make))
  k_with "binaryOp LShift int int" => ((k_here; (with_reducible refine' r_shl (by l_bnd) (by bits_by_make) (by l_bnd) (by decide) ?_)))
  k_with "inplaceOp LShift int int" => ((k_here; (with_reducible refine' ishl (by l_bnd) (by bits_by_make) (by l_bnd) (by decide) ?_)))
  k_with "binaryOp RShift int int" => ((k_here; (with_reducible refine r_shr (by l_bnd) ?_)))
  k_with "inplaceOp RShift int int" => ((k_here; (with_reducible refine ishr (by l_bnd) ?_)))
  k_with "binaryOp BitOr int int" => ((k_here; (with_reducible refine r_or (by l_bnd) (by l_bnd) (by l_bnd) ?_)))
  k_with "binaryOp BitAnd int int" => ((k_here; first | (with_reducible refine r_and1 ?_) | ((with_reducible refine r_mask (by l_bnd) ?_))))
  k_with "call builtin:divmod" => ((k_here; (with_reducible show wpAny _ _ (call (Value.builtin _) [Value.int _ _, Value.int _ _]) _ _ _); (refine' r_divmod (by assumption) (by assumption) (by l_bnd) (by first | assumption | exact noPy (by omega)) ?_); intro D' t1' t2' h' tk' F' N' l1; (try k_lt l1)))
  k_with "ALL!" => (first | assumption | (refine' allNe (by assumption)) | (refine' allNe (And.right (by assumption))) | (refine' allNe (And.right (And.right (by assumption)))) | (refine' allNeLt (by assumption) (by omega)))
  k_with "binaryOp Mult ref int" => ((k_here; k_dflt (refine' r_rep0 (by k_asm) (by k_asm) (by k_mem) (by l_bnd) (by l_bnd) ?_); intro D' h' F' N' l1; (try k_lt l1)))
  k_with "ALL!" => (first | (refine' neOfLt (by assumption)) | (refine' neOfLt2 (by assumption) (by omega)))
  have hvl := hi.length
  revert B F X N T
  k_fill
  intro B F X N T
  refine wpAny_call ?_
  k_dflt (refine' code_def ?k1 ?k2 ?k3 ?k4 ?k5 ?kA ?kF ?kK ?k6 ?k7 ?k8 ?k9 ?kB ?_ ?c2 ?c3 ?c4 ?c5; (case kA => exact rfl); (case kF => exact rfl); (case kK => assumption); (case k1 => k_asm); (case k2 => k_asm); (case k3 => k_asm); (case k4 => k_asm); (case k5 => k_asm); (case k6 => k_is); (case k7 => k_is); (case k8 => ktr_room); (case k9 => exact BindsTo.of_eq rfl); (case c5 => decide); (case kB => exact locs rfl); (case c2 => exact rfl); (case c3 => exact rfl); (case c4 => exact rfl); k_whole; intro g' L' h' FG' F' N' B' X' T'; (try dsimp only); (try k_fold))
  k_with "call type:list" => (ktr_tell ((refine kll_range (by with_unfolding_all rfl) (by k_asm) (by k_asm) (by assumption) (by decide) (n := 13) (by decide) (by decide) ?_); intro D1 vs1 c1 h1 tk1 F1 N1 l1 hI1; (k_lt l1)))
  k_with "pyIter ref" => (((with_reducible rename Fr g' _ _ _ => lF'); (with_reducible rename News g' _ _ _ => lN'); (with_reducible rename IntsAre _ (List.take 9 ns) => lI'); (with_unfolding_all refine list_loop (JTab D1 _ _ _ _ _ (Str.ofString "cell")) (by rfl) lF' lN' List.mem_cons_self (by rfl) (by rfl) (fun _ _ _ h => h.mem) ⟨_, _, _, _, _, _, _, _, _, _, hI1, IntsAre.nil, IntsAre.nil, (by rw [lI'.length, List.length_take, hl]; exact TabI.start), ⟨_, lI'⟩, (by funext y; exact (ite_self _).symm), rfl⟩ ?_ ?_); clear lF' lN' lI'); (rotate_left); (intro m9 news9 h9 tk9 hJ9 F9 N9; (obtain ⟨sp9, tn9, tb9, spv9, tnv9, tbv9, n19, n29, n39, u9, hs9, ht9, hb9, hT9, ⟨zs9, hz9⟩, rfl, rfl⟩ := hJ9); (try k_fold)); (rotate_left); (intro I9 v9 r9 m9 news9 it9 h9 tk9 hlt9 hJ9 F9 N9; (obtain ⟨sp9, tn9, tb9, spv9, tnv9, tbv9, n19, n29, n39, u9, hs9, ht9, hb9, hT9, ⟨zs9, hz9⟩, rfl, rfl⟩ := hJ9); (obtain ⟨a9, t9, zs8, rfl, rfl, hr9⟩ := ints_cons hz9); (k_lt hlt9); (have hsl9 := hT9.lsp); (have htl9 := hT9.ltn); (have hbl9 := hT9.ok.len); (have hl1 := hs9.length); (have hl2 := ht9.length); (have hl3 := hb9.length); (obtain ⟨hpos9, hp1, hp2, hp3, hp4, hp5⟩ := sp_num hsl9 htl9); (have hp6 : tb9.length ≤ 16777216 := by rw [hbl9]; exact hp3); (have hl4 : tnv9.length ≤ 9 := by rw [hl2]; exact hp5); (have hl5 : tbv9.length ≤ 9 := by rw [hl3, hbl9]; exact hp5); (have hm0 := Int.fmod_nonneg_of_pos (a9.fdiv 10) hpos9); (have hm1 := Int.fmod_lt_of_pos (a9.fdiv 10) hpos9); (have hlt8 : ((a9.fdiv 10).fmod (sp9.length : Int)).toNat < sp9.length := (Int.toNat_lt hm0).mpr hm1); (try k_fold)))
  k_with "call builtin:len" => ((refine r_len (k := sp9.length) (by k_asm) (by k_mem) hs9.length (by first | with_reducible assumption | omega) ?_); intro t7 k7)
  k_with "call builtin:list.pop" => ((refine r_popint (by k_asm) (by k_asm) hs9 hm0 hm1 (by first | with_reducible assumption | omega) (by intro vs'; k_upd) ?_); intro vs8 t8 h8 hs8 F8 N8; (have hbd8 := hT9.bd _ (List.mem_append_left _ (List.getElem_mem hlt8))); (have hp8 := pow2_12 hbd8))
  k_with "JPost" => (((with_reducible rename News _ _ _ _ => nN); (simp only [List.push_toArray] at nN); (refine JPost.intro (by assumption) nN (allNe (by simp only [AllLt, and_true]; exact hlt9)) ⟨_, _, _, _, _, _, _, _, _, fun _ => some (.int a9 t9), hs8, ints_snoc ht9, ints_snoc hb9, hT9.step hlt8 (by first | exact Or.inl rfl | exact Or.inr rfl), ⟨_, hr9⟩, (by funext y; by_cases h : y = Str.ofString "cell" <;> simp [h]), rfl⟩)))
  k_steps
  refine hret _ _ _ _ _ _ _ _ _ _ _ _ ht9 hb9 hT9 (by assumption) (nsT (by assumption)) ⟨by omega, by omega, by omega, ?_⟩ ⟨by omega, by omega, ?_⟩ ⟨by omega, ?_⟩
  · exact (‹_ ∧ _ ∧ _ ∧ _ ∧ _ ∧ AllLt _ news›).2.2.2.2.2
  · exact (‹_ ∧ _ ∧ _ ∧ AllLt _ news›).2.2.2
  · exact (‹_ ∧ _ ∧ AllLt _ news›).2.2
end Mine
end
section
set_option maxRecDepth 100000
namespace Mine
theorem isb_dec (n : Int) : (decide (n ≠ 0) && (Builtin.bitAnd n (n - 1) == 0)) = (if n = 0 then false else (Builtin.bitAnd n (n - 1) == 0)) := by
  by_cases h : n = 0 <;> simp [h]
section
variable {w : World} {loose : List Str} {mean : ExcName → Option Value} {mg mb : Str → Option Value} {dp un : Nat} {gd : Option (List Code)} {cn : Str} {cs : Scope} {a : Addr} {ccd : Value} {cl : List (Str × Addr)} {outer : List Env} {A₀ : Around} {base h₀ : Heap} {L : Addr} {m : Str → Option Value} {news : List (Addr × Obj)} {s : Shared} {Q E : Value → Shared → Prop}

set_option maxHeartbeats 1000000 in
theorem c_high {n : Int} {t : Tok} (B : Below A₀ base outer h₀) (F : Fr h₀ L s.heap m) (X : (hd.heap_39 w.params).In h₀) (N : News h₀ L s.heap news) (T : Top topProg loose mean mg mb h₀) (hk : cs.kind = .function)
    (hdp : dp + 1 < recursionLimit) (hu : un + 8 < cLine)
    (hret : ∀ t' h' tk', Fr h₀ L h' m → News h₀ L h' news → Q (.int ((Builtin.Int.intBits n : Int) - 1) t') { s with heap := h', toks := tk' }) :
    wpAny (model PySem.Challenge.rw_wo0032_01.row.prog w) (ktrTop dp un gd cn cs L a ccd cl outer) (call (.ref 28) [.int n t]) Q E s := by
  w_top off
  k_with_none
  revert B F X N T
  k_fill
  intro B F X N T
  refine wpAny_call ?_
  k_dflt ktr_enter
  k_steps
  exact hret _ _ _ (by assumption) (by assumption)

set_option maxHeartbeats 1000000 in
theorem c_isb {n : Int} {t : Tok} (B : Below A₀ base outer h₀) (F : Fr h₀ L s.heap m) (X : (hd.heap_39 w.params).In h₀) (N : News h₀ L s.heap news) (T : Top topProg loose mean mg mb h₀) (hk : cs.kind = .function)
    (hdp : dp + 1 < recursionLimit) (hu : un + 8 < cLine)
    (hret : ∀ h' tk', Fr h₀ L h' m → News h₀ L h' news → Q (.bool (if n = 0 then false else (Builtin.bitAnd n (n - 1) == 0))) { s with heap := h', toks := tk' }) :
    wpAny (model PySem.Challenge.rw_wo0032_01.row.prog w) (ktrTop dp un gd cn cs L a ccd cl outer) (call (.ref 21) [.int n t]) Q E s := by
  w_top off
  k_with_none
  revert B F X N T
  k_fill
  intro B F X N T
  refine wpAny_call ?_
  k_dflt ktr_enter
  k_steps
  · rw [if_pos (by assumption)] at hret
    exact hret _ _ (by assumption) (by assumption)
  · rw [if_neg (by assumption)] at hret
    exact hret _ _ (by assumption) (by assumption)

end
end Mine
end
section
namespace Mine
theorem ints9 {vs : List Value} {ns : List Int} (h : IntsAre vs ns) (hl : ns.length = 9) : ∃ a0 a1 a2 a3 a4 a5 a6 a7 a8 t0 t1 t2 t3 t4 t5 t6 t7 t8,
    vs = [.int a0 t0, .int a1 t1, .int a2 t2, .int a3 t3, .int a4 t4, .int a5 t5, .int a6 t6, .int a7 t7, .int a8 t8] ∧ ns = [a0, a1, a2, a3, a4, a5, a6, a7, a8] := by
  match ns, hl with
  | [a0, a1, a2, a3, a4, a5, a6, a7, a8], _ =>
    cases h with | cons _ t0 h => cases h with | cons _ t1 h => cases h with | cons _ t2 h => cases h with | cons _ t3 h => cases h with | cons _ t4 h => cases h with | cons _ t5 h => cases h with | cons _ t6 h => cases h with | cons _ t7 h => cases h with | cons _ t8 h => cases h with | nil => exact ⟨_, _, _, _, _, _, _, _, _, _, _, _, _, _, _, _, _, _, rfl, rfl⟩
end Mine
end
section
namespace Mine
section
variable {prog : Program} {w : World} {A : Around} {E : Value → Shared → Prop} {s : Shared}
theorem draw_list {I l : Addr} {its : Array Value} (hne : l ≠ I) : ∀ (k j : Nat) (s : Shared) (Q : List Value → Shared → Prop), s.heap.IsListIter I l j → s.heap.IsList l its → j + k ≤ its.size →
    (∀ g, g.IsListIter I l (j + k) → Heap.SameBut I s.heap g → Q ((its.toList.drop j).take k) { s with heap := g }) → wpAny (model prog w) A (draw (.ref I) k) Q E s := by
  intro k
  induction k with
  | zero =>
    intro j s Q hi hl _ hQ
    show wpAny _ _ (pure []) Q E s
    refine wpAny_pure ?_
    have := hQ s.heap hi (Heap.SameBut.refl ..)
    rwa [List.take_zero] at this
  | succ k ih =>
    intro j s Q hi hl hle hQ
    have hj : j < its.size := by omega
    show wpAny _ _ (pyNext (.ref I) >>= _) Q E s
    refine wpAny_bind (wpAny_pyNext_list_item hi hl (x := its[j]) (by simp [hj]) fun g hi' hs' => ?_)
    refine wpAny_bind (wpAny_holding (ih (j + 1) _ _ hi' (hl.extBut hs'.extBut hne) (by omega) fun g2 hi2 hs2 => wpAny_pure ?_))
    have e : its.toList.drop j = its[j] :: its.toList.drop (j + 1) := by simp [List.drop_eq_getElem_cons, hj]
    have z := hQ g2 (by rw [show j + (k + 1) = j + 1 + k by omega]; exact hi2) (hs'.trans hs2)
    rw [e, List.take_succ_cons] at z
    exact z
theorem unpackItems_list {l : Addr} {its : Array Value} {Q : List Value → Shared → Prop} (hh : A.handled = none) (hl : s.heap.IsList l its)
    (hQ : ∀ g, Heap.ExtBut s.heap.objs.size s.heap g → Q its.toList { s with heap := g }) : wpAny (model prog w) A (unpackItems (.ref l) its.size none) Q E s := by
  have hlt : l ≠ s.heap.objs.size := by obtain ⟨o, ho, _⟩ := hl; exact Nat.ne_of_lt (Heap.lt_size ho)
  unfold unpackItems notIterableAtAll
  refine wpAny_bind (wpAny_bind (wpAny_specialOf hl.typeIs slot_list_iter.lookup (wpAny_pure ?_)))
  simp only [Bool.false_eq_true, if_false]
  refine wpAny_bind (wpAny_holding (wpAny_pyIter_list hl ?_))
  refine wpAny_bind (wpAny_holding (draw_list hlt its.size 0 _ _ ⟨_, Heap.get?_push_size _ rfl, rfl, rfl⟩ (hl.push _) (by omega) fun g hi' hs' => ?_))
  have e : (its.toList.drop 0).take its.size = its.toList := by
    rw [List.drop_zero]; exact List.take_of_length_le (by simp)
  rw [e, if_neg (by simp)]
  refine wpAny_bind (wpAny_holding (wpAny_pyNext_list_end hh hi' ((hl.push _).extBut hs'.extBut hlt) (by simp) fun g2 he => ?_))
  simp only [Option.isSome_none, Bool.false_eq_true, if_false]
  exact wpAny_pure (hQ g2 fun b o hb e => he b o hb (hs'.extBut b o hb (Heap.get?_push_of_some _ e)))
theorem assign_Tuple_list {env : Env} {elts : List Expr} {x1} {pos : Pos} {l : Addr} {its : Array Value} {Q : Unit → Shared → Prop} (hh : A.handled = none) (hl : s.heap.IsList l its)
    (hn : (assignEach elts env).length = its.size) (hstar : (assignEach elts env).findIdx? (·.1) = none)
    (h : ∀ g, Heap.ExtBut s.heap.objs.size s.heap g → wpAny (model prog w) A (assignInOrder ((assignEach elts env).map (·.2)) its.toList) Q E { s with heap := g }) :
    wpAny (model prog w) A (assign (.Tuple elts x1 pos) env (.ref l)) Q E s := by
  rw [assign_Tuple]
  refine wpAny_bind (wpAny_standAt ?_)
  unfold unpack
  rw [hn, hstar]
  exact wpAny_bind (wpAny_holding (unpackItems_list hh hl h))
end
end Mine
end
section
open PyProof.Rows.LCg
namespace Mine
def Rest3 (prog : Program) (w : World) (A : Around) (h₀ : Heap) (L : Addr) (m : Str → Option Value) (env : Env) (elt : Expr) (x y z : Str) (scope : Scope) (cl : List (Str × Addr)) (s : Shared) (lp : Addr × Obj) (Fin : List Value → List (Addr × Obj) → Prop) : List Value → List Value → List (Addr × Obj) → Prop
  | [], ys, news => Fin ys news
  | v :: r, ys, news => ∃ (a : Addr) (v1 v2 v3 : Value) (c : Nat), v = .ref a ∧ (a, W.listOf #[v1, v2, v3] c) ∈ news ∧
      ∀ I oI C oC D m₂ h tk (E' : Value → Shared → Prop), NsObj oC m₂ → m₂ x = some v1 → m₂ y = some v2 → m₂ z = some v3 → Fr h₀ L h m → News h₀ L h ((I, oI) :: (C, oC) :: (D, lst ys) :: news) → Off3 I C D news → ((@Ne Nat I C) ∧ (@Ne Nat I D) ∧ (@Ne Nat C D)) →
        wpAny (model prog w) A (eval elt (compEnvC scope cl C env)) (CompEnd h₀ L m { s with heap := h, toks := tk } I oI C oC D (lst ys) (fun n => lp ∈ n) (fun u news' => Rest3 prog w A h₀ L m env elt x y z scope cl s lp Fin r (ys ++ [u]) news')) E' { s with heap := h, toks := tk }
section
variable {prog : Program} {w : World} {A : Around} {E : Value → Shared → Prop} {s : Shared} {h₀ : Heap} {L : Addr} {m : Str → Option Value} {env : Env}
theorem block3 {elt iter : Expr} {x y z : Str} {px py pz tp : Pos} {tk} {scope : Scope} {cl : List (Str × Addr)} {pos : Pos} {s₂ : Shared} {I ax : Addr} {lo : Obj} {its : List Value} {cc : Nat} {news : List (Addr × Obj)}
    {Fin : List Value → List (Addr × Obj) → Prop} {RR : Value → Addr → Result → Shared → Prop}
    (hsz : its.length ≤ 1000) (hcell : ∀ q ∈ scope.names, q.2 ≠ .cell) (hkind : scope.kind = .function) (hx : scope.names.lookup x = some .local) (hy : scope.names.lookup y = some .local) (hz : scope.names.lookup z = some .local) (hxy : x ≠ y) (hxz : x ≠ z) (hyz : y ≠ z) (hh : A.handled = none)
    (hlo : lo = W.listOf its.toArray cc) (hst : s₂.heap.IsListIter I ax 0) (hm : (ax, lo) ∈ news)
    (F : Fr h₀ L s₂.heap m) (N : News h₀ L s₂.heap news) (hIL : L ≠ I) (hI₀ : h₀.get? I = none) (off : ∀ p ∈ news, p.1 ≠ I)
    (R : Rest3 prog w A h₀ L m env elt x y z scope cl s₂ (ax, lo) Fin its [] news)
    (hRR : ∀ D C h tk m' ys news', Fr h₀ L h m → News h₀ L h ((D, lst ys) :: news') → Off1 D news' → h.Ns C m' → h₀.get? C = none → h₀.get? D = none → C ≠ L → D ≠ L → C ≠ D → (∀ p ∈ news', p.1 ≠ C) → Fin ys news' → RR (.ref D) C (.ok .next) { s₂ with heap := h, toks := tk }) :
    wpAny (model prog w) A (newList []) (fun acc s₃ => wpAny (model prog w) A (newFunctionEnv scope env.globals cl [] env.qual none .none (some env)) (fun cenv s₄ =>
      codeAny (model prog w) A (.compStart (.ListComp elt [⟨.Tuple [.Name x px, .Name y py, .Name z pz] tk tp, iter, [], 0⟩] scope pos) 0 (.ref I) acc { cenv with scope := relabel scope env }) (RR acc cenv.locals) s₄) E s₃) E s₂ := by
  refine wpAny_newObj_type (wpAny_newFunctionEnv hcell (by intro q hq; simp at hq) (fun h₁ hns₁ hsb₁ => ?_) hkind)
  dsimp only at hns₁ hsb₁ ⊢
  generalize hG : s₂.heap.push { cls := .type "list", dict := none, data := .seq ([] : List Value).toArray } = G at hns₁ hsb₁ ⊢
  generalize hD : s₂.heap.objs.size = D at *
  have hGs : G.objs.size = D + 1 := by rw [← hG, Heap.size_push, hD]
  generalize hC : G.objs.size = C at *
  have hDC : D ≠ C := by rw [hGs]; exact Nat.ne_of_lt (Nat.lt_succ_self _)
  have lt2 : ∀ b, b < D → b ≠ C ∧ b ≠ D := fun b hb => ⟨by rw [hGs]; exact Nat.ne_of_lt (Nat.lt_succ_of_lt hb), Nat.ne_of_lt hb⟩
  have ltD : ∀ b o, s₂.heap.get? b = some o → b < D := fun b o e => hD ▸ Heap.lt_size e
  have old : ∀ b o, s₂.heap.get? b = some o → h₁.get? b = some o := fun b o e => hsb₁.extBut b o (lt2 b (ltD b o e)).1 (Heap.get?_push_of_some _ (hG ▸ Heap.get?_push_of_some _ e))
  have hacc : h₁.get? D = some (lst []) := hsb₁.extBut _ _ hDC (Heap.get?_push_of_some _ (hG ▸ hD ▸ Heap.get?_push_size _ rfl))
  have none₀ : ∀ a, D ≤ a → h₀.get? a = none := fun a ha => by
    cases e : h₀.get? a with
    | none => rfl
    | some o' => exact absurd (ltD a o' (F.keep a o' e)) (Nat.not_lt.mpr ha)
  have hD₀ : h₀.get? D = none := none₀ _ (Nat.le_refl _)
  have hC₀ : h₀.get? C = none := none₀ _ (by rw [hGs]; exact Nat.le_succ _)
  have hLlt : L < D := hD ▸ F.ns.lt
  have hDL : D ≠ L := Ne.symm (lt2 L hLlt).2
  have hCL : C ≠ L := Ne.symm (lt2 L hLlt).1
  have hIlt : I < D := by obtain ⟨o, e, _⟩ := hst; exact ltD I o e
  have hCI : I ≠ C := (lt2 I hIlt).1
  have hDI : I ≠ D := (lt2 I hIlt).2
  have off₀ : Off3 I C D news := Off3.of fun p hp => ⟨off p hp, lt2 _ (ltD _ _ (N p hp).1)⟩
  have loop : codeAny (model prog w) A (.compLoop (.ListComp elt [⟨.Tuple [.Name x px, .Name y py, .Name z pz] tk tp, iter, [], 0⟩] scope pos) 0 (.ref I) (.ref D) (compEnvC scope cl C env))
        (RR (.ref D) C) { s₂ with heap := h₁, toks := s₂.toks + ([] : List (Str × Value)).length } := by
    refine LCp.codeAny_compLoop_pair
      (fun k s' => ∃ h' tk i ys m' news', s' = { s₂ with heap := h', toks := tk } ∧ i ≤ its.length ∧ k = its.length + 1 - i ∧ ys.length = i ∧ h'.IsListIter I ax i ∧ Fr h₀ L h' m ∧ h'.Ns C m' ∧ News h₀ L h' ((D, lst ys) :: news') ∧
        Off3 I C D news' ∧ (ax, lo) ∈ news' ∧ Rest3 prog w A h₀ L m env elt x y z scope cl s₂ (ax, lo) Fin (its.drop i) ys news') ?_ (its.length + 1)
      ⟨h₁, _, 0, [], _, news, rfl, Nat.zero_le _, rfl, rfl, hst.at fun o e => old _ o e, F.keeps old, hns₁, fun p hp => ?_, off₀, hm, by rw [List.drop_zero]; exact R⟩
    · rintro k s' ⟨h', tk, i, ys, m', news', rfl, hi, rfl, hyl, hst', F', hn', N', off', hm', R'⟩
      have off3 := off'.mem
      have hl' : h'.IsList ax its.toArray := ⟨lo, (N' _ (.tail _ hm')).1, by rw [hlo], cc, by rw [hlo]⟩
      by_cases hlt : i < its.length
      · rw [List.drop_eq_getElem_cons hlt] at R'
        obtain ⟨a, v1, v2, v3, c, hv, hma, R''⟩ := R'
        refine wpAny_pyNext_list_item hst' hl' (x := its[i]) (by simp [hlt]) fun h₂ hst₂ hsb₂ => ?_
        rw [hv]
        have N₂ : News h₀ L h₂ ((D, lst ys) :: news') := fun p hp => by
          refine ⟨hsb₂.extBut _ _ ?_ (N' p hp).1, (N' p hp).2⟩
          rcases List.mem_cons.mp hp with rfl | hp
          · exact Ne.symm hDI
          · exact (off3 p hp).1
        have F₂ : Fr h₀ L h₂ m := F'.change hsb₂ (Ne.symm hIL) hI₀
        have hla : h₂.IsList a #[v1, v2, v3] := ⟨_, (N₂ _ (.tail _ hma)).1, rfl, c, rfl⟩
        refine wpAny_letOwnedTupleGo_listiter hst₂ ?_
        refine assign_Tuple_list hh hla rfl rfl fun h₅ he => ?_
        have he' : ∀ b o, h₂.get? b = some o → h₅.get? b = some o := fun b o e => he b o (Nat.ne_of_lt (Heap.lt_size e)) e
        have hn₅ : h₅.Ns C m' := (hn'.at' fun o e => hsb₂.extBut _ o (Ne.symm hCI) e).at' fun o e => he' _ o e
        refine assignInOrder_cons (wpAny_assign_Name (wpAny_storeName_local (lookup_relabel_local hx) hn₅ (fun h₆ hn₆ hs₆ => ?_) (by simp [compEnvC, relabel, hkind])))
        refine assignInOrder_cons (wpAny_assign_Name (wpAny_storeName_local (lookup_relabel_local hy) hn₆ (fun h₇ hn₇ hs₇ => ?_) (by simp [compEnvC, relabel, hkind])))
        refine assignInOrder_cons (wpAny_assign_Name (wpAny_storeName_local (lookup_relabel_local hz) hn₇ (fun h₃ hn₃ hs₃ => ?_) (by simp [compEnvC, relabel, hkind])))
        refine assignInOrder_nil ?_
        have old3 : ∀ b o, b ≠ C → h₂.get? b = some o → h₃.get? b = some o := fun b o hb e => hs₃.extBut b o hb (hs₇.extBut b o hb (hs₆.extBut b o hb (he' b o e)))
        obtain ⟨oI, heI, hcI, hdI⟩ : h₃.IsListIter I ax (i + 1) := hst₂.at fun o e => old3 _ o hCI e
        obtain ⟨oC, heC, hoC⟩ := ns_obj hn₃
        have F₃ : Fr h₀ L h₃ m := (((F₂.keeps he').change hs₆ hCL hC₀).change hs₇ hCL hC₀).change hs₃ hCL hC₀
        have N₃ : News h₀ L h₃ ((I, oI) :: (C, oC) :: (D, lst ys) :: news') := fun p hp => by
          rcases List.mem_cons.mp hp with rfl | hp
          · exact ⟨heI, Ne.symm hIL, hI₀⟩
          rcases List.mem_cons.mp hp with rfl | hp
          · exact ⟨heC, hCL, hC₀⟩
          have q := N₂ p hp
          refine ⟨old3 _ _ ?_ q.1, q.2⟩
          rcases List.mem_cons.mp hp with rfl | hp
          · exact hDC
          · exact (off3 p hp).2.1
        refine wpAny_mono (R'' I oI C oC D _ h₃ _ _ hoC (by simp [hxy, hxz]) (by simp [hyz]) (by simp) F₃ N₃ off' ⟨hCI, hDI, Ne.symm hDC⟩) (fun u s₄ h₄ => ?_) fun _ _ e => e
        obtain ⟨h₄, tk₄, news₄, rfl, F₄, N₄, off₄, hS₄, R₄⟩ := h₄
        have zI := (N₄ _ (.head _)).1
        have zC := (N₄ _ (.tail _ (.head _))).1
        have zD := (N₄ _ (.tail _ (.tail _ (.head _)))).1
        have off4 := off₄.mem
        refine append_at (hsz := by show ys.toArray.size ≤ sizeLine; rw [List.size_toArray, hyl, sizeLine_eq]; omega) zD fun h₅' hs₅' hD₅ => ?_
        refine ⟨its.length + 1 - (i + 1), by omega, h₅', tk₄, i + 1, ys ++ [u], _, news₄, rfl, hlt, rfl, by rw [List.length_append, List.length_singleton, hyl], ⟨oI, hs₅'.extBut _ _ hDI zI, hcI, hdI⟩, F₄.change hs₅' hDL hD₀,
          (hoC.ns zC).sameBut hs₅' (Ne.symm hDC), fun p hp => ?_, off₄, hS₄, R₄⟩
        rcases List.mem_cons.mp hp with rfl | hp
        · exact ⟨hD₅.trans (congrArg some (lst_snoc ys u)), hDL, hD₀⟩
        · have q := N₄ p (.tail _ (.tail _ (.tail _ hp)))
          exact ⟨hs₅'.extBut _ _ (off4 p hp).2.2 q.1, q.2⟩
      · obtain rfl : i = its.length := Nat.le_antisymm hi (Nat.not_lt.mp hlt)
        rw [List.drop_length] at R'
        refine wpAny_pyNext_list_end hh hst' hl' (by simp) fun h₂ he₂ => ?_
        have N₂ : News h₀ L h₂ ((D, lst ys) :: news') := fun p hp => by
          refine ⟨he₂ _ _ ?_ (N' p hp).1, (N' p hp).2⟩
          rcases List.mem_cons.mp hp with rfl | hp
          · exact Ne.symm hDI
          · exact (off3 p hp).1
        have F₂ : Fr h₀ L h₂ m := fr_but F' (fun b o hb e => he₂ b o (fun q => hb (by simp [q])) e) hIL hI₀
        exact hRR D C h₂ _ m' ys news' F₂ N₂ off'.one (hn'.at' fun o e => he₂ _ o (Ne.symm hCI) e) hC₀ hD₀ hCL hDL (Ne.symm hDC) (fun p hp => (off3 p hp).2.1) R'
    · rcases List.mem_cons.mp hp with rfl | hp
      · exact ⟨hacc, hDL, hD₀⟩
      · exact ⟨old _ _ (N p hp).1, (N p hp).2⟩
  exact codeAny_compStart_list loop ((Walks.list hh I ax (by
      intro e
      exact off _ hm e) its.toArray).self 0 _ _ _ ⟨hst.at fun o e => old _ o e, ⟨lo, old _ _ (N _ hm).1, by rw [hlo], cc, by rw [hlo]⟩⟩ loop)
end
end Mine
namespace Mine
section
variable {prog : Program} {w : World} {A : Around} {E : Value → Shared → Prop} {s : Shared} {h₀ : Heap} {L : Addr} {m : Str → Option Value} {env : Env}
def Src3 (prog : Program) (w : World) (A : Around) (h₀ : Heap) (L : Addr) (m : Str → Option Value) (env : Env) (elt : Expr) (x y z : Str) (scope : Scope) (cl : List (Str × Addr)) (Fin : Shared → List Value → List (Addr × Obj) → Prop) (xv : Value) (s₁ : Shared) : Prop :=
  ∃ ax its c news, xv = .ref ax ∧ A.handled = none ∧ Fr h₀ L s₁.heap m ∧ News h₀ L s₁.heap news ∧ (ax, W.listOf (List.toArray its) c) ∈ news ∧ its.length ≤ 1000 ∧
    ∀ g, Rest3 prog w A h₀ L m env elt x y z scope cl { s₁ with heap := g } (ax, W.listOf (List.toArray its) c) (Fin { s₁ with heap := g }) its [] news
theorem ListComp_3 {elt iter : Expr} {x y z : Str} {px py pz tp : Pos} {tk} {scope : Scope} {cl : List (Str × Addr)} {pos : Pos} {Q : Value → Shared → Prop} (F₀ : Fr h₀ L s.heap m)
    (hclos : closureFor scope env = pure cl) (hcell : ∀ y ∈ scope.names, y.2 ≠ .cell) (hkind : scope.kind = .function)
    (hnames : ∀ y ∈ scope.names, y.2 = .local → scope.names.lookup y.1 = some .local) (hx : scope.names.lookup x = some .local) (hy : scope.names.lookup y = some .local) (hz : scope.names.lookup z = some .local) (hxy : x ≠ y) (hxz : x ≠ z) (hyz : y ≠ z)
    (h : wpAny (model prog w) A (eval iter env) (Src3 prog w A h₀ L m env elt x y z scope cl (fun s₂ => FinE h₀ L m s₂ Q)) E s)
    (hs : ∀ x, foldedSetIterable iter env x = pure x := by intro _; rfl) :
    wpAny (model prog w) A (eval (.ListComp elt [⟨.Tuple [.Name x px, .Name y py, .Name z pz] tk tp, iter, [], 0⟩] scope pos) env) Q E s := by
  rw [eval_ListComp]
  refine wpAny_comprehension_free (use := none) rfl hs hclos hkind hnames (wpAny_mono h (fun xv s₁ h₁ => ?_) fun _ _ e => e)
  obtain ⟨ax, its, c, news, rfl, hh, F, N, hm, hsz, R⟩ := h₁
  have hl : s₁.heap.IsList ax its.toArray := ⟨_, (N _ hm).1, rfl, c, rfl⟩
  refine wpAny_pyIter_list hl ?_
  have up : ∀ b o, s₁.heap.get? b = some o → (s₁.heap.push { cls := .type "list_iterator", data := .fields #[.ref ax, .int 0 0] }).get? b = some o := fun b o e => Heap.get?_push_of_some _ e
  refine block3 hsz hcell hkind hx hy hz hxy hxz hyz hh rfl ⟨_, Heap.get?_push_size _ rfl, rfl, rfl⟩ hm (F.keeps up) (fun p hp => ⟨up _ _ (N p hp).1, (N p hp).2⟩) (Nat.ne_of_lt F.ns.lt) (next_is_new F) (fun p hp => Nat.ne_of_lt (Heap.lt_size (N p hp).1)) (R _) ?_
  intro D C h tk m' ys news' F' N' o1 hn hC₀ hD₀ hCL hDL hCD offC fin
  refine ⟨m', hn, fun h'' hs'' => fin D h'' tk (F'.change hs'' hCL hC₀) (fun p hp => ?_) o1⟩
  refine ⟨hs''.extBut _ _ ?_ (N' p hp).1, (N' p hp).2⟩
  rcases List.mem_cons.mp hp with rfl | hp
  · exact Ne.symm hCD
  · exact offC p hp
end
end Mine
end
section
namespace Mine
open Builtin.Int (intBits)
theorem tb_bits {t b : Int} (h : b = 0 ∨ b = 2 ^ (2 ^ t.toNat : Int).toNat) (hb : 0 ≤ t ∧ t ≤ 12) : 0 ≤ b ∧ intBits b ≤ 4097 := by
  obtain ⟨h1, h2⟩ := pow2_12 hb
  rcases h with rfl | rfl
  · exact ⟨by decide, by decide⟩
  · have hp := pow2_pos ((2 : Int) ^ t.toNat).toNat
    refine ⟨by omega, bits_le_of_lt (by omega) ?_⟩
    exact Int.lt_of_lt_of_le (show (2 : Int) ^ ((2 : Int) ^ t.toNat).toNat < 2 ^ (((2 : Int) ^ t.toNat).toNat + 1) by rw [Int.pow_succ]; omega) (pow2_le (by omega))
end Mine
end
section
open PyProof.Rows.LCg PyProof.Rows.LCt
namespace Mine
open Builtin.Int (intBits)
section
variable {prog : Program} {w : World} {A : Around} {E : Value → Shared → Prop} {s : Shared} {h₀ : Heap} {L : Addr} {m : Str → Option Value} {env : Env}
def TurnT (prog : Program) (w : World) (A : Around) (h₀ : Heap) (L : Addr) (m : Str → Option Value) (env : Env) (ct elt : Expr) (x : Str) (scope : Scope) (cl : List (Str × Addr)) (s : Shared) (S : List (Addr × Obj) → Prop) (P : Nat → Value → Prop) (J : Nat → List Value → List (Addr × Obj) → Prop) (i : Nat) : Prop :=
  ∀ ys news, J i ys news → ∀ v I oI C oC D m₂ h tk (E' : Value → Shared → Prop), P i v → NsObj oC m₂ → m₂ x = some v → Fr h₀ L h m → News h₀ L h ((I, oI) :: (C, oC) :: (D, lst ys) :: news) → Off3 I C D news → ((@Ne Nat I C) ∧ (@Ne Nat I D) ∧ (@Ne Nat C D)) →
      wpAny (model prog w) A (isTrue ct (compEnvC scope cl C env) (eval ct (compEnvC scope cl C env))) (fun ok s' => if ok = true then
        wpAny (model prog w) A (eval elt (compEnvC scope cl C env)) (CompEnd h₀ L m { s with heap := h, toks := tk } I oI C oC D (lst ys) S (fun y news' => J (i + 1) (ys ++ [y]) news')) E' s'
        else CompEnd h₀ L m { s with heap := h, toks := tk } I oI C oC D (lst ys) S (fun _ news' => J (i + 1) ys news') Value.none s') E' { s with heap := h, toks := tk }
theorem compEnd_mono {s₁ : Shared} {I : Addr} {oI : Obj} {C : Addr} {oC : Obj} {D : Addr} {oD : Obj} {S : List (Addr × Obj) → Prop} {rest rest' : Value → List (Addr × Obj) → Prop} {y : Value} {s₂ : Shared}
    (h : CompEnd h₀ L m s₁ I oI C oC D oD S rest y s₂) (hr : ∀ news', rest y news' → rest' y news') : CompEnd h₀ L m s₁ I oI C oC D oD S rest' y s₂ := by
  obtain ⟨h', tk, news', e, F, N, off, hS, r⟩ := h
  exact ⟨h', tk, news', e, F, N, off, hS, hr _ r⟩
theorem compT_J {ct elt : Expr} {x : Str} {scope : Scope} {cl : List (Str × Addr)} {S : List (Addr × Obj) → Prop} {P : Nat → Value → Prop} {Fin : List Value → List (Addr × Obj) → Prop} (J : Nat → List Value → List (Addr × Obj) → Prop) {n : Nat}
    (turn : ∀ i, i < n → TurnT prog w A h₀ L m env ct elt x scope cl s S P J i) (fin : ∀ ys news, J n ys news → Fin ys news) :
    ∀ k i ys news, i + k = n → J i ys news → CompRestT prog w A h₀ L m env ct elt x scope cl s S P Fin k i ys news := by
  intro k
  induction k with
  | zero => intro i ys news e hJ; obtain rfl : i = n := e; exact CompRestT.zero (fin _ _ hJ)
  | succ k ih =>
    intro i ys news e hJ
    refine CompRestT.succ fun v I oI C oC D m₂ h tk E' hv hC hx F N off ne => ?_
    refine wpAny_mono (turn i (by omega) ys news hJ v I oI C oC D m₂ h tk E' hv hC hx F N off ne) (fun ok s' h' => ?_) fun _ _ e => e
    cases ok with
    | true =>
      simp only [if_true] at h' ⊢
      exact wpAny_mono h' (fun y s₂ h₂ => compEnd_mono h₂ fun news' r => ih (i + 1) _ _ (by omega) r) fun _ _ e => e
    | false =>
      simp only [Bool.false_eq_true, if_false] at h' ⊢
      exact compEnd_mono h' fun news' r => ih (i + 1) _ _ (by omega) r
theorem compG_J {elt : Expr} {x : Str} {scope : Scope} {cl : List (Str × Addr)} {S : List (Addr × Obj) → Prop} {P : Nat → Value → Prop} {Fin : List Value → List (Addr × Obj) → Prop} (J : Nat → List Value → List (Addr × Obj) → Prop) {n : Nat}
    (turn : ∀ i, i < n → ∀ ys news, J i ys news → ∀ v I oI C oC D m₂ h tk (E' : Value → Shared → Prop), P i v → NsObj oC m₂ → m₂ x = some v → Fr h₀ L h m → News h₀ L h ((I, oI) :: (C, oC) :: (D, lst ys) :: news) → Off3 I C D news → ((@Ne Nat I C) ∧ (@Ne Nat I D) ∧ (@Ne Nat C D)) →
        wpAny (model prog w) A (eval elt (compEnvC scope cl C env)) (CompEnd h₀ L m { s with heap := h, toks := tk } I oI C oC D (lst ys) S (fun y news' => J (i + 1) (ys ++ [y]) news')) E' { s with heap := h, toks := tk })
    (fin : ∀ ys news, J n ys news → Fin ys news) :
    ∀ k i ys news, i + k = n → J i ys news → CompRest prog w A h₀ L m env elt x scope cl s S P Fin k i ys news := by
  intro k
  induction k with
  | zero => intro i ys news e hJ; obtain rfl : i = n := e; exact CompRest.zero (fin _ _ hJ)
  | succ k ih =>
    intro i ys news e hJ
    refine CompRest.succ fun v I oI C oC D m₂ h tk E' hv hC hx F N off ne => ?_
    refine wpAny_mono (turn i (by omega) ys news hJ v I oI C oC D m₂ h tk E' hv hC hx F N off ne) (fun y s₂ h₂ => ?_) fun _ _ e => e
    exact compEnd_mono h₂ fun news' r => ih (i + 1) _ _ (by omega) r
def IEnd (h₀ : Heap) (L : Addr) (m : Str → Option Value) (s₁ : Shared) (all : List (Addr × Obj)) (val : Tok → Value) (y : Value) (s₂ : Shared) : Prop :=
  ∃ t h' tk, y = val t ∧ s₂ = { s₁ with heap := h', toks := tk } ∧ Fr h₀ L h' m ∧ News h₀ L h' all
theorem IEnd.int {s₁ : Shared} {all all' : List (Addr × Obj)} {a b : Int} {t : Tok} {h' : Heap} {tk : Nat} (e : a = b) (F : Fr h₀ L h' m) (N : News h₀ L h' all') (sub : ∀ p ∈ all, p ∈ all') :
    IEnd h₀ L m s₁ all (fun t => .int b t) (.int a t) { s₁ with heap := h', toks := tk } := ⟨t, h', tk, by rw [e], rfl, F, fun p hp => N p (sub p hp)⟩
theorem IEnd.str {s₁ : Shared} {all all' : List (Addr × Obj)} {a b : Str} {t : Tok} {h' : Heap} {tk : Nat} (e : a = b) (F : Fr h₀ L h' m) (N : News h₀ L h' all') (sub : ∀ p ∈ all, p ∈ all') :
    IEnd h₀ L m s₁ all (fun t => .str b t) (.str a t) { s₁ with heap := h', toks := tk } := ⟨t, h', tk, by rw [e], rfl, F, fun p hp => N p (sub p hp)⟩
theorem range_map_succ {α : Type} (f : Nat → α) (i : Nat) : (List.range (i + 1)).map f = (List.range i).map f ++ [f i] := by rw [List.range_succ, List.map_append]; rfl
theorem compG_ints {elt : Expr} {x : Str} {scope : Scope} {cl : List (Str × Addr)} {S : List (Addr × Obj) → Prop} {P : Nat → Value → Prop} {Fin : List Value → List (Addr × Obj) → Prop} {NB : List (Addr × Obj)} {n : Nat} (f : Nat → Int) (hS : S NB)
    (turn : ∀ i, i < n → ∀ ys, IntsAre ys ((List.range i).map f) → ∀ v I oI C oC D m₂ h tk (E' : Value → Shared → Prop), P i v → NsObj oC m₂ → m₂ x = some v → Fr h₀ L h m → News h₀ L h ((I, oI) :: (C, oC) :: (D, lst ys) :: NB) → Off3 I C D NB → ((@Ne Nat I C) ∧ (@Ne Nat I D) ∧ (@Ne Nat C D)) →
        wpAny (model prog w) A (eval elt (compEnvC scope cl C env)) (IEnd h₀ L m { s with heap := h, toks := tk } ((I, oI) :: (C, oC) :: (D, lst ys) :: NB) (fun t => .int (f i) t)) E' { s with heap := h, toks := tk })
    (fin : ∀ ys, IntsAre ys ((List.range n).map f) → Fin ys NB) :
    CompRest prog w A h₀ L m env elt x scope cl s S P Fin n 0 [] NB := by
  refine compG_J (fun i ys news => IntsAre ys ((List.range i).map f) ∧ news = NB) (n := n) ?_ (fun ys news hJ => by obtain ⟨h1, rfl⟩ := hJ; exact fin ys h1) n 0 [] NB (by omega) ⟨.nil, rfl⟩
  rintro i hi ys news ⟨h1, rfl⟩ v I oI C oC D m₂ h tk E' hv hC hx F N off ne
  refine wpAny_mono (turn i hi ys h1 v I oI C oC D m₂ h tk E' hv hC hx F N off ne) (fun y s₂ h₂ => ?_) fun _ _ e => e
  obtain ⟨t, h', tk', rfl, rfl, F', N'⟩ := h₂
  exact ⟨h', tk', _, rfl, F', N', off, hS, by rw [range_map_succ]; exact ints_snoc h1, rfl⟩
theorem compG_strs {elt : Expr} {x : Str} {scope : Scope} {cl : List (Str × Addr)} {S : List (Addr × Obj) → Prop} {P : Nat → Value → Prop} {Fin : List Value → List (Addr × Obj) → Prop} {NB : List (Addr × Obj)} {n : Nat} (f : Nat → Str) (hS : S NB)
    (turn : ∀ i, i < n → ∀ ys, StrsAre ys ((List.range i).map f) → ∀ v I oI C oC D m₂ h tk (E' : Value → Shared → Prop), P i v → NsObj oC m₂ → m₂ x = some v → Fr h₀ L h m → News h₀ L h ((I, oI) :: (C, oC) :: (D, lst ys) :: NB) → Off3 I C D NB → ((@Ne Nat I C) ∧ (@Ne Nat I D) ∧ (@Ne Nat C D)) →
        wpAny (model prog w) A (eval elt (compEnvC scope cl C env)) (IEnd h₀ L m { s with heap := h, toks := tk } ((I, oI) :: (C, oC) :: (D, lst ys) :: NB) (fun t => .str (f i) t)) E' { s with heap := h, toks := tk })
    (fin : ∀ ys, StrsAre ys ((List.range n).map f) → Fin ys NB) :
    CompRest prog w A h₀ L m env elt x scope cl s S P Fin n 0 [] NB := by
  refine compG_J (fun i ys news => StrsAre ys ((List.range i).map f) ∧ news = NB) (n := n) ?_ (fun ys news hJ => by obtain ⟨h1, rfl⟩ := hJ; exact fin ys h1) n 0 [] NB (by omega) ⟨.nil, rfl⟩
  rintro i hi ys news ⟨h1, rfl⟩ v I oI C oC D m₂ h tk E' hv hC hx F N off ne
  refine wpAny_mono (turn i hi ys h1 v I oI C oC D m₂ h tk E' hv hC hx F N off ne) (fun y s₂ h₂ => ?_) fun _ _ e => e
  obtain ⟨t, h', tk', rfl, rfl, F', N'⟩ := h₂
  exact ⟨h', tk', _, rfl, F', N', off, hS, by rw [range_map_succ]; exact strs_snoc h1, rfl⟩
def BEnd (h₀ : Heap) (L : Addr) (m : Str → Option Value) (s₁ : Shared) (all : List (Addr × Obj)) (b : Bool) (ok : Bool) (s₂ : Shared) : Prop :=
  ∃ h' tk, ok = b ∧ s₂ = { s₁ with heap := h', toks := tk } ∧ Fr h₀ L h' m ∧ News h₀ L h' all
theorem BEnd.intro {s₁ : Shared} {all all' : List (Addr × Obj)} {a b : Bool} {h' : Heap} {tk : Nat} (e : a = b) (F : Fr h₀ L h' m) (N : News h₀ L h' all') (sub : ∀ p ∈ all, p ∈ all') :
    BEnd h₀ L m s₁ all b a { s₁ with heap := h', toks := tk } := ⟨h', tk, e, rfl, F, fun p hp => N p (sub p hp)⟩
def keepF {α : Type} (g : Nat → Bool) (f : Nat → α) : Nat → List α
  | 0 => []
  | i + 1 => keepF g f i ++ (if g i then [f i] else [])
theorem keepF_eq {α : Type} (g : Nat → Bool) (f : Nat → α) : ∀ i, keepF g f i = ((List.range i).filter g).map f
  | 0 => rfl
  | i + 1 => by
    rw [keepF, keepF_eq g f i, List.range_succ, List.filter_append, List.map_append]
    cases h : g i <;> simp [h]
theorem compT_ints {ct elt : Expr} {x : Str} {scope : Scope} {cl : List (Str × Addr)} {S : List (Addr × Obj) → Prop} {P : Nat → Value → Prop} {Fin : List Value → List (Addr × Obj) → Prop} {NB : List (Addr × Obj)} {n : Nat} (g : Nat → Bool) (f : Nat → Int) (hS : S NB)
    (test : ∀ i, i < n → ∀ ys, IntsAre ys (keepF g f i) → ∀ v I oI C oC D m₂ h tk (E' : Value → Shared → Prop), P i v → NsObj oC m₂ → m₂ x = some v → Fr h₀ L h m → News h₀ L h ((I, oI) :: (C, oC) :: (D, lst ys) :: NB) → Off3 I C D NB → ((@Ne Nat I C) ∧ (@Ne Nat I D) ∧ (@Ne Nat C D)) →
        wpAny (model prog w) A (isTrue ct (compEnvC scope cl C env) (eval ct (compEnvC scope cl C env))) (BEnd h₀ L m { s with heap := h, toks := tk } ((I, oI) :: (C, oC) :: (D, lst ys) :: NB) (g i)) E' { s with heap := h, toks := tk })
    (turn : ∀ i, i < n → g i = true → ∀ ys, IntsAre ys (keepF g f i) → ∀ v I oI C oC D m₂ h tk (E' : Value → Shared → Prop), P i v → NsObj oC m₂ → m₂ x = some v → Fr h₀ L h m → News h₀ L h ((I, oI) :: (C, oC) :: (D, lst ys) :: NB) → Off3 I C D NB → ((@Ne Nat I C) ∧ (@Ne Nat I D) ∧ (@Ne Nat C D)) →
        wpAny (model prog w) A (eval elt (compEnvC scope cl C env)) (IEnd h₀ L m { s with heap := h, toks := tk } ((I, oI) :: (C, oC) :: (D, lst ys) :: NB) (fun t => .int (f i) t)) E' { s with heap := h, toks := tk })
    (fin : ∀ ys, IntsAre ys (keepF g f n) → Fin ys NB) :
    CompRestT prog w A h₀ L m env ct elt x scope cl s S P Fin n 0 [] NB := by
  refine compT_J (fun i ys news => IntsAre ys (keepF g f i) ∧ news = NB) (n := n) ?_ (fun ys news hJ => by obtain ⟨h1, rfl⟩ := hJ; exact fin ys h1) n 0 [] NB (by omega) ⟨.nil, rfl⟩
  rintro i hi ys news ⟨h1, rfl⟩ v I oI C oC D m₂ h tk E' hv hC hx F N off ne
  refine wpAny_mono (test i hi ys h1 v I oI C oC D m₂ h tk E' hv hC hx F N off ne) (fun ok s' h₂ => ?_) fun _ _ e => e
  obtain ⟨h', tk', rfl, rfl, F', N'⟩ := h₂
  cases hg : g i with
  | true =>
    simp only [if_true]
    refine wpAny_mono (turn i hi hg ys h1 v I oI C oC D m₂ h' tk' E' hv hC hx F' N' off ne) (fun y s₂ h₂ => ?_) fun _ _ e => e
    obtain ⟨t, h'', tk'', rfl, rfl, F'', N''⟩ := h₂
    exact ⟨h'', tk'', _, rfl, F'', N'', off, hS, by rw [keepF, if_pos hg]; exact ints_snoc h1, rfl⟩
  | false =>
    simp only [Bool.false_eq_true, if_false]
    exact ⟨h', tk', _, rfl, F', N', off, hS, by rw [keepF, hg]; simpa using h1, rfl⟩
end
theorem rng_size {a b : Int} {n : Nat} (h0 : a ≤ b) (hn : b - a = n) : Builtin.Range.rangeSize a b 1 = (n : Int) := by
  unfold Builtin.Range.rangeSize
  rw [if_pos (by decide)]
  by_cases h : a < b
  · rw [if_pos h, Int.ediv_one]; omega
  · rw [if_neg h]; omega
theorem rng_fits {x : Int} (h0 : 0 ≤ x) (h1 : x ≤ 1000000) : Builtin.Range.rangeFitsLong x = true := by
  unfold Builtin.Range.rangeFitsLong
  simp <;> omega
theorem rng_small {a b : Int} (ha : 0 ≤ a) (h0 : a ≤ b) (h1 : b ≤ 1000000) : Builtin.Range.small a b 1 = true := by
  have e : Builtin.Range.rangeSize a b 1 = ((b - a).toNat : Int) := rng_size h0 (by omega)
  unfold Builtin.Range.small
  rw [e, rng_fits ha (by omega), rng_fits (by omega) h1, rng_fits (by omega) (by omega), if_pos (by decide), rng_fits (by omega) (by omega), show (b + (1 - 1)) = b by omega, rng_fits (by omega) h1]
  simp
end Mine
end
section
namespace Mine
open Builtin.Int (intBits)
section
variable {prog : Program} {w : World} {A : Around} {E : Value → Shared → Prop} {Q : Flow → Shared → Prop} {s : Shared} {env : Env} {h₀ : Heap} {x : Str} {body orelse : List Stmt}
def JIs (Dq : Addr) (m₀ : Str → Option Value) (fg : List Str) (rn : Str) (rest : List (Addr × Obj)) (P : Nat → Int → List Int → Prop) (i : Nat) (m : Str → Option Value) (news : List (Addr × Obj)) : Prop :=
  ∃ (r : Int) (tr : Tok) (vs : List Value) (ss : List Int) (nn : Nat) (u : Str → Option Value), IntsAre vs ss ∧ P i r ss ∧ m = (fun y => if y = rn then some (.int r tr) else if fg.contains y then u y else m₀ y) ∧ news = (Dq, listOf vs.toArray nn) :: rest
end
inductive Ends (tb : List (Addr × Obj)) : List (Addr × Obj) → List (Addr × Obj) → Prop where
  | nil : Ends tb tb []
  | cons {a : Addr × Obj} {l r : List (Addr × Obj)} : Ends tb l r → Ends tb (a :: l) (a :: r)
theorem Ends.eq {tb l r : List (Addr × Obj)} (h : Ends tb l r) : l = r ++ tb := by
  induction h with
  | nil => rfl
  | cons _ ih => rw [ih]; rfl
def NotTab (o : Obj) : Prop := o.cls ≠ .none ∧ (∀ vs, o.data = .fields vs → ∀ s t, vs[1]? ≠ some (.str s t)) ∨ ∃ v, o.data = .cell v
theorem NotTab.list {its : Array Value} {n : Nat} : NotTab (W.listOf its n) := .inl ⟨(by intro h; cases h), fun vs h => by cases h⟩
theorem NotTab.lst {ys : List Value} : NotTab (LCg.lst ys) := .inl ⟨(by intro h; cases h), fun vs h => by cases h⟩
theorem NotTab.cell {o : Obj} {v : Option Value} (h : o.data = .cell v) : NotTab o := .inr ⟨v, h⟩
theorem NotTab.tup {its : Array Value} {n : Nat} : NotTab { cls := .type "tuple", data := .seq its n } := .inl ⟨(by intro h; cases h), fun vs h => by cases h⟩
theorem NotTab.iter {ax : Addr} {k : Int} {u : Tok} : NotTab { cls := .type "list_iterator", data := .fields #[.ref ax, .int k u] } := .inl ⟨(by intro h; cases h), fun vs h s t => by
  have e : vs = #[.ref ax, .int k u] := by simpa [eq_comm] using h
  rw [e]; simp⟩
theorem tab_ne {h₀ h : Heap} {L X : Addr} {ob : Obj} {all ts : List (Addr × Obj)} {P : Addr} {ln cl : Int} {q : Str} {lo : Nat} (N : News h₀ L h all) (hX : (X, ob) ∈ all) (hT : Tab P ln cl q lo ts) (hsub : ∀ p ∈ ts, p ∈ all) (hn : NotTab ob) : ∀ p ∈ ts, p.1 ≠ X := by
  have key : ∀ p ∈ ts, p.1 = X → p.2 = ob := fun p hp e => by
    have a1 := (N p (hsub p hp)).1
    rw [e, (N _ hX).1] at a1
    exact (Option.some.inj a1).symm
  rcases hT with rfl | ⟨c, oc, vs, t, rfl, h3, h4, _⟩
  · intro p hp e
    have k := key p hp e
    rw [List.mem_singleton.mp hp] at k
    rcases hn with ⟨h1, _⟩ | ⟨v, h1⟩
    · exact h1 (by rw [← k])
    · rw [← k] at h1; cases h1
  · intro p hp e
    have e2 := key p hp e
    rcases List.mem_cons.mp hp with rfl | hp
    · rcases hn with ⟨h1, _⟩ | ⟨v, h1⟩
      · exact h1 (by rw [← e2])
      · rw [← e2] at h1; cases h1
    · rw [List.mem_singleton.mp hp] at e2
      rcases hn with ⟨_, h2⟩ | ⟨v, h1⟩
      · exact h2 vs (by rw [← e2]; exact h3) _ _ h4
      · rw [← e2] at h1; rw [h3] at h1; cases h1
def Tab30 (ts : List (Addr × Obj)) : Prop := Tab 30 32 4 (Str.ofString "_int2digits.<locals>.inner") 41 ts
def Tab37 (ts : List (Addr × Obj)) : Prop := Tab 37 47 4 (Str.ofString "_digits2int.<locals>.inner") 41 ts
def Tabs (tb : List (Addr × Obj)) : Prop := ∃ ts30 ts37, tb = ts30 ++ ts37 ∧ Tab30 ts30 ∧ Tab37 ts37
theorem Tabs.fresh : Tabs [(30, tabObj #[]), (37, tabObj #[])] := ⟨[(30, tabObj #[])], [(37, tabObj #[])], rfl, .fresh, .fresh⟩
theorem Tabs.ne {h₀ h : Heap} {L X : Addr} {ob : Obj} {all tb : List (Addr × Obj)} (hT : Tabs tb) (N : News h₀ L h all) (hX : (X, ob) ∈ all) (hsub : ∀ p ∈ tb, p ∈ all) (hn : NotTab ob) : ∀ p ∈ tb, p.1 ≠ X := by
  obtain ⟨ts30, ts37, rfl, h30, h37⟩ := hT
  intro p hp
  rcases List.mem_append.mp hp with hp | hp
  · exact tab_ne N hX h30 (fun p hp => hsub p (List.mem_append_left _ hp)) hn p hp
  · exact tab_ne N hX h37 (fun p hp => hsub p (List.mem_append_right _ hp)) hn p hp
theorem Tab.has {P : Addr} {ln cl : Int} {q : Str} {lo : Nat} {ts : List (Addr × Obj)} (h : Tab P ln cl q lo ts) : ∃ xs, (P, tabObj xs) ∈ ts := by
  rcases h with rfl | ⟨c, oc, vs, t, rfl, _⟩
  · exact ⟨_, .head _⟩
  · exact ⟨_, .head _⟩
theorem Tabs.off {h₀ h : Heap} {L : Addr} {all tb : List (Addr × Obj)} (hT : Tabs tb) (N : News h₀ L h all) (hsub : ∀ p ∈ tb, p ∈ all) {rest : List (Addr × Obj)} (hr : ∀ p ∈ rest, p ∈ all) (hn : ∀ p ∈ rest, NotTab p.2) :
    ∀ p ∈ rest, p.1 ≠ 30 ∧ p.1 ≠ 37 := by
  intro p hp
  obtain ⟨ts30, ts37, rfl, h30, h37⟩ := id hT
  have k := hT.ne N (X := p.1) (ob := p.2) (hr p hp) hsub (hn p hp)
  obtain ⟨x1, m1⟩ := Tab.has h30
  obtain ⟨x2, m2⟩ := Tab.has h37
  exact ⟨Ne.symm (k _ (List.mem_append_left _ m1)), Ne.symm (k _ (List.mem_append_right _ m2))⟩
end Mine
end
section
open PyProof.Rows.LCg
namespace Mine
open Builtin.Int (intBits)
def srt (l : List Int) : List Int := l.mergeSort (fun a b => decide (a ≤ b))
theorem off1_mem {D : Addr} : ∀ {l : List (Addr × Obj)}, Off1 D l → ∀ p ∈ l, p.1 ≠ D
  | [], _, _, h => nomatch h
  | q :: r, x, p, h => by
    rcases List.mem_cons.mp h with rfl | h
    · exact x.1
    · exact off1_mem x.2 p h
theorem srt_eq {n p : List Int} (hp : n.Perm p) (ho : List.Pairwise (fun a b => a ≤ b) n) : n = srt p := by
  have h1 : List.Pairwise (fun a b : Int => decide (a ≤ b) = true) (srt p) := List.pairwise_mergeSort (by intro a b c; simp; omega) (by intro a b; simp; omega) p
  refine List.Perm.eq_of_pairwise (le := fun a b : Int => a ≤ b) ?_ ho (h1.imp (by simp)) (hp.trans (List.mergeSort_perm p _).symm)
  intro a b _ _ h2 h3; exact Int.le_antisymm h2 h3
section
variable {prog : Program} {w : World} {A : Around} {E : Value → Shared → Prop} {s : Shared} {h₀ : Heap} {L : Addr} {m : Str → Option Value} {news : List (Addr × Obj)} {Q : Value → Shared → Prop}
theorem r_ne_nil {R Z : Addr} {vs : List Value} {c c2 : Nat} (N : News h₀ L s.heap news) (hm : (R, W.listOf vs.toArray c) ∈ news) (hE : (Z, W.listOf #[] c2) ∈ news) (hu : A.units < cLine) (h : Q (.bool (decide (vs ≠ []))) s) :
    wpAny (model prog w) A (compareOp .NotEq (.ref R) (.ref Z)) Q E s := by
  have h1 : s.heap.IsList R vs.toArray := ⟨_, (N _ hm).1, rfl, c, rfl⟩
  have h2 : s.heap.IsList Z #[] := ⟨_, (N _ hE).1, rfl, c2, rfl⟩
  cases vs with
  | nil =>
    refine PySem.SeqAt.RcNeAt.lists (e := fun _ => true) h1 h2 rfl hu ?_ prog w E Q ?_
    · intro j hj; simp at hj
    · simpa using h
  | cons v r => exact PySem.SeqAt.RcNeAt.lists_lengths h1 h2 (by simp) hu prog w E Q (by simpa using h)
theorem r_ne_nil_t {R Z : Addr} {vs : List Value} {c c2 : Nat} (hv : vs ≠ []) (N : News h₀ L s.heap news) (hm : (R, W.listOf vs.toArray c) ∈ news) (hE : (Z, W.listOf #[] c2) ∈ news) (hu : A.units < cLine) (h : Q (.bool true) s) :
    wpAny (model prog w) A (compareOp .NotEq (.ref R) (.ref Z)) Q E s := r_ne_nil N hm hE hu (by rw [decide_eq_true hv]; exact h)
theorem r_isnot_bool {b : Bool} (h : Q (.bool false) s) : wpAny (model prog w) A (compareOp .IsNot (.bool b) (.bool b)) Q E s := wpAny_isNot_self (by cases b <;> rfl) h
theorem r_addl {a b : Addr} {vs ws : List Value} {c c2 : Nat} (F : Fr h₀ L s.heap m) (N : News h₀ L s.heap news) (ha : (a, W.listOf (List.toArray vs) c) ∈ news) (hb : (b, W.listOf (List.toArray ws) c2) ∈ news) (hz : vs.length + ws.length ≤ 1000)
    (h : ∀ D h', Fr h₀ L h' m → News h₀ L h' ((D, W.listOf (List.toArray (vs ++ ws)) 0) :: news) → (∀ p ∈ news, p.1 < D) → Q (.ref D) { s with heap := h' }) : wpAny (model prog w) A (binaryOp .Add (.ref a) (.ref b)) Q E s :=
  kmk_add_lit F N ⟨_, (N _ ha).1, rfl, c, rfl⟩ ⟨_, (N _ hb).1, rfl, c2, rfl⟩ (zs := vs ++ ws) (by simp) h (by rw [sizeLine_eq]; simp; omega)
theorem r_ne_nil_f {R Z : Addr} {vs : List Value} {c c2 : Nat} (hv : vs = []) (N : News h₀ L s.heap news) (hm : (R, W.listOf vs.toArray c) ∈ news) (hE : (Z, W.listOf #[] c2) ∈ news) (hu : A.units < cLine) (h : Q (.bool false) s) :
    wpAny (model prog w) A (compareOp .NotEq (.ref R) (.ref Z)) Q E s := r_ne_nil N hm hE hu (by subst hv; exact h)
theorem r_eqstr {x y : Str} {t u : Tok} (e : x = y) (h : Q (.bool true) s) : wpAny (model prog w) A (compareOp .Eq (.str x t) (.str y u)) Q E s := by
  subst e
  exact PySem.SeqAt.RcAt.str_str x t x u prog w E Q (by simpa using h)
theorem r_srt {l : Addr} {vs : List Value} {ns ms : List Int} {c : Nat} (F : Fr h₀ L s.heap m) (N : News h₀ L s.heap news) (hm : (l, W.listOf vs.toArray c) ∈ news) (hi : IntsAre vs ns) (h64 : ns.length < 64) (hs : srt ns = ms)
    (h : ∀ D vs' c h', Fr h₀ L h' m → News h₀ L h' ((D, W.listOf (List.toArray vs') c) :: news) → (∀ q ∈ news, q.1 < D) → IntsAre vs' ms → Q (.ref D) { s with heap := h' }) :
    wpAny (model prog w) A (call (.builtin "sorted") [.ref l]) Q E s := by
  refine kso_sorted F N ⟨_, (N _ hm).1, rfl, c, rfl⟩ hi h64 fun D vs' ns' c' h' F' N' hl i' e' p' o' b' => ?_
  refine h D vs' c' h' F' N' hl ?_
  rw [← hs, ← srt_eq p' o']; exact i'
end
end Mine
end
section
namespace Mine
open Builtin.Int (intBits)
theorem fr_focus {h₀ h : Heap} {L : Addr} {m : Str → Option Value} {k : Str} {v : Value} (e : m k = some v) (F : Fr h₀ L h m) : Fr h₀ L h (fun y => if y = k then some v else m y) := by
  have e1 : (fun y => if y = k then some v else m y) = m := by
    funext y
    by_cases h : y = k
    · subst h; simp [e]
    · simp [h]
  rw [e1]; exact F
theorem ite_focus {m : Str → Option Value} {k y : Str} {v : Value} (e : m k = some v) : (if y = k then some v else m y) = m y := by
  by_cases h : y = k
  · subst h; simp [e]
  · simp [h]
theorem r_isnot_b {M : Model} {A : Around} {E : Value → Shared → Prop} {s : Shared} {Q : Value → Shared → Prop} {b c : Bool} (e : b = c) (h : Q (.bool false) s) : wpAny M A (compareOp .IsNot (.bool b) (.bool c)) Q E s := by
  subst e; exact wpAny_isNot_self (by cases b <;> rfl) h
theorem compEnd_same {h₀ : Heap} {L I C D : Addr} {m : Str → Option Value} {s₁ : Shared} {oI oC oD : Obj} {S : List (Addr × Obj) → Prop} {rest : Value → List (Addr × Obj) → Prop} {y : Value} {h' : Heap} {tk : Nat} {news' : List (Addr × Obj)}
    (F : Fr h₀ L h' m) (N : News h₀ L h' ((I, oI) :: (C, oC) :: (D, oD) :: news')) (off : LCg.Off3 I C D news') (hS : S news') (r : rest y news') :
    LCg.CompEnd h₀ L m s₁ I oI C oC D oD S rest y { s₁ with heap := h', toks := tk } := LCg.CompEnd.intro F N news' (fun p hp => hp) off hS r
theorem fr_un {h₀ h : Heap} {L : Addr} {m : Str → Option Value} {k : Str} {v : Value} (e : m k = some v) (F : Fr h₀ L h (fun y => if y = k then some v else m y)) : Fr h₀ L h m := by
  have e1 : (fun y => if y = k then some v else m y) = m := by
    funext y
    by_cases h : y = k
    · subst h; simp [e]
    · simp [h]
  rw [e1] at F; exact F
theorem ints_at {vs : List Value} {ns : List Int} {i : Nat} {v : Value} (h : IntsAre vs ns) (e : vs.toArray[i]? = some v) : ∃ a t, v = .int a t ∧ ns[i]? = some a ∧ a ∈ ns := by
  have e' : vs[i]? = some v := by simpa using e
  obtain ⟨hi, rfl⟩ := List.getElem?_eq_some_iff.mp e'
  have hn : i < ns.length := h.length ▸ hi
  obtain ⟨t, ht⟩ := ints_get h hi hn
  exact ⟨_, t, ht, List.getElem?_eq_getElem hn, List.getElem_mem hn⟩
theorem keepF_none {α : Type} (f : Nat → α) : ∀ n, keepF (fun _ => false) f n = []
  | 0 => rfl
  | n + 1 => by rw [keepF, keepF_none f n]; rfl
theorem ints0 {vs : List Value} (h : IntsAre vs []) : vs = [] := by cases h; rfl
theorem fr_eqm {h₀ h : Heap} {L : Addr} {m1 m : Str → Option Value} (F : Fr h₀ L h m1) (e : ∀ y, m1 y = m y) : Fr h₀ L h m := by
  have e1 : m1 = m := funext e
  rw [← e1]; exact F
theorem range_getD {α : Type} (l : List Int) (f : Int → α) : (List.range l.length).map (fun i => f (l.getD i 0)) = l.map f := by
  apply List.ext_getElem
  · simp
  · intro i h1 h2
    simp only [List.length_map] at h2
    simp [List.getD_eq_getElem?_getD, List.getElem?_eq_getElem h2]
theorem ints_atD {vs : List Value} {ns : List Int} {i : Nat} {v : Value} (h : IntsAre vs ns) (e : vs.toArray[i]? = some v) : ∃ t, v = .int (ns.getD i 0) t := by
  obtain ⟨a, t, h1, h2, _⟩ := ints_at h e
  exact ⟨t, by rw [h1, List.getD_eq_getElem?_getD, h2]; rfl⟩
theorem news_list {h₀ h : Heap} {L l : Addr} {vs : List Value} {c : Nat} {news : List (Addr × Obj)} (N : News h₀ L h news) (hm : (l, W.listOf (List.toArray vs) c) ∈ news) : h.IsList l vs.toArray := ⟨_, (N _ hm).1, rfl, c, rfl⟩
theorem off1_d {D : Addr} {a : Addr × Obj} {l : List (Addr × Obj)} (h : LCg.Off1 D (a :: l)) : LCg.Off1 D l := h.2
theorem len_lt {α : Type} {l : List α} {x c : Int} (h : l.length = c.toNat) (hc : 0 < c) (h1 : x < c) : x < l.length := by omega
theorem len_mil {α : Type} {l : List α} {c : Int} (h : l.length = c.toNat) (h2 : c ≤ 31) : l.length ≤ 1000000 := by omega
theorem len_pos0 {α : Type} {l : List α} {c : Int} (h : l.length = c.toNat) (hc : 0 < c) : (0 : Int) < l.length := by omega
theorem len_nat {α : Type} {l : List α} {k i : Nat} (h : l.length = k) (hi : i < k) : (i : Int) < l.length := by omega
theorem lt_64 {i k : Nat} {c : Int} (h : i < k) (hk : k = c.toNat) (hc : c ≤ 31) : i < 64 := by omega
theorem pw_27 {i : Nat} (h : i < 64) : (Builtin.Int.intBits 2 : Int) * (i : Int) ≤ 2 ^ 27 := by rw [show Builtin.Int.intBits 2 = 2 by decide]; omega
end Mine
end
section
namespace Mine
def lawBody : List Stmt := match PySem.Challenge.rw_wo0032_01.row.prog.main.body.getLast? with
  | some (.FunctionDef _ _ b _ _ _ _ _ _ _) => b
  | _ => []
def lawScope : Scope := match PySem.Challenge.rw_wo0032_01.row.prog.main.body.getLast? with
  | some (.FunctionDef _ _ _ _ _ _ sc _ _ _) => sc
  | _ => { kind := .function, names := [], isGenerator := false, isCoroutine := false }
theorem lawBody_len : lawBody.length = 21 := by rfl
end Mine
end
section
open PyProof.Rows.LCg PyProof.Rows.LCt
namespace Mine
section
variable {prog : Program} {w : World} {A : Around} {E : Value → Shared → Prop} {s : Shared} {h₀ : Heap} {L : Addr} {m : Str → Option Value} {env : Env}
def TurnTR (prog : Program) (w : World) (A : Around) (h₀ : Heap) (L : Addr) (m : Str → Option Value) (env : Env) (ct elt : Expr) (x : Str) (scope : Scope) (cl : List (Str × Addr)) (s : Shared) (P : Nat → Value → Prop) (J : Nat → List Value → List (Addr × Obj) → Prop) (i : Nat) : Prop :=
  ∀ ys news, J i ys news → ∀ v I oI C oC D m₂ h tk (E' : Value → Shared → Prop), P i v → NsObj oC m₂ → m₂ x = some v → Fr h₀ L h m → News h₀ L h ((I, oI) :: (C, oC) :: (D, lst ys) :: news) → Off3 I C D news → ((@Ne Nat I C) ∧ (@Ne Nat I D) ∧ (@Ne Nat C D)) →
      wpAny (model prog w) A (isTrue ct (compEnvC scope cl C env) (eval ct (compEnvC scope cl C env))) (fun ok s' => if ok = true then
        wpAny (model prog w) A (eval elt (compEnvC scope cl C env)) (CompEnd h₀ L m { s with heap := h, toks := tk } I oI C oC D (lst ys) (fun _ => True) (fun y news' => J (i + 1) (ys ++ [y]) news')) E' s'
        else CompEnd h₀ L m { s with heap := h, toks := tk } I oI C oC D (lst ys) (fun _ => True) (fun _ news' => J (i + 1) ys news') Value.none s') E' { s with heap := h, toks := tk }
theorem compEnd_monoR {s₁ : Shared} {I : Addr} {oI : Obj} {C : Addr} {oC : Obj} {D : Addr} {oD : Obj} {S : List (Addr × Obj) → Prop} {rest rest' : Value → List (Addr × Obj) → Prop} {y : Value} {s₂ : Shared}
    (h : CompEnd h₀ L m s₁ I oI C oC D oD S rest y s₂) (hr : ∀ news', rest y news' → rest' y news') : CompEnd h₀ L m s₁ I oI C oC D oD S rest' y s₂ := by
  obtain ⟨h', tk, news', e, F, N, off, hS, r⟩ := h
  exact ⟨h', tk, news', e, F, N, off, hS, hr _ r⟩
end
def RowsAre (news : List (Addr × Obj)) : List Value → List (List Int) → Prop
  | [], [] => True
  | v :: vs, r :: rs => (∃ a ivs c, v = .ref a ∧ (a, W.listOf (List.toArray ivs) c) ∈ news ∧ IntsAre ivs r) ∧ RowsAre news vs rs
  | _, _ => False
theorem RowsAre.mono {n1 n2 : List (Addr × Obj)} (h : ∀ p ∈ n1, p ∈ n2) : ∀ {vs : List Value} {rs : List (List Int)}, RowsAre n1 vs rs → RowsAre n2 vs rs
  | [], [], _ => trivial
  | _ :: _, _ :: _, ⟨⟨a, ivs, c, e, hm, hi⟩, hr⟩ => ⟨⟨a, ivs, c, e, h _ hm, hi⟩, hr.mono h⟩
theorem RowsAre.snoc {n1 : List (Addr × Obj)} {a : Addr} {ivs : List Value} {c : Nat} {r : List Int} (hm : (a, W.listOf (List.toArray ivs) c) ∈ n1) (hi : IntsAre ivs r) : ∀ {vs : List Value} {rs : List (List Int)}, RowsAre n1 vs rs → RowsAre n1 (vs ++ [.ref a]) (rs ++ [r])
  | [], [], _ => ⟨⟨a, ivs, c, rfl, hm, hi⟩, trivial⟩
  | _ :: _, _ :: _, ⟨h1, h2⟩ => ⟨h1, h2.snoc hm hi⟩
theorem RowsAre.len {n1 : List (Addr × Obj)} : ∀ {vs : List Value} {rs : List (List Int)}, RowsAre n1 vs rs → vs.length = rs.length
  | [], [], _ => rfl
  | _ :: _, _ :: _, ⟨_, h⟩ => by simp [h.len]
def rowsUp (l : List (Int × List Int)) : Nat → List (List Int)
  | 0 => []
  | i + 1 => rowsUp l i ++ (if 0 < (l.getD i (0, [])).1 then [(l.getD i (0, [])).2] else [])
def JRow (NB : List (Addr × Obj)) (l : List (Int × List Int)) (i : Nat) (ys : List Value) (news : List (Addr × Obj)) : Prop :=
  ∃ extra, news = NB ++ extra ∧ RowsAre extra ys (rowsUp l i) ∧ ∀ p ∈ extra, p.1 ≠ 44 ∧ p.1 ≠ 51
theorem JRow.off {NB extra all : List (Addr × Obj)} {l : List (Int × List Int)} {i : Nat} {ys : List Value} (hR : RowsAre extra ys (rowsUp l i)) (hX : ∀ p ∈ extra, p.1 ≠ 44 ∧ p.1 ≠ 51) (hall : all = NB ++ extra) (hw : ¬ 0 < (l.getD i (0, [])).1) : JRow NB l (i + 1) ys all :=
  ⟨extra, hall, by rw [rowsUp, if_neg hw, List.append_nil]; exact hR, hX⟩
section
variable {h₀ : Heap} {L I C D Rv : Addr} {m : Str → Option Value}
end
end Mine
end
section
namespace Mine
def lexGt : List Int → List Int → Bool
  | [], _ => false
  | _ :: _, [] => true
  | a :: r, b :: t => if a = b then lexGt r t else decide (a > b)
end Mine
namespace Mine
section
open PySem.SeqAt
open PySem.AutoSeq1 (wpAny_loadPart')
open MeetsSeq MeetsSeq2 MeetsSeq3 SeqRoads2
theorem lexGt_drop {ns ms : List Int} {i : Nat} (h1 : i < ns.length) (h2 : i < ms.length) : Mine.lexGt (ns.drop i) (ms.drop i) = if ns[i] = ms[i] then Mine.lexGt (ns.drop (i + 1)) (ms.drop (i + 1)) else decide (ns[i] > ms[i]) := by
  rw [List.drop_eq_getElem_cons h1, List.drop_eq_getElem_cons h2, Mine.lexGt]
theorem lexGt_size {ns ms : List Int} {i : Nat} (hle : i ≤ ns.length) (hle2 : i ≤ ms.length) (h : ns.length ≤ i ∨ ms.length ≤ i) : Mine.lexGt (ns.drop i) (ms.drop i) = decide (ns.length > ms.length) := by
  by_cases h1 : ns.length ≤ i
  · rw [List.drop_of_length_le h1, Mine.lexGt, eq_comm, decide_eq_false_iff_not]; omega
  · have h2 : ms.length ≤ i := by omega
    rw [List.drop_of_length_le h2, List.drop_eq_getElem_cons (by omega), Mine.lexGt, eq_comm, decide_eq_true_iff]; omega
theorem gt_loop (l b : Addr) (vs ws : List Value) (ns ms : List Int) (hv : IntsAre vs ns) (hw : IntsAre ws ms) (n n2 : Nat) (dd dd2 : Option Addr) (sl sl2 : Array (Option Value)) (k : Nat) :
    ∀ i : Nat, i ≤ ns.length → i ≤ ms.length → ns.length - i = k → Meets (Builtin.«list.__eq__.loop» ⟨[.ref l, .ref b, rawInt i, rawInt 4], []⟩)
      (fun A R s => s.heap.get? l = some { cls := .type "list", dict := dd, data := .seq vs.toArray n, slots := sl } ∧ s.heap.get? b = some { cls := .type "list", dict := dd2, data := .seq ws.toArray n2, slots := sl2 } ∧
        R (.ok (.ret (.bool (Mine.lexGt (ns.drop i) (ms.drop i))))) s) := by
  have hvl := hv.length
  have hwl := hw.length
  induction k with
  | zero =>
    intro i hle hle2 hk prog w A R s h
    obtain ⟨hp, g, d, tk, os⟩ := s; obtain ⟨hl, hb, h⟩ := h
    wp_walk using wpAny_loadPart' hl, wpAny_loadPart' hb
    have hi1 : vs.toArray[((i : Nat) : Int).toNat]? = none := by simp; omega
    rw [hi1]
    wp_walk using wpAny_loadPart' hl, wpAny_loadPart' hb
    show R (.ok (.ret (.bool (decide (vs.toArray.size > ws.toArray.size))))) _
    rw [Mine.lexGt_size hle hle2 (.inl (by omega))] at h
    simpa [hvl, hwl] using h
  | succ k ih =>
    intro i hle hle2 hk prog w A R s h
    obtain ⟨hp, g, d, tk, os⟩ := s; obtain ⟨hl, hb, h⟩ := h
    wp_walk using wpAny_loadPart' hl, wpAny_loadPart' hb
    have hlt : i < vs.length := by omega
    have hi1 : vs.toArray[((i : Nat) : Int).toNat]? = some vs[i] := by simp [hlt]
    have hc : ((i : Int) + 1) = ((i + 1 : Nat) : Int) := by push_cast; rfl
    by_cases hlt2 : i < ws.length
    · have hi2 : ws.toArray[((i : Nat) : Int).toNat]? = some ws[i] := by simp [hlt2]
      obtain ⟨t1, e1⟩ := Mine.ints_get hv hlt (by omega)
      obtain ⟨t2, e2⟩ := Mine.ints_get hw hlt2 (by omega)
      rw [Mine.lexGt_drop (by omega) (by omega)] at h
      rw [hi1, hi2, e1, e2]
      refine wpAny_bind (EqAt.int_int _ t1 _ t2 prog w _ _ ?_)
      by_cases he : ns[i]'(by omega) = ms[i]'(by omega)
      · rw [if_pos he] at h
        simp only [he, beq_self_eq_true]
        wp_walk
        rw [hc]
        exact ⟨plainId_quiet plain_eq_loop _, codeAny_builtin entry_eq_loop (by
          rw [Around.under_plainId plain_eq_loop _]
          exact ih (i + 1) (by omega) (by omega) (by omega) prog w A R _ ⟨hl, hb, h⟩)⟩
      · rw [if_neg he] at h
        have he' : (ns[i]'(by omega) == ms[i]'(by omega)) = false := by simpa using he
        rw [he']
        wp_walk using wpAny_loadPart' hl, wpAny_loadPart' hb
        rw [hi1, hi2, e1, e2]
        dsimp only
        refine wpAny_bind (CmpOf.ints_gt (prog := prog) (w := w) (P := fun j v => ∃ t, v = .int (if j = 0 then ns[i]'(by omega) else ms[i]'(by omega)) t) _ (fun _ _ h => h) 0 1 _ _ _ _ _ ⟨t1, rfl⟩ ⟨t2, rfl⟩ ?_)
        wp_walk
        exact h
    · have hi2 : ws.toArray[((i : Nat) : Int).toNat]? = none := by simp; omega
      rw [hi1, hi2]
      wp_walk using wpAny_loadPart' hl, wpAny_loadPart' hb
      show R (.ok (.ret (.bool (decide (vs.toArray.size > ws.toArray.size))))) _
      rw [Mine.lexGt_size hle hle2 (.inr (by omega))] at h
      simpa [hvl, hwl] using h
theorem list_gt (l b : Addr) (vs ws : List Value) (ns ms : List Int) (hv : IntsAre vs ns) (hw : IntsAre ws ms) (n n2 : Nat) (dd dd2 : Option Addr) (sl sl2 : Array (Option Value)) :
    Meets (Builtin.«list.__gt__» ⟨[.ref l, .ref b], []⟩)
      (fun A R s => s.heap.get? l = some { cls := .type "list", dict := dd, data := .seq vs.toArray n, slots := sl } ∧ s.heap.get? b = some { cls := .type "list", dict := dd2, data := .seq ws.toArray n2, slots := sl2 } ∧
        R (.ok (.ret (.bool (Mine.lexGt ns ms)))) s) := by
  intro prog w A R s h
  obtain ⟨hp, g, d, tk, os⟩ := s; obtain ⟨hl, hb, h⟩ := h
  have f3 := AutoSeq1.sub_list_list
  wp_walk using wpAny_loadPart' hl, wpAny_loadPart' hb
  exact ⟨plainId_quiet plain_eq_loop _, codeAny_builtin entry_eq_loop (by
    rw [Around.under_plainId plain_eq_loop _]
    exact Mine.gt_loop l b vs ws ns ms hv hw n n2 dd dd2 sl sl2 _ 0 (Nat.zero_le _) (Nat.zero_le _) rfl prog w A R _ ⟨hl, hb, by simpa using h⟩)⟩
end
end Mine
namespace Mine
section
variable {prog : Program} {w : World} {A : Around} {E : Value → Shared → Prop} {s : Shared}
theorem rc_gt_lists {l b : Addr} {vs ws : List Value} {ns ms : List Int} {Q : Value → Shared → Prop} (hv : IntsAre vs ns) (hw : IntsAre ws ms) (hl : s.heap.IsList l vs.toArray) (hb : s.heap.IsList b ws.toArray) (hu : A.units < cLine)
    (h : Q (.bool (lexGt ns ms)) s) : wpAny (model prog w) A (richCompare .Gt (.ref l) (.ref b)) Q E s := by
  obtain ⟨⟨cls, dd, data, sl⟩, ho, hc, n, hd⟩ := id hl
  obtain ⟨⟨cls2, dd2, data2, sl2⟩, ho2, hc2, n2, hd2⟩ := id hb
  simp only at hc hd hc2 hd2
  subst hc hd hc2 hd2
  exact richCompare_meets_room (op := .Gt) ⟨_, ho, rfl⟩ ⟨_, ho2, rfl⟩ F.slot_list_gt F.entry_list_gt (F.args_list_gt_2 _ _) (list_gt l b vs ws ns ms hv hw n n2 dd dd2 sl sl2)
    ⟨ho, ho2, show Value.bool (lexGt ns ms) ≠ Value.notImplemented ∧ Q (.bool (lexGt ns ms)) s from ⟨(fun x => nomatch x), h⟩⟩ hu
end
end Mine

namespace Mine
section
variable {prog : Program} {w : World} {A : Around} {R : Result → Shared → Prop} {I S : Addr} {fp wr : List Addr} {n : Nat} {P : Nat → Value → Prop} {St : Nat → Heap → Prop}
theorem max_loopH (Wk : Walks prog w A.in1 I fp wr n P St) (bt : Nat → Nat → Bool) (H : Heap → Prop) (hSf : S ∉ fp)
    (hH : ∀ h h', H h → (∀ b o, b ∉ wr → b ≠ S → h.get? b = some o → h'.get? b = some o) → H h')
    (hcmp : ∀ i j vi vj (s : Shared) (Q : Value → Shared → Prop) (E : Value → Shared → Prop), H s.heap → P i vi → P j vj → Q (.bool (bt i j)) s → wpAny (model prog w) A.in1 (richCompare .Gt vi vj) Q E s) :
    ∀ (k j : Nat) (s : Shared) (vb : Value) (c : Nat), n = j + 1 + k → H s.heap → St (j + 1) s.heap → P (argBest bt j) vb → s.heap.get? S = some (W.listOf #[vb, vb] c) →
    (∀ v h' tk, P (argBest bt (n - 1)) v → (∀ b o, b ∉ wr → b ≠ S → s.heap.get? b = some o → h'.get? b = some o) → R (.ok (.ret v)) { s with heap := h', toks := tk }) →
    codeAny (model prog w) A (.builtin "max.loop" ⟨[.ref I, .none, .ref S], []⟩) R s := by
  have hSw : S ∉ wr := fun h => hSf (Wk.sub _ h)
  have hname : (toString "max" ++ toString ".loop" : String) = "max.loop" := by decide
  intro k
  induction k with
  | zero =>
    intro j s vb c hn hHs hst hPb hS hR
    refine codeAny_builtin F.entry_max_loop ?_
    rw [Around.under_plainId F.plain_max_loop _]
    show wpAny _ A.in1 (seqItems? (.ref S) >>= _) _ _ s
    refine wpAny_bind (wpAny_seqItems hS rfl ?_)
    show wpAny _ A.in1 (tryCatch (pyNext (.ref I)) _ >>= _) _ _ s
    refine wpAny_bind (wpAny_tryCatch (Wk.done s _ _ (by rw [hn]; exact hst) fun h' tk hk => ?_))
    show wpAny _ A.in1 (updateSeq S (fun _ => #[]) >>= _) _ _ _
    refine wpAny_bind (wpAny_updateSeq (hk S _ hSw hS) rfl (wpAny_bind (wpAny_letGo (wpAny_pure ?_))))
    refine hR vb _ tk (by rw [hn]; exact hPb) fun b o hb hbS e => (Heap.get?_update_other _ _ (Ne.symm hbS)).trans (hk b o hb e)
  | succ k ih =>
    intro j s vb c hn hHs hst hPb hS hR
    refine codeAny_builtin F.entry_max_loop ?_
    rw [Around.under_plainId F.plain_max_loop _]
    show wpAny _ A.in1 (seqItems? (.ref S) >>= _) _ _ s
    refine wpAny_bind (wpAny_seqItems hS rfl ?_)
    show wpAny _ A.in1 (tryCatch (pyNext (.ref I)) _ >>= _) _ _ s
    refine wpAny_bind (wpAny_tryCatch (Wk.item (j + 1) s _ _ (by omega) hst fun v h' tk hP hst' hk => ?_))
    have hS' := hk S _ hSw hS
    have hH' : H h' := hH _ _ hHs fun b o hb _ e => hk b o hb e
    show wpAny _ A.in1 (tryCatch (holding [v, v] (richCompare .Gt v vb >>= _)) _ >>= _) _ _ _
    refine wpAny_bind (wpAny_tryCatch (wpAny_holding (wpAny_bind (hcmp (j + 1) (argBest bt j) v vb _ _ _ hH' hP hPb ?_))))
    refine wpAny_bind (wpAny_holding (wpAny_truthy_bool (wpAny_bind (wpAny_letGo (wpAny_pure ?_)))))
    have hab : argBest bt (j + 1) = if bt (j + 1) (argBest bt j) then j + 1 else argBest bt j := rfl
    by_cases hb : bt (j + 1) (argBest bt j) = true
    · rw [hb]
      rw [if_pos hb] at hab
      simp only [if_true]
      refine wpAny_bind (wpAny_updateSeq hS' rfl (wpAny_bind (wpAny_letGo ?_)))
      rw [hname]
      refine wpAny_pure ⟨plainId_quiet F.plain_max_loop _, ih (j + 1) _ v _ (by omega) (hH _ _ hH' fun b o _ hbS e => (Heap.get?_update_other _ _ (Ne.symm hbS)).trans e) (Wk.frame _ _ _ hst' fun b hbf o e => (Heap.get?_update_other _ _ (fun h : S = b => hSf (h ▸ hbf))).trans e)
        (by rw [hab]; exact hP) (Heap.get?_update_self _ hS' rfl) fun v' h2 tk2 hP' hk2 => hR v' h2 tk2 hP' fun b o hb hbS e => hk2 b o hb hbS ((Heap.get?_update_other _ _ (Ne.symm hbS)).trans (hk b o hb e))⟩
    · have hbf : bt (j + 1) (argBest bt j) = false := by simpa using hb
      rw [hbf]
      rw [if_neg hb] at hab
      simp only [Bool.false_eq_true, if_false]
      refine wpAny_bind (wpAny_letGo ?_)
      rw [hname]
      exact wpAny_pure ⟨plainId_quiet F.plain_max_loop _, ih (j + 1) _ vb c (by omega) hH' hst' (by rw [hab]; exact hPb) hS' fun v' h2 tk2 hP' hk2 => hR v' h2 tk2 hP' fun b o hb hbS e => hk2 b o hb hbS (hk b o hb e)⟩
end
section
variable {prog : Program} {w : World} {A : Around} {E : Value → Shared → Prop} {s : Shared} {h₀ : Heap} {L : Addr} {m : Str → Option Value} {news : List (Addr × Obj)}
def bestRow (rs : List (List Int)) : Nat := argBest (fun i j => lexGt (rs.getD i []) (rs.getD j [])) (rs.length - 1)
theorem RowsAre.get {n1 : List (Addr × Obj)} : ∀ {vs : List Value} {rs : List (List Int)}, RowsAre n1 vs rs → ∀ {i : Nat} {v : Value}, vs[i]? = some v → ∃ a ivs c, v = .ref a ∧ (a, W.listOf (List.toArray ivs) c) ∈ n1 ∧ IntsAre ivs (rs.getD i [])
  | [], [], _, i, v, e => by simp at e
  | x :: vs, r :: rs, ⟨⟨a, ivs, c, e1, hm, hi⟩, h⟩, 0, v, e => by
    obtain rfl : x = v := by simpa using e
    exact ⟨a, ivs, c, e1, hm, hi⟩
  | x :: vs, r :: rs, ⟨h1, h⟩, i + 1, v, e => by
    obtain ⟨a, ivs, c, e1, hm, hi⟩ := h.get (i := i) (v := v) (by simpa using e)
    exact ⟨a, ivs, c, e1, hm, by simpa using hi⟩
theorem r_maxrows {l : Addr} {vs : List Value} {rs : List (List Int)} {c : Nat} {Q : Value → Shared → Prop} (hh : A.handled = none) (Fh : Fr h₀ L s.heap m) (N : News h₀ L s.heap news) (hm : (l, W.listOf vs.toArray c) ∈ news) (hR : RowsAre news vs rs) (hne : 0 < rs.length) (hu : A.units + 100 < cLine)
    (h : ∀ a ivs c h' tk, IntsAre ivs (rs.getD (bestRow rs) []) → Fr h₀ L h' m → News h₀ L h' ((a, W.listOf (List.toArray ivs) c) :: news) → Q (.ref a) { s with heap := h', toks := tk }) :
    wpAny (model prog w) A (call (.builtin "max") [.ref l]) Q E s := by
  have hname : (toString "max" ++ toString ".loop" : String) = "max.loop" := by decide
  have hl : s.heap.IsList l vs.toArray := ⟨_, (N _ hm).1, rfl, c, rfl⟩
  have hlen := hR.len
  have hlt : l < s.heap.objs.size := Heap.lt_size (N _ hm).1
  refine call_function_tree F.kind_max F.plain_max F.entry_max (F.args_max1 _) ?_
  show wpAny _ A.in1 (Builtin.Builtins.bindParams "max" ["key", "default"] 0 ⟨[], []⟩ >>= _) _ _ s
  refine wpAny_bind (wpAny_of_eq (show Builtin.Builtins.bindParams "max" ["key", "default"] 0 ⟨[], []⟩ = pure [none, none] from rfl) ?_)
  refine wpAny_bind (wpAny_pure ?_)
  refine wpAny_bind (wpAny_pyIter_list hl (wpAny_bind (wpAny_newObj_type ?_)))
  rw [hname]
  generalize hG : s.heap.push { cls := .type "list_iterator", data := .fields #[.ref l, .int 0 0] } = G
  have hGs : G.objs.size = s.heap.objs.size + 1 := by rw [← hG, Heap.size_push]
  generalize hI : s.heap.objs.size = I at *
  have hIG : G.IsListIter I l 0 := ⟨_, hG ▸ hI ▸ Heap.get?_push_size _ rfl, rfl, rfl⟩
  have upG : ∀ b o, s.heap.get? b = some o → G.get? b = some o := fun b o e => hG ▸ Heap.get?_push_of_some _ e
  have hSne : G.objs.size ≠ I := by rw [hGs]; exact Nat.succ_ne_self _
  have Wk := Walks.list (prog := prog) (w := w) (A := A.in1) hh I l (Nat.ne_of_lt hlt) vs.toArray
  have hsz : vs.toArray.size = rs.length := by simp [hlen]
  have below : ∀ b o, s.heap.get? b = some o → b ≠ I ∧ b ≠ G.objs.size := fun b o e => by
    have h1 : b < I := hI ▸ Heap.lt_size e
    exact ⟨Nat.ne_of_lt h1, by rw [hGs]; exact Nat.ne_of_lt (Nat.lt_succ_of_lt h1)⟩
  generalize hH2 : G.push { cls := .type "list", dict := none, data := .seq ([] : List Value).toArray } = G2
  generalize hS : G.objs.size = S at *
  have upS : ∀ b o, G.get? b = some o → G2.get? b = some o := fun b o e => hH2 ▸ Heap.get?_push_of_some _ e
  have hS2 : G2.get? S = some (W.listOf #[] 0) := hH2 ▸ hS ▸ Heap.get?_push_size _ rfl
  have hSf : S ∉ [I, l] := by
    intro hmem
    rcases List.mem_cons.mp hmem with e | hmem
    · exact hSne e
    · exact (below _ _ (N _ hm).1).2 (List.mem_singleton.mp hmem).symm
  have hst0 : G2.IsListIter I l 0 ∧ G2.IsList l vs.toArray := ⟨hIG.at fun o e => upS _ o e, hl.at fun o e => upS _ o (upG _ o e)⟩
  have hLI : L ≠ I ∧ L ≠ S := by
    obtain ⟨oL, _, _, hoL, _⟩ := Fh.ns
    exact below _ _ hoL
  -- what the comparison reads
  let H : Heap → Prop := fun h => Fr h₀ L h m ∧ News h₀ L h news
  have hI0 : h₀.get? I = none := by
    cases e : h₀.get? I with
    | none => rfl
    | some o => exact absurd rfl (below _ _ (Fh.keep _ _ e)).1
  have hS0 : h₀.get? S = none := by
    cases e : h₀.get? S with
    | none => rfl
    | some o => exact absurd rfl (below _ _ (Fh.keep _ _ e)).2
  have hoff : ∀ p ∈ news, p.1 ≠ I ∧ p.1 ≠ S := fun p hp => below _ _ (N p hp).1
  have hH : ∀ h h', H h → (∀ b o, b ∉ [I] → b ≠ S → h.get? b = some o → h'.get? b = some o) → H h' := by
    rintro h h' ⟨F1, N1⟩ hk
    have hk' : ∀ b o, b ≠ I → b ≠ S → h.get? b = some o → h'.get? b = some o := fun b o h1 h2 e => hk b o (by simpa using h1) h2 e
    obtain ⟨oL, a1, a2, hoL, a3⟩ := F1.ns
    refine ⟨⟨⟨oL, a1, a2, hk' _ _ hLI.1 hLI.2 hoL, a3⟩, fun b o e => hk' b o ?_ ?_ (F1.keep b o e), F1.above⟩, fun p hp => ⟨hk' _ _ (hoff p hp).1 (hoff p hp).2 (N1 p hp).1, (N1 p hp).2⟩⟩
    · rintro rfl; rw [hI0] at e; cases e
    · rintro rfl; rw [hS0] at e; cases e
  have hH0 : H G2 := ⟨Fh.keeps fun b o e => upS b o (upG b o e), fun p hp => ⟨upS _ _ (upG _ _ (N p hp).1), (N p hp).2⟩⟩
  have hcmp : ∀ i j vi vj (s : Shared) (Q : Value → Shared → Prop) (E : Value → Shared → Prop), H s.heap → vs.toArray[i]? = some vi → vs.toArray[j]? = some vj → Q (.bool (lexGt (rs.getD i []) (rs.getD j []))) s →
      wpAny (model prog w) A.in1 (richCompare .Gt vi vj) Q E s := by
    intro i j vi vj s Q E hHs hi hj hQ
    obtain ⟨a, iv, c1, rfl, hma, hia⟩ := hR.get (i := i) (v := vi) (by simpa using hi)
    obtain ⟨b, jv, c2, rfl, hmb, hib⟩ := hR.get (i := j) (v := vj) (by simpa using hj)
    exact rc_gt_lists hia hib ⟨_, (hHs.2 _ hma).1, rfl, c1, rfl⟩ ⟨_, (hHs.2 _ hmb).1, rfl, c2, rfl⟩ (by simp only [units_in1]; omega) hQ
  have hSw : S ∉ [I] := fun h => hSf (Wk.sub _ h)
  refine wpAny_pure ⟨plainId_quiet F.plain_max_loop _, codeAny_builtin F.entry_max_loop ?_⟩
  rw [Around.under_plainId F.plain_max_loop _]
  show wpAny _ A.in1 (seqItems? (.ref S) >>= _) _ _ _
  refine wpAny_bind (wpAny_seqItems hS2 rfl ?_)
  show wpAny _ A.in1 (tryCatch (pyNext (.ref I)) _ >>= _) _ _ _
  refine wpAny_bind (wpAny_tryCatch (Wk.item 0 _ _ _ (by rw [hsz]; exact hne) hst0 fun v h' tk hP hst' hk => ?_))
  have hS' := hk S _ hSw hS2
  have hH' : H h' := hH _ _ hH0 fun b o hb _ e => hk b o hb e
  show wpAny _ A.in1 (updateSeq S (fun _ => #[v, v]) >>= _) _ _ _
  refine wpAny_bind (wpAny_updateSeq hS' rfl ?_)
  rw [hname]
  refine wpAny_pure ⟨plainId_quiet F.plain_max_loop _, max_loopH Wk _ H hSf hH hcmp (rs.length - 1) 0 _ v _ (by rw [hsz]; omega) (hH _ _ hH' fun b o _ hbS e => (Heap.get?_update_other _ _ (Ne.symm hbS)).trans e)
    (Wk.frame _ _ _ hst' fun b hbf o e => (Heap.get?_update_other _ _ (fun h : S = b => hSf (h ▸ hbf))).trans e) hP (Heap.get?_update_self _ hS' rfl) fun v' h2 tk2 hP' hk2 => ?_⟩
  rw [hsz] at hP'
  obtain ⟨a, iv, c1, rfl, hma, hia⟩ := hR.get (v := v') (by simpa using hP')
  have hHf : H h2 := hH _ _ (hH _ _ hH' fun b o _ hbS e => (Heap.get?_update_other (f := _) _ (Ne.symm hbS)).trans e) hk2
  refine h a iv c1 h2 tk2 hia hHf.1 fun p hp => ?_
  rcases List.mem_cons.mp hp with rfl | hp
  · exact hHf.2 _ hma
  · exact hHf.2 _ hp
end
end Mine
namespace Mine
open Builtin.Int (intBits)
section
variable {prog : Program} {w : World} {A : Around} {E : Value → Shared → Prop} {s : Shared} {h₀ : Heap} {L : Addr} {news : List (Addr × Obj)} {Q : Value → Shared → Prop}
end
section
variable {w : World} {loose : List Str} {mean : ExcName → Option Value} {mg mb : Str → Option Value} {dp un : Nat} {gd : Option (List Code)} {cn : Str} {cs : Scope} {a : Addr} {ccd : Value} {cl : List (Str × Addr)} {outer : List Env} {A₀ : Around} {base h₀ : Heap} {L : Addr} {m : Str → Option Value} {news : List (Addr × Obj)} {s : Shared} {Q E : Value → Shared → Prop}

set_option maxHeartbeats 1000000 in
theorem c_isb' {b : Bool} {n : Int} {t : Tok} (hb : (if n = 0 then false else (Builtin.bitAnd n (n - 1) == 0)) = b) (B : Below A₀ base outer h₀) (F : Fr h₀ L s.heap m) (X : (hd.heap_39 w.params).In h₀) (N : News h₀ L s.heap news) (T : Top topProg loose mean mg mb h₀) (hk : cs.kind = .function)
    (hdp : dp + 1 < recursionLimit) (hu : un + 8 < cLine)
    (hret : ∀ h' tk', Fr h₀ L h' m → News h₀ L h' news → Q (.bool b) { s with heap := h', toks := tk' }) :
    wpAny (model PySem.Challenge.rw_wo0032_01.row.prog w) (ktrTop dp un gd cn cs L a ccd cl outer) (call (.ref 21) [.int n t]) Q E s := by
  subst hb; exact c_isb B F X N T hk hdp hu hret
theorem c_high' {v n : Int} {t : Tok} (hv : (intBits n : Int) - 1 = v) (B : Below A₀ base outer h₀) (F : Fr h₀ L s.heap m) (X : (hd.heap_39 w.params).In h₀) (N : News h₀ L s.heap news) (T : Top topProg loose mean mg mb h₀) (hk : cs.kind = .function)
    (hdp : dp + 1 < recursionLimit) (hu : un + 8 < cLine)
    (hret : ∀ t' h' tk', Fr h₀ L h' m → News h₀ L h' news → Q (.int v t') { s with heap := h', toks := tk' }) :
    wpAny (model PySem.Challenge.rw_wo0032_01.row.prog w) (ktrTop dp un gd cn cs L a ccd cl outer) (call (.ref 28) [.int n t]) Q E s := by
  subst hv; exact c_high B F X N T hk hdp hu hret
end
end Mine
end
section
namespace Mine
theorem far_b (x : Int) : 2 ^ 4100 ≤ 2 ^ Int.toNat 4100 + x.fmod (2 ^ Int.toNat 2050) ∧ 2 ^ Int.toNat 4100 + x.fmod (2 ^ Int.toNat 2050) < 2 ^ 4101 := by
  have e1 : Int.toNat 4100 = 4100 := rfl
  have e2 : Int.toNat 2050 = 2050 := rfl
  rw [e1, e2]
  have hp := pow2_pos 2050
  have hle : (2 : Int) ^ 2050 ≤ 2 ^ 4100 := pow2_le (by decide)
  have hs : (2 : Int) ^ 4101 = 2 ^ 4100 * 2 := Int.pow_succ 2 4100
  rw [Int.fmod_eq_emod_of_nonneg _ (Int.le_of_lt hp), hs]
  have h1 := Int.emod_nonneg x (show (2 : Int) ^ 2050 ≠ 0 from Ne.symm (Int.ne_of_lt hp))
  have h2 := Int.emod_lt_of_pos x hp
  generalize (2 : Int) ^ 2050 = P at *
  generalize (2 : Int) ^ 4100 = R at *
  omega
theorem far_ne {x : Int} (h : 2 ^ Int.toNat 4100 + x.fmod (2 ^ Int.toNat 2050) = 0) : False := by
  have h1 := (far_b x).1
  have hp := pow2_pos 4100
  rw [h] at h1
  generalize (2 : Int) ^ 4100 = R at *
  omega
theorem near_b (x y : Int) : 0 ≤ y.fmod (2 ^ Int.toNat 4100 + x.fmod (2 ^ Int.toNat 2050)) ∧ y.fmod (2 ^ Int.toNat 4100 + x.fmod (2 ^ Int.toNat 2050)) < 2 ^ Int.toNat 4100 + x.fmod (2 ^ Int.toNat 2050) := by
  have h1 := (far_b x).1
  have hp := pow2_pos 4100
  have h2 : 0 < 2 ^ Int.toNat 4100 + x.fmod (2 ^ Int.toNat 2050) := Int.lt_of_lt_of_le hp h1
  exact ⟨Int.fmod_nonneg_of_pos _ h2, Int.fmod_lt_of_pos _ h2⟩
end Mine
end
section
namespace Mine
open Builtin.Int (intBits)
theorem bits_getD {l : List Int} (h : ∀ y ∈ l, intBits y ≤ 4097) (j : Nat) : intBits (l.getD j 0) ≤ 4097 := by
  rw [List.getD_eq_getElem?_getD]
  cases e : l[j]? with
  | none => exact Nat.le_trans (show intBits 0 ≤ 0 by decide) (by omega)
  | some y => exact h y (List.mem_of_getElem? e)
theorem nsCall {h₀ h : Heap} {L : Addr} {a b e1 e2 e3 e4 : Addr × Obj} {t1 t2 rst : List (Addr × Obj)} (N : News h₀ L h (a :: b :: e1 :: e2 :: e3 :: e4 :: (t1 ++ (t2 ++ rst)))) : News h₀ L h (t1 ++ (t2 ++ (a :: b :: e1 :: e2 :: e3 :: e4 :: rst))) :=
  cb_drop N fun p hp => by
    simp only [List.mem_append, List.mem_cons] at hp ⊢
    rcases hp with h | h | h | h | h | h | h | h | h <;> simp [h]
theorem nsBack {h₀ h : Heap} {L : Addr} {d a b e1 e2 e3 e4 : Addr × Obj} {t1 t2 rst : List (Addr × Obj)} (N : News h₀ L h (d :: (t1 ++ (t2 ++ (a :: b :: e1 :: e2 :: e3 :: e4 :: rst))))) : News h₀ L h (d :: b :: a :: e1 :: e2 :: e3 :: e4 :: (t1 ++ (t2 ++ rst))) :=
  cb_drop N fun p hp => by
    simp only [List.mem_append, List.mem_cons] at hp ⊢
    rcases hp with h | h | h | h | h | h | h | h | h | h <;> simp [h]
theorem tab_neR {h₀ h : Heap} {L X : Addr} {ob : Obj} {all ts : List (Addr × Obj)} {P : Addr} {ln cl : Int} {q : Str} {lo : Nat} (N : News h₀ L h all) (hX : (X, ob) ∈ all) (hT : Tab P ln cl q lo ts) (hsub : ∀ p ∈ ts, p ∈ all) (h1 : ob.cls ≠ .none)
    (h2 : ∀ vs, ob.data = .fields vs → ∀ s t, vs[1]? ≠ some (.str s t)) : ∀ p ∈ ts, p.1 ≠ X := by
  have key : ∀ p ∈ ts, p.1 = X → p.2 = ob := fun p hp e => by
    have a1 := (N p (hsub p hp)).1
    rw [e, (N _ hX).1] at a1
    exact (Option.some.inj a1).symm
  rcases hT with rfl | ⟨c, oc, vs, t, rfl, h3, h4, _⟩
  · intro p hp e
    have := key p hp e
    rw [List.mem_singleton.mp hp] at this
    exact h1 (by rw [← this])
  · intro p hp e
    have e2 := key p hp e
    rcases List.mem_cons.mp hp with rfl | hp
    · exact h1 (by rw [← e2])
    · rw [List.mem_singleton.mp hp] at e2
      exact h2 vs (by rw [← e2]; exact h3) _ _ h4
theorem list_ob (its : Array Value) (n : Nat) : (W.listOf its n).cls ≠ .none ∧ ∀ vs, (W.listOf its n).data = .fields vs → ∀ s t, vs[1]? ≠ some (.str s t) := ⟨(by intro h; cases h), fun vs h => by cases h⟩
theorem it_ob (x y : Int) : (itR x y).cls ≠ .none ∧ ∀ vs, (itR x y).data = .fields vs → ∀ s t, vs[1]? ≠ some (.str s t) := by
  refine ⟨(by intro h; cases h), fun vs h s t => ?_⟩
  have e : vs = #[rawInt x, rawInt y, rawInt 1] := by
    simpa [itR, eq_comm] using h
  rw [e]
  simp [rawInt]
theorem dm_arith {e u fr nr : Int} (he0 : 0 ≤ e) (hu : 0 < u) (hfr : 0 < fr) (h0 : 0 ≤ nr) (h1 : nr < fr) : (e * u * fr + nr) / (u * fr) = e ∧ (e * u * fr + nr) % (u * fr) = nr := by
  have hb : 0 < u * fr := Int.mul_pos hu hfr
  have hle : fr ≤ u * fr := by
    have := Int.mul_le_mul_of_nonneg_right (show 1 ≤ u by omega) (Int.le_of_lt hfr)
    omega
  have e1 : e * u * fr + nr = nr + (u * fr) * e := by rw [Int.mul_assoc, Int.mul_comm e (u * fr)]; omega
  rw [e1, Int.add_mul_ediv_left _ _ (by omega), Int.add_mul_emod_self_left, Int.ediv_eq_zero_of_lt h0 (by omega), Int.emod_eq_of_lt h0 (by omega)]
  exact ⟨by omega, rfl⟩
theorem div2ok {w : World} : ∀ k, Div2OK w k
  | 0 => c_div2_zero
  | k + 1 => c_div2_succ (div2ok k)
section
variable {w : World} {loose : List Str} {mean : ExcName → Option Value} {mg mb : Str → Option Value} {dp un : Nat} {gd : Option (List Code)} {cn : Str} {cs : Scope} {a : Addr} {ccd : Value} {cl : List (Str × Addr)} {outer : List Env} {A₀ : Around} {base h₀ : Heap} {L : Addr} {m : Str → Option Value} {news : List (Addr × Obj)} {s : Shared} {Q E : Value → Shared → Prop}
theorem c_dmpT {ts44 ts51 rst : List (Addr × Obj)} {I O : Addr} {e1 e2 e3 e4 : Addr × Obj} {x1 x2 : Int} {its : Array Value} {n : Nat} {sh fr nr u e : Int} {t t1 : Tok}
    (h44 : Tab 44 40 4 (Str.ofString "_int2digits.<locals>.inner") 55 ts44) (h51 : Tab 51 55 4 (Str.ofString "_digits2int.<locals>.inner") 55 ts51)
    (B : Below A₀ base outer h₀) (F : Fr h₀ L s.heap m) (X : (hd.heap_39 w.params).In h₀) (N : News h₀ L s.heap ((I, itR x1 x2) :: (O, W.listOf its n) :: e1 :: e2 :: e3 :: e4 :: (ts44 ++ (ts51 ++ rst)))) (T : Top topProg loose mean mg mb h₀) (hk : cs.kind = .function)
    (C1 : CodeHd base 48 44) (C2 : CodeHd base 55 51) (hoff : ∀ p ∈ (I, itR x1 x2) :: (O, W.listOf its n) :: e1 :: e2 :: e3 :: e4 :: rst, p.1 ≠ 44 ∧ p.1 ≠ 51) (hoffO : ∀ p ∈ (I, itR x1 x2) :: e1 :: e2 :: e3 :: e4 :: rst, p.1 ≠ O)
    (he : sh = e * u) (he0 : 0 ≤ e) (hu1 : 0 < u) (hu2 : intBits u ≤ 7170) (hfr : 2 ^ 4100 ≤ fr) (hfr2 : fr < 2 ^ 4101) (hn0 : 0 ≤ nr) (hn1 : nr < fr) (hsb : intBits sh ≤ 12400)
    (hdp : dp + 60 < recursionLimit) (hu : un + 8 * 60 < cLine)
    (hret : ∀ D ts44' ts51' t1 t2 h' tk', Tab 44 40 4 (Str.ofString "_int2digits.<locals>.inner") 55 ts44' → Tab 51 55 4 (Str.ofString "_digits2int.<locals>.inner") 55 ts51' → Fr h₀ L h' m →
      News h₀ L h' ((D, { cls := .type "tuple", data := .seq #[.int e t1, .int nr t2] }) :: (O, W.listOf its n) :: (I, itR x1 x2) :: e1 :: e2 :: e3 :: e4 :: (ts44' ++ (ts51' ++ rst))) →
      (∀ p ∈ (I, itR x1 x2) :: e1 :: e2 :: e3 :: e4 :: (ts44' ++ (ts51' ++ rst)), p.1 ≠ O) → (∀ p ∈ ts44' ++ ts51', p.1 ≠ I) → @LT.lt Nat _ O D → @LT.lt Nat _ I D → Q (.ref D) { s with heap := h', toks := tk' }) :
    wpAny (model PySem.Challenge.rw_wo0032_01.row.prog w) (ktrTop dp un gd cn cs L a ccd cl outer) (call (.ref 63) [.int (sh * fr + nr) t, .int (u * fr) t1]) Q E s := by
  have hp := pow2_pos 4100
  have hfr0 : 0 < fr := Int.lt_of_lt_of_le hp hfr
  have bfr : intBits fr ≤ 4101 := bits_le_of_lt (Int.le_of_lt hfr0) hfr2
  have bnr : intBits nr ≤ 4101 := bits_le_of_lt hn0 (Int.lt_trans hn1 hfr2)
  have hb : 0 < u * fr := Int.mul_pos hu1 hfr0
  have hle : fr ≤ u * fr := by
    have := Int.mul_le_mul_of_nonneg_right (show 1 ≤ u by omega) (Int.le_of_lt hfr0)
    omega
  have bb : intBits (u * fr) ≤ 7170 + 4101 := intBits_mul_le hu2 bfr
  have bx : intBits (sh * fr + nr) ≤ max (12400 + 4101) 4101 + 1 := intBits_add_le (intBits_mul_le hsb bfr) bnr
  have bb2 : 4100 < intBits (u * fr) := by
    refine Nat.lt_of_not_le fun h => ?_
    have := lt_of_bits h
    omega
  have hx : 0 ≤ sh * fr + nr := by
    rw [he]
    have := Int.mul_nonneg (Int.mul_nonneg he0 (Int.le_of_lt hu1)) (Int.le_of_lt hfr0)
    omega
  obtain ⟨a1, a2⟩ := dm_arith he0 hu1 hfr0 hn0 hn1
  rw [← he] at a1 a2
  refine c_dmp (k := 2) (div2ok 2) h44 h51 B F X (nsCall N) T hk C1 C2 (fun p hp => (hoff p hp).1) (fun p hp => (hoff p hp).2) hb hx (by omega) (by omega) (by omega) (by omega) (by omega) (by omega) ?_
  intro D ts44' ts51' t1 t2 h' tk' g1 g2 F' N' hD
  rw [a1, a2] at N'
  have N2 := nsBack N'
  have hO : (O, W.listOf its n) ∈ ((D, { cls := .type "tuple", data := .seq #[.int e t1, .int nr t2] }) :: (ts44' ++ (ts51' ++ ((I, itR x1 x2) :: (O, W.listOf its n) :: e1 :: e2 :: e3 :: e4 :: rst))) : List (Addr × Obj)) := by simp
  have hI : (I, itR x1 x2) ∈ ((D, { cls := .type "tuple", data := .seq #[.int e t1, .int nr t2] }) :: (ts44' ++ (ts51' ++ ((I, itR x1 x2) :: (O, W.listOf its n) :: e1 :: e2 :: e3 :: e4 :: rst))) : List (Addr × Obj)) := by simp
  have s1 : ∀ p ∈ ts44', p ∈ ((D, { cls := .type "tuple", data := .seq #[.int e t1, .int nr t2] }) :: (ts44' ++ (ts51' ++ ((I, itR x1 x2) :: (O, W.listOf its n) :: e1 :: e2 :: e3 :: e4 :: rst))) : List (Addr × Obj)) := fun p hp => by simp [hp]
  have s2 : ∀ p ∈ ts51', p ∈ ((D, { cls := .type "tuple", data := .seq #[.int e t1, .int nr t2] }) :: (ts44' ++ (ts51' ++ ((I, itR x1 x2) :: (O, W.listOf its n) :: e1 :: e2 :: e3 :: e4 :: rst))) : List (Addr × Obj)) := fun p hp => by simp [hp]
  have hDl := ktn_ltOf hD
  refine hret D ts44' ts51' t1 t2 h' tk' g1 g2 F' N2 (fun p hp => ?_) (fun p hp => ?_) (hDl _ (.tail _ (.head _))) (hDl _ (.head _))
  · have hp' : p ∈ (I, itR x1 x2) :: e1 :: e2 :: e3 :: e4 :: rst ∨ p ∈ ts44' ∨ p ∈ ts51' := by
      simp only [List.mem_append, List.mem_cons] at hp ⊢
      rcases hp with h | h | h | h | h | h | h | h <;> simp [h]
    rcases hp' with h | h | h
    · exact hoffO p h
    · exact tab_neR N' hO g1 s1 (list_ob its n).1 (list_ob its n).2 p h
    · exact tab_neR N' hO g2 s2 (list_ob its n).1 (list_ob its n).2 p h
  · rcases List.mem_append.mp hp with h | h
    · exact tab_neR N' hI g1 s1 (it_ob x1 x2).1 (it_ob x1 x2).2 p h
    · exact tab_neR N' hI g2 s2 (it_ob x1 x2).1 (it_ob x1 x2).2 p h
end
end Mine
end
section
namespace Mine
open Builtin.Int (intBits)
def oddUp (ev : Nat → Int) (tn : List Int) : Nat → List Int
  | 0 => []
  | i + 1 => oddUp ev tn i ++ (if ev i % 2 = 1 then [tn.getD i 0] else [])
theorem oddUp_len (ev : Nat → Int) (tn : List Int) : ∀ i, (oddUp ev tn i).length ≤ i
  | 0 => Nat.le_refl _
  | i + 1 => by
    have := oddUp_len ev tn i
    rw [oddUp, List.length_append]
    split <;> simp <;> omega
def Tab44 (ts : List (Addr × Obj)) : Prop := Tab 44 40 4 (Str.ofString "_int2digits.<locals>.inner") 55 ts
def Tab51 (ts : List (Addr × Obj)) : Prop := Tab 51 55 4 (Str.ofString "_digits2int.<locals>.inner") 55 ts
def JOdd (O : Addr) (m₀ : Str → Option Value) (fg : List Str) (e1 e2 e3 e4 : Addr × Obj) (rst : List (Addr × Obj)) (ev : Nat → Int) (tn : List Int) (i : Nat) (m : Str → Option Value) (news : List (Addr × Obj)) : Prop :=
  ∃ (ov : List Value) (n : Nat) (u : Str → Option Value) (ts44 ts51 : List (Addr × Obj)), IntsAre ov (oddUp ev tn i) ∧ Tab44 ts44 ∧ Tab51 ts51 ∧ m = (fun y => if fg.contains y then u y else m₀ y) ∧
    news = (O, W.listOf ov.toArray n) :: e1 :: e2 :: e3 :: e4 :: (ts44 ++ (ts51 ++ rst))
section
variable {prog : Program} {w : World} {A : Around} {E : Value → Shared → Prop} {Q : Flow → Shared → Prop} {s : Shared} {env : Env} {h₀ : Heap} {x : Str} {body orelse : List Stmt}
theorem odd_loop {r O : Addr} {b₀ : Int} {t₀ u₀ v₀ : Tok} {n : Nat} {m₀ : Str → Option Value} {fg : List Str} {e1 e2 e3 e4 : Addr × Obj} {rst : List (Addr × Obj)} {ev : Nat → Int} {tn : List Int} {c : Nat}
    (hh : A.handled = none) (hr : IsRange s.heap r 0 b₀ 1 t₀ u₀ v₀) (hsmall : Builtin.Range.small 0 b₀ 1 = true) (hn : Builtin.Range.rangeSize 0 b₀ 1 = (n : Int)) (F : Fr h₀ env.locals s.heap m₀)
    (N : News h₀ env.locals s.heap ((O, W.listOf #[] c) :: e1 :: e2 :: e3 :: e4 :: ([(44, tabObj #[])] ++ ([(51, tabObj #[])] ++ rst))))
    (hG : ∀ p ∈ (O, W.listOf #[] c) :: e1 :: e2 :: e3 :: e4 :: rst, p.1 ≠ 44 ∧ p.1 ≠ 51) (hO : ∀ p ∈ e1 :: e2 :: e3 :: e4 :: rst, p.1 ≠ O)
    (turn : ∀ I i t ov nn (u : Str → Option Value) ts44 ts51 h tk, i < n → IntsAre ov (oddUp ev tn i) → Tab44 ts44 → Tab51 ts51 →
      (∀ it, ∀ p ∈ (I, it) :: (O, W.listOf ov.toArray nn) :: e1 :: e2 :: e3 :: e4 :: rst, p.1 ≠ 44 ∧ p.1 ≠ 51) → (∀ it, ∀ p ∈ (I, it) :: e1 :: e2 :: e3 :: e4 :: rst, p.1 ≠ O) → (∀ p ∈ e1 :: e2 :: e3 :: e4 :: rst, p.1 ≠ I) →
      Fr h₀ env.locals h (fun y => if y = x then some (.int (i : Int) t) else if fg.contains y then u y else m₀ y) →
      News h₀ env.locals h ((I, itR ((i + 1 : Nat) : Int) ((n : Int) - ((i + 1 : Nat) : Int))) :: (O, W.listOf ov.toArray nn) :: e1 :: e2 :: e3 :: e4 :: (ts44 ++ (ts51 ++ rst))) →
      wpAny (model prog w) A (execs body env) (EPost h₀ env.locals { s with heap := h, toks := tk } I (itR ((i + 1 : Nat) : Int) ((n : Int) - ((i + 1 : Nat) : Int))) (JOdd O m₀ fg e1 e2 e3 e4 rst ev tn (i + 1)) Q) E { s with heap := h, toks := tk })
    (done : ∀ ov nn (u : Str → Option Value) ts44 ts51 h tk, IntsAre ov (oddUp ev tn n) → Tab44 ts44 → Tab51 ts51 → Fr h₀ env.locals h (fun y => if fg.contains y then u y else m₀ y) →
      News h₀ env.locals h ((O, W.listOf ov.toArray nn) :: e1 :: e2 :: e3 :: e4 :: (ts44 ++ (ts51 ++ rst))) → wpAny (model prog w) A (execs orelse env) Q E { s with heap := h, toks := tk }) :
    wpAny (model prog w) A (pyIter (.ref r)) (fun it s₂ => LoopE prog w A h₀ env x body orelse Q E it s₂) E s := by
  refine iter_E (JOdd O m₀ fg e1 e2 e3 e4 rst ev tn) hh hr hsmall hn F N ⟨[], c, m₀, _, _, .nil, .inl rfl, .inl rfl, by funext y; simp, rfl⟩ ?_ ?_
  · rintro I i t m₁ news₁ h tk hlt hi hne ⟨ov, nn, u, ts44, ts51, h1, h2, h3, rfl, rfl⟩ F₁ N₁
    have l44 : @LT.lt Nat _ 44 I := hlt (44, tabObj #[]) (by simp)
    have l51 : @LT.lt Nat _ 51 I := hlt (51, tabObj #[]) (by simp)
    have lO : @LT.lt Nat _ O I := hlt (O, W.listOf #[] c) (.head _)
    have lr : ∀ p ∈ e1 :: e2 :: e3 :: e4 :: rst, @LT.lt Nat _ p.1 I := fun p hp => hlt p (by
      simp only [List.mem_append, List.mem_cons] at hp ⊢
      rcases hp with h | h | h | h | h <;> simp [h])
    refine turn I i t ov nn u ts44 ts51 h tk hi h1 h2 h3 (fun it p hp => ?_) (fun it p hp => ?_) (fun p hp => Nat.ne_of_lt (lr p hp)) F₁ N₁
    · rcases List.mem_cons.mp hp with rfl | hp
      · exact ⟨Ne.symm (Nat.ne_of_lt l44), Ne.symm (Nat.ne_of_lt l51)⟩
      rcases List.mem_cons.mp hp with rfl | hp
      · exact hG (O, W.listOf #[] c) (.head _)
      · exact hG p (.tail _ hp)
    · rcases List.mem_cons.mp hp with rfl | hp
      · exact Ne.symm (Nat.ne_of_lt lO)
      · exact hO p hp
  · rintro m₁ news₁ h tk ⟨ov, nn, u, ts44, ts51, h1, h2, h3, rfl, rfl⟩ F₁ N₁
    exact done ov nn u ts44 ts51 h tk h1 h2 h3 F₁ N₁
theorem EPost.odd {L I O : Addr} {m₀ m' : Str → Option Value} {fg : List Str} {e1 e2 e3 e4 : Addr × Obj} {rst ts44 ts51 : List (Addr × Obj)} {ev : Nat → Int} {tn : List Int} {i nn : Nat} {ov : List Value} {od : List Int} {x1 x2 : Int} {h' : Heap} {tk : Nat}
    (F : Fr h₀ L h' m') (N : News h₀ L h' ((O, W.listOf ov.toArray nn) :: (I, itR x1 x2) :: e1 :: e2 :: e3 :: e4 :: (ts44 ++ (ts51 ++ rst)))) (hi : IntsAre ov od) (hod : od = oddUp ev tn i) (g1 : Tab44 ts44) (g2 : Tab51 ts51)
    (hz : ∀ z, fg.contains z = false → m' z = m₀ z) (hIO : O ≠ I) (hI : ∀ p ∈ e1 :: e2 :: e3 :: e4 :: rst, p.1 ≠ I) (hT : ∀ p ∈ ts44 ++ ts51, p.1 ≠ I) :
    EPost h₀ L s I (itR x1 x2) (JOdd O m₀ fg e1 e2 e3 e4 rst ev tn i) Q .next { s with heap := h', toks := tk } := by
  refine ⟨h', tk, m', (O, W.listOf ov.toArray nn) :: e1 :: e2 :: e3 :: e4 :: (ts44 ++ (ts51 ++ rst)), rfl, F, cb_drop N fun p hp => ?_, fun p hp => ?_, ov, nn, m', ts44, ts51, hod ▸ hi, g1, g2, ?_, rfl⟩
  · simp only [List.mem_append, List.mem_cons] at hp ⊢
    rcases hp with h | h | h | h | h | h | h | h | h <;> simp [h]
  · have hp' : p = (O, W.listOf ov.toArray nn) ∨ p ∈ e1 :: e2 :: e3 :: e4 :: rst ∨ p ∈ ts44 ++ ts51 := by
      simp only [List.mem_append, List.mem_cons] at hp ⊢
      rcases hp with h | h | h | h | h | h | h | h <;> simp [h]
    rcases hp' with rfl | h | h
    · exact hIO
    · exact hI p h
    · exact hT p h
  · funext y
    cases h2 : fg.contains y with
    | true => simp
    | false => simp only [Bool.false_eq_true, if_false]; exact hz y h2
end
def mnr (tb : List Int) (i : Nat) : Int :=
  tb.getD (((i : Int).fdiv 3 + 1).fmod 3 * 3 + ((i : Int) + 1).fmod 3).toNat 0 * tb.getD (((i : Int).fdiv 3 + 2).fmod 3 * 3 + ((i : Int) + 2).fmod 3).toNat 0 -
    tb.getD (((i : Int).fdiv 3 + 1).fmod 3 * 3 + ((i : Int) + 2).fmod 3).toNat 0 * tb.getD (((i : Int).fdiv 3 + 2).fmod 3 * 3 + ((i : Int) + 1).fmod 3).toNat 0
def shareT (tb : List Int) (i : Nat) : Int := tb.getD (i : Int).toNat 0 * (if mnr tb i < 0 then -mnr tb i else mnr tb i)
theorem mnr_bits {tb : List Int} (h : ∀ y ∈ tb, intBits y ≤ 4097) (i : Nat) : intBits (mnr tb i) ≤ 8195 := by
  have := fun j => bits_getD h j
  exact Nat.le_trans (intBits_sub_le (intBits_mul_le (this _) (this _)) (intBits_mul_le (this _) (this _))) (by omega)
theorem share_bits {tb : List Int} (h : ∀ y ∈ tb, intBits y ≤ 4097) (i : Nat) : intBits (shareT tb i) ≤ 12400 := by
  have h1 := mnr_bits h i
  exact Nat.le_trans (intBits_mul_le (bits_getD h _) (intBits_ite_le (intBits_neg_le h1) h1)) (by omega)
section
variable {prog : Program} {w : World} {A : Around} {E : Value → Shared → Prop} {s : Shared} {a b : Int} {t u : Tok} {Q : Value → Shared → Prop}
theorem mul_gen {m n : Nat} (ha : intBits a ≤ m) (hb : intBits b ≤ n) (hmn : m + n ≤ 134217728) (h : ∀ sh, sh = a * b → Q (.int sh s.toks) { s with toks := s.toks + 1 }) : wpAny (model prog w) A (binaryOp .Mult (.int a t) (.int b u)) Q E s :=
  mul_int (h _ rfl) (IntMulOk.of_le ha hb hmn)
end
theorem bits_fac {e u sh : Int} {m : Nat} (he : sh = e * u) (hu : 0 < u) (hs : intBits sh ≤ m) : intBits e ≤ m := by
  refine intBits_le_of_natAbs ?_ hs
  rw [he, Int.natAbs_mul]
  have h1 : 1 ≤ u.natAbs := by omega
  have := Nat.mul_le_mul_left e.natAbs h1
  omega
theorem fm2 (e : Int) : e.fmod 2 = e % 2 := Int.fmod_eq_emod_of_nonneg _ (by decide)
theorem odd_on' {ev : Nat → Int} {tn : List Int} {i : Nat} (h : (ev i).fmod 2 = 1) : oddUp ev tn i ++ [tn.getD (i : Int).toNat 0] = oddUp ev tn (i + 1) := by rw [oddUp, if_pos (by rw [← fm2]; exact h)]; rfl
theorem odd_off' {ev : Nat → Int} {tn : List Int} {i : Nat} (h : (ev i).fmod 2 ≠ 1) : oddUp ev tn i = oddUp ev tn (i + 1) := by rw [oddUp, if_neg (by rw [← fm2]; exact h), List.append_nil]
theorem odd_on {ev : Nat → Int} {tn : List Int} {i : Nat} (h : ev i % 2 = 1) : oddUp ev tn i ++ [tn.getD i 0] = oddUp ev tn (i + 1) := by rw [oddUp, if_pos h]
theorem odd_off {ev : Nat → Int} {tn : List Int} {i : Nat} (h : ¬ ev i % 2 = 1) : oddUp ev tn i = oddUp ev tn (i + 1) := by rw [oddUp, if_neg h, List.append_nil]
end Mine
end
section
namespace Mine
open Builtin.Int (intBits)
theorem ints3 {vs : List Value} {a b c : Int} (h : IntsAre vs [a, b, c]) : ∃ t0 t1 t2, vs = [.int a t0, .int b t1, .int c t2] := by
  cases h with | cons _ t0 h => cases h with | cons _ t1 h => cases h with | cons _ t2 h => cases h with | nil => exact ⟨_, _, _, rfl⟩
theorem pf_b {f g : Int} (hf : 0 ≤ f) (hf1 : f < 8192) (hg : 0 ≤ g) (hg1 : g < 8192) : 0 ≤ (if 0 > f then 0 else f) + (if 0 > g then 0 else g) * 2 ^ Int.toNat 21 ∧ (if 0 > f then 0 else f) + (if 0 > g then 0 else g) * 2 ^ Int.toNat 21 < 2 ^ 60 := by
  have e : (2 : Int) ^ Int.toNat 21 = 2097152 := by decide
  have e2 : (2 : Int) ^ 60 = 1152921504606846976 := by decide
  rw [e, e2, if_neg (by omega), if_neg (by omega)]
  omega
theorem pf_b0 {f g : Int} (hf : f = -1) (hg : g = -1) : (if 0 > f then 0 else f) + (if 0 > g then 0 else g) * 2 ^ Int.toNat 21 = 0 := by
  subst hf hg; rfl
theorem pf_0 : pfW PFT 0 = [Str.ofString "0x0"] := by decide +kernel
theorem srt_nil : srt [] = [] := by simp [srt]
theorem srt_len (l : List Int) : (srt l).length = l.length := by simp [srt]
section
variable {prog : Program} {w : World} {A : Around} {E : Value → Shared → Prop} {s : Shared} {h₀ : Heap} {L : Addr} {m : Str → Option Value} {news : List (Addr × Obj)} {Q : Value → Shared → Prop}
theorem RowsAre.nils {n1 n2 : List (Addr × Obj)} {vs : List Value} {rs : List (List Int)} {a : Addr} {c : Nat} (h : RowsAre n1 vs rs) (hs : ∀ p ∈ n1, p ∈ n2) (hm : (a, W.listOf (List.toArray []) c) ∈ n2) : RowsAre n2 (vs ++ [.ref a]) (rs ++ [[]]) := (h.mono hs).snoc hm .nil
theorem r_strlit {a n : Int} {x : Str} {t : Tok} (e : a = n) (hn : n.natAbs.log2 < 1920) (hx : (toString n : Str) = x) (h : Q (.str x s.toks) { s with toks := s.toks + 1 }) : wpAny (model prog w) A (call (.type "str") [.int a t]) Q E s := by
  subst e
  exact P.str_of_int hn (hx ▸ h)
theorem RowsAre.nostr {n1 : List (Addr × Obj)} {x : Str} {t : Tok} {r : List Value} : ∀ {rs : List (List Int)}, RowsAre n1 (.str x t :: r) rs → False
  | [], h => h
  | _ :: _, ⟨⟨_, _, _, e, _⟩, _⟩ => by cases e
theorem r_append2 {D R : Addr} {ys vs : List Value} {v : Value} {c c2 : Nat} {rst : List (Addr × Obj)} (F : Fr h₀ L s.heap m) (N : News h₀ L s.heap news) (hD : (D, W.listOf (List.toArray ys) c) ∈ news) (hR : (R, W.listOf (List.toArray vs) c2) ∈ news) (hne : vs ≠ ys) (hz : ys.length ≤ 1000)
    (hsub : ∀ p ∈ rst, p ∈ news) (hoff : ∀ p ∈ rst, p.1 ≠ D)
    (h : ∀ h', Fr h₀ L h' m → News h₀ L h' ((D, W.listOf (List.toArray (ys ++ [v])) (c + 1)) :: (R, W.listOf (List.toArray vs) c2) :: rst) → Q .none { s with heap := h' }) : wpAny (model prog w) A (call (.builtin "list.append") [.ref D, v]) Q E s := by
  have nD := N _ hD
  have nR := N _ hR
  have hne : R ≠ D := by
    rintro rfl
    have e := nD.1.symm.trans nR.1
    have e2 : W.listOf (List.toArray ys) c = W.listOf (List.toArray vs) c2 := Option.some.inj e
    simp only [W.listOf, Obj.mk.injEq, Data.seq.injEq, true_and, and_true] at e2
    exact hne (by simpa using e2.1.symm)
  refine append_at nD.1 (fun h' hs hD' => ?_) (hsz := by rw [sizeLine_eq]; simp; omega)
  refine h h' (F.change hs nD.2.1 nD.2.2) fun p hp => ?_
  rcases List.mem_cons.mp hp with rfl | hp
  · exact ⟨by rw [hD', List.push_toArray], nD.2⟩
  rcases List.mem_cons.mp hp with rfl | hp
  · exact ⟨(hs.2 R hne).trans nR.1, nR.2⟩
  · have np := N p (hsub p hp)
    exact ⟨(hs.2 p.1 (hoff p hp)).trans np.1, np.2⟩
end
end Mine
end
section
namespace Mine
open Builtin.Int (intBits)
theorem and_odd {K : Nat} (h : K % 2 = 1) : K &&& (K - 1) = K - 1 := by
  have h1 : (K &&& (K - 1)) / 2 = (K - 1) / 2 := by
    rw [Nat.and_div_two, show (K - 1) / 2 = K / 2 by omega, Nat.and_self]
  have h2 : ¬ (K &&& (K - 1)) % 2 = 1 := by
    rw [Nat.and_mod_two_eq_one]; omega
  omega
theorem and_pred {K : Nat} (h : K % 2 = 1) : ∀ m : Nat, (2 ^ m * K) &&& (2 ^ m * K - 1) = 2 ^ m * (K - 1)
  | 0 => by simpa using and_odd h
  | m + 1 => by
    have ih := and_pred h m
    have e : 2 ^ (m + 1) * K = 2 * (2 ^ m * K) := by rw [Nat.pow_succ]; rw [Nat.mul_comm (2 ^ m) 2, Nat.mul_assoc]
    have e2 : 2 ^ (m + 1) * (K - 1) = 2 * (2 ^ m * (K - 1)) := by rw [Nat.pow_succ]; rw [Nat.mul_comm (2 ^ m) 2, Nat.mul_assoc]
    have hpos : 0 < 2 ^ m * K := Nat.mul_pos (Nat.two_pow_pos m) (by omega)
    rw [e, e2]
    generalize 2 ^ m * K = N at *
    have h1 : (2 * N &&& (2 * N - 1)) / 2 = N &&& (N - 1) := by
      rw [Nat.and_div_two, show 2 * N / 2 = N by omega, show (2 * N - 1) / 2 = N - 1 by omega]
    have h2 : ¬ (2 * N &&& (2 * N - 1)) % 2 = 1 := by
      rw [Nat.and_mod_two_eq_one]; omega
    omega
theorem and_pos {n : Int} (h : 0 < n) : Builtin.bitAnd n (n - 1) = ((n.toNat &&& (n.toNat - 1) : Nat) : Int) := by
  unfold Builtin.bitAnd
  simp only [show (0 : Int) ≤ n by omega, show (0 : Int) ≤ n - 1 by omega, decide_true]
  rw [show (n - 1).toNat = n.toNat - 1 by omega]
theorem low_abs (Z : Int) (hZ : Z ≠ 0) : Builtin.bitAnd Z (-Z) = ((Z.natAbs - (Z.natAbs &&& (Z.natAbs - 1)) : Nat) : Int) := by
  have e := Int.natAbs_eq Z
  have h0 : 0 < Z.natAbs := Int.natAbs_pos.mpr hZ
  generalize Z.natAbs = n at e h0 ⊢
  have hle : n &&& (n - 1) ≤ n := Nat.and_le_left
  have tn : ((n : Int) - 1).toNat = n - 1 := by clear e hle hZ; omega
  have hp : ¬ (0 : Int) ≤ -(n : Int) := by clear e hle tn hZ; omega
  have hq : (0 : Int) ≤ (n : Int) := Int.natCast_nonneg _
  clear hZ
  rcases e with rfl | rfl
  · unfold Builtin.bitAnd
    simp only [hp, hq, decide_true, decide_false]
    unfold Builtin.bitNot
    rw [Int.toNat_natCast, Int.neg_neg, tn]
    exact (Int.ofNat_sub hle).symm
  · unfold Builtin.bitAnd
    simp only [hp, hq, decide_true, decide_false, Int.neg_neg]
    unfold Builtin.bitNot
    rw [Int.toNat_natCast, Int.neg_neg, tn]
    exact (Int.ofNat_sub hle).symm
theorem pow_cast (m : Nat) : ((2 : Int) ^ m) = ((2 ^ m : Nat) : Int) := by simp
theorem low_bit {Z K : Int} {m : Nat} (h : Z = 2 ^ m * K) (hK : K % 2 = 1) : Builtin.bitAnd Z (-Z) = 2 ^ m := by
  have hp := pow2_pos m
  have hK0 : K ≠ 0 := by omega
  have hZ : Z ≠ 0 := by rw [h]; exact Int.mul_ne_zero (by omega) hK0
  have ha : Z.natAbs = 2 ^ m * K.natAbs := by
    rw [h, Int.natAbs_mul, pow_cast, Int.natAbs_natCast]
  rw [low_abs Z hZ, ha, and_pred (show K.natAbs % 2 = 1 by omega) m, ← Nat.mul_sub, pow_cast]
  congr 1
  rw [show K.natAbs - (K.natAbs - 1) = 1 by omega, Nat.mul_one]
theorem isb_pos {n K : Int} {m : Nat} (h : n = 2 ^ m * K) (hK : K % 2 = 1) (hK0 : 0 < K) : (if n = 0 then false else (Builtin.bitAnd n (n - 1) == 0)) = decide (K = 1) := by
  have hp := pow2_pos m
  have hn : 0 < n := by rw [h]; exact Int.mul_pos hp hK0
  rw [if_neg (by omega), and_pos hn]
  have ha : n.toNat = 2 ^ m * K.toNat := by
    have : ((n.toNat : Nat) : Int) = ((2 ^ m * K.toNat : Nat) : Int) := by
      rw [Int.toNat_of_nonneg (by omega), h, Int.natCast_mul, Int.toNat_of_nonneg (by omega), pow_cast]
    exact_mod_cast this
  rw [ha, and_pred (show K.toNat % 2 = 1 by omega) m]
  have hpn := Nat.two_pow_pos m
  rw [Bool.eq_iff_iff, beq_iff_eq, decide_eq_true_iff]
  constructor
  · intro h2
    have h3 : 2 ^ m * (K.toNat - 1) = 0 := by exact_mod_cast h2
    rcases Nat.mul_eq_zero.mp h3 with h4 | h4 <;> omega
  · rintro rfl; simp
theorem isb_neg {n : Int} (h : 0 ≤ n) : (if -n = 0 then false else (Builtin.bitAnd (-n) (-n - 1) == 0)) = false := by
  by_cases h0 : n = 0
  · subst h0; rfl
  · rw [if_neg (by omega)]
    unfold Builtin.bitAnd
    simp only [show ¬ (0 : Int) ≤ -n by omega, show ¬ (0 : Int) ≤ -n - 1 by omega, decide_false]
    unfold Builtin.bitNot
    rw [beq_eq_false_iff_ne]
    omega
theorem bits_neg (n : Int) : intBits (-n) = intBits n := by
  unfold Builtin.Int.intBits
  rw [Int.natAbs_neg]
  by_cases h : n = 0
  · subst h; rfl
  · rw [if_neg (by simpa using h), if_neg (by simpa using h)]
theorem bits_pow (m : Nat) : intBits ((2 : Int) ^ m) = m + 1 := by
  refine bits_eq (Int.le_refl _) ?_
  rw [Int.pow_succ]; have := pow2_pos m; omega
theorem bits_pow_pred {m : Nat} (h : 1 ≤ m) : intBits ((2 : Int) ^ m - 1) = m := by
  obtain ⟨k, rfl⟩ : ∃ k, m = k + 1 := ⟨m - 1, by omega⟩
  have hp := pow2_pos k
  refine bits_eq ?_ (by omega)
  rw [Int.pow_succ]; omega
end Mine
end
section
namespace Mine
open Builtin.Int (intBits)
def esum : List Int → Nat
  | [] => 0
  | t :: l => 2 ^ t.toNat + esum l
theorem esum_perm {l l' : List Int} (h : l.Perm l') : esum l = esum l' := by
  induction h with
  | nil => rfl
  | cons x _ ih => simp [esum, ih]
  | swap x y l => simp only [esum]; omega
  | trans _ _ h1 h2 => rw [h1, h2]
def Desc (l : List Int) : Prop := List.Pairwise (fun a b => a > b) l ∧ ∀ t ∈ l, 0 ≤ t
theorem Desc.tail {a : Int} {l : List Int} (h : Desc (a :: l)) : Desc l := ⟨(List.pairwise_cons.mp h.1).2, fun t ht => h.2 t (.tail _ ht)⟩
theorem Desc.head {a : Int} {l : List Int} (h : Desc (a :: l)) : 0 ≤ a ∧ ∀ t ∈ l, t < a := ⟨h.2 a (.head _), fun t ht => (List.pairwise_cons.mp h.1).1 t ht⟩
theorem esum_lt : ∀ {l : List Int} {k : Int}, Desc l → 0 ≤ k → (∀ t ∈ l, t < k) → esum l < 2 ^ k.toNat
  | [], k, _, _, _ => Nat.two_pow_pos _
  | a :: l, k, h, hk, hl => by
    have h1 := h.head
    have h2 := esum_lt h.tail h1.1 h1.2
    have h3 := hl a (.head _)
    have h4 : 2 ^ (a.toNat + 1) ≤ 2 ^ k.toNat := Nat.pow_le_pow_right (by decide) (by omega)
    rw [Nat.pow_succ] at h4
    simp only [esum]
    omega
theorem esum_ge {a : Int} {l : List Int} : 2 ^ a.toNat ≤ esum (a :: l) := Nat.le_add_right _ _
theorem esum_step {a b : Int} {l t : List Int} (h : Desc (a :: l)) (h' : Desc (b :: t)) (hab : a < b) : esum (a :: l) < esum (b :: t) := by
  refine Nat.lt_of_lt_of_le (esum_lt h h'.head.1 (fun x hx => ?_)) esum_ge
  rcases List.mem_cons.mp hx with rfl | hx
  · exact hab
  · have := h.head.2 x hx; omega
theorem lexGt_esum : ∀ {l l' : List Int}, Desc l → Desc l' → lexGt l l' = decide (esum l > esum l')
  | [], l', _, _ => by simp [lexGt, esum]
  | a :: l, [], _, _ => by
    have := Nat.two_pow_pos a.toNat
    simp [lexGt, esum]; omega
  | a :: l, b :: t, h, h' => by
    rw [lexGt]
    by_cases e : a = b
    · rw [if_pos e, lexGt_esum h.tail h'.tail]
      subst e
      simp [esum]
    · rw [if_neg e]
      by_cases hab : a < b
      · have := esum_step h h' hab
        rw [decide_eq_false (by omega), decide_eq_false (by omega)]
      · have := esum_step h' h (show b < a by omega)
        rw [decide_eq_true (by omega), decide_eq_true (by omega)]
theorem esum_inj : ∀ {l l' : List Int}, Desc l → Desc l' → esum l = esum l' → l = l'
  | [], [], _, _, _ => rfl
  | [], b :: t, _, _, e => by have := Nat.two_pow_pos b.toNat; exfalso; simp only [esum] at e; omega
  | a :: l, [], _, _, e => by have := Nat.two_pow_pos a.toNat; exfalso; simp only [esum] at e; omega
  | a :: l, b :: t, h, h', e => by
    have hab : a = b := by
      rcases Int.lt_trichotomy a b with h1 | h1 | h1
      · have := esum_step h h' h1; omega
      · exact h1
      · have := esum_step h' h h1; omega
    subst hab
    simp only [esum] at e
    rw [esum_inj h.tail h'.tail (by omega)]
def drow (a b c : Int) : List Int := (srt [a, b, c]).reverse
theorem srt_perm (l : List Int) : (srt l).Perm l := List.mergeSort_perm l _
theorem srt_sorted (l : List Int) : List.Pairwise (fun a b => a ≤ b) (srt l) := by
  have h1 : List.Pairwise (fun a b : Int => decide (a ≤ b) = true) (srt l) := List.pairwise_mergeSort (by intro a b c; simp; omega) (by intro a b; simp; omega) l
  exact h1.imp (by simp)
def Tri (a b c : Int) : Prop := (0 ≤ a ∧ a ≤ 12) ∧ (0 ≤ b ∧ b ≤ 12) ∧ (0 ≤ c ∧ c ≤ 12) ∧ a ≠ b ∧ a ≠ c ∧ b ≠ c
theorem Tri.srt {a b c : Int} (h : Tri a b c) : ∃ s0 s1 s2, srt [a, b, c] = [s0, s1, s2] ∧ 0 ≤ s0 ∧ s0 < s1 ∧ s1 < s2 ∧ s2 ≤ 12 := by
  have hp := srt_perm [a, b, c]
  have hs := srt_sorted [a, b, c]
  have hl := hp.length_eq
  have hn : (Mine.srt [a, b, c]).Nodup := hp.nodup_iff.mpr (by obtain ⟨_, _, _, h1, h2, h3⟩ := h; simp [h1, h2, h3])
  have hb : ∀ t ∈ Mine.srt [a, b, c], 0 ≤ t ∧ t ≤ 12 := fun t ht => by
    have := hp.mem_iff.mp ht
    obtain ⟨h1, h2, h3, _⟩ := h
    simp only [List.mem_cons, List.not_mem_nil, or_false] at this
    rcases this with rfl | rfl | rfl <;> assumption
  match e : Mine.srt [a, b, c], hl with
  | [s0, s1, s2], _ =>
    rw [e] at hs hn hb
    simp only [List.pairwise_cons, List.mem_cons, List.not_mem_nil, or_false, forall_eq_or_imp, forall_eq] at hs
    simp only [List.nodup_cons, List.mem_cons, List.not_mem_nil, or_false, not_or] at hn
    have b0 := hb s0 (by simp)
    have b2 := hb s2 (by simp)
    exact ⟨s0, s1, s2, rfl, b0.1, by omega, by omega, b2.2⟩
theorem Tri.drow {a b c : Int} (h : Tri a b c) : ∃ s0 s1 s2, Mine.srt [a, b, c] = [s0, s1, s2] ∧ Mine.drow a b c = [s2, s1, s0] ∧ 0 ≤ s0 ∧ s0 < s1 ∧ s1 < s2 ∧ s2 ≤ 12 := by
  obtain ⟨s0, s1, s2, e, h⟩ := h.srt
  exact ⟨s0, s1, s2, e, by rw [Mine.drow, e]; rfl, h⟩
theorem Tri.desc {a b c : Int} (h : Tri a b c) : Desc (Mine.drow a b c) := by
  obtain ⟨s0, s1, s2, _, e, h0, h1, h2, h3⟩ := h.drow
  rw [e]
  refine ⟨?_, fun t ht => ?_⟩
  · simp only [List.pairwise_cons, List.mem_cons, List.not_mem_nil, or_false, forall_eq_or_imp, forall_eq, false_imp_iff, implies_true, List.Pairwise.nil, and_true]
    omega
  · simp only [List.mem_cons, List.not_mem_nil, or_false] at ht
    rcases ht with rfl | rfl | rfl <;> omega
theorem drow_esum (a b c : Int) : esum (drow a b c) = 2 ^ a.toNat + (2 ^ b.toNat + 2 ^ c.toNat) := by
  rw [drow, esum_perm ((List.reverse_perm _).trans (srt_perm _))]
  simp [esum]
theorem Tri.bnd {a b c : Int} (h : Tri a b c) : 7 ≤ esum (Mine.drow a b c) ∧ esum (Mine.drow a b c) ≤ 7168 := by
  obtain ⟨s0, s1, s2, _, e, h0, h1, h2, h3⟩ := h.drow
  rw [e]
  have a1 : 2 ^ 2 ≤ 2 ^ s2.toNat := Nat.pow_le_pow_right (by decide) (by omega)
  have a2 : 2 ^ 1 ≤ 2 ^ s1.toNat := Nat.pow_le_pow_right (by decide) (by omega)
  have a3 : 2 ^ 0 ≤ 2 ^ s0.toNat := Nat.pow_le_pow_right (by decide) (by omega)
  have b1 : 2 ^ s2.toNat ≤ 2 ^ 12 := Nat.pow_le_pow_right (by decide) (by omega)
  have b2 : 2 ^ s1.toNat ≤ 2 ^ 11 := Nat.pow_le_pow_right (by decide) (by omega)
  have b3 : 2 ^ s0.toNat ≤ 2 ^ 10 := Nat.pow_le_pow_right (by decide) (by omega)
  simp only [esum]
  omega
theorem Tri.mem {a b c a' b' c' : Int} (h : Tri a b c) (h' : Tri a' b' c') (e : esum (Mine.drow a b c) = esum (Mine.drow a' b' c')) : ∀ t, t ∈ [a, b, c] ↔ t ∈ [a', b', c'] := by
  have e2 : Mine.srt [a, b, c] = Mine.srt [a', b', c'] := by
    have := esum_inj h.desc h'.desc e
    rw [Mine.drow, Mine.drow] at this
    simpa using this
  intro t
  rw [← (srt_perm [a, b, c]).mem_iff, e2, (srt_perm [a', b', c']).mem_iff]
theorem w_val {a b c ya yb yc : Int} (oa : ya = 0 ∨ ya = 2 ^ (2 ^ a.toNat : Int).toNat) (ob : yb = 0 ∨ yb = 2 ^ (2 ^ b.toNat : Int).toNat) (oc : yc = 0 ∨ yc = 2 ^ (2 ^ c.toNat : Int).toNat) : ya * yb * yc = 0 ∨ ya * yb * yc = 2 ^ esum (drow a b c) := by
  rw [toNat_pow] at oa ob oc
  rcases oa with rfl | rfl
  · left; simp
  rcases ob with rfl | rfl
  · left; simp
  rcases oc with rfl | rfl
  · left; simp
  right
  rw [drow_esum, ← Int.pow_add, ← Int.pow_add, Nat.add_assoc]
end Mine
end
section
namespace Mine
open Builtin.Int (intBits)
theorem sum6 {a b c d e f : Int} (h : a % 2 + b % 2 + c % 2 + d % 2 + e % 2 + f % 2 = 1) : (a + b + c - d - e - f) % 2 = 1 ∧ (a + b + c + d + e + f) % 2 = 1 := by omega
theorem pos6 {s : Int} (h : 0 ≤ s) (h1 : s % 2 = 1) : 0 < s := by omega
theorem exmin (p : Nat → Prop) [DecidablePred p] (E : Nat → Nat) : ∀ k, (∃ i, i < k ∧ p i) → ∃ n, n < k ∧ p n ∧ ∀ i, i < k → p i → E n ≤ E i
  | 0, ⟨i, h, _⟩ => absurd h (Nat.not_lt_zero _)
  | k + 1, ⟨i, h, hp⟩ => by
    by_cases hk : ∃ i, i < k ∧ p i
    · obtain ⟨n, hn, hpn, hm⟩ := exmin p E k hk
      by_cases hpk : p k ∧ E k < E n
      · refine ⟨k, by omega, hpk.1, fun j hj hpj => ?_⟩
        by_cases hjk : j = k
        · subst hjk; exact Nat.le_refl _
        · have := hm j (by omega) hpj; omega
      · refine ⟨n, by omega, hpn, fun j hj hpj => ?_⟩
        by_cases hjk : j = k
        · subst hjk; have : ¬ E j < E n := fun h => hpk ⟨hpj, h⟩; omega
        · exact hm j (by omega) hpj
    · have hik : i = k := by
        refine Nat.le_antisymm (by omega) (Nat.le_of_not_lt fun h => hk ⟨i, h, hp⟩)
      subst hik
      refine ⟨i, by omega, hp, fun j hj hpj => ?_⟩
      by_cases hji : j = i
      · subst hji; exact Nat.le_refl _
      · exact absurd ⟨j, by omega, hpj⟩ hk
theorem exmax (p : Nat → Prop) [DecidablePred p] (E : Nat → Nat) : ∀ k, (∃ i, i < k ∧ p i) → ∃ n, n < k ∧ p n ∧ ∀ i, i < k → p i → E i ≤ E n
  | 0, ⟨i, h, _⟩ => absurd h (Nat.not_lt_zero _)
  | k + 1, ⟨i, h, hp⟩ => by
    by_cases hk : ∃ i, i < k ∧ p i
    · obtain ⟨n, hn, hpn, hm⟩ := exmax p E k hk
      by_cases hpk : p k ∧ E n < E k
      · refine ⟨k, by omega, hpk.1, fun j hj hpj => ?_⟩
        by_cases hjk : j = k
        · subst hjk; exact Nat.le_refl _
        · have := hm j (by omega) hpj; omega
      · refine ⟨n, by omega, hpn, fun j hj hpj => ?_⟩
        by_cases hjk : j = k
        · subst hjk; have : ¬ E n < E j := fun h => hpk ⟨hpj, h⟩; omega
        · exact hm j (by omega) hpj
    · have hik : i = k := by
        refine Nat.le_antisymm (by omega) (Nat.le_of_not_lt fun h => hk ⟨i, h, hp⟩)
      subst hik
      refine ⟨i, by omega, hp, fun j hj hpj => ?_⟩
      by_cases hji : j = i
      · subst hji; exact Nat.le_refl _
      · exact absurd ⟨j, by omega, hpj⟩ hk
def psum : List Nat → Nat
  | [] => 0
  | e :: l => 2 ^ e + psum l
theorem psum_perm {l l' : List Nat} (h : l.Perm l') : psum l = psum l' := by
  induction h with
  | nil => rfl
  | cons x _ ih => simp [psum, ih]
  | swap x y l => simp only [psum]; omega
  | trans _ _ h1 h2 => rw [h1, h2]
theorem psum_lt : ∀ (k : Nat) (l : List Nat), l.Nodup → (∀ e ∈ l, e < k) → psum l < 2 ^ k
  | 0, l, _, h => by
    cases l with
    | nil => decide
    | cons a r => exact absurd (h a (.head _)) (Nat.not_lt_zero _)
  | k + 1, l, hn, h => by
    rw [Nat.pow_succ]
    by_cases hk : k ∈ l
    · have hp := List.perm_cons_erase hk
      have hn2 := hp.nodup_iff.mp hn
      have hlt := psum_lt k (l.erase k) (List.nodup_cons.mp hn2).2 fun e he => by
        have h1 := h e (List.mem_of_mem_erase he)
        have h2 : e ≠ k := fun e2 => (List.nodup_cons.mp hn2).1 (e2 ▸ he)
        omega
      rw [psum_perm hp]
      simp only [psum]
      omega
    · have hlt := psum_lt k l hn fun e he => by
        have h1 := h e he
        have h2 : e ≠ k := fun e2 => hk (e2 ▸ he)
        omega
      have := Nat.two_pow_pos k
      omega
def psel : List (Int × Nat) → List Nat
  | [] => []
  | p :: l => if p.1 = 0 then psel l else p.2 :: psel l
def isum : List (Int × Nat) → Int
  | [] => 0
  | p :: l => p.1 + isum l
theorem psel_mem {e : Nat} : ∀ {l : List (Int × Nat)}, e ∈ psel l → ∃ p ∈ l, p.1 ≠ 0 ∧ p.2 = e
  | p :: l, h => by
    rw [psel] at h
    by_cases h0 : p.1 = 0
    · rw [if_pos h0] at h
      obtain ⟨q, hq, h1⟩ := psel_mem h
      exact ⟨q, .tail _ hq, h1⟩
    · rw [if_neg h0] at h
      rcases List.mem_cons.mp h with rfl | h
      · exact ⟨p, .head _, h0, rfl⟩
      · obtain ⟨q, hq, h1⟩ := psel_mem h
        exact ⟨q, .tail _ hq, h1⟩
theorem psel_nodup : ∀ {l : List (Int × Nat)}, List.Pairwise (fun p q => p.1 ≠ 0 → q.1 ≠ 0 → p.2 ≠ q.2) l → (psel l).Nodup
  | [], _ => List.nodup_nil
  | p :: l, h => by
    obtain ⟨h1, h2⟩ := List.pairwise_cons.mp h
    rw [psel]
    by_cases h0 : p.1 = 0
    · rw [if_pos h0]; exact psel_nodup h2
    · rw [if_neg h0]
      refine List.nodup_cons.mpr ⟨fun hm => ?_, psel_nodup h2⟩
      obtain ⟨q, hq, h3, h4⟩ := psel_mem hm
      exact h1 q hq h0 h3 h4.symm
theorem isum_psum : ∀ {l : List (Int × Nat)}, (∀ p ∈ l, p.1 = 0 ∨ p.1 = 2 ^ p.2) → isum l = ((psum (psel l) : Nat) : Int)
  | [], _ => rfl
  | p :: l, h => by
    have ih := isum_psum (l := l) fun q hq => h q (.tail _ hq)
    rw [isum, psel]
    by_cases h0 : p.1 = 0
    · rw [if_pos h0, h0, ih]; simp
    · rw [if_neg h0, psum, ih]
      rcases h p (.head _) with h1 | h1
      · exact absurd h1 h0
      · rw [h1, Int.natCast_add, pow_cast]
structure Six (w : Nat → Int) (E : Nat → Nat) : Prop where
  val : ∀ i, i < 6 → w i = 0 ∨ w i = 2 ^ E i
  apart : ∀ i j, i < 6 → j < 6 → i ≠ j → E i ≠ E j
  bnd : ∀ i, i < 6 → 7 ≤ E i ∧ E i ≤ 7168
def Zs (w : Nat → Int) : Int := w 0 + (w 1 + (w 2 + 0)) - (w 3 + (w 4 + (w 5 + 0)))
def WS (w : Nat → Int) : Int := w 0 + (w 1 + (w 2 + (w 3 + (w 4 + (w 5 + 0)))))
structure SixSome (w : Nat → Int) (E : Nat → Nat) (n0 n1 : Nat) (c : Nat → Int) : Prop where
  l0 : n0 < 6
  l1 : n1 < 6
  v0 : w n0 = 2 ^ E n0
  v1 : w n1 = 2 ^ E n1
  max : ∀ i, i < 6 → w i ≠ 0 → E i ≤ E n1
  fac : ∀ i, i < 6 → w i = 2 ^ E n0 * c i
  nn : ∀ i, i < 6 → 0 ≤ c i
  one : c n0 = 1
  even : ∀ i, i < 6 → i ≠ n0 → c i % 2 = 0
theorem Six.some {w : Nat → Int} {E : Nat → Nat} (S : Six w E) (h : ∃ i, i < 6 ∧ w i ≠ 0) : ∃ n0 n1 c, SixSome w E n0 n1 c := by
  obtain ⟨n0, l0, h0, m0⟩ := exmin (fun i => w i ≠ 0) E 6 h
  obtain ⟨n1, l1, h1, m1⟩ := exmax (fun i => w i ≠ 0) E 6 h
  have v0 : w n0 = 2 ^ E n0 := (S.val n0 l0).resolve_left h0
  have v1 : w n1 = 2 ^ E n1 := (S.val n1 l1).resolve_left h1
  refine ⟨n0, n1, fun i => if w i = 0 then 0 else 2 ^ (E i - E n0), l0, l1, v0, v1, m1, fun i hi => ?_, fun i hi => ?_, ?_, fun i hi hne => ?_⟩
  · by_cases hz : w i = 0
    · simp [hz]
    · simp only [if_neg hz]
      rw [(S.val i hi).resolve_left hz, ← Int.pow_add]
      have := m0 i hi hz
      congr 1; omega
  · by_cases hz : w i = 0
    · simp [hz]
    · simp only [if_neg hz]; exact Int.le_of_lt (pow2_pos _)
  · simp only [if_neg h0]; rw [Nat.sub_self]; rfl
  · by_cases hz : w i = 0
    · simp [hz]
    · simp only [if_neg hz]
      have h2 := m0 i hi hz
      have h3 := S.apart i n0 hi l0 hne
      obtain ⟨k, hk⟩ : ∃ k, E i - E n0 = k + 1 := ⟨E i - E n0 - 1, by omega⟩
      rw [hk, Int.pow_succ]; omega
section
variable {w : Nat → Int} {E : Nat → Nat} {n0 n1 : Nat} {c : Nat → Int}
theorem SixSome.zs (T : SixSome w E n0 n1 c) : Zs w = 2 ^ E n0 * (c 0 + c 1 + c 2 - c 3 - c 4 - c 5) := by
  unfold Zs
  rw [T.fac 0 (by decide), T.fac 1 (by decide), T.fac 2 (by decide), T.fac 3 (by decide), T.fac 4 (by decide), T.fac 5 (by decide)]
  simp only [Int.mul_sub, Int.mul_add]
  omega
theorem SixSome.ws (T : SixSome w E n0 n1 c) : WS w = 2 ^ E n0 * (c 0 + c 1 + c 2 + c 3 + c 4 + c 5) := by
  unfold WS
  rw [T.fac 0 (by decide), T.fac 1 (by decide), T.fac 2 (by decide), T.fac 3 (by decide), T.fac 4 (by decide), T.fac 5 (by decide)]
  simp only [Int.mul_add]
  omega
theorem SixSome.cases (T : SixSome w E n0 n1 c) : (0 ≤ c 0 ∧ 0 ≤ c 1 ∧ 0 ≤ c 2 ∧ 0 ≤ c 3 ∧ 0 ≤ c 4 ∧ 0 ≤ c 5) ∧
    ((n0 = 0 ∧ c 0 = 1 ∧ c 1 % 2 = 0 ∧ c 2 % 2 = 0 ∧ c 3 % 2 = 0 ∧ c 4 % 2 = 0 ∧ c 5 % 2 = 0) ∨ (n0 = 1 ∧ c 1 = 1 ∧ c 0 % 2 = 0 ∧ c 2 % 2 = 0 ∧ c 3 % 2 = 0 ∧ c 4 % 2 = 0 ∧ c 5 % 2 = 0) ∨
     (n0 = 2 ∧ c 2 = 1 ∧ c 0 % 2 = 0 ∧ c 1 % 2 = 0 ∧ c 3 % 2 = 0 ∧ c 4 % 2 = 0 ∧ c 5 % 2 = 0) ∨ (n0 = 3 ∧ c 3 = 1 ∧ c 0 % 2 = 0 ∧ c 1 % 2 = 0 ∧ c 2 % 2 = 0 ∧ c 4 % 2 = 0 ∧ c 5 % 2 = 0) ∨
     (n0 = 4 ∧ c 4 = 1 ∧ c 0 % 2 = 0 ∧ c 1 % 2 = 0 ∧ c 2 % 2 = 0 ∧ c 3 % 2 = 0 ∧ c 5 % 2 = 0) ∨ (n0 = 5 ∧ c 5 = 1 ∧ c 0 % 2 = 0 ∧ c 1 % 2 = 0 ∧ c 2 % 2 = 0 ∧ c 3 % 2 = 0 ∧ c 4 % 2 = 0)) := by
  have hn := T.nn
  refine ⟨⟨hn 0 (by decide), hn 1 (by decide), hn 2 (by decide), hn 3 (by decide), hn 4 (by decide), hn 5 (by decide)⟩, ?_⟩
  have l0 := T.l0
  have h1 := T.one
  have he := T.even
  have e0 := he 0 (by decide); have e1 := he 1 (by decide); have e2 := he 2 (by decide); have e3 := he 3 (by decide); have e4 := he 4 (by decide); have e5 := he 5 (by decide)
  match n0, l0 with
  | 0, _ => exact .inl ⟨rfl, h1, e1 (by decide), e2 (by decide), e3 (by decide), e4 (by decide), e5 (by decide)⟩
  | 1, _ => exact .inr (.inl ⟨rfl, h1, e0 (by decide), e2 (by decide), e3 (by decide), e4 (by decide), e5 (by decide)⟩)
  | 2, _ => exact .inr (.inr (.inl ⟨rfl, h1, e0 (by decide), e1 (by decide), e3 (by decide), e4 (by decide), e5 (by decide)⟩))
  | 3, _ => exact .inr (.inr (.inr (.inl ⟨rfl, h1, e0 (by decide), e1 (by decide), e2 (by decide), e4 (by decide), e5 (by decide)⟩)))
  | 4, _ => exact .inr (.inr (.inr (.inr (.inl ⟨rfl, h1, e0 (by decide), e1 (by decide), e2 (by decide), e3 (by decide), e5 (by decide)⟩))))
  | 5, _ => exact .inr (.inr (.inr (.inr (.inr ⟨rfl, h1, e0 (by decide), e1 (by decide), e2 (by decide), e3 (by decide), e4 (by decide)⟩))))
theorem SixSome.odd (T : SixSome w E n0 n1 c) : (c 0 + c 1 + c 2 - c 3 - c 4 - c 5) % 2 = 1 ∧ (c 0 + c 1 + c 2 + c 3 + c 4 + c 5) % 2 = 1 ∧ 0 < c 0 + c 1 + c 2 + c 3 + c 4 + c 5 := by
  obtain ⟨⟨a0, a1, a2, a3, a4, a5⟩, h1⟩ := T.cases
  have e1 : (1 : Int) % 2 = 1 := rfl
  have key : c 0 % 2 + c 1 % 2 + c 2 % 2 + c 3 % 2 + c 4 % 2 + c 5 % 2 = 1 := by
    rcases h1 with ⟨-, g0, g1, g2, g3, g4, g5⟩ | ⟨-, g0, g1, g2, g3, g4, g5⟩ | ⟨-, g0, g1, g2, g3, g4, g5⟩ | ⟨-, g0, g1, g2, g3, g4, g5⟩ | ⟨-, g0, g1, g2, g3, g4, g5⟩ | ⟨-, g0, g1, g2, g3, g4, g5⟩ <;> (rw [g0, g1, g2, g3, g4, g5]; rfl)
  obtain ⟨k1, k2⟩ := sum6 key
  refine ⟨k1, k2, pos6 (Int.add_nonneg (Int.add_nonneg (Int.add_nonneg (Int.add_nonneg (Int.add_nonneg a0 a1) a2) a3) a4) a5) k2⟩
theorem SixSome.wsLt (S : Six w E) (T : SixSome w E n0 n1 c) : 2 ^ E n1 ≤ WS w ∧ WS w < 2 ^ (E n1 + 1) := by
  have nn : ∀ i, i < 6 → 0 ≤ w i := fun i hi => by
    rcases S.val i hi with h | h
    · omega
    · rw [h]; exact Int.le_of_lt (pow2_pos _)
  constructor
  · rw [← T.v1]
    have := nn 0 (by decide); have := nn 1 (by decide); have := nn 2 (by decide); have := nn 3 (by decide); have := nn 4 (by decide); have := nn 5 (by decide)
    unfold WS
    have l1 := T.l1
    match n1, l1 with
    | 0, _ | 1, _ | 2, _ | 3, _ | 4, _ | 5, _ => omega
  · have e : WS w = isum [(w 0, E 0), (w 1, E 1), (w 2, E 2), (w 3, E 3), (w 4, E 4), (w 5, E 5)] := by simp [WS, isum]
    rw [e, isum_psum, pow_cast]
    · have := psum_lt (E n1 + 1) (psel [(w 0, E 0), (w 1, E 1), (w 2, E 2), (w 3, E 3), (w 4, E 4), (w 5, E 5)]) (psel_nodup ?_) ?_
      · exact_mod_cast this
      · have ap := S.apart
        simp only [List.pairwise_cons, List.mem_cons, List.not_mem_nil, or_false, forall_eq_or_imp, forall_eq, false_imp_iff, implies_true, List.Pairwise.nil, and_true]
        refine ⟨⟨?_, ?_, ?_, ?_, ?_⟩, ⟨?_, ?_, ?_, ?_⟩, ⟨?_, ?_, ?_⟩, ⟨?_, ?_⟩, ?_⟩ <;> (intro _ _; exact ap _ _ (by decide) (by decide) (by decide))
      · intro e' he
        obtain ⟨p, hp, hz, rfl⟩ := psel_mem he
        have mx := T.max
        simp only [List.mem_cons, List.not_mem_nil, or_false] at hp
        rcases hp with rfl | rfl | rfl | rfl | rfl | rfl <;> exact Nat.lt_succ_of_le (mx _ (by decide) hz)
    · intro p hp
      have vl := S.val
      simp only [List.mem_cons, List.not_mem_nil, or_false] at hp
      rcases hp with rfl | rfl | rfl | rfl | rfl | rfl <;> exact vl _ (by decide)
end
end Mine
end
section
namespace Mine
open Builtin.Int (intBits)
def wa (n : Nat) : Nat := [0, 1, 2, 0, 1, 2].getD n 0
def wb (n : Nat) : Nat := [4, 5, 3, 5, 3, 4].getD n 0
def wc (n : Nat) : Nat := [8, 6, 7, 7, 8, 6].getD n 0
def pI (n : Nat) : Nat := [0, 1, 2, 2, 0, 1, 1, 2, 0].getD n 0
def qI (n : Nat) : Nat := [3, 4, 5, 4, 5, 3, 5, 3, 4].getD n 0
def wv (Y : Nat → Int) (n : Nat) : Int := Y (wa n) * Y (wb n) * Y (wc n)
def dr (X : Nat → Int) (n : Nat) : List Int := drow (X (wa n)) (X (wb n)) (X (wc n))
theorem ways_ok : ∀ n : Fin 6, wa n < 9 ∧ wb n < 9 ∧ wc n < 9 ∧ wa n ≠ wb n ∧ wa n ≠ wc n ∧ wb n ≠ wc n := by decide
theorem ways_apart : ∀ n m : Fin 6, n ≠ m → (wa n ≠ wa m ∧ wa n ≠ wb m ∧ wa n ≠ wc m) ∨ (wb n ≠ wa m ∧ wb n ≠ wb m ∧ wb n ≠ wc m) ∨ (wc n ≠ wa m ∧ wc n ≠ wb m ∧ wc n ≠ wc m) := by decide
structure Tab9 (X Y : Nat → Int) : Prop where
  bd : ∀ i, i < 9 → 0 ≤ X i ∧ X i ≤ 12
  inj : ∀ i j, i < 9 → j < 9 → i ≠ j → X i ≠ X j
  ok : ∀ i, i < 9 → Y i = 0 ∨ Y i = 2 ^ (2 ^ (X i).toNat : Int).toNat
theorem Tab9.tri {X Y : Nat → Int} (T : Tab9 X Y) {n : Nat} (hn : n < 6) : Tri (X (wa n)) (X (wb n)) (X (wc n)) := by
  obtain ⟨a, b, c, d, e, f⟩ := ways_ok ⟨n, hn⟩
  exact ⟨T.bd _ a, T.bd _ b, T.bd _ c, T.inj _ _ a b d, T.inj _ _ a c e, T.inj _ _ b c f⟩
theorem Tab9.six {X Y : Nat → Int} (T : Tab9 X Y) : Six (wv Y) (fun n => esum (dr X n)) where
  val := fun i hi => by
    obtain ⟨a, b, c, _⟩ := ways_ok ⟨i, hi⟩
    exact w_val (T.ok _ a) (T.ok _ b) (T.ok _ c)
  bnd := fun i hi => (T.tri hi).bnd
  apart := fun i j hi hj hne e => by
    have hm := (T.tri hi).mem (T.tri hj) e
    obtain ⟨a, b, c, _⟩ := ways_ok ⟨i, hi⟩
    obtain ⟨a', b', c', _⟩ := ways_ok ⟨j, hj⟩
    have key : ∀ k, k < 9 → X k ∈ [X (wa i), X (wb i), X (wc i)] → k ≠ wa j → k ≠ wb j → k ≠ wc j → False := fun k hk h h1 h2 h3 => by
      have := (hm _).mp h
      simp only [List.mem_cons, List.not_mem_nil, or_false] at this
      rcases this with h | h | h
      · exact T.inj _ _ hk a' h1 h
      · exact T.inj _ _ hk b' h2 h
      · exact T.inj _ _ hk c' h3 h
    rcases ways_apart ⟨i, hi⟩ ⟨j, hj⟩ (fun h => hne (by simpa using h)) with h | h | h
    · exact key _ a (by simp) h.1 h.2.1 h.2.2
    · exact key _ b (by simp) h.1 h.2.1 h.2.2
    · exact key _ c (by simp) h.1 h.2.1 h.2.2
theorem sh_eq {a d z : Int} (ha : 0 ≤ a) (hz : a * d = z) : a * (if d < 0 then -d else d) = ((z.natAbs : Nat) : Int) := by
  have h1 : (if d < 0 then -d else d) = ((d.natAbs : Nat) : Int) := by split <;> omega
  rw [h1, ← hz, Int.natAbs_mul, Int.natCast_mul]
  congr 1; omega
theorem share_all {y0 y1 y2 y3 y4 y5 y6 y7 y8 : Int} (h0 : 0 ≤ y0) (h1 : 0 ≤ y1) (h2 : 0 ≤ y2) (h3 : 0 ≤ y3) (h4 : 0 ≤ y4) (h5 : 0 ≤ y5) (h6 : 0 ≤ y6) (h7 : 0 ≤ y7) (h8 : 0 ≤ y8) : ∀ i, i < 9 → shareT [y0, y1, y2, y3, y4, y5, y6, y7, y8] i = (((wv (fun i => [y0, y1, y2, y3, y4, y5, y6, y7, y8].getD i 0) (pI i) - wv (fun i => [y0, y1, y2, y3, y4, y5, y6, y7, y8].getD i 0) (qI i)).natAbs : Nat) : Int) := fun i hi =>
  match i, hi with
  | 0, _ => by
    show y0 * (if (y4 * y8 - y5 * y7) < 0 then -(y4 * y8 - y5 * y7) else (y4 * y8 - y5 * y7)) = (((y0 * y4 * y8 - y0 * y5 * y7).natAbs : Nat) : Int)
    exact sh_eq h0 (by rw [Int.mul_sub]; congr 1 <;> ac_rfl)
  | 1, _ => by
    show y1 * (if (y5 * y6 - y3 * y8) < 0 then -(y5 * y6 - y3 * y8) else (y5 * y6 - y3 * y8)) = (((y1 * y5 * y6 - y1 * y3 * y8).natAbs : Nat) : Int)
    exact sh_eq h1 (by rw [Int.mul_sub]; congr 1 <;> ac_rfl)
  | 2, _ => by
    show y2 * (if (y3 * y7 - y4 * y6) < 0 then -(y3 * y7 - y4 * y6) else (y3 * y7 - y4 * y6)) = (((y2 * y3 * y7 - y2 * y4 * y6).natAbs : Nat) : Int)
    exact sh_eq h2 (by rw [Int.mul_sub]; congr 1 <;> ac_rfl)
  | 3, _ => by
    show y3 * (if (y7 * y2 - y8 * y1) < 0 then -(y7 * y2 - y8 * y1) else (y7 * y2 - y8 * y1)) = (((y2 * y3 * y7 - y1 * y3 * y8).natAbs : Nat) : Int)
    exact sh_eq h3 (by rw [Int.mul_sub]; congr 1 <;> ac_rfl)
  | 4, _ => by
    show y4 * (if (y8 * y0 - y6 * y2) < 0 then -(y8 * y0 - y6 * y2) else (y8 * y0 - y6 * y2)) = (((y0 * y4 * y8 - y2 * y4 * y6).natAbs : Nat) : Int)
    exact sh_eq h4 (by rw [Int.mul_sub]; congr 1 <;> ac_rfl)
  | 5, _ => by
    show y5 * (if (y6 * y1 - y7 * y0) < 0 then -(y6 * y1 - y7 * y0) else (y6 * y1 - y7 * y0)) = (((y1 * y5 * y6 - y0 * y5 * y7).natAbs : Nat) : Int)
    exact sh_eq h5 (by rw [Int.mul_sub]; congr 1 <;> ac_rfl)
  | 6, _ => by
    show y6 * (if (y1 * y5 - y2 * y4) < 0 then -(y1 * y5 - y2 * y4) else (y1 * y5 - y2 * y4)) = (((y1 * y5 * y6 - y2 * y4 * y6).natAbs : Nat) : Int)
    exact sh_eq h6 (by rw [Int.mul_sub]; congr 1 <;> ac_rfl)
  | 7, _ => by
    show y7 * (if (y2 * y3 - y0 * y5) < 0 then -(y2 * y3 - y0 * y5) else (y2 * y3 - y0 * y5)) = (((y2 * y3 * y7 - y0 * y5 * y7).natAbs : Nat) : Int)
    exact sh_eq h7 (by rw [Int.mul_sub]; congr 1 <;> ac_rfl)
  | 8, _ => by
    show y8 * (if (y0 * y4 - y1 * y3) < 0 then -(y0 * y4 - y1 * y3) else (y0 * y4 - y1 * y3)) = (((y0 * y4 * y8 - y1 * y3 * y8).natAbs : Nat) : Int)
    exact sh_eq h8 (by rw [Int.mul_sub]; congr 1 <;> ac_rfl)

theorem oddUp_none (tn : List Int) : oddUp (fun _ => 0) tn 9 = [] := by simp [oddUp]
theorem natAbs_par (x : Int) : ((x.natAbs : Nat) : Int) % 2 = x % 2 := by omega
def evS (c : Nat → Int) (i : Nat) : Int := (((c (pI i) - c (qI i)).natAbs : Nat) : Int)
theorem evS_par (c : Nat → Int) (i : Nat) : evS c i % 2 = (c (pI i) % 2 - c (qI i) % 2) % 2 := by
  rw [← Int.sub_emod]; exact natAbs_par _
theorem oddUp_some {w : Nat → Int} {E : Nat → Nat} {n0 n1 : Nat} {c : Nat → Int} (T : SixSome w E n0 n1 c) (tn : List Int) : oddUp (evS c) tn 9 = [tn.getD (wa n0) 0, tn.getD (wb n0) 0, tn.getD (wc n0) 0] := by
  obtain ⟨h, h1⟩ := T.cases
  clear h
  have e1 : (1 : Int) % 2 = 1 := rfl
  have p0 : evS c 0 % 2 = (c 0 % 2 - c 3 % 2) % 2 := evS_par c 0
  have p1 : evS c 1 % 2 = (c 1 % 2 - c 4 % 2) % 2 := evS_par c 1
  have p2 : evS c 2 % 2 = (c 2 % 2 - c 5 % 2) % 2 := evS_par c 2
  have p3 : evS c 3 % 2 = (c 2 % 2 - c 4 % 2) % 2 := evS_par c 3
  have p4 : evS c 4 % 2 = (c 0 % 2 - c 5 % 2) % 2 := evS_par c 4
  have p5 : evS c 5 % 2 = (c 1 % 2 - c 3 % 2) % 2 := evS_par c 5
  have p6 : evS c 6 % 2 = (c 1 % 2 - c 5 % 2) % 2 := evS_par c 6
  have p7 : evS c 7 % 2 = (c 2 % 2 - c 3 % 2) % 2 := evS_par c 7
  have p8 : evS c 8 % 2 = (c 0 % 2 - c 4 % 2) % 2 := evS_par c 8
  rcases h1 with ⟨rfl, g0, g1, g2, g3, g4, g5⟩ | ⟨rfl, g0, g1, g2, g3, g4, g5⟩ | ⟨rfl, g0, g1, g2, g3, g4, g5⟩ | ⟨rfl, g0, g1, g2, g3, g4, g5⟩ | ⟨rfl, g0, g1, g2, g3, g4, g5⟩ | ⟨rfl, g0, g1, g2, g3, g4, g5⟩ <;>
    (simp only [oddUp, p0, p1, p2, p3, p4, p5, p6, p7, p8, g0, g1, g2, g3, g4, g5]; rfl)
theorem rowsUp_mem {l : List (Int × List Int)} {r : List Int} : ∀ {k : Nat}, r ∈ rowsUp l k ↔ ∃ i, i < k ∧ 0 < (l.getD i (0, [])).1 ∧ r = (l.getD i (0, [])).2
  | 0 => by simp [rowsUp]
  | k + 1 => by
    rw [rowsUp, List.mem_append, rowsUp_mem]
    constructor
    · rintro (⟨i, hi, h⟩ | h)
      · exact ⟨i, by omega, h⟩
      · by_cases hk : 0 < (l.getD k (0, [])).1
        · rw [if_pos hk] at h
          exact ⟨k, by omega, hk, List.mem_singleton.mp h⟩
        · rw [if_neg hk] at h; cases h
    · rintro ⟨i, hi, h1, h2⟩
      by_cases hik : i = k
      · subst hik; right; rw [if_pos h1]; exact List.mem_singleton.mpr h2
      · exact .inl ⟨i, by omega, h1, h2⟩
def rowsL (w : Nat → Int) (X : Nat → Int) : List (Int × List Int) := [(w 0, dr X 0), (w 1, dr X 1), (w 2, dr X 2), (w 3, dr X 3), (w 4, dr X 4), (w 5, dr X 5)]
theorem rowsL_get {w X : Nat → Int} {i : Nat} (hi : i < 6) : (rowsL w X).getD i (0, []) = (w i, dr X i) := by
  match i, hi with
  | 0, _ | 1, _ | 2, _ | 3, _ | 4, _ | 5, _ => rfl
theorem desc_nil : Desc [] := ⟨List.Pairwise.nil, by simp⟩
theorem best_row {X Y : Nat → Int} (T9 : Tab9 X Y) {n0 n1 : Nat} {c : Nat → Int} (T : SixSome (wv Y) (fun n => esum (dr X n)) n0 n1 c) :
    (rowsUp (rowsL (wv Y) X) 6 ++ [[]]).getD (bestRow (rowsUp (rowsL (wv Y) X) 6 ++ [[]])) [] = dr X n1 := by
  generalize hR : rowsUp (rowsL (wv Y) X) 6 ++ [[]] = R
  have mem : ∀ r, r ∈ R ↔ (∃ i, i < 6 ∧ 0 < wv Y i ∧ r = dr X i) ∨ r = [] := fun r => by
    rw [← hR, List.mem_append, rowsUp_mem, List.mem_singleton]
    refine or_congr_left ⟨fun ⟨i, hi, h1, h2⟩ => ?_, fun ⟨i, hi, h1, h2⟩ => ⟨i, hi, ?_⟩⟩
    · rw [rowsL_get hi] at h1 h2; exact ⟨i, hi, h1, h2⟩
    · rw [rowsL_get hi]; exact ⟨h1, h2⟩
  have hl : 0 < R.length := by rw [← hR]; simp
  have dsc : ∀ i, Desc (R.getD i []) := fun i => by
    rw [List.getD_eq_getElem?_getD]
    cases e : R[i]? with
    | none => exact desc_nil
    | some r =>
      rcases (mem r).mp (List.mem_of_getElem? e) with ⟨j, hj, _, rfl⟩ | rfl
      · exact (T9.tri hj).desc
      · exact desc_nil
  have hb : bestRow R = argBest (fun i j => decide (((esum (R.getD i []) : Nat) : Int) > ((esum (R.getD j []) : Nat) : Int))) (R.length - 1) := by
    unfold bestRow
    congr 1
    funext i j
    rw [lexGt_esum (dsc i) (dsc j)]
    congr 1
    simp
  obtain ⟨h1, h2⟩ := PySem.argBest_gt (fun i => ((esum (R.getD i []) : Nat) : Int)) (R.length - 1)
  rw [← hb] at h1 h2
  have hw1 : 0 < wv Y n1 := by rw [T.v1]; exact pow2_pos _
  obtain ⟨j, hj, ej⟩ := List.getElem_of_mem ((mem _).mpr (.inl ⟨n1, T.l1, hw1, rfl⟩))
  have h3 := h2 j (by omega)
  have ej' : R.getD j [] = dr X n1 := by rw [List.getD_eq_getElem?_getD, List.getElem?_eq_getElem hj, ej]; rfl
  have hbm : R.getD (bestRow R) [] ∈ R := by
    rw [List.getD_eq_getElem?_getD, List.getElem?_eq_getElem (by omega)]
    exact List.getElem_mem _
  rw [ej'] at h3
  have b7 := (T9.tri T.l1).bnd
  have h3' : esum (dr X n1) ≤ esum (R.getD (bestRow R) []) := by exact_mod_cast h3
  rcases (mem _).mp hbm with ⟨k, hk, hwk, ek⟩ | ek
  · rw [ek] at h3' ⊢
    have h4 := T.max k hk (by omega)
    by_cases hkn : k = n1
    · rw [hkn]
    · exact absurd (Nat.le_antisymm h4 h3') (T9.six.apart k n1 hk T.l1 hkn)
  · rw [ek] at h3'
    have h5 : esum ([] : List Int) = 0 := rfl
    have h6 : 7 ≤ esum (dr X n1) := b7.1
    omega
end Mine
end
section
namespace Mine
theorem tn_13 {a : Int} (h : a ≤ 12) : a.toNat < 13 := by omega
theorem tn_lt {a b : Int} (h0 : 0 ≤ a) (h : a < b) : a.toNat < b.toNat := by omega
open Builtin.Int (intBits)
def bitsL (F : Nat) : Nat → List Nat
  | 0 => []
  | i + 1 => bitsL F i ++ (if F / 2 ^ i % 2 = 1 then [i] else [])
theorem pfL_bits (D : List (Int × PyData)) (F : Nat) : ∀ i, pfL D (F : Int) i = (bitsL F i).map (pfWord D)
  | 0 => rfl
  | i + 1 => by
    rw [pfL, bitsL, pfL_bits D F i, List.map_append]
    congr 1
    have e : (F : Int) / 2 ^ i % 2 = ((F / 2 ^ i % 2 : Nat) : Int) := by rw [pow_cast]; norm_cast
    rw [e]
    by_cases h : F / 2 ^ i % 2 = 1
    · rw [if_pos h, if_pos (by omega)]; rfl
    · rw [if_neg h, if_neg (by omega)]; rfl
theorem bitsL_succ (F i : Nat) : bitsL F (i + 1) = bitsL F i ++ (if F / 2 ^ i % 2 = 1 then [i] else []) := rfl
theorem bitsL_low (n m M : Nat) : ∀ i, i ≤ n → bitsL (m + M * 2 ^ n) i = bitsL m i
  | 0, _ => rfl
  | i + 1, h => by
    rw [bitsL_succ, bitsL_succ, bitsL_low n m M i (by omega)]
    congr 1
    obtain ⟨k, hk⟩ : ∃ k, n = i + (k + 1) := ⟨n - i - 1, by omega⟩
    have e : (m + M * 2 ^ n) / 2 ^ i % 2 = m / 2 ^ i % 2 := by
      rw [hk, Nat.pow_add, Nat.mul_comm (2 ^ i), ← Nat.mul_assoc, Nat.add_mul_div_right _ _ (Nat.two_pow_pos i), Nat.pow_succ, ← Nat.mul_assoc]
      omega
    rw [e]
theorem high_div {n m : Nat} (M : Nat) (hm : m < 2 ^ n) (j : Nat) : (m + M * 2 ^ n) / 2 ^ (n + j) = M / 2 ^ j := by
  rw [Nat.pow_add, ← Nat.div_div_eq_div_mul, Nat.add_mul_div_right _ _ (Nat.two_pow_pos n), Nat.div_eq_of_lt hm, Nat.zero_add]
theorem bitsL_high {n m : Nat} (M : Nat) (hm : m < 2 ^ n) : ∀ j, bitsL (m + M * 2 ^ n) (n + j) = bitsL m n ++ (bitsL M j).map (n + ·)
  | 0 => by rw [Nat.add_zero, bitsL_low n m M n (Nat.le_refl _)]; simp [bitsL]
  | j + 1 => by
    rw [show n + (j + 1) = (n + j) + 1 by omega, bitsL_succ, bitsL_high M hm j, bitsL_succ M j, List.map_append, List.append_assoc, high_div M hm j]
    congr 2
    by_cases h : M / 2 ^ j % 2 = 1
    · rw [if_pos h, if_pos h]; rfl
    · rw [if_neg h, if_neg h]; rfl
theorem flag_nat {n m M : Nat} (hm : m < 2 ^ n) (hm0 : 0 < m) (D : List (Int × PyData)) (j : Nat) : pfL D ((m + M * 2 ^ n : Nat) : Int) (n + j) = (bitsL m n ++ (bitsL M j).map (n + ·)).map (pfWord D) ∧
    ((m + M * 2 ^ n : Nat) : Int) / ((2 ^ (n + j) : Nat) : Int) = ((M / 2 ^ j : Nat) : Int) ∧ ((m + M * 2 ^ n : Nat) : Int) ≠ 0 := by
  refine ⟨by rw [pfL_bits, bitsL_high M hm j], ?_, ?_⟩
  · rw [← high_div M hm j]; norm_cast
  · have h1 : 0 < m + M * 2 ^ n := Nat.add_pos_left hm0 _
    generalize m + M * 2 ^ n = F at *
    omega
theorem bits_tri : ∀ a b c : Fin 13, a < b → b < c → bitsL (2 ^ a.val + (2 ^ b.val + 2 ^ c.val)) 21 = [a.val, b.val, c.val] ∧ bitsL (2 ^ a.val + (2 ^ b.val + 2 ^ c.val)) 11 = [a.val, b.val, c.val].filter (· < 11) ∧
    (2 ^ a.val + (2 ^ b.val + 2 ^ c.val)) / 2 ^ 11 = (if b.val = 11 then 1 else 0) + (if c.val = 11 then 1 else 0) + (if c.val = 12 then 2 else 0) := by decide +kernel
theorem hex_1 : baseText "0x" 16 (1 * 2 ^ 32) = Str.ofString "0x100000000" ∧ baseText "0x" 16 (2 * 2 ^ 32) = Str.ofString "0x200000000" ∧ baseText "0x" 16 (3 * 2 ^ 32) = Str.ofString "0x300000000" := by decide +kernel
theorem pfW_zero {D : List (Int × PyData)} {F : Int} (h : F / 2 ^ 32 = 0) (h0 : F ≠ 0) : pfW D F = pfL D F 32 := by
  rw [pfW, if_pos ⟨by rw [h]; simp, h0⟩]
theorem pfW_more {D : List (Int × PyData)} {F k : Int} (h : F / 2 ^ 32 = k) (h0 : k ≠ 0) : pfW D F = pfL D F 32 ++ [baseText "0x" 16 (k * 2 ^ 32)] := by
  have hp := pow2_pos 32
  rw [pfW, if_neg, h]
  rintro ⟨h1, _⟩
  rw [h] at h1
  rcases Int.mul_eq_zero.mp h1 with h2 | h2 <;> omega
section
variable {s0 s1 s2 q0 q1 q2 f g : Int} (hs0 : 0 ≤ s0) (hs1 : s0 < s1) (hs2 : s1 < s2) (hs3 : s2 ≤ 12) (hq0 : 0 ≤ q0) (hq1 : q0 < q1) (hq2 : q1 < q2) (hq3 : q2 ≤ 12)
  (hf : f = ((2 ^ s0.toNat + (2 ^ s1.toNat + 2 ^ s2.toNat) : Nat) : Int)) (hg : g = ((2 ^ q0.toNat + (2 ^ q1.toNat + 2 ^ q2.toNat) : Nat) : Int))
include hs0 hs1 hs2 hs3 hq0 hq1 hq2 hq3 hf hg
theorem flag_core : (pfL PFT ((if 0 > f then 0 else f) + (if 0 > g then 0 else g) * 2 ^ Int.toNat 21) 32 = ([s0.toNat, s1.toNat, s2.toNat] ++ ([q0.toNat, q1.toNat, q2.toNat].filter (· < 11)).map (21 + ·)).map (pfWord PFT)) ∧
    ((if 0 > f then 0 else f) + (if 0 > g then 0 else g) * 2 ^ Int.toNat 21) / 2 ^ 32 = ((((if q1.toNat = 11 then 1 else 0) + (if q2.toNat = 11 then 1 else 0) + (if q2.toNat = 12 then 2 else 0) : Nat)) : Int) ∧
    ((if 0 > f then 0 else f) + (if 0 > g then 0 else g) * 2 ^ Int.toNat 21) ≠ 0 := by
  have l1 : s1 ≤ 12 := Int.le_trans (Int.le_of_lt hs2) hs3
  have l0 : s0 ≤ 12 := Int.le_trans (Int.le_of_lt hs1) l1
  have m1 : q1 ≤ 12 := Int.le_trans (Int.le_of_lt hq2) hq3
  have m0 : q0 ≤ 12 := Int.le_trans (Int.le_of_lt hq1) m1
  have n1 : 0 ≤ s1 := Int.le_trans hs0 (Int.le_of_lt hs1)
  have n2 : 0 ≤ q1 := Int.le_trans hq0 (Int.le_of_lt hq1)
  obtain ⟨a1, a2, a3⟩ := bits_tri ⟨s0.toNat, tn_13 l0⟩ ⟨s1.toNat, tn_13 l1⟩ ⟨s2.toNat, tn_13 hs3⟩ (Fin.mk_lt_mk.mpr (tn_lt hs0 hs1)) (Fin.mk_lt_mk.mpr (tn_lt n1 hs2))
  obtain ⟨b1, b2, b3⟩ := bits_tri ⟨q0.toNat, tn_13 m0⟩ ⟨q1.toNat, tn_13 m1⟩ ⟨q2.toNat, tn_13 hq3⟩ (Fin.mk_lt_mk.mpr (tn_lt hq0 hq1)) (Fin.mk_lt_mk.mpr (tn_lt n2 hq2))
  simp only at a1 a2 a3 b1 b2 b3
  have hm : 2 ^ s0.toNat + (2 ^ s1.toNat + 2 ^ s2.toNat) < 2 ^ 21 := by
    have c1 : 2 ^ s0.toNat ≤ 2 ^ 12 := Nat.pow_le_pow_right (by decide) (Nat.le_of_lt_succ (tn_13 l0))
    have c2 : 2 ^ s1.toNat ≤ 2 ^ 12 := Nat.pow_le_pow_right (by decide) (Nat.le_of_lt_succ (tn_13 l1))
    have c3 : 2 ^ s2.toNat ≤ 2 ^ 12 := Nat.pow_le_pow_right (by decide) (Nat.le_of_lt_succ (tn_13 hs3))
    exact Nat.lt_of_le_of_lt (Nat.add_le_add c1 (Nat.add_le_add c2 c3)) (by decide)
  have hm0 : 0 < 2 ^ s0.toNat := Nat.two_pow_pos _
  have hm1 : 0 < 2 ^ s0.toNat + (2 ^ s1.toNat + 2 ^ s2.toNat) := Nat.add_pos_left hm0 _
  generalize 2 ^ s0.toNat + (2 ^ s1.toNat + 2 ^ s2.toNat) = m at *
  generalize 2 ^ q0.toNat + (2 ^ q1.toNat + 2 ^ q2.toNat) = M at *
  obtain ⟨c1, c2, c3⟩ := flag_nat (n := 21) (M := M) hm hm1 PFT 11
  have hF : (if 0 > f then 0 else f) + (if 0 > g then 0 else g) * 2 ^ Int.toNat 21 = ((m + M * 2 ^ 21 : Nat) : Int) := by
    have e : (2 : Int) ^ Int.toNat 21 = ((2 ^ 21 : Nat) : Int) := by decide
    rw [if_neg (by rw [hf]; exact Int.not_lt.mpr (Int.natCast_nonneg _)), if_neg (by rw [hg]; exact Int.not_lt.mpr (Int.natCast_nonneg _)), hf, hg, e, Int.natCast_add, Int.natCast_mul]
  rw [hF]
  rw [a1, b2] at c1
  rw [b3] at c2
  exact ⟨c1, c2, c3⟩
end
end Mine
end
section
namespace Mine
theorem z_le {z c : Int} (h : (z = 0 ∧ c = 0) ∨ (z = 1 ∧ 0 < c)) : 0 ≤ z ∧ z ≤ 1 ∧ z ≤ c ∧ (z ≤ 0 → c = 0) := by omega
theorem six_z {z0 z1 z2 z3 z4 z5 c0 c1 c2 c3 c4 c5 : Int} (h0 : (z0 = 0 ∧ c0 = 0) ∨ (z0 = 1 ∧ 0 < c0)) (h1 : (z1 = 0 ∧ c1 = 0) ∨ (z1 = 1 ∧ 0 < c1)) (h2 : (z2 = 0 ∧ c2 = 0) ∨ (z2 = 1 ∧ 0 < c2)) (h3 : (z3 = 0 ∧ c3 = 0) ∨ (z3 = 1 ∧ 0 < c3)) (h4 : (z4 = 0 ∧ c4 = 0) ∨ (z4 = 1 ∧ 0 < c4)) (h5 : (z5 = 0 ∧ c5 = 0) ∨ (z5 = 1 ∧ 0 < c5)) (hs : 0 < c0 + c1 + c2 + c3 + c4 + c5) :
    z0 + z1 + z2 + z3 + z4 + z5 ≤ 6 ∧ 0 < z0 + z1 + z2 + z3 + z4 + z5 ∧ z0 + z1 + z2 + z3 + z4 + z5 ≤ c0 + c1 + c2 + c3 + c4 + c5 := by
  obtain ⟨a0, b0, d0, e0⟩ := z_le h0
  obtain ⟨a1, b1, d1, e1⟩ := z_le h1
  obtain ⟨a2, b2, d2, e2⟩ := z_le h2
  obtain ⟨a3, b3, d3, e3⟩ := z_le h3
  obtain ⟨a4, b4, d4, e4⟩ := z_le h4
  obtain ⟨a5, b5, d5, e5⟩ := z_le h5
  clear h0 h1 h2 h3 h4 h5
  refine ⟨Int.add_le_add (Int.add_le_add (Int.add_le_add (Int.add_le_add (Int.add_le_add b0 b1) b2) b3) b4) b5, ?_, Int.add_le_add (Int.add_le_add (Int.add_le_add (Int.add_le_add (Int.add_le_add d0 d1) d2) d3) d4) d5⟩
  clear b0 b1 b2 b3 b4 b5 d0 d1 d2 d3 d4 d5
  by_cases hz : 0 < z0 + z1 + z2 + z3 + z4 + z5
  · exact hz
  · exfalso
    rw [e0 (by omega), e1 (by omega), e2 (by omega), e3 (by omega), e4 (by omega), e5 (by omega)] at hs
    exact absurd hs (by decide)
open Builtin.Int (intBits)
def isbF (n : Int) : Bool := if n = 0 then false else (Builtin.bitAnd n (n - 1) == 0)
structure LawFacts (X Y : Nat → Int) (tb tn : List Int) (lo u : Int) (vs : List Value) (f g : Int) (ev : Nat → Int) : Prop where
  a1 : (if lo = 0 then false else (Builtin.bitAnd (lo) (lo - 1) == 0)) = decide (vs ≠ [])
  a2 : (if -lo = 0 then false else (Builtin.bitAnd (-lo) (-lo - 1) == 0)) = false
  a3 : (if WS (wv Y) = 0 then false else (Builtin.bitAnd (WS (wv Y)) (WS (wv Y) - 1) == 0)) = ((vs.length : Int) == 1)
  a4 : (if u - 1 = 0 then false else (Builtin.bitAnd (u - 1) (u - 1 - 1) == 0)) = false
  b1 : (intBits lo : Int) - 1 = f
  b2 : (intBits (WS (wv Y)) : Int) - 1 = g
  b3 : (intBits (-lo) : Int) - 1 = f
  b4 : (intBits (-WS (wv Y)) : Int) - 1 = g
  b5 : (intBits (u - 1) : Int) - 1 = (if 0 > f then 0 else f) - 1
  evf : ∀ i, i < 9 → shareT tb i = ev i * u ∧ 0 ≤ ev i
  u1 : 0 < u
  u2 : intBits u ≤ 7170
  len : vs.length ≤ 6
  fin : (vs = [] ∧ f = -1 ∧ g = -1 ∧ oddUp ev tn 9 = []) ∨
    (vs ≠ [] ∧ ∃ s0 s1 s2 q0 q1 q2 : Int, srt (oddUp ev tn 9) = [s0, s1, s2] ∧ (rowsUp (rowsL (wv Y) X) 6 ++ [[]]).getD (bestRow (rowsUp (rowsL (wv Y) X) 6 ++ [[]])) [] = [q2, q1, q0] ∧
      0 ≤ s0 ∧ s0 < s1 ∧ s1 < s2 ∧ s2 ≤ 12 ∧ 0 ≤ q0 ∧ q0 < q1 ∧ q1 < q2 ∧ q2 ≤ 12 ∧
      f = ((2 ^ s0.toNat + (2 ^ s1.toNat + 2 ^ s2.toNat) : Nat) : Int) ∧ g = ((2 ^ q0.toNat + (2 ^ q1.toNat + 2 ^ q2.toNat) : Nat) : Int) ∧ f < 8192 ∧ g < 8192)
theorem rows_len {w X : Nat → Int} : (((rowsUp (rowsL w X) 6).length : Nat) : Int) = (if 0 < w 0 then 1 else 0) + (if 0 < w 1 then 1 else 0) + (if 0 < w 2 then 1 else 0) + (if 0 < w 3 then 1 else 0) + (if 0 < w 4 then 1 else 0) + (if 0 < w 5 then 1 else 0) := by
  have e : ∀ (a : Int) (r : List Int), (((if 0 < a then [r] else []).length : Nat) : Int) = if 0 < a then 1 else 0 := fun a r => by split <;> rfl
  simp only [rowsUp, List.length_append, Int.natCast_add, rowsL_get (show 0 < 6 by decide), rowsL_get (show 1 < 6 by decide), rowsL_get (show 2 < 6 by decide), rowsL_get (show 3 < 6 by decide), rowsL_get (show 4 < 6 by decide), rowsL_get (show 5 < 6 by decide), e, List.length_nil]
  omega
theorem one_len {c : Nat → Int} {d : Nat → Int} (hc : 0 ≤ c 0 ∧ 0 ≤ c 1 ∧ 0 ≤ c 2 ∧ 0 ≤ c 3 ∧ 0 ≤ c 4 ∧ 0 ≤ c 5) (hd : ∀ i, i < 6 → (d i = 0 ∧ c i = 0) ∨ (d i = 1 ∧ 0 < c i))
    (h : c 0 + c 1 + c 2 + c 3 + c 4 + c 5 ≠ 1) (ho : ∃ i, i < 6 ∧ c i = 1) : d 0 + d 1 + d 2 + d 3 + d 4 + d 5 ≠ 1 := by
  intro h1
  have d0 := hd 0 (by decide); have d1 := hd 1 (by decide); have d2 := hd 2 (by decide); have d3 := hd 3 (by decide); have d4 := hd 4 (by decide); have d5 := hd 5 (by decide)
  clear hd
  obtain ⟨i, hi, ho⟩ := ho
  match i, hi with
  | 0, _ | 1, _ | 2, _ | 3, _ | 4, _ | 5, _ => omega
section
variable {X Y : Nat → Int} {tb tn : List Int} {lo u : Int} {vs : List Value} (T9 : Tab9 X Y) (hsh : ∀ i, i < 9 → shareT tb i = (((wv Y (pI i) - wv Y (qI i)).natAbs : Nat) : Int)) (htn : ∀ i, i < 9 → tn.getD i 0 = X i)
  (elo : lo = Builtin.bitAnd (Zs (wv Y)) (-Zs (wv Y))) (eu : u = if 1 > lo then 1 else lo) (hvs : vs.length = (rowsUp (rowsL (wv Y) X) 6).length)
include T9 hsh htn elo eu hvs
theorem facts_none (h : ∀ i, i < 6 → wv Y i = 0) : LawFacts X Y tb tn lo u vs (-1) (-1) (fun _ => 0) := by
  have h0 := h 0 (by decide); have h1 := h 1 (by decide); have h2 := h 2 (by decide); have h3 := h 3 (by decide); have h4 := h 4 (by decide); have h5 := h 5 (by decide)
  have hZ : Zs (wv Y) = 0 := by unfold Zs; rw [h0, h1, h2, h3, h4, h5]; rfl
  have hW : WS (wv Y) = 0 := by unfold WS; rw [h0, h1, h2, h3, h4, h5]; rfl
  have hlo : lo = 0 := by rw [elo, hZ]; decide
  have hu : u = 1 := by rw [eu, hlo]; rfl
  have hl : vs.length = 0 := by
    have := rows_len (w := wv Y) (X := X)
    rw [h0, h1, h2, h3, h4, h5] at this
    simp only [Int.lt_irrefl, if_false] at this
    omega
  have hv : vs = [] := List.length_eq_zero_iff.mp hl
  have pq : ∀ i, i < 9 → pI i < 6 ∧ qI i < 6 := fun i hi => (by decide : ∀ i : Fin 9, pI i < 6 ∧ qI i < 6) ⟨i, hi⟩
  subst hlo hu hv
  refine ⟨rfl, rfl, ?_, rfl, by decide, ?_, by decide, ?_, by decide, fun i hi => ⟨?_, Int.le_refl _⟩, by decide, by decide, by decide, .inl ⟨rfl, rfl, rfl, oddUp_none tn⟩⟩
  · rw [hW]; decide
  · rw [hW]; decide
  · rw [hW]; decide
  · rw [hsh i hi, h _ (pq i hi).1, h _ (pq i hi).2]; rfl
theorem facts_some {n0 n1 : Nat} {c : Nat → Int} (T : SixSome (wv Y) (fun n => esum (dr X n)) n0 n1 c) : LawFacts X Y tb tn lo u vs (((esum (dr X n0) : Nat) : Int)) (((esum (dr X n1) : Nat) : Int)) (evS c) := by
  have S := T9.six
  have b0 := S.bnd n0 T.l0
  have b1 := S.bnd n1 T.l1
  obtain ⟨o1, o2, o3⟩ := T.odd
  have hlo : lo = 2 ^ esum (dr X n0) := by rw [elo]; exact low_bit T.zs o1
  have hp2 : (2 : Int) ^ 2 ≤ 2 ^ esum (dr X n0) := pow2_le (by omega)
  have hp2' : (2 : Int) ^ 2 = 4 := by decide
  have hu : u = 2 ^ esum (dr X n0) := by rw [eu, if_neg (by omega), hlo]
  have hlt := T.wsLt S
  have nn : ∀ i, i < 6 → (0 < wv Y i ↔ 0 < c i) := fun i hi => by
    have hp := pow2_pos (esum (dr X n0))
    rw [T.fac i hi]
    constructor
    · intro h1
      have h2 := T.nn i hi
      by_cases e : c i = 0
      · rw [e] at h1; simp at h1
      · omega
    · exact fun h1 => Int.mul_pos hp h1
  have hlen := rows_len (w := wv Y) (X := X)
  rw [← hvs] at hlen
  have hd : ∀ i, i < 6 → ((if 0 < wv Y i then (1 : Int) else 0) = 0 ∧ c i = 0) ∨ ((if 0 < wv Y i then (1 : Int) else 0) = 1 ∧ 0 < c i) := fun i hi => by
    have h1 := nn i hi
    have h2 := T.nn i hi
    by_cases h3 : 0 < c i
    · right; exact ⟨if_pos (h1.mpr h3), h3⟩
    · left; exact ⟨if_neg (fun h => h3 (h1.mp h)), by omega⟩
  have hcs := T.cases.1
  have hz := six_z (hd 0 (by decide)) (hd 1 (by decide)) (hd 2 (by decide)) (hd 3 (by decide)) (hd 4 (by decide)) (hd 5 (by decide)) o3
  have hvlen : vs.length ≤ 6 ∧ 0 < vs.length := by
    rw [← hlen] at hz
    exact ⟨Int.ofNat_le.mp hz.1, Int.natCast_pos.mp hz.2.1⟩
  have hvne : vs ≠ [] := fun e => by rw [e] at hvlen; simp at hvlen
  have hone : decide (c 0 + c 1 + c 2 + c 3 + c 4 + c 5 = 1) = ((vs.length : Int) == 1) := by
    rw [Bool.eq_iff_iff, beq_iff_eq, decide_eq_true_iff]
    by_cases hs : c 0 + c 1 + c 2 + c 3 + c 4 + c 5 = 1
    · refine ⟨fun _ => ?_, fun _ => hs⟩
      rw [hlen]
      exact Int.le_antisymm (Int.le_trans hz.2.2 (Int.le_of_eq hs)) hz.2.1
    · refine ⟨fun h => absurd h hs, fun h => ?_⟩
      exact absurd (hlen.symm.trans h) (one_len (d := fun i => if 0 < wv Y i then (1 : Int) else 0) hcs hd hs ⟨n0, T.l0, T.one⟩)
  have tr0 := T9.tri T.l0
  have tr1 := T9.tri T.l1
  obtain ⟨s0, s1, s2, es, eds, hs0, hs1, hs2, hs3⟩ := tr0.drow
  obtain ⟨q0, q1, q2, eq, edq, hq0, hq1, hq2, hq3⟩ := tr1.drow
  have pq : ∀ i, i < 9 → pI i < 6 ∧ qI i < 6 := fun i hi => (by decide : ∀ i : Fin 9, pI i < 6 ∧ qI i < 6) ⟨i, hi⟩
  refine ⟨?_, ?_, ?_, ?_, ?_, ?_, ?_, ?_, ?_, fun i hi => ⟨?_, Int.natCast_nonneg _⟩, ?_, ?_, hvlen.1, .inr ⟨hvne, s0, s1, s2, q0, q1, q2, ?_, ?_, hs0, hs1, hs2, hs3, hq0, hq1, hq2, hq3, ?_, ?_, ?_, ?_⟩⟩
  · rw [isb_pos (K := 1) (m := esum (dr X n0)) (by rw [hlo]; omega) (by decide) (by decide), decide_eq_true hvne]; rfl
  · exact isb_neg (by rw [hlo]; exact Int.le_of_lt (pow2_pos _))
  · rw [isb_pos T.ws o2 o3]; exact hone
  · rw [isb_pos (n := u - 1) (K := u - 1) (m := 0) (by simp) (by
      rw [hu]
      obtain ⟨k, hk⟩ : ∃ k, esum (dr X n0) = k + 1 := ⟨esum (dr X n0) - 1, by omega⟩
      rw [hk, Int.pow_succ]; omega) (by omega)]
    rw [decide_eq_false (by omega)]
  · rw [hlo, bits_pow]; omega
  · rw [bits_eq hlt.1 hlt.2]; omega
  · rw [bits_neg, hlo, bits_pow]; omega
  · rw [bits_neg, bits_eq hlt.1 hlt.2]; omega
  · rw [hu, bits_pow_pred (by omega), if_neg (by omega)]
  · rw [hsh i hi, T.fac _ (pq i hi).1, T.fac _ (pq i hi).2, ← Int.mul_sub, Int.natAbs_mul, hu, Int.natCast_mul, evS, Int.mul_comm, pow_cast, Int.natAbs_natCast]
  · omega
  · rw [hu, bits_pow]; omega
  · rw [oddUp_some T, htn _ (ways_ok ⟨n0, T.l0⟩).1, htn _ (ways_ok ⟨n0, T.l0⟩).2.1, htn _ (ways_ok ⟨n0, T.l0⟩).2.2.1]; exact es
  · rw [best_row T9 T]; exact edq
  · have : dr X n0 = [s2, s1, s0] := eds
    rw [this]; simp only [esum]; congr 1; omega
  · have : dr X n1 = [q2, q1, q0] := edq
    rw [this]; simp only [esum]; congr 1; omega
  · omega
  · omega
theorem law_facts : ∃ f g ev, LawFacts X Y tb tn lo u vs f g ev := by
  by_cases h : ∃ i, i < 6 ∧ wv Y i ≠ 0
  · obtain ⟨n0, n1, c, T⟩ := T9.six.some h
    exact ⟨_, _, _, facts_some T9 hsh htn elo eu hvs T⟩
  · exact ⟨_, _, _, facts_none T9 hsh htn elo eu hvs fun i hi => Classical.byContradiction fun hn => h ⟨i, hi, hn⟩⟩
end
end Mine
end
section
set_option maxRecDepth 100000
namespace Mine
open Builtin.Int (intBits)
set_option maxHeartbeats 4000000 in
theorem segV {w : World} {loose : List Str} {mean : ExcName → Option Value} {mg mb : Str → Option Value} {fa : Addr} {cd : Value} {base h₀ : Heap} {L : Addr} {m : Str → Option Value} {s : Shared} {E : Value → Shared → Prop} {Q : Flow → Shared → Prop} {sc : Scope} {bd : List Stmt} {st0 st1 : Stmt} (hsc : sc = lawScope) (hbd : lawBody.drop 16 = st0 :: st1 :: bd) {O R : Addr} {ov vs : List Value} {nn : Nat} {od sl tl : List Int} {rs : List (List Int)} {dl : List Str} {q0 q1 q2 : Int} {rst : List (Addr × Obj)}
   (B : Below callerA base [] h₀) (F : Fr h₀ L s.heap m) (X : (hd.heap_39 w.params).In h₀) (N : News h₀ L s.heap ((O, W.listOf (List.toArray ov) nn) :: (R, LCg.lst vs) :: rst)) (T : Top topProg loose mean mg mb h₀) (qR : m (Str.ofString "rows") = some (.ref R)) (qO : m (Str.ofString "odd") = some (.ref O)) (hov : IntsAre ov od) (hol : od.length ≤ 9) (hvl : vs.length ≤ 6) (hR : RowsAre rst vs rs) (hso : srt od = sl) (hbest : (rs ++ [[]]).getD (bestRow (rs ++ [[]])) [] = [q2, q1, q0])
   (hT : keepF (fun i => decide (([q0, q1, q2] : List Int).getD i 0 < 11)) (fun i => ([q0, q1, q2] : List Int).getD i 0 + 21) 3 = tl) (hlen : (sl ++ tl).length ≤ 6) (hwb : ∀ i, i < (sl ++ tl).length → 0 ≤ (sl ++ tl).getD i 0 ∧ (sl ++ tl).getD i 0 < 32) (hD : (List.range (sl ++ tl).length).map (fun i => pfWord PFT ((sl ++ tl).getD i 0).toNat) = dl)
   (hnext : ∀ (Du Rw : Addr) (dv wv : List Value) (cw : Nat) m' h' tk', StrsAre dv dl → IntsAre wv [q0, q1, q2] → LCg.Off1 Du ((Rw, W.listOf (List.toArray wv) cw) :: (R, LCg.lst vs) :: rst) → Fr h₀ L h' m' → (∀ y, [Str.ofString "row", Str.ofString "due"].contains y = false → m' y = m y) → m' (Str.ofString "row") = some (.ref Rw) → m' (Str.ofString "due") = some (.ref Du) → News h₀ L h' ((Du, LCg.lst dv) :: (Rw, W.listOf (List.toArray wv) cw) :: (R, LCg.lst vs) :: rst) → wpAny (model PySem.Challenge.rw_wo0032_01.row.prog w) (callerA.deeper (envOfC (Str.ofString "law") sc L fa cd)) (execs bd (envOfC (Str.ofString "law") sc L fa cd)) Q E { s with heap := h', toks := tk' }) : wpAny (model PySem.Challenge.rw_wo0032_01.row.prog w) (callerA.deeper (envOfC (Str.ofString "law") sc L fa cd)) (execs (st0 :: st1 :: bd) (envOfC (Str.ofString "law") sc L fa cd)) Q E s := by
  w_top off
  k_with_none
  k_with "LT1!" => (first | with_reducible assumption | with_reducible exact Nat.lt_succ_self _ | with_reducible exact And.left (by assumption) | with_reducible exact And.left (And.right (by assumption)) | with_reducible exact And.left (And.right (And.right (by assumption))) | with_reducible exact And.left (And.right (And.right (And.right (by assumption)))) | with_reducible exact And.left (And.right (And.right (And.right (And.right (by assumption))))) | with_reducible exact And.left (And.right (And.right (And.right (And.right (And.right (by assumption)))))) | with_reducible exact And.right (by assumption) | with_reducible exact And.right (And.right (by assumption)) | with_reducible exact And.right (And.right (And.right (by assumption))) | with_reducible exact And.right (And.right (And.right (And.right (by assumption)))))
  k_with "LT!" => (first | k_extra "LT1!" | ((with_reducible refine (Nat.lt_succ_of_lt ?_ : @LT.lt Nat _ _ (_ + 1))); first | k_extra "LT1!" | ((with_reducible refine (Nat.lt_succ_of_lt ?_ : @LT.lt Nat _ _ (_ + 1))); first | k_extra "LT1!" | ((with_reducible refine (Nat.lt_succ_of_lt ?_ : @LT.lt Nat _ _ (_ + 1))); k_extra "LT1!"))))
  k_with "NE!" => (first | with_reducible assumption | with_reducible exact Ne.symm (by assumption) | decide | ((fail_if_success (fail_if_success omega)); first | ((with_reducible refine Nat.ne_of_gt ?_); (fail_if_success (fail_if_success omega)); k_extra "LT!") | ((with_reducible refine Nat.ne_of_lt ?_); (fail_if_success (fail_if_success omega)); k_extra "LT!") | with_reducible exact And.left (by assumption) | with_reducible exact And.left (And.right (by assumption)) | with_reducible exact And.left (And.right (And.right (by assumption))) | omega))
  k_with "KNE!" => ((refine neN ?_; (try dsimp only); k_extra "NE!"))
  k_with "LBND!" => (first | assumption | decide | with_reducible exact Int.lt_of_lt_of_le (by assumption) (by decide) | with_reducible exact Int.lt_of_le_of_lt (by assumption) (by decide) | with_reducible exact Int.le_trans (by assumption) (by decide) | with_reducible exact Int.lt_of_lt_of_le (by decide) (by assumption) | with_reducible exact Int.le_trans (by decide) (by assumption) | with_reducible exact Int.natCast_nonneg _ | with_reducible exact Int.ne_of_gt (by assumption) | with_reducible exact Int.le_of_lt (by assumption) | with_reducible exact Nat.lt_of_lt_of_le (by assumption) (by decide) | with_reducible exact Nat.lt_of_le_of_lt (by assumption) (by decide) | with_reducible exact Nat.le_trans (by assumption) (by decide) | k_dflt omega | l_fact)
  k_with "ROOM!" => (((try simp only [depth_under_make, depth_under_kw, depth_in1, depth_deeper, depth_caller]); (try dsimp only [ktrTop]); first | with_reducible assumption | exact room_0 (by with_reducible assumption) | exact room_le (by with_reducible assumption) (by decide) | exact room_12 (by with_reducible assumption) (by decide)))
  k_with "UNITS!" => (((try simp only [units_in1, units_deeper, Around.mark_units, units_caller]); (try dsimp only [ktrTop]); first | with_reducible assumption | exact room_0 (by with_reducible assumption) | exact room_le (by with_reducible assumption) (by decide) | exact room_12 (by with_reducible assumption) (by decide) | exact room_123 (by with_reducible assumption) (by decide)))
  k_with "BITS!" => (first | (with_reducible assumption) | ((with_reducible refine bits_le_of_lt ?_ ?_) <;> l_bnd))
  k_with "ALL!" => (first | assumption | (refine' allNe (by assumption)) | (refine' neOfLt (by assumption)))
  k_with "EV!" => ((repeat' (first | exact Ev.const | exact Ev.cap (by with_unfolding_all rfl) | exact Ev.loc (by with_unfolding_all rfl) (by with_unfolding_all rfl) (by decide) | apply Ev.and1 | apply Ev.add | apply Ev.sub | apply Ev.neg | apply Ev.mul | apply Ev.fmod | apply Ev.fdiv | apply Ev.pow | apply Ev.shr | apply Ev.item (by with_unfolding_all rfl) (hs := by intro _ _; with_unfolding_all rfl) | apply Ev.bxor | apply Ev.band | apply EvP.lt (hm := by with_unfolding_all rfl) | apply EvP.le (hm := by with_unfolding_all rfl) | apply EvP.gt (hm := by with_unfolding_all rfl) | apply EvP.ge (hm := by with_unfolding_all rfl) | apply EvP.eq (hm := by with_unfolding_all rfl) | apply EvP.ne (hm := by with_unfolding_all rfl) | apply EvP.lelt (hm := by with_unfolding_all rfl) | apply EvP.not | apply EvP.int (hi := by rfl) | ((with_reducible show IntMulOk _ _); refine IntMulOk.of_le (by bits_by_make) (by bits_by_make) (by decide)) | exact PyProof.noPylong_small (by decide) | k_extra "EVC!" | ((fail_if_success (with_reducible show Int)); l_bnd))))
  k_with "EVC!" => (fail)
  k_with "newList" => ((k_here; k_dflt (refine' newList_K (by assumption) (by assumption) ?_ (Nat.le_of_ble_eq_true rfl)); intro D' h' F' N' l1; (try k_lt l1)))
  have hovl := hov.length
  with_unfolding_all (conv at hsc => rhs; whnf)
  dsimp only at hsc
  with_unfolding_all (conv at hbd => lhs; whnf)
  injection hbd with hst0 hbd
  (try dsimp only at hst0)
  with_unfolding_all (conv at hbd => lhs; whnf)
  injection hbd with hst1 hbd
  (try dsimp only at hst1)
  clear hbd
  subst hsc hst0 hst1
  replace F := fr_focus qO F
  replace F := fr_focus (k := Str.ofString "rows") (v := .ref R) (by (try dsimp only); rw [if_neg (by decide)]; exact qR) F
  revert B F X N T
  k_fill
  intro B F X N T
  k_with "call builtin:max" => ((with_reducible show wpAny _ _ (call _ [Value.ref _]) _ _ _); k_dflt (refine r_maxrows (rs := rs ++ [[]]) (by rfl) (by k_asm) (by k_asm) (by k_mem) (hR.nils (by intro p hp; repeat (first | exact hp | apply List.Mem.tail)) (by k_mem)) (by simp) (by ke_room) ?_); intro a9 ivs9 c9 h9 k9 hi9 F9 N9; rw [hbest] at hi9; (obtain ⟨u7, u8, u9, rfl⟩ := ints3 hi9); (have hql := IntsAre.cons q0 u9 (IntsAre.cons q1 u8 (IntsAre.cons q2 u7 IntsAre.nil))))
  k_with "call builtin:sorted" => (k_dflt (refine r_srt (vs := ov) (ns := od) (by k_asm) (by k_asm) (by k_mem) hov (Nat.lt_of_le_of_lt hol (by decide)) hso ?_); intro D9 ws9 c9 h9 F9 N9 l9 hw9; (try k_lt l9))
  k_with "call ref" => (((with_unfolding_all refine c_word (by k_asm) (by k_asm) (by k_asm) (by k_asm) (by k_asm) (by rfl) hb9.1 hb9.2 (by ktr_room) (by ktr_units) ?_); intro t9 h9 k9 F9 N9; (try dsimp only); (try k_fold)))
  k_with "binaryOp Add ref ref" => (k_dflt (refine r_addl (vs := ws9) (ws := ys9) (by k_asm) (by k_asm) (by k_mem) (by k_mem) (by have e1 := hw9.length; have e2 := hs9.length; rw [List.length_append] at hlen; omega) ?_); intro D' h' F' N' l1; (have hz9 := hw9.append hs9); (try k_lt l1))
  k_with "CompSrcT" => (k_dflt (refine LCt.CompSrcT.ledger (by rfl) (by k_asm) (by k_asm) (by k_mem) (Nat.le_of_ble_eq_true rfl) ?_; intro g9; (refine compT_ints (fun i => decide (([q0, q1, q2] : List Int).getD i 0 < 11)) (fun i => ([q0, q1, q2] : List Int).getD i 0 + 21) (.inr ⟨_, by k_mem, rfl, _, rfl⟩) ?_ ?_ ?_); (rotate_left); (rotate_left); (intro ys9 hs9; (replace hs9 : IntsAre ys9 tl := hT ▸ hs9); (try dsimp only)); (rotate_left); (intro i9 hi9 ys9 hs9 v9 I9 oI9 C9 oC9 D9 m9 h9 tk9 E9 hv9 hC9 hx9 F9 N9 off9 ne9; (obtain ⟨t9, hv9'⟩ := ints_atD hql hv9); subst hv9'; (try dsimp only)); (rotate_left); (intro i9 hi9 hg9 ys9 hs9 v9 I9 oI9 C9 oC9 D9 m9 h9 tk9 E9 hv9 hC9 hx9 F9 N9 off9 ne9; (obtain ⟨t9, hv9'⟩ := ints_atD hql hv9); subst hv9'; (try dsimp only))))
  k_with "CompSrc" => (k_dflt (refine LCg.CompSrc.ledger (by rfl) (by k_asm) (by k_asm) (by k_mem) (by rw [sizeLine_eq, List.size_toArray, hz9.length]; exact Nat.le_trans hlen (by decide)) ?_; intro g9; (refine compG_strs (fun i => pfWord PFT ((sl ++ tl).getD i 0).toNat) (.inr ⟨_, by k_mem, rfl, _, rfl⟩) ?_ ?_); (rotate_left); (intro ys8 hs8; (replace hs8 : StrsAre ys8 dl := by rw [← hD, ← hz9.length]; exact hs8); (try dsimp only)); (rotate_left); (intro i9 hi9 ys9 hs9 v9 I9 oI9 C9 oC9 D9 m9 h9 tk9 E9 hv9 hC9 hx9 F9 N9 off9 ne9; (obtain ⟨t9', hv9'⟩ := ints_atD hz9 hv9; subst hv9'); (have hb9 := hwb i9 (by rw [← hz9.length]; exact hi9)); (try dsimp only))))
  k_with "IEnd" => (first | with_unfolding_all refine IEnd.int (by first | exact rfl | assumption) (by assumption) (by assumption) (by intro p hp; first | exact hp | exact List.Mem.tail _ hp) | with_unfolding_all refine IEnd.str (by first | exact rfl | assumption) (by assumption) (by assumption) (by intro p hp; first | exact hp | exact List.Mem.tail _ hp))
  k_with "BEnd" => (with_unfolding_all refine BEnd.intro (by first | exact rfl | assumption) (by assumption) (by assumption) (by intro p hp; exact hp))
  k_with "FinE" => (k_dflt (unfold LCg.FinE); intro D9 h9 k9 F9 N9 o9; (have o19 := o9); (try simp only [LCg.Off1, and_true] at o19); (try simp only [List.nil_append, List.cons_append] at N9); (try dsimp only))
  k_with "FinA" => (k_dflt (unfold LCg.FinA); intro D8 h8 k8 F8 N8 o8; (have o18 := o8); (try simp only [LCg.Off1, and_true] at o18); (try simp only [List.nil_append, List.cons_append] at N8); (try dsimp only))
  k_with "eval ListComp" => (k_dflt (refine LCt.ListComp_T (F₀ := by k_asm) (by with_unfolding_all rfl) (by decide) (by rfl) (by decide) (by rfl) ?_))
  k_with "exec Assign cons ListComp" => (k_dflt (refine LCg.Assign_ListComp_U (F₀ := by k_asm) (by rfl) (by with_unfolding_all rfl) (by with_unfolding_all rfl) (by decide) (by rfl) (by decide) (by rfl) (by rfl) (by rfl) ?_))

  k_steps
  with_unfolding_all refine hnext D8 _ ys8 _ 0 _ _ _ hs8 hql ⟨o18.2.2.2.1, o18.2.2.2.2.2.2.2.2.2.1, o18.2.2.2.2.2.2.2.2.2.2⟩ F8 (by intro z h2; simp only [List.contains_cons, List.contains_nil, Bool.or_false, Bool.or_eq_false_iff, beq_eq_false_iff_ne, ne_eq] at h2; simp only [h2, if_false, ite_focus qR, ite_focus qO]) (by with_unfolding_all rfl) (by with_unfolding_all rfl) (cb_drop N8 fun q hq => by simp only [List.mem_cons] at hq ⊢; rcases hq with h | h | h | h <;> simp only [h, true_or, or_true])
end Mine
end
section
set_option maxRecDepth 100000
namespace Mine
open Builtin.Int (intBits)

section
variable {prog : Program} {w : World} {A : Around} {E : Value → Shared → Prop} {s : Shared} {h₀ : Heap} {L : Addr} {m : Str → Option Value} {news : List (Addr × Obj)} {Q : Value → Shared → Prop}
theorem r_app3 {D : Addr} {ys : List Value} {v : Value} {c : Nat} {rst : List (Addr × Obj)} (F : Fr h₀ L s.heap m) (N : News h₀ L s.heap news) (hD : (D, W.listOf (List.toArray ys) c) ∈ news) (hz : ys.length ≤ 1000)
    (hsub : ∀ p ∈ rst, p ∈ news) (hoff : ∀ p ∈ rst, p.1 ≠ D)
    (h : ∀ h', Fr h₀ L h' m → News h₀ L h' ((D, W.listOf (List.toArray (ys ++ [v])) (c + 1)) :: rst) → Q .none { s with heap := h' }) : wpAny (model prog w) A (call (.builtin "list.append") [.ref D, v]) Q E s := by
  have nD := N _ hD
  refine append_at nD.1 (fun h' hs hD' => ?_) (hsz := by rw [sizeLine_eq]; simp; omega)
  refine h h' (F.change hs nD.2.1 nD.2.2) fun p hp => ?_
  rcases List.mem_cons.mp hp with rfl | hp
  · exact ⟨by rw [hD', List.push_toArray], nD.2⟩
  · have np := N p (hsub p hp)
    exact ⟨(hs.2 p.1 (hoff p hp)).trans np.1, np.2⟩
end
theorem turn_exp {q : Int} (h : q > 10) (h2 : q ≤ 12) : 0 ≤ q - 11 ∧ (intBits 2 : Int) * (q - 11) ≤ 2 ^ 27 := by rw [show intBits 2 = 2 by decide]; omega
theorem q_le {q0 q1 q2 : Int} (h0 : q0 ≤ 12) (h1 : q1 ≤ 12) (h2 : q2 ≤ 12) : ∀ i, ([q0, q1, q2] : List Int).getD i 0 ≤ 12
  | 0 => h0
  | 1 => h1
  | 2 => h2
  | _ + 3 => show (0 : Int) ≤ 12 by decide
theorem ab_log {a : Int} (h0 : 0 ≤ a) (h : a ≤ 3) : a.natAbs.log2 < 1920 := by
  have : a.natAbs < 2 ^ 2 := by omega
  by_cases e : a.natAbs = 0
  · rw [e]; decide
  · exact Nat.lt_of_lt_of_le ((Nat.log2_lt e).mpr this) (by decide)
set_option maxHeartbeats 4000000 in
theorem segW {w : World} {loose : List Str} {mean : ExcName → Option Value} {mg mb : Str → Option Value} {fa : Addr} {cd : Value} {base h₀ : Heap} {L : Addr} {m : Str → Option Value} {s : Shared} {E : Value → Shared → Prop} {Q : Flow → Shared → Prop} {sc : Scope} {bd : List Stmt} {st0 st1 : Stmt} (hsc : sc = lawScope) (hbd : lawBody.drop 18 = st0 :: st1 :: bd) {Du Rw R : Addr} {dv wv vs : List Value} {cw : Nat} {dl dl' : List Str} {q0 q1 q2 ab : Int} {rst : List (Addr × Obj)}
   (B : Below callerA base [] h₀) (F : Fr h₀ L s.heap m) (X : (hd.heap_39 w.params).In h₀) (N : News h₀ L s.heap ((Du, LCg.lst dv) :: (Rw, W.listOf (List.toArray wv) cw) :: (R, LCg.lst vs) :: rst)) (T : Top topProg loose mean mg mb h₀) (qW : m (Str.ofString "row") = some (.ref Rw)) (qD : m (Str.ofString "due") = some (.ref Du)) (hdv : StrsAre dv dl) (hwv : IntsAre wv [q0, q1, q2]) (hql : ∀ i, ([q0, q1, q2] : List Int).getD i 0 ≤ 12) (hdl : dl.length ≤ 6) (hoff : LCg.Off1 Du ((Rw, W.listOf (List.toArray wv) cw) :: (R, LCg.lst vs) :: rst))
   (hA : (keepF (fun i => decide (([q0, q1, q2] : List Int).getD i 0 > 10)) (fun i => (2 : Int) ^ (([q0, q1, q2] : List Int).getD i 0 - 11).toNat) 3).sum = ab) (ha0 : 0 ≤ ab) (ha3 : ab ≤ 3)
   (hnext : ∀ (dv' : List Value) (dl' : List Str) (c : Nat) m' h' tk', StrsAre dv' dl' → (¬ ab > 0 → dl' = dl) → (ab > 0 → dl' = dl ++ [Str.ofString "0x" ++ Str.ofString (toString ab) ++ Txt.mul (Str.ofString "0") 8]) → Fr h₀ L h' m' → (∀ y, [Str.ofString "above"].contains y = false → m' y = m y) → News h₀ L h' ((Du, W.listOf (List.toArray dv') c) :: (Rw, W.listOf (List.toArray wv) cw) :: (R, LCg.lst vs) :: rst) → wpAny (model PySem.Challenge.rw_wo0032_01.row.prog w) (callerA.deeper (envOfC (Str.ofString "law") sc L fa cd)) (execs bd (envOfC (Str.ofString "law") sc L fa cd)) Q E { s with heap := h', toks := tk' }) : wpAny (model PySem.Challenge.rw_wo0032_01.row.prog w) (callerA.deeper (envOfC (Str.ofString "law") sc L fa cd)) (execs (st0 :: st1 :: bd) (envOfC (Str.ofString "law") sc L fa cd)) Q E s := by
  w_top off
  k_with_none
  k_with "LT1!" => (first | with_reducible assumption | with_reducible exact Nat.lt_succ_self _ | with_reducible exact And.left (by assumption) | with_reducible exact And.left (And.right (by assumption)) | with_reducible exact And.left (And.right (And.right (by assumption))) | with_reducible exact And.left (And.right (And.right (And.right (by assumption)))) | with_reducible exact And.left (And.right (And.right (And.right (And.right (by assumption))))) | with_reducible exact And.left (And.right (And.right (And.right (And.right (And.right (by assumption)))))) | with_reducible exact And.right (by assumption) | with_reducible exact And.right (And.right (by assumption)) | with_reducible exact And.right (And.right (And.right (by assumption))) | with_reducible exact And.right (And.right (And.right (And.right (by assumption)))))
  k_with "LT!" => (first | k_extra "LT1!" | ((with_reducible refine (Nat.lt_succ_of_lt ?_ : @LT.lt Nat _ _ (_ + 1))); first | k_extra "LT1!" | ((with_reducible refine (Nat.lt_succ_of_lt ?_ : @LT.lt Nat _ _ (_ + 1))); first | k_extra "LT1!" | ((with_reducible refine (Nat.lt_succ_of_lt ?_ : @LT.lt Nat _ _ (_ + 1))); k_extra "LT1!"))))
  k_with "NE!" => (first | with_reducible assumption | with_reducible exact Ne.symm (by assumption) | decide | ((fail_if_success (fail_if_success omega)); first | ((with_reducible refine Nat.ne_of_gt ?_); (fail_if_success (fail_if_success omega)); k_extra "LT!") | ((with_reducible refine Nat.ne_of_lt ?_); (fail_if_success (fail_if_success omega)); k_extra "LT!") | with_reducible exact And.left (by assumption) | with_reducible exact And.left (And.right (by assumption)) | with_reducible exact And.left (And.right (And.right (by assumption))) | omega))
  k_with "KNE!" => ((refine neN ?_; (try dsimp only); k_extra "NE!"))
  k_with "LBND!" => (first | assumption | decide | with_reducible exact Int.lt_of_lt_of_le (by assumption) (by decide) | with_reducible exact Int.lt_of_le_of_lt (by assumption) (by decide) | with_reducible exact Int.le_trans (by assumption) (by decide) | with_reducible exact Int.lt_of_lt_of_le (by decide) (by assumption) | with_reducible exact Int.le_trans (by decide) (by assumption) | with_reducible exact Int.natCast_nonneg _ | with_reducible exact Int.ne_of_gt (by assumption) | with_reducible exact Int.le_of_lt (by assumption) | with_reducible exact Nat.lt_of_lt_of_le (by assumption) (by decide) | with_reducible exact Nat.lt_of_le_of_lt (by assumption) (by decide) | with_reducible exact Nat.le_trans (by assumption) (by decide) | k_dflt omega | l_fact)
  k_with "ROOM!" => (((try simp only [depth_under_make, depth_under_kw, depth_in1, depth_deeper, depth_caller]); (try dsimp only [ktrTop]); first | with_reducible assumption | exact room_0 (by with_reducible assumption) | exact room_le (by with_reducible assumption) (by decide) | exact room_12 (by with_reducible assumption) (by decide)))
  k_with "UNITS!" => (((try simp only [units_in1, units_deeper, Around.mark_units, units_caller]); (try dsimp only [ktrTop]); first | with_reducible assumption | exact room_0 (by with_reducible assumption) | exact room_le (by with_reducible assumption) (by decide) | exact room_12 (by with_reducible assumption) (by decide) | exact room_123 (by with_reducible assumption) (by decide)))
  k_with "BITS!" => (first | (with_reducible assumption) | ((with_reducible refine bits_le_of_lt ?_ ?_) <;> l_bnd))
  k_with "ALL!" => (first | assumption | (refine' allNe (by assumption)) | (refine' neOfLt (by assumption)))
  k_with "EV!" => ((repeat' (first | exact Ev.const | exact Ev.cap (by with_unfolding_all rfl) | exact Ev.loc (by with_unfolding_all rfl) (by with_unfolding_all rfl) (by decide) | apply Ev.and1 | apply Ev.add | apply Ev.sub | apply Ev.neg | apply Ev.mul | apply Ev.fmod | apply Ev.fdiv | apply Ev.pow | apply Ev.shr | apply Ev.item (by with_unfolding_all rfl) (hs := by intro _ _; with_unfolding_all rfl) | apply Ev.bxor | apply Ev.band | apply EvP.lt (hm := by with_unfolding_all rfl) | apply EvP.le (hm := by with_unfolding_all rfl) | apply EvP.gt (hm := by with_unfolding_all rfl) | apply EvP.ge (hm := by with_unfolding_all rfl) | apply EvP.eq (hm := by with_unfolding_all rfl) | apply EvP.ne (hm := by with_unfolding_all rfl) | apply EvP.lelt (hm := by with_unfolding_all rfl) | apply EvP.not | apply EvP.int (hi := by rfl) | ((with_reducible show IntMulOk _ _); refine IntMulOk.of_le (by bits_by_make) (by bits_by_make) (by decide)) | exact PyProof.noPylong_small (by decide) | k_extra "EVC!" | ((fail_if_success (with_reducible show Int)); l_bnd))))
  k_with "EVC!" => (fail)
  have hdvl := hdv.length
  with_unfolding_all (conv at hsc => rhs; whnf)
  dsimp only at hsc
  with_unfolding_all (conv at hbd => lhs; whnf)
  injection hbd with hst0 hbd
  (try dsimp only at hst0)
  with_unfolding_all (conv at hbd => lhs; whnf)
  injection hbd with hst1 hbd
  (try dsimp only at hst1)
  clear hbd
  subst hsc hst0 hst1
  replace F := fr_focus qD F
  replace F := fr_focus (k := Str.ofString "row") (v := .ref Rw) (by (try dsimp only); rw [if_neg (by decide)]; exact qW) F
  revert B F X N T
  k_fill
  intro B F X N T
  k_with "CompSrcT" => (k_dflt (refine LCt.CompSrcT.ledger (by rfl) (by k_asm) (by k_asm) (by k_mem) (by rw [sizeLine_eq, List.size_toArray, hwv.length]; exact (Nat.le_of_ble_eq_true rfl : 3 ≤ 16777216)) ?_; intro g9; (refine compT_ints (fun i => decide (([q0, q1, q2] : List Int).getD i 0 > 10)) (fun i => (2 : Int) ^ (([q0, q1, q2] : List Int).getD i 0 - 11).toNat) (.inr ⟨_, by k_mem, rfl, _, rfl⟩) ?_ ?_ ?_); (rotate_left); (rotate_left); (intro ys9 hs9; (replace hs9 : IntsAre ys9 (keepF (fun i => decide (([q0, q1, q2] : List Int).getD i 0 > 10)) (fun i => (2 : Int) ^ (([q0, q1, q2] : List Int).getD i 0 - 11).toNat) 3) := by rw [List.size_toArray, hwv.length] at hs9; exact hs9); (try dsimp only)); (rotate_left); (intro i9 hi9 ys9 hs9 v9 I9 oI9 C9 oC9 D9 m9 h9 tk9 E9 hv9 hC9 hx9 F9 N9 off9 ne9; (obtain ⟨t9, hv9'⟩ := ints_atD hwv hv9); subst hv9'; (try dsimp only)); (rotate_left); (intro i9 hi9 hg9 ys9 hs9 v9 I9 oI9 C9 oC9 D9 m9 h9 tk9 E9 hv9 hC9 hx9 F9 N9 off9 ne9; (obtain ⟨t9, hv9'⟩ := ints_atD hwv hv9); subst hv9'; (have hx8 := turn_exp (of_decide_eq_true hg9) (hql i9)); (try dsimp only))))
  k_with "IEnd" => (with_unfolding_all refine IEnd.int (by first | exact rfl | assumption) (by assumption) (by assumption) (by intro p hp; first | exact hp | exact List.Mem.tail _ hp))
  k_with "BEnd" => (with_unfolding_all refine BEnd.intro (by first | exact rfl | assumption) (by assumption) (by assumption) (by intro p hp; exact hp))
  k_with "binaryOp Pow int int" => (k_here; (with_reducible refine pow_int hx8.1 hx8.2 ?_))
  k_with "FinE" => (k_dflt (unfold LCg.FinE); intro D9 h9 k9 F9 N9 o9; (have o19 := o9); (try simp only [LCg.Off1, and_true] at o19); (try simp only [List.nil_append, List.cons_append] at N9); (try dsimp only))
  k_with "eval ListComp" => (k_dflt (refine LCt.ListComp_T (F₀ := by k_asm) (by with_unfolding_all rfl) (by decide) (by rfl) (by decide) (by rfl) ?_))
  k_with "call builtin:sum" => (k_dflt (refine sumK (by with_unfolding_all rfl) (by k_asm) (by k_asm) (news_list (by k_asm) (by k_mem)) hs9 ?_); intro h6 k6 t6 F6 N6; (rw [hA]); (try dsimp only))
  k_with "call type:str" => (k_dflt (refine r_strlit (n := ab) rfl (ab_log ha0 ha3) rfl ?_))
  k_with "call builtin:list.append" => (k_dflt (refine r_app3 (ys := dv) (rst := (Rw, W.listOf (List.toArray wv) cw) :: (R, LCg.lst vs) :: rst) (by k_asm) (by k_asm) (by k_mem) (by rw [hdvl]; exact Nat.le_trans hdl (by decide)) (by intro p hp; repeat (first | exact hp | apply List.Mem.tail)) (off1_mem hoff) ?_); intro h5 F5 N5)
  k_steps
  · (try dsimp only)
    with_unfolding_all refine hnext _ _ _ _ _ _ (hdv.append' (.cons _ _ .nil)) (fun h => absurd (by assumption) h) (fun _ => rfl) F5 (by intro z h2; simp only [List.contains_cons, List.contains_nil, Bool.or_false, Bool.or_eq_false_iff, beq_eq_false_iff_ne, ne_eq] at h2; simp only [h2, if_false, ite_focus qW, ite_focus qD]) N5
  · (try dsimp only)
    (with_reducible rename News _ _ _ _ => nN)
    with_unfolding_all refine hnext _ _ dv.length _ _ _ hdv (fun _ => rfl) (fun h => absurd h (by assumption)) (by assumption) (by intro z h2; simp only [List.contains_cons, List.contains_nil, Bool.or_false, Bool.or_eq_false_iff, beq_eq_false_iff_ne, ne_eq] at h2; simp only [h2, if_false, ite_focus qW, ite_focus qD]) (fun p hp => nN p (List.Mem.tail _ (by with_unfolding_all exact hp)))
end Mine
end
section
set_option maxRecDepth 100000
namespace Mine
open Builtin.Int (intBits)
set_option maxHeartbeats 4000000 in
theorem segX {w : World} {loose : List Str} {mean : ExcName → Option Value} {mg mb : Str → Option Value} {fa : Addr} {cd : Value} {base h₀ : Heap} {L : Addr} {m : Str → Option Value} {s : Shared} {E : Value → Shared → Prop} {Q : Flow → Shared → Prop} {sc : Scope} {bd : List Stmt} {st0 : Stmt} (hsc : sc = lawScope) (hbd : lawBody.drop 20 = st0 :: bd) {Du R : Addr} {dv vs : List Value} {c : Nat} {dl : List Str} {f g : Int} {b1 b2 : Tok} {rst : List (Addr × Obj)}
   (B : Below callerA base [] h₀) (F : Fr h₀ L s.heap m) (X : (hd.heap_39 w.params).In h₀) (N : News h₀ L s.heap ((Du, W.listOf (List.toArray dv) c) :: (R, LCg.lst vs) :: rst)) (T : Top topProg loose mean mg mb h₀) (qD : m (Str.ofString "due") = some (.ref Du)) (qR : m (Str.ofString "rows") = some (.ref R)) (qf : m (Str.ofString "first") = some (.int f b1)) (qg : m (Str.ofString "last") = some (.int g b2)) (hdv : StrsAre dv dl) (hvs : vs ≠ []) (hdl : (∀ x ∈ dl, x.length ≤ 100) ∧ dl.length ≤ 100)
   (hn : 0 ≤ ((if 0 > f then 0 else f) + (if 0 > g then 0 else g) * 2 ^ Int.toNat 21) ∧ ((if 0 > f then 0 else f) + (if 0 > g then 0 else g) * 2 ^ Int.toNat 21) < 2 ^ 60) (hpf : pfW PFT ((if 0 > f then 0 else f) + (if 0 > g then 0 else g) * 2 ^ Int.toNat 21) = dl)
   (hret : ∀ m' h' tk', Fr h₀ L h' m' → News h₀ L h' rst → Q (.ret (.bool true)) { s with heap := h', toks := tk' }) : wpAny (model PySem.Challenge.rw_wo0032_01.row.prog w) (callerA.deeper (envOfC (Str.ofString "law") sc L fa cd)) (execs (st0 :: bd) (envOfC (Str.ofString "law") sc L fa cd)) Q E s := by
  w_top off
  k_with_none
  k_with "LT1!" => (first | with_reducible assumption | with_reducible exact Nat.lt_succ_self _ | with_reducible exact And.left (by assumption) | with_reducible exact And.left (And.right (by assumption)) | with_reducible exact And.left (And.right (And.right (by assumption))) | with_reducible exact And.left (And.right (And.right (And.right (by assumption)))) | with_reducible exact And.left (And.right (And.right (And.right (And.right (by assumption))))) | with_reducible exact And.left (And.right (And.right (And.right (And.right (And.right (by assumption)))))) | with_reducible exact And.right (by assumption) | with_reducible exact And.right (And.right (by assumption)) | with_reducible exact And.right (And.right (And.right (by assumption))) | with_reducible exact And.right (And.right (And.right (And.right (by assumption)))))
  k_with "LT!" => (first | k_extra "LT1!" | ((with_reducible refine (Nat.lt_succ_of_lt ?_ : @LT.lt Nat _ _ (_ + 1))); first | k_extra "LT1!" | ((with_reducible refine (Nat.lt_succ_of_lt ?_ : @LT.lt Nat _ _ (_ + 1))); first | k_extra "LT1!" | ((with_reducible refine (Nat.lt_succ_of_lt ?_ : @LT.lt Nat _ _ (_ + 1))); k_extra "LT1!"))))
  k_with "NE!" => (first | with_reducible assumption | with_reducible exact Ne.symm (by assumption) | decide | ((fail_if_success (fail_if_success omega)); first | ((with_reducible refine Nat.ne_of_gt ?_); (fail_if_success (fail_if_success omega)); k_extra "LT!") | ((with_reducible refine Nat.ne_of_lt ?_); (fail_if_success (fail_if_success omega)); k_extra "LT!") | with_reducible exact And.left (by assumption) | with_reducible exact And.left (And.right (by assumption)) | with_reducible exact And.left (And.right (And.right (by assumption))) | omega))
  k_with "KNE!" => ((refine neN ?_; (try dsimp only); k_extra "NE!"))
  k_with "LBND!" => (first | assumption | decide | with_reducible exact Int.lt_of_lt_of_le (by assumption) (by decide) | with_reducible exact Int.lt_of_le_of_lt (by assumption) (by decide) | with_reducible exact Int.le_trans (by assumption) (by decide) | with_reducible exact Int.lt_of_lt_of_le (by decide) (by assumption) | with_reducible exact Int.le_trans (by decide) (by assumption) | with_reducible exact Int.natCast_nonneg _ | with_reducible exact Int.ne_of_gt (by assumption) | with_reducible exact Int.le_of_lt (by assumption) | with_reducible exact Nat.lt_of_lt_of_le (by assumption) (by decide) | with_reducible exact Nat.lt_of_le_of_lt (by assumption) (by decide) | with_reducible exact Nat.le_trans (by assumption) (by decide) | k_dflt omega | l_fact)
  k_with "ROOM!" => (((try simp only [depth_under_make, depth_under_kw, depth_in1, depth_deeper, depth_caller]); (try dsimp only [ktrTop]); first | with_reducible assumption | exact room_0 (by with_reducible assumption) | exact room_le (by with_reducible assumption) (by decide) | exact room_12 (by with_reducible assumption) (by decide)))
  k_with "UNITS!" => (((try simp only [units_in1, units_deeper, Around.mark_units, units_caller]); (try dsimp only [ktrTop]); first | with_reducible assumption | exact room_0 (by with_reducible assumption) | exact room_le (by with_reducible assumption) (by decide) | exact room_12 (by with_reducible assumption) (by decide) | exact room_123 (by with_reducible assumption) (by decide)))
  k_with "BITS!" => (first | (with_reducible assumption) | ((with_reducible refine bits_le_of_lt ?_ ?_) <;> l_bnd))
  k_with "ALL!" => (first | assumption | (refine' allNe (by assumption)) | (refine' neOfLt (by assumption)))
  k_with "EV!" => ((repeat' (first | exact Ev.const | exact Ev.cap (by with_unfolding_all rfl) | exact Ev.loc (by with_unfolding_all rfl) (by with_unfolding_all rfl) (by decide) | apply Ev.and1 | apply Ev.add | apply Ev.sub | apply Ev.neg | apply Ev.mul | apply Ev.fmod | apply Ev.fdiv | apply Ev.pow | apply Ev.shr | apply Ev.item (by with_unfolding_all rfl) (hs := by intro _ _; with_unfolding_all rfl) | apply Ev.bxor | apply Ev.band | apply EvP.lt (hm := by with_unfolding_all rfl) | apply EvP.le (hm := by with_unfolding_all rfl) | apply EvP.gt (hm := by with_unfolding_all rfl) | apply EvP.ge (hm := by with_unfolding_all rfl) | apply EvP.eq (hm := by with_unfolding_all rfl) | apply EvP.ne (hm := by with_unfolding_all rfl) | apply EvP.lelt (hm := by with_unfolding_all rfl) | apply EvP.not | apply EvP.int (hi := by rfl) | ((with_reducible show IntMulOk _ _); refine IntMulOk.of_le (by bits_by_make) (by bits_by_make) (by decide)) | exact PyProof.noPylong_small (by decide) | k_extra "EVC!" | ((fail_if_success (with_reducible show Int)); l_bnd))))
  k_with "EVC!" => (fail)
  k_with "newList" => ((k_here; k_dflt (refine' newList_K (by assumption) (by assumption) ?_ (Nat.le_of_ble_eq_true rfl)); intro D' h' F' N' l1; (try k_lt l1)))
  with_unfolding_all (conv at hsc => rhs; whnf)
  dsimp only at hsc
  with_unfolding_all (conv at hbd => lhs; whnf)
  injection hbd with hst0 hbd
  (try dsimp only at hst0)
  clear hbd
  subst hsc hst0
  replace F := fr_focus qg F
  replace F := fr_focus (k := Str.ofString "first") (v := .int f b1) (by (try dsimp only); rw [if_neg (by decide)]; exact qf) F
  replace F := fr_focus (k := Str.ofString "rows") (v := .ref R) (by (try dsimp only); rw [if_neg (by decide)]; rw [if_neg (by decide)]; exact qR) F
  replace F := fr_focus (k := Str.ofString "due") (v := .ref Du) (by (try dsimp only); rw [if_neg (by decide)]; rw [if_neg (by decide)]; rw [if_neg (by decide)]; exact qD) F
  revert B F X N T
  k_fill
  intro B F X N T
  k_with "call ref" => (((with_unfolding_all refine c_pf (by k_asm) (by k_asm) (by k_asm) (by k_asm) (by k_asm) (by rfl) hn.1 hn.2 (by ktr_room) (by ktr_units) ?_); intro t9 h9 k9 F9 N9; (try dsimp only); (try k_fold)))
  k_with "compareOp NotEq ref ref" => (k_dflt (refine r_ne_nil_t (R := R) (vs := vs) hvs (by k_asm) (by k_mem) (by k_mem) (by ke_room) ?_))
  k_with "call builtin:str.join" => (k_dflt (refine r_join (by k_asm) (by k_mem) hdv (by decide) hdl ?_); intro t9 k9)
  k_with "compareOp Eq str str" => (k_dflt (refine r_eqstr (congrArg (Txt.join _) hpf) ?_))
  k_steps
  (with_reducible rename News _ _ _ _ => nN)
  with_unfolding_all exact hret _ _ _ (by assumption) (cb_drop nN fun q hq => by repeat (first | exact hq | apply List.Mem.tail))
end Mine
end
section
set_option maxRecDepth 100000
namespace Mine
open Builtin.Int (intBits)
structure TailF (sl : List Int) (q0 q1 q2 : Int) (N : Int) (tl : List Int) (dl : List Str) (ab : Int) : Prop where
  hT : keepF (fun i => decide (([q0, q1, q2] : List Int).getD i 0 < 11)) (fun i => ([q0, q1, q2] : List Int).getD i 0 + 21) 3 = tl
  hlen : (sl ++ tl).length ≤ 6
  hwb : ∀ i, i < (sl ++ tl).length → 0 ≤ (sl ++ tl).getD i 0 ∧ (sl ++ tl).getD i 0 < 32
  hD : (List.range (sl ++ tl).length).map (fun i => pfWord PFT ((sl ++ tl).getD i 0).toNat) = dl
  hA : (keepF (fun i => decide (([q0, q1, q2] : List Int).getD i 0 > 10)) (fun i => (2 : Int) ^ (([q0, q1, q2] : List Int).getD i 0 - 11).toNat) 3).sum = ab
  ha0 : 0 ≤ ab
  ha3 : ab ≤ 3
  hz : ¬ ab > 0 → pfW PFT N = dl
  hp : ab > 0 → pfW PFT N = dl ++ [Str.ofString "0x" ++ Str.ofString (toString ab) ++ Txt.mul (Str.ofString "0") 8]
theorem all_mem {l : List Int} {P : Int → Prop} (h : ∀ x ∈ l, P x) : ∀ i, i < l.length → P (l.getD i 0) := fun i hi => by
  rw [List.getD_eq_getElem?_getD, List.getElem?_eq_getElem hi]; exact h _ (List.getElem_mem hi)
theorem bd_s {s : Int} (h0 : 0 ≤ s) (h : s ≤ 12) : 0 ≤ s ∧ s < 32 := by omega
theorem bd_q {q : Int} (h0 : 0 ≤ q) (h : q ≤ 10) : 0 ≤ q + 21 ∧ q + 21 < 32 := by omega
theorem k_tail (q0 q1 q2 : Int) (a : Bool) (b : Bool) (c : Bool) (h0 : decide (q0 < 11) = a) (h1 : decide (q1 < 11) = b) (h2 : decide (q2 < 11) = c) : keepF (fun i => decide (([q0, q1, q2] : List Int).getD i 0 < 11)) (fun i => ([q0, q1, q2] : List Int).getD i 0 + 21) 3 = (bif a then [q0 + 21] else []) ++ (bif b then [q1 + 21] else []) ++ (bif c then [q2 + 21] else []) := by
  subst h0 h1 h2
  simp only [keepF, List.nil_append]
  show (if decide (q0 < 11) = true then [q0 + 21] else []) ++ (if decide (q1 < 11) = true then [q1 + 21] else []) ++ (if decide (q2 < 11) = true then [q2 + 21] else []) = _
  cases decide (q0 < 11) <;> cases decide (q1 < 11) <;> cases decide (q2 < 11) <;> rfl
theorem k_above (q0 q1 q2 : Int) (a : Bool) (b : Bool) (c : Bool) (h0 : decide (q0 > 10) = a) (h1 : decide (q1 > 10) = b) (h2 : decide (q2 > 10) = c) : (keepF (fun i => decide (([q0, q1, q2] : List Int).getD i 0 > 10)) (fun i => (2 : Int) ^ (([q0, q1, q2] : List Int).getD i 0 - 11).toNat) 3) = (bif a then [(2 : Int) ^ (q0 - 11).toNat] else []) ++ (bif b then [(2 : Int) ^ (q1 - 11).toNat] else []) ++ (bif c then [(2 : Int) ^ (q2 - 11).toNat] else []) := by
  subst h0 h1 h2
  simp only [keepF, List.nil_append]
  show (if decide (q0 > 10) = true then [(2 : Int) ^ (q0 - 11).toNat] else []) ++ (if decide (q1 > 10) = true then [(2 : Int) ^ (q1 - 11).toNat] else []) ++ (if decide (q2 > 10) = true then [(2 : Int) ^ (q2 - 11).toNat] else []) = _
  cases decide (q0 > 10) <;> cases decide (q1 > 10) <;> cases decide (q2 > 10) <;> rfl
theorem below {q : Int} (h : q ≤ 10) : decide (q < 11) = true ∧ decide (q > 10) = false := ⟨decide_eq_true (by omega), decide_eq_false (by omega)⟩
theorem above {q : Int} (h : 10 < q) : decide (q < 11) = false ∧ decide (q > 10) = true := ⟨decide_eq_false (by omega), decide_eq_true h⟩
theorem tail_1 : Str.ofString "0x" ++ Str.ofString (toString (1 : Int)) ++ Txt.mul (Str.ofString "0") 8 = Str.ofString "0x100000000" := by decide +kernel
theorem tail_2 : Str.ofString "0x" ++ Str.ofString (toString (2 : Int)) ++ Txt.mul (Str.ofString "0") 8 = Str.ofString "0x200000000" := by decide +kernel
theorem tail_3 : Str.ofString "0x" ++ Str.ofString (toString (3 : Int)) ++ Txt.mul (Str.ofString "0") 8 = Str.ofString "0x300000000" := by decide +kernel
theorem w21 (q : Int) (h : 0 ≤ q) : 21 + q.toNat = (q + 21).toNat := by omega
theorem tail_facts {s0 s1 s2 q0 q1 q2 f g : Int} (hs0 : 0 ≤ s0) (hs1 : s0 < s1) (hs2 : s1 < s2) (hs3 : s2 ≤ 12) (hq0 : 0 ≤ q0) (hq1 : q0 < q1) (hq2 : q1 < q2) (hq3 : q2 ≤ 12)
  (hf : f = ((2 ^ s0.toNat + (2 ^ s1.toNat + 2 ^ s2.toNat) : Nat) : Int)) (hg : g = ((2 ^ q0.toNat + (2 ^ q1.toNat + 2 ^ q2.toNat) : Nat) : Int)) :
  ∃ tl dl ab, TailF [s0, s1, s2] q0 q1 q2 ((if 0 > f then 0 else f) + (if 0 > g then 0 else g) * 2 ^ Int.toNat 21) tl dl ab := by
  obtain ⟨c1, c2, c3⟩ := flag_core hs0 hs1 hs2 hs3 hq0 hq1 hq2 hq3 hf hg
  have l1 : s1 ≤ 12 := Int.le_trans (Int.le_of_lt hs2) hs3
  have l0 : s0 ≤ 12 := Int.le_trans (Int.le_of_lt hs1) l1
  have n1 : 0 ≤ s1 := Int.le_trans hs0 (Int.le_of_lt hs1)
  have n3 : 0 ≤ s2 := Int.le_trans n1 (Int.le_of_lt hs2)
  have n2 : 0 ≤ q1 := Int.le_trans hq0 (Int.le_of_lt hq1)
  have n4 : 0 ≤ q2 := Int.le_trans n2 (Int.le_of_lt hq2)
  rcases (show q2 ≤ 10 ∨ q2 = 11 ∨ (q2 = 12 ∧ q1 ≤ 10) ∨ (q2 = 12 ∧ q1 = 11) by clear c1 c2 c3 hf hg; omega) with g2 | h2 | ⟨h2, g1⟩ | ⟨h2, h1⟩
  · have g0 : q0 ≤ 10 := by clear c1 c2 c3 hf hg; omega
    have b0 := below g0
    have g1 : q1 ≤ 10 := by clear c1 c2 c3 hf hg; omega
    have b1 := below g1
    have b2 := below g2
    refine ⟨[q0 + 21, q1 + 21, q2 + 21], [pfWord PFT s0.toNat, pfWord PFT s1.toNat, pfWord PFT s2.toNat, pfWord PFT (q0 + 21).toNat, pfWord PFT (q1 + 21).toNat, pfWord PFT (q2 + 21).toNat], 0, (k_tail q0 q1 q2 true true true b0.1 b1.1 b2.1), Nat.le_of_ble_eq_true rfl, all_mem (P := fun x => 0 ≤ x ∧ x < 32) (List.forall_mem_cons.mpr ⟨bd_s hs0 l0, List.forall_mem_cons.mpr ⟨bd_s n1 l1, List.forall_mem_cons.mpr ⟨bd_s n3 hs3, List.forall_mem_cons.mpr ⟨bd_q hq0 g0, List.forall_mem_cons.mpr ⟨bd_q n2 g1, List.forall_mem_cons.mpr ⟨bd_q n4 g2, List.forall_mem_nil _⟩⟩⟩⟩⟩⟩), rfl, by rw [k_above q0 q1 q2 false false false b0.2 b1.2 b2.2]; rfl, by decide, by decide, fun _ => ?_, fun h => absurd h (by decide)⟩
    have kn : ((if q1.toNat = 11 then 1 else 0) + (if q2.toNat = 11 then 1 else 0) + (if q2.toNat = 12 then 2 else 0) : Nat) = 0 := by clear c1 c2 c3 hf hg; rw [if_neg (by omega), if_neg (by omega), if_neg (by omega)]
    rw [kn] at c2
    rw [pfW_zero (by rw [c2]; rfl) c3, c1, List.filter_cons_of_pos (by simp; omega), List.filter_cons_of_pos (by simp; omega), List.filter_cons_of_pos (by simp; omega)]
    simp only [List.filter_nil, List.map_cons, List.map_nil, List.cons_append, List.nil_append, w21 q0 hq0, w21 q1 n2, w21 q2 n4]
  · have g0 : q0 ≤ 10 := by clear c1 c2 c3 hf hg; omega
    have b0 := below g0
    have g1 : q1 ≤ 10 := by clear c1 c2 c3 hf hg; omega
    have b1 := below g1
    have b2 := above (show 10 < q2 by rw [h2]; decide)
    refine ⟨[q0 + 21, q1 + 21], [pfWord PFT s0.toNat, pfWord PFT s1.toNat, pfWord PFT s2.toNat, pfWord PFT (q0 + 21).toNat, pfWord PFT (q1 + 21).toNat], 1, (k_tail q0 q1 q2 true true false b0.1 b1.1 b2.1), Nat.le_of_ble_eq_true rfl, all_mem (P := fun x => 0 ≤ x ∧ x < 32) (List.forall_mem_cons.mpr ⟨bd_s hs0 l0, List.forall_mem_cons.mpr ⟨bd_s n1 l1, List.forall_mem_cons.mpr ⟨bd_s n3 hs3, List.forall_mem_cons.mpr ⟨bd_q hq0 g0, List.forall_mem_cons.mpr ⟨bd_q n2 g1, List.forall_mem_nil _⟩⟩⟩⟩⟩), rfl, by rw [k_above q0 q1 q2 false false true b0.2 b1.2 b2.2]; rw [h2]; rfl, by decide, by decide, fun h => absurd (by decide) h, fun _ => ?_⟩
    have kn : ((if q1.toNat = 11 then 1 else 0) + (if q2.toNat = 11 then 1 else 0) + (if q2.toNat = 12 then 2 else 0) : Nat) = 1 := by clear c1 c2 c3 hf hg; rw [if_neg (by omega), if_pos (by omega), if_neg (by omega)]
    rw [kn] at c2
    rw [pfW_more (k := 1) (by rw [c2]; rfl) (by decide), hex_1.1, c1, List.filter_cons_of_pos (by simp; omega), List.filter_cons_of_pos (by simp; omega), List.filter_cons_of_neg (by simp; omega)]
    simp only [List.filter_nil, List.map_cons, List.map_nil, List.cons_append, List.nil_append, w21 q0 hq0, w21 q1 n2]
    rw [tail_1]
  · have g0 : q0 ≤ 10 := by clear c1 c2 c3 hf hg; omega
    have b0 := below g0
    have b1 := below g1
    have b2 := above (show 10 < q2 by rw [h2]; decide)
    refine ⟨[q0 + 21, q1 + 21], [pfWord PFT s0.toNat, pfWord PFT s1.toNat, pfWord PFT s2.toNat, pfWord PFT (q0 + 21).toNat, pfWord PFT (q1 + 21).toNat], 2, (k_tail q0 q1 q2 true true false b0.1 b1.1 b2.1), Nat.le_of_ble_eq_true rfl, all_mem (P := fun x => 0 ≤ x ∧ x < 32) (List.forall_mem_cons.mpr ⟨bd_s hs0 l0, List.forall_mem_cons.mpr ⟨bd_s n1 l1, List.forall_mem_cons.mpr ⟨bd_s n3 hs3, List.forall_mem_cons.mpr ⟨bd_q hq0 g0, List.forall_mem_cons.mpr ⟨bd_q n2 g1, List.forall_mem_nil _⟩⟩⟩⟩⟩), rfl, by rw [k_above q0 q1 q2 false false true b0.2 b1.2 b2.2]; rw [h2]; rfl, by decide, by decide, fun h => absurd (by decide) h, fun _ => ?_⟩
    have kn : ((if q1.toNat = 11 then 1 else 0) + (if q2.toNat = 11 then 1 else 0) + (if q2.toNat = 12 then 2 else 0) : Nat) = 2 := by clear c1 c2 c3 hf hg; rw [if_neg (by omega), if_neg (by omega), if_pos (by omega)]
    rw [kn] at c2
    rw [pfW_more (k := 2) (by rw [c2]; rfl) (by decide), hex_1.2.1, c1, List.filter_cons_of_pos (by simp; omega), List.filter_cons_of_pos (by simp; omega), List.filter_cons_of_neg (by simp; omega)]
    simp only [List.filter_nil, List.map_cons, List.map_nil, List.cons_append, List.nil_append, w21 q0 hq0, w21 q1 n2]
    rw [tail_2]
  · have g0 : q0 ≤ 10 := by clear c1 c2 c3 hf hg; omega
    have b0 := below g0
    have b1 := above (show 10 < q1 by rw [h1]; decide)
    have b2 := above (show 10 < q2 by rw [h2]; decide)
    refine ⟨[q0 + 21], [pfWord PFT s0.toNat, pfWord PFT s1.toNat, pfWord PFT s2.toNat, pfWord PFT (q0 + 21).toNat], 3, (k_tail q0 q1 q2 true false false b0.1 b1.1 b2.1), Nat.le_of_ble_eq_true rfl, all_mem (P := fun x => 0 ≤ x ∧ x < 32) (List.forall_mem_cons.mpr ⟨bd_s hs0 l0, List.forall_mem_cons.mpr ⟨bd_s n1 l1, List.forall_mem_cons.mpr ⟨bd_s n3 hs3, List.forall_mem_cons.mpr ⟨bd_q hq0 g0, List.forall_mem_nil _⟩⟩⟩⟩), rfl, by rw [k_above q0 q1 q2 false true true b0.2 b1.2 b2.2]; rw [h2, h1]; rfl, by decide, by decide, fun h => absurd (by decide) h, fun _ => ?_⟩
    have kn : ((if q1.toNat = 11 then 1 else 0) + (if q2.toNat = 11 then 1 else 0) + (if q2.toNat = 12 then 2 else 0) : Nat) = 3 := by clear c1 c2 c3 hf hg; rw [if_pos (by omega), if_neg (by omega), if_pos (by omega)]
    rw [kn] at c2
    rw [pfW_more (k := 3) (by rw [c2]; rfl) (by decide), hex_1.2.2, c1, List.filter_cons_of_pos (by simp; omega), List.filter_cons_of_neg (by simp; omega), List.filter_cons_of_neg (by simp; omega)]
    simp only [List.filter_nil, List.map_cons, List.map_nil, List.cons_append, List.nil_append, w21 q0 hq0]
    rw [tail_3]
end Mine
end
section
open PyProof.Rows.LCg
namespace Mine
open Builtin.Int (intBits)
section
variable {prog : Program} {w : World} {A : Around} {E : Value → Shared → Prop} {s : Shared} {h₀ : Heap} {L : Addr} {m : Str → Option Value} {env : Env}
theorem RowsAre.at {news : List (Addr × Obj)} : ∀ {vs : List Value} {rs : List (List Int)} {i : Nat} (hi : i < vs.length), RowsAre news vs rs → ∃ a ivs c, vs[i] = .ref a ∧ (a, W.listOf (List.toArray ivs) c) ∈ news ∧ IntsAre ivs (rs.getD i [])
  | _ :: _, _ :: _, 0, _, h => h.1
  | _ :: vs, _ :: rs, i + 1, hi, h => RowsAre.at (vs := vs) (rs := rs) (i := i) (Nat.lt_of_succ_lt_succ hi) h.2
  | _ :: _, [], _, _, h => h.elim
theorem threes {vs : List Value} {a b c : Int} (h : IntsAre vs [a, b, c]) : ∃ t0 t1 t2, vs = [.int a t0, .int b t1, .int c t2] := by
  cases h with | cons _ t0 h => cases h with | cons _ t1 h => cases h with | cons _ t2 h => cases h with | nil => exact ⟨_, _, _, rfl⟩
theorem comp3_ints {elt : Expr} {x y z : Str} {scope : Scope} {cl : List (Str × Addr)} {lp : Addr × Obj} {Fin : List Value → List (Addr × Obj) → Prop} {its : List Value} {NB : List (Addr × Obj)} {rows : List (List Int)} (f : Nat → Int) (hlp : lp ∈ NB) (hR : RowsAre NB its rows)
    (h3 : ∀ i, i < its.length → ∃ a b c, rows.getD i [] = [a, b, c])
    (turn : ∀ i, i < its.length → ∀ a b c, rows.getD i [] = [a, b, c] → ∀ ys, IntsAre ys ((List.range i).map f) → ∀ I oI C oC D m₂ h tk t1 t2 t3 (E' : Value → Shared → Prop), NsObj oC m₂ → m₂ x = some (.int a t1) → m₂ y = some (.int b t2) → m₂ z = some (.int c t3) → Fr h₀ L h m → News h₀ L h ((I, oI) :: (C, oC) :: (D, lst ys) :: NB) → Off3 I C D NB → ((@Ne Nat I C) ∧ (@Ne Nat I D) ∧ (@Ne Nat C D)) →
        wpAny (model prog w) A (eval elt (compEnvC scope cl C env)) (IEnd h₀ L m { s with heap := h, toks := tk } ((I, oI) :: (C, oC) :: (D, lst ys) :: NB) (fun t => .int (f i) t)) E' { s with heap := h, toks := tk })
    (fin : ∀ ys, IntsAre ys ((List.range its.length).map f) → Fin ys NB) : Rest3 prog w A h₀ L m env elt x y z scope cl s lp Fin its [] NB := by
  have key : ∀ k i, i + k = its.length → ∀ ys, IntsAre ys ((List.range i).map f) → Rest3 prog w A h₀ L m env elt x y z scope cl s lp Fin (its.drop i) ys NB := by
    intro k
    induction k with
    | zero =>
      intro i e ys hy
      obtain rfl : i = its.length := e
      rw [List.drop_length]
      exact fin ys hy
    | succ k ih =>
      intro i e ys hy
      have hi : i < its.length := by omega
      rw [List.drop_eq_getElem_cons hi]
      obtain ⟨a, b, c, hr⟩ := h3 i hi
      obtain ⟨ax, ivs, cc, e1, e2, e3⟩ := hR.at hi
      rw [hr] at e3
      obtain ⟨t1, t2, t3, rfl⟩ := threes e3
      refine ⟨ax, _, _, _, cc, e1, e2, fun I oI C oC D m₂ h tk E' hC hx hy' hz F N off ne => ?_⟩
      refine wpAny_mono (turn i hi a b c hr ys hy I oI C oC D m₂ h tk t1 t2 t3 E' hC hx hy' hz F N off ne) (fun u s₂ h₂ => ?_) fun _ _ e => e
      obtain ⟨t, h', tk', rfl, rfl, F', N'⟩ := h₂
      exact CompEnd.intro F' N' NB (fun p hp => hp) off hlp (ih (i + 1) (by omega) _ (by rw [range_map_succ]; exact hy.append (.cons _ _ .nil)))
  have := key its.length 0 (by omega) [] .nil
  rwa [List.drop_zero] at this
end
def prodW (tb : List Int) (r : List Int) : Int := tb.getD (r.getD 0 0).toNat 0 * tb.getD (r.getD 1 0).toNat 0 * tb.getD (r.getD 2 0).toNat 0
def waysL : List (List Int) := [[0, 4, 8], [1, 5, 6], [2, 3, 7], [0, 5, 7], [1, 3, 8], [2, 4, 6]]
theorem ways3 : ∀ i : Nat, i < 6 → ∃ a b c, waysL.getD i [] = [a, b, c]
  | 0, _ => ⟨_, _, _, rfl⟩
  | 1, _ => ⟨_, _, _, rfl⟩
  | 2, _ => ⟨_, _, _, rfl⟩
  | 3, _ => ⟨_, _, _, rfl⟩
  | 4, _ => ⟨_, _, _, rfl⟩
  | 5, _ => ⟨_, _, _, rfl⟩
  | n + 6, h => absurd h (by omega)
theorem ways_bd {a b c : Int} {i : Nat} (hi : i < 6) (h : waysL.getD i [] = [a, b, c]) : (0 ≤ a ∧ a < 9) ∧ (0 ≤ b ∧ b < 9) ∧ (0 ≤ c ∧ c < 9) := by
  match i, hi with
  | 0, _ | 1, _ | 2, _ | 3, _ | 4, _ | 5, _ => all_goals (injection h with h1 h2; injection h2 with h2 h3; injection h3 with h3 _; subst h1 h2 h3; decide)
end Mine
end
section
open PyProof.Rows.LCg
namespace Mine
open Builtin.Int (intBits)
section
variable {prog : Program} {w : World} {A : Around} {E : Value → Shared → Prop} {s : Shared} {h₀ : Heap} {L : Addr} {m : Str → Option Value} {news : List (Addr × Obj)}
theorem r_itemV {value slice : Expr} {l : Addr} {vs : List Value} {c : Nat} {k : Int} {u : Tok} {x : Value} {Q : Value → Shared → Prop} (N : News h₀ L s.heap news) (hm : (l, W.listOf (List.toArray vs) c) ∈ news) (h0 : 0 ≤ k) (hfit : k < 2 ^ 63) (hx : vs[k.toNat]? = some x) (h : Q x s)
    (hs : subscripted slice false (.ref l) (.int k u) = operate [.ref l, .int k u] (getItem (.ref l) (.int k u)) := by with_unfolding_all rfl) :
    wpAny (model prog w) A (subscriptTail value slice (.ref l) (.int k u)) Q E s :=
  have hl : s.heap.IsList l vs.toArray := ⟨_, (N _ hm).1, rfl, c, rfl⟩
  tail_any hl.typeIs slot_list_getitem.lookup (wpAny_getItem_list hl h0 hfit (by simpa using hx) h) hs
end
def rowT (tn : List Int) (i : Nat) : List Int := (List.range 3).map fun j => tn.getD ((waysL.getD i []).getD j 0).toNat 0
def rowsW (ws tn : List Int) : List (Int × List Int) := (List.range 6).map fun i => (ws.getD i 0, (srt (rowT tn i)).reverse)
theorem rowsW_get {ws tn : List Int} {i : Nat} (h : i < 6) : (rowsW ws tn).getD i (0, []) = (ws.getD i 0, (srt (rowT tn i)).reverse) := by
  simp [rowsW, List.getD_eq_getElem?_getD, h]
theorem srt_three (tn : List Int) (i : Nat) : ∃ a b c, srt (rowT tn i) = [a, b, c] := by
  have h : (srt (rowT tn i)).length = 3 := by simp [srt, rowT]
  match srt (rowT tn i), h with
  | [a, b, c], _ => exact ⟨a, b, c, rfl⟩
theorem way_bd : ∀ (i : Fin 6) (j : Fin 3), 0 ≤ (waysL.getD i.val []).getD j.val 0 ∧ (waysL.getD i.val []).getD j.val 0 < 9 := by decide
theorem ways_len : ∀ i : Fin 6, (waysL.getD i.val []).length = 3 := by decide
def JRow2 (NB : List (Addr × Obj)) (l : List (Int × List Int)) (i : Nat) (ys : List Value) (news : List (Addr × Obj)) : Prop :=
  ∃ extra, news = NB ++ extra ∧ RowsAre extra ys (rowsUp l i) ∧ ∀ p ∈ extra, NotTab p.2
theorem JRow2.off {NB extra all : List (Addr × Obj)} {l : List (Int × List Int)} {i : Nat} {ys : List Value} (hR : RowsAre extra ys (rowsUp l i)) (hX : ∀ p ∈ extra, NotTab p.2) (hall : all = NB ++ extra) (hw : ¬ 0 < (l.getD i (0, [])).1) : JRow2 NB l (i + 1) ys all :=
  ⟨extra, hall, by rw [rowsUp, if_neg hw, List.append_nil]; exact hR, hX⟩
section
variable {h₀ : Heap} {L I C D Rv : Addr} {m : Str → Option Value}
theorem rows_end2 {s₁ : Shared} {oI oC oD : Obj} {NB extra all : List (Addr × Obj)} {h' : Heap} {tk : Nat} {l : List (Int × List Int)} {i : Nat} {ys ws : List Value} {r : List Int} {c : Nat}
    (F : Fr h₀ L h' m) (N : News h₀ L h' all) (hsub : ∀ p ∈ (Rv, W.listOf (List.toArray ws) c) :: (I, oI) :: (C, oC) :: (D, oD) :: (NB ++ extra), p ∈ all) (off : Off3 I C D (NB ++ extra)) (h1 : Rv ≠ I ∧ Rv ≠ C ∧ Rv ≠ D)
    (hR : RowsAre extra ys (rowsUp l i)) (hX : ∀ p ∈ extra, NotTab p.2) (hi : IntsAre ws r) (hw : 0 < (l.getD i (0, [])).1) (hr : (l.getD i (0, [])).2 = r) :
    CompEnd h₀ L m s₁ I oI C oC D oD (fun _ => True) (fun y news' => JRow2 NB l (i + 1) (ys ++ [y]) news') (.ref Rv) { s₁ with heap := h', toks := tk } := by
  have hp' : ∀ q ∈ NB ++ ((Rv, W.listOf (List.toArray ws) c) :: extra), q = (Rv, W.listOf (List.toArray ws) c) ∨ q ∈ NB ++ extra := by
    intro q hq
    rcases List.mem_append.mp hq with hq | hq
    · exact .inr (List.mem_append_left _ hq)
    rcases List.mem_cons.mp hq with rfl | hq
    · exact .inl rfl
    · exact .inr (List.mem_append_right _ hq)
  refine CompEnd.intro F (fun p hp => N p (hsub p hp)) (NB ++ ((Rv, W.listOf (List.toArray ws) c) :: extra)) (fun q hq => ?_) (Off3.of fun q hq => ?_) trivial ⟨(Rv, W.listOf (List.toArray ws) c) :: extra, rfl, ?_, fun q hq => ?_⟩
  · rcases List.mem_cons.mp hq with rfl | hq
    · exact .tail _ (.head _)
    rcases List.mem_cons.mp hq with rfl | hq
    · exact .tail _ (.tail _ (.head _))
    rcases List.mem_cons.mp hq with rfl | hq
    · exact .tail _ (.tail _ (.tail _ (.head _)))
    rcases hp' q hq with rfl | hq
    · exact .head _
    · exact .tail _ (.tail _ (.tail _ (.tail _ hq)))
  · rcases hp' q hq with rfl | hq
    · exact h1
    · exact off.mem q hq
  · rw [rowsUp, if_pos hw, hr]
    exact (hR.mono fun q hq => .tail _ hq).snoc (.head _) hi
  · rcases List.mem_cons.mp hq with rfl | hq
    · exact NotTab.list
    · exact hX q hq
end
end Mine
end
section
set_option maxRecDepth 100000
namespace Mine
open Builtin.Int (intBits)

set_option maxHeartbeats 4000000 in
theorem segZ {w : World} {loose : List Str} {mean : ExcName → Option Value} {mg mb : Str → Option Value} {fa : Addr} {cd : Value} {base h₀ : Heap} {L : Addr} {m : Str → Option Value} {s : Shared} {E : Value → Shared → Prop} {Q : Flow → Shared → Prop} {sc : Scope} {bd : List Stmt} {st0 st1 : Stmt} (hsc : sc = lawScope) (hbd : lawBody.drop 0 = st0 :: st1 :: bd) {S : Addr} {svs : List Value} {ns : List Int} {oT oB : Obj} {rst : List (Addr × Obj)}
   (B : Below callerA base [] h₀) (F : Fr h₀ L s.heap m) (X : (hd.heap_39 w.params).In h₀) (N : News h₀ L s.heap ((L + 1 + 1, oB) :: (L + 1, oT) :: rst)) (T : Top topProg loose mean mg mb h₀) (qS : m (Str.ofString "script") = some (.ref S)) (dT : oT.data = .cell none) (dB : oB.data = .cell none) (hoff : ∀ q ∈ rst, q.1 ≠ L + 1) (hoff2 : ∀ q ∈ rst, q.1 ≠ L + 1 + 1)
   (hS : h₀.IsList S svs.toArray) (hsi : IntsAre svs ns) (hsl : svs.length ≤ 63)
   (hnext : ∀ (D8 Tn Tb : Addr) (ys tnv tbv : List Value) (sp tn tb : List Int) (nt nb : Nat) (oT' oB' : Obj) m' h' tk', IntsAre ys (cellsOf ns) → IntsAre tnv tn → IntsAre tbv tb → TabI 0 sp tn tb → oT'.data = .cell (some (.ref Tn)) → oB'.data = .cell (some (.ref Tb)) → LCg.Off1 D8 rst → AllLt Tn rst → AllLt Tb rst → Fr h₀ L h' m' → m' (Str.ofString "cells") = some (.ref D8) → News h₀ L h' ((Tb, W.listOf (List.toArray tbv) nb) :: (Tn, W.listOf (List.toArray tnv) nt) :: (D8, LCg.lst ys) :: (L + 1 + 1, oB') :: (L + 1, oT') :: rst) → wpAny (model PySem.Challenge.rw_wo0032_01.row.prog w) (callerA.deeper (envOfC (Str.ofString "law") sc L fa cd)) (execs bd (envOfC (Str.ofString "law") sc L fa cd)) Q E { s with heap := h', toks := tk' }) : wpAny (model PySem.Challenge.rw_wo0032_01.row.prog w) (callerA.deeper (envOfC (Str.ofString "law") sc L fa cd)) (execs (st0 :: st1 :: bd) (envOfC (Str.ofString "law") sc L fa cd)) Q E s := by
  w_top off
  k_with_none
  k_with "LT1!" => (first | with_reducible assumption | with_reducible exact Nat.lt_succ_self _ | with_reducible exact And.left (by assumption) | with_reducible exact And.left (And.right (by assumption)) | with_reducible exact And.left (And.right (And.right (by assumption))) | with_reducible exact And.left (And.right (And.right (And.right (by assumption)))) | with_reducible exact And.left (And.right (And.right (And.right (And.right (by assumption))))) | with_reducible exact And.left (And.right (And.right (And.right (And.right (And.right (by assumption)))))) | with_reducible exact And.right (by assumption) | with_reducible exact And.right (And.right (by assumption)) | with_reducible exact And.right (And.right (And.right (by assumption))) | with_reducible exact And.right (And.right (And.right (And.right (by assumption)))))
  k_with "LT!" => (first | k_extra "LT1!" | ((with_reducible refine (Nat.lt_succ_of_lt ?_ : @LT.lt Nat _ _ (_ + 1))); first | k_extra "LT1!" | ((with_reducible refine (Nat.lt_succ_of_lt ?_ : @LT.lt Nat _ _ (_ + 1))); first | k_extra "LT1!" | ((with_reducible refine (Nat.lt_succ_of_lt ?_ : @LT.lt Nat _ _ (_ + 1))); k_extra "LT1!"))))
  k_with "NE!" => (first | with_reducible assumption | with_reducible exact Ne.symm (by assumption) | decide | ((fail_if_success (fail_if_success omega)); first | ((with_reducible refine Nat.ne_of_gt ?_); (fail_if_success (fail_if_success omega)); k_extra "LT!") | ((with_reducible refine Nat.ne_of_lt ?_); (fail_if_success (fail_if_success omega)); k_extra "LT!") | with_reducible exact And.left (by assumption) | with_reducible exact And.left (And.right (by assumption)) | with_reducible exact And.left (And.right (And.right (by assumption))) | omega))
  k_with "KNE!" => ((refine neN ?_; (try dsimp only); k_extra "NE!"))
  k_with "LBND!" => (first | assumption | decide | with_reducible exact Int.lt_of_lt_of_le (by assumption) (by decide) | with_reducible exact Int.lt_of_le_of_lt (by assumption) (by decide) | with_reducible exact Int.le_trans (by assumption) (by decide) | with_reducible exact Int.lt_of_lt_of_le (by decide) (by assumption) | with_reducible exact Int.le_trans (by decide) (by assumption) | with_reducible exact Int.natCast_nonneg _ | with_reducible exact Int.ne_of_gt (by assumption) | with_reducible exact Int.le_of_lt (by assumption) | with_reducible exact Nat.lt_of_lt_of_le (by assumption) (by decide) | with_reducible exact Nat.lt_of_le_of_lt (by assumption) (by decide) | with_reducible exact Nat.le_trans (by assumption) (by decide) | k_dflt omega | l_fact)
  k_with "ROOM!" => (((try simp only [depth_under_make, depth_under_kw, depth_in1, depth_deeper, depth_caller]); (try dsimp only [ktrTop]); first | with_reducible assumption | exact room_0 (by with_reducible assumption) | exact room_le (by with_reducible assumption) (by decide) | exact room_12 (by with_reducible assumption) (by decide)))
  k_with "UNITS!" => (((try simp only [units_in1, units_deeper, Around.mark_units, units_caller]); (try dsimp only [ktrTop]); first | with_reducible assumption | exact room_0 (by with_reducible assumption) | exact room_le (by with_reducible assumption) (by decide) | exact room_12 (by with_reducible assumption) (by decide) | exact room_123 (by with_reducible assumption) (by decide)))
  k_with "BITS!" => (first | (with_reducible assumption) | ((with_reducible refine bits_le_of_lt ?_ ?_) <;> l_bnd))
  k_with "ALL!" => (first | assumption | (refine' allNe (by assumption)) | (refine' neOfLt (by assumption)))
  with_unfolding_all (conv at hsc => rhs; whnf)
  dsimp only at hsc
  with_unfolding_all (conv at hbd => lhs; whnf)
  injection hbd with hst0 hbd
  (try dsimp only at hst0)
  with_unfolding_all (conv at hbd => lhs; whnf)
  injection hbd with hst1 hbd
  (try dsimp only at hst1)
  clear hbd
  subst hsc hst0 hst1
  replace F := fr_focus qS F
  revert B F X N T
  k_fill
  intro B F X N T
  k_with "call ref" => (first | (((with_unfolding_all refine c_cells (by k_asm) (by k_asm) (by k_asm) (by k_asm) (by k_asm) (by rfl) hS hsi hsl (by ktr_room) (by ktr_units) ?_); intro D8 ys8 h8 k8 hc8 F8 N8 o8; (have o81 := o8); (try simp only [LCg.Off1, and_true] at o8); (have hcl := cellsOf_len _ ▸ hc8.length); (try dsimp only); (try k_fold))) | ktr_tell ((with_unfolding_all refine c_table (by k_asm) (by k_asm) (by k_asm) (by k_asm) (by k_asm) (by rfl) hc8 (cellsOf_len _) (by ktr_room) (by ktr_units) ?_); intro D7 Tn7 Tb7 tnv7 tbv7 sp7 ts7 tb7 n17 n27 h7 k7 ht7 hb7 hT7 F7 N7 a7 b7 c7; (try simp only [AllLt, and_true] at a7 b7 c7); (try dsimp only); (try k_fold)))
  k_steps
  (with_reducible rename News _ _ _ _ => nN)
  with_unfolding_all exact hnext D8 Tn7 Tb7 ys8 tnv7 tbv7 sp7 ts7 tb7 n27 n17 _ _ _ _ _ hc8 ht7 hb7 hT7 (by assumption) (by assumption) o8.2.2 c7.2.2.2 b7.2.2.2.2 (by assumption) (by with_unfolding_all rfl) (fun p hp => nN p (List.Mem.tail _ (by with_unfolding_all exact hp)))
end Mine
end
section
set_option maxRecDepth 100000
namespace Mine
open Builtin.Int (intBits)

theorem ways_rows {r0 r1 r2 r3 r4 r5 : Addr} {u00 u01 u02 u10 u11 u12 u20 u21 u22 u30 u31 u32 u40 u41 u42 u50 u51 u52 : Tok} {c0 c1 c2 c3 c4 c5 : Nat} : RowsAre [(r5, W.listOf #[.int 2 u50, .int 4 u51, .int 6 u52] c5), (r4, W.listOf #[.int 1 u40, .int 3 u41, .int 8 u42] c4), (r3, W.listOf #[.int 0 u30, .int 5 u31, .int 7 u32] c3), (r2, W.listOf #[.int 2 u20, .int 3 u21, .int 7 u22] c2), (r1, W.listOf #[.int 1 u10, .int 5 u11, .int 6 u12] c1), (r0, W.listOf #[.int 0 u00, .int 4 u01, .int 8 u02] c0)] [.ref r0, .ref r1, .ref r2, .ref r3, .ref r4, .ref r5] waysL := ⟨⟨r0, [.int 0 u00, .int 4 u01, .int 8 u02], c0, rfl, .tail _ (.tail _ (.tail _ (.tail _ (.tail _ (.head _))))), .cons _ _ (.cons _ _ (.cons _ _ .nil))⟩, ⟨⟨r1, [.int 1 u10, .int 5 u11, .int 6 u12], c1, rfl, .tail _ (.tail _ (.tail _ (.tail _ (.head _)))), .cons _ _ (.cons _ _ (.cons _ _ .nil))⟩, ⟨⟨r2, [.int 2 u20, .int 3 u21, .int 7 u22], c2, rfl, .tail _ (.tail _ (.tail _ (.head _))), .cons _ _ (.cons _ _ (.cons _ _ .nil))⟩, ⟨⟨r3, [.int 0 u30, .int 5 u31, .int 7 u32], c3, rfl, .tail _ (.tail _ (.head _)), .cons _ _ (.cons _ _ (.cons _ _ .nil))⟩, ⟨⟨r4, [.int 1 u40, .int 3 u41, .int 8 u42], c4, rfl, .tail _ (.head _), .cons _ _ (.cons _ _ (.cons _ _ .nil))⟩, ⟨⟨r5, [.int 2 u50, .int 4 u51, .int 6 u52], c5, rfl, .head _, .cons _ _ (.cons _ _ (.cons _ _ .nil))⟩, trivial⟩⟩⟩⟩⟩⟩
theorem pickW {h₀ h : Heap} {L : Addr} {x r5 r4 r3 r2 r1 r0 c : Addr × Obj} {l : List (Addr × Obj)} (N : News h₀ L h (x :: r5 :: r4 :: r3 :: r2 :: r1 :: r0 :: c :: l)) : News h₀ L h (x :: c :: ([r5, r4, r3, r2, r1, r0] ++ l)) := cb_drop N fun p hp => by
  simp only [List.cons_append, List.nil_append, List.mem_cons] at hp ⊢
  rcases hp with h | h | h | h | h | h | h | h | h <;> simp only [h, true_or, or_true]
set_option maxHeartbeats 4000000 in
theorem segY {w : World} {loose : List Str} {mean : ExcName → Option Value} {mg mb : Str → Option Value} {fa : Addr} {cd : Value} {base h₀ : Heap} {L : Addr} {m : Str → Option Value} {s : Shared} {E : Value → Shared → Prop} {Q : Flow → Shared → Prop} {sc : Scope} {bd : List Stmt} {st0 : Stmt} (hsc : sc = lawScope) (hbd : lawBody.drop 2 = st0 :: bd) {oW : Obj} {rst : List (Addr × Obj)}
   (B : Below callerA base [] h₀) (F : Fr h₀ L s.heap m) (X : (hd.heap_39 w.params).In h₀) (N : News h₀ L s.heap ((L + 1 + 1 + 1, oW) :: rst)) (T : Top topProg loose mean mg mb h₀) (dW : oW.data = .cell none) (hoff : ∀ q ∈ rst, q.1 ≠ L + 1 + 1 + 1)
   (hnext : ∀ (wy : Addr) (wyv : List Value) (cw : Nat) (extra : List (Addr × Obj)) (oW' : Obj) h' tk', RowsAre extra wyv waysL → (∀ p ∈ extra, ∃ its n, p.2 = W.listOf its n) → oW'.data = .cell (some (.ref wy)) → @LT.lt Nat _ (L + 3) wy → AllLt wy rst → Fr h₀ L h' m → News h₀ L h' ((wy, W.listOf (List.toArray wyv) cw) :: (L + 1 + 1 + 1, oW') :: (extra ++ rst)) → wpAny (model PySem.Challenge.rw_wo0032_01.row.prog w) (callerA.deeper (envOfC (Str.ofString "law") sc L fa cd)) (execs bd (envOfC (Str.ofString "law") sc L fa cd)) Q E { s with heap := h', toks := tk' }) : wpAny (model PySem.Challenge.rw_wo0032_01.row.prog w) (callerA.deeper (envOfC (Str.ofString "law") sc L fa cd)) (execs (st0 :: bd) (envOfC (Str.ofString "law") sc L fa cd)) Q E s := by
  w_top off
  k_with_none
  k_with "LT1!" => (first | with_reducible assumption | with_reducible exact Nat.lt_succ_self _ | with_reducible exact And.left (by assumption) | with_reducible exact And.left (And.right (by assumption)) | with_reducible exact And.left (And.right (And.right (by assumption))) | with_reducible exact And.left (And.right (And.right (And.right (by assumption)))) | with_reducible exact And.left (And.right (And.right (And.right (And.right (by assumption))))) | with_reducible exact And.left (And.right (And.right (And.right (And.right (And.right (by assumption)))))) | with_reducible exact And.right (by assumption) | with_reducible exact And.right (And.right (by assumption)) | with_reducible exact And.right (And.right (And.right (by assumption))) | with_reducible exact And.right (And.right (And.right (And.right (by assumption)))))
  k_with "LT!" => (first | k_extra "LT1!" | ((with_reducible refine (Nat.lt_succ_of_lt ?_ : @LT.lt Nat _ _ (_ + 1))); first | k_extra "LT1!" | ((with_reducible refine (Nat.lt_succ_of_lt ?_ : @LT.lt Nat _ _ (_ + 1))); first | k_extra "LT1!" | ((with_reducible refine (Nat.lt_succ_of_lt ?_ : @LT.lt Nat _ _ (_ + 1))); k_extra "LT1!"))))
  k_with "NE!" => (first | with_reducible assumption | with_reducible exact Ne.symm (by assumption) | decide | ((fail_if_success (fail_if_success omega)); first | ((with_reducible refine Nat.ne_of_gt ?_); (fail_if_success (fail_if_success omega)); k_extra "LT!") | ((with_reducible refine Nat.ne_of_lt ?_); (fail_if_success (fail_if_success omega)); k_extra "LT!") | with_reducible exact And.left (by assumption) | with_reducible exact And.left (And.right (by assumption)) | with_reducible exact And.left (And.right (And.right (by assumption))) | omega))
  k_with "KNE!" => ((refine neN ?_; (try dsimp only); k_extra "NE!"))
  k_with "LBND!" => (first | assumption | decide | with_reducible exact Int.lt_of_lt_of_le (by assumption) (by decide) | with_reducible exact Int.lt_of_le_of_lt (by assumption) (by decide) | with_reducible exact Int.le_trans (by assumption) (by decide) | with_reducible exact Int.lt_of_lt_of_le (by decide) (by assumption) | with_reducible exact Int.le_trans (by decide) (by assumption) | with_reducible exact Int.natCast_nonneg _ | with_reducible exact Int.ne_of_gt (by assumption) | with_reducible exact Int.le_of_lt (by assumption) | with_reducible exact Nat.lt_of_lt_of_le (by assumption) (by decide) | with_reducible exact Nat.lt_of_le_of_lt (by assumption) (by decide) | with_reducible exact Nat.le_trans (by assumption) (by decide) | k_dflt omega | l_fact)
  k_with "ROOM!" => (((try simp only [depth_under_make, depth_under_kw, depth_in1, depth_deeper, depth_caller]); (try dsimp only [ktrTop]); first | with_reducible assumption | exact room_0 (by with_reducible assumption) | exact room_le (by with_reducible assumption) (by decide) | exact room_12 (by with_reducible assumption) (by decide)))
  k_with "UNITS!" => (((try simp only [units_in1, units_deeper, Around.mark_units, units_caller]); (try dsimp only [ktrTop]); first | with_reducible assumption | exact room_0 (by with_reducible assumption) | exact room_le (by with_reducible assumption) (by decide) | exact room_12 (by with_reducible assumption) (by decide) | exact room_123 (by with_reducible assumption) (by decide)))
  k_with "BITS!" => (first | (with_reducible assumption) | ((with_reducible refine bits_le_of_lt ?_ ?_) <;> l_bnd))
  k_with "ALL!" => (first | assumption | (refine' allNe (by assumption)) | (refine' neOfLt (by assumption)))
  with_unfolding_all (conv at hsc => rhs; whnf)
  dsimp only at hsc
  with_unfolding_all (conv at hbd => lhs; whnf)
  injection hbd with hst0 hbd
  (try dsimp only at hst0)
  clear hbd
  subst hsc hst0
  revert B F X N T
  k_fill
  intro B F X N T

  k_steps
  (with_reducible rename News _ _ _ _ => nN)
  (with_reducible rename _ < _ ∧ _ => lA)
  with_unfolding_all refine hnext _ _ _ _ _ _ _ ?R ?X (by assumption) lA.2.2.2.2.2.2.1 lA.2.2.2.2.2.2.2 (by assumption) (pickW nN)
  case R => exact ways_rows
  case X => exact List.forall_mem_cons.mpr ⟨⟨_, _, rfl⟩, List.forall_mem_cons.mpr ⟨⟨_, _, rfl⟩, List.forall_mem_cons.mpr ⟨⟨_, _, rfl⟩, List.forall_mem_cons.mpr ⟨⟨_, _, rfl⟩, List.forall_mem_cons.mpr ⟨⟨_, _, rfl⟩, List.forall_mem_cons.mpr ⟨⟨_, _, rfl⟩, List.forall_mem_nil _⟩⟩⟩⟩⟩⟩
end Mine
end
section
set_option maxRecDepth 100000
namespace Mine
open Builtin.Int (intBits)

set_option maxHeartbeats 4000000 in
theorem segA {w : World} {loose : List Str} {mean : ExcName → Option Value} {mg mb : Str → Option Value} {fa : Addr} {cd : Value} {base h₀ : Heap} {L : Addr} {m : Str → Option Value} {s : Shared} {E : Value → Shared → Prop} {Q : Flow → Shared → Prop} {sc : Scope} {bd : List Stmt} {st0 : Stmt} (hsc : sc = lawScope) (hbd : lawBody.drop 3 = st0 :: bd) {wy Tb : Addr} {wyv tbv : List Value} {cw nb : Nat} {tb : List Int} {oB oW oQ : Obj} {rst : List (Addr × Obj)}
   (B : Below callerA base [] h₀) (F : Fr h₀ L s.heap m) (X : (hd.heap_39 w.params).In h₀) (N : News h₀ L s.heap ((L + 1 + 1 + 1 + 1, oQ) :: (L + 1 + 1 + 1, oW) :: (wy, W.listOf (List.toArray wyv) cw) :: (L + 1 + 1, oB) :: (Tb, W.listOf (List.toArray tbv) nb) :: rst)) (T : Top topProg loose mean mg mb h₀) (dB : oB.data = .cell (some (.ref Tb))) (dW : oW.data = .cell (some (.ref wy))) (dQ : oQ.data = .cell none) (hR : RowsAre rst wyv waysL) (htb : IntsAre tbv tb) (htl : tb.length = 9) (hbb : ∀ y ∈ tb, intBits y ≤ 4097)
   (gw : @LT.lt Nat _ (L + 4) wy) (gt : @LT.lt Nat _ (L + 4) Tb) (hoff : ∀ q ∈ rst, q.1 ≠ L + 1 + 1 + 1 + 1)
   (hnext : ∀ (Wa : Addr) (wv : List Value) (oQ' : Obj) h' tk', IntsAre wv ((List.range 6).map (fun i => prodW tb (waysL.getD i []))) → oQ'.data = .cell (some (.ref Wa)) → LCg.Off1 Wa ((L + 1 + 1 + 1 + 1, oQ) :: (L + 1 + 1 + 1, oW) :: (wy, W.listOf (List.toArray wyv) cw) :: (L + 1 + 1, oB) :: (Tb, W.listOf (List.toArray tbv) nb) :: rst) → Fr h₀ L h' m → News h₀ L h' ((Wa, LCg.lst wv) :: (L + 1 + 1 + 1 + 1, oQ') :: (L + 1 + 1 + 1, oW) :: (wy, W.listOf (List.toArray wyv) cw) :: (L + 1 + 1, oB) :: (Tb, W.listOf (List.toArray tbv) nb) :: rst) → wpAny (model PySem.Challenge.rw_wo0032_01.row.prog w) (callerA.deeper (envOfC (Str.ofString "law") sc L fa cd)) (execs bd (envOfC (Str.ofString "law") sc L fa cd)) Q E { s with heap := h', toks := tk' }) : wpAny (model PySem.Challenge.rw_wo0032_01.row.prog w) (callerA.deeper (envOfC (Str.ofString "law") sc L fa cd)) (execs (st0 :: bd) (envOfC (Str.ofString "law") sc L fa cd)) Q E s := by
  w_top off
  k_with_none
  k_with "LT1!" => (first | with_reducible assumption | with_reducible exact Nat.lt_succ_self _ | with_reducible exact And.left (by assumption) | with_reducible exact And.left (And.right (by assumption)) | with_reducible exact And.left (And.right (And.right (by assumption))) | with_reducible exact And.left (And.right (And.right (And.right (by assumption)))) | with_reducible exact And.left (And.right (And.right (And.right (And.right (by assumption))))) | with_reducible exact And.left (And.right (And.right (And.right (And.right (And.right (by assumption)))))) | with_reducible exact And.right (by assumption) | with_reducible exact And.right (And.right (by assumption)) | with_reducible exact And.right (And.right (And.right (by assumption))) | with_reducible exact And.right (And.right (And.right (And.right (by assumption)))))
  k_with "LT!" => (first | k_extra "LT1!" | ((with_reducible refine (Nat.lt_succ_of_lt ?_ : @LT.lt Nat _ _ (_ + 1))); first | k_extra "LT1!" | ((with_reducible refine (Nat.lt_succ_of_lt ?_ : @LT.lt Nat _ _ (_ + 1))); first | k_extra "LT1!" | ((with_reducible refine (Nat.lt_succ_of_lt ?_ : @LT.lt Nat _ _ (_ + 1))); k_extra "LT1!"))))
  k_with "NE!" => (first | with_reducible assumption | with_reducible exact Ne.symm (by assumption) | decide | ((fail_if_success (fail_if_success omega)); first | ((with_reducible refine Nat.ne_of_gt ?_); (fail_if_success (fail_if_success omega)); k_extra "LT!") | ((with_reducible refine Nat.ne_of_lt ?_); (fail_if_success (fail_if_success omega)); k_extra "LT!") | with_reducible exact And.left (by assumption) | with_reducible exact And.left (And.right (by assumption)) | with_reducible exact And.left (And.right (And.right (by assumption))) | omega))
  k_with "KNE!" => ((refine neN ?_; (try dsimp only); k_extra "NE!"))
  k_with "LBND!" => (first | assumption | decide | with_reducible exact Int.lt_of_lt_of_le (by assumption) (by decide) | with_reducible exact Int.lt_of_le_of_lt (by assumption) (by decide) | with_reducible exact Int.le_trans (by assumption) (by decide) | with_reducible exact Int.lt_of_lt_of_le (by decide) (by assumption) | with_reducible exact Int.le_trans (by decide) (by assumption) | with_reducible exact Int.natCast_nonneg _ | with_reducible exact Int.ne_of_gt (by assumption) | with_reducible exact Int.le_of_lt (by assumption) | with_reducible exact Nat.lt_of_lt_of_le (by assumption) (by decide) | with_reducible exact Nat.lt_of_le_of_lt (by assumption) (by decide) | with_reducible exact Nat.le_trans (by assumption) (by decide) | k_dflt omega | l_fact)
  k_with "ROOM!" => (((try simp only [depth_under_make, depth_under_kw, depth_in1, depth_deeper, depth_caller]); (try dsimp only [ktrTop]); first | with_reducible assumption | exact room_0 (by with_reducible assumption) | exact room_le (by with_reducible assumption) (by decide) | exact room_12 (by with_reducible assumption) (by decide)))
  k_with "UNITS!" => (((try simp only [units_in1, units_deeper, Around.mark_units, units_caller]); (try dsimp only [ktrTop]); first | with_reducible assumption | exact room_0 (by with_reducible assumption) | exact room_le (by with_reducible assumption) (by decide) | exact room_12 (by with_reducible assumption) (by decide) | exact room_123 (by with_reducible assumption) (by decide)))
  k_with "BITS!" => (first | (with_reducible assumption) | ((with_reducible refine bits_le_of_lt ?_ ?_) <;> l_bnd))
  k_with "ALL!" => (first | assumption | (refine' allNe (by assumption)) | (refine' neOfLt (by assumption)))
  k_with "EV!" => ((repeat' (first | exact Ev.const | exact Ev.cap (by with_unfolding_all rfl) | exact Ev.loc (by with_unfolding_all rfl) (by with_unfolding_all rfl) (by decide) | apply Ev.and1 | apply Ev.add | apply Ev.sub | apply Ev.neg | apply Ev.mul | apply Ev.fmod | apply Ev.fdiv | apply Ev.pow | apply Ev.shr | apply Ev.item (by with_unfolding_all rfl) (hs := by intro _ _; with_unfolding_all rfl) | apply Ev.bxor | apply Ev.band | apply EvP.lt (hm := by with_unfolding_all rfl) | apply EvP.le (hm := by with_unfolding_all rfl) | apply EvP.gt (hm := by with_unfolding_all rfl) | apply EvP.ge (hm := by with_unfolding_all rfl) | apply EvP.eq (hm := by with_unfolding_all rfl) | apply EvP.ne (hm := by with_unfolding_all rfl) | apply EvP.lelt (hm := by with_unfolding_all rfl) | apply EvP.not | apply EvP.int (hi := by rfl) | ((with_reducible show IntMulOk _ _); refine IntMulOk.of_le (by bits_by_make) (by bits_by_make) (by decide)) | exact PyProof.noPylong_small (by decide) | k_extra "EVC!" | ((fail_if_success (with_reducible show Int)); l_bnd))))
  k_with "EVC!" => (fail)
  have hwl : wyv.length = 6 := hR.len
  have htbl := htb.length
  have hb0 : ∀ i, intBits (tb.getD i 0) ≤ 4097 := bits_getD hbb
  have hm4 : tb.length ≤ 1000000 := by rw [htl]; decide
  with_unfolding_all (conv at hsc => rhs; whnf)
  dsimp only at hsc
  with_unfolding_all (conv at hbd => lhs; whnf)
  injection hbd with hst0 hbd
  (try dsimp only at hst0)
  clear hbd
  subst hsc hst0
  revert B F X N T
  k_fill
  intro B F X N T
  k_with "exec Assign cons ListComp" => (ktr_tell ((with_reducible refine wpAny_Assign_Name ?_ ?_; rotate_left; with_unfolding_all rfl); k_dflt (refine ListComp_3 (F₀ := by k_asm) (by with_unfolding_all rfl) (by decide) (by with_unfolding_all rfl) (by decide) (by with_unfolding_all rfl) (by with_unfolding_all rfl) (by with_unfolding_all rfl) (by decide) (by decide) (by decide) ?_)))
  k_with "Src3" => (ktr_tell (k_dflt (refine ⟨_, _, _, _, rfl, by with_unfolding_all rfl, by k_asm, by k_asm, by k_mem, by rw [hwl]; decide, ?_⟩); intro g8; (refine comp3_ints (fun i => prodW tb (waysL.getD i [])) (by k_mem) (hR.mono fun p hp => by repeat (first | exact hp | apply List.Mem.tail)) (by rw [hwl]; exact ways3) ?_ ?_); (rotate_left); (intro ys9 hs9; (rw [hwl] at hs9); (try dsimp only)); (rotate_left); (intro i9 hi9 a9 b9 c9 hr9 ys9 hs9 I9 oI9 C9 oC9 D9 m9 h9 tk9 t1 t2 t3 E9 hC9 hx9 hy9 hz9 F9 N9 off9 ne9; (rw [hwl] at hi9); (obtain ⟨⟨pa0, pa9⟩, ⟨pb0, pb9⟩, ⟨pc0, pc9⟩⟩ := ways_bd hi9 hr9); (have pa : a9 < tb.length := by rw [htl]; exact pa9); (have pb : b9 < tb.length := by rw [htl]; exact pb9); (have pc : c9 < tb.length := by rw [htl]; exact pc9); (have ha := hb0 a9.toNat); (have hb := hb0 b9.toNat); (have hc := hb0 c9.toNat); (have hab := bits_mul ha hb); (have hf9 : tb.getD a9.toNat 0 * tb.getD b9.toNat 0 * tb.getD c9.toNat 0 = prodW tb (waysL.getD i9 []) := by rw [hr9]; rfl); (try dsimp only))))
  k_with "eval BinOp" => (k_dflt (refine evc_ok (κ := [(Str.ofString "table", .ints tb), (Str.ofString "a", .int a9), (Str.ofString "b", .int b9), (Str.ofString "c", .int c9)]) (by exact List.forall_mem_cons.mpr ⟨rd_frees (by with_unfolding_all rfl) (by k_asm) (by with_unfolding_all rfl) (by with_unfolding_all rfl) (by k_mem) (by assumption) (by k_mem) (by assumption) (by with_unfolding_all rfl) (by with_unfolding_all rfl), List.forall_mem_cons.mpr ⟨rd_comp (by with_unfolding_all rfl) (by k_asm) (by with_unfolding_all rfl) (by k_mem) (by assumption) (by assumption) (by with_unfolding_all rfl) (by with_unfolding_all rfl), List.forall_mem_cons.mpr ⟨rd_comp (by with_unfolding_all rfl) (by k_asm) (by with_unfolding_all rfl) (by k_mem) (by assumption) (by assumption) (by with_unfolding_all rfl) (by with_unfolding_all rfl), List.forall_mem_cons.mpr ⟨rd_comp (by with_unfolding_all rfl) (by k_asm) (by with_unfolding_all rfl) (by k_mem) (by assumption) (by assumption) (by with_unfolding_all rfl) (by with_unfolding_all rfl), List.forall_mem_nil _⟩⟩⟩⟩) (by k_extra "EV!") (by first | with_reducible assumption | exact rfl) _ _ rfl ?_); intro t7 tk7; (try dsimp only))
  k_with "IEnd" => (with_unfolding_all refine IEnd.int (by first | exact rfl | assumption) (by assumption) (by assumption) (by intro p hp; first | exact hp | exact List.Mem.tail _ hp))
  k_with "FinE" => (k_dflt (unfold LCg.FinE); intro D9 h9 k9 F9 N9 o9; (have o19 := o9); (try simp only [LCg.Off1, and_true] at o19); (try simp only [List.nil_append, List.cons_append] at N9); (try dsimp only))

  k_steps
  with_unfolding_all exact hnext D9 ys9 _ _ _ hs9 (by assumption) o9 (by assumption) (by assumption)
end Mine
end
section
set_option maxRecDepth 100000
namespace Mine
open Builtin.Int (intBits)

set_option maxHeartbeats 4000000 in
theorem segB {w : World} {loose : List Str} {mean : ExcName → Option Value} {mg mb : Str → Option Value} {fa : Addr} {cd : Value} {base h₀ : Heap} {L : Addr} {m : Str → Option Value} {s : Shared} {E : Value → Shared → Prop} {Q : Flow → Shared → Prop} {sc : Scope} {bd : List Stmt} {st0 st1 st2 : Stmt} (hsc : sc = lawScope) (hbd : lawBody.drop 4 = st0 :: st1 :: st2 :: bd) {Wa : Addr} {w0 w1 w2 w3 w4 w5 : Int} {t0 t1 t2 t3 t4 t5 : Tok} {oQ : Obj} {rst : List (Addr × Obj)}
   (B : Below callerA base [] h₀) (F : Fr h₀ L s.heap m) (X : (hd.heap_39 w.params).In h₀) (N : News h₀ L s.heap ((L + 1 + 1 + 1 + 1, oQ) :: (Wa, LCg.lst [.int w0 t0, .int w1 t1, .int w2 t2, .int w3 t3, .int w4 t4, .int w5 t5]) :: rst)) (T : Top topProg loose mean mg mb h₀) (dQ : oQ.data = .cell (some (.ref Wa)))
   (hnext : ∀ (wh lo u : Int) a1 a2 a3 m' h' tk', wh = (w0 + (w1 + (w2 + 0)) - (w3 + (w4 + (w5 + 0)))) → lo = Builtin.bitAnd wh (-wh) → u = (if 1 > lo then 1 else lo) → Fr h₀ L h' m' → (∀ y, [Str.ofString "unit", Str.ofString "low", Str.ofString "whole"].contains y = false → m' y = m y) → m' (Str.ofString "unit") = some (.int u a1) → m' (Str.ofString "low") = some (.int lo a2) → m' (Str.ofString "whole") = some (.int wh a3) → News h₀ L h' ((L + 1 + 1 + 1 + 1, oQ) :: (Wa, LCg.lst [.int w0 t0, .int w1 t1, .int w2 t2, .int w3 t3, .int w4 t4, .int w5 t5]) :: rst) → wpAny (model PySem.Challenge.rw_wo0032_01.row.prog w) (callerA.deeper (envOfC (Str.ofString "law") sc L fa cd)) (execs bd (envOfC (Str.ofString "law") sc L fa cd)) Q E { s with heap := h', toks := tk' }) : wpAny (model PySem.Challenge.rw_wo0032_01.row.prog w) (callerA.deeper (envOfC (Str.ofString "law") sc L fa cd)) (execs (st0 :: st1 :: st2 :: bd) (envOfC (Str.ofString "law") sc L fa cd)) Q E s := by
  w_top off
  k_with_none
  k_with "LT1!" => (first | with_reducible assumption | with_reducible exact Nat.lt_succ_self _ | with_reducible exact And.left (by assumption) | with_reducible exact And.left (And.right (by assumption)) | with_reducible exact And.left (And.right (And.right (by assumption))) | with_reducible exact And.left (And.right (And.right (And.right (by assumption)))) | with_reducible exact And.left (And.right (And.right (And.right (And.right (by assumption))))) | with_reducible exact And.left (And.right (And.right (And.right (And.right (And.right (by assumption)))))) | with_reducible exact And.right (by assumption) | with_reducible exact And.right (And.right (by assumption)) | with_reducible exact And.right (And.right (And.right (by assumption))) | with_reducible exact And.right (And.right (And.right (And.right (by assumption)))))
  k_with "LT!" => (first | k_extra "LT1!" | ((with_reducible refine (Nat.lt_succ_of_lt ?_ : @LT.lt Nat _ _ (_ + 1))); first | k_extra "LT1!" | ((with_reducible refine (Nat.lt_succ_of_lt ?_ : @LT.lt Nat _ _ (_ + 1))); first | k_extra "LT1!" | ((with_reducible refine (Nat.lt_succ_of_lt ?_ : @LT.lt Nat _ _ (_ + 1))); k_extra "LT1!"))))
  k_with "NE!" => (first | with_reducible assumption | with_reducible exact Ne.symm (by assumption) | decide | ((fail_if_success (fail_if_success omega)); first | ((with_reducible refine Nat.ne_of_gt ?_); (fail_if_success (fail_if_success omega)); k_extra "LT!") | ((with_reducible refine Nat.ne_of_lt ?_); (fail_if_success (fail_if_success omega)); k_extra "LT!") | with_reducible exact And.left (by assumption) | with_reducible exact And.left (And.right (by assumption)) | with_reducible exact And.left (And.right (And.right (by assumption))) | omega))
  k_with "KNE!" => ((refine neN ?_; (try dsimp only); k_extra "NE!"))
  k_with "LBND!" => (first | assumption | decide | with_reducible exact Int.lt_of_lt_of_le (by assumption) (by decide) | with_reducible exact Int.lt_of_le_of_lt (by assumption) (by decide) | with_reducible exact Int.le_trans (by assumption) (by decide) | with_reducible exact Int.lt_of_lt_of_le (by decide) (by assumption) | with_reducible exact Int.le_trans (by decide) (by assumption) | with_reducible exact Int.natCast_nonneg _ | with_reducible exact Int.ne_of_gt (by assumption) | with_reducible exact Int.le_of_lt (by assumption) | with_reducible exact Nat.lt_of_lt_of_le (by assumption) (by decide) | with_reducible exact Nat.lt_of_le_of_lt (by assumption) (by decide) | with_reducible exact Nat.le_trans (by assumption) (by decide) | k_dflt omega | l_fact)
  k_with "ROOM!" => (((try simp only [depth_under_make, depth_under_kw, depth_in1, depth_deeper, depth_caller]); (try dsimp only [ktrTop]); first | with_reducible assumption | exact room_0 (by with_reducible assumption) | exact room_le (by with_reducible assumption) (by decide) | exact room_12 (by with_reducible assumption) (by decide)))
  k_with "UNITS!" => (((try simp only [units_in1, units_deeper, Around.mark_units, units_caller]); (try dsimp only [ktrTop]); first | with_reducible assumption | exact room_0 (by with_reducible assumption) | exact room_le (by with_reducible assumption) (by decide) | exact room_12 (by with_reducible assumption) (by decide) | exact room_123 (by with_reducible assumption) (by decide)))
  k_with "BITS!" => (first | (with_reducible assumption) | ((with_reducible refine bits_le_of_lt ?_ ?_) <;> l_bnd))
  k_with "ALL!" => (first | assumption | (refine' allNe (by assumption)) | (refine' neOfLt (by assumption)))
  with_unfolding_all (conv at hsc => rhs; whnf)
  dsimp only at hsc
  with_unfolding_all (conv at hbd => lhs; whnf)
  injection hbd with hst0 hbd
  (try dsimp only at hst0)
  with_unfolding_all (conv at hbd => lhs; whnf)
  injection hbd with hst1 hbd
  (try dsimp only at hst1)
  with_unfolding_all (conv at hbd => lhs; whnf)
  injection hbd with hst2 hbd
  (try dsimp only at hst2)
  clear hbd
  subst hsc hst0 hst1 hst2
  revert B F X N T
  k_fill
  intro B F X N T

  k_steps
  (with_reducible rename News _ _ _ _ => nN)
  with_unfolding_all exact hnext _ _ _ _ _ _ _ _ _ rfl rfl rfl (by assumption) (by intro z h2; simp only [List.contains_cons, List.contains_nil, Bool.or_false, Bool.or_eq_false_iff, beq_eq_false_iff_ne, ne_eq] at h2; simp only [h2, if_false]) (by with_unfolding_all rfl) (by with_unfolding_all rfl) (by with_unfolding_all rfl) (cb_drop nN fun q hq => by repeat (first | exact hq | apply List.Mem.tail))
end Mine
end
section
set_option maxRecDepth 100000
namespace Mine
open Builtin.Int (intBits)

set_option maxHeartbeats 600000 in
theorem segC {w : World} {loose : List Str} {mean : ExcName → Option Value} {mg mb : Str → Option Value} {fa : Addr} {cd : Value} {base h₀ : Heap} {L : Addr} {m : Str → Option Value} {s : Shared} {E : Value → Shared → Prop} {Q : Flow → Shared → Prop} {sc : Scope} {bd : List Stmt} {st0 : Stmt} (hsc : sc = lawScope) (hbd : lawBody.drop 7 = st0 :: bd) {wy Tn Wa : Addr} {wyv tnv wsv : List Value} {cw nt : Nat} {tn ws : List Int} {oT oW oQ : Obj} {rst : List (Addr × Obj)}
   (B : Below callerA base [] h₀) (F : Fr h₀ L s.heap m) (X : (hd.heap_39 w.params).In h₀) (N : News h₀ L s.heap ((L + 1 + 1 + 1 + 1, oQ) :: (Wa, LCg.lst wsv) :: (L + 1 + 1 + 1, oW) :: (wy, W.listOf (List.toArray wyv) cw) :: (L + 1, oT) :: (Tn, W.listOf (List.toArray tnv) nt) :: rst)) (T : Top topProg loose mean mg mb h₀) (dT : oT.data = .cell (some (.ref Tn))) (dW : oW.data = .cell (some (.ref wy))) (dQ : oQ.data = .cell (some (.ref Wa))) (hR : RowsAre rst wyv waysL) (htn : IntsAre tnv tn) (htl : tn.length = 9) (hws : IntsAre wsv ws) (hwl : ws.length = 6)
   (hnext : ∀ (R : Addr) (vs : List Value) (extra : List (Addr × Obj)) m' h' tk', RowsAre extra vs (rowsUp (rowsW ws tn) 6) → (∀ p ∈ extra, NotTab p.2) → Fr h₀ L h' m' → (∀ y, [Str.ofString "rows"].contains y = false → m' y = m y) → m' (Str.ofString "rows") = some (.ref R) → News h₀ L h' ((R, LCg.lst vs) :: (((L + 1 + 1 + 1 + 1, oQ) :: (Wa, LCg.lst wsv) :: (L + 1 + 1 + 1, oW) :: (wy, W.listOf (List.toArray wyv) cw) :: (L + 1, oT) :: (Tn, W.listOf (List.toArray tnv) nt) :: rst) ++ extra)) → wpAny (model PySem.Challenge.rw_wo0032_01.row.prog w) (callerA.deeper (envOfC (Str.ofString "law") sc L fa cd)) (execs bd (envOfC (Str.ofString "law") sc L fa cd)) Q E { s with heap := h', toks := tk' }) : wpAny (model PySem.Challenge.rw_wo0032_01.row.prog w) (callerA.deeper (envOfC (Str.ofString "law") sc L fa cd)) (execs (st0 :: bd) (envOfC (Str.ofString "law") sc L fa cd)) Q E s := by
  w_top off
  k_with_none
  k_with "LT1!" => (first | with_reducible assumption | with_reducible exact Nat.lt_succ_self _ | with_reducible exact And.left (by assumption) | with_reducible exact And.left (And.right (by assumption)) | with_reducible exact And.left (And.right (And.right (by assumption))) | with_reducible exact And.left (And.right (And.right (And.right (by assumption)))) | with_reducible exact And.left (And.right (And.right (And.right (And.right (by assumption))))) | with_reducible exact And.left (And.right (And.right (And.right (And.right (And.right (by assumption)))))) | with_reducible exact And.right (by assumption) | with_reducible exact And.right (And.right (by assumption)) | with_reducible exact And.right (And.right (And.right (by assumption))) | with_reducible exact And.right (And.right (And.right (And.right (by assumption)))))
  k_with "LT!" => (first | k_extra "LT1!" | ((with_reducible refine (Nat.lt_succ_of_lt ?_ : @LT.lt Nat _ _ (_ + 1))); first | k_extra "LT1!" | ((with_reducible refine (Nat.lt_succ_of_lt ?_ : @LT.lt Nat _ _ (_ + 1))); first | k_extra "LT1!" | ((with_reducible refine (Nat.lt_succ_of_lt ?_ : @LT.lt Nat _ _ (_ + 1))); k_extra "LT1!"))))
  k_with "NE!" => (first | with_reducible assumption | with_reducible exact Ne.symm (by assumption) | decide | ((fail_if_success (fail_if_success omega)); first | ((with_reducible refine Nat.ne_of_gt ?_); (fail_if_success (fail_if_success omega)); k_extra "LT!") | ((with_reducible refine Nat.ne_of_lt ?_); (fail_if_success (fail_if_success omega)); k_extra "LT!") | with_reducible exact And.left (by assumption) | with_reducible exact And.left (And.right (by assumption)) | with_reducible exact And.left (And.right (And.right (by assumption))) | omega))
  k_with "KNE!" => ((refine neN ?_; (try dsimp only); k_extra "NE!"))
  k_with "LBND!" => (first | assumption | decide | with_reducible exact Int.lt_of_lt_of_le (by assumption) (by decide) | with_reducible exact Int.lt_of_le_of_lt (by assumption) (by decide) | with_reducible exact Int.le_trans (by assumption) (by decide) | with_reducible exact Int.lt_of_lt_of_le (by decide) (by assumption) | with_reducible exact Int.le_trans (by decide) (by assumption) | with_reducible exact Int.natCast_nonneg _ | with_reducible exact Int.ne_of_gt (by assumption) | with_reducible exact Int.le_of_lt (by assumption) | with_reducible exact Nat.lt_of_lt_of_le (by assumption) (by decide) | with_reducible exact Nat.lt_of_le_of_lt (by assumption) (by decide) | with_reducible exact Nat.le_trans (by assumption) (by decide) | k_dflt omega | l_fact)
  k_with "ROOM!" => (((try simp only [depth_under_make, depth_under_kw, depth_in1, depth_deeper, depth_caller]); (try dsimp only [ktrTop]); first | with_reducible assumption | exact room_0 (by with_reducible assumption) | exact room_le (by with_reducible assumption) (by decide) | exact room_12 (by with_reducible assumption) (by decide)))
  k_with "UNITS!" => (((try simp only [units_in1, units_deeper, Around.mark_units, units_caller]); (try dsimp only [ktrTop]); first | with_reducible assumption | exact room_0 (by with_reducible assumption) | exact room_le (by with_reducible assumption) (by decide) | exact room_12 (by with_reducible assumption) (by decide) | exact room_123 (by with_reducible assumption) (by decide)))
  k_with "BITS!" => (first | (with_reducible assumption) | ((with_reducible refine bits_le_of_lt ?_ ?_) <;> l_bnd))
  k_with "ALL!" => (first | assumption | (refine' allNe (by assumption)) | (refine' neOfLt (by assumption)))
  k_with "EV!" => ((repeat' (first | exact Ev.const | exact Ev.cap (by with_unfolding_all rfl) | exact Ev.loc (by with_unfolding_all rfl) (by with_unfolding_all rfl) (by decide) | apply Ev.and1 | apply Ev.add | apply Ev.sub | apply Ev.neg | apply Ev.mul | apply Ev.fmod | apply Ev.fdiv | apply Ev.pow | apply Ev.shr | apply Ev.item (by with_unfolding_all rfl) (hs := by intro _ _; with_unfolding_all rfl) | apply Ev.bxor | apply Ev.band | apply EvP.lt (hm := by with_unfolding_all rfl) | apply EvP.le (hm := by with_unfolding_all rfl) | apply EvP.gt (hm := by with_unfolding_all rfl) | apply EvP.ge (hm := by with_unfolding_all rfl) | apply EvP.eq (hm := by with_unfolding_all rfl) | apply EvP.ne (hm := by with_unfolding_all rfl) | apply EvP.lelt (hm := by with_unfolding_all rfl) | apply EvP.not | apply EvP.int (hi := by rfl) | ((with_reducible show IntMulOk _ _); refine IntMulOk.of_le (by bits_by_make) (by bits_by_make) (by decide)) | exact PyProof.noPylong_small (by decide) | k_extra "EVC!" | ((fail_if_success (with_reducible show Int)); l_bnd))))
  k_with "EVC!" => (fail)
  have hwy : wyv.length = 6 := hR.len
  have hm4 : tn.length ≤ 1000000 := by rw [htl]; decide
  with_unfolding_all (conv at hsc => rhs; whnf)
  dsimp only at hsc
  with_unfolding_all (conv at hbd => lhs; whnf)
  injection hbd with hst0 hbd
  (try dsimp only at hst0)
  clear hbd
  subst hsc hst0
  revert B F X N T
  k_fill
  intro B F X N T
  k_with "exec Assign cons ListComp" => (k_dflt (refine LCt.Assign_ListComp_T (F₀ := by k_asm) (by rfl) (by with_unfolding_all rfl) (by with_unfolding_all rfl) (by decide) (by rfl) (by decide) (by rfl) (by rfl) (by rfl) ?_))
  k_with "CompSrcT" => (k_dflt (refine LCt.CompSrcT.range (by rfl) (by k_asm) (by k_asm) (by assumption) (by decide) (rng_size (n := 6) (by decide) (by decide)) (Nat.le_of_ble_eq_true rfl) ?_; intro g9; (refine compT_J (S := fun _ => True) (JRow2 ((L + 1 + 1 + 1 + 1, oQ) :: (Wa, LCg.lst wsv) :: (L + 1 + 1 + 1, oW) :: (wy, W.listOf (List.toArray wyv) cw) :: (L + 1, oT) :: (Tn, W.listOf (List.toArray tnv) nt) :: rst) (rowsW ws tn)) (n := 6) ?_ ?_ 6 0 [] _ rfl ⟨[], (List.append_nil _).symm, trivial, fun _ h => nomatch h⟩); (rotate_left); (intro ysx newsx hJ; k_dflt (obtain ⟨extra, hex, hRx, hX⟩ := hJ); subst hex); (rotate_left); (intro i9 hi9; (unfold TurnT); intro ysx newsx hJ; k_dflt (obtain ⟨extra, hex, hRx, hX⟩ := hJ); subst hex; intro v9 I9 oI9 C9 oC9 D9 m9 h9 tk9 E9 hv9 hC9 hx9 F9 N9 off9 ne9; (have off8 := off9); (try simp only [LCg.Off3, List.cons_append, List.nil_append, and_true] at N9 off9); (obtain ⟨t9', hv9'⟩ := hv9; subst hv9'); (rw [Int.zero_add] at hx9); (have pw : (i9 : Int) < ws.length := by rw [hwl]; exact Int.ofNat_lt.mpr hi9); (obtain ⟨ax9, iv9, ac9, ea9, ma9, ia9⟩ := hR.at (i := i9) (by rw [hwy]; exact hi9)); (have il9 : iv9.length = 3 := ia9.length.trans (ways_len ⟨i9, hi9⟩)); (have ea8 : wyv[((i9 : Int)).toNat]? = some (.ref ax9) := by rw [Int.toNat_natCast, List.getElem?_eq_getElem (by rw [hwy]; exact hi9), ea9]); (try dsimp only))))
  k_with "subscriptTail" => ((with_reducible show wpAny _ _ (subscriptTail _ _ (Value.ref wy) (Value.int _ _)) _ _ _); k_dflt (refine r_itemV (by k_asm) (by k_mem) (Int.natCast_nonneg _) (Int.lt_of_lt_of_le (Int.ofNat_lt.mpr hi9) (by decide)) ea8 ?_))
  k_with "eval ListComp" => (k_dflt (refine LCg.ListComp_U (F₀ := by k_asm) (by with_unfolding_all rfl) (by decide) (by rfl) (by decide) (by rfl) ?_))
  k_with "CompSrc" => (k_dflt (refine LCg.CompSrc.ledger (by rfl) (by k_asm) (by k_asm) (by repeat (first | exact List.mem_append_left _ ma9 | apply List.Mem.tail)) (by rw [sizeLine_eq, List.size_toArray, il9]; exact (Nat.le_of_ble_eq_true rfl : 3 ≤ 16777216)) ?_; intro g7; (refine compG_ints (fun j => tn.getD ((waysL.getD i9 []).getD j 0).toNat 0) (.inr ⟨_, (by repeat (first | exact List.mem_append_left _ ma9 | apply List.Mem.tail)), rfl, _, rfl⟩) ?_ ?_); (rotate_left); (intro ys7 hs7; (replace hs7 : IntsAre ys7 (rowT tn i9) := by rw [List.size_toArray, il9] at hs7; exact hs7); (try dsimp only)); (rotate_left); (intro i7 hi7 ys7 hs7 v7 I7 oI7 C7 oC7 D7 m7 h7 tk7 E7 hv7 hC7 hx7 F7 N7 off7 ne7; (obtain ⟨t7', hv7'⟩ := ints_atD ia9 hv7; subst hv7'); (have hj7 : i7 < 3 := by rw [List.size_toArray, il9] at hi7; exact hi7); (have hb6 : 0 ≤ (waysL.getD i9 []).getD i7 0 := (way_bd ⟨i9, hi9⟩ ⟨i7, hj7⟩).1); (have hb8 : (waysL.getD i9 []).getD i7 0 < (tn.length : Int) := by rw [htl]; exact (way_bd ⟨i9, hi9⟩ ⟨i7, hj7⟩).2); (try dsimp only))))
  k_with "call builtin:sorted" => (k_dflt (refine r_srt (vs := ys7) (ns := rowT tn i9) (by k_asm) (by k_asm) (by k_mem) hs7 (by rw [rowT, List.length_map, List.length_range]; decide) rfl ?_); intro D8 ws8 c8 h8 F8 N8 l8 hw8; (try k_lt l8); (obtain ⟨u9, v9, w9, e9⟩ := srt_three tn i9); (rw [e9] at hw8); (obtain ⟨t4, t5, t6, rfl⟩ := threes hw8))
  k_with "CompEnd" => (first | ((with_reducible rename 0 < List.getD _ _ _ => hw9); (with_reducible rename News _ _ _ _ => nN); with_unfolding_all refine rows_end2 (ws := [.int w9 t6, .int v9 t5, .int u9 t4]) (r := [w9, v9, u9]) (by assumption) nN (fun p hp => (List.mem_cons.mp hp).elim (fun e => by rw [e]; exact List.Mem.head _) (fun hp => by repeat (first | exact hp | apply List.Mem.tail))) off8 ⟨by k_ne, by k_ne, by k_ne⟩ hRx hX (.cons _ _ (.cons _ _ (.cons _ _ .nil))) (by rw [rowsW_get hi9]; exact hw9) (by rw [rowsW_get hi9]; show (srt _).reverse = _; rw [e9]; rfl)) | (with_unfolding_all refine compEnd_same (by assumption) (by assumption) off8 True.intro (JRow2.off hRx hX rfl (by rw [rowsW_get hi9]; assumption))))
  k_with "IEnd" => (with_unfolding_all refine IEnd.int (by first | exact rfl | assumption) (by assumption) (by assumption) (by intro p hp; first | exact hp | exact List.Mem.tail _ hp))
  k_with "FinE" => (k_dflt (unfold LCg.FinE); intro D9 h9 k9 F9 N9 o9; (have o19 := o9); (try simp only [LCg.Off1, and_true] at o19); (try simp only [List.nil_append, List.cons_append] at N9); (try dsimp only))
  k_with "FinA" => (k_dflt (unfold LCg.FinA); intro D8 h8 k8 F8 N8 o8; (have o18 := o8); (try simp only [LCg.Off1, and_true] at o18); (try simp only [List.nil_append, List.cons_append] at N8); (try dsimp only))
  k_steps
  with_unfolding_all exact hnext D8 ysx extra _ _ _ hRx hX F8 (by intro z h2; simp only [List.contains_cons, List.contains_nil, Bool.or_false, Bool.or_eq_false_iff, beq_eq_false_iff_ne, ne_eq] at h2; simp only [h2, if_false]) (by with_unfolding_all rfl) N8
end Mine
end
section
set_option maxRecDepth 100000
namespace Mine
open Builtin.Int (intBits)
set_option maxHeartbeats 4000000 in
theorem segD {w : World} {loose : List Str} {mean : ExcName → Option Value} {mg mb : Str → Option Value} {fa : Addr} {cd : Value} {base h₀ : Heap} {L : Addr} {m : Str → Option Value} {s : Shared} {E : Value → Shared → Prop} {Q : Flow → Shared → Prop} {sc : Scope} {bd : List Stmt} {st0 st1 st2 st3 : Stmt} (hsc : sc = lawScope) (hbd : lawBody.drop 8 = st0 :: st1 :: st2 :: st3 :: bd) {Wa R : Addr} {w0 w1 w2 w3 w4 w5 lo u f g : Int} {t0 t1 t2 t3 t4 t5 a1 a2 : Tok} {vs : List Value} {oQ : Obj} {rst : List (Addr × Obj)}
   (B : Below callerA base [] h₀) (F : Fr h₀ L s.heap m) (X : (hd.heap_39 w.params).In h₀) (N : News h₀ L s.heap ((L + 1 + 1 + 1 + 1, oQ) :: (Wa, LCg.lst [.int w0 t0, .int w1 t1, .int w2 t2, .int w3 t3, .int w4 t4, .int w5 t5]) :: (R, LCg.lst vs) :: rst)) (T : Top topProg loose mean mg mb h₀) (qR : m (Str.ofString "rows") = some (.ref R)) (qu : m (Str.ofString "unit") = some (.int u a1)) (ql : m (Str.ofString "low") = some (.int lo a2)) (dQ : oQ.data = .cell (some (.ref Wa))) (hvl : vs.length ≤ 6)
   (hA1 : (if lo = 0 then false else (Builtin.bitAnd (lo) (lo - 1) == 0)) = decide (vs ≠ [])) (hA2 : (if -lo = 0 then false else (Builtin.bitAnd (-lo) (-lo - 1) == 0)) = false) (hA3 : (if (w0 + (w1 + (w2 + (w3 + (w4 + (w5 + 0)))))) = 0 then false else (Builtin.bitAnd ((w0 + (w1 + (w2 + (w3 + (w4 + (w5 + 0))))))) ((w0 + (w1 + (w2 + (w3 + (w4 + (w5 + 0)))))) - 1) == 0)) = ((vs.length : Int) == 1)) (hA4 : (if u - 1 = 0 then false else (Builtin.bitAnd (u - 1) (u - 1 - 1) == 0)) = false)
   (hB1 : (intBits lo : Int) - 1 = f) (hB2 : (intBits (w0 + (w1 + (w2 + (w3 + (w4 + (w5 + 0)))))) : Int) - 1 = g) (hB3 : (intBits (-lo) : Int) - 1 = f) (hB4 : (intBits (-(w0 + (w1 + (w2 + (w3 + (w4 + (w5 + 0))))))) : Int) - 1 = g) (hB5 : (intBits (u - 1) : Int) - 1 = (if 0 > f then 0 else f) - 1)
   (hnext : ∀ b1 b2 m' h' tk', Fr h₀ L h' m' → (∀ y, [Str.ofString "first", Str.ofString "last"].contains y = false → m' y = m y) → m' (Str.ofString "first") = some (.int f b1) → m' (Str.ofString "last") = some (.int g b2) → News h₀ L h' ((L + 1 + 1 + 1 + 1, oQ) :: (Wa, LCg.lst [.int w0 t0, .int w1 t1, .int w2 t2, .int w3 t3, .int w4 t4, .int w5 t5]) :: (R, LCg.lst vs) :: rst) → wpAny (model PySem.Challenge.rw_wo0032_01.row.prog w) (callerA.deeper (envOfC (Str.ofString "law") sc L fa cd)) (execs bd (envOfC (Str.ofString "law") sc L fa cd)) Q E { s with heap := h', toks := tk' }) : wpAny (model PySem.Challenge.rw_wo0032_01.row.prog w) (callerA.deeper (envOfC (Str.ofString "law") sc L fa cd)) (execs (st0 :: st1 :: st2 :: st3 :: bd) (envOfC (Str.ofString "law") sc L fa cd)) Q E s := by
  w_top off
  k_with_none
  k_with "LT1!" => (first | with_reducible assumption | with_reducible exact Nat.lt_succ_self _ | with_reducible exact And.left (by assumption) | with_reducible exact And.left (And.right (by assumption)) | with_reducible exact And.left (And.right (And.right (by assumption))) | with_reducible exact And.left (And.right (And.right (And.right (by assumption)))) | with_reducible exact And.left (And.right (And.right (And.right (And.right (by assumption))))) | with_reducible exact And.left (And.right (And.right (And.right (And.right (And.right (by assumption)))))) | with_reducible exact And.right (by assumption) | with_reducible exact And.right (And.right (by assumption)) | with_reducible exact And.right (And.right (And.right (by assumption))) | with_reducible exact And.right (And.right (And.right (And.right (by assumption)))))
  k_with "LT!" => (first | k_extra "LT1!" | ((with_reducible refine (Nat.lt_succ_of_lt ?_ : @LT.lt Nat _ _ (_ + 1))); first | k_extra "LT1!" | ((with_reducible refine (Nat.lt_succ_of_lt ?_ : @LT.lt Nat _ _ (_ + 1))); first | k_extra "LT1!" | ((with_reducible refine (Nat.lt_succ_of_lt ?_ : @LT.lt Nat _ _ (_ + 1))); k_extra "LT1!"))))
  k_with "NE!" => (first | with_reducible assumption | with_reducible exact Ne.symm (by assumption) | decide | ((fail_if_success (fail_if_success omega)); first | ((with_reducible refine Nat.ne_of_gt ?_); (fail_if_success (fail_if_success omega)); k_extra "LT!") | ((with_reducible refine Nat.ne_of_lt ?_); (fail_if_success (fail_if_success omega)); k_extra "LT!") | with_reducible exact And.left (by assumption) | with_reducible exact And.left (And.right (by assumption)) | with_reducible exact And.left (And.right (And.right (by assumption))) | omega))
  k_with "KNE!" => ((refine neN ?_; (try dsimp only); k_extra "NE!"))
  k_with "LBND!" => (first | assumption | decide | with_reducible exact Int.lt_of_lt_of_le (by assumption) (by decide) | with_reducible exact Int.lt_of_le_of_lt (by assumption) (by decide) | with_reducible exact Int.le_trans (by assumption) (by decide) | with_reducible exact Int.lt_of_lt_of_le (by decide) (by assumption) | with_reducible exact Int.le_trans (by decide) (by assumption) | with_reducible exact Int.natCast_nonneg _ | with_reducible exact Int.ne_of_gt (by assumption) | with_reducible exact Int.le_of_lt (by assumption) | with_reducible exact Nat.lt_of_lt_of_le (by assumption) (by decide) | with_reducible exact Nat.lt_of_le_of_lt (by assumption) (by decide) | with_reducible exact Nat.le_trans (by assumption) (by decide) | k_dflt omega | l_fact)
  k_with "ROOM!" => (((try simp only [depth_under_make, depth_under_kw, depth_in1, depth_deeper, depth_caller]); (try dsimp only [ktrTop]); first | with_reducible assumption | exact room_0 (by with_reducible assumption) | exact room_le (by with_reducible assumption) (by decide) | exact room_12 (by with_reducible assumption) (by decide)))
  k_with "UNITS!" => (((try simp only [units_in1, units_deeper, Around.mark_units, units_caller]); (try dsimp only [ktrTop]); first | with_reducible assumption | exact room_0 (by with_reducible assumption) | exact room_le (by with_reducible assumption) (by decide) | exact room_12 (by with_reducible assumption) (by decide) | exact room_123 (by with_reducible assumption) (by decide)))
  k_with "BITS!" => (first | (with_reducible assumption) | ((with_reducible refine bits_le_of_lt ?_ ?_) <;> l_bnd))
  k_with "ALL!" => (first | assumption | (refine' allNe (by assumption)) | (refine' neOfLt (by assumption)))
  k_with "EV!" => ((repeat' (first | exact Ev.const | exact Ev.cap (by with_unfolding_all rfl) | exact Ev.loc (by with_unfolding_all rfl) (by with_unfolding_all rfl) (by decide) | apply Ev.and1 | apply Ev.add | apply Ev.sub | apply Ev.neg | apply Ev.mul | apply Ev.fmod | apply Ev.fdiv | apply Ev.pow | apply Ev.shr | apply Ev.item (by with_unfolding_all rfl) (hs := by intro _ _; with_unfolding_all rfl) | apply Ev.bxor | apply Ev.band | apply EvP.lt (hm := by with_unfolding_all rfl) | apply EvP.le (hm := by with_unfolding_all rfl) | apply EvP.gt (hm := by with_unfolding_all rfl) | apply EvP.ge (hm := by with_unfolding_all rfl) | apply EvP.eq (hm := by with_unfolding_all rfl) | apply EvP.ne (hm := by with_unfolding_all rfl) | apply EvP.lelt (hm := by with_unfolding_all rfl) | apply EvP.not | apply EvP.int (hi := by rfl) | ((with_reducible show IntMulOk _ _); refine IntMulOk.of_le (by bits_by_make) (by bits_by_make) (by decide)) | exact PyProof.noPylong_small (by decide) | k_extra "EVC!" | ((fail_if_success (with_reducible show Int)); l_bnd))))
  k_with "EVC!" => (fail)
  k_with "compareOp IsNot bool bool" => ((k_here; (with_reducible refine r_isnot_bool ?_)))
  have hvm : vs.length ≤ 1000000 := Nat.le_trans hvl (by decide)
  with_unfolding_all (conv at hsc => rhs; whnf)
  dsimp only at hsc
  with_unfolding_all (conv at hbd => lhs; whnf)
  injection hbd with hst0 hbd
  (try dsimp only at hst0)
  with_unfolding_all (conv at hbd => lhs; whnf)
  injection hbd with hst1 hbd
  (try dsimp only at hst1)
  with_unfolding_all (conv at hbd => lhs; whnf)
  injection hbd with hst2 hbd
  (try dsimp only at hst2)
  with_unfolding_all (conv at hbd => lhs; whnf)
  injection hbd with hst3 hbd
  (try dsimp only at hst3)
  clear hbd
  subst hsc hst0 hst1 hst2 hst3
  replace F := fr_focus ql F
  replace F := fr_focus (k := Str.ofString "unit") (v := .int u a1) (by (try dsimp only); rw [if_neg (by decide)]; exact qu) F
  replace F := fr_focus (k := Str.ofString "rows") (v := .ref R) (by (try dsimp only); rw [if_neg (by decide)]; rw [if_neg (by decide)]; exact qR) F
  revert B F X N T
  k_fill
  intro B F X N T
  k_with "compareOp NotEq ref ref" => (k_dflt (refine r_ne_nil (R := R) (vs := vs) (by k_asm) (by k_mem) (by k_mem) (by ke_room) ?_))
  k_with "call builtin:len" => (k_dflt (refine r_len (vs := vs) (k := vs.length) (by k_asm) (by k_mem) rfl (by omega) ?_))
  k_with "call ref" => (first | (((with_unfolding_all refine c_isb' (by with_reducible assumption) (by k_asm) (by k_asm) (by k_asm) (by k_asm) (by k_asm) (by rfl) (by ktr_room) (by ktr_units) ?_); intro h9 k9 F9 N9; (try dsimp only); (try k_fold))) | (((with_unfolding_all refine c_high' (by with_reducible assumption) (by k_asm) (by k_asm) (by k_asm) (by k_asm) (by k_asm) (by rfl) (by ktr_room) (by ktr_units) ?_); intro t9 h9 k9 F9 N9; (try dsimp only); (try k_fold))))
  k_steps
  (with_reducible rename News _ _ _ _ => nN)
  with_unfolding_all exact hnext _ _ _ _ _ (by assumption) (by intro z h2; simp only [List.contains_cons, List.contains_nil, Bool.or_false, Bool.or_eq_false_iff, beq_eq_false_iff_ne, ne_eq] at h2; simp only [h2, if_false, ite_focus qR, ite_focus qu, ite_focus ql]) (by with_unfolding_all rfl) (by with_unfolding_all rfl) (cb_drop nN fun q hq => by repeat (first | exact hq | apply List.Mem.tail))
end Mine
end
section
set_option maxRecDepth 100000
namespace Mine
open Builtin.Int (intBits)

set_option maxHeartbeats 4000000 in
theorem segE {w : World} {loose : List Str} {mean : ExcName → Option Value} {mg mb : Str → Option Value} {fa : Addr} {cd : Value} {base h₀ : Heap} {L : Addr} {m : Str → Option Value} {s : Shared} {E : Value → Shared → Prop} {Q : Flow → Shared → Prop} {sc : Scope} {bd : List Stmt} {st0 st1 st2 : Stmt} (hsc : sc = lawScope) (hbd : lawBody.drop 12 = st0 :: st1 :: st2 :: bd) {D8 : Addr} {ys : List Value} {cs : List Int} {rst : List (Addr × Obj)}
   (B : Below callerA base [] h₀) (F : Fr h₀ L s.heap m) (X : (hd.heap_39 w.params).In h₀) (N : News h₀ L s.heap ((D8, LCg.lst ys) :: rst)) (T : Top topProg loose mean mg mb h₀) (qc : m (Str.ofString "cells") = some (.ref D8)) (hys : IntsAre ys cs) (hcs : cs.length = 11)
   (hnext : ∀ O (fr nr : Int) b3 b4 m' h' tk', 2 ^ 4100 ≤ fr → fr < 2 ^ 4101 → 0 ≤ nr → nr < fr → AllLt O rst → Fr h₀ L h' m' → (∀ y, [Str.ofString "far", Str.ofString "near", Str.ofString "odd"].contains y = false → m' y = m y) → m' (Str.ofString "far") = some (.int fr b4) → m' (Str.ofString "near") = some (.int nr b3) → m' (Str.ofString "odd") = some (.ref O) → News h₀ L h' ((O, W.listOf (List.toArray []) 0) :: rst) → wpAny (model PySem.Challenge.rw_wo0032_01.row.prog w) (callerA.deeper (envOfC (Str.ofString "law") sc L fa cd)) (execs bd (envOfC (Str.ofString "law") sc L fa cd)) Q E { s with heap := h', toks := tk' }) : wpAny (model PySem.Challenge.rw_wo0032_01.row.prog w) (callerA.deeper (envOfC (Str.ofString "law") sc L fa cd)) (execs (st0 :: st1 :: st2 :: bd) (envOfC (Str.ofString "law") sc L fa cd)) Q E s := by
  w_top off
  k_with_none
  k_with "LT1!" => (first | with_reducible assumption | with_reducible exact Nat.lt_succ_self _ | with_reducible exact And.left (by assumption) | with_reducible exact And.left (And.right (by assumption)) | with_reducible exact And.left (And.right (And.right (by assumption))) | with_reducible exact And.left (And.right (And.right (And.right (by assumption)))) | with_reducible exact And.left (And.right (And.right (And.right (And.right (by assumption))))) | with_reducible exact And.left (And.right (And.right (And.right (And.right (And.right (by assumption)))))) | with_reducible exact And.right (by assumption) | with_reducible exact And.right (And.right (by assumption)) | with_reducible exact And.right (And.right (And.right (by assumption))) | with_reducible exact And.right (And.right (And.right (And.right (by assumption)))))
  k_with "LT!" => (first | k_extra "LT1!" | ((with_reducible refine (Nat.lt_succ_of_lt ?_ : @LT.lt Nat _ _ (_ + 1))); first | k_extra "LT1!" | ((with_reducible refine (Nat.lt_succ_of_lt ?_ : @LT.lt Nat _ _ (_ + 1))); first | k_extra "LT1!" | ((with_reducible refine (Nat.lt_succ_of_lt ?_ : @LT.lt Nat _ _ (_ + 1))); k_extra "LT1!"))))
  k_with "NE!" => (first | with_reducible assumption | with_reducible exact Ne.symm (by assumption) | decide | ((fail_if_success (fail_if_success omega)); first | ((with_reducible refine Nat.ne_of_gt ?_); (fail_if_success (fail_if_success omega)); k_extra "LT!") | ((with_reducible refine Nat.ne_of_lt ?_); (fail_if_success (fail_if_success omega)); k_extra "LT!") | with_reducible exact And.left (by assumption) | with_reducible exact And.left (And.right (by assumption)) | with_reducible exact And.left (And.right (And.right (by assumption))) | omega))
  k_with "KNE!" => ((refine neN ?_; (try dsimp only); k_extra "NE!"))
  k_with "LBND!" => (first | assumption | decide | with_reducible exact Int.lt_of_lt_of_le (by assumption) (by decide) | with_reducible exact Int.lt_of_le_of_lt (by assumption) (by decide) | with_reducible exact Int.le_trans (by assumption) (by decide) | with_reducible exact Int.lt_of_lt_of_le (by decide) (by assumption) | with_reducible exact Int.le_trans (by decide) (by assumption) | with_reducible exact Int.natCast_nonneg _ | with_reducible exact Int.ne_of_gt (by assumption) | with_reducible exact Int.le_of_lt (by assumption) | with_reducible exact Nat.lt_of_lt_of_le (by assumption) (by decide) | with_reducible exact Nat.lt_of_le_of_lt (by assumption) (by decide) | with_reducible exact Nat.le_trans (by assumption) (by decide) | k_dflt omega | l_fact)
  k_with "ROOM!" => (((try simp only [depth_under_make, depth_under_kw, depth_in1, depth_deeper, depth_caller]); (try dsimp only [ktrTop]); first | with_reducible assumption | exact room_0 (by with_reducible assumption) | exact room_le (by with_reducible assumption) (by decide) | exact room_12 (by with_reducible assumption) (by decide)))
  k_with "UNITS!" => (((try simp only [units_in1, units_deeper, Around.mark_units, units_caller]); (try dsimp only [ktrTop]); first | with_reducible assumption | exact room_0 (by with_reducible assumption) | exact room_le (by with_reducible assumption) (by decide) | exact room_12 (by with_reducible assumption) (by decide) | exact room_123 (by with_reducible assumption) (by decide)))
  k_with "BITS!" => (first | (with_reducible assumption) | ((with_reducible refine bits_le_of_lt ?_ ?_) <;> l_bnd))
  k_with "ALL!" => (first | assumption | (refine' allNe (by assumption)) | (refine' neOfLt (by assumption)))
  have hyl := hys.length
  with_unfolding_all (conv at hsc => rhs; whnf)
  dsimp only at hsc
  with_unfolding_all (conv at hbd => lhs; whnf)
  injection hbd with hst0 hbd
  (try dsimp only at hst0)
  with_unfolding_all (conv at hbd => lhs; whnf)
  injection hbd with hst1 hbd
  (try dsimp only at hst1)
  with_unfolding_all (conv at hbd => lhs; whnf)
  injection hbd with hst2 hbd
  (try dsimp only at hst2)
  clear hbd
  subst hsc hst0 hst1 hst2
  replace F := fr_focus qc F
  revert B F X N T
  k_fill
  intro B F X N T

  k_steps
  · exact (far_ne (by assumption)).elim
  · (with_reducible rename _ < _ ∧ AllLt _ _ => lA)
    (with_reducible rename News _ _ _ _ => nN)
    with_unfolding_all exact hnext _ _ _ _ _ _ _ _ (far_b _).1 (far_b _).2 (near_b _ _).1 (near_b _ _).2 lA.2 (by assumption) (by intro z h2; simp only [List.contains_cons, List.contains_nil, Bool.or_false, Bool.or_eq_false_iff, beq_eq_false_iff_ne, ne_eq] at h2; simp only [h2, if_false, ite_focus qc]) (by with_unfolding_all rfl) (by with_unfolding_all rfl) (by with_unfolding_all rfl) (cb_drop nN fun q hq => by (rcases List.mem_cons.mp hq with h | h <;> simp only [List.mem_cons, h, true_or, or_true]))
end Mine
end
section
set_option maxRecDepth 100000
namespace Mine
open Builtin.Int (intBits)



theorem idx9 {i : Nat} (h : i < 9) : (0 ≤ ((i : Int) / 3 + 1) % 3 * 3 + ((i : Int) + 1) % 3 ∧ ((i : Int) / 3 + 1) % 3 * 3 + ((i : Int) + 1) % 3 < 9) ∧ (0 ≤ ((i : Int) / 3 + 1) % 3 * 3 + ((i : Int) + 2) % 3 ∧ ((i : Int) / 3 + 1) % 3 * 3 + ((i : Int) + 2) % 3 < 9) ∧ (0 ≤ ((i : Int) / 3 + 2) % 3 * 3 + ((i : Int) + 1) % 3 ∧ ((i : Int) / 3 + 2) % 3 * 3 + ((i : Int) + 1) % 3 < 9) ∧ (0 ≤ ((i : Int) / 3 + 2) % 3 * 3 + ((i : Int) + 2) % 3 ∧ ((i : Int) / 3 + 2) % 3 * 3 + ((i : Int) + 2) % 3 < 9) := by
  have : ∀ i : Fin 9, (0 ≤ ((i.val : Int) / 3 + 1) % 3 * 3 + ((i.val : Int) + 1) % 3 ∧ ((i.val : Int) / 3 + 1) % 3 * 3 + ((i.val : Int) + 1) % 3 < 9) ∧ (0 ≤ ((i.val : Int) / 3 + 1) % 3 * 3 + ((i.val : Int) + 2) % 3 ∧ ((i.val : Int) / 3 + 1) % 3 * 3 + ((i.val : Int) + 2) % 3 < 9) ∧ (0 ≤ ((i.val : Int) / 3 + 2) % 3 * 3 + ((i.val : Int) + 1) % 3 ∧ ((i.val : Int) / 3 + 2) % 3 * 3 + ((i.val : Int) + 1) % 3 < 9) ∧ (0 ≤ ((i.val : Int) / 3 + 2) % 3 * 3 + ((i.val : Int) + 2) % 3 ∧ ((i.val : Int) / 3 + 2) % 3 * 3 + ((i.val : Int) + 2) % 3 < 9) := by decide
  exact this ⟨i, h⟩
set_option maxHeartbeats 4000000 in
theorem segF {w : World} {loose : List Str} {mean : ExcName → Option Value} {mg mb : Str → Option Value} {fa : Addr} {cd : Value} {base h₀ : Heap} {L : Addr} {m0 : Str → Option Value} {s : Shared} {E : Value → Shared → Prop} {Q : Flow → Shared → Prop} {sc : Scope} {bd : List Stmt} {st0 : Stmt} (hsc : sc = lawScope) (hbd : lawBody.drop 15 = st0 :: bd) {R Tb Tn D8 O : Addr} {nb nt : Nat} {y0 y1 y2 y3 y4 y5 y6 y7 y8 x0 x1 x2 x3 x4 x5 x6 x7 x8 : Int} {z0 z1 z2 z3 z4 z5 z6 z7 z8 v0 v1 v2 v3 v4 v5 v6 v7 v8 : Tok} {oT oB : Obj} {wh lo u f g fr nr : Int} {a1 a2 a3 b1 b2 b3 b4 : Tok} {rst : List (Addr × Obj)} {ev : Nat → Int}
   (B : Below callerA base [] h₀) (F : Fr h₀ L s.heap (fun y => if y = Str.ofString "odd" then some (.ref O) else if y = Str.ofString "near" then some (.int nr b3) else if y = Str.ofString "far" then some (.int fr b4) else if y = Str.ofString "first" then some (.int f b1) else if y = Str.ofString "last" then some (.int g b2) else if y = Str.ofString "rows" then some (.ref R) else if y = Str.ofString "unit" then some (.int u a1) else if y = Str.ofString "low" then some (.int lo a2) else if y = Str.ofString "whole" then some (.int wh a3) else if y = Str.ofString "cells" then some (.ref D8) else m0 y)) (X : (hd.heap_39 w.params).In h₀) (N : News h₀ L s.heap ((O, W.listOf #[] 0) :: (Tb, W.listOf #[.int y0 z0, .int y1 z1, .int y2 z2, .int y3 z3, .int y4 z4, .int y5 z5, .int y6 z6, .int y7 z7, .int y8 z8] nb) :: (Tn, W.listOf #[.int x0 v0, .int x1 v1, .int x2 v2, .int x3 v3, .int x4 v4, .int x5 v5, .int x6 v6, .int x7 v7, .int x8 v8] nt) :: (L + 1 + 1, oB) :: (L + 1, oT) :: ([(44, tabObj #[])] ++ ([(51, tabObj #[])] ++ rst)))) (T : Top topProg loose mean mg mb h₀) (dT : oT.data = .cell (some (.ref Tn))) (dB : oB.data = .cell (some (.ref Tb)))
   (hG : ∀ p ∈ (O, W.listOf #[] 0) :: (Tb, W.listOf #[.int y0 z0, .int y1 z1, .int y2 z2, .int y3 z3, .int y4 z4, .int y5 z5, .int y6 z6, .int y7 z7, .int y8 z8] nb) :: (Tn, W.listOf #[.int x0 v0, .int x1 v1, .int x2 v2, .int x3 v3, .int x4 v4, .int x5 v5, .int x6 v6, .int x7 v7, .int x8 v8] nt) :: (L + 1 + 1, oB) :: (L + 1, oT) :: rst, p.1 ≠ 44 ∧ p.1 ≠ 51) (hO : ∀ p ∈ (Tb, W.listOf #[.int y0 z0, .int y1 z1, .int y2 z2, .int y3 z3, .int y4 z4, .int y5 z5, .int y6 z6, .int y7 z7, .int y8 z8] nb) :: (Tn, W.listOf #[.int x0 v0, .int x1 v1, .int x2 v2, .int x3 v3, .int x4 v4, .int x5 v5, .int x6 v6, .int x7 v7, .int x8 v8] nt) :: (L + 1 + 1, oB) :: (L + 1, oT) :: rst, p.1 ≠ O)
   (hE : PassesOwn (model PySem.Challenge.rw_wo0032_01.row.prog w) (callerA.deeper (envOfC (Str.ofString "law") sc L fa cd)) (envOfC (Str.ofString "law") sc L fa cd) E) (C1 : CodeHd base 48 44) (C2 : CodeHd base 55 51) (hby : ∀ y ∈ [y0, y1, y2, y3, y4, y5, y6, y7, y8], intBits y ≤ 4097)
   (hev : ∀ i, i < 9 → shareT [y0, y1, y2, y3, y4, y5, y6, y7, y8] i = ev i * u ∧ 0 ≤ ev i) (hu1 : 0 < u) (hu2 : intBits u ≤ 7170) (hfr : 2 ^ 4100 ≤ fr) (hfr2 : fr < 2 ^ 4101) (hn0 : 0 ≤ nr) (hn1 : nr < fr)
   (hnext : ∀ ov nn (uu : Str → Option Value) ts44 ts51 h' tk', IntsAre ov (oddUp ev [x0, x1, x2, x3, x4, x5, x6, x7, x8] 9) → Tab44 ts44 → Tab51 ts51 → Fr h₀ L h' (fun y => if [Str.ofString "k", Str.ofString "a", Str.ofString "b", Str.ofString "c", Str.ofString "d", Str.ofString "share", Str.ofString "told"].contains y then uu y else (fun y => if y = Str.ofString "odd" then some (.ref O) else if y = Str.ofString "near" then some (.int nr b3) else if y = Str.ofString "far" then some (.int fr b4) else if y = Str.ofString "first" then some (.int f b1) else if y = Str.ofString "last" then some (.int g b2) else if y = Str.ofString "rows" then some (.ref R) else if y = Str.ofString "unit" then some (.int u a1) else if y = Str.ofString "low" then some (.int lo a2) else if y = Str.ofString "whole" then some (.int wh a3) else if y = Str.ofString "cells" then some (.ref D8) else m0 y) y) → News h₀ L h' ((O, W.listOf ov.toArray nn) :: (Tb, W.listOf #[.int y0 z0, .int y1 z1, .int y2 z2, .int y3 z3, .int y4 z4, .int y5 z5, .int y6 z6, .int y7 z7, .int y8 z8] nb) :: (Tn, W.listOf #[.int x0 v0, .int x1 v1, .int x2 v2, .int x3 v3, .int x4 v4, .int x5 v5, .int x6 v6, .int x7 v7, .int x8 v8] nt) :: (L + 1 + 1, oB) :: (L + 1, oT) :: (ts44 ++ (ts51 ++ rst))) → wpAny (model PySem.Challenge.rw_wo0032_01.row.prog w) (callerA.deeper (envOfC (Str.ofString "law") sc L fa cd)) (execs bd (envOfC (Str.ofString "law") sc L fa cd)) Q E { s with heap := h', toks := tk' }) : wpAny (model PySem.Challenge.rw_wo0032_01.row.prog w) (callerA.deeper (envOfC (Str.ofString "law") sc L fa cd)) (execs (st0 :: bd) (envOfC (Str.ofString "law") sc L fa cd)) Q E s := by
  w_top off
  k_with_none
  k_with "BITS!" => (first | (with_reducible assumption) | ((with_reducible apply bits_ediv2); bits_by_make) | ((with_reducible refine bits_emod2 ?_ ?_); (focus l_bnd); bits_by_make))
  k_with "binaryOp LShift int int" => ((k_here; (with_reducible refine' r_shl (by l_bnd) (by bits_by_make) (by l_bnd) (by decide) ?_)))
  k_with "inplaceOp LShift int int" => ((k_here; (with_reducible refine' ishl (by l_bnd) (by bits_by_make) (by l_bnd) (by decide) ?_)))
  k_with "binaryOp RShift int int" => ((k_here; (with_reducible refine r_shr (by l_bnd) ?_)))
  k_with "inplaceOp RShift int int" => ((k_here; (with_reducible refine ishr (by l_bnd) ?_)))
  k_with "binaryOp BitOr int int" => ((k_here; (with_reducible refine r_or (by l_bnd) (by l_bnd) (by l_bnd) ?_)))
  k_with "binaryOp BitAnd int int" => ((k_here; first | (with_reducible refine r_and1 ?_) | ((with_reducible refine r_mask (by l_bnd) ?_))))
  k_with "call builtin:divmod" => ((k_here; (with_reducible show wpAny _ _ (call (Value.builtin _) [Value.int _ _, Value.int _ _]) _ _ _); (refine' r_divmod (by assumption) (by assumption) (by l_bnd) (by assumption) ?_); intro D' t1' t2' h' tk' F' N' l1; (try k_lt l1)))
  k_with "ALL!" => (first | assumption | (refine' allNe (by assumption)) | (refine' allNe (And.right (by assumption))) | (refine' allNe (And.right (And.right (by assumption)))) | (refine' allNeLt (by assumption) (by omega)))
  k_with "binaryOp Mult ref int" => ((k_here; k_dflt (refine' r_rep0 (by k_asm) (by k_asm) (by k_mem) (by l_bnd) (by l_bnd) ?_); intro D' h' F' N' l1; (try k_lt l1)))
  k_with "BITS!" => (((with_reducible refine bits_getD ?_ _); with_reducible assumption))
  k_with "BITS!" => (((with_reducible refine intBits_sub_le ?_ ?_) <;> bits_by_make))
  k_with "BITS!" => (((with_reducible refine intBits_natAbs_le ?_) <;> bits_by_make))
  k_with "BITS!" => (((with_reducible refine intBits_mul_le ?_ ?_) <;> bits_by_make))
  k_with "BITS!" => (((with_reducible refine intBits_neg_le ?_) <;> bits_by_make))
  k_with "BITS!" => (((with_reducible refine intBits_ite_le ?_ ?_) <;> bits_by_make))
  k_with "binaryOp Mult int int" => ((k_here; (with_reducible refine' mul_int ?_ (by refine IntMulOk.of_le (by bits_by_make) (by bits_by_make) (by decide)))))
  k_with "binaryOp Mult int int" => ((k_here; (with_reducible show wpAny _ _ (binaryOp _ (Value.int _ _) (Value.int (ite _ _ _) _)) _ _ _); k_extra "mulshare"))
  k_with "IDX!" => (first | with_reducible assumption | with_reducible exact Int.lt_of_lt_of_le (by assumption) (by decide))
  have hbf : intBits fr ≤ 4101 := bits_le_of_lt (Int.le_trans (Int.le_of_lt (pow2_pos 4100)) hfr) hfr2
  with_unfolding_all (conv at hsc => rhs; whnf)
  dsimp only at hsc
  with_unfolding_all (conv at hbd => lhs; whnf)
  injection hbd with hst0 hbd
  (try dsimp only at hst0)
  clear hbd
  subst hsc hst0
  revert B F X N T
  k_fill
  intro B F X N T
  k_with "execs" => (with_unfolding_all exact hnext _ _ _ _ _ _ _ hi9 h44 h51 (by assumption) (by assumption))
  k_with "mulshare" => ((with_reducible refine mul_gen (by bits_by_make) (by bits_by_make) (by decide) ?_); intro sh9 hsh9; (have hsb9 : intBits sh9 ≤ 12400 := by with_unfolding_all (rw [hsh9]; exact share_bits hby i9)); (have he9 : sh9 = ev i9 * u := by with_unfolding_all exact hsh9.trans (hev i9 hlt9).1); (have he09 := (hev i9 hlt9).2); (have hbe9 := bits_fac he9 hu1 hsb9); clear hsh9)
  k_with "call ref" => (((with_unfolding_all refine c_dmpT h44 h51 (by k_asm) (by k_asm) (by k_asm) (by first | assumption | (apply ndh; assumption) | (apply ndh; apply ndh; assumption) | (apply ndh; apply ndh; apply ndh; assumption) | (apply ndh; apply ndh; apply ndh; apply ndh; assumption) | (apply ndh; apply ndh; apply ndh; apply ndh; apply ndh; assumption) | (apply ndh; apply ndh; apply ndh; apply ndh; apply ndh; apply ndh; assumption)) (by k_asm) (by rfl) C1 C2 (hg9 _) (ho9 _) he9 he09 hu1 hu2 hfr hfr2 hn0 hn1 hsb9 (by ktr_room) (by ktr_units) ?_); intro D8 ts44' ts51' t1' t2' h8 k8 g44 g51 F8 N8 hO8 hI8 lO8 lI8; (try dsimp only); (try k_fold)))
  k_with "exec For Name Call cons nil" => (refine for_else (h₀ := h₀) (by with_unfolding_all rfl) (by with_unfolding_all rfl) ?_ (by intro _; with_unfolding_all rfl) hE)
  k_with "pyIter ref" => (((with_reducible rename Fr _ _ _ _ => lF'); (with_reducible rename News _ _ _ _ => lN'); (with_reducible rename IsRange _ _ _ _ _ _ _ _ => lR'); (with_unfolding_all refine odd_loop (n := 9) (fg := [Str.ofString "k", Str.ofString "a", Str.ofString "b", Str.ofString "c", Str.ofString "d", Str.ofString "share", Str.ofString "told"]) (ev := ev) (tn := [x0, x1, x2, x3, x4, x5, x6, x7, x8]) (by rfl) lR' (by rfl) (by rfl) lF' lN' hG hO ?_ ?_); (clear lF' lN' lR'); (rotate_left); (intro ov9 nn9 u9 ts44 ts51 h9 tk9 hi9 h44 h51 F9 N9; (try k_fold)); (rotate_left); (intro I9 i9 t9 ov9 nn9 u9 ts44 ts51 h9 tk9 hlt9 hi9 h44 h51 hg9 ho9 hi99 F9 N9; (obtain ⟨⟨j1, j2⟩, ⟨j3, j4⟩, ⟨j5, j6⟩, ⟨j7, j8⟩⟩ := idx9 hlt9); (have hl9 := hi9.length); (have hl99 := oddUp_len ev [x0, x1, x2, x3, x4, x5, x6, x7, x8] i9); (try k_fold))))
  k_with "EPost" => (((with_reducible rename News _ L _ _ => nN); (try simp only [List.push_toArray] at nN); (rename (Int.fmod _ 2 = 1) => hf9); (with_unfolding_all refine EPost.odd (by assumption) (by first | assumption | (apply ndh; assumption) | (apply ndh; apply ndh; assumption)) (ints_snoc hi9) (odd_on' hf9) g44 g51 (by intro z h2; have h3 := h2; simp only [List.contains_cons, List.contains_nil, Bool.or_false, Bool.or_eq_false_iff, beq_eq_false_iff_ne, ne_eq] at h3; simp [h2, h3]) (Ne.symm (ho9 (itR 0 0) _ (.head _))) hi99 hI8)))
  k_with "EPost" => (((rename (Int.fmod _ 2 ≠ 1) => hf9); (with_unfolding_all refine EPost.odd (by assumption) (by first | assumption | (apply ndh; assumption) | (apply ndh; apply ndh; assumption)) hi9 (odd_off' hf9) g44 g51 (by intro z h2; have h3 := h2; simp only [List.contains_cons, List.contains_nil, Bool.or_false, Bool.or_eq_false_iff, beq_eq_false_iff_ne, ne_eq] at h3; simp [h2, h3]) (Ne.symm (ho9 (itR 0 0) _ (.head _))) hi99 hI8)))
  k_steps
  all_goals (exact absurd he9.symm (by assumption))
end Mine
end
section
set_option maxRecDepth 100000
namespace Mine
open Builtin.Int (intBits)



set_option maxHeartbeats 4000000 in
theorem segG0 {w : World} {loose : List Str} {mean : ExcName → Option Value} {mg mb : Str → Option Value} {fa : Addr} {cd : Value} {base h₀ : Heap} {L : Addr} {m0 : Str → Option Value} {s : Shared} {E : Value → Shared → Prop} {Q : Flow → Shared → Prop} {sc : Scope} {st0 st1 st2 st3 st4 : Stmt} {bd : List Stmt} (hsc : sc = lawScope) (hbd : lawBody.drop 16 = st0 :: st1 :: st2 :: st3 :: st4 :: bd) {R D8 O : Addr} {nn : Nat} {wh lo u f g fr nr : Int} {a1 a2 a3 b1 b2 b3 b4 : Tok} {rst : List (Addr × Obj)} {uu : Str → Option Value} {ov vs : List Value}
   (B : Below callerA base [] h₀) (F : Fr h₀ L s.heap (fun y => if [Str.ofString "k", Str.ofString "a", Str.ofString "b", Str.ofString "c", Str.ofString "d", Str.ofString "share", Str.ofString "told"].contains y then uu y else (fun y => if y = Str.ofString "odd" then some (.ref O) else if y = Str.ofString "near" then some (.int nr b3) else if y = Str.ofString "far" then some (.int fr b4) else if y = Str.ofString "first" then some (.int f b1) else if y = Str.ofString "last" then some (.int g b2) else if y = Str.ofString "rows" then some (.ref R) else if y = Str.ofString "unit" then some (.int u a1) else if y = Str.ofString "low" then some (.int lo a2) else if y = Str.ofString "whole" then some (.int wh a3) else if y = Str.ofString "cells" then some (.ref D8) else m0 y) y)) (X : (hd.heap_39 w.params).In h₀) (N : News h₀ L s.heap ((O, W.listOf ov.toArray nn) :: (R, LCg.lst vs) :: rst)) (T : Top topProg loose mean mg mb h₀) (hov : ov = []) (hvs : vs = []) (hf : f = -1) (hg : g = -1)
   (hret : ∀ h' tk' m', Fr h₀ L h' m' → News h₀ L h' rst → Q (.ret (.bool true)) { s with heap := h', toks := tk' }) : wpAny (model PySem.Challenge.rw_wo0032_01.row.prog w) (callerA.deeper (envOfC (Str.ofString "law") sc L fa cd)) (execs (st0 :: st1 :: st2 :: st3 :: st4 :: bd) (envOfC (Str.ofString "law") sc L fa cd)) Q E s := by
  w_top off
  k_with_none
  k_with "BITS!" => (first | (with_reducible assumption) | ((with_reducible apply bits_ediv2); bits_by_make) | ((with_reducible refine bits_emod2 ?_ ?_); (focus l_bnd); bits_by_make))
  k_with "binaryOp LShift int int" => ((k_here; (with_reducible refine' r_shl (by l_bnd) (by bits_by_make) (by l_bnd) (by decide) ?_)))
  k_with "inplaceOp LShift int int" => ((k_here; (with_reducible refine' ishl (by l_bnd) (by bits_by_make) (by l_bnd) (by decide) ?_)))
  k_with "binaryOp RShift int int" => ((k_here; (with_reducible refine r_shr (by l_bnd) ?_)))
  k_with "inplaceOp RShift int int" => ((k_here; (with_reducible refine ishr (by l_bnd) ?_)))
  k_with "binaryOp BitOr int int" => ((k_here; (with_reducible refine r_or (by l_bnd) (by l_bnd) (by l_bnd) ?_)))
  k_with "binaryOp BitAnd int int" => ((k_here; first | (with_reducible refine r_and1 ?_) | ((with_reducible refine r_mask (by l_bnd) ?_))))
  k_with "call builtin:divmod" => ((k_here; (with_reducible show wpAny _ _ (call (Value.builtin _) [Value.int _ _, Value.int _ _]) _ _ _); (refine' r_divmod (by assumption) (by assumption) (by l_bnd) (by assumption) ?_); intro D' t1' t2' h' tk' F' N' l1; (try k_lt l1)))
  k_with "ALL!" => (first | assumption | (refine' allNe (by assumption)) | (refine' allNe (And.right (by assumption))) | (refine' allNe (And.right (And.right (by assumption)))) | (refine' allNeLt (by assumption) (by omega)))
  k_with "binaryOp Mult ref int" => ((k_here; k_dflt (refine' r_rep0 (by k_asm) (by k_asm) (by k_mem) (by l_bnd) (by l_bnd) ?_); intro D' h' F' N' l1; (try k_lt l1)))
  k_with "binaryOp Add ref ref" => ((k_here; k_dflt (refine' r_addl (by k_asm) (by k_asm) (by k_mem) (by k_mem) (by simp <;> omega) ?_); intro D' h' F' N' l1; (try simp only [List.cons_append, List.nil_append] at N'); (try k_lt l1)))
  k_with "CompEnd" => ((k_here; with_unfolding_all refine compEnd_same (by assumption) (by assumption) (by first | assumption | (simp only [LCg.Off3, and_true]; assumption)) (by first | exact True.intro | k_mem | lcg_src) ?_))
  k_with "CompSrc" => ((k_here; k_dflt (refine LCg.CompSrc.ledger (by rfl) (by k_asm) (by k_asm) (by k_mem) (by first | exact Nat.le_of_ble_eq_true rfl) ?_; intro g'; lcg_lit)))
  k_with "CompSrcT" => ((k_here; k_dflt (refine LCt.CompSrcT.ledger (by rfl) (by k_asm) (by k_asm) (by k_mem) (by first | exact Nat.le_of_ble_eq_true rfl) ?_; intro g'; lct_lit)))
  k_with "eval ListComp" => ((k_here; k_dflt (refine LCt.ListComp_T (F₀ := by k_asm) (by with_unfolding_all rfl) (by decide) (by rfl) (by decide) (by rfl) ?_)))
  k_with "exec Assign cons ListComp" => ((k_here; k_dflt (refine LCg.Assign_ListComp_U (F₀ := by k_asm) (by rfl) (by with_unfolding_all rfl) (by with_unfolding_all rfl) (by decide) (by rfl) (by decide) (by rfl) (by rfl) (by rfl) ?_)))
  k_with "newList" => ((k_here; k_dflt (refine' newList_K (by k_asm) (by k_asm) ?_ (Nat.le_of_ble_eq_true rfl); k_whole); intro l' h' F' N' l1; (try k_lt l1); (try k_sweep)))
  subst hov hvs
  with_unfolding_all (conv at hsc => rhs; whnf)
  dsimp only at hsc
  with_unfolding_all (conv at hbd => lhs; whnf)
  injection hbd with hst0 hbd
  (try dsimp only at hst0)
  with_unfolding_all (conv at hbd => lhs; whnf)
  injection hbd with hst1 hbd
  (try dsimp only at hst1)
  with_unfolding_all (conv at hbd => lhs; whnf)
  injection hbd with hst2 hbd
  (try dsimp only at hst2)
  with_unfolding_all (conv at hbd => lhs; whnf)
  injection hbd with hst3 hbd
  (try dsimp only at hst3)
  with_unfolding_all (conv at hbd => lhs; whnf)
  injection hbd with hst4 hbd
  (try dsimp only at hst4)
  clear hbd
  subst hsc hst0 hst1 hst2 hst3 hst4
  revert B F X N T
  k_fill
  intro B F X N T
  k_with "call ref" => (((with_unfolding_all refine c_word (by k_asm) (by k_asm) (by k_asm) (by k_asm) (by k_asm) (by rfl) (by omega) (by omega) (by ktr_room) (by ktr_units) ?_); intro t9 h9 k9 F9 N9; (try dsimp only); (try k_fold)))
  k_with "call ref" => (((with_unfolding_all refine c_pf (by k_asm) (by k_asm) (by k_asm) (by k_asm) (by k_asm) (by rfl) (by rw [pf_b0 hf hg]; decide) (by rw [pf_b0 hf hg]; decide) (by ktr_room) (by ktr_units) ?_); intro t9 h9 k9 F9 N9; (try dsimp only); (try k_fold)))
  k_with "compareOp NotEq ref ref" => (k_dflt (refine r_ne_nil_f (R := R) (vs := []) rfl (by k_asm) (by k_mem) (by k_mem) (by ke_room) ?_))
  k_with "call builtin:str.join" => (k_dflt (refine r_join (by k_asm) (by k_mem) (by repeat (first | exact StrsAre.nil | apply StrsAre.cons)) (by decide) ⟨by repeat (first | exact List.forall_mem_nil _ | (refine List.forall_mem_cons.mpr ⟨by first | exact pfWord_len (by decide) (by omega) | decide, ?_⟩)), Nat.le_of_ble_eq_true rfl⟩ ?_); intro t9 k9)
  k_with "compareOp Eq str str" => (k_dflt (refine r_eqstr (congrArg (Txt.join _) (by rw [pf_b0 hf hg]; exact pf_0)) ?_))
  k_with "call type:str" => (first | k_dflt (refine r_strlit (n := 1) (x := Str.ofString "1") (by simp only [hc]; rfl) (by decide) (by decide) ?_) | k_dflt (refine r_strlit (n := 2) (x := Str.ofString "2") (by simp only [hc]; rfl) (by decide) (by decide) ?_) | k_dflt (refine r_strlit (n := 3) (x := Str.ofString "3") (by simp only [hc, hc']; rfl) (by decide) (by decide) ?_))
  k_with "call builtin:list.append" => (k_dflt (refine r_append2 (R := R) (vs := vs) (by k_asm) (by k_asm) (by k_mem) (by k_mem) (by rintro rfl; exact hR.nostr) (Nat.le_of_ble_eq_true rfl) (rst := rst) (by intro p hp; repeat (first | exact hp | apply List.Mem.tail)) (fun p hp => off1_mem o9 p (by repeat (first | exact hp | apply List.Mem.tail))) ?_); intro h9 F9 N9; (try simp only [List.cons_append, List.nil_append] at N9))
  k_with "FinA" => (k_dflt (unfold LCg.FinA); intro D9 h9 k9 F9 N9 o9; (try simp only [List.nil_append, List.cons_append] at N9); (try dsimp only))
  k_with "call builtin:max" => ((with_reducible show wpAny _ _ (call _ [Value.ref _]) _ _ _); k_dflt (refine r_maxrows (rs := [[]]) (by rfl) (by k_asm) (by k_asm) (by k_mem) (RowsAre.nils (rs := []) (vs := []) (n1 := []) trivial (by simp) (by k_mem)) (by simp) (by ke_room) ?_); intro a9 ivs9 c9 h9 k9 hi9 F9 N9; (obtain rfl := ints0 hi9))
  k_with "call builtin:sorted" => (k_dflt (refine r_srt (vs := []) (ns := []) (ms := []) (by k_asm) (by k_asm) (by k_mem) .nil (by decide) srt_nil ?_); intro D9 ws9 c9 h9 F9 N9 l9 hi9; (obtain rfl := ints0 hi9); (try k_lt l9))
  all_goals (k_steps)
  all_goals (exact hret _ _ _ (by assumption) (by repeat (first | assumption | apply ndh)))
end Mine
end
section
set_option maxRecDepth 100000
namespace Mine
open Builtin.Int (intBits)
section
variable {h₀ h : Heap} {L : Addr} {e : Addr × Obj} {l r : List (Addr × Obj)}
theorem nc (h1 : h.get? e.1 = some e.2 ∧ e.1 ≠ L ∧ h₀.get? e.1 = none) (N : News h₀ L h l) : News h₀ L h (e :: l) := List.forall_mem_cons.mpr ⟨h1, N⟩
theorem nh (N : News h₀ L h (e :: l)) : h.get? e.1 = some e.2 ∧ e.1 ≠ L ∧ h₀.get? e.1 = none := N _ (.head _)
theorem nt (N : News h₀ L h (e :: l)) : News h₀ L h l := fun p hp => N p (.tail _ hp)
theorem nl (N : News h₀ L h (l ++ r)) : News h₀ L h l := fun p hp => N p (List.mem_append_left _ hp)
theorem nr (N : News h₀ L h (l ++ r)) : News h₀ L h r := fun p hp => N p (List.mem_append_right _ hp)
theorem na (N : News h₀ L h l) (M : News h₀ L h r) : News h₀ L h (l ++ r) := fun p hp => (List.mem_append.mp hp).elim (N p) (M p)
end
theorem tab_grown {h₀ h : Heap} {L P : Addr} {ts all : List (Addr × Obj)} {ln cl : Int} {q : Str} {lo : Nat} (hT : Tab P ln cl q lo ts) (N : News h₀ L h all) (hs : ∀ p ∈ ts, p ∈ all) : GrownAt P h := by
  rcases hT with rfl | ⟨c, oc, vs, t, rfl, _⟩
  · exact GrownAt.of N (hs _ (.head _))
  · exact GrownAt.of N (hs _ (.head _))
theorem nth_drop {k : Nat} (h : k < 21) : lawBody.drop k = lawBody[k]'(by rw [lawBody_len]; exact h) :: lawBody.drop (k + 1) := List.drop_eq_getElem_cons _
theorem nth_drop2 {k : Nat} (h : k + 1 < 21) : lawBody.drop k = lawBody[k]'(by rw [lawBody_len]; omega) :: lawBody[k + 1]'(by rw [lawBody_len]; exact h) :: lawBody.drop (k + 2) := by rw [nth_drop (by omega), nth_drop h]
theorem nth_drop3 {k : Nat} (h : k + 2 < 21) : lawBody.drop k = lawBody[k]'(by rw [lawBody_len]; omega) :: lawBody[k + 1]'(by rw [lawBody_len]; omega) :: lawBody[k + 2]'(by rw [lawBody_len]; exact h) :: lawBody.drop (k + 3) := by rw [nth_drop (by omega), nth_drop2 h]
theorem nth_drop4 {k : Nat} (h : k + 3 < 21) : lawBody.drop k = lawBody[k]'(by rw [lawBody_len]; omega) :: lawBody[k + 1]'(by rw [lawBody_len]; omega) :: lawBody[k + 2]'(by rw [lawBody_len]; omega) :: lawBody[k + 3]'(by rw [lawBody_len]; exact h) :: lawBody.drop (k + 4) := by rw [nth_drop (by omega), nth_drop3 h]
theorem nth_drop5 {k : Nat} (h : k + 4 < 21) : lawBody.drop k = lawBody[k]'(by rw [lawBody_len]; omega) :: lawBody[k + 1]'(by rw [lawBody_len]; omega) :: lawBody[k + 2]'(by rw [lawBody_len]; omega) :: lawBody[k + 3]'(by rw [lawBody_len]; omega) :: lawBody[k + 4]'(by rw [lawBody_len]; exact h) :: lawBody.drop (k + 5) := by rw [nth_drop (by omega), nth_drop4 h]
theorem j_lt (L i j : Nat) (h : i < j) : @LT.lt Nat _ (L + i) (L + j) := Nat.add_lt_add_left h L
theorem lst_off {h₀ h : Heap} {L X : Addr} {oX : Obj} {all : List (Addr × Obj)} {v : Option Value} (N : News h₀ L h all) (hX : (X, oX) ∈ all) (dX : oX.data = .cell v) {p : Addr × Obj} (hp : p ∈ all) (hl : ∃ its n, p.2 = W.listOf its n) : p.1 ≠ X := by
  intro e
  have a1 := (N p hp).1
  rw [e, (N _ hX).1] at a1
  obtain ⟨its, n, h2⟩ := hl
  have a2 : oX = p.2 := Option.some.inj a1
  rw [a2, h2] at dX
  cases dX
theorem g_off {h₀ h : Heap} {L : Addr} {all l : List (Addr × Obj)} (N : News h₀ L h all) (h44 : (44, tabObj #[]) ∈ all) (h51 : (51, tabObj #[]) ∈ all) (hs : ∀ p ∈ l, p ∈ all) (hn : ∀ p ∈ l, NotTab p.2) : ∀ p ∈ l, p.1 ≠ 44 ∧ p.1 ≠ 51 := fun p hp =>
  ⟨Ne.symm (tab_ne (ln := 0) (cl := 0) (q := Str.empty) (lo := 0) N (hs p hp) (.fresh : Tab 44 0 0 Str.empty 0 [(44, tabObj #[])]) (fun q hq => by rw [List.mem_singleton.mp hq]; exact h44) (hn p hp) _ (.head _)),
   Ne.symm (tab_ne (ln := 0) (cl := 0) (q := Str.empty) (lo := 0) N (hs p hp) (.fresh : Tab 51 0 0 Str.empty 0 [(51, tabObj #[])]) (fun q hq => by rw [List.mem_singleton.mp hq]; exact h51) (hn p hp) _ (.head _))⟩
theorem all_lt {d : Addr} : ∀ {l : List (Addr × Obj)}, AllLt d l → ∀ p ∈ l, @LT.lt Nat _ p.1 d
  | [], _, _, h => nomatch h
  | q :: r, x, p, h => by
    rcases List.mem_cons.mp h with rfl | h
    · exact x.1
    · exact all_lt x.2 p h
theorem ints6 {vs : List Value} {a b c d e f : Int} (h : IntsAre vs [a, b, c, d, e, f]) : ∃ t0 t1 t2 t3 t4 t5, vs = [.int a t0, .int b t1, .int c t2, .int d t3, .int e t4, .int f t5] := by
  cases h with | cons _ t0 h => cases h with | cons _ t1 h => cases h with | cons _ t2 h => cases h with | cons _ t3 h => cases h with | cons _ t4 h => cases h with | cons _ t5 h => cases h with | nil => exact ⟨_, _, _, _, _, _, rfl⟩
theorem tab9_of {sp : List Int} {x0 x1 x2 x3 x4 x5 x6 x7 x8 y0 y1 y2 y3 y4 y5 y6 y7 y8 : Int} (h : TabI 0 sp [x0, x1, x2, x3, x4, x5, x6, x7, x8] [y0, y1, y2, y3, y4, y5, y6, y7, y8]) : Tab9 (fun i => [x0, x1, x2, x3, x4, x5, x6, x7, x8].getD i 0) (fun i => [y0, y1, y2, y3, y4, y5, y6, y7, y8].getD i 0) := by
  have hok := h.ok
  simp only [tbOK, and_true] at hok
  obtain ⟨o0, o1, o2, o3, o4, o5, o6, o7, o8⟩ := hok
  have bd : ∀ i, i < 9 → 0 ≤ [x0, x1, x2, x3, x4, x5, x6, x7, x8].getD i 0 ∧ [x0, x1, x2, x3, x4, x5, x6, x7, x8].getD i 0 ≤ 12 := fun i hi => h.bd _ (List.mem_append_right _ (by
    rw [List.getD_eq_getElem?_getD, List.getElem?_eq_getElem (by simpa using hi)]; exact List.getElem_mem _))
  have nd : List.Pairwise (fun a b => a ≠ b) [x0, x1, x2, x3, x4, x5, x6, x7, x8] := (List.nodup_append.mp h.nd).2.1
  rw [List.pairwise_iff_getElem] at nd
  refine ⟨bd, fun i j hi hj hne e => ?_, fun i hi => ?_⟩
  · have hi' : i < [x0, x1, x2, x3, x4, x5, x6, x7, x8].length := hi
    have hj' : j < [x0, x1, x2, x3, x4, x5, x6, x7, x8].length := hj
    simp only [List.getD_eq_getElem?_getD, List.getElem?_eq_getElem hi', List.getElem?_eq_getElem hj', Option.getD_some] at e
    rcases Nat.lt_or_gt_of_ne hne with h1 | h1
    · exact nd i j hi' hj' h1 e
    · exact nd j i hj' hi' h1 e.symm
  · match i, hi with
    | 0, _ => exact o0
    | 1, _ => exact o1
    | 2, _ => exact o2
    | 3, _ => exact o3
    | 4, _ => exact o4
    | 5, _ => exact o5
    | 6, _ => exact o6
    | 7, _ => exact o7
    | 8, _ => exact o8
theorem rows_le (l : List (Int × List Int)) : (rowsUp l 6).length ≤ 6 := by
  have : ∀ k, (rowsUp l k).length ≤ k := by
    intro k
    induction k with
    | zero => exact Nat.le_refl 0
    | succ k ih =>
      rw [rowsUp, List.length_append]
      split
      · exact Nat.succ_le_succ ih
      · exact Nat.le_succ_of_le ih
  exact this 6
set_option maxHeartbeats 1000000 in
theorem law1_main {w : World} {loose : List Str} {mean : ExcName → Option Value} {mg mb : Str → Option Value} {fa : Addr} {cd : Value} {base h₀ : Heap} {L : Addr} {m : Str → Option Value} {s : Shared} {E : Value → Shared → Prop} {Q : Flow → Shared → Prop} {S : Addr} {svs : List Value} {ns : List Int} {oT oB oW oQ : Obj}
   (B : Below callerA base [] h₀) (F : Fr h₀ L s.heap m) (X : (hd.heap_39 w.params).In h₀) (N : News h₀ L s.heap ((L + 1 + 1 + 1 + 1, oQ) :: (L + 1 + 1 + 1, oW) :: (L + 1 + 1, oB) :: (L + 1, oT) :: (51, tabObj #[]) :: (44, tabObj #[]) :: [])) (T : Top topProg loose mean mg mb h₀) (qS : m (Str.ofString "script") = some (.ref S)) (dT : oT.data = .cell none) (dB : oB.data = .cell none) (dW : oW.data = .cell none) (dQ : oQ.data = .cell none) (g4 : @LT.lt Nat _ 51 L)
   (hS : h₀.IsList S svs.toArray) (hsi : IntsAre svs ns) (hsl : svs.length ≤ 63)
   (hE : PassesOwn (model PySem.Challenge.rw_wo0032_01.row.prog w) (callerA.deeper (envOfC (Str.ofString "law") lawScope L fa cd)) (envOfC (Str.ofString "law") lawScope L fa cd) E) (C1 : CodeHd base 48 44) (C2 : CodeHd base 55 51)
   (hret : ∀ h' tk' m', Fr h₀ L h' m' → GrownAt 51 h' → GrownAt 44 h' → Q (.ret (.bool true)) { s with heap := h', toks := tk' }) :
   wpAny (model PySem.Challenge.rw_wo0032_01.row.prog w) (callerA.deeper (envOfC (Str.ofString "law") lawScope L fa cd)) (execs lawBody (envOfC (Str.ofString "law") lawScope L fa cd)) Q E s := by
  have ez : lawBody = lawBody.drop 0 := rfl
  have k51 : ∀ i : Nat, @Ne Nat 51 (L + i) := fun i => Nat.ne_of_lt (Nat.lt_of_lt_of_le g4 (Nat.le_add_right _ _))
  have k44 : ∀ i : Nat, @Ne Nat 44 (L + i) := fun i => Nat.ne_of_lt (Nat.lt_trans (by decide) (Nat.lt_of_lt_of_le g4 (Nat.le_add_right _ _)))
  rw [ez, nth_drop2 (k := 0) (by decide)]
  have n3 := nt (nt N)
  have n51 := nt (nt n3)
  refine @segZ w loose mean mg mb fa cd base h₀ L _ s E Q lawScope _ _ _ rfl (nth_drop2 (k := 0) (by decide)) _ _ _ _ _ ((L + 1 + 1 + 1 + 1, oQ) :: (L + 1 + 1 + 1, oW) :: (51, tabObj #[]) :: (44, tabObj #[]) :: []) B F X (nc (nh n3) (nc (nh (nt n3)) (nc (nh N) (nc (nh (nt N)) n51)))) T qS dT dB (List.forall_mem_cons.mpr ⟨Nat.ne_of_gt (j_lt L 1 4 (by decide)), List.forall_mem_cons.mpr ⟨Nat.ne_of_gt (j_lt L 1 3 (by decide)), List.forall_mem_cons.mpr ⟨k51 1, List.forall_mem_cons.mpr ⟨k44 1, List.forall_mem_nil _⟩⟩⟩⟩) (List.forall_mem_cons.mpr ⟨Nat.ne_of_gt (j_lt L 2 4 (by decide)), List.forall_mem_cons.mpr ⟨Nat.ne_of_gt (j_lt L 2 3 (by decide)), List.forall_mem_cons.mpr ⟨k51 2, List.forall_mem_cons.mpr ⟨k44 2, List.forall_mem_nil _⟩⟩⟩⟩) hS hsi hsl ?_
  clear N F n3 n51 qS dT dB
  intro D8 Tn Tb ys tnv tbv sp tn tb nt nb oT oB m h1 k1 hys htn htb hTI dT dB oD aT aB F qc N
  have htnl := hTI.ltn
  have htbl := hTI.ok.len.trans htnl
  simp only [Nat.add_zero] at htnl htbl
  obtain ⟨x0, x1, x2, x3, x4, x5, x6, x7, x8, v0, v1, v2, v3, v4, v5, v6, v7, v8, rfl, rfl⟩ := ints9 htn htnl
  obtain ⟨y0, y1, y2, y3, y4, y5, y6, y7, y8, z0, z1, z2, z3, z4, z5, z6, z7, z8, rfl, rfl⟩ := ints9 htb htbl
  have T9 := tab9_of hTI
  have hyb : ∀ i, i < 9 → 0 ≤ ([y0, y1, y2, y3, y4, y5, y6, y7, y8] : List Int).getD i 0 ∧ intBits (([y0, y1, y2, y3, y4, y5, y6, y7, y8] : List Int).getD i 0) ≤ 4097 := fun i hi => tb_bits (T9.ok i hi) (T9.bd i hi)
  have hbl : ∀ y ∈ ([y0, y1, y2, y3, y4, y5, y6, y7, y8] : List Int), intBits y ≤ 4097 := List.forall_mem_cons.mpr ⟨(hyb 0 (by decide)).2, List.forall_mem_cons.mpr ⟨(hyb 1 (by decide)).2, List.forall_mem_cons.mpr ⟨(hyb 2 (by decide)).2, List.forall_mem_cons.mpr ⟨(hyb 3 (by decide)).2, List.forall_mem_cons.mpr ⟨(hyb 4 (by decide)).2, List.forall_mem_cons.mpr ⟨(hyb 5 (by decide)).2, List.forall_mem_cons.mpr ⟨(hyb 6 (by decide)).2, List.forall_mem_cons.mpr ⟨(hyb 7 (by decide)).2, List.forall_mem_cons.mpr ⟨(hyb 8 (by decide)).2, List.forall_mem_nil _⟩⟩⟩⟩⟩⟩⟩⟩⟩
  clear hTI htnl htbl
  have n8 := Mine.nt (Mine.nt N)
  have n2 := Mine.nt n8
  have n4 := Mine.nt (Mine.nt n2)
  have n5 := Mine.nt (Mine.nt n4)
  have lTn : @LT.lt Nat _ (L + 4) Tn := aT.1
  have lTb : @LT.lt Nat _ (L + 4) Tb := aB.1
  have gD4 : @Ne Nat D8 (L + 4) := Ne.symm oD.1
  have gD3 : @Ne Nat D8 (L + 3) := Ne.symm oD.2.1
  rw [nth_drop (k := 2) (by decide)]
  refine @segY w loose mean mg mb fa cd base h₀ L _ { s with heap := h1, toks := k1 } E Q lawScope _ _ rfl (nth_drop (k := 2) (by decide)) _ ((Tb, W.listOf (List.toArray [.int y0 z0, .int y1 z1, .int y2 z2, .int y3 z3, .int y4 z4, .int y5 z5, .int y6 z6, .int y7 z7, .int y8 z8]) nb) :: (Tn, W.listOf (List.toArray [.int x0 v0, .int x1 v1, .int x2 v2, .int x3 v3, .int x4 v4, .int x5 v5, .int x6 v6, .int x7 v7, .int x8 v8]) nt) :: (D8, LCg.lst ys) :: (L + 1 + 1, oB) :: (L + 1, oT) :: (L + 1 + 1 + 1 + 1, oQ) :: (51, tabObj #[]) :: (44, tabObj #[]) :: []) B F X (nc (nh (Mine.nt n4)) (nc (nh N) (nc (nh (Mine.nt N)) (nc (nh n8) (nc (nh n2) (nc (nh (Mine.nt n2)) (nc (nh n4) n5))))))) T dW (List.forall_mem_cons.mpr ⟨Nat.ne_of_gt (Nat.lt_trans (j_lt L 3 4 (by decide)) lTb), List.forall_mem_cons.mpr ⟨Nat.ne_of_gt (Nat.lt_trans (j_lt L 3 4 (by decide)) lTn), List.forall_mem_cons.mpr ⟨gD3, List.forall_mem_cons.mpr ⟨Nat.ne_of_lt (j_lt L 2 3 (by decide)), List.forall_mem_cons.mpr ⟨Nat.ne_of_lt (j_lt L 1 3 (by decide)), List.forall_mem_cons.mpr ⟨Nat.ne_of_gt (j_lt L 3 4 (by decide)), List.forall_mem_cons.mpr ⟨k51 3, List.forall_mem_cons.mpr ⟨k44 3, List.forall_mem_nil _⟩⟩⟩⟩⟩⟩⟩⟩) ?_
  clear N F n8 n2 n4 n5 dW
  intro wy wyv cw ex oW h' tk' hR hX dW lw aw F N
  have nE := nl (Mine.nt (Mine.nt N))
  have nB := Mine.nr (Mine.nt (Mine.nt N))
  have n8 := Mine.nt (Mine.nt nB)
  have n2 := Mine.nt n8
  have n4 := Mine.nt (Mine.nt n2)
  have n5 := Mine.nt n4
  have lwy : @LT.lt Nat _ (L + 4) wy := aw.2.2.2.2.2.1
  have exo : ∀ p ∈ ex, p.1 ≠ L + 1 + 1 + 1 + 1 := fun p hp => lst_off N (X := L + 1 + 1 + 1 + 1) (oX := oQ) (List.Mem.tail _ (List.Mem.tail _ (List.mem_append_right _ (List.Mem.tail _ (List.Mem.tail _ (List.Mem.tail _ (List.Mem.tail _ (List.Mem.tail _ (List.Mem.head _))))))))) dQ (List.Mem.tail _ (List.Mem.tail _ (List.mem_append_left _ hp))) (hX p hp)
  have hoA : ∀ p ∈ ex ++ [(Tn, W.listOf (List.toArray [.int x0 v0, .int x1 v1, .int x2 v2, .int x3 v3, .int x4 v4, .int x5 v5, .int x6 v6, .int x7 v7, .int x8 v8]) nt), (D8, LCg.lst ys), (L + 1, oT), (51, tabObj #[]), (44, tabObj #[])], p.1 ≠ L + 1 + 1 + 1 + 1 := fun p hp => (List.mem_append.mp hp).elim (exo p) ((List.forall_mem_cons.mpr ⟨Nat.ne_of_gt lTn, List.forall_mem_cons.mpr ⟨gD4, List.forall_mem_cons.mpr ⟨Nat.ne_of_lt (j_lt L 1 4 (by decide)), List.forall_mem_cons.mpr ⟨k51 4, List.forall_mem_cons.mpr ⟨k44 4, List.forall_mem_nil _⟩⟩⟩⟩⟩ : ∀ p ∈ [(Tn, W.listOf (List.toArray [.int x0 v0, .int x1 v1, .int x2 v2, .int x3 v3, .int x4 v4, .int x5 v5, .int x6 v6, .int x7 v7, .int x8 v8]) nt), (D8, LCg.lst ys), (L + 1, oT), (51, tabObj #[]), (44, tabObj #[])], p.1 ≠ L + 1 + 1 + 1 + 1) p)
  rw [nth_drop (k := 3) (by decide)]
  refine @segA w loose mean mg mb fa cd base h₀ L _ { s with heap := h', toks := tk' } E Q lawScope _ _ rfl (nth_drop (k := 3) (by decide)) _ _ _ _ _ _ _ _ _ _ _ B F X (nc (nh n4) (nc (nh (Mine.nt N)) (nc (nh N) (nc (nh n2) (nc (nh nB) (na nE (nc (nh (Mine.nt nB)) (nc (nh n8) (nc (nh (Mine.nt n2)) n5))))))))) T dB dW dQ (hR.mono fun p hp => List.mem_append_left _ hp) htb rfl hbl lwy lTb hoA ?_
  clear N F nE nB n8 n2 n4 n5 dQ exo hoA
  intro Wa wv oQ h' tk' hwv dQ oWa F N
  replace hwv : IntsAre wv [(y0 * y4 * y8), (y1 * y5 * y6), (y2 * y3 * y7), (y0 * y5 * y7), (y1 * y3 * y8), (y2 * y4 * y6)] := hwv
  have hwv2 := hwv
  obtain ⟨t0, t1, t2, t3, t4, t5, rfl⟩ := ints6 hwv
  rw [nth_drop3 (k := 4) (by decide)]
  refine @segB w loose mean mg mb fa cd base h₀ L _ { s with heap := h', toks := tk' } E Q lawScope _ _ _ _ rfl (nth_drop3 (k := 4) (by decide)) _ _ _ _ _ _ _ _ _ _ _ _ _ _ _ B F X (nc (nh (Mine.nt N)) (nc (nh N) (Mine.nt (Mine.nt N)))) T dQ ?_
  clear N F
  intro wh lo u a1 a2 a3 m' h' tk' ewh elo eu F hm qu ql qw N
  replace qc := (hm (Str.ofString "cells") rfl).trans qc
  clear hm
  have nw := Mine.nt (Mine.nt N)
  have n2 := Mine.nt (Mine.nt nw)
  have nE := nl (Mine.nt (Mine.nt n2))
  have nB := Mine.nr (Mine.nt (Mine.nt n2))
  have n8 := Mine.nt nB
  have n1 := Mine.nt n8
  rw [nth_drop (k := 7) (by decide)]
  refine @segC w loose mean mg mb fa cd base h₀ L _ { s with heap := h', toks := tk' } E Q lawScope _ _ rfl (nth_drop (k := 7) (by decide)) _ _ _ _ _ _ _ _ _ _ _ _ _ _ B F X (nc (nh N) (nc (nh (Mine.nt N)) (nc (nh nw) (nc (nh (Mine.nt nw)) (nc (nh n1) (nc (nh nB) (na nE (nc (nh n8) (nc (nh n2) (nc (nh (Mine.nt n2)) (Mine.nt n1))))))))))) T dT dW dQ (hR.mono fun p hp => List.mem_append_left _ hp) htn rfl hwv2 rfl ?_
  clear N F nw n2 nE nB n8 n1 hR hX
  intro R vs ex2 m' h' tk' hRv hX2 F hm qR N
  replace qc := (hm (Str.ofString "cells") rfl).trans qc
  replace qu := (hm (Str.ofString "unit") rfl).trans qu
  replace ql := (hm (Str.ofString "low") rfl).trans ql
  replace qw := (hm (Str.ofString "whole") rfl).trans qw
  clear hm
  have nX := Mine.nr (Mine.nt N)
  have nA := nl (Mine.nt N)
  have n1 := Mine.nt (Mine.nt (Mine.nt (Mine.nt nA)))
  have n8 := Mine.nr (Mine.nt (Mine.nt n1))
  have hvl : vs.length ≤ 6 := hRv.len ▸ rows_le _
  have hsh := share_all (hyb 0 (by decide)).1 (hyb 1 (by decide)).1 (hyb 2 (by decide)).1 (hyb 3 (by decide)).1 (hyb 4 (by decide)).1 (hyb 5 (by decide)).1 (hyb 6 (by decide)).1 (hyb 7 (by decide)).1 (hyb 8 (by decide)).1
  obtain ⟨f, g, ev, LF⟩ := law_facts T9 (tb := [y0, y1, y2, y3, y4, y5, y6, y7, y8]) (tn := [x0, x1, x2, x3, x4, x5, x6, x7, x8]) (lo := lo) (u := u) (vs := vs) hsh (fun i hi => rfl) (by rw [elo, ewh]; rfl) eu (by rw [hRv.len]; rfl)
  rw [nth_drop4 (k := 8) (by decide)]
  refine @segD w loose mean mg mb fa cd base h₀ L _ { s with heap := h', toks := tk' } E Q lawScope _ _ _ _ _ rfl (nth_drop4 (k := 8) (by decide)) _ _ _ _ _ _ _ _ _ _ _ _ _ _ _ _ _ _ _ _ _ _ _ B F X (nc (nh nA) (nc (nh (Mine.nt nA)) (nc (nh N) (nc (nh (Mine.nt n8)) (nc (nh (Mine.nt (Mine.nt n8))) (nc (nh n1) (nc (nh (Mine.nt n1)) (nc (nh n8) (nc (nh (Mine.nt (Mine.nt (Mine.nt n8)))) (nc (nh (Mine.nt (Mine.nt (Mine.nt (Mine.nt n8))))) nX)))))))))) T qR qu ql dQ hvl LF.a1 LF.a2 LF.a3 LF.a4 LF.b1 LF.b2 LF.b3 LF.b4 LF.b5 ?_
  clear N F nX nA n1 n8 dQ dW
  intro b1 b2 m' h' tk' F hm qf qg N
  replace qc := (hm (Str.ofString "cells") rfl).trans qc
  replace qu := (hm (Str.ofString "unit") rfl).trans qu
  replace ql := (hm (Str.ofString "low") rfl).trans ql
  replace qw := (hm (Str.ofString "whole") rfl).trans qw
  replace qR := (hm (Str.ofString "rows") rfl).trans qR
  clear hm
  have nR := Mine.nt (Mine.nt N)
  have n2 := Mine.nt nR
  have n1 := Mine.nt (Mine.nt n2)
  have n8 := Mine.nt (Mine.nt n1)
  rw [nth_drop3 (k := 12) (by decide)]
  refine @segE w loose mean mg mb fa cd base h₀ L _ { s with heap := h', toks := tk' } E Q lawScope _ _ _ _ rfl (nth_drop3 (k := 12) (by decide)) _ _ _ _ B F X (nc (nh n8) (nc (nh (Mine.nt n2)) (nc (nh (Mine.nt n1)) (nc (nh n2) (nc (nh n1) (nc (nh (Mine.nt n8)) (nc (nh (Mine.nt (Mine.nt n8))) (nc (nh nR) (Mine.nt (Mine.nt (Mine.nt n8))))))))))) T qc hys (cellsOf_len _) ?_
  clear N F nR n2 n1 n8
  intro O fr nr b3 b4 m' h' tk' hfr hfr2 hn0 hn1 aO F hm q4 q3 qO N
  replace qc := (hm (Str.ofString "cells") rfl).trans qc
  replace qu := (hm (Str.ofString "unit") rfl).trans qu
  replace ql := (hm (Str.ofString "low") rfl).trans ql
  replace qw := (hm (Str.ofString "whole") rfl).trans qw
  replace qR := (hm (Str.ofString "rows") rfl).trans qR
  replace qf := (hm (Str.ofString "first") rfl).trans qf
  replace qg := (hm (Str.ofString "last") rfl).trans qg
  clear hm
  have nB := Mine.nt N
  have n2 := Mine.nt (Mine.nt nB)
  have n5 := Mine.nt (Mine.nt n2)
  have nR := Mine.nt (Mine.nt n5)
  have lO := all_lt aO
  replace F : Fr h₀ L h' (fun y => if y = (Str.ofString "odd") then some (.ref O) else if y = (Str.ofString "near") then some (.int nr b3) else if y = (Str.ofString "far") then some (.int fr b4) else if y = (Str.ofString "first") then some (.int f b1) else if y = (Str.ofString "last") then some (.int g b2) else if y = (Str.ofString "rows") then some (.ref R) else if y = (Str.ofString "unit") then some (.int u a1) else if y = (Str.ofString "low") then some (.int lo a2) else if y = (Str.ofString "whole") then some (.int wh a3) else if y = (Str.ofString "cells") then some (.ref D8) else m' y) := fr_eqm F fun y => by simp only [ite_focus qc, ite_focus qw, ite_focus ql, ite_focus qu, ite_focus qR, ite_focus qg, ite_focus qf, ite_focus q4, ite_focus q3, ite_focus qO]
  rw [nth_drop (k := 15) (by decide)]
  refine @segF w loose mean mg mb fa cd base h₀ L m' { s with heap := h', toks := tk' } E Q lawScope _ _ rfl (nth_drop (k := 15) (by decide)) _ _ _ _ _ _ _ _ _ _ _ _ _ _ _ _ _ _ _ _ _ _ _ _ _ _ _ _ _ _ _ _ _ _ _ _ _ _ _ _ _ _ _ _ _ _ _ _ _ _ _ _ _ _ _ _ _ _ _ ((R, LCg.lst vs) :: ex2) ev B F X (nc (nh N) (nc (nh nB) (nc (nh (Mine.nt nB)) (nc (nh n2) (nc (nh (Mine.nt n2)) (nc (nh (Mine.nt n5)) (nc (nh n5) nR))))))) T dT dB (g_off N (by k_mem) (by k_mem) (fun p hp => by simp only [List.mem_cons] at hp ⊢; rcases hp with h | h | h | h | h | h | h <;> simp only [h, true_or, or_true]) (List.forall_mem_cons.mpr ⟨NotTab.list, List.forall_mem_cons.mpr ⟨NotTab.list, List.forall_mem_cons.mpr ⟨NotTab.list, List.forall_mem_cons.mpr ⟨NotTab.cell dB, List.forall_mem_cons.mpr ⟨NotTab.cell dT, List.forall_mem_cons.mpr ⟨NotTab.lst, hX2⟩⟩⟩⟩⟩⟩)) (List.forall_mem_cons.mpr ⟨Nat.ne_of_lt (lO _ (by k_mem)), List.forall_mem_cons.mpr ⟨Nat.ne_of_lt (lO _ (by k_mem)), List.forall_mem_cons.mpr ⟨Nat.ne_of_lt (lO _ (by k_mem)), List.forall_mem_cons.mpr ⟨Nat.ne_of_lt (lO _ (by k_mem)), List.forall_mem_cons.mpr ⟨Nat.ne_of_lt (lO _ (by k_mem)), fun p hp => Nat.ne_of_lt (lO p (List.Mem.tail _ (List.Mem.tail _ (List.Mem.tail _ (List.Mem.tail _ (List.Mem.tail _ (List.Mem.tail _ (List.Mem.tail _ hp))))))))⟩⟩⟩⟩⟩) hE C1 C2 hbl LF.evf LF.u1 LF.u2 hfr hfr2 hn0 hn1 ?_
  clear N nB n2 n5 nR lO aO dT dB
  intro ov nn uu ts44 ts51 h' tk' hov g44 g51 F N
  have nB := Mine.nt N
  have nT := Mine.nt (Mine.nt (Mine.nt (Mine.nt nB)))
  have n44 := nl nT
  have n51 := nl (Mine.nr nT)
  have nR := Mine.nr (Mine.nr nT)
  have N2 := nc (nh N) (nc (nh nR) (na n44 (na n51 (Mine.nt nR))))
  clear N nB nT n44 n51 nR
  have hend : ∀ m' h' tk', Fr h₀ L h' m' → News h₀ L h' (ts44 ++ (ts51 ++ ex2)) → Q (.ret (.bool true)) { s with heap := h', toks := tk' } := fun m' h' tk' F N => hret h' tk' m' F (tab_grown g51 N fun p hp => List.mem_append_right _ (List.mem_append_left _ hp)) (tab_grown g44 N fun p hp => List.mem_append_left _ hp)
  rcases LF.fin with ⟨hv, hf, hg, ho⟩ | ⟨hv, s0, s1, s2, q0, q1, q2, hso, hbest, hs0, hs1, hs2, hs3, hq0, hq1, hq2, hq3, hf, hg, hf1, hg1⟩
  · rw [ho] at hov
    rw [nth_drop5 (k := 16) (by decide)]
    exact @segG0 w loose mean mg mb fa cd base h₀ L m' { s with heap := h', toks := tk' } E Q lawScope _ _ _ _ _ _ rfl (nth_drop5 (k := 16) (by decide)) _ _ _ _ _ _ _ _ _ _ _ _ _ _ _ _ _ _ _ _ _ _ B F X N2 T (ints0 hov) hv hf hg (fun h' tk' m' F N => hend m' h' tk' F N)
  · obtain ⟨tl, dl, ab, TF⟩ := tail_facts hs0 hs1 hs2 hs3 hq0 hq1 hq2 hq3 hf hg
    have hf0 : 0 ≤ f := by rw [hf]; exact Int.natCast_nonneg _
    have hg0 : 0 ≤ g := by rw [hg]; exact Int.natCast_nonneg _
    have hN := pf_b hf0 hf1 hg0 hg1
    have hPW := pfW_len (D := PFT) (by decide) hN.1 hN.2
    clear hf hg hf1 hg1 hf0 hg0
    have m1 : q1 ≤ 12 := Int.le_trans (Int.le_of_lt hq2) hq3
    have m0' : q0 ≤ 12 := Int.le_trans (Int.le_of_lt hq1) m1
    have hdll : dl.length ≤ 6 := by rw [← TF.hD, List.length_map, List.length_range]; exact TF.hlen
    have qR2 : (fun y => if [Str.ofString "k", Str.ofString "a", Str.ofString "b", Str.ofString "c", Str.ofString "d", Str.ofString "share", Str.ofString "told"].contains y then uu y else (fun y => if y = (Str.ofString "odd") then some (Value.ref O) else if y = (Str.ofString "near") then some (.int nr b3) else if y = (Str.ofString "far") then some (.int fr b4) else if y = (Str.ofString "first") then some (.int f b1) else if y = (Str.ofString "last") then some (.int g b2) else if y = (Str.ofString "rows") then some (.ref R) else if y = (Str.ofString "unit") then some (.int u a1) else if y = (Str.ofString "low") then some (.int lo a2) else if y = (Str.ofString "whole") then some (.int wh a3) else if y = (Str.ofString "cells") then some (.ref D8) else m' y) y) (Str.ofString "rows") = some (.ref R) := by with_unfolding_all rfl
    generalize hme : (fun y => if [Str.ofString "k", Str.ofString "a", Str.ofString "b", Str.ofString "c", Str.ofString "d", Str.ofString "share", Str.ofString "told"].contains y then uu y else (fun y => if y = (Str.ofString "odd") then some (Value.ref O) else if y = (Str.ofString "near") then some (.int nr b3) else if y = (Str.ofString "far") then some (.int fr b4) else if y = (Str.ofString "first") then some (.int f b1) else if y = (Str.ofString "last") then some (.int g b2) else if y = (Str.ofString "rows") then some (.ref R) else if y = (Str.ofString "unit") then some (.int u a1) else if y = (Str.ofString "low") then some (.int lo a2) else if y = (Str.ofString "whole") then some (.int wh a3) else if y = (Str.ofString "cells") then some (.ref D8) else m' y) y) = me at F qR2
    have qO2 : me (Str.ofString "odd") = some (.ref O) := by rw [← hme]; with_unfolding_all rfl
    have qf2 : me (Str.ofString "first") = some (.int f b1) := by rw [← hme]; with_unfolding_all rfl
    have qg2 : me (Str.ofString "last") = some (.int g b2) := by rw [← hme]; with_unfolding_all rfl
    clear hme qR qO qf qg qu ql qw qc q3 q4
    rw [nth_drop2 (k := 16) (by decide)]
    refine @segV w loose mean mg mb fa cd base h₀ L _ { s with heap := h', toks := tk' } E Q lawScope _ _ _ rfl (nth_drop2 (k := 16) (by decide)) _ _ _ _ _ _ _ _ (rowsUp (rowsL (wv (fun i => ([y0, y1, y2, y3, y4, y5, y6, y7, y8] : List Int).getD i 0)) (fun i => ([x0, x1, x2, x3, x4, x5, x6, x7, x8] : List Int).getD i 0)) 6) _ q0 q1 q2 _ B F X N2 T qR2 qO2 hov (oddUp_len ev _ 9) hvl (hRv.mono fun p hp => List.mem_append_right _ (List.mem_append_right _ hp)) hso hbest TF.hT TF.hlen TF.hwb TF.hD ?_
    clear N2 F
    intro Du Rw dv wv2 cw2 m2 h' tk' hdv hwv3 oDu F hm qW qD N
    have qR3 := (hm (Str.ofString "rows") rfl).trans qR2
    have qf3 := (hm (Str.ofString "first") rfl).trans qf2
    have qg3 := (hm (Str.ofString "last") rfl).trans qg2
    clear hm
    rw [nth_drop2 (k := 18) (by decide)]
    refine @segW w loose mean mg mb fa cd base h₀ L _ { s with heap := h', toks := tk' } E Q lawScope _ _ _ rfl (nth_drop2 (k := 18) (by decide)) _ _ _ _ _ _ _ _ dl q0 q1 q2 _ _ B F X N T qW qD hdv hwv3 (q_le m0' m1 hq3) hdll oDu TF.hA TF.ha0 TF.ha3 ?_
    clear N F
    intro dv2 dl2 c2 m3 h' tk' hdv2 hz hp F hm N
    have qD4 := (hm (Str.ofString "due") rfl).trans qD
    have qR4 := (hm (Str.ofString "rows") rfl).trans qR3
    have qf4 := (hm (Str.ofString "first") rfl).trans qf3
    have qg4 := (hm (Str.ofString "last") rfl).trans qg3
    have hpf : pfW PFT ((if 0 > f then 0 else f) + (if 0 > g then 0 else g) * 2 ^ Int.toNat 21) = dl2 := by
      by_cases h : ab > 0
      · rw [hp h]; exact TF.hp h
      · rw [hz h]; exact TF.hz h
    rw [nth_drop (k := 20) (by decide)]
    exact @segX w loose mean mg mb fa cd base h₀ L _ { s with heap := h', toks := tk' } E Q lawScope _ _ rfl (nth_drop (k := 20) (by decide)) _ _ _ _ _ _ _ _ _ _ _ B F X (nc (nh N) (Mine.nt (Mine.nt N))) T qD4 qR4 qf4 qg4 hdv2 hv (hpf ▸ ⟨hPW.1, Nat.le_trans hPW.2 (by decide)⟩) hN hpf hend
end Mine
end
set_option maxHeartbeats 4000000 in
theorem PySem.Challenge.cw_wo0032_01_holds : PySem.Challenge.rw_wo0032_01.Holds := by
  w_top off
  k_with_none
  exact Mine.hd ⟨lft, by
  w_strict (k_go0; (with_reducible rename Fr _ _ _ _ => zF); (with_reducible rename News _ _ _ _ => zN); (with_reducible rename Below _ _ _ _ => zB); (with_reducible rename Frag.In _ _ => zX); (with_reducible rename Top _ _ _ _ _ _ => zT); (with_reducible rename IntsAre _ _ => zI); (with_reducible rename Heap.IsList (ghostOf _ _) _ _ => zL); (with_reducible rename CodeHd _ (48, 44).fst _ => zC1); (with_reducible rename CodeHd _ (55, 51).fst _ => zC2); (with_reducible rename _ < _ ∧ _ < _ => zl); (have zll := IntsAre.length zI); (with_unfolding_all refine law1_main zB zF zX zN zT (by with_unfolding_all rfl) ?d1 ?d2 ?d3 ?d4 zl.1 zL zI (by omega) ?hE zC1 zC2 ?_); (case d1 => with_unfolding_all assumption); (case d2 => with_unfolding_all assumption); (case d3 => with_unfolding_all assumption); (case d4 => with_unfolding_all assumption); (case hE => passes_own); intro h9 k9 m9 F9 a9 b9; (refine ⟨?_, a9, b9, True.intro⟩); clear zF zN zL zT zX zB zC1 zC2 zI zl; (try dsimp only); wrow_close)⟩
