/- laws.same: a value is the same as itself. -/
import Derived.Test.YtjnookhdiolhgaaEnc
import Derived.Test.YtjnookhdiolhgaaPlawssame
namespace Go.Proofs.Ytjnookhdiolhgaa
set_option linter.unusedVariables false
set_option linter.unusedSimpArgs false
open Go.RowKit Go.Proofs.YtjnookhdiolhgaaW.PrintWords
open PAll (S26 k26 rd_T26)

theorem wrap64_self' {n : Int} (h : -9223372036854775808 ≤ n ∧ n ≤ 9223372036854775807) : wrap64 n = n := by unfold wrap64; omega
theorem texts_l0 (l : List ByteArray) (hl : l.length ≤ 4000) : ∀ (m j : Nat), j + m = l.length → ∀ k, m + 1 ≤ k → PAll.laws_sameTexts.l0 k l l (l.length : Int) (j : Int) = some true := by
  intro m
  induction m with
  | zero =>
    intro j hj k hk
    obtain ⟨k, rfl⟩ : ∃ k', k = k' + 1 := ⟨k - 1, by omega⟩
    simp only [PAll.laws_sameTexts.l0]
    rw [if_neg (by omega)]
  | succ m ih =>
    intro j hj k hk
    obtain ⟨k, rfl⟩ : ∃ k', k = k' + 1 := ⟨k - 1, by omega⟩
    simp only [PAll.laws_sameTexts.l0]
    rw [if_pos (by omega), if_pos (by omega), if_pos (by omega), if_pos (by omega), if_pos trivial, wrap64_self' (by omega)]
    exact ih (j + 1) (by omega) k (by omega)
theorem texts_f (l : List ByteArray) (hl : l.length ≤ 4000) (k : Nat) (hk : l.length + 1 ≤ k) : PAll.laws_sameTexts.f k l l = some true := by
  unfold PAll.laws_sameTexts.f
  rw [if_pos rfl]
  exact texts_l0 l hl l.length 0 (by omega) k hk
def Same (N : Nat) (x : S26) : Prop := ∀ k, 5 * N + 5 ≤ k → PAll.laws_same.f k x.f0 x.f1 x.f2 x.f3 x.f4 x.f5 x.f6 x.f0 x.f1 x.f2 x.f3 x.f4 x.f5 x.f6 = some true
theorem same_l0 (N : Nat) (a0 : Int) (a1 : Bool) (a2 a3 : Int) (a4 : ByteArray) (a5 : List ByteArray) (l : List S26) (hl : l.length ≤ 1000) (ih : ∀ (j : Nat) y, l[j]? = some y → Same N y) : ∀ (m j : Nat), j + m = l.length → ∀ k, 5 * N + 5 + m + 1 ≤ k →
    PAll.laws_same.l0 k (l.length : Int) (j : Int) a0 a1 a2 a3 a4 a5 l a0 a1 a2 a3 a4 a5 l = some true := by
  intro m
  induction m with
  | zero =>
    intro j hj k hk
    obtain ⟨k, rfl⟩ : ∃ k', k = k' + 1 := ⟨k - 1, by omega⟩
    simp only [PAll.laws_same.l0]
    rw [if_neg (by omega)]
  | succ m ihm =>
    intro j hj k hk
    obtain ⟨k, rfl⟩ : ∃ k', k = k' + 1 := ⟨k - 1, by omega⟩
    have hj' : j < l.length := by omega
    have hr : rd_T26 l (j : Int) = l[j] := by unfold PAll.rd_T26; rw [Int.toNat_natCast, List.getD_eq_getElem?_getD, List.getElem?_eq_getElem hj']; rfl
    simp only [PAll.laws_same.l0]
    rw [if_pos (by omega), if_pos (by omega), if_pos (by omega), if_pos (by omega), hr, ih j l[j] (List.getElem?_eq_getElem hj') k (by omega)]
    simp only [if_true, if_pos, Option.bind_some]
    rw [wrap64_self' (by omega)]
    exact ihm (j + 1) (by omega) k (by omega)
theorem same_f (x : S26) : ∀ N, nodes x ≤ N → N ≤ 1000 → okV x → Same (1001 * N) x := by
  intro N
  induction N generalizing x with
  | zero => intro h; have := nodes_pos x; omega
  | succ N ih =>
    intro h hN hok k hk
    obtain ⟨a0, a1, a2, a3, a4, a5, l⟩ := x
    simp only [nodes] at h
    simp only [okV] at hok
    obtain ⟨⟨_, _, _, _, _, _, _, hks, _, _, h7, _⟩, hoa⟩ := hok
    have hl := nodesAll_len l
    have h5 : a5.length ≤ 1000 := by
      by_cases h : a0 = 7
      · rw [h7 h]; omega
      · rw [hks h]; simp
    obtain ⟨k, rfl⟩ : ∃ k', k = k' + 2 := ⟨k - 2, by omega⟩
    simp only [PAll.laws_same.f]
    rw [if_pos trivial, if_neg (by simp), if_pos trivial, if_pos trivial, if_pos trivial, texts_f a5 (by omega) _ (by omega)]
    simp only [if_true, if_pos, Option.bind_some]
    simp only [PAll.laws_same.j0]
    rw [if_neg (by simp)]
    exact same_l0 (1001 * N) a0 a1 a2 a3 a4 a5 l (by omega) (fun j y hy => ih y (by have := nodes_at hy; omega) (by omega) (okAll_at hoa hy)) l.length 0 (by omega) k (by omega)
/-- Two values in memory that are the same. -/
theorem same_any (x : S26) (hok : okV x) (hn : nodes x ≤ 1000) (A5 : Option Addr) (c5 : Nat) (A6 : Option Addr) (c6 : Nat) (B5 : Option Addr) (d5 : Nat) (B6 : Option Addr) (d6 : Nat) (w : World)
    (h5 : Kd.C Kd.string w A5 x.f5.length x.f5) (l5 : x.f5.length ≤ c5) (h6 : Kd.C k26 w A6 x.f6.length x.f6) (l6 : x.f6.length ≤ c6) (g5 : Kd.C Kd.string w B5 x.f5.length x.f5) (m5 : x.f5.length ≤ d5) (g6 : Kd.C k26 w B6 x.f6.length x.f6) (m6 : x.f6.length ≤ d6) :
    Calls Try.prog 32 #[.agg #[.int .i64 x.f0, .bool x.f1, .int .i64 x.f2, .int .u64 x.f3, .string x.f4, .slice A5 x.f5.length c5, .slice A6 x.f6.length c6], .agg #[.int .i64 x.f0, .bool x.f1, .int .i64 x.f2, .int .u64 x.f3, .string x.f4, .slice B5 x.f5.length d5, .slice B6 x.f6.length d6]] w fun e w' => e = .returned (.bool true) ∧ Below w.heap.size w w' :=
  PAll.laws_same.calls _ _ _ _ _ _ _ _ _ _ _ _ _ _ _ _ _ _ _ _ _ _ _ true w h5 l5 h6 l6 g5 m5 g6 m6 (same_f x (nodes x) (Nat.le_refl _) hn hok _ (Nat.le_refl _))
end Go.Proofs.Ytjnookhdiolhgaa
