/- source.Uint16, Uint32, Uint64: the number that bytes say. -/
import Derived.Test.YtnbhledkdkchlaaCore
import Derived.Test.YtnbhledkdkchlaaPsourceUint16
import Derived.Test.YtnbhledkdkchlaaPsourceUint32
import Derived.Deep.QuietTactic
import Derived.BigQuiet
import Derived.Lib.Hide
namespace Go.Proofs.Ytnbhledkdkchlaa
set_option linter.unusedVariables false
set_option linter.unusedSimpArgs false
open Go.RowKit Go.Proofs.YtnbhledkdkchlaaW.PrintWords

/-- The number that bytes say, the greatest first. -/
def be (l : List Int) : Int := l.foldl (fun a b => a * 256 + b) 0
theorem be1 (a : Int) : be [a] = a := by simp [be]
theorem be2 (a b : Int) : be [a, b] = a * 256 + b := by simp [be]
theorem be4 (a b c d : Int) : be [a, b, c, d] = ((a * 256 + b) * 256 + c) * 256 + d := by simp [be]
theorem be8 (a b c d e f g h : Int) : be [a, b, c, d, e, f, g, h] = ((((((a * 256 + b) * 256 + c) * 256 + d) * 256 + e) * 256 + f) * 256 + g) * 256 + h := by simp [be]

theorem or_comm' (k : IntKind) (x y : Int) : Go.bits .or k x y = Go.bits .or k y x := by
  simp only [Go.bits, BitVec.or_comm]
theorem or16 (a b : Int) (ha : 0 ≤ a) (ha1 : a < 256) (hb : 0 ≤ b) (hb1 : b < 256) : Go.bits .or .u16 b (a * 256) = a * 256 + b := by
  rw [or_comm']
  exact bits_join .u16 16 (by decide) (fun n h0 h1 => by rw [IntKind.wrap_u16]; omega) 8 _ _ (by omega) (by omega) (by omega) hb (by omega) (by omega)
theorem or32 (i : Nat) (hi : i ≤ 32) (a b : Int) (ha : 0 ≤ a) (ha1 : a < 2 ^ 32) (hd : a % 2 ^ i = 0) (hb : 0 ≤ b) (hb1 : b < 2 ^ i) (hb2 : b < 2 ^ 32) : Go.bits .or .u32 b a = a + b := by
  rw [or_comm']
  exact bits_join .u32 32 (by decide) (fun n h0 h1 => by rw [IntKind.wrap_u32]; omega) i _ _ ha hd ha1 hb hb1 hb2
theorem or64 (a b : Int) (ha : 0 ≤ a) (ha1 : a < 4294967296) (hb : 0 ≤ b) (hb1 : b < 4294967296) : Go.bits .or .u64 (a * 4294967296) b = a * 4294967296 + b :=
  bits_join .u64 64 (by decide) (fun n h0 h1 => by rw [IntKind.wrap_u64]; omega) 32 _ _ (by omega) (by omega) (by omega) hb (by omega) (by omega)

theorem uint16_f (a b : Int) (r : List Int) (ha : 0 ≤ a ∧ a ≤ 255) (hb : 0 ≤ b ∧ b ≤ 255) : PAll.source_Uint16.f (a :: b :: r) = some (a * 256 + b) := by
  have e0 : rd (a :: b :: r) 0 = a := rfl
  have e1 : rd (a :: b :: r) 1 = b := rfl
  unfold PAll.source_Uint16.f
  rw [if_pos (by simp only [List.length_cons]; omega), if_pos (by simp only [List.length_cons]; omega), e0, e1]
  have w0 : IntKind.u16.wrap a = a := by rw [IntKind.wrap_u16]; omega
  have w1 : IntKind.u16.wrap b = b := by rw [IntKind.wrap_u16]; omega
  have w2 : IntKind.u16.wrap (a * 256) = a * 256 := by rw [IntKind.wrap_u16]; omega
  rw [w0, w1, w2, or16 a b ha.1 (by omega) hb.1 (by omega)]
theorem uint32_f (a b c d : Int) (r : List Int) (ha : 0 ≤ a ∧ a ≤ 255) (hb : 0 ≤ b ∧ b ≤ 255) (hc : 0 ≤ c ∧ c ≤ 255) (hd : 0 ≤ d ∧ d ≤ 255) :
    PAll.source_Uint32.f (a :: b :: c :: d :: r) = some (((a * 256 + b) * 256 + c) * 256 + d) := by
  have e0 : rd (a :: b :: c :: d :: r) 0 = a := rfl
  have e1 : rd (a :: b :: c :: d :: r) 1 = b := rfl
  have e2 : rd (a :: b :: c :: d :: r) 2 = c := rfl
  have e3 : rd (a :: b :: c :: d :: r) 3 = d := rfl
  unfold PAll.source_Uint32.f
  rw [if_pos (by simp only [List.length_cons]; omega), if_pos (by simp only [List.length_cons]; omega), if_pos (by simp only [List.length_cons]; omega), if_pos (by simp only [List.length_cons]; omega), e0, e1, e2, e3]
  have w0 : a % 4294967296 * 16777216 % 4294967296 = a * 16777216 := by omega
  have w1 : b % 4294967296 * 65536 % 4294967296 = b * 65536 := by omega
  have w2 : c % 4294967296 * 256 % 4294967296 = c * 256 := by omega
  have w3 : d % 4294967296 = d := by omega
  rw [w0, w1, w2, w3, or32 8 (by decide) (c * 256) d (by omega) (by omega) (by omega) hd.1 (by omega) (by omega), or32 16 (by decide) (b * 65536) (c * 256 + d) (by omega) (by omega) (by omega) (by omega) (by omega) (by omega),
    or32 24 (by decide) (a * 16777216) _ (by omega) (by omega) (by omega) (by omega) (by omega) (by omega)]
  congr 1
  omega
/-- Four bytes at least, all of them bytes. -/
theorem four (l : List Int) (h : 4 ≤ l.length) : ∃ a b c d r, l = a :: b :: c :: d :: r := by
  match l, h with
  | a :: b :: c :: d :: r, _ => exact ⟨a, b, c, d, r, rfl⟩
theorem two (l : List Int) (h : 2 ≤ l.length) : ∃ a b r, l = a :: b :: r := by
  match l, h with
  | a :: b :: r, _ => exact ⟨a, b, r, rfl⟩
theorem uint16_be (l : List Int) (h : 2 ≤ l.length) (hb : ∀ x ∈ l, 0 ≤ x ∧ x ≤ 255) : PAll.source_Uint16.f l = some (be (l.take 2)) := by
  obtain ⟨a, b, r, rfl⟩ := two l h
  rw [uint16_f a b r (hb _ (by simp)) (hb _ (by simp))]
  simp [be2]
theorem uint32_be (l : List Int) (h : 4 ≤ l.length) (hb : ∀ x ∈ l, 0 ≤ x ∧ x ≤ 255) : PAll.source_Uint32.f l = some (be (l.take 4)) := by
  obtain ⟨a, b, c, d, r, rfl⟩ := four l h
  rw [uint32_f a b c d r (hb _ (by simp)) (hb _ (by simp)) (hb _ (by simp)) (hb _ (by simp))]
  simp [be4]
theorem be_range (l : List Int) (hb : ∀ x ∈ l, 0 ≤ x ∧ x ≤ 255) : 0 ≤ be l ∧ be l < 256 ^ l.length := by
  unfold be
  have h : ∀ (l : List Int) (a : Int) (n : Nat), (∀ x ∈ l, 0 ≤ x ∧ x ≤ 255) → 0 ≤ a → a < 256 ^ n → 0 ≤ l.foldl (fun a b => a * 256 + b) a ∧ l.foldl (fun a b => a * 256 + b) a < 256 ^ (n + l.length) := by
    intro l
    induction l with
    | nil => intro a n _ h0 h1; exact ⟨h0, h1⟩
    | cons x r ih =>
      intro a n hx h0 h1
      have hx0 := hx x (by simp)
      have h2 := ih (a * 256 + x) (n + 1) (fun y hy => hx y (by simp [hy])) (by omega) (by rw [Int.pow_succ]; omega)
      rw [List.length_cons]
      have e : n + (r.length + 1) = n + 1 + r.length := by omega
      rw [e]
      exact h2
  have := h l 0 0 hb (by omega) (by decide)
  simpa using this
theorem uint16_any {A : Option Addr} {c : Nat} {l : List Int} (w : World) (hr : ReadsInt w .u8 A l.length l) (hc : l.length ≤ c) (h : 2 ≤ l.length) (hb : ∀ x ∈ l, 0 ≤ x ∧ x ≤ 255) :
    Calls Try.prog 64 #[.slice A l.length c] w fun e w' => e = .returned (.int .u16 (be (l.take 2))) ∧ Drawn0 w w' :=
  PAll.source_Uint16.calls A c l _ w (Kd.C_of_reads (d := (0 : Int)) hr) hc (uint16_be l h hb)
theorem uint32_any {A : Option Addr} {c : Nat} {l : List Int} (w : World) (hr : ReadsInt w .u8 A l.length l) (hc : l.length ≤ c) (h : 4 ≤ l.length) (hb : ∀ x ∈ l, 0 ≤ x ∧ x ≤ 255) :
    Calls Try.prog 72 #[.slice A l.length c] w fun e w' => e = .returned (.int .u32 (be (l.take 4))) ∧ Drawn0 w w' :=
  PAll.source_Uint32.calls A c l _ w (Kd.C_of_reads (d := (0 : Int)) hr) hc (uint32_be l h hb)
end Go.Proofs.Ytnbhledkdkchlaa
