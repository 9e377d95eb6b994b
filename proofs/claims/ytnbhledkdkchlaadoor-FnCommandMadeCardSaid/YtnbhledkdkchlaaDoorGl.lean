/- FnCommandMade: both makers, whatever the way. (seat r2.D; printed by gen_cmk.py) FnCommandMade: the walk. (seat r2.D) -/
import Derived.Test.YtnbhledkdkchlaaDoorGg
import Derived.Test.YtnbhledkdkchlaaDoorGe
import Derived.Test.YtnbhledkdkchlaaDoorGh
import Derived.Test.YtnbhledkdkchlaaDoorGi
import Derived.Test.YtnbhledkdkchlaaDoorGf
import Derived.Test.YtnbhledkdkchlaaDoorGj
import Derived.Test.YtnbhledkdkchlaaDoorGk
import Derived.Test.YtnbhledkdkchlaaDoorAlive
import Derived.Test.YtnbhledkdkchlaaDoorPlawszzFits2
import Derived.Test.YtnbhledkdkchlaaDoorPlawssameTexts
import Derived.OpenShut
import Derived.WalkSpells
import Derived.ChangeSlices
import Derived.SliceStrings
namespace Go.Proofs.YtnbhledkdkchlaaDoor
set_option linter.unusedVariables false
set_option linter.unusedSimpArgs false
open Go.RowKit Go.Proofs.YtnbhledkdkchlaaDoorW.PrintWords

theorem tx_size {l : List ByteArray} (h : ∀ s ∈ l, s.size ≤ 100) (i : Nat) : (tx l i).size ≤ 100 := by
  by_cases hi : i < l.length
  · exact h _ (List.mem_of_getElem? (tx_at hi))
  · rw [tx_no hi]
    decide
/-- What came in. -/
structure Inn (w : World) (A1 A2 A3 : Option Addr) (texts : List ByteArray) (nums : List Int) (bodies : List ByteArray) : Prop where
  C1 : Kd.C Kd.string w A1 texts.length texts
  C2 : Kd.C (Kd.int .i64) w A2 nums.length nums
  C3 : Kd.C Kd.string w A3 bodies.length bodies
  l1 : texts.length ≤ 4
  l2 : nums.length ≤ 4
  l3 : bodies.length ≤ 8
  z1 : ∀ s ∈ texts, s.size ≤ 100
  z3 : ∀ s ∈ bodies, s.size ≤ 100
  r2 : ∀ n ∈ nums, n < 9223372036854775808
  tb : Tb w
theorem Inn.below {w wi : World} {A1 A2 A3 : Option Addr} {texts : List ByteArray} {nums : List Int} {bodies : List ByteArray} (h : Inn w A1 A2 A3 texts nums bodies) (hb : Below w.heap.size w wi) : Inn wi A1 A2 A3 texts nums bodies :=
  ⟨Kd.C_below h.C1 hb, Kd.C_below h.C2 hb, Kd.C_below h.C3 hb, h.l1, h.l2, h.l3, h.z1, h.z3, h.r2, h.tb.below hb⟩
theorem Inn.num {w : World} {A1 A2 A3 : Option Addr} {texts : List ByteArray} {nums : List Int} {bodies : List ByteArray} (h : Inn w A1 A2 A3 texts nums bodies) : nums.headD 0 < 9223372036854775808 := by
  cases nums with
  | nil => decide
  | cons n r => exact h.r2 n (by simp)
theorem num_cons {nums : List Int} (h0 : 0 < nums.length) (h1 : 0 ≤ nums.headD 0) : ∃ (m : Nat) (r : List Int), nums = (m : Int) :: r := by
  cases nums with
  | nil => exact absurd h0 (by simp)
  | cons n r =>
    have h2 : 0 ≤ n := h1
    exact ⟨n.toNat, r, by rw [Int.toNat_of_nonneg h2]⟩
theorem body_cons {l : List ByteArray} (h0 : 0 < l.length) : ∃ b r, l = b :: r := by
  cases l with
  | nil => exact absurd h0 (by simp)
  | cons b r => exact ⟨b, r, rfl⟩
/-- Both makers make the same. -/
def Both (k : Int) (A1 A2 A3 : Option Addr) (c1 c2 c3 : Nat) (texts : List ByteArray) (nums : List Int) (bodies : List ByteArray) : Prop :=
  ∃ (name : ByteArray) (ps : List ByteArray) (body : Option ByteArray) (ok : Prop), ps.length ≤ 8 ∧
    (∀ w, Inn w A1 A2 A3 texts nums bodies → Calls Tryd.prog 5 #[.int .i64 k, .slice A1 texts.length c1, .slice A2 nums.length c2, .slice A3 bodies.length c3] w fun e w' => SmR w name ps (body.getD ⟨#[]⟩) body.isSome ok e w') ∧
    (ok → ∀ w, Inn w A1 A2 A3 texts nums bodies → Calls Tryd.prog 6 #[.int .i64 k, .slice A1 texts.length c1, .slice A2 nums.length c2, .slice A3 bodies.length c3] w fun e w' => MiR w name ps body e w')
theorem both1 (A1 A2 A3 : Option Addr) (c1 c2 c3 : Nat) (texts : List ByteArray) (nums : List Int) (bodies : List ByteArray) : Both 1 A1 A2 A3 c1 c2 c3 texts nums bodies := by
  refine ⟨⟨#[82, 69, 71, 73, 83, 84, 69, 82]⟩, (if (tx texts 1).size = 0 then [tx texts 0] else [tx texts 0, tx texts 1]), none, _, by split <;> simp, fun w h => sm1_any A1 A2 A3 c1 c2 c3 texts nums bodies w h.l1 h.C1 h.C2 h.C3 h.l2 h.l3 (tx_size h.z1 0) (tx_size h.z1 1) (tx_size h.z3 0) , ?_⟩
  intro ok w h
  obtain ⟨ht, h0⟩ := ok
  exact im1_any A1 A2 A3 c1 c2 c3 texts nums bodies w h.l1 h.C1 h.C2 h.C3 h.l2 h.l3 (tx_size h.z1 0) (tx_size h.z1 1) h.z3 h.tb
theorem both2 (A1 A2 A3 : Option Addr) (c1 c2 c3 : Nat) (texts : List ByteArray) (nums : List Int) (bodies : List ByteArray) : Both 2 A1 A2 A3 c1 c2 c3 texts nums bodies := by
  refine ⟨⟨#[85, 78, 82, 69, 71, 73, 83, 84, 69, 82]⟩, (if (tx texts 1).size = 0 then [tx texts 0] else [tx texts 0, tx texts 1]), none, _, by split <;> simp, fun w h => sm2_any A1 A2 A3 c1 c2 c3 texts nums bodies w h.l1 h.C1 h.C2 h.C3 h.l2 h.l3 (tx_size h.z1 0) (tx_size h.z1 1) (tx_size h.z3 0) , ?_⟩
  intro ok w h
  obtain ⟨ht, h0⟩ := ok
  exact im2_any A1 A2 A3 c1 c2 c3 texts nums bodies w h.l1 h.C1 h.C2 h.C3 h.l2 h.l3 (tx_size h.z1 0) (tx_size h.z1 1) h.z3 h.tb
theorem both3 (A1 A2 A3 : Option Addr) (c1 c2 c3 : Nat) (texts : List ByteArray) (nums : List Int) (bodies : List ByteArray) : Both 3 A1 A2 A3 c1 c2 c3 texts nums bodies := by
  refine ⟨⟨#[80, 73, 78, 71]⟩, [], none, _, by simp, fun w h => sm3_any A1 A2 A3 c1 c2 c3 texts nums bodies w h.l1 h.C1 h.C2 h.C3 h.l2 h.l3 (tx_size h.z1 0) (tx_size h.z1 1) (tx_size h.z3 0) , ?_⟩
  intro ok w h
  obtain ⟨ht, h0⟩ := ok
  exact im3_any A1 A2 A3 c1 c2 c3 texts nums bodies w h.l1 h.C1 h.C2 h.C3 h.l2 h.l3 (tx_size h.z1 0) (tx_size h.z1 1) h.z3 h.tb
theorem both4 (A1 A2 A3 : Option Addr) (c1 c2 c3 : Nat) (texts : List ByteArray) (nums : List Int) (bodies : List ByteArray) : Both 4 A1 A2 A3 c1 c2 c3 texts nums bodies := by
  refine ⟨⟨#[80, 85, 66]⟩, [tx texts 0], (some (tx bodies 0)), _, by simp, fun w h => sm4_any A1 A2 A3 c1 c2 c3 texts nums bodies w h.l1 h.C1 h.C2 h.C3 h.l2 h.l3 (tx_size h.z1 0) (tx_size h.z1 1) (tx_size h.z3 0) , ?_⟩
  intro ok w h
  obtain ⟨ht, hb, h0⟩ := ok
  obtain ⟨b, rb, rfl⟩ := body_cons hb
  exact im4_any A1 A2 A3 c1 c2 c3 texts b nums rb w h.l1 h.C1 h.C2 h.C3 h.l2 h.l3 (tx_size h.z1 0) (tx_size h.z1 1) h.z3 h.tb
theorem both5 (A1 A2 A3 : Option Addr) (c1 c2 c3 : Nat) (texts : List ByteArray) (nums : List Int) (bodies : List ByteArray) : Both 5 A1 A2 A3 c1 c2 c3 texts nums bodies := by
  refine ⟨⟨#[68, 80, 85, 66]⟩, [tx texts 0, dec ((nums.headD 0).toNat / 1000000)], (some (tx bodies 0)), _, by simp, fun w h => sm5_any A1 A2 A3 c1 c2 c3 texts nums bodies w h.l1 h.C1 h.C2 h.C3 h.l2 h.l3 (tx_size h.z1 0) (tx_size h.z1 1) (tx_size h.z3 0) (h.num), ?_⟩
  intro ok w h
  obtain ⟨ht, hn, hb, h0⟩ := ok
  obtain ⟨m, r, rfl⟩ := num_cons hn h0
  obtain ⟨b, rb, rfl⟩ := body_cons hb
  exact im5_any A1 A2 A3 c1 c2 c3 texts m b r rb w h.l1 h.C1 h.C2 h.C3 h.l2 h.l3 (tx_size h.z1 0) (tx_size h.z1 1) h.z3 (h.r2 (m : Int) (by simp) |> fun h => by omega) h.tb
theorem both6 (A1 A2 A3 : Option Addr) (c1 c2 c3 : Nat) (texts : List ByteArray) (nums : List Int) (bodies : List ByteArray) : Both 6 A1 A2 A3 c1 c2 c3 texts nums bodies := by
  refine ⟨⟨#[77, 80, 85, 66]⟩, [tx texts 0], (some (mpB bodies (strOfNums (be4 bodies.length)))), _, by simp, fun w h => sm6_any A1 A2 A3 c1 c2 c3 texts nums bodies w h.l1 h.C1 h.C2 h.C3 h.l2 h.l3 (tx_size h.z1 0) (tx_size h.z1 1) (tx_size h.z3 0) h.z3, ?_⟩
  intro ok w h
  obtain ⟨ht, h0⟩ := ok
  exact im6_any A1 A2 A3 c1 c2 c3 texts nums bodies w h.l1 h.C1 h.C2 h.C3 h.l2 h.l3 (tx_size h.z1 0) (tx_size h.z1 1) h.z3 h.tb
theorem both7 (A1 A2 A3 : Option Addr) (c1 c2 c3 : Nat) (texts : List ByteArray) (nums : List Int) (bodies : List ByteArray) : Both 7 A1 A2 A3 c1 c2 c3 texts nums bodies := by
  refine ⟨⟨#[83, 85, 66]⟩, [tx texts 0, tx texts 1], none, _, by simp, fun w h => sm7_any A1 A2 A3 c1 c2 c3 texts nums bodies w h.l1 h.C1 h.C2 h.C3 h.l2 h.l3 (tx_size h.z1 0) (tx_size h.z1 1) (tx_size h.z3 0) , ?_⟩
  intro ok w h
  obtain ⟨ht, h0⟩ := ok
  exact im7_any A1 A2 A3 c1 c2 c3 texts nums bodies w h.l1 h.C1 h.C2 h.C3 h.l2 h.l3 (tx_size h.z1 0) (tx_size h.z1 1) h.z3 h.tb
theorem both8 (A1 A2 A3 : Option Addr) (c1 c2 c3 : Nat) (texts : List ByteArray) (nums : List Int) (bodies : List ByteArray) : Both 8 A1 A2 A3 c1 c2 c3 texts nums bodies := by
  refine ⟨⟨#[82, 68, 89]⟩, [dec ((nums.headD 0).toNat)], none, _, by simp, fun w h => sm8_any A1 A2 A3 c1 c2 c3 texts nums bodies w h.l1 h.C1 h.C2 h.C3 h.l2 h.l3 (tx_size h.z1 0) (tx_size h.z1 1) (tx_size h.z3 0) (h.num), ?_⟩
  intro ok w h
  obtain ⟨ht, hn, h0⟩ := ok
  obtain ⟨m, r, rfl⟩ := num_cons hn h0
  exact im8_any A1 A2 A3 c1 c2 c3 texts m r bodies w h.l1 h.C1 h.C2 h.C3 h.l2 h.l3 (tx_size h.z1 0) (tx_size h.z1 1) h.z3 (h.r2 (m : Int) (by simp) |> fun h => by omega) h.tb
theorem both9 (A1 A2 A3 : Option Addr) (c1 c2 c3 : Nat) (texts : List ByteArray) (nums : List Int) (bodies : List ByteArray) : Both 9 A1 A2 A3 c1 c2 c3 texts nums bodies := by
  refine ⟨⟨#[70, 73, 78]⟩, [tx texts 0], none, _, by simp, fun w h => sm9_any A1 A2 A3 c1 c2 c3 texts nums bodies w h.l1 h.C1 h.C2 h.C3 h.l2 h.l3 (tx_size h.z1 0) (tx_size h.z1 1) (tx_size h.z3 0) , ?_⟩
  intro ok w h
  obtain ⟨ht, h0, hid⟩ := ok
  exact im9_any A1 A2 A3 c1 c2 c3 texts nums bodies w h.l1 h.C1 h.C2 h.C3 h.l2 h.l3 (tx_size h.z1 0) (tx_size h.z1 1) h.z3 hid h.tb
theorem both10 (A1 A2 A3 : Option Addr) (c1 c2 c3 : Nat) (texts : List ByteArray) (nums : List Int) (bodies : List ByteArray) : Both 10 A1 A2 A3 c1 c2 c3 texts nums bodies := by
  refine ⟨⟨#[82, 69, 81]⟩, [tx texts 0, dec ((nums.headD 0).toNat / 1000000)], none, _, by simp, fun w h => sm10_any A1 A2 A3 c1 c2 c3 texts nums bodies w h.l1 h.C1 h.C2 h.C3 h.l2 h.l3 (tx_size h.z1 0) (tx_size h.z1 1) (tx_size h.z3 0) (h.num), ?_⟩
  intro ok w h
  obtain ⟨ht, hn, h0, hid⟩ := ok
  obtain ⟨m, r, rfl⟩ := num_cons hn h0
  exact im10_any A1 A2 A3 c1 c2 c3 texts m r bodies w h.l1 h.C1 h.C2 h.C3 h.l2 h.l3 (tx_size h.z1 0) (tx_size h.z1 1) h.z3 (h.r2 (m : Int) (by simp) |> fun h => by omega) hid h.tb
theorem both11 (A1 A2 A3 : Option Addr) (c1 c2 c3 : Nat) (texts : List ByteArray) (nums : List Int) (bodies : List ByteArray) : Both 11 A1 A2 A3 c1 c2 c3 texts nums bodies := by
  refine ⟨⟨#[84, 79, 85, 67, 72]⟩, [tx texts 0], none, _, by simp, fun w h => sm11_any A1 A2 A3 c1 c2 c3 texts nums bodies w h.l1 h.C1 h.C2 h.C3 h.l2 h.l3 (tx_size h.z1 0) (tx_size h.z1 1) (tx_size h.z3 0) , ?_⟩
  intro ok w h
  obtain ⟨ht, h0, hid⟩ := ok
  exact im11_any A1 A2 A3 c1 c2 c3 texts nums bodies w h.l1 h.C1 h.C2 h.C3 h.l2 h.l3 (tx_size h.z1 0) (tx_size h.z1 1) h.z3 hid h.tb
theorem both12 (A1 A2 A3 : Option Addr) (c1 c2 c3 : Nat) (texts : List ByteArray) (nums : List Int) (bodies : List ByteArray) : Both 12 A1 A2 A3 c1 c2 c3 texts nums bodies := by
  refine ⟨⟨#[67, 76, 83]⟩, [], none, _, by simp, fun w h => sm12_any A1 A2 A3 c1 c2 c3 texts nums bodies w h.l1 h.C1 h.C2 h.C3 h.l2 h.l3 (tx_size h.z1 0) (tx_size h.z1 1) (tx_size h.z3 0) , ?_⟩
  intro ok w h
  obtain ⟨ht, h0⟩ := ok
  exact im12_any A1 A2 A3 c1 c2 c3 texts nums bodies w h.l1 h.C1 h.C2 h.C3 h.l2 h.l3 (tx_size h.z1 0) (tx_size h.z1 1) h.z3 h.tb
theorem both13 (A1 A2 A3 : Option Addr) (c1 c2 c3 : Nat) (texts : List ByteArray) (nums : List Int) (bodies : List ByteArray) : Both 13 A1 A2 A3 c1 c2 c3 texts nums bodies := by
  refine ⟨⟨#[78, 79, 80]⟩, [], none, _, by simp, fun w h => sm13_any A1 A2 A3 c1 c2 c3 texts nums bodies w h.l1 h.C1 h.C2 h.C3 h.l2 h.l3 (tx_size h.z1 0) (tx_size h.z1 1) (tx_size h.z3 0) , ?_⟩
  intro ok w h
  obtain ⟨ht, h0⟩ := ok
  exact im13_any A1 A2 A3 c1 c2 c3 texts nums bodies w h.l1 h.C1 h.C2 h.C3 h.l2 h.l3 (tx_size h.z1 0) (tx_size h.z1 1) h.z3 h.tb
theorem both14 (A1 A2 A3 : Option Addr) (c1 c2 c3 : Nat) (texts : List ByteArray) (nums : List Int) (bodies : List ByteArray) : Both 14 A1 A2 A3 c1 c2 c3 texts nums bodies := by
  refine ⟨⟨#[65, 85, 84, 72]⟩, [], (some (tx texts 0)), _, by simp, fun w h => sm14_any A1 A2 A3 c1 c2 c3 texts nums bodies w h.l1 h.C1 h.C2 h.C3 h.l2 h.l3 (tx_size h.z1 0) (tx_size h.z1 1) (tx_size h.z3 0) , ?_⟩
  intro ok w h
  obtain ⟨ht, h0⟩ := ok
  exact im14_any A1 A2 A3 c1 c2 c3 texts nums bodies w h.l1 h.C1 h.C2 h.C3 h.l2 h.l3 (tx_size h.z1 0) (tx_size h.z1 1) h.z3 h.tb
theorem both_any (k : Int) (h1 : 1 ≤ k) (h2 : k ≤ 14) (A1 A2 A3 : Option Addr) (c1 c2 c3 : Nat) (texts : List ByteArray) (nums : List Int) (bodies : List ByteArray) : Both k A1 A2 A3 c1 c2 c3 texts nums bodies := by
  have h : k = 1 ∨ k = 2 ∨ k = 3 ∨ k = 4 ∨ k = 5 ∨ k = 6 ∨ k = 7 ∨ k = 8 ∨ k = 9 ∨ k = 10 ∨ k = 11 ∨ k = 12 ∨ k = 13 ∨ k = 14 := by omega
  rcases h with rfl | rfl | rfl | rfl | rfl | rfl | rfl | rfl | rfl | rfl | rfl | rfl | rfl | rfl
  · exact both1 A1 A2 A3 c1 c2 c3 texts nums bodies
  · exact both2 A1 A2 A3 c1 c2 c3 texts nums bodies
  · exact both3 A1 A2 A3 c1 c2 c3 texts nums bodies
  · exact both4 A1 A2 A3 c1 c2 c3 texts nums bodies
  · exact both5 A1 A2 A3 c1 c2 c3 texts nums bodies
  · exact both6 A1 A2 A3 c1 c2 c3 texts nums bodies
  · exact both7 A1 A2 A3 c1 c2 c3 texts nums bodies
  · exact both8 A1 A2 A3 c1 c2 c3 texts nums bodies
  · exact both9 A1 A2 A3 c1 c2 c3 texts nums bodies
  · exact both10 A1 A2 A3 c1 c2 c3 texts nums bodies
  · exact both11 A1 A2 A3 c1 c2 c3 texts nums bodies
  · exact both12 A1 A2 A3 c1 c2 c3 texts nums bodies
  · exact both13 A1 A2 A3 c1 c2 c3 texts nums bodies
  · exact both14 A1 A2 A3 c1 c2 c3 texts nums bodies
end Go.Proofs.YtnbhledkdkchlaaDoor

namespace Go.Proofs.YtnbhledkdkchlaaDoor
set_option linter.unusedVariables false
set_option linter.unusedSimpArgs false
open Go.RowKit Go.Proofs.YtnbhledkdkchlaaDoorW.PrintWords
open PAll (laws_zzFits2.l0 laws_zzFits2.f)

theorem fits2_l0 (l : List ByteArray) (hl : l.length ≤ 9223372036854775807) (d : Nat) : ∀ i : Nat, i ≤ l.length → l.length - i = d → ∃ r, laws_zzFits2.l0 (d + 1) l (l.length : Int) (i : Int) = some r := by
  induction d with
  | zero =>
    intro i hi hd
    exact ⟨true, by rw [PAll.laws_zzFits2.l0, if_neg (by omega)]⟩
  | succ d ih =>
    intro i hi hd
    have e : wrap64 ((i : Int) + 1) = ((i + 1 : Nat) : Int) := by unfold wrap64; omega
    obtain ⟨r, hr⟩ := ih (i + 1) (by omega) (by omega)
    rw [PAll.laws_zzFits2.l0, if_pos (by omega), if_pos (by omega), if_pos (by omega), e]
    split
    · exact ⟨_, rfl⟩
    · exact ⟨r, hr⟩
theorem fits2_ex (l : List ByteArray) (hl : l.length ≤ 9223372036854775807) : ∃ k r, laws_zzFits2.f k l = some r := by
  obtain ⟨r, hr⟩ := fits2_l0 l hl l.length 0 (Nat.zero_le _) rfl
  refine ⟨l.length + 1, ?_⟩
  unfold laws_zzFits2.f
  split
  · exact ⟨_, rfl⟩
  · exact ⟨r, hr⟩
theorem fits2_any (A : Option Addr) (c : Nat) (l : List ByteArray) (w : World) (hC : Kd.C Kd.string w A l.length l) (hc : l.length ≤ c) :
    Calls Tryd.prog 4 #[.slice A l.length c] w fun e w' => ∃ r : Bool, e = .returned (.bool r) ∧ Below w.heap.size w w' := by
  obtain ⟨k, r, hr⟩ := fits2_ex l hC.2.1
  refine (PAll.laws_zzFits2.calls k A c l r w hC hc hr).mono ?_
  rintro e w' ⟨rfl, nd, rfl⟩
  exact ⟨r, rfl, pw_below_drewN (Below.refl w.heap.size w) nd⟩
theorem texts_l0 (l : List ByteArray) (hl : l.length ≤ 4000) : ∀ (m j : Nat), j + m = l.length → ∀ k, m + 1 ≤ k → PAll.laws_sameTexts.l0 k l l (l.length : Int) (j : Int) = some true := by
  intro m
  induction m with
  | zero =>
    intro j hj k hk
    obtain ⟨k, rfl⟩ : ∃ k', k = k' + 1 := ⟨k - 1, by omega⟩
    simp only [PAll.laws_sameTexts.l0]
    rw [if_neg (by omega)]
  | succ m ih =>
    intro j hj k hk
    obtain ⟨k, rfl⟩ : ∃ k', k = k' + 1 := ⟨k - 1, by omega⟩
    simp only [PAll.laws_sameTexts.l0]
    rw [if_pos (by omega), if_pos (by omega), if_pos (by omega), if_pos (by omega), if_pos trivial, show wrap64 ((j : Int) + 1) = ((j + 1 : Nat) : Int) by unfold wrap64; omega]
    exact ih (j + 1) (by omega) k (by omega)
theorem same_texts (A : Option Addr) (c : Nat) (A2 : Option Addr) (c2 : Nat) (l : List ByteArray) (w : World) (hl : l.length ≤ 4000) (hC : Kd.C Kd.string w A l.length l) (hc : l.length ≤ c) (hC2 : Kd.C Kd.string w A2 l.length l) (hc2 : l.length ≤ c2) :
    Calls Tryd.prog 7 #[.slice A l.length c, .slice A2 l.length c2] w fun e w' => e = .returned (.bool true) ∧ Below w.heap.size w w' := by
  refine (PAll.laws_sameTexts.calls (l.length + 1) A c l A2 c2 l true w hC hc hC2 hc2 ?_).mono ?_
  · unfold PAll.laws_sameTexts.f
    rw [if_pos rfl]
    exact texts_l0 l hl l.length 0 (by omega) _ (Nat.le_refl _)
  · rintro e w' ⟨rfl, nd, rfl⟩
    exact ⟨rfl, pw_below_drewN (Below.refl w.heap.size w) nd⟩
theorem way_k (way : Int) (h0 : 0 ≤ way) (h1 : way < 256) : ∃ k : Int, 1 ≤ k ∧ k ≤ 14 ∧ way % 14 + 1 = k := ⟨way % 14 + 1, by omega, by omega, rfl⟩
theorem two_cells {w wz : World} {a b : Value} {t : Nat} (h : wz = w.alloc (.cells #[a, b] t)) : wz.cell? ⟨w.heap.size, 0, none⟩ = some a ∧ wz.cell? ⟨w.heap.size, 1, none⟩ = some b := by
  subst h
  exact ⟨blk_cell (heap_alloc_new w (.cells #[a, b] t)) 0, blk_cell (heap_alloc_new w (.cells #[a, b] t)) 1⟩
theorem take_all {l : List ByteArray} {i : Nat} {s : ByteArray} (h : ∀ x ∈ l.take i, x.size ≤ 100) (hi : l[i]? = some s) (hs : s.size ≤ 100) : ∀ x ∈ l.take (i + 1), x.size ≤ 100 := by
  intro x hx
  rw [List.take_add_one, hi] at hx
  simp only [Option.toList_some, List.mem_append, List.mem_singleton] at hx
  rcases hx with hx | rfl
  · exact h x hx
  · exact hs
theorem box4 {w : World} {g : Nat} {t : TypeId} {a b c d : Value} (h : w.heap[g]? = some (.cells #[a, b, c, d] t (0, 0))) :
    w.cell? ⟨g, 0, none⟩ = some a ∧ w.cell? ⟨g, 1, none⟩ = some b ∧ w.cell? ⟨g, 2, none⟩ = some c ∧ w.cell? ⟨g, 3, none⟩ = some d := ⟨blk_cell h 0, blk_cell h 1, blk_cell h 2, blk_cell h 3⟩
/-- The row that the outer loop reads. -/
def Two (w : World) (A1 A3 : Option Addr) (c1 c3 : Nat) (texts bodies : List ByteArray) (j : Nat) (A : Option Addr) (c : Nat) (l : List ByteArray) : Prop :=
  Kd.C Kd.string w A l.length l ∧ l.length ≤ 8 ∧ (j = 0 → l = texts) ∧ (j = 1 → l = bodies)

set_option maxHeartbeats 4000000 in
set_option maxRecDepth 100000 in
theorem FnCommandMade_walk (way : Int) (A1 A2 A3 : Option Addr) (c1 c2 c3 : Nat) (texts : List ByteArray) (nums : List Int) (bodies : List ByteArray) (w : World) (hw0 : 0 ≤ way) (hw1 : way < 256)
    (hc1 : texts.length ≤ c1) (hC1 : Kd.C Kd.string w A1 texts.length texts) (hc2 : nums.length ≤ c2) (hC2 : Kd.C (Kd.int .i64) w A2 nums.length nums) (hc3 : bodies.length ≤ c3) (hC3 : Kd.C Kd.string w A3 bodies.length bodies)
    (hn : ∀ n ∈ nums, n < 9223372036854775808) (htb : Tb w) :
    Calls Tryd.prog 3 #[.int .u8 way, .slice A1 texts.length c1, .slice A2 nums.length c2, .slice A3 bodies.length c3] w fun e w' => e = .returned (.bool true) ∧ Below w.heap.size w w' := by
  have HF1 := Aside0.mk (fun wi (h : Below w.heap.size w wi) => fits2_any A1 c1 texts wi (Kd.C_below hC1 h) hc1)
  have HF3 := Aside0.mk (fun wi (h : Below w.heap.size w wi) => fits2_any A3 c3 bodies wi (Kd.C_below hC3 h) hc3)
  have HC1 := Aside0.mk hC1
  have HC2 := Aside0.mk hC2
  have HC3 := Aside0.mk hC3
  have HN := Aside0.mk hn
  have HTB := Aside0.mk htb
  obtain ⟨k, hk1, hk2, hk⟩ := way_k way hw0 hw1
  have HK := Aside0.mk hk
  clear hC1 hC2 hC3 hc1 hc2 hc3 hn htb hk
  go_enter Tryd.func3, Tryd.ntmps3
  go_wp2_with fail
  refine (HF1.out w (Below.refl _ _)).mono ?_
  rintro e w1 ⟨r1, rfl, hb1⟩
  have HB1 := Aside0.mk hb1
  clear hb1 HF1
  cases r1
  case false =>
    go_wp2_with fail
    go_ret
    exact ⟨rfl, HB1.out⟩
  by_cases h1 : (nums.length : Int) > 2147483647
  · go_wp2_with fail
    go_ret
    exact ⟨rfl, HB1.out⟩
  go_wp2_with fail
  refine (HF3.out w1 HB1.out).mono ?_
  rintro e w2 ⟨r2, rfl, hb2⟩
  have HB2 := Aside0.mk (HB1.out.trans (hb2.mono HB1.out.size))
  clear hb2 HB1 HF3
  cases r2
  case false =>
    go_wp2_with fail
    go_ret
    exact ⟨rfl, HB2.out⟩
  by_cases h4 : (texts.length : Int) > 4
  · go_wp2_with fail
    go_ret
    exact ⟨rfl, HB2.out⟩
  by_cases h3 : (bodies.length : Int) > 8
  · go_wp2_with fail
    go_ret
    exact ⟨rfl, HB2.out⟩
  by_cases h2 : (nums.length : Int) > 4
  · go_wp2_with fail
    go_ret
    exact ⟨rfl, HB2.out⟩
  go_wp2_with fail
  rw [HK.out]
  have d1 : decide ((2147483647 : Int) < (nums.length : Int)) = false := by simpa using h1
  have d2 : decide ((4 : Int) < (texts.length : Int)) = false := by simpa using h4
  have d3 : decide ((8 : Int) < (bodies.length : Int)) = false := by simpa using h3
  have d4 : decide ((4 : Int) < (nums.length : Int)) = false := by simpa using h2
  simp only [d1, d2, d3, d4, Bool.or_false, Bool.false_or]
  clear d1 d2 d3 d4
  obtain ⟨wz, hwz⟩ : ∃ wz, w2.alloc (Obj.cells #[Value.slice A1 texts.length c1, Value.slice A3 bodies.length c3] 22) = wz := ⟨_, rfl⟩
  obtain ⟨hz0, hz1⟩ := two_cells hwz.symm
  have HZ := Aside0.mk (And.intro hz0 hz1)
  have HBZ := Aside0.mk (show Below w.heap.size w wz by rw [← hwz]; exact below_alloc HB2.out _)
  have HL := Aside0.mk (show texts.length ≤ 4 ∧ bodies.length ≤ 8 ∧ nums.length ≤ 4 by omega)
  have HWZ := Aside0.mk hwz
  rw [hwz]
  clear hwz hz0 hz1 h1 h2 h3 h4 HB2 hw0 hw1
  go_loopg [52] 2 (fun gk v52 wr => ∃ j : Nat, v52 = .int .i64 j ∧ Aside0 (j ≤ 2 ∧ gk = 2 - j) ∧ Aside0 (Below wz.heap.size wz wr) ∧ Aside0 (1 ≤ j → ∀ x ∈ texts, x.size ≤ 100) ∧ Aside0 (2 ≤ j → ∀ x ∈ bodies, x.size ≤ 100))
  case atStart => exact ⟨0, rfl, ⟨by omega⟩, ⟨Below.refl _ _⟩, ⟨by omega⟩, ⟨by omega⟩⟩
  case round =>
    obtain ⟨j, rfl, HJ, HB, HX1, HX3⟩ := hrel
    rename_i wr _ _ _ _ _
    by_cases hj : j < 2
    · obtain ⟨A, c, l, hc0, HT⟩ : ∃ A c l, wr.cell? ⟨w2.heap.size, (j : Int).toNat, none⟩ = some (.slice A l.length c) ∧ Aside0 (Two w A1 A3 c1 c3 texts bodies j A c l) := by
        rcases (show j = 0 ∨ j = 1 by omega) with rfl | rfl
        · exact ⟨A1, c1, texts, pw_cell_below HB.out HZ.out.1, ⟨HC1.out, by have := HL.out; omega, fun _ => rfl, fun h => by omega⟩⟩
        · exact ⟨A3, c3, bodies, pw_cell_below HB.out HZ.out.2, ⟨HC3.out, by have := HL.out; omega, fun h => by omega, fun _ => rfl⟩⟩
      rw [Int.toNat_natCast] at hc0
      have hl8 := HT.out.2.1
      go_wp2_with fail
      have dj : decide ((j : Int) < 2) = true := by simpa using (show (j : Int) < 2 by omega)
      simp only [dj]
      clear dj
      go_loopg [58] l.length (fun gi v58 wi => ∃ i : Nat, v58 = .int .i64 i ∧ wi = wr ∧ Aside0 (i ≤ l.length ∧ gi = l.length - i) ∧ Aside0 (∀ x ∈ l.take i, x.size ≤ 100))
      case atStart => exact ⟨0, rfl, rfl, ⟨by omega⟩, ⟨by simp⟩⟩
      case round =>
        obtain ⟨i, rfl, rfl, HI, HXL⟩ := hrel
        by_cases hi : i < l.length
        · obtain ⟨s, hs⟩ : ∃ s, l[i]? = some s := ⟨_, List.getElem?_eq_getElem hi⟩
          obtain ⟨ad, hA, hcs⟩ := at_enc HT.out.1 hs
          have hcs2 := pw_cell_below HBZ.out hcs
          have hcs3 := pw_cell_below HB.out hcs2
          subst hA
          have HSI := Aside0.mk hs
          clear hs hcs hcs2
          by_cases hz : (s.size : Int) > 100
          · go_wp2_with fail
            go_ret
            exact ⟨rfl, HBZ.out.trans (HB.out.mono HBZ.out.size)⟩
          · go_wp2_with fail
            go_roundg (l.length - (i + 1))
            case measure => have := HI.out; omega
            case rel => exact ⟨i + 1, by go_num, rfl, ⟨by omega⟩, ⟨take_all HXL.out HSI.out (by omega)⟩⟩
        · have hie : i = l.length := by have := HI.out.1; omega
          subst hie
          have HXA := Aside0.mk (show ∀ x ∈ l, x.size ≤ 100 by have := HXL.out; rwa [List.take_length] at this)
          clear HXL HI hi
          go_wp2_with fail
          go_roundg (2 - (j + 1))
          case measure => have := HJ.out; omega
          case rel =>
            refine ⟨j + 1, by go_num, ⟨by omega⟩, ⟨HB.out⟩, ⟨fun h1 => ?_⟩, ⟨fun h2 => ?_⟩⟩
            · by_cases h0 : j = 0
              · rw [← HT.out.2.2.1 h0]; exact HXA.out
              · exact HX1.out (by omega)
            · have h1 : j = 1 := by omega
              rw [← HT.out.2.2.2 h1]; exact HXA.out
    · have hje : j = 2 := by have := HJ.out.1; omega
      subst hje
      have HB2 := Aside0.mk (HBZ.out.trans (HB.out.mono HBZ.out.size))
      have HIN := Aside0.mk (show Inn wr A1 A2 A3 texts nums bodies from ⟨Kd.C_below HC1.out HB2.out, Kd.C_below HC2.out HB2.out, Kd.C_below HC3.out HB2.out, HL.out.1, HL.out.2.2, HL.out.2.1, HX1.out (by omega), HX3.out (by omega), HN.out, HTB.out.below HB2.out⟩)
      obtain ⟨name, ps, body, ok, hps, hsm, him⟩ := both_any k hk1 hk2 A1 A2 A3 c1 c2 c3 texts nums bodies
      unfold MiR at him
      generalize body.getD ⟨#[]⟩ = bs at hsm him
      generalize body.isSome = has at hsm him
      have HSM := Aside0.mk hsm
      have HIM := Aside0.mk him
      have HPS := Aside0.mk hps
      clear hsm him hps HX1 HX3 HJ hj HZ HWZ HC1 HC2 HC3 HTB HN HL
      go_wp2_with fail
      refine (HSM.out _ HIN.out).mono ?_
      rintro e w3 ⟨hb3, hd⟩
      have HB3 := Aside0.mk (HB2.out.trans (hb3.mono HB2.out.size))
      rcases hd with rfl | ⟨hok, v1, rfl, hr⟩
      · clear hb3 HSM HIM
        go_wp2_with fail
        go_ret
        exact ⟨rfl, below_alloc HB3.out _⟩
      · obtain ⟨A4, c4, rfl⟩ := Kd.R_slice hr
        obtain ⟨-, l4, q4⟩ := Kd.R_reads' hr
        have HQ4 := Aside0.mk (And.intro l4 q4)
        have HIM2 := Aside0.mk (fun (wi : World) (h : Below wr.heap.size wr wi) => HIM.out hok wi (HIN.out.below h))
        have HB3' := Aside0.mk hb3
        clear hb3 HSM HIM hr l4 q4 hok
        go_wp2_with fail
        obtain ⟨w4, hw4⟩ : ∃ w4, w3.alloc (Obj.cells #[Value.string name, Value.slice A4 ps.length c4, Value.string bs, Value.bool has] 27) = w4 := ⟨_, rfl⟩
        have hx4 : w4.heap[w3.heap.size]? = some (.cells #[Value.string name, Value.slice A4 ps.length c4, Value.string bs, Value.bool has] 27 (0, 0)) := by rw [← hw4]; exact heap_alloc_new w3 _
        have hb34 : Below w3.heap.size w3 w4 := by rw [← hw4]; exact below_alloc (Below.refl _ _) _
        rw [hw4]
        have HX4 := Aside0.mk hx4
        have HB34 := Aside0.mk hb34
        clear hw4 hx4 hb34
        refine (HIM2.out w4 (HB3'.out.trans (HB34.out.mono HB3'.out.size))).mono ?_
        rintro e w5 ⟨v5, rfl, hb5, hr5⟩
        obtain ⟨A5, c5, rfl⟩ := Kd.R_slice hr5
        obtain ⟨-, l5, q5⟩ := Kd.R_reads' hr5
        have HQ5 := Aside0.mk (And.intro l5 q5)
        have HB5 := Aside0.mk hb5
        have hx45 := blk_below HX4.out hb5
        obtain ⟨d0, d1, d2, d3⟩ := box4 hx45
        have hlt := blk_lt hx45
        have hne : w3.heap.size ≠ w5.heap.size := Nat.ne_of_lt hlt
        have HX45 := Aside0.mk hx45
        clear hr5 l5 q5 hb5 HIM2 HIN HB3' hx45
        go_wp2_with fail
        obtain ⟨w6, hw6⟩ : ∃ w6, w5.alloc (Obj.cells #[Value.string name, Value.slice A5 ps.length c5, Value.string bs, Value.bool has] 30) = w6 := ⟨_, rfl⟩
        have hx6 : w6.heap[w5.heap.size]? = some (.cells #[Value.string name, Value.slice A5 ps.length c5, Value.string bs, Value.bool has] 30 (0, 0)) := by rw [← hw6]; exact heap_alloc_new w5 _
        have hb56 : Below w5.heap.size w5 w6 := by rw [← hw6]; exact below_alloc (Below.refl _ _) _
        have hb46 : Below w4.heap.size w4 w6 := HB5.out.trans (hb56.mono HB5.out.size)
        have hx46 := blk_below HX45.out hb56
        have hst := same_texts A5 c5 A4 c4 ps w6 (by have := HPS.out; omega) (Kd.C_below HQ5.out.2 hb56) HQ5.out.1 (Kd.C_below HQ4.out.2 (HB34.out.trans (hb46.mono HB34.out.size))) HQ4.out.1
        have HBF := Aside0.mk (HB3.out.trans ((HB34.out.trans (hb46.mono HB34.out.size)).mono HB3.out.size))
        rw [hw6]
        refine hst.mono ?_
        rintro e w7 ⟨rfl, hb7⟩
        obtain ⟨a0, a1, a2, a3⟩ := box4 (blk_below hx6 hb7)
        obtain ⟨b0, b1, b2, b3⟩ := box4 (blk_below hx46 hb7)
        have HB7 := Aside0.mk (HBF.out.trans (hb7.mono HBF.out.size))
        clear hw6 hx6 hb56 hb46 hx46 HX4 HX45 HB34 HQ5 HQ4 HB5 HB3 HB2 HB HBZ d0 d1 d2 d3 hst HBF hb7
        go_wp2_with fail
        refine (alive_any _).mono ?_
        rintro e w8 ⟨rfl, hb8⟩
        have HB8 := Aside0.mk (HB7.out.trans (hb8.mono HB7.out.size))
        clear hb8
        go_wp2_with fail
        go_ret
        exact ⟨rfl, HB8.out⟩
theorem FnCommandMade_row (way : Int) (A1 : Option Addr) (c1 : Nat) (texts : List ByteArray) (A2 : Option Addr) (c2 : Nat) (nums : List Int) (A3 : Option Addr) (c3 : Nat) (bodies : List ByteArray) (w : World) (hw : (Lit.int IntKind.u8 way).wf = true)
    (hc1 : texts.length ≤ c1) (hC1 : Kd.C Kd.string w A1 texts.length texts) (hwn : ∀ n ∈ nums, (Lit.int IntKind.i64 n).wf = true) (hc2 : nums.length ≤ c2) (hC2 : Kd.C (Kd.int .i64) w A2 nums.length nums) (hc3 : bodies.length ≤ c3) (hC3 : Kd.C Kd.string w A3 bodies.length bodies) (htb : Tb w) :
    Calls Tryd.prog 3 #[.int .u8 way, .slice A1 texts.length c1, .slice A2 nums.length c2, .slice A3 bodies.length c3] w fun e w' => e = .returned (.bool true) ∧ Below w.heap.size w w' := by
  have hb := Go.bounds_u8 hw
  exact FnCommandMade_walk way A1 A2 A3 c1 c2 c3 texts nums bodies w (by omega) (by omega) hc1 hC1 hc2 hC2 hc3 hC3 (fun n h => by have := Go.bounds_i64 (hwn n h); omega) htb
end Go.Proofs.YtnbhledkdkchlaaDoor
