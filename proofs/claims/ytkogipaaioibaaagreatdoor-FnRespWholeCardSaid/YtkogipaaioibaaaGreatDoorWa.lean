/- Replies on the wire, in lists alone. (seat r3.ZD) Replies: bare, asked, few. (seat r3.ZD) -/
import Derived.Test.YtkogipaaioibaaaGreatDoorPAllx0
import Derived.Test.YtkogipaaioibaaaGreatDoorPprotozzIndexByte
import Derived.Lib.Hide
import Derived.Lib.ItoaNum
import Derived.Lib.Atoi
import Derived.IntWalk
import Derived.Test.YtkogipaaioibaaaGreatDoorCore
import Derived.Test.YtkogipaaioibaaaGreatDoorPut
import Derived.Deep.DeepCutAuto
import Derived.Deep.CutBlock
import Derived.Deep.LoopGhost
namespace Go.Proofs.YtkogipaaioibaaaGreatDoor
set_option linter.unusedVariables false
set_option linter.unusedSimpArgs false
open Go.RowKit Go.Proofs.YtkogipaaioibaaaGreatDoorW.PrintWords

abbrev RP := PAll.S25
/-- A number's decimal digits. -/
def dec (n : Nat) : ByteArray := ⟨(Lib.decDigits n).toArray⟩
def decL (n : Nat) : List Int := (Lib.decDigits n).map fun b => (b.toNat : Int)
theorem dec_lt {n : Nat} (h : n < 10) : Lib.decDigits n = [UInt8.ofNat (48 + n)] := by rw [Lib.decDigits, dif_pos h]
theorem dec_ge {n : Nat} (h : ¬ n < 10) : Lib.decDigits n = Lib.decDigits (n / 10) ++ [UInt8.ofNat (48 + n % 10)] := by rw [Lib.decDigits, dif_neg h]
theorem dec_len : ∀ (d n : Nat), n < 10 ^ (d + 1) → (Lib.decDigits n).length ≤ d + 1 := by
  intro d
  induction d with
  | zero => intro n h; rw [dec_lt (by simpa using h)]; simp
  | succ d ih =>
    intro n h
    by_cases h1 : n < 10
    · rw [dec_lt h1]; simp
    · rw [dec_ge h1, List.length_append]
      have := ih (n / 10) (by rw [Nat.div_lt_iff_lt_mul (by omega)]; rw [Nat.pow_succ] at h; omega)
      simp
      omega
theorem dec_dig : ∀ (n : Nat) b, b ∈ Lib.decDigits n → 48 ≤ b.toNat ∧ b.toNat ≤ 57 := by
  intro n
  induction n using Nat.strongRecOn with
  | _ n ih =>
    intro b hb
    by_cases h : n < 10
    · rw [dec_lt h] at hb
      obtain rfl := List.mem_singleton.1 hb
      rw [UInt8.toNat_ofNat']
      omega
    · rw [dec_ge h, List.mem_append] at hb
      rcases hb with hb | hb
      · exact ih (n / 10) (by omega) b hb
      · obtain rfl := List.mem_singleton.1 hb
        rw [UInt8.toNat_ofNat']
        omega
theorem dec_pos (n : Nat) : 0 < (Lib.decDigits n).length := by
  by_cases h : n < 10
  · rw [dec_lt h]; simp
  · rw [dec_ge h]; simp
theorem decL_length (n : Nat) : (decL n).length = (Lib.decDigits n).length := by unfold decL; simp
theorem decL_le (n : Nat) (h : n ≤ 1000) : 1 ≤ (decL n).length ∧ (decL n).length ≤ 4 := by
  rw [decL_length]
  exact ⟨dec_pos n, dec_len 3 n (by omega)⟩
theorem decL_dig (n : Nat) (x : Int) (h : x ∈ decL n) : 48 ≤ x ∧ x ≤ 57 := by
  unfold decL at h
  obtain ⟨b, hb, rfl⟩ := List.mem_map.1 h
  have := dec_dig n b hb
  omega
theorem decFrom_snoc (l : List UInt8) (b : UInt8) (d : Nat) (hb : Lib.digitVal b = some d) : ∀ (acc n : Nat), Lib.decFrom acc l = some n → Lib.decFrom acc (l ++ [b]) = some (n * 10 + d) := by
  induction l with
  | nil =>
    intro acc n h
    simp only [Lib.decFrom, Option.some.injEq] at h
    subst h
    simp [Lib.decFrom, hb]
  | cons a r ih =>
    intro acc n h
    simp only [Lib.decFrom] at h
    simp only [List.cons_append, Lib.decFrom]
    cases ha : Lib.digitVal a with
    | none => rw [ha] at h; simp at h
    | some e => rw [ha] at h; exact ih _ _ h
theorem digit_val (d : Nat) (h : d < 10) : Lib.digitVal (UInt8.ofNat (48 + d)) = some d := by
  unfold Lib.digitVal
  have e : (UInt8.ofNat (48 + d)).toNat = 48 + d := by rw [UInt8.toNat_ofNat']; omega
  rw [e, if_pos (by omega)]
  congr 1
  omega
theorem decFrom_dec : ∀ n : Nat, Lib.decFrom 0 (Lib.decDigits n) = some n := by
  intro n
  induction n using Nat.strongRecOn with
  | _ n ih =>
    by_cases h : n < 10
    · rw [dec_lt h]
      simp only [Lib.decFrom, digit_val n h]
      congr 1
      omega
    · rw [dec_ge h, decFrom_snoc _ _ (n % 10) (digit_val _ (by omega)) 0 (n / 10) (ih (n / 10) (by omega))]
      congr 1
      omega
theorem dec_atoi (n : Nat) : Lib.atoi (Lib.decDigits n) = some (n : Int) := by
  have h1 := decFrom_dec n
  have h2 := dec_dig n
  cases hd : Lib.decDigits n with
  | nil => have := dec_pos n; rw [hd] at this; simp at this
  | cons b r =>
    rw [hd] at h1 h2
    have hb := h2 b (by simp)
    unfold Lib.atoi
    have n45 : (b == 45) = false := beq_eq_false_iff_ne.2 (fun e => by rw [e] at hb; exact absurd hb.1 (by decide))
    have n43 : (b == 43) = false := beq_eq_false_iff_ne.2 (fun e => by rw [e] at hb; exact absurd hb.1 (by decide))
    simp only [n45, n43, Lib.decNat]
    simp [h1]
theorem bytesOf_dec (n : Nat) : bytesOf (dec n) = decL n := by simp [bytesOf, dec, decL]

/-- Kinds of replies: in one line, with a text, with parts. -/
def lineK (k : Int) : Prop := k = 43 ∨ k = 45 ∨ k = 58 ∨ k = 95 ∨ k = 44 ∨ k = 35 ∨ k = 40
def blobK (k : Int) : Prop := k = 36 ∨ k = 33 ∨ k = 61
def aggK (k : Int) : Prop := k = 42 ∨ k = 37 ∨ k = 126 ∨ k = 124 ∨ k = 62
/-- The number that stands in the head of a reply with n parts. -/
def aggN (k : Int) (n : Nat) : Nat := if k = 37 ∨ k = 124 then n / 2 else n
mutual
/-- The bytes l are a reply on the wire. -/
def wire : RP → List Int → Prop
  | ⟨k, i, f, s, kids⟩, l =>
    (lineK k ∧ ∃ t, l = k :: (t ++ [13, 10]) ∧ (10 : Int) ∉ t ∧ t.length ≤ 200) ∨
    (blobK k ∧ s.size ≤ 200 ∧ l = k :: (decL s.size ++ ([13, 10] ++ (bytesOf s ++ [13, 10])))) ∨
    ((k = 36 ∨ k = 42) ∧ i = -1 ∧ l = [k, 45, 49, 13, 10]) ∨
    (aggK k ∧ kids.length ≤ 1000 ∧ (k = 37 → kids.length % 2 = 0) ∧ (k = 124 → kids.length % 2 = 1) ∧ ∃ t, l = k :: (decL (aggN k kids.length) ++ ([13, 10] ++ t)) ∧ wires kids t)
def wires : List RP → List Int → Prop
  | [], l => l = []
  | x :: r, l => ∃ a b, l = a ++ b ∧ wire x a ∧ wires r b
end
mutual
/-- How many parts a reply has. -/
def nodes : RP → Nat
  | ⟨_, _, _, _, kids⟩ => nodesAll kids + 1
def nodesAll : List RP → Nat
  | [] => 0
  | x :: r => nodes x + nodesAll r
end
mutual
/-- How many replies lie within one another. -/
def nest : RP → Nat
  | ⟨_, _, _, _, kids⟩ => nestAll kids + 1
def nestAll : List RP → Nat
  | [] => 0
  | x :: r => max (nest x) (nestAll r)
end
mutual
/-- All texts are of at most 200 bytes. -/
def short : RP → Prop
  | ⟨_, _, _, s, kids⟩ => s.size ≤ 200 ∧ shortAll kids
def shortAll : List RP → Prop
  | [] => True
  | x :: r => short x ∧ shortAll r
end
mutual
/-- The numbers are of their kinds. -/
def wfR : RP → Prop
  | ⟨k, i, f, _, kids⟩ => (-9223372036854775808 ≤ k ∧ k < 9223372036854775808 ∧ -9223372036854775808 ≤ i ∧ i < 9223372036854775808 ∧ 0 ≤ f ∧ f < 18446744073709551616) ∧ wfAll kids
def wfAll : List RP → Prop
  | [] => True
  | x :: r => wfR x ∧ wfAll r
end
theorem nodes_pos (x : RP) : 1 ≤ nodes x := by cases x; simp [nodes]
theorem nodesAll_len (l : List RP) : l.length ≤ nodesAll l := by
  induction l with
  | nil => simp [nodesAll]
  | cons x r ih => have := nodes_pos x; simp only [nodesAll, List.length_cons]; omega
theorem nodes_at {l : List RP} {j : Nat} {x : RP} (h : l[j]? = some x) : nodes x ≤ nodesAll l := by
  induction l generalizing j with
  | nil => simp at h
  | cons y r ih =>
    cases j with
    | zero => simp at h; subst h; simp only [nodesAll]; omega
    | succ j => have := ih (by simpa using h); simp only [nodesAll]; omega
theorem nest_at {l : List RP} {j : Nat} {x : RP} (h : l[j]? = some x) : nest x ≤ nestAll l := by
  induction l generalizing j with
  | nil => simp at h
  | cons y r ih =>
    cases j with
    | zero => simp at h; subst h; simp only [nestAll]; omega
    | succ j => have := ih (by simpa using h); simp only [nestAll]; omega
theorem shortAll_at {l : List RP} (ho : shortAll l) {j : Nat} {x : RP} (h : l[j]? = some x) : short x := by
  induction l generalizing j with
  | nil => simp at h
  | cons y r ih =>
    simp only [shortAll] at ho
    cases j with
    | zero => simp at h; subst h; exact ho.1
    | succ j => exact ih ho.2 (by simpa using h)
theorem wfAll_at {l : List RP} (ho : wfAll l) {j : Nat} {x : RP} (h : l[j]? = some x) : wfR x := by
  induction l generalizing j with
  | nil => simp at h
  | cons y r ih =>
    simp only [wfAll] at ho
    cases j with
    | zero => simp at h; subst h; exact ho.1
    | succ j => exact ih ho.2 (by simpa using h)
theorem nodesAll_take {l : List RP} {j : Nat} {x : RP} (h : l[j]? = some x) : nodesAll (l.take (j + 1)) = nodesAll (l.take j) + nodes x := by
  induction l generalizing j with
  | nil => simp at h
  | cons y r ih =>
    cases j with
    | zero => simp at h; subst h; simp [nodesAll]
    | succ j => simp at h; simp only [List.take_succ_cons, nodesAll]; rw [ih h]; omega
theorem nodesAll_take_le (l : List RP) (j : Nat) : nodesAll (l.take j) ≤ nodesAll l := by
  induction l generalizing j with
  | nil => simp [nodesAll]
  | cons y r ih =>
    cases j with
    | zero => simp [nodesAll]
    | succ j => simp only [List.take_succ_cons, nodesAll]; have := ih j; omega
theorem shortAll_take {l : List RP} {j : Nat} {x : RP} (h : l[j]? = some x) (h1 : shortAll (l.take j)) (h2 : short x) : shortAll (l.take (j + 1)) := by
  induction l generalizing j with
  | nil => simp at h
  | cons y r ih =>
    cases j with
    | zero => simp at h; subst h; simp [shortAll, h2]
    | succ j =>
      simp at h
      simp only [List.take_succ_cons, shortAll] at h1 ⊢
      exact ⟨h1.1, ih h h1.2⟩
theorem wires_snoc {l : List RP} {j : Nat} {x : RP} {a b : List Int} (h : l[j]? = some x) (h1 : wires (l.take j) a) (h2 : wire x b) : wires (l.take (j + 1)) (a ++ b) := by
  induction l generalizing j a with
  | nil => simp at h
  | cons y r ih =>
    cases j with
    | zero =>
      simp at h
      subst h
      simp only [List.take_zero, wires] at h1
      subst h1
      simp only [List.take_succ_cons, List.take_zero, wires]
      exact ⟨b, [], by simp, h2, rfl⟩
    | succ j =>
      simp at h
      simp only [List.take_succ_cons, wires] at h1 ⊢
      obtain ⟨c, d, rfl, h3, h4⟩ := h1
      exact ⟨c, d ++ b, by simp, h3, ih h h4⟩
/-- A part in the midst of all parts. -/
theorem wires_at {l : List RP} {t : List Int} {j : Nat} {x : RP} (hw : wires l t) (h : l[j]? = some x) : ∃ a b c, t = a ++ (b ++ c) ∧ wires (l.take j) a ∧ wire x b ∧ wires (l.drop (j + 1)) c := by
  induction l generalizing j t with
  | nil => simp at h
  | cons y r ih =>
    simp only [wires] at hw
    obtain ⟨p, q, rfl, h1, h2⟩ := hw
    cases j with
    | zero => simp at h; subst h; exact ⟨[], p, q, rfl, rfl, h1, by simpa using h2⟩
    | succ j =>
      obtain ⟨a, b, c, rfl, h3, h4, h5⟩ := ih h2 (by simpa using h)
      exact ⟨p ++ a, b, c, by simp, by simp only [List.take_succ_cons, wires]; exact ⟨p, a, rfl, h1, h3⟩, h4, by simpa using h5⟩
theorem wires_len (n : Nat) : ∀ (m : List RP) (t : List Int), (∀ x ∈ m, ∀ l, wire x l → l.length ≤ 210 * nodes x) → wires m t → t.length ≤ 210 * nodesAll m := by
  intro m
  induction m with
  | nil => intro t _ h; simp only [wires] at h; subst h; simp
  | cons x r ih =>
    intro t hx h
    simp only [wires] at h
    obtain ⟨a, b, rfl, h1, h2⟩ := h
    have e1 := hx x (by simp) a h1
    have e2 := ih b (fun y hy => hx y (by simp [hy])) h2
    simp only [List.length_append, nodesAll]
    omega
theorem wire_len : ∀ (n : Nat) (x : RP), nodes x ≤ n → ∀ (l : List Int), wire x l → l.length ≤ 210 * nodes x := by
  intro n
  induction n with
  | zero => intro x h; have := nodes_pos x; omega
  | succ n ih =>
    intro x hx l h
    obtain ⟨k, i, f, s, kids⟩ := x
    simp only [nodes] at hx ⊢
    simp only [wire] at h
    rcases h with ⟨_, t, rfl, _, ht⟩ | ⟨_, hs, rfl⟩ | ⟨_, _, rfl⟩ | ⟨_, hk, _, _, t, rfl, hw⟩
    · simp; omega
    · have h1 := decL_le s.size (by omega)
      have h2 := bytesOf_length s
      simp; omega
    · simp; omega
    · have h1 := wires_len n kids t (fun y hy l hl => ih y (by obtain ⟨j, hj⟩ := List.getElem?_of_mem hy; have := nodes_at hj; omega) l hl) hw
      have h2 := decL_le (aggN k kids.length) (by unfold aggN; split <;> omega)
      simp; omega
theorem wire_head {x : RP} {l : List Int} (h : wire x l) : ∃ r, l = x.f0 :: r := by
  obtain ⟨k, i, f, s, kids⟩ := x
  simp only [wire] at h
  rcases h with ⟨_, t, rfl, _, ht⟩ | ⟨_, hs, rfl⟩ | ⟨_, _, rfl⟩ | ⟨_, hk, _, _, t, rfl, hw⟩ <;> exact ⟨_, rfl⟩
/-- The first line feed. -/
theorem index_l (xs : List Int) (a r : List Int) (hx : xs = a ++ 10 :: r) (ha : (10 : Int) ∉ a) (hz : xs.length ≤ 1000000) : ∀ (n i : Nat), i ≤ a.length → a.length + 1 ≤ n + i → PAll.proto_zzIndexByte.l0 n xs 10 (xs.length : Int) (i : Int) = some (a.length : Int) := by
  intro n
  have hlen : xs.length = a.length + 1 + r.length := by rw [hx]; simp; omega
  induction n with
  | zero => intro i h1 h2; omega
  | succ n ih =>
    intro i h1 h2
    unfold PAll.proto_zzIndexByte.l0
    rw [if_pos (by omega), if_pos (by omega), if_pos (by omega)]
    have hrd : rd xs (i : Int) = xs.getD i 0 := by simp [rd]
    rw [hrd]
    by_cases hi : i = a.length
    · subst hi
      rw [if_pos (by rw [hx]; simp [List.getD_eq_getElem?_getD])]
    · have hne : xs.getD i 0 ≠ 10 := by
        rw [hx, List.getD_eq_getElem?_getD, List.getElem?_append_left (by omega), List.getElem?_eq_getElem (by omega)]
        simp only [Option.getD_some]
        exact fun e => ha (e ▸ List.getElem_mem _)
      rw [if_neg hne, IntWalk.wrap64_in _ ⟨by omega, by omega⟩]
      exact ih (i + 1) (by omega) (by omega)
theorem index_f (a r : List Int) (ha : (10 : Int) ∉ a) (hz : (a ++ 10 :: r).length ≤ 1000000) : PAll.proto_zzIndexByte.f (a.length + 1) (a ++ 10 :: r) 10 = some (a.length : Int) :=
  index_l _ a r rfl ha hz (a.length + 1) 0 (by omega) (by omega)
theorem decL_no10 (n : Nat) : (10 : Int) ∉ decL n := fun h => by have := decL_dig n 10 h; omega
end Go.Proofs.YtkogipaaioibaaaGreatDoor

namespace Go.Proofs.YtkogipaaioibaaaGreatDoor
set_option linter.unusedVariables false
set_option linter.unusedSimpArgs false
open Go.RowKit Go.Proofs.YtkogipaaioibaaaGreatDoorW.PrintWords
abbrev kR := PAll.k25

def BareR (w : World) (e : Ending) (w' : World) : Prop := ∃ b, e = .returned (.bool b) ∧ Below w.heap.size w w'
set_option maxHeartbeats 8000000 in
set_option maxRecDepth 100000 in
theorem bare_any (k i f : Int) (s : ByteArray) (A : Option Addr) (n c : Nat) (w : World) (hn : n ≤ 9223372036854775807) :
    Calls Tryz.prog 40 #[.agg #[.int .i64 k, .int .i64 i, .int .u64 f, .string s, .slice A n c]] w fun e w' => BareR w e w' := by
  go_enter Tryz.func40, Tryz.ntmps40
  go_wp2_with fail
  all_goals
    go_ret
    exact ⟨_, rfl, by repeat (first | (with_reducible exact Below.refl _ _) | (refine below_set ?_ (Nat.le_refl _)) | (refine below_alloc ?_ _))⟩

/-- A reply as an argument. -/
def valR (x : RP) (A : Option Addr) (c : Nat) : Value := .agg #[.int .i64 x.f0, .int .i64 x.f1, .int .u64 x.f2, .string x.f3, .slice A x.f4.length c]
/-- The box of a Reply: its five cells. -/
theorem box5 {w : World} {g : Nat} {t : TypeId} {a b c d e : Value} (h : w.heap[g]? = some (.cells #[a, b, c, d, e] t (0, 0))) :
    w.cell? ⟨g, 0, none⟩ = some a ∧ w.cell? ⟨g, 1, none⟩ = some b ∧ w.cell? ⟨g, 2, none⟩ = some c ∧ w.cell? ⟨g, 3, none⟩ = some d ∧ w.cell? ⟨g, 4, none⟩ = some e :=
  ⟨blk_cell h 0, blk_cell h 1, blk_cell h 2, blk_cell h 3, blk_cell h 4⟩
/-- What asked's own box and its count hold. -/
structure AB (w wc : World) (lb : Nat) (l : Int) (k i f : Int) (s : ByteArray) (A : Option Addr) (n c : Nat) : Prop where
  box : wc.heap[w.heap.size]? = some (.cells #[.int .i64 k, .int .i64 i, .int .u64 f, .string s, .slice A n c] 25 (0, 0))
  left : wc.heap[lb]? = some (.cells #[.int .i64 l] 3 (0, 0))
  gr : w.grownBy wc (some lb)
/-- What asked tells. -/
def AskR (w : World) (lb : Nat) (l n : Int) (ok : Prop) (e : Ending) (w' : World) : Prop :=
  ∃ (r : Bool) (l' : Int), e = .returned (.bool r) ∧ w'.heap[lb]? = some (.cells #[.int .i64 l'] 3 (0, 0)) ∧ (r = true → ok ∧ l' = l - n ∧ 0 ≤ l') ∧ w.grownBy w' (some lb)
/-- asked's contract where at most N calls are left. -/
def AskSaid (N : Nat) : Prop :=
  ∀ (x : RP) (A : Option Addr) (c : Nat) (lb : Nat) (l : Int) (w0 w : World),
    0 ≤ l → l ≤ N → N ≤ 60 → x.f4.length ≤ c → Kd.C kR w0 A x.f4.length x.f4 → Below w0.heap.size w0 w → w0.heap.size ≤ lb →
    w.heap[lb]? = some (.cells #[.int .i64 l] 3 (0, 0)) →
    Calls Tryz.prog 26 #[valR x A c, .pointer (some ⟨lb, 0, none⟩)] w fun e w' => AskR w lb l (nodes x) (short x) e w'
theorem AB.alloc {w wc : World} {lb : Nat} {l k i f : Int} {s : ByteArray} {A : Option Addr} {n c : Nat} (h : AB w wc lb l k i f s A n c) (o : Obj) : AB w (wc.alloc o) lb l k i f s A n c :=
  ⟨(Below.heap_alloc wc _ _ (blk_lt h.box)).trans h.box, (Below.heap_alloc wc _ _ (blk_lt h.left)).trans h.left, grown_trans' h.gr (World.grownBy_alloc wc o _)⟩
set_option maxHeartbeats 4000000 in
set_option maxRecDepth 100000 in
theorem asked_step (N : Nat) (hN : N ≤ 59) (ih : AskSaid N) (k i f : Int) (s : ByteArray) (kids : List RP) (A : Option Addr) (c : Nat) (lb : Nat) (l : Int) (w0 w : World)
    (hl0 : 1 ≤ l) (hl1 : l ≤ N + 1) (hc : kids.length ≤ c) (hk : Kd.C kR w0 A kids.length kids)
    (hw : Below w0.heap.size w0 w) (h0 : w0.heap.size ≤ lb)
    (hb : w.heap[lb]? = some (.cells #[.int .i64 l] 3 (0, 0))) :
    Calls Tryz.prog 26 #[.agg #[.int .i64 k, .int .i64 i, .int .u64 f, .string s, .slice A kids.length c], .pointer (some ⟨lb, 0, none⟩)] w fun e w' => AskR w lb l (nodesAll kids + 1) (s.size ≤ 200 ∧ shortAll kids) e w' := by
  have hlt := blk_lt hb
  have c0 : w.cell? ⟨lb, 0, none⟩ = some (.int .i64 l) := blk_cell hb 0
  have f0 : w.frozen? ⟨lb, 0, none⟩ = false := blk_frozen hb 0
  have HB := Aside0.mk hb
  have hn6 : kids.length ≤ 9223372036854775807 := hk.2.1
  have HK := Aside0.mk hk
  have HC := Aside0.mk (And.intro hc hn6)
  have hl2 : l ≤ 60 := by omega
  have HL := Aside0.mk (And.intro hN hl1)
  have HW := Aside0.mk (And.intro hw h0)
  have hvb : AB w ((w.setCell ⟨lb, 0, none⟩ (.int .i64 (l - 1))).alloc (.cells #[.int .i64 k, .int .i64 i, .int .u64 f, .string s, .slice A kids.length c] 25)) lb (l - 1) k i f s A kids.length c := by
    have h1 := blk_set HB.out 0 (.int .i64 (l - 1))
    refine ⟨?_, ?_, ?_⟩
    · have := heap_alloc_new (w.setCell ⟨lb, 0, none⟩ (.int .i64 (l - 1))) (.cells #[.int .i64 k, .int .i64 i, .int .u64 f, .string s, .slice A kids.length c] 25)
      simpa using this
    · exact (Below.heap_alloc _ _ _ (blk_lt h1)).trans h1
    · exact grown_trans' (grown_set (World.grownBy.refl w _) 0 _) (World.grownBy_alloc _ _ _)
  have HVB := Aside0.mk hvb
  clear hb hk hc hl1 hN hw h0 hvb
  by_cases hs : (s.size : Int) ≤ 200
  case neg =>
    go_enter Tryz.func26, Tryz.ntmps26
    go_wp2_with fail
    go_ret
    exact ⟨false, l - 1, rfl, HVB.out.left, by simp, HVB.out.gr⟩
  case pos =>
    go_enter Tryz.func26, Tryz.ntmps26
    go_wp2_with fail
    generalize hWC : (w.setCell ⟨lb, 0, none⟩ (.int .i64 (l - 1))).alloc (.cells #[.int .i64 k, .int .i64 i, .int .u64 f, .string s, .slice A kids.length c] 25) = wc at *
    clear hWC c0 f0
    have hm0 : 0 ≤ l - 1 := by omega
    clear hn6
    go_loopg [25] kids.length (fun gk v25 wk => ∃ j : Nat, v25 = .int .i64 j ∧ Aside0 (j ≤ kids.length ∧ gk = kids.length - j) ∧ Aside0 (AB w wk lb (l - 1 - nodesAll (kids.take j)) k i f s A kids.length c) ∧ Aside0 (shortAll (kids.take j)) ∧ Aside0 (0 ≤ l - 1 - nodesAll (kids.take j)))
    case atStart => exact ⟨0, rfl, ⟨by omega⟩, ⟨by simpa [nodesAll] using HVB.out⟩, ⟨by simp [shortAll]⟩, ⟨by simpa [nodesAll] using hm0⟩⟩
    case round =>
      clear HVB
      obtain ⟨j, rfl, HJ, HVJ, HOJ, HMJ⟩ := hrel
      rename_i wk _ _ _ _ _ _
      have hszb : w.heap.size < _ := blk_lt HVJ.out.box
      have hn1 := HC.out.1
      have hn2 := HC.out.2
      by_cases hj : j < kids.length
      · obtain ⟨y, hy⟩ : ∃ y, kids[j]? = some y := ⟨_, List.getElem?_eq_getElem hj⟩
        have hbr := HW.out.1.grown HVJ.out.gr HW.out.1.size (by rintro q hq; injection hq with hq; have := HW.out.2; omega)
        obtain ⟨ad, B6, d6, hA, g0, g1, g2, g3, g4, l6, q6⟩ := PAll.at_T25 HK.out (j : Int) (by omega) (by omega)
        have hry : PAll.rd_T25 kids (j : Int) = y := by unfold Go.Proofs.YtkogipaaioibaaaGreatDoor.PAll.rd_T25; rw [Int.toNat_natCast, List.getD_eq_getElem?_getD, hy]; rfl
        rw [hry] at g0 g1 g2 g3 g4 l6 q6
        rw [Int.toNat_natCast] at g0 g1 g2 g3 g4
        have h0 := pw_cell_below hbr g0
        have h1 := pw_cell_below hbr g1
        have h2 := pw_cell_below hbr g2
        have h3 := pw_cell_below hbr g3
        have h4 := pw_cell_below hbr g4
        subst hA
        have HY := Aside0.mk hy
        have HQ := Aside0.mk (And.intro l6 q6)
        have HBR := Aside0.mk hbr
        clear g0 g1 g2 g3 g4 l6 q6 hry hy hbr
        have hny := nodesAll_take HY.out
        have HNY := Aside0.mk hny
        clear hny
        have HIH := ih y B6 d6 lb (l - 1 - nodesAll (kids.take j)) w0 _ HMJ.out (by have := HL.out; omega) (by have := HL.out; omega) HQ.out.1 HQ.out.2 (below_alloc HBR.out (.cells #[.int .i64 y.f0, .int .i64 y.f1, .int .u64 y.f2, .string y.f3, .slice B6 y.f4.length d6] 25)) HW.out.2 ((HVJ.out.alloc (.cells #[.int .i64 y.f0, .int .i64 y.f1, .int .u64 y.f2, .string y.f3, .slice B6 y.f4.length d6] 25)).left)
        unfold valR at HIH
        have HX := Aside0.mk HIH
        clear HIH
        go_wp2_with fail
        refine (HX.out).mono ?_
        rintro e w2 ⟨r, l', rfl, hl', hr, hg⟩
        have hv2 : AB w w2 lb l' k i f s (some ad) kids.length c :=
          ⟨(hg.block w.heap.size (by simp; omega) (by simp; omega)).trans (HVJ.out.alloc (.cells #[.int .i64 y.f0, .int .i64 y.f1, .int .u64 y.f2, .string y.f3, .slice B6 y.f4.length d6] 25)).box, hl', grown_trans' (HVJ.out.alloc (.cells #[.int .i64 y.f0, .int .i64 y.f1, .int .u64 y.f2, .string y.f3, .slice B6 y.f4.length d6] 25)).gr hg⟩
        have HV2 := Aside0.mk hv2
        have HR2 := Aside0.mk hr
        clear hl' hr hg hv2 HX
        cases r
        case false =>
          go_wp2_with fail
          go_ret
          exact ⟨false, l', rfl, HV2.out.left, by simp, HV2.out.gr⟩
        case true =>
          go_wp2_with fail
          go_roundg (kids.length - (j + 1))
          case measure => have := HJ.out.2; omega
          case rel =>
            obtain ⟨ho, hl, hp⟩ := HR2.out trivial
            have h9 := HNY.out
            have hle : l' = l - 1 - (nodesAll (kids.take (j + 1)) : Int) := by rw [h9]; push_cast; omega
            exact ⟨j + 1, by go_num, ⟨by omega⟩, ⟨hle ▸ HV2.out⟩, ⟨shortAll_take HY.out HOJ.out ho⟩, ⟨hle ▸ hp⟩⟩
      · have hje : j = kids.length := by have := HJ.out.1; omega
        subst hje
        go_wp2_with fail
        go_ret
        have h1 := HOJ.out
        have h2 := HMJ.out
        have h3 := HVJ.out.left
        rw [List.take_length] at h1 h2 h3
        exact ⟨true, _, rfl, h3, fun _ => ⟨⟨by omega, h1⟩, by omega, h2⟩, HVJ.out.gr⟩
set_option maxHeartbeats 2000000 in
set_option maxRecDepth 100000 in
theorem asked_zero (k i f : Int) (s : ByteArray) (n6 : Nat) (A6 : Option Addr) (c6 : Nat) (lb : Nat) (w : World) (n : Int) (ok : Prop)
    (hb : w.heap[lb]? = some (.cells #[.int .i64 0] 3 (0, 0))) :
    Calls Tryz.prog 26 #[.agg #[.int .i64 k, .int .i64 i, .int .u64 f, .string s, .slice A6 n6 c6], .pointer (some ⟨lb, 0, none⟩)] w fun e w' => AskR w lb 0 n ok e w' := by
  have hlt := blk_lt hb
  have c0 : w.cell? ⟨lb, 0, none⟩ = some (.int .i64 0) := blk_cell hb 0
  have f0 : w.frozen? ⟨lb, 0, none⟩ = false := blk_frozen hb 0
  have HB := Aside0.mk hb
  clear hb
  go_enter Tryz.func26, Tryz.ntmps26
  go_wp2_with fail
  go_ret
  have h1 := blk_set HB.out 0 (.int .i64 (-1))
  exact ⟨false, -1, rfl, (Below.heap_alloc _ _ _ (blk_lt h1)).trans h1, by simp, grown_trans' (grown_set (World.grownBy.refl w _) 0 _) (World.grownBy_alloc _ _ _)⟩
theorem asked_any (N : Nat) : AskSaid N := by
  induction N with
  | zero =>
    intro x A6 c6 lb l w0 w hl0 hl1 hN h6 hk6 hw h0 hb
    obtain rfl : l = 0 := by omega
    obtain ⟨k, i, f, s, kids⟩ := x
    exact asked_zero k i f s kids.length A6 c6 lb w _ _ hb
  | succ N ih =>
    intro x A6 c6 lb l w0 w hl0 hl1 hN h6 hk6 hw h0 hb
    obtain ⟨k, i, f, s, kids⟩ := x
    by_cases hz : l = 0
    · subst hz
      exact asked_zero k i f s kids.length A6 c6 lb w _ _ hb
    · have h := asked_step N (by omega) ih k i f s kids A6 c6 lb l w0 w (by omega) (by omega) h6 hk6 hw h0 hb
      exact h
/-- What few tells. -/
def FewR (x : RP) (w : World) (e : Ending) (w' : World) : Prop := ∃ r : Bool, e = .returned (.bool r) ∧ (r = true → nodes x ≤ 60 ∧ short x) ∧ Below w.heap.size w w'
set_option maxHeartbeats 2000000 in
set_option maxRecDepth 100000 in
theorem few_any (x : RP) (A : Option Addr) (c : Nat) (w0 w : World) (hc : x.f4.length ≤ c) (hk : Kd.C kR w0 A x.f4.length x.f4) (hw : Below w0.heap.size w0 w) :
    Calls Tryz.prog 15 #[valR x A c] w fun e w' => FewR x w e w' := by
  unfold valR
  have hnew : ∀ o o2, ((w.alloc o).alloc o2).heap[w.heap.size + 1]? = some o2 := fun o o2 => by
    have h := heap_alloc_new (w.alloc o) o2
    rw [World.size_alloc] at h
    exact h
  have HA := Lib.hid (asked_any 60 x A c (w.heap.size + 1) 60 w0 ((w.alloc (.cells #[.int .i64 x.f0, .int .i64 x.f1, .int .u64 x.f2, .string x.f3, .slice A x.f4.length c] 25)).alloc (.cells #[.int .i64 60] 3)) (by decide) (by decide) (by decide) hc hk (below_alloc (below_alloc hw _) _) (by have := hw.size; omega) (hnew _ _))
  unfold valR at HA
  have HK := Lib.hid (And.intro hk (And.intro hc hw))
  clear hk hc hw hnew
  go_enter Tryz.func15, Tryz.ntmps15
  go_wp2_with fail
  refine HA.out.mono ?_
  rintro e w2 ⟨r, l', rfl, hl', hr, hg⟩
  have HR := Lib.hid (And.intro hr hg)
  clear hr hg hl' HA
  go_wp2_with fail
  go_ret
  refine ⟨r, rfl, fun h => ?_, ?_⟩
  · obtain ⟨h1, h2, h3⟩ := HR.out.1 h
    exact ⟨by omega, h1⟩
  · exact (below_alloc (below_alloc (Below.refl _ _) _) _).grown HR.out.2 (by simp; omega) (by rintro q hq; injection hq with hq; omega)
end Go.Proofs.YtkogipaaioibaaaGreatDoor
