/- Values as data, and their bytes: what packing comes to, in lists alone. -/
import Derived.Test.YtjnookhdiolhgaaPk2
namespace Go.Proofs.Ytjnookhdiolhgaa
open Go.RowKit Go.Proofs.YtjnookhdiolhgaaW.PrintWords
open PAll (S26)

/-- The header of a value, or all of it where it has no parts. -/
def encTop (k : Int) (b : Bool) (i f : Int) (s : ByteArray) (n : Int) : List Int :=
  if k = 0 then [192]
  else if k = 1 then [if b then 195 else 194]
  else if k = 2 then encInt i
  else if k = 3 then encFloat f.toNat
  else if k = 4 then encText s
  else if k = 5 then encByteHead s.size ++ bytesOf s
  else if k = 6 then encHead 144 212 n
  else if k = 7 then encHead 160 216 n
  else [176 + n, i]

mutual
/-- The bytes of a value. -/
def enc : S26 → List Int
  | ⟨k, b, i, f, s, keys, kids⟩ => encTop k b i f s kids.length ++ encKids (k == 7) keys kids
def encKids : Bool → List ByteArray → List S26 → List Int
  | _, _, [] => []
  | m, keys, x :: r => (if m then encText (keys.headD ByteArray.empty) else []) ++ (enc x ++ encKids m keys.tail r)
end
mutual
/-- How many parts a value has. -/
def nodes : S26 → Nat
  | ⟨_, _, _, _, _, _, kids⟩ => nodesAll kids + 1
def nodesAll : List S26 → Nat
  | [] => 0
  | x :: r => nodes x + nodesAll r
end
/-- What a value itself must be. -/
def okTop (k : Int) (b : Bool) (i f : Int) (s : ByteArray) (keys : List ByteArray) (kids : List S26) : Prop :=
  0 ≤ k ∧ k ≤ 8 ∧ s.size ≤ 300 ∧ (k ≠ 1 → b = false) ∧ (k ≠ 2 → k ≠ 8 → i = 0) ∧ (k ≠ 3 → f = 0) ∧ (k ≠ 4 → k ≠ 5 → s.size = 0) ∧ (k ≠ 7 → keys = []) ∧ (k < 6 → kids = []) ∧
    (k = 8 → 0 ≤ i ∧ i ≤ 255 ∧ kids.length ≤ 15) ∧ (k = 7 → keys.length = kids.length) ∧ ∀ t ∈ keys, t.size ≤ 300
mutual
def okV : S26 → Prop
  | ⟨k, b, i, f, s, keys, kids⟩ => okTop k b i f s keys kids ∧ okAll kids
def okAll : List S26 → Prop
  | [] => True
  | x :: r => okV x ∧ okAll r
end
mutual
/-- The numbers are of their kinds. -/
def wfV : S26 → Prop
  | ⟨_, _, i, f, _, _, kids⟩ => (-9223372036854775808 ≤ i ∧ i < 9223372036854775808 ∧ 0 ≤ f ∧ f < 18446744073709551616) ∧ wfAll kids
def wfAll : List S26 → Prop
  | [] => True
  | x :: r => wfV x ∧ wfAll r
end
theorem nodes_pos (x : S26) : 1 ≤ nodes x := by cases x; simp [nodes]
theorem nodesAll_len (l : List S26) : l.length ≤ nodesAll l := by
  induction l with
  | nil => simp [nodesAll]
  | cons x r ih => have := nodes_pos x; simp only [nodesAll, List.length_cons]; omega
theorem nodes_at {l : List S26} {j : Nat} {x : S26} (h : l[j]? = some x) : nodes x ≤ nodesAll l := by
  induction l generalizing j with
  | nil => simp at h
  | cons y r ih =>
    cases j with
    | zero => simp at h; subst h; simp only [nodesAll]; omega
    | succ j => have := ih (by simpa using h); simp only [nodesAll]; omega
theorem okAll_at {l : List S26} (ho : okAll l) {j : Nat} {x : S26} (h : l[j]? = some x) : okV x := by
  induction l generalizing j with
  | nil => simp at h
  | cons y r ih =>
    simp only [okAll] at ho
    cases j with
    | zero => simp at h; subst h; exact ho.1
    | succ j => exact ih ho.2 (by simpa using h)
theorem wfAll_at {l : List S26} (ho : wfAll l) {j : Nat} {x : S26} (h : l[j]? = some x) : wfV x := by
  induction l generalizing j with
  | nil => simp at h
  | cons y r ih =>
    simp only [wfAll] at ho
    cases j with
    | zero => simp at h; subst h; exact ho.1
    | succ j => exact ih ho.2 (by simpa using h)
/-- One part more. -/
theorem encKids_snoc (m : Bool) (keys : List ByteArray) (kids : List S26) (j : Nat) (x : S26) (h : kids[j]? = some x) :
    encKids m keys (kids.take (j + 1)) = encKids m keys (kids.take j) ++ ((if m then encText (keys.getD j ByteArray.empty) else []) ++ enc x) := by
  induction kids generalizing j keys with
  | nil => simp at h
  | cons y r ih =>
    cases j with
    | zero =>
      simp at h
      subst h
      cases keys <;> simp [encKids, List.headD, List.getD]
    | succ j =>
      have h2 := ih keys.tail j (by simpa using h)
      rw [List.take_succ_cons, List.take_succ_cons]
      simp only [encKids]
      rw [h2]
      have e : keys.tail.getD j ByteArray.empty = keys.getD (j + 1) ByteArray.empty := by cases keys <;> simp [List.getD]
      rw [e]
      simp [List.append_assoc]
theorem encKids_prefix (m : Bool) (keys : List ByteArray) (kids : List S26) (j : Nat) : (encKids m keys (kids.take j)).length ≤ (encKids m keys kids).length := by
  induction kids generalizing j keys with
  | nil => simp [encKids]
  | cons y r ih =>
    cases j with
    | zero => simp [encKids]
    | succ j =>
      have h2 := ih keys.tail j
      rw [List.take_succ_cons]
      simp only [encKids, List.length_append]
      omega
end Go.Proofs.Ytjnookhdiolhgaa
