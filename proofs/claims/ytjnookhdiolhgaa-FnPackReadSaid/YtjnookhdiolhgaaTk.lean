/- spec.numberOf, spec.token's closures. (seat r1) -/
import Derived.Test.YtjnookhdiolhgaaRd
import Derived.Deep.LoopGhost
namespace Go.Proofs.Ytjnookhdiolhgaa
set_option linter.unusedVariables false
set_option linter.unusedSimpArgs false
open Go.RowKit Go.Proofs.YtjnookhdiolhgaaW.PrintWords

theorem be_snoc (l : List Int) (a : Int) : be (l ++ [a]) = be l * 256 + a := by simp [be]
theorem or8 (x b : Int) (hx : 0 ≤ x) (hx1 : x * 256 < 18446744073709551616) (hb : 0 ≤ b) (hb1 : b < 256) : Go.bits .or .u64 (x * 256) b = x * 256 + b :=
  bits_join .u64 64 (by decide) (fun n h0 h1 => by rw [IntKind.wrap_u64]; omega) 8 _ _ (by omega) (by omega) (by omega) hb (by omega) (by omega)
set_option maxHeartbeats 1000000 in
set_option maxRecDepth 100000 in
theorem numberOf_any (s : ByteArray) (w : World) (hs : s.size ≤ 8) :
    Calls Try.prog 108 #[.string s] w fun e w' => e = .returned (.int .u64 (be (bytesOf s))) ∧ w' = w := by
  have hl := bytesOf_length s
  have hs8 : (s.size : Int) ≤ 8 := by omega
  go_enter Try.func108, Try.ntmps108
  go_wp2_with fail
  go_loopg [3, 7] s.size (fun gk v3 v7 wr => ∃ (j : Nat) (x : Int), v3 = .int .u64 x ∧ v7 = .int .i64 j ∧ Aside0 (x = be ((bytesOf s).take j)) ∧ Aside0 (j ≤ s.size ∧ gk = s.size - j) ∧ wr = w)
  case atStart => exact ⟨0, 0, rfl, rfl, ⟨rfl⟩, ⟨by omega⟩, rfl⟩
  case round =>
    obtain ⟨j, x, rfl, rfl, HX, HJ, rfl⟩ := hrel
    by_cases hj : j < s.size
    · have hxr : 0 ≤ x ∧ x < 72057594037927936 := by
        have h := be_range ((bytesOf s).take j) (fun y hy => bytesOf_bytes s y (List.mem_of_mem_take hy))
        rw [← HX.out] at h
        refine ⟨h.1, Int.lt_of_lt_of_le h.2 ?_⟩
        have hl2 : ((bytesOf s).take j).length ≤ 7 := by rw [List.length_take]; omega
        generalize ((bytesOf s).take j).length = q at hl2
        match q, hl2 with
        | 0, _ | 1, _ | 2, _ | 3, _ | 4, _ | 5, _ | 6, _ | 7, _ => decide
      have hsj : (bytesOf s)[j]? = some ((s[j].toNat : Nat) : Int) := by
        obtain ⟨⟨l⟩⟩ := s
        have hj' : j < l.length := hj
        unfold bytesOf
        rw [List.getElem?_map]
        simp only
        rw [List.getElem?_eq_getElem hj']
        rfl
      have hnx : bits BinOp.or IntKind.u64 (IntKind.u64.wrap (x * 256)) (IntKind.u64.wrap ((s[j].toNat : Nat) : Int)) = be ((bytesOf s).take (j + 1)) := by
        have hb := (s[j]).toNat_lt
        have e1 : IntKind.u64.wrap (x * 256) = x * 256 := by rw [IntKind.wrap_u64]; omega
        have e2 : IntKind.u64.wrap ((s[j].toNat : Nat) : Int) = ((s[j].toNat : Nat) : Int) := by rw [IntKind.wrap_u64]; omega
        rw [e1, e2, or8 x _ hxr.1 (by omega) (by omega) (by omega), List.take_add_one, hsj, Option.toList_some, be_snoc, ← HX.out]
      have HN := Aside0.mk hnx
      clear hnx hsj hxr
      go_wp2_with fail
      go_roundg (s.size - (j + 1))
      case measure => have := HJ.out.2; omega
      case rel => exact ⟨j + 1, _, by rw [HN.out], by go_num, ⟨rfl⟩, ⟨by omega⟩, rfl⟩
    · have hje : j = s.size := by have := HJ.out.1; omega
      subst hje
      have HXS : Aside0 (x = be (bytesOf s)) := ⟨by have := HX.out; rwa [List.take_of_length_le (by omega)] at this⟩
      clear HX
      go_wp2_with fail
      go_ret
      exact ⟨by rw [HXS.out]; rfl, rfl⟩

theorem bytes_extract0 (s : ByteArray) (k : Nat) : bytesOf (s.extract 0 k) = (bytesOf s).take k := by
  obtain ⟨⟨l⟩⟩ := s
  unfold bytesOf
  simp
theorem bytes_extract (s : ByteArray) (k : Nat) : bytesOf (s.extract k s.size) = (bytesOf s).drop k := by
  obtain ⟨⟨l⟩⟩ := s
  unfold bytesOf
  have : (⟨⟨l⟩⟩ : ByteArray).size = l.length := rfl
  rw [this]
  simp
  exact List.take_of_length_le (by simp)
/-- What take answers: the bytes' number, and what is left in b. -/
def TakeR (bb k : Nat) (s : ByteArray) (w : World) (e : Ending) (w' : World) : Prop :=
  match sizedN k (bytesOf s) with
  | none => e = .returned (.tuple #[.int .u64 0, .bool false]) ∧ w' = w
  | some (n, r) => e = .returned (.tuple #[.int .u64 n, .bool true]) ∧ ∃ s2, bytesOf s2 = r ∧ w' = w.setCell ⟨bb, 0, none⟩ (.string s2)

set_option maxHeartbeats 1000000 in
set_option maxRecDepth 100000 in
theorem take_any (bb k : Nat) (s : ByteArray) (w : World) (hb : w.heap[bb]? = some (.cells #[.string s] 9 (0, 0))) (hk : k ≤ 8) (hs : s.size ≤ 1000000000) :
    Calls Try.prog 107 #[.int .i64 (k : Int), .pointer (some ⟨bb, 0, none⟩)] w fun e w' => TakeR bb k s w e w' := by
  have c0 := blk_cell hb 0
  have f0 := blk_frozen hb 0
  by_cases h : s.size < k
  · have hq : sizedN k (bytesOf s) = none := by unfold sizedN; rw [if_pos (by rw [bytesOf_length]; exact h)]
    have hi : (s.size : Int) < (k : Int) := by omega
    unfold TakeR
    rw [hq]
    go_enter Try.func107, Try.ntmps107
    go_wp2_with fail
    go_ret2
    exact ⟨rfl, rfl⟩
  · have hq : sizedN k (bytesOf s) = some (be ((bytesOf s).take k), (bytesOf s).drop k) := by unfold sizedN; rw [if_neg (by rw [bytesOf_length]; exact h)]
    have hi : ¬ (s.size : Int) < (k : Int) := by omega
    have hi2 : (k : Int) ≤ (s.size : Int) := by omega
    have hi0 : (0 : Int) ≤ (k : Int) := by omega
    have HN := Aside0.mk (numberOf_any (s.extract 0 k) w (by simp; omega))
    rw [bytes_extract0] at HN
    have HQ := Aside0.mk hq
    clear hq
    go_enter Try.func107, Try.ntmps107
    go_wp2_with fail
    refine HN.out.mono ?_
    rintro e w1 ⟨rfl, rfl⟩
    go_wp2_with fail
    go_ret2
    unfold TakeR
    rw [HQ.out]
    exact ⟨rfl, _, bytes_extract s k, rfl⟩

/-- A token. -/
structure TKN where
  c : Int
  b : Bool
  i : Int
  f : Int
  s : ByteArray
  n : Int
  g : Int
/-- What a token's reading says: too few bytes, a length that is not spoken of, a token and what is behind it. -/
inductive TS where
  | bad : TS
  | wild : TS
  | ok : TKN → List Int → TS
def tkv (t : Int) : Tk → TS
  | .bad => .bad
  | .wild => .wild
  | .val x r => .ok ⟨t, x.f1, x.f2, x.f3, x.f4, 0, 0⟩ r
  | .opn _ g n r => .ok ⟨t, false, 0, 0, ⟨#[]⟩, n, g⟩ r
def tk0 : TKN := ⟨0, false, 0, 0, ⟨#[]⟩, 0, 0⟩
def tksM (t s l : Int) (r : List Int) : TS := if t = 0 then .ok tk0 r else tkv t (tokM t s l r)
/-- The token that bytes begin with. -/
def tks : List Int → TS
  | [] => .bad
  | m :: r => tksM (mark m).1 (mark m).2.1 (mark m).2.2 r
def B57 (t : TKN) : Array Value := #[.int .i64 t.c, .bool t.b, .int .i64 t.i, .int .u64 t.f, .string t.s, .int .u32 t.n, .int .i64 t.g]
/-- What token answers. -/
def TokR (T : TS) (w : World) (e : Ending) (w' : World) : Prop :=
  Below w.heap.size w w' ∧ match T with
  | .bad => ∃ (t : TKN) (str : ByteArray), t.n = 0 ∧ e = .returned (.tuple #[.agg (B57 t), .string str, .bool false, .int .i64 1])
  | .wild => ∃ t : TKN, e = .returned (.tuple #[.agg (B57 t), .string ⟨#[]⟩, .bool false, .int .i64 2])
  | .ok t r => ∃ str : ByteArray, bytesOf str = r ∧ e = .returned (.tuple #[.agg (B57 t), .string str, .bool true, .int .i64 1])
/-- token's variables. -/
structure TB (w wc : World) (s : ByteArray) (m : Int) (t : TKN) (n : Int) (fine : Bool) : Prop where
  bel : Below w.heap.size w wc
  b0 : wc.heap[w.heap.size]? = some (.cells #[.string s] 9 (0, 0))
  b1 : wc.heap[w.heap.size + 1]? = some (.cells (B57 t) 57 (0, 0))
  b2 : wc.heap[w.heap.size + 1 + 1]? = some (.cells #[.int .u8 m] 5 (0, 0))
  b3 : wc.heap[w.heap.size + 1 + 1 + 1]? = some (.cells #[.func (.func 107) #[] #[.pointer (some ⟨w.heap.size, 0, none⟩)]] 161 (0, 0))
  b4 : wc.heap[w.heap.size + 1 + 1 + 1 + 1]? = some (.cells #[.int .u64 n] 22 (0, 0))
  b5 : wc.heap[w.heap.size + 1 + 1 + 1 + 1 + 1]? = some (.cells #[.bool fine] 4 (0, 0))
section
variable {w wc : World} {s : ByteArray} {m : Int} {t : TKN} {n : Int} {fine : Bool}
theorem set_far (W : World) (g j k : Nat) (v : Value) (h : k ≠ g) : (W.setCell ⟨g, j, none⟩ v).heap[k]? = W.heap[k]? := Below.heap_setCell W _ _ k h
theorem TB.setB (h : TB w wc s m t n fine) (s2 : ByteArray) : TB w (wc.setCell ⟨w.heap.size, 0, none⟩ (.string s2)) s2 m t n fine :=
  ⟨below_set h.bel (Nat.le_refl _), blk_put h.b0 0 _ rfl, (set_far _ _ _ _ _ (by omega)).trans h.b1, (set_far _ _ _ _ _ (by omega)).trans h.b2, (set_far _ _ _ _ _ (by omega)).trans h.b3, (set_far _ _ _ _ _ (by omega)).trans h.b4, (set_far _ _ _ _ _ (by omega)).trans h.b5⟩
theorem TB.setN (h : TB w wc s m t n fine) (n2 : Int) : TB w (wc.setCell ⟨w.heap.size + 1 + 1 + 1 + 1, 0, none⟩ (.int .u64 n2)) s m t n2 fine :=
  ⟨below_set h.bel (by omega), (set_far _ _ _ _ _ (by omega)).trans h.b0, (set_far _ _ _ _ _ (by omega)).trans h.b1, (set_far _ _ _ _ _ (by omega)).trans h.b2, (set_far _ _ _ _ _ (by omega)).trans h.b3, blk_put h.b4 0 _ rfl, (set_far _ _ _ _ _ (by omega)).trans h.b5⟩
theorem TB.setF (h : TB w wc s m t n fine) (f2 : Bool) : TB w (wc.setCell ⟨w.heap.size + 1 + 1 + 1 + 1 + 1, 0, none⟩ (.bool f2)) s m t n f2 :=
  ⟨below_set h.bel (by omega), (set_far _ _ _ _ _ (by omega)).trans h.b0, (set_far _ _ _ _ _ (by omega)).trans h.b1, (set_far _ _ _ _ _ (by omega)).trans h.b2, (set_far _ _ _ _ _ (by omega)).trans h.b3, (set_far _ _ _ _ _ (by omega)).trans h.b4, blk_put h.b5 0 _ rfl⟩
theorem TB.setT (h : TB w wc s m t n fine) (j : Nat) (v : Value) (t2 : TKN) (e : (B57 t).setIfInBounds j v = B57 t2) : TB w (wc.setCell ⟨w.heap.size + 1, j, none⟩ v) s m t2 n fine :=
  ⟨below_set h.bel (by omega), (set_far _ _ _ _ _ (by omega)).trans h.b0, blk_put h.b1 j _ e, (set_far _ _ _ _ _ (by omega)).trans h.b2, (set_far _ _ _ _ _ (by omega)).trans h.b3, (set_far _ _ _ _ _ (by omega)).trans h.b4, (set_far _ _ _ _ _ (by omega)).trans h.b5⟩
theorem TB.drew (h : TB w wc s m t n fine) : TB w wc.drew s m t n fine := ⟨below_drew h.bel, h.b0, h.b1, h.b2, h.b3, h.b4, h.b5⟩
end
/-- What sized leaves. -/
def SzR (k : Nat) (w : World) (s : ByteArray) (m : Int) (t : TKN) (e : Ending) (w' : World) : Prop :=
  e = .returned (.tuple #[]) ∧ match sizedN k (bytesOf s) with
  | none => TB w w' s m t 0 false
  | some (n, r) => ∃ s2, bytesOf s2 = r ∧ TB w w' s2 m t n true

set_option maxHeartbeats 4000000 in
set_option maxRecDepth 100000 in
theorem sized_any {w wc : World} {s : ByteArray} {m : Int} {t : TKN} {n : Int} {fine : Bool} (h : TB w wc s m t n fine) (hs : s.size ≤ 1000000000) (f : Int) (k : Nat)
    (hk : (m = f ∧ k = 1) ∨ (m = f + 1 ∧ k = 2) ∨ (m = f + 2 ∧ k = 4)) (hf : f = 204 ∨ f = 208 ∨ f = 212 ∨ f = 216) :
    Calls Try.prog 109 #[.int .u8 f, .pointer (some ⟨w.heap.size + 1 + 1 + 1, 0, none⟩), .pointer (some ⟨w.heap.size + 1 + 1, 0, none⟩), .pointer (some ⟨w.heap.size + 1 + 1 + 1 + 1, 0, none⟩), .pointer (some ⟨w.heap.size + 1 + 1 + 1 + 1 + 1, 0, none⟩)] wc fun e w' => SzR k w s m t e w' := by
  have H := Aside0.mk h
  have HT := Aside0.mk (take_any w.heap.size k s wc h.b0 (by omega) hs)
  have c2 := blk_cell h.b2 0
  have c3 := blk_cell h.b3 0
  have c4 := blk_cell h.b4 0
  have f4 := blk_frozen h.b4 0
  have c5 := blk_cell h.b5 0
  have f5 := blk_frozen h.b5 0
  clear h
  rcases hf with rfl | rfl | rfl | rfl <;> rcases hk with ⟨rfl, rfl⟩ | ⟨rfl, rfl⟩ | ⟨rfl, rfl⟩
  all_goals
    go_enter Try.func109, Try.ntmps109
    go_wp2_with fail
    refine HT.out.mono ?_
    rintro e w1 hr
    cases hq : sizedN _ (bytesOf s) with
    | none =>
      unfold TakeR at hr
      rw [hq] at hr
      obtain ⟨rfl, rfl⟩ := hr
      have HQ := Aside0.mk hq
      clear hq HT
      go_wp2_with fail
      go_end0
      refine ⟨rfl, ?_⟩
      rw [HQ.out]
      exact (H.out.setN 0).setF false
    | some p =>
      obtain ⟨nn, r⟩ := p
      unfold TakeR at hr
      rw [hq] at hr
      obtain ⟨rfl, s2, hs2, rfl⟩ := hr
      have HQ := Aside0.mk (And.intro hq hs2)
      have HB := Aside0.mk (H.out.setB s2)
      have d4 := blk_cell HB.out.b4 0
      have g4 := blk_frozen HB.out.b4 0
      have d5 := blk_cell HB.out.b5 0
      have g5 := blk_frozen HB.out.b5 0
      clear hq hs2 HT c2 c3 c4 f4 c5 f5
      go_wp2_with fail
      go_end0
      refine ⟨rfl, ?_⟩
      rw [HQ.out.1]
      exact ⟨s2, HQ.out.2, (HB.out.setN nn).setF true⟩
end Go.Proofs.Ytjnookhdiolhgaa
