/- Replies: the texts that spec.write puts together. (seat r3.ZD) Replies on the wire: what spec.write's ways share. (seat r3.ZD; printed by gen_r3.py) Replies on the wire: spec.write, way s. (seat r3.ZD; printed by gen_r3.py) Replies on the wire: spec.write, way n. (seat r3.ZD; printed by gen_r3.py) Replies on the wire: spec.write, way l. (seat r3.ZD; printed by gen_r3.py) Replies on the wire: spec.write, way d. (seat r3.ZD; printed by gen_r3.py) Replies on the wire: spec.write, way i. (seat r3.ZD; printed by gen_r3.py) Replies on the wire: spec.write, way f. (seat r3.ZD; printed by gen_r3.py) Replies on the wire: spec.write, way b. (seat r3.ZD; printed by gen_r3.py) Replies on the wire: spec.write, way p. (seat r3.ZD; printed by gen_r3.py) Replies on the wire: spec.write, way q. (seat r3.ZD; printed by gen_r3.py) Replies on the wire: spec.write, way r. (seat r3.ZD; printed by gen_r3.py) -/
import Derived.Test.YtkogipaaioibaaaGreatDoorWa
import Derived.Test.YtkogipaaioibaaaGreatDoorFc
import Derived.Test.YtkogipaaioibaaaGreatDoorPk
import Derived.Test.YtkogipaaioibaaaGreatDoorPspecinLine
import Derived.Test.YtkogipaaioibaaaGreatDoorPspecdigits
import Derived.WalkLawsBesides
import Derived.Test.YtkogipaaioibaaaGreatDoorShelf
import Derived.Lib.QuietBelow
import Derived.Deep.LoopGhost
namespace Go.Proofs.YtkogipaaioibaaaGreatDoor
set_option linter.unusedVariables false
set_option linter.unusedSimpArgs false
open Go.RowKit Go.Proofs.YtkogipaaioibaaaGreatDoorW.PrintWords
theorem bt_mem {s : ByteArray} {x : Int} (h : x ∈ bytesOf s) : ∃ j : Nat, j < s.size ∧ bt s j = x := by
  unfold bytesOf at h
  rw [List.mem_map] at h
  obtain ⟨b, hb, rfl⟩ := h
  obtain ⟨j, hj, he⟩ := List.getElem_of_mem hb
  have hs : j < s.size := by simpa using hj
  refine ⟨j, hs, ?_⟩
  unfold bt
  rw [Int.toNat_natCast, dif_pos hs]
  have : s[j] = b := by rw [← he]; rfl
  rw [this]
theorem inLine_loop (s : ByteArray) (hz : s.size ≤ 1000000) : ∀ (n i : Nat), i ≤ s.size → s.size + 1 ≤ n + i → ∃ r, PAll.spec_inLine.l0 n s (s.size : Int) i = some r ∧ (r = true → ∀ j : Nat, i ≤ j → j < s.size → bt s j ≠ 10)
  | 0, i, h1, h2 => by omega
  | n + 1, i, h1, h2 => by
    unfold PAll.spec_inLine.l0
    by_cases hi : i < s.size
    · rw [if_pos (by omega), if_pos (by omega), if_pos (by omega)]
      by_cases h13 : bt s i = 13
      · exact ⟨false, by rw [if_pos h13], by simp⟩
      · rw [if_neg h13]
        by_cases h10 : bt s i = 10
        · exact ⟨false, by rw [if_pos h10], by simp⟩
        · rw [if_neg h10]
          obtain ⟨r, hr, hq⟩ := inLine_loop s hz n (i + 1) (by omega) (by omega)
          refine ⟨r, ?_, fun h j hj hj2 => ?_⟩
          · rw [IntWalk.wrap64_in _ ⟨by omega, by omega⟩]
            exact hr
          · by_cases hji : j = i
            · subst hji; exact h10
            · exact hq h j (by omega) hj2
    · refine ⟨true, by rw [if_neg (by omega)], fun _ j hj hj2 => by omega⟩
theorem inLine_f (s : ByteArray) (hz : s.size ≤ 1000000) : ∃ r, PAll.spec_inLine.f (s.size + 1) s = some r ∧ (r = true → (10 : Int) ∉ bytesOf s) := by
  obtain ⟨r, hr, hq⟩ := inLine_loop s hz (s.size + 1) 0 (by omega) (by omega)
  refine ⟨r, hr, fun h hm => ?_⟩
  obtain ⟨j, hj, he⟩ := bt_mem hm
  exact hq h j (by omega) hj he
theorem digits_loop (s : ByteArray) (hz : s.size ≤ 1000000) : ∀ (n i : Nat), i ≤ s.size → s.size + 1 ≤ n + i → ∃ r, PAll.spec_digits.l0 n s (s.size : Int) i = some r ∧ (r = true → ∀ j : Nat, i ≤ j → j < s.size → 48 ≤ bt s j ∧ bt s j ≤ 57)
  | 0, i, h1, h2 => by omega
  | n + 1, i, h1, h2 => by
    unfold PAll.spec_digits.l0
    by_cases hi : i < s.size
    · rw [if_pos (by omega), if_pos (by omega), if_pos (by omega)]
      by_cases h13 : bt s i < 48
      · exact ⟨false, by rw [if_pos h13], by simp⟩
      · rw [if_neg h13]
        by_cases h10 : bt s i > 57
        · exact ⟨false, by rw [if_pos h10], by simp⟩
        · rw [if_neg h10]
          obtain ⟨r, hr, hq⟩ := digits_loop s hz n (i + 1) (by omega) (by omega)
          refine ⟨r, ?_, fun h j hj hj2 => ?_⟩
          · rw [IntWalk.wrap64_in _ ⟨by omega, by omega⟩]
            exact hr
          · by_cases hji : j = i
            · subst hji; omega
            · exact hq h j (by omega) hj2
    · rw [if_neg (by omega)]
      by_cases h0 : s.toList = ([] : List UInt8)
      · exact ⟨false, by rw [if_pos h0], by simp⟩
      · rw [if_neg h0]
        by_cases h1 : s.toList = ([48] : List UInt8)
        · exact ⟨true, by rw [if_pos h1], fun _ j hj hj2 => by omega⟩
        · rw [if_neg h1]
          have hpos : 0 < s.size := by
            rcases Nat.eq_zero_or_pos s.size with h | h
            · exact absurd (by rw [ByteArray.toList_eq]; exact List.eq_nil_of_length_eq_zero (by simpa using h)) h0
            · exact h
          exact ⟨_, by rw [if_pos (by omega)], fun _ j hj hj2 => by omega⟩
theorem bt_ext1 (s : ByteArray) (j : Nat) (hj : j + 1 < s.size) : bt (s.extract 1 s.size) j = bt s ((j + 1 : Nat) : Int) := by
  unfold bt
  rw [Int.toNat_natCast, Int.toNat_natCast, dif_pos (by rw [ByteArray.size_extract]; omega), dif_pos hj]
  rw [ByteArray.getElem_extract]
  congr 3
  omega
theorem digits_j1 (s : ByteArray) (hz : s.size ≤ 1000000) (n : Nat) (hn : s.size + 2 ≤ n) : ∃ r, PAll.spec_digits.j1 n s = some r ∧ (r = true → ∀ j : Nat, j < s.size → 48 ≤ bt s j ∧ bt s j ≤ 57) := by
  obtain ⟨m, rfl⟩ : ∃ m, n = m + 1 := ⟨n - 1, by omega⟩
  obtain ⟨r, hr, hq⟩ := digits_loop s hz m 0 (by omega) (by omega)
  refine ⟨r, ?_, fun h j hj => hq h j (by omega) hj⟩
  unfold PAll.spec_digits.j1
  exact hr
theorem j0_f (k : Nat) (x : ByteArray) : PAll.spec_digits.j0 (k + 1) x false = PAll.spec_digits.j1 k x := by
  rw [PAll.spec_digits.j0]
  rfl
theorem j0_t (k : Nat) (x : ByteArray) : PAll.spec_digits.j0 (k + 1) x true = (if 1 ≤ (x.size : Int) then (if (x.extract 1 x.size).toList = ([48] : List UInt8) then (some false) else (PAll.spec_digits.j1 k (x.extract 1 x.size))) else (none)) := by
  rw [PAll.spec_digits.j0]
  rfl
theorem digits_f (s : ByteArray) (hz : s.size ≤ 1000000) : ∃ r, PAll.spec_digits.f (s.size + 3) s = some r ∧ (r = true → (10 : Int) ∉ bytesOf s) := by
  have hno : ∀ r : Bool, (r = true → ∀ j : Nat, j < s.size → 48 ≤ bt s j ∧ bt s j ≤ 57) → (r = true → (10 : Int) ∉ bytesOf s) := fun r h hr hm => by
    obtain ⟨j, hj, he⟩ := bt_mem hm
    have := h hr j hj
    omega
  obtain ⟨r, hr, hq⟩ := digits_j1 s hz (s.size + 2) (by omega)
  unfold PAll.spec_digits.f
  by_cases h0 : s.toList = ([] : List UInt8)
  · rw [if_pos h0]
    refine ⟨r, ?_, hno r hq⟩
    exact (j0_f (s.size + 2) s).trans hr
  · rw [if_neg h0]
    have hpos : 0 < s.size := by
      rcases Nat.eq_zero_or_pos s.size with h | h
      · exact absurd (by rw [ByteArray.toList_eq]; exact List.eq_nil_of_length_eq_zero (by simpa using h)) h0
      · exact h
    rw [if_pos (by omega)]
    by_cases h45 : bt s 0 = 45
    · have e : (bt s 0 == 45) = true := by simp [h45]
      rw [e, show s.size + 3 = (s.size + 2) + 1 from rfl, j0_t, if_pos (by omega)]
      by_cases h48 : (s.extract 1 s.size).toList = ([48] : List UInt8)
      · exact ⟨false, by rw [if_pos h48], by simp⟩
      · rw [if_neg h48]
        have hsz : (s.extract 1 s.size).size = s.size - 1 := by rw [ByteArray.size_extract]; omega
        obtain ⟨r2, hr2, hq2⟩ := digits_j1 (s.extract 1 s.size) (by omega) (s.size + 2) (by omega)
        refine ⟨r2, hr2, fun h hm => ?_⟩
        obtain ⟨j, hj, he⟩ := bt_mem hm
        match j, hj, he with
        | 0, _, he => rw [show ((0 : Nat) : Int) = 0 from rfl, h45] at he; omega
        | j + 1, hj, he =>
          have := hq2 h j (by omega)
          rw [bt_ext1 s j hj, he] at this
          omega
    · have e : (bt s 0 == 45) = false := by simp [h45]
      rw [e]
      exact ⟨r, (j0_f (s.size + 2) s).trans hr, hno r hq⟩
/-- A text that may stand in a line. -/
def LnT (t : ByteArray) : Prop := (10 : Int) ∉ bytesOf t ∧ t.size ≤ 200
theorem itoa_ln (n : Int) (h0 : -9223372036854775808 ≤ n) (h1 : n ≤ 9223372036854775807) : LnT ⟨(Lib.itoa n).toArray⟩ := by
  have hd : ∀ m : Nat, m ≤ 9223372036854775808 → (Lib.decDigits m).length ≤ 20 := fun m hm => dec_len 19 m (by omega)
  have h10 : ∀ m : Nat, ∀ b ∈ Lib.decDigits m, (b.toNat : Int) ≠ 10 := fun m b hb => by have := dec_dig m b hb; omega
  unfold LnT bytesOf Lib.itoa
  split
  · refine ⟨?_, ?_⟩
    · simp only [List.map_cons, List.mem_cons, List.mem_map, not_or]
      refine ⟨by decide, ?_⟩
      rintro ⟨b, hb, he⟩
      exact h10 _ b hb he
    · have := hd n.natAbs (by omega)
      show (List.toArray _).size ≤ 200
      simp; omega
  · refine ⟨?_, ?_⟩
    · simp only [List.mem_map]
      rintro ⟨b, hb, he⟩
      exact h10 _ b hb he
    · have := hd n.toNat (by omega)
      show (List.toArray _).size ≤ 200
      simp; omega
theorem itoa_dec (n : Nat) : (⟨(Lib.itoa n).toArray⟩ : ByteArray) = dec n := by
  unfold Lib.itoa dec
  rw [if_neg (by omega), Int.toNat_natCast]
/-- What floatText answers. -/
def LnR (w : World) (e : Ending) (w' : World) : Prop := ∃ t, e = .returned (.string t) ∧ LnT t ∧ Below w.heap.size w w'
theorem NoNl.ln {t : ByteArray} (h : NoNl (bytesOf t)) (hs : t.size ≤ 100) : LnT t := ⟨fun hm => (h 10 hm).1 rfl, by omega⟩
set_option maxHeartbeats 2000000 in
set_option maxRecDepth 100000 in
theorem floatText_any (f : Int) (h0 : 0 ≤ f) (h1 : f < 18446744073709551616) (w : World) (ht : Tb w) :
    Calls Tryz.prog 44 #[.int .u64 f] w fun e w' => LnR w e w' := by
  have hfb := fun w => run_frombits f w
  obtain ⟨b, hb⟩ : ∃ b, f.toNat = b := ⟨_, rfl⟩
  rw [hb] at hfb
  have HF := Lib.hid (fun w ht => FormatFloat_any b (by omega) w ht)
  have HT := Lib.hid ht
  clear ht hb h0 h1
  go_enter Tryz.func44, Tryz.ntmps44
  go_wp2_with (refine (HF.out _ HT.out).mono ?_; rintro e w1 ⟨t, rfl, q1, q2, q3⟩; have HR := Lib.hid (And.intro (NoNl.ln q1 q2) q3); clear q1 q2 q3)
  all_goals
    go_ret
    first
      | exact ⟨_, rfl, HR.out.1, HR.out.2⟩
      | exact ⟨_, rfl, ⟨by decide, by decide⟩, Below.refl _ _⟩
end Go.Proofs.YtkogipaaioibaaaGreatDoor

namespace Go.Proofs.YtkogipaaioibaaaGreatDoor
set_option linter.unusedVariables false
set_option linter.unusedSimpArgs false
open Go.RowKit Go.Proofs.YtkogipaaioibaaaGreatDoorW.PrintWords
theorem below_growS {B : Nat} {w w1 : World} (h : Below B w w1) (hB : B ≤ w1.heap.size) (os : Array Obj) : Below B w (Sort.grow w1 os) :=
  ⟨h.os, h.tape, h.output, Nat.le_trans h.size (by unfold Sort.grow; simp), fun i hi => by
    rw [← h.block i hi]
    unfold Sort.grow
    simp only [Array.getElem?_append_left (Nat.lt_of_lt_of_le hi hB)]⟩
theorem itoa_any (n : Int) (h0 : -9223372036854775808 ≤ n) (h1 : n ≤ 9223372036854775807) (w : World) (ht : Tb w) : Calls Tryz.prog 42 #[.int .i64 n] w fun e w' => e = .returned (.string ⟨(Lib.itoa n).toArray⟩) ∧ Below w.heap.size w w' := by
  refine (Tryz.strconv_Itoa n h0 h1 w (ht.p10 w (Below.refl _ _))).mono ?_
  rintro e w' ⟨rfl, k, os, rfl⟩
  refine ⟨rfl, below_growS (pw_below_drewN (Below.refl _ _) k) (Nat.le_refl _) os⟩
theorem fmtInt_any (n : Int) (h0 : -9223372036854775808 ≤ n) (h1 : n ≤ 9223372036854775807) (w : World) (ht : Tb w) : Calls Tryz.prog 43 #[.int .i64 n, .int .i64 10] w fun e w' => e = .returned (.string ⟨(Lib.itoa n).toArray⟩) ∧ Below w.heap.size w w' := by
  refine (Tryz.strconv_FormatInt_10 n h0 h1 w (ht.p10 w (Below.refl _ _))).mono ?_
  rintro e w' ⟨rfl, k, os, rfl⟩
  refine ⟨rfl, below_growS (pw_below_drewN (Below.refl _ _) k) (Nat.le_refl _) os⟩
theorem bytesOf_append (a b : ByteArray) : bytesOf (a ++ b) = bytesOf a ++ bytesOf b := by
  unfold bytesOf
  rw [ByteArray.data_append, Array.toList_append, List.map_append]
theorem cv_lit (W W2 : World) (a : Int) (hb : Below (W.alloc (.cells #[.int .u8 a] 5)).heap.size (W.alloc (.cells #[.int .u8 a] 5)) W2) :
    (convert 42 9 (.slice (some ⟨W.heap.size, 0, none⟩) 1 1)).run Tryz.prog W2 = .ok (.string (strOfNums [a])) W2 := by
  have h := own_lit W W.heap.size 5 .u8 [a] (Nat.le_refl _) (by simp)
  exact own_string (P := Tryz.prog) Tryz.underlying42 Tryz.underlying5 Tryz.underlying9 (pw_own_below h hb)
theorem bytesOf_one (a : Int) (h0 : 0 ≤ a) (h1 : a < 256) : bytesOf (strOfNums [a]) = [a] := by
  unfold bytesOf strOfNums
  simp only [List.map_cons, List.map_nil, List.cons.injEq, and_true]
  show ((UInt8.ofNat a.toNat).toNat : Int) = a
  rw [UInt8.toNat_ofNat']
  omega
theorem AB.below {w wc w2 : World} {lb : Nat} {l k i f : Int} {s : ByteArray} {A : Option Addr} {n c : Nat} (h : AB w wc lb l k i f s A n c) (hb : Below wc.heap.size wc w2) : AB w w2 lb l k i f s A n c :=
  ⟨(hb.block _ (blk_lt h.box)).trans h.box, (hb.block _ (blk_lt h.left)).trans h.left, grown_trans' h.gr ⟨hb.os, hb.tape, hb.output, hb.size, fun i hi _ => hb.block i hi⟩⟩
theorem AB.tb {w0 w wc : World} {lb : Nat} {l k i f : Int} {s : ByteArray} {A : Option Addr} {n c : Nat} (h : AB w wc lb l k i f s A n c) (ht : Tb w0) (hw : Below w0.heap.size w0 w) (h0 : w0.heap.size ≤ lb) : Tb wc :=
  ht.below (hw.grown h.gr hw.size (by rintro q hq; injection hq with hq; omega))
/-- What spec.write tells. -/
def WrR (x : RP) (w : World) (lb : Nat) (l : Int) (e : Ending) (w' : World) : Prop :=
  ∃ (t : ByteArray) (ok : Bool) (l' : Int), e = .returned (.tuple #[.string t, .bool ok]) ∧ w'.heap[lb]? = some (.cells #[.int .i64 l'] 3 (0, 0)) ∧ (ok = true → wire x (bytesOf t) ∧ 0 ≤ l' ∧ l' ≤ l) ∧ w.grownBy w' (some lb)
theorem WrR.mk {k i f : Int} {s : ByteArray} {kids : List RP} {w w1 w2 : World} {lb n c : Nat} {l l' : Int} {A : Option Addr} {t : ByteArray} {ok : Bool} (hv : AB w w1 lb l' k i f s A n c) (hb : Below w1.heap.size w1 w2) (hP : ok = true → wire ⟨k, i, f, s, kids⟩ (bytesOf t) ∧ 0 ≤ l' ∧ l' ≤ l) :
    WrR ⟨k, i, f, s, kids⟩ w lb l (.returned (.tuple #[.string t, .bool ok])) w2 :=
  ⟨t, ok, l', rfl, (hv.below hb).left, hP, (hv.below hb).gr⟩
theorem wire_line {k i f : Int} {s : ByteArray} {kids : List RP} (t : ByteArray) (hk : lineK k) (hr : 0 ≤ k ∧ k < 256) (ht : LnT t) : wire ⟨k, i, f, s, kids⟩ (bytesOf ((strOfNums [k] ++ t) ++ ⟨#[13, 10]⟩)) := by
  rw [wire]
  refine Or.inl ⟨hk, bytesOf t, ?_, ht.1, by rw [bytesOf_length]; exact ht.2⟩
  rw [bytesOf_append, bytesOf_append, bytesOf_one k hr.1 hr.2, List.append_assoc]
  rfl
theorem wire_blob {k i f : Int} {s : ByteArray} {kids : List RP} (hk : blobK k) (hr : 0 ≤ k ∧ k < 256) (hs : s.size ≤ 200) : wire ⟨k, i, f, s, kids⟩ (bytesOf ((((strOfNums [k] ++ ⟨(Lib.itoa s.size).toArray⟩) ++ ⟨#[13, 10]⟩) ++ s) ++ ⟨#[13, 10]⟩)) := by
  rw [wire]
  refine Or.inr (Or.inl ⟨hk, hs, ?_⟩)
  rw [bytesOf_append, bytesOf_append, bytesOf_append, bytesOf_append, bytesOf_one k hr.1 hr.2, itoa_dec, bytesOf_dec]
  simp only [List.append_assoc]
  rfl
theorem wire_null {k f : Int} {s : ByteArray} {kids : List RP} (hk : k = 36 ∨ k = 42) (t : ByteArray) (ht : bytesOf t = [k, 45, 49, 13, 10]) : wire ⟨k, -1, f, s, kids⟩ (bytesOf t) := by
  rw [wire]
  exact Or.inr (Or.inr (Or.inl ⟨hk, rfl, ht⟩))
/-- The head of a reply with n parts. -/
def hdA (k : Int) (m : Int) : ByteArray := (strOfNums [k] ++ ⟨(Lib.itoa m).toArray⟩) ++ ⟨#[13, 10]⟩
theorem wire_agg {k i f : Int} {s : ByteArray} {kids : List RP} {m : Int} {a : List Int} (t : ByteArray) (hk : aggK k) (hr : 0 ≤ k ∧ k < 256) (hn : kids.length ≤ 1000) (h37 : k = 37 → kids.length % 2 = 0) (h124 : k = 124 → kids.length % 2 = 1) (hm : m = (aggN k kids.length : Nat)) (ht : bytesOf t = bytesOf (hdA k m) ++ a) (hw : wires kids a) : wire ⟨k, i, f, s, kids⟩ (bytesOf t) := by
  rw [wire]
  refine Or.inr (Or.inr (Or.inr ⟨hk, hn, h37, h124, a, ?_, hw⟩))
  rw [ht, hm]
  unfold hdA
  rw [bytesOf_append, bytesOf_append, bytesOf_one k hr.1 hr.2, itoa_dec, bytesOf_dec]
  simp only [List.append_assoc]
  rfl
/-- The call's own box, and one from the count. -/
theorem wr_begin {w : World} {lb : Nat} {l k i f : Int} {s : ByteArray} {A : Option Addr} {n c : Nat} (hb : w.heap[lb]? = some (.cells #[.int .i64 l] 3 (0, 0))) :
    AB w ((w.setCell ⟨lb, 0, none⟩ (.int .i64 (l - 1))).alloc (.cells #[.int .i64 k, .int .i64 i, .int .u64 f, .string s, .slice A n c] 25)) lb (l - 1) k i f s A n c := by
  have h1 := blk_set hb 0 (.int .i64 (l - 1))
  refine ⟨?_, (Below.heap_alloc _ _ _ (blk_lt h1)).trans h1, grown_trans' (grown_set (World.grownBy.refl w _) 0 _) (World.grownBy_alloc _ _ _)⟩
  have := heap_alloc_new (w.setCell ⟨lb, 0, none⟩ (.int .i64 (l - 1))) (.cells #[.int .i64 k, .int .i64 i, .int .u64 f, .string s, .slice A n c] 25)
  simpa using this
end Go.Proofs.YtkogipaaioibaaaGreatDoor

namespace Go.Proofs.YtkogipaaioibaaaGreatDoor
set_option linter.unusedVariables false
set_option linter.unusedSimpArgs false
open Go.RowKit Go.Proofs.YtkogipaaioibaaaGreatDoorW.PrintWords
/-- spec.write's contract where at most N replies may yet lie within one another. -/
def WrSaid (N : Nat) : Prop :=
  ∀ (x : RP) (A : Option Addr) (c : Nat) (lb : Nat) (l d : Int) (w0 w : World),
    0 ≤ l → l ≤ 2000 → 0 ≤ d → d + N = 21 → x.f4.length ≤ c → short x → wfR x → nodes x ≤ 60 → Kd.C kR w0 A x.f4.length x.f4 → Below w0.heap.size w0 w → w0.heap.size ≤ lb → Tb w0 →
    w.heap[lb]? = some (.cells #[.int .i64 l] 3 (0, 0)) →
    Calls Tryz.prog 27 #[valR x A c, .int .i64 d, .pointer (some ⟨lb, 0, none⟩)] w fun e w' => WrR x w lb l e w'
/-- What the loop over the parts has written. -/
def Acc (k m : Int) (l : List RP) (t : ByteArray) : Prop := ∃ a, bytesOf t = bytesOf (hdA k m) ++ a ∧ wires l a
theorem Acc.start (k m : Int) : Acc k m [] (hdA k m) := ⟨[], by simp, by simp [wires]⟩
theorem Acc.next {k m : Int} {l : List RP} {j : Nat} {x : RP} {t u : ByteArray} (h : Acc k m (l.take j) t) (hj : l[j]? = some x) (hu : wire x (bytesOf u)) : Acc k m (l.take (j + 1)) (t ++ u) := by
  obtain ⟨a, h1, h2⟩ := h
  exact ⟨a ++ bytesOf u, by rw [bytesOf_append, h1, List.append_assoc], wires_snoc hj h2 hu⟩
theorem Acc.len {k m : Int} {l : List RP} {t : ByteArray} (h : Acc k m l t) (hn : nodesAll l ≤ 60) (hm0 : 0 ≤ m) (hm : m ≤ 1000) : t.size ≤ 13000 := by
  obtain ⟨a, h1, h2⟩ := h
  have h3 := wires_len 60 l a (fun x _ r hr => wire_len (nodes x) x (Nat.le_refl _) r hr) h2
  have h4 : (hdA k m).size ≤ 300 := by
    have h5 := itoa_ln m (by omega) (by omega)
    have h6 := h5.2
    unfold hdA
    rw [ByteArray.size_append, ByteArray.size_append]
    have : (strOfNums [k]).size = 1 := rfl
    have : (⟨#[13, 10]⟩ : ByteArray).size = 2 := rfl
    omega
  rw [← bytesOf_length, h1, List.length_append, bytesOf_length]
  omega
end Go.Proofs.YtkogipaaioibaaaGreatDoor

namespace Go.Proofs.YtkogipaaioibaaaGreatDoor
set_option linter.unusedVariables false
set_option linter.unusedSimpArgs false
open Go.RowKit Go.Proofs.YtkogipaaioibaaaGreatDoorW.PrintWords
set_option maxHeartbeats 4000000 in
set_option maxRecDepth 100000 in
theorem wr_95 (i f : Int) (s : ByteArray) (kids : List RP) (A : Option Addr) (c lb : Nat) (l d : Int) (w : World) (hl0 : 1 ≤ l) (hl1 : l ≤ 2000) (hd0 : 0 ≤ d) (hd1 : d ≤ 20) (hn : kids.length ≤ 1000) (hs : s.size ≤ 200) (hb : w.heap[lb]? = some (.cells #[.int .i64 l] 3 (0, 0)))  :
    Calls Tryz.prog 27 #[.agg #[.int .i64 95, .int .i64 i, .int .u64 f, .string s, .slice A kids.length c], .int .i64 d, .pointer (some ⟨lb, 0, none⟩)] w fun e w' => WrR ⟨95, i, f, s, kids⟩ w lb l e w' := by
  have hlt := blk_lt hb
  have c0 : w.cell? ⟨lb, 0, none⟩ = some (.int .i64 l) := blk_cell hb 0
  have f0 : w.frozen? ⟨lb, 0, none⟩ = false := blk_frozen hb 0
  have HVB := Lib.hid (wr_begin (k := 95) (i := i) (f := f) (s := s) (A := A) (n := kids.length) (c := c) hb)
  have HBA := Lib.hid (fun W => bare_any (95) i f s A kids.length c W (by omega))
  have HL := Lib.hid (And.intro hl0 hl1)
  clear hb
  go_enter Tryz.func27, Tryz.ntmps27
  go_wp2_with fail
  refine (HBA.out _).mono ?_
  rintro e w1 ⟨b, rfl, hbel⟩
  have hv := HVB.out.below hbel
  have HV := Lib.hid hv
  have hsz : w.heap.size < w1.heap.size := blk_lt hv.box
  obtain ⟨b0, b1, b2, b3, b4⟩ := box5 hv.box
  have hcv := fun (W : World) => cv_lit W (W.alloc (.cells #[.int .u8 95] 5)) (95) (Below.refl _ _)
  have hs1 : (strOfNums [95]).size = 1 := rfl
  clear hv hbel HVB HBA c0 f0
  cases b
  · go_wp2_with fail
    go_ret2
    exact WrR.mk HV.out (Below.refl _ _) (by simp)
  · go_wp2_with fail
    go_ret2
    exact WrR.mk HV.out (by repeat (first | (with_reducible exact Below.refl _ _) | (with_reducible apply below_alloc) | (with_reducible apply pw_below_drewN) | (with_reducible apply below_drew))) (fun h => ⟨wire_line ⟨#[]⟩ (Or.inr (Or.inr (Or.inr (Or.inl rfl)))) ⟨by decide, by decide⟩ ⟨by decide, by decide⟩, by have := HL.out; omega, by omega⟩)
set_option maxHeartbeats 4000000 in
set_option maxRecDepth 100000 in
theorem wr_36n (f : Int) (s : ByteArray) (kids : List RP) (A : Option Addr) (c lb : Nat) (l d : Int) (w : World) (hl0 : 1 ≤ l) (hl1 : l ≤ 2000) (hd0 : 0 ≤ d) (hd1 : d ≤ 20) (hn : kids.length ≤ 1000) (hs : s.size ≤ 200) (hb : w.heap[lb]? = some (.cells #[.int .i64 l] 3 (0, 0)))  :
    Calls Tryz.prog 27 #[.agg #[.int .i64 36, .int .i64 (-1), .int .u64 f, .string s, .slice A kids.length c], .int .i64 d, .pointer (some ⟨lb, 0, none⟩)] w fun e w' => WrR ⟨36, -1, f, s, kids⟩ w lb l e w' := by
  have hlt := blk_lt hb
  have c0 : w.cell? ⟨lb, 0, none⟩ = some (.int .i64 l) := blk_cell hb 0
  have f0 : w.frozen? ⟨lb, 0, none⟩ = false := blk_frozen hb 0
  have HVB := Lib.hid (wr_begin (k := 36) (i := -1) (f := f) (s := s) (A := A) (n := kids.length) (c := c) hb)
  have HBA := Lib.hid (fun W => bare_any (36) (-1) f s A kids.length c W (by omega))
  have HL := Lib.hid (And.intro hl0 hl1)
  clear hb
  go_enter Tryz.func27, Tryz.ntmps27
  go_wp2_with fail
  refine (HBA.out _).mono ?_
  rintro e w1 ⟨b, rfl, hbel⟩
  have hv := HVB.out.below hbel
  have HV := Lib.hid hv
  have hsz : w.heap.size < w1.heap.size := blk_lt hv.box
  obtain ⟨b0, b1, b2, b3, b4⟩ := box5 hv.box
  have hcv := fun (W : World) => cv_lit W (W.alloc (.cells #[.int .u8 36] 5)) (36) (Below.refl _ _)
  have hs1 : (strOfNums [36]).size = 1 := rfl
  clear hv hbel HVB HBA c0 f0
  cases b
  · go_wp2_with fail
    go_ret2
    exact WrR.mk HV.out (Below.refl _ _) (by simp)
  · go_wp2_with fail
    go_ret2
    exact WrR.mk HV.out (by repeat (first | (with_reducible exact Below.refl _ _) | (with_reducible apply below_alloc) | (with_reducible apply pw_below_drewN) | (with_reducible apply below_drew))) (fun h => ⟨wire_null (by decide) ⟨#[36, 45, 49, 13, 10]⟩ rfl, by have := HL.out; omega, by omega⟩)
set_option maxHeartbeats 4000000 in
set_option maxRecDepth 100000 in
theorem wr_42n (f : Int) (s : ByteArray) (kids : List RP) (A : Option Addr) (c lb : Nat) (l d : Int) (w : World) (hl0 : 1 ≤ l) (hl1 : l ≤ 2000) (hd0 : 0 ≤ d) (hd1 : d ≤ 20) (hn : kids.length ≤ 1000) (hs : s.size ≤ 200) (hb : w.heap[lb]? = some (.cells #[.int .i64 l] 3 (0, 0)))  :
    Calls Tryz.prog 27 #[.agg #[.int .i64 42, .int .i64 (-1), .int .u64 f, .string s, .slice A kids.length c], .int .i64 d, .pointer (some ⟨lb, 0, none⟩)] w fun e w' => WrR ⟨42, -1, f, s, kids⟩ w lb l e w' := by
  have hlt := blk_lt hb
  have c0 : w.cell? ⟨lb, 0, none⟩ = some (.int .i64 l) := blk_cell hb 0
  have f0 : w.frozen? ⟨lb, 0, none⟩ = false := blk_frozen hb 0
  have HVB := Lib.hid (wr_begin (k := 42) (i := -1) (f := f) (s := s) (A := A) (n := kids.length) (c := c) hb)
  have HBA := Lib.hid (fun W => bare_any (42) (-1) f s A kids.length c W (by omega))
  have HL := Lib.hid (And.intro hl0 hl1)
  clear hb
  go_enter Tryz.func27, Tryz.ntmps27
  go_wp2_with fail
  refine (HBA.out _).mono ?_
  rintro e w1 ⟨b, rfl, hbel⟩
  have hv := HVB.out.below hbel
  have HV := Lib.hid hv
  have hsz : w.heap.size < w1.heap.size := blk_lt hv.box
  obtain ⟨b0, b1, b2, b3, b4⟩ := box5 hv.box
  have hcv := fun (W : World) => cv_lit W (W.alloc (.cells #[.int .u8 42] 5)) (42) (Below.refl _ _)
  have hs1 : (strOfNums [42]).size = 1 := rfl
  clear hv hbel HVB HBA c0 f0
  cases b
  · go_wp2_with fail
    go_ret2
    exact WrR.mk HV.out (Below.refl _ _) (by simp)
  · go_wp2_with fail
    go_ret2
    exact WrR.mk HV.out (by repeat (first | (with_reducible exact Below.refl _ _) | (with_reducible apply below_alloc) | (with_reducible apply pw_below_drewN) | (with_reducible apply below_drew))) (fun h => ⟨wire_null (by decide) ⟨#[42, 45, 49, 13, 10]⟩ rfl, by have := HL.out; omega, by omega⟩)
end Go.Proofs.YtkogipaaioibaaaGreatDoor

namespace Go.Proofs.YtkogipaaioibaaaGreatDoor
set_option linter.unusedVariables false
set_option linter.unusedSimpArgs false
open Go.RowKit Go.Proofs.YtkogipaaioibaaaGreatDoorW.PrintWords
set_option maxHeartbeats 4000000 in
set_option maxRecDepth 100000 in
theorem wr_43 (i f : Int) (s : ByteArray) (kids : List RP) (A : Option Addr) (c lb : Nat) (l d : Int) (w : World) (hl0 : 1 ≤ l) (hl1 : l ≤ 2000) (hd0 : 0 ≤ d) (hd1 : d ≤ 20) (hn : kids.length ≤ 1000) (hs : s.size ≤ 200) (hb : w.heap[lb]? = some (.cells #[.int .i64 l] 3 (0, 0)))  :
    Calls Tryz.prog 27 #[.agg #[.int .i64 43, .int .i64 i, .int .u64 f, .string s, .slice A kids.length c], .int .i64 d, .pointer (some ⟨lb, 0, none⟩)] w fun e w' => WrR ⟨43, i, f, s, kids⟩ w lb l e w' := by
  have hlt := blk_lt hb
  have c0 : w.cell? ⟨lb, 0, none⟩ = some (.int .i64 l) := blk_cell hb 0
  have f0 : w.frozen? ⟨lb, 0, none⟩ = false := blk_frozen hb 0
  have HVB := Lib.hid (wr_begin (k := 43) (i := i) (f := f) (s := s) (A := A) (n := kids.length) (c := c) hb)
  have HBA := Lib.hid (fun W => bare_any (43) i f s A kids.length c W (by omega))
  have HL := Lib.hid (And.intro hl0 hl1)
  obtain ⟨r, hr, hq⟩ := inLine_f s (by omega)
  have HQ := Lib.hid (fun W => PAll.spec_inLine.calls (s.size + 1) s r W hr)
  have HR := Lib.hid hq
  have hq2 : ¬ 9223372036854775807 < (strOfNums [43]).size + s.size := by show ¬ 9223372036854775807 < 1 + s.size; omega
  have hq3 : ¬ 9223372036854775807 < (strOfNums [43]).size + s.size + 2 := by show ¬ 9223372036854775807 < 1 + s.size + 2; omega
  have hq1 : ¬ 9223372036854775807 < 1 + s.size := by omega
  have hq4 : ¬ 9223372036854775807 < 1 + s.size + 2 := by omega
  clear hr hq
  clear hb
  go_enter Tryz.func27, Tryz.ntmps27
  go_wp2_with fail
  refine (HBA.out _).mono ?_
  rintro e w1 ⟨b, rfl, hbel⟩
  have hv := HVB.out.below hbel
  have HV := Lib.hid hv
  have hsz : w.heap.size < w1.heap.size := blk_lt hv.box
  obtain ⟨b0, b1, b2, b3, b4⟩ := box5 hv.box
  have hcv := fun (W : World) => cv_lit W (W.alloc (.cells #[.int .u8 43] 5)) (43) (Below.refl _ _)
  have hs1 : (strOfNums [43]).size = 1 := rfl
  clear hv hbel HVB HBA c0 f0
  cases b
  · go_wp2_with fail
    go_ret2
    exact WrR.mk HV.out (Below.refl _ _) (by simp)
  · go_wp2_with fail
    go_quiet ((go_at_call 41; exact Calls.quiet_of ((HQ.out _).mono (fun _ _ ⟨he, hd⟩ => ⟨he, hd.out⟩))))
    go_wp2_with fail
    all_goals
      go_ret2
      exact WrR.mk HV.out (by repeat (first | (with_reducible exact Below.refl _ _) | (with_reducible apply below_alloc) | (with_reducible apply pw_below_drewN) | (with_reducible apply below_drew))) (fun h => ⟨wire_line s (Or.inl rfl) ⟨by decide, by decide⟩ ⟨HR.out h, hs⟩, by have := HL.out; omega, by omega⟩)
set_option maxHeartbeats 4000000 in
set_option maxRecDepth 100000 in
theorem wr_45 (i f : Int) (s : ByteArray) (kids : List RP) (A : Option Addr) (c lb : Nat) (l d : Int) (w : World) (hl0 : 1 ≤ l) (hl1 : l ≤ 2000) (hd0 : 0 ≤ d) (hd1 : d ≤ 20) (hn : kids.length ≤ 1000) (hs : s.size ≤ 200) (hb : w.heap[lb]? = some (.cells #[.int .i64 l] 3 (0, 0)))  :
    Calls Tryz.prog 27 #[.agg #[.int .i64 45, .int .i64 i, .int .u64 f, .string s, .slice A kids.length c], .int .i64 d, .pointer (some ⟨lb, 0, none⟩)] w fun e w' => WrR ⟨45, i, f, s, kids⟩ w lb l e w' := by
  have hlt := blk_lt hb
  have c0 : w.cell? ⟨lb, 0, none⟩ = some (.int .i64 l) := blk_cell hb 0
  have f0 : w.frozen? ⟨lb, 0, none⟩ = false := blk_frozen hb 0
  have HVB := Lib.hid (wr_begin (k := 45) (i := i) (f := f) (s := s) (A := A) (n := kids.length) (c := c) hb)
  have HBA := Lib.hid (fun W => bare_any (45) i f s A kids.length c W (by omega))
  have HL := Lib.hid (And.intro hl0 hl1)
  obtain ⟨r, hr, hq⟩ := inLine_f s (by omega)
  have HQ := Lib.hid (fun W => PAll.spec_inLine.calls (s.size + 1) s r W hr)
  have HR := Lib.hid hq
  have hq2 : ¬ 9223372036854775807 < (strOfNums [45]).size + s.size := by show ¬ 9223372036854775807 < 1 + s.size; omega
  have hq3 : ¬ 9223372036854775807 < (strOfNums [45]).size + s.size + 2 := by show ¬ 9223372036854775807 < 1 + s.size + 2; omega
  have hq1 : ¬ 9223372036854775807 < 1 + s.size := by omega
  have hq4 : ¬ 9223372036854775807 < 1 + s.size + 2 := by omega
  clear hr hq
  clear hb
  go_enter Tryz.func27, Tryz.ntmps27
  go_wp2_with fail
  refine (HBA.out _).mono ?_
  rintro e w1 ⟨b, rfl, hbel⟩
  have hv := HVB.out.below hbel
  have HV := Lib.hid hv
  have hsz : w.heap.size < w1.heap.size := blk_lt hv.box
  obtain ⟨b0, b1, b2, b3, b4⟩ := box5 hv.box
  have hcv := fun (W : World) => cv_lit W (W.alloc (.cells #[.int .u8 45] 5)) (45) (Below.refl _ _)
  have hs1 : (strOfNums [45]).size = 1 := rfl
  clear hv hbel HVB HBA c0 f0
  cases b
  · go_wp2_with fail
    go_ret2
    exact WrR.mk HV.out (Below.refl _ _) (by simp)
  · go_wp2_with fail
    go_quiet ((go_at_call 41; exact Calls.quiet_of ((HQ.out _).mono (fun _ _ ⟨he, hd⟩ => ⟨he, hd.out⟩))))
    go_wp2_with fail
    all_goals
      go_ret2
      exact WrR.mk HV.out (by repeat (first | (with_reducible exact Below.refl _ _) | (with_reducible apply below_alloc) | (with_reducible apply pw_below_drewN) | (with_reducible apply below_drew))) (fun h => ⟨wire_line s (Or.inr (Or.inl rfl)) ⟨by decide, by decide⟩ ⟨HR.out h, hs⟩, by have := HL.out; omega, by omega⟩)
end Go.Proofs.YtkogipaaioibaaaGreatDoor

namespace Go.Proofs.YtkogipaaioibaaaGreatDoor
set_option linter.unusedVariables false
set_option linter.unusedSimpArgs false
open Go.RowKit Go.Proofs.YtkogipaaioibaaaGreatDoorW.PrintWords
set_option maxHeartbeats 4000000 in
set_option maxRecDepth 100000 in
theorem wr_40 (i f : Int) (s : ByteArray) (kids : List RP) (A : Option Addr) (c lb : Nat) (l d : Int) (w : World) (hl0 : 1 ≤ l) (hl1 : l ≤ 2000) (hd0 : 0 ≤ d) (hd1 : d ≤ 20) (hn : kids.length ≤ 1000) (hs : s.size ≤ 200) (hb : w.heap[lb]? = some (.cells #[.int .i64 l] 3 (0, 0)))  :
    Calls Tryz.prog 27 #[.agg #[.int .i64 40, .int .i64 i, .int .u64 f, .string s, .slice A kids.length c], .int .i64 d, .pointer (some ⟨lb, 0, none⟩)] w fun e w' => WrR ⟨40, i, f, s, kids⟩ w lb l e w' := by
  have hlt := blk_lt hb
  have c0 : w.cell? ⟨lb, 0, none⟩ = some (.int .i64 l) := blk_cell hb 0
  have f0 : w.frozen? ⟨lb, 0, none⟩ = false := blk_frozen hb 0
  have HVB := Lib.hid (wr_begin (k := 40) (i := i) (f := f) (s := s) (A := A) (n := kids.length) (c := c) hb)
  have HBA := Lib.hid (fun W => bare_any (40) i f s A kids.length c W (by omega))
  have HL := Lib.hid (And.intro hl0 hl1)
  obtain ⟨r, hr, hq⟩ := digits_f s (by omega)
  have HQ := Lib.hid (fun W => PAll.spec_digits.calls (s.size + 3) s r W hr)
  have HR := Lib.hid hq
  have hs2 : (s.size : Int) < 1000 := by omega
  have hq1 : ¬ 9223372036854775807 < 1 + s.size := by omega
  have hq2 : ¬ 9223372036854775807 < (strOfNums [40]).size + s.size := by show ¬ 9223372036854775807 < 1 + s.size; omega
  have hq3 : ¬ 9223372036854775807 < (strOfNums [40]).size + s.size + 2 := by show ¬ 9223372036854775807 < 1 + s.size + 2; omega
  have hq4 : ¬ 9223372036854775807 < 1 + s.size + 2 := by omega
  clear hr hq
  clear hb
  go_enter Tryz.func27, Tryz.ntmps27
  go_wp2_with fail
  refine (HBA.out _).mono ?_
  rintro e w1 ⟨b, rfl, hbel⟩
  have hv := HVB.out.below hbel
  have HV := Lib.hid hv
  have hsz : w.heap.size < w1.heap.size := blk_lt hv.box
  obtain ⟨b0, b1, b2, b3, b4⟩ := box5 hv.box
  have hcv := fun (W : World) => cv_lit W (W.alloc (.cells #[.int .u8 40] 5)) (40) (Below.refl _ _)
  have hs1 : (strOfNums [40]).size = 1 := rfl
  clear hv hbel HVB HBA c0 f0
  cases b
  · go_wp2_with fail
    go_ret2
    exact WrR.mk HV.out (Below.refl _ _) (by simp)
  cases r
  · go_wp2_with fail
    go_quiet ((go_at_call 45; exact Calls.quiet_of ((HQ.out _).mono (fun _ _ ⟨he, hd⟩ => ⟨he, hd.out⟩))))
    go_wp2_with fail
    all_goals
      go_ret2
      exact WrR.mk HV.out (by repeat (first | (with_reducible exact Below.refl _ _) | (with_reducible apply below_alloc) | (with_reducible apply pw_below_drewN) | (with_reducible apply below_drew))) (fun h => ⟨wire_line s (Or.inr (Or.inr (Or.inr (Or.inr (Or.inr (Or.inr rfl)))))) ⟨by decide, by decide⟩ ⟨HR.out h, hs⟩, by have := HL.out; omega, by omega⟩)
  · go_wp2_with fail
    go_quiet ((go_at_call 45; exact Calls.quiet_of ((HQ.out _).mono (fun _ _ ⟨he, hd⟩ => ⟨he, hd.out⟩))))
    go_wp2_with fail
    all_goals
      go_ret2
      exact WrR.mk HV.out (by repeat (first | (with_reducible exact Below.refl _ _) | (with_reducible apply below_alloc) | (with_reducible apply pw_below_drewN) | (with_reducible apply below_drew))) (fun h => ⟨wire_line s (Or.inr (Or.inr (Or.inr (Or.inr (Or.inr (Or.inr rfl)))))) ⟨by decide, by decide⟩ ⟨HR.out trivial, hs⟩, by have := HL.out; omega, by omega⟩)
end Go.Proofs.YtkogipaaioibaaaGreatDoor

namespace Go.Proofs.YtkogipaaioibaaaGreatDoor
set_option linter.unusedVariables false
set_option linter.unusedSimpArgs false
open Go.RowKit Go.Proofs.YtkogipaaioibaaaGreatDoorW.PrintWords
set_option maxHeartbeats 4000000 in
set_option maxRecDepth 100000 in
theorem wr_58 (i f : Int) (s : ByteArray) (kids : List RP) (A : Option Addr) (c lb : Nat) (l d : Int) (w : World) (hl0 : 1 ≤ l) (hl1 : l ≤ 2000) (hd0 : 0 ≤ d) (hd1 : d ≤ 20) (hn : kids.length ≤ 1000) (hs : s.size ≤ 200) (hb : w.heap[lb]? = some (.cells #[.int .i64 l] 3 (0, 0))) (hi0 : -9223372036854775808 ≤ i) (hi1 : i < 9223372036854775808) (w0 : World) (ht : Tb w0) (hw : Below w0.heap.size w0 w) (h0 : w0.heap.size ≤ lb) :
    Calls Tryz.prog 27 #[.agg #[.int .i64 58, .int .i64 i, .int .u64 f, .string s, .slice A kids.length c], .int .i64 d, .pointer (some ⟨lb, 0, none⟩)] w fun e w' => WrR ⟨58, i, f, s, kids⟩ w lb l e w' := by
  have hlt := blk_lt hb
  have c0 : w.cell? ⟨lb, 0, none⟩ = some (.int .i64 l) := blk_cell hb 0
  have f0 : w.frozen? ⟨lb, 0, none⟩ = false := blk_frozen hb 0
  have HVB := Lib.hid (wr_begin (k := 58) (i := i) (f := f) (s := s) (A := A) (n := kids.length) (c := c) hb)
  have HBA := Lib.hid (fun W => bare_any (58) i f s A kids.length c W (by omega))
  have HL := Lib.hid (And.intro hl0 hl1)
  have HT0 := Lib.hid (And.intro ht (And.intro hw h0))
  clear ht hw h0
  obtain ⟨tx, hln, hf⟩ : ∃ tx, LnT tx ∧ ∀ W, Tb W → Calls Tryz.prog 43 #[.int .i64 i, .int .i64 10] W fun e w' => e = .returned (.string tx) ∧ Below W.heap.size W w' := ⟨_, itoa_ln i hi0 (by omega), fun W ht => fmtInt_any i hi0 (by omega) W ht⟩
  have hts := hln.2
  have HF := Lib.hid hf
  have HLn := Lib.hid hln
  clear hi0 hi1 hf hln
  clear hb
  go_enter Tryz.func27, Tryz.ntmps27
  go_wp2_with fail
  refine (HBA.out _).mono ?_
  rintro e w1 ⟨b, rfl, hbel⟩
  have hv := HVB.out.below hbel
  have HV := Lib.hid hv
  have hsz : w.heap.size < w1.heap.size := blk_lt hv.box
  obtain ⟨b0, b1, b2, b3, b4⟩ := box5 hv.box
  have hcv := fun (W : World) => cv_lit W (W.alloc (.cells #[.int .u8 58] 5)) (58) (Below.refl _ _)
  have hs1 : (strOfNums [58]).size = 1 := rfl
  clear hv hbel HVB HBA c0 f0
  cases b
  · go_wp2_with fail
    go_ret2
    exact WrR.mk HV.out (Below.refl _ _) (by simp)
  · go_wp2_with fail
    refine (HF.out _ ((HV.out.tb HT0.out.1 HT0.out.2.1 HT0.out.2.2).below (by repeat (first | (with_reducible exact Below.refl _ _) | (with_reducible apply below_alloc) | (with_reducible apply pw_below_drewN) | (with_reducible apply below_drew))))).mono ?_
    rintro e w2 ⟨rfl, hb2⟩
    have HB2 := Lib.hid hb2
    clear hb2
    go_wp2_with fail
    go_ret2
    exact WrR.mk HV.out (Below.trans (by repeat (first | (with_reducible exact Below.refl _ _) | (with_reducible apply below_alloc) | (with_reducible apply pw_below_drewN) | (with_reducible apply below_drew))) (HB2.out.mono (Below.size (by repeat (first | (with_reducible exact Below.refl _ _) | (with_reducible apply below_alloc) | (with_reducible apply pw_below_drewN) | (with_reducible apply below_drew)))))) (fun h => ⟨wire_line _ (Or.inr (Or.inr (Or.inl rfl))) ⟨by decide, by decide⟩ HLn.out, by have := HL.out; omega, by omega⟩)
end Go.Proofs.YtkogipaaioibaaaGreatDoor

namespace Go.Proofs.YtkogipaaioibaaaGreatDoor
set_option linter.unusedVariables false
set_option linter.unusedSimpArgs false
open Go.RowKit Go.Proofs.YtkogipaaioibaaaGreatDoorW.PrintWords
set_option maxHeartbeats 4000000 in
set_option maxRecDepth 100000 in
theorem wr_44 (i f : Int) (s : ByteArray) (kids : List RP) (A : Option Addr) (c lb : Nat) (l d : Int) (w : World) (hl0 : 1 ≤ l) (hl1 : l ≤ 2000) (hd0 : 0 ≤ d) (hd1 : d ≤ 20) (hn : kids.length ≤ 1000) (hs : s.size ≤ 200) (hb : w.heap[lb]? = some (.cells #[.int .i64 l] 3 (0, 0))) (hf0 : 0 ≤ f) (hf1 : f < 18446744073709551616) (w0 : World) (ht : Tb w0) (hw : Below w0.heap.size w0 w) (h0 : w0.heap.size ≤ lb) :
    Calls Tryz.prog 27 #[.agg #[.int .i64 44, .int .i64 i, .int .u64 f, .string s, .slice A kids.length c], .int .i64 d, .pointer (some ⟨lb, 0, none⟩)] w fun e w' => WrR ⟨44, i, f, s, kids⟩ w lb l e w' := by
  have hlt := blk_lt hb
  have c0 : w.cell? ⟨lb, 0, none⟩ = some (.int .i64 l) := blk_cell hb 0
  have f0 : w.frozen? ⟨lb, 0, none⟩ = false := blk_frozen hb 0
  have HVB := Lib.hid (wr_begin (k := 44) (i := i) (f := f) (s := s) (A := A) (n := kids.length) (c := c) hb)
  have HBA := Lib.hid (fun W => bare_any (44) i f s A kids.length c W (by omega))
  have HL := Lib.hid (And.intro hl0 hl1)
  have HT0 := Lib.hid (And.intro ht (And.intro hw h0))
  clear ht hw h0
  have HF := Lib.hid (fun W ht => floatText_any f hf0 hf1 W ht)
  clear hf0 hf1
  clear hb
  go_enter Tryz.func27, Tryz.ntmps27
  go_wp2_with fail
  refine (HBA.out _).mono ?_
  rintro e w1 ⟨b, rfl, hbel⟩
  have hv := HVB.out.below hbel
  have HV := Lib.hid hv
  have hsz : w.heap.size < w1.heap.size := blk_lt hv.box
  obtain ⟨b0, b1, b2, b3, b4⟩ := box5 hv.box
  have hcv := fun (W : World) => cv_lit W (W.alloc (.cells #[.int .u8 44] 5)) (44) (Below.refl _ _)
  have hs1 : (strOfNums [44]).size = 1 := rfl
  clear hv hbel HVB HBA c0 f0
  cases b
  · go_wp2_with fail
    go_ret2
    exact WrR.mk HV.out (Below.refl _ _) (by simp)
  · go_wp2_with fail
    refine (HF.out _ ((HV.out.tb HT0.out.1 HT0.out.2.1 HT0.out.2.2).below (by repeat (first | (with_reducible exact Below.refl _ _) | (with_reducible apply below_alloc) | (with_reducible apply pw_below_drewN) | (with_reducible apply below_drew))))).mono ?_
    rintro e w2 ⟨t, rfl, hln, hb2⟩
    have HB2 := Lib.hid hb2
    have HLn := Lib.hid hln
    have hts := hln.2
    clear hb2 hln
    go_wp2_with fail
    go_ret2
    exact WrR.mk HV.out (Below.trans (by repeat (first | (with_reducible exact Below.refl _ _) | (with_reducible apply below_alloc) | (with_reducible apply pw_below_drewN) | (with_reducible apply below_drew))) (HB2.out.mono (Below.size (by repeat (first | (with_reducible exact Below.refl _ _) | (with_reducible apply below_alloc) | (with_reducible apply pw_below_drewN) | (with_reducible apply below_drew)))))) (fun h => ⟨wire_line _ (Or.inr (Or.inr (Or.inr (Or.inr (Or.inl rfl))))) ⟨by decide, by decide⟩ HLn.out, by have := HL.out; omega, by omega⟩)
end Go.Proofs.YtkogipaaioibaaaGreatDoor

namespace Go.Proofs.YtkogipaaioibaaaGreatDoor
set_option linter.unusedVariables false
set_option linter.unusedSimpArgs false
open Go.RowKit Go.Proofs.YtkogipaaioibaaaGreatDoorW.PrintWords
set_option maxHeartbeats 4000000 in
set_option maxRecDepth 100000 in
theorem wr_35 (i f : Int) (s : ByteArray) (kids : List RP) (A : Option Addr) (c lb : Nat) (l d : Int) (w : World) (hl0 : 1 ≤ l) (hl1 : l ≤ 2000) (hd0 : 0 ≤ d) (hd1 : d ≤ 20) (hn : kids.length ≤ 1000) (hs : s.size ≤ 200) (hb : w.heap[lb]? = some (.cells #[.int .i64 l] 3 (0, 0)))  :
    Calls Tryz.prog 27 #[.agg #[.int .i64 35, .int .i64 i, .int .u64 f, .string s, .slice A kids.length c], .int .i64 d, .pointer (some ⟨lb, 0, none⟩)] w fun e w' => WrR ⟨35, i, f, s, kids⟩ w lb l e w' := by
  have hlt := blk_lt hb
  have c0 : w.cell? ⟨lb, 0, none⟩ = some (.int .i64 l) := blk_cell hb 0
  have f0 : w.frozen? ⟨lb, 0, none⟩ = false := blk_frozen hb 0
  have HVB := Lib.hid (wr_begin (k := 35) (i := i) (f := f) (s := s) (A := A) (n := kids.length) (c := c) hb)
  have HBA := Lib.hid (fun W => bare_any (35) i f s A kids.length c W (by omega))
  have HL := Lib.hid (And.intro hl0 hl1)
  clear hb
  go_enter Tryz.func27, Tryz.ntmps27
  go_wp2_with fail
  refine (HBA.out _).mono ?_
  rintro e w1 ⟨b, rfl, hbel⟩
  have hv := HVB.out.below hbel
  have HV := Lib.hid hv
  have hsz : w.heap.size < w1.heap.size := blk_lt hv.box
  obtain ⟨b0, b1, b2, b3, b4⟩ := box5 hv.box
  have hcv := fun (W : World) => cv_lit W (W.alloc (.cells #[.int .u8 35] 5)) (35) (Below.refl _ _)
  have hs1 : (strOfNums [35]).size = 1 := rfl
  clear hv hbel HVB HBA c0 f0
  cases b
  · go_wp2_with fail
    go_ret2
    exact WrR.mk HV.out (Below.refl _ _) (by simp)
  · by_cases hi : i = 1
    · go_wp2_with fail
      go_ret2
      exact WrR.mk HV.out (by repeat (first | (with_reducible exact Below.refl _ _) | (with_reducible apply below_alloc) | (with_reducible apply pw_below_drewN) | (with_reducible apply below_drew))) (fun h => ⟨wire_line ⟨#[116]⟩ (Or.inr (Or.inr (Or.inr (Or.inr (Or.inr (Or.inl rfl)))))) ⟨by decide, by decide⟩ ⟨by decide, by decide⟩, by have := HL.out; omega, by omega⟩)
    · go_wp2_with fail
      go_quiet (fail)
      go_wp2_with fail
      all_goals
        go_ret2
        exact WrR.mk HV.out (by repeat (first | (with_reducible exact Below.refl _ _) | (with_reducible apply below_alloc) | (with_reducible apply pw_below_drewN) | (with_reducible apply below_drew))) (fun h => ⟨wire_line ⟨#[102]⟩ (Or.inr (Or.inr (Or.inr (Or.inr (Or.inr (Or.inl rfl)))))) ⟨by decide, by decide⟩ ⟨by decide, by decide⟩, by have := HL.out; omega, by omega⟩)
end Go.Proofs.YtkogipaaioibaaaGreatDoor

namespace Go.Proofs.YtkogipaaioibaaaGreatDoor
set_option linter.unusedVariables false
set_option linter.unusedSimpArgs false
open Go.RowKit Go.Proofs.YtkogipaaioibaaaGreatDoorW.PrintWords
set_option maxHeartbeats 4000000 in
set_option maxRecDepth 100000 in
theorem wr_36b (i f : Int) (s : ByteArray) (kids : List RP) (A : Option Addr) (c lb : Nat) (l d : Int) (w : World) (hl0 : 1 ≤ l) (hl1 : l ≤ 2000) (hd0 : 0 ≤ d) (hd1 : d ≤ 20) (hn : kids.length ≤ 1000) (hs : s.size ≤ 200) (hb : w.heap[lb]? = some (.cells #[.int .i64 l] 3 (0, 0))) (hi : ¬ i = -1) (w0 : World) (ht : Tb w0) (hw : Below w0.heap.size w0 w) (h0 : w0.heap.size ≤ lb) :
    Calls Tryz.prog 27 #[.agg #[.int .i64 36, .int .i64 i, .int .u64 f, .string s, .slice A kids.length c], .int .i64 d, .pointer (some ⟨lb, 0, none⟩)] w fun e w' => WrR ⟨36, i, f, s, kids⟩ w lb l e w' := by
  have hlt := blk_lt hb
  have c0 : w.cell? ⟨lb, 0, none⟩ = some (.int .i64 l) := blk_cell hb 0
  have f0 : w.frozen? ⟨lb, 0, none⟩ = false := blk_frozen hb 0
  have HVB := Lib.hid (wr_begin (k := 36) (i := i) (f := f) (s := s) (A := A) (n := kids.length) (c := c) hb)
  have HBA := Lib.hid (fun W => bare_any (36) i f s A kids.length c W (by omega))
  have HL := Lib.hid (And.intro hl0 hl1)
  have HT0 := Lib.hid (And.intro ht (And.intro hw h0))
  clear ht hw h0
  obtain ⟨tx, htx, hln, hf⟩ : ∃ tx, tx = ⟨(Lib.itoa s.size).toArray⟩ ∧ LnT tx ∧ ∀ W, Tb W → Calls Tryz.prog 42 #[.int .i64 s.size] W fun e w' => e = .returned (.string tx) ∧ Below W.heap.size W w' := ⟨_, rfl, itoa_ln _ (by omega) (by omega), fun W ht => itoa_any _ (by omega) (by omega) W ht⟩
  have hts := hln.2
  have HI := Lib.hid hf
  have HTX := Lib.hid htx
  clear hf hln htx
  have ha0 : ¬ 9223372036854775807 < 1 + tx.size := by omega
  have hb0 : ¬ 9223372036854775807 < (strOfNums [36]).size + tx.size := by show ¬ 9223372036854775807 < 1 + tx.size; omega
  have ha1 : ¬ 9223372036854775807 < 1 + tx.size + 2 := by omega
  have hb1 : ¬ 9223372036854775807 < (strOfNums [36]).size + tx.size + 2 := by show ¬ 9223372036854775807 < 1 + tx.size + 2; omega
  have ha2 : ¬ 9223372036854775807 < 1 + tx.size + 2 + s.size := by omega
  have hb2 : ¬ 9223372036854775807 < (strOfNums [36]).size + tx.size + 2 + s.size := by show ¬ 9223372036854775807 < 1 + tx.size + 2 + s.size; omega
  have ha3 : ¬ 9223372036854775807 < 1 + tx.size + 2 + s.size + 2 := by omega
  have hb3 : ¬ 9223372036854775807 < (strOfNums [36]).size + tx.size + 2 + s.size + 2 := by show ¬ 9223372036854775807 < 1 + tx.size + 2 + s.size + 2; omega
  clear hb
  go_enter Tryz.func27, Tryz.ntmps27
  go_wp2_with fail
  refine (HBA.out _).mono ?_
  rintro e w1 ⟨b, rfl, hbel⟩
  have hv := HVB.out.below hbel
  have HV := Lib.hid hv
  have hsz : w.heap.size < w1.heap.size := blk_lt hv.box
  obtain ⟨b0, b1, b2, b3, b4⟩ := box5 hv.box
  have hcv := fun (W : World) => cv_lit W (W.alloc (.cells #[.int .u8 36] 5)) (36) (Below.refl _ _)
  have hs1 : (strOfNums [36]).size = 1 := rfl
  clear hv hbel HVB HBA c0 f0
  cases b
  · go_wp2_with fail
    go_ret2
    exact WrR.mk HV.out (Below.refl _ _) (by simp)
  · have hW : (w1.alloc (.cells #[.int .u8 36] 5)).cell? ⟨w.heap.size, 3, none⟩ = some (.string s) := pw_cell_below (below_alloc (Below.refl _ _) _) b3
    have cr := fun d os => cell_regrown hW d os
    have cI := fun d os => Calls.regrown_of (HI.out (Sort.grow (redrawn (w1.alloc (.cells #[.int .u8 36] 5)) d) os) (((HV.out.tb HT0.out.1 HT0.out.2.1 HT0.out.2.2).below (below_alloc (Below.refl _ _) _)).below (below_regrown (w1.alloc (.cells #[.int .u8 36] 5)) d os)))
    clear hW
    go_wp2_with fail
    refine wp_region_quiet_below (by kernel_rfl) (by kernel_rfl) ?_
    repeat (quiet_step (exact cI _ _))
    refine wpQuiet_nil ?_
    intro _ hw'
    obtain ⟨⟨dq, osq⟩, hw''⟩ := hw'
    subst hw''
    go_wp2_with fail
    all_goals
      go_ret2
      exact WrR.mk HV.out (Below.trans (below_alloc (Below.refl _ _) _) ((below_regrown _ dq osq).mono (Below.size (below_alloc (Below.refl _ _) _)))) (fun h => ⟨by rw [HTX.out]; exact wire_blob (Or.inl rfl) ⟨by decide, by decide⟩ hs, by have := HL.out; omega, by omega⟩)
end Go.Proofs.YtkogipaaioibaaaGreatDoor

namespace Go.Proofs.YtkogipaaioibaaaGreatDoor
set_option linter.unusedVariables false
set_option linter.unusedSimpArgs false
open Go.RowKit Go.Proofs.YtkogipaaioibaaaGreatDoorW.PrintWords
set_option maxHeartbeats 4000000 in
set_option maxRecDepth 100000 in
theorem wr_33b (i f : Int) (s : ByteArray) (kids : List RP) (A : Option Addr) (c lb : Nat) (l d : Int) (w : World) (hl0 : 1 ≤ l) (hl1 : l ≤ 2000) (hd0 : 0 ≤ d) (hd1 : d ≤ 20) (hn : kids.length ≤ 1000) (hs : s.size ≤ 200) (hb : w.heap[lb]? = some (.cells #[.int .i64 l] 3 (0, 0))) (w0 : World) (ht : Tb w0) (hw : Below w0.heap.size w0 w) (h0 : w0.heap.size ≤ lb) :
    Calls Tryz.prog 27 #[.agg #[.int .i64 33, .int .i64 i, .int .u64 f, .string s, .slice A kids.length c], .int .i64 d, .pointer (some ⟨lb, 0, none⟩)] w fun e w' => WrR ⟨33, i, f, s, kids⟩ w lb l e w' := by
  have hlt := blk_lt hb
  have c0 : w.cell? ⟨lb, 0, none⟩ = some (.int .i64 l) := blk_cell hb 0
  have f0 : w.frozen? ⟨lb, 0, none⟩ = false := blk_frozen hb 0
  have HVB := Lib.hid (wr_begin (k := 33) (i := i) (f := f) (s := s) (A := A) (n := kids.length) (c := c) hb)
  have HBA := Lib.hid (fun W => bare_any (33) i f s A kids.length c W (by omega))
  have HL := Lib.hid (And.intro hl0 hl1)
  have HT0 := Lib.hid (And.intro ht (And.intro hw h0))
  clear ht hw h0
  obtain ⟨tx, htx, hln, hf⟩ : ∃ tx, tx = ⟨(Lib.itoa s.size).toArray⟩ ∧ LnT tx ∧ ∀ W, Tb W → Calls Tryz.prog 42 #[.int .i64 s.size] W fun e w' => e = .returned (.string tx) ∧ Below W.heap.size W w' := ⟨_, rfl, itoa_ln _ (by omega) (by omega), fun W ht => itoa_any _ (by omega) (by omega) W ht⟩
  have hts := hln.2
  have HI := Lib.hid hf
  have HTX := Lib.hid htx
  clear hf hln htx
  have ha0 : ¬ 9223372036854775807 < 1 + tx.size := by omega
  have hb0 : ¬ 9223372036854775807 < (strOfNums [33]).size + tx.size := by show ¬ 9223372036854775807 < 1 + tx.size; omega
  have ha1 : ¬ 9223372036854775807 < 1 + tx.size + 2 := by omega
  have hb1 : ¬ 9223372036854775807 < (strOfNums [33]).size + tx.size + 2 := by show ¬ 9223372036854775807 < 1 + tx.size + 2; omega
  have ha2 : ¬ 9223372036854775807 < 1 + tx.size + 2 + s.size := by omega
  have hb2 : ¬ 9223372036854775807 < (strOfNums [33]).size + tx.size + 2 + s.size := by show ¬ 9223372036854775807 < 1 + tx.size + 2 + s.size; omega
  have ha3 : ¬ 9223372036854775807 < 1 + tx.size + 2 + s.size + 2 := by omega
  have hb3 : ¬ 9223372036854775807 < (strOfNums [33]).size + tx.size + 2 + s.size + 2 := by show ¬ 9223372036854775807 < 1 + tx.size + 2 + s.size + 2; omega
  clear hb
  go_enter Tryz.func27, Tryz.ntmps27
  go_wp2_with fail
  refine (HBA.out _).mono ?_
  rintro e w1 ⟨b, rfl, hbel⟩
  have hv := HVB.out.below hbel
  have HV := Lib.hid hv
  have hsz : w.heap.size < w1.heap.size := blk_lt hv.box
  obtain ⟨b0, b1, b2, b3, b4⟩ := box5 hv.box
  have hcv := fun (W : World) => cv_lit W (W.alloc (.cells #[.int .u8 33] 5)) (33) (Below.refl _ _)
  have hs1 : (strOfNums [33]).size = 1 := rfl
  clear hv hbel HVB HBA c0 f0
  cases b
  · go_wp2_with fail
    go_ret2
    exact WrR.mk HV.out (Below.refl _ _) (by simp)
  · have hW : (w1.alloc (.cells #[.int .u8 33] 5)).cell? ⟨w.heap.size, 3, none⟩ = some (.string s) := pw_cell_below (below_alloc (Below.refl _ _) _) b3
    have cr := fun d os => cell_regrown hW d os
    have cI := fun d os => Calls.regrown_of (HI.out (Sort.grow (redrawn (w1.alloc (.cells #[.int .u8 33] 5)) d) os) (((HV.out.tb HT0.out.1 HT0.out.2.1 HT0.out.2.2).below (below_alloc (Below.refl _ _) _)).below (below_regrown (w1.alloc (.cells #[.int .u8 33] 5)) d os)))
    clear hW
    go_wp2_with fail
    refine wp_region_quiet_below (by kernel_rfl) (by kernel_rfl) ?_
    repeat (quiet_step (exact cI _ _))
    refine wpQuiet_nil ?_
    intro _ hw'
    obtain ⟨⟨dq, osq⟩, hw''⟩ := hw'
    subst hw''
    go_wp2_with fail
    all_goals
      go_ret2
      exact WrR.mk HV.out (Below.trans (below_alloc (Below.refl _ _) _) ((below_regrown _ dq osq).mono (Below.size (below_alloc (Below.refl _ _) _)))) (fun h => ⟨by rw [HTX.out]; exact wire_blob (Or.inr (Or.inl rfl)) ⟨by decide, by decide⟩ hs, by have := HL.out; omega, by omega⟩)
end Go.Proofs.YtkogipaaioibaaaGreatDoor

namespace Go.Proofs.YtkogipaaioibaaaGreatDoor
set_option linter.unusedVariables false
set_option linter.unusedSimpArgs false
open Go.RowKit Go.Proofs.YtkogipaaioibaaaGreatDoorW.PrintWords
set_option maxHeartbeats 4000000 in
set_option maxRecDepth 100000 in
theorem wr_61b (i f : Int) (s : ByteArray) (kids : List RP) (A : Option Addr) (c lb : Nat) (l d : Int) (w : World) (hl0 : 1 ≤ l) (hl1 : l ≤ 2000) (hd0 : 0 ≤ d) (hd1 : d ≤ 20) (hn : kids.length ≤ 1000) (hs : s.size ≤ 200) (hb : w.heap[lb]? = some (.cells #[.int .i64 l] 3 (0, 0))) (w0 : World) (ht : Tb w0) (hw : Below w0.heap.size w0 w) (h0 : w0.heap.size ≤ lb) :
    Calls Tryz.prog 27 #[.agg #[.int .i64 61, .int .i64 i, .int .u64 f, .string s, .slice A kids.length c], .int .i64 d, .pointer (some ⟨lb, 0, none⟩)] w fun e w' => WrR ⟨61, i, f, s, kids⟩ w lb l e w' := by
  have hlt := blk_lt hb
  have c0 : w.cell? ⟨lb, 0, none⟩ = some (.int .i64 l) := blk_cell hb 0
  have f0 : w.frozen? ⟨lb, 0, none⟩ = false := blk_frozen hb 0
  have HVB := Lib.hid (wr_begin (k := 61) (i := i) (f := f) (s := s) (A := A) (n := kids.length) (c := c) hb)
  have HBA := Lib.hid (fun W => bare_any (61) i f s A kids.length c W (by omega))
  have HL := Lib.hid (And.intro hl0 hl1)
  have HT0 := Lib.hid (And.intro ht (And.intro hw h0))
  clear ht hw h0
  obtain ⟨tx, htx, hln, hf⟩ : ∃ tx, tx = ⟨(Lib.itoa s.size).toArray⟩ ∧ LnT tx ∧ ∀ W, Tb W → Calls Tryz.prog 42 #[.int .i64 s.size] W fun e w' => e = .returned (.string tx) ∧ Below W.heap.size W w' := ⟨_, rfl, itoa_ln _ (by omega) (by omega), fun W ht => itoa_any _ (by omega) (by omega) W ht⟩
  have hts := hln.2
  have HI := Lib.hid hf
  have HTX := Lib.hid htx
  clear hf hln htx
  have ha0 : ¬ 9223372036854775807 < 1 + tx.size := by omega
  have hb0 : ¬ 9223372036854775807 < (strOfNums [61]).size + tx.size := by show ¬ 9223372036854775807 < 1 + tx.size; omega
  have ha1 : ¬ 9223372036854775807 < 1 + tx.size + 2 := by omega
  have hb1 : ¬ 9223372036854775807 < (strOfNums [61]).size + tx.size + 2 := by show ¬ 9223372036854775807 < 1 + tx.size + 2; omega
  have ha2 : ¬ 9223372036854775807 < 1 + tx.size + 2 + s.size := by omega
  have hb2 : ¬ 9223372036854775807 < (strOfNums [61]).size + tx.size + 2 + s.size := by show ¬ 9223372036854775807 < 1 + tx.size + 2 + s.size; omega
  have ha3 : ¬ 9223372036854775807 < 1 + tx.size + 2 + s.size + 2 := by omega
  have hb3 : ¬ 9223372036854775807 < (strOfNums [61]).size + tx.size + 2 + s.size + 2 := by show ¬ 9223372036854775807 < 1 + tx.size + 2 + s.size + 2; omega
  obtain ⟨r, hr, hq⟩ := inLine_f (s.extract 0 4) (by rw [ByteArray.size_extract]; omega)
  have HQ := Lib.hid (fun W => PAll.spec_inLine.calls ((s.extract 0 4).size + 1) (s.extract 0 4) r W hr)
  clear hr hq
  clear hb
  go_enter Tryz.func27, Tryz.ntmps27
  go_wp2_with fail
  refine (HBA.out _).mono ?_
  rintro e w1 ⟨b, rfl, hbel⟩
  have hv := HVB.out.below hbel
  have HV := Lib.hid hv
  have hsz : w.heap.size < w1.heap.size := blk_lt hv.box
  obtain ⟨b0, b1, b2, b3, b4⟩ := box5 hv.box
  have hcv := fun (W : World) => cv_lit W (W.alloc (.cells #[.int .u8 61] 5)) (61) (Below.refl _ _)
  have hs1 : (strOfNums [61]).size = 1 := rfl
  clear hv hbel HVB HBA c0 f0
  cases b
  · go_wp2_with fail
    go_ret2
    exact WrR.mk HV.out (Below.refl _ _) (by simp)
  · by_cases h4 : (4 : Int) ≤ s.size
    · have hx3 : (3 : Int) < s.size := by omega
      go_wp2_with (refine (HQ.out _).mono ?_; rintro e w2 ⟨rfl, ⟨n2, rfl⟩⟩)
      all_goals first
        | (have hW : ((w1.alloc (.cells #[.int .u8 61] 5)).drewN n2).cell? ⟨w.heap.size, 3, none⟩ = some (.string s) := pw_cell_below (pw_below_drewN (below_alloc (Below.refl _ _) _) n2) b3
           have cr := fun d os => cell_regrown hW d os
           have cI := fun d os => Calls.regrown_of (HI.out (Sort.grow (redrawn ((w1.alloc (.cells #[.int .u8 61] 5)).drewN n2) d) os) (((HV.out.tb HT0.out.1 HT0.out.2.1 HT0.out.2.2).below (pw_below_drewN (below_alloc (Below.refl _ _) _) n2)).below (below_regrown ((w1.alloc (.cells #[.int .u8 61] 5)).drewN n2) d os)))
           clear hW
           refine wp_region_quiet_below (by kernel_rfl) (by kernel_rfl) ?_
           repeat (quiet_step (exact cI _ _))
           refine wpQuiet_nil ?_
           intro _ hw'
           obtain ⟨⟨dq, osq⟩, hw''⟩ := hw'
           subst hw''
           go_wp2_with fail
           all_goals
             go_ret2
             exact WrR.mk HV.out (Below.trans (pw_below_drewN (below_alloc (Below.refl _ _) _) n2) ((below_regrown _ dq osq).mono (Below.size (pw_below_drewN (below_alloc (Below.refl _ _) _) n2)))) (fun h => ⟨by rw [HTX.out]; exact wire_blob (Or.inr (Or.inr rfl)) ⟨by decide, by decide⟩ hs, by have := HL.out; omega, by omega⟩))
        | (have hW : (w1.alloc (.cells #[.int .u8 61] 5)).cell? ⟨w.heap.size, 3, none⟩ = some (.string s) := pw_cell_below (below_alloc (Below.refl _ _) _) b3
           have cr := fun d os => cell_regrown hW d os
           have cI := fun d os => Calls.regrown_of (HI.out (Sort.grow (redrawn (w1.alloc (.cells #[.int .u8 61] 5)) d) os) (((HV.out.tb HT0.out.1 HT0.out.2.1 HT0.out.2.2).below (below_alloc (Below.refl _ _) _)).below (below_regrown (w1.alloc (.cells #[.int .u8 61] 5)) d os)))
           clear hW
           refine wp_region_quiet_below (by kernel_rfl) (by kernel_rfl) ?_
           repeat (quiet_step (exact cI _ _))
           refine wpQuiet_nil ?_
           intro _ hw'
           obtain ⟨⟨dq, osq⟩, hw''⟩ := hw'
           subst hw''
           go_wp2_with fail
           all_goals
             go_ret2
             exact WrR.mk HV.out (Below.trans (below_alloc (Below.refl _ _) _) ((below_regrown _ dq osq).mono (Below.size (below_alloc (Below.refl _ _) _)))) (fun h => ⟨by rw [HTX.out]; exact wire_blob (Or.inr (Or.inr rfl)) ⟨by decide, by decide⟩ hs, by have := HL.out; omega, by omega⟩))
    · have hW : (w1.alloc (.cells #[.int .u8 61] 5)).cell? ⟨w.heap.size, 3, none⟩ = some (.string s) := pw_cell_below (below_alloc (Below.refl _ _) _) b3
      have cr := fun d os => cell_regrown hW d os
      have cI := fun d os => Calls.regrown_of (HI.out (Sort.grow (redrawn (w1.alloc (.cells #[.int .u8 61] 5)) d) os) (((HV.out.tb HT0.out.1 HT0.out.2.1 HT0.out.2.2).below (below_alloc (Below.refl _ _) _)).below (below_regrown (w1.alloc (.cells #[.int .u8 61] 5)) d os)))
      clear hW
      go_wp2_with fail
      refine wp_region_quiet_below (by kernel_rfl) (by kernel_rfl) ?_
      repeat (quiet_step (exact cI _ _))
      refine wpQuiet_nil ?_
      intro _ hw'
      obtain ⟨⟨dq, osq⟩, hw''⟩ := hw'
      subst hw''
      go_wp2_with fail
      all_goals
        go_ret2
        exact WrR.mk HV.out (Below.trans (below_alloc (Below.refl _ _) _) ((below_regrown _ dq osq).mono (Below.size (below_alloc (Below.refl _ _) _)))) (fun h => ⟨by rw [HTX.out]; exact wire_blob (Or.inr (Or.inr rfl)) ⟨by decide, by decide⟩ hs, by have := HL.out; omega, by omega⟩)
end Go.Proofs.YtkogipaaioibaaaGreatDoor
