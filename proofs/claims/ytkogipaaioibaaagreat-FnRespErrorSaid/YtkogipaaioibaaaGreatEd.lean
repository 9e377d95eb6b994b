/- A text in small letters. (seat r3.Z) impl.ErrorKind answers as the reference says. (seat r3.Z; printed by gen_er9.py) -/
import Derived.Test.YtkogipaaioibaaaGreatEa
import Derived.Test.YtkogipaaioibaaaGreatCore
import Derived.Test.YtkogipaaioibaaaGreatEr7ffg
import Derived.Test.YtkogipaaioibaaaGreatEr7tfg
import Derived.Test.YtkogipaaioibaaaGreatEr7ftg
namespace Go.Proofs.YtkogipaaioibaaaGreat
set_option linter.unusedVariables false
set_option linter.unusedSimpArgs false
open Go.RowKit Go.Proofs.YtkogipaaioibaaaGreatW.PrintWords

def low (x : Int) : Int := if 65 ≤ x ∧ x ≤ 90 then x + 32 else x
def lowS (s : ByteArray) : ByteArray := strOfNums ((bytesOf s).map low)
/-- A block of bytes that []byte(..) made. -/
def LB (w : World) (g n : Nat) (xs : List Int) : Prop := ∃ C : Array Value, w.heap[g]? = some (.cells C 5 (C.size, C.size + 1)) ∧ (∀ j, j < n → C[j]? = some (.int .u8 (xs.getD j 0))) ∧ n ≤ C.size ∧ xs.length = n
theorem LB.new (w : World) (s : ByteArray) : LB (Lib.bytesWorld w 5 s) w.heap.size s.size (bytesOf s) := by
  have hb := Lib.bytesWorld_at_new w 5 s
  have hz : ∀ j, j < s.size → (Lib.bytesCells w 5 s)[j]? = some (.int .u8 ((bytesOf s).getD j 0)) := by
    intro j hj
    have h1 := Lib.bytesWorld_cell w 5 s j hj
    have h2 := cell_of_row _ w.heap.size j _ _ _ hb
    rw [h2] at h1
    have h' : j < s.data.toList.length := by rw [Array.length_toList]; exact hj
    rw [h1]
    simp [bytesOf, List.getD_eq_getElem?_getD, List.getElem?_eq_getElem h']
  refine ⟨_, hb, hz, ?_, bytesOf_length s⟩
  by_cases h0 : s.size = 0
  · omega
  · have := (Array.getElem?_eq_some_iff.1 (hz (s.size - 1) (by omega))).1
    omega
theorem LB.cell {w : World} {g n j : Nat} {xs : List Int} (h : LB w g n xs) (hj : j < n) : w.cell? ⟨g, j, none⟩ = some (.int .u8 (xs.getD j 0)) ∧ w.frozen? ⟨g, j, none⟩ = false ∧ g < w.heap.size := by
  obtain ⟨C, h1, h2, h3, h4⟩ := h
  refine ⟨(cell_of_row _ _ _ _ _ _ h1).trans (h2 j hj), ?_, blk_lt h1⟩
  unfold World.frozen?
  simp [h1]
  omega
theorem LB.set {w : World} {g n j : Nat} {xs : List Int} (h : LB w g n xs) (hj : j < n) (x : Int) : LB (w.setCell ⟨g, j, none⟩ (.int .u8 x)) g n (xs.set j x) := by
  obtain ⟨C, h1, h2, h3, h4⟩ := h
  refine ⟨C.setIfInBounds j (.int .u8 x), ?_, fun i hi => ?_, by simpa using h3, by simpa using h4⟩
  · have h5 : (w.setCell ⟨g, j, none⟩ (.int .u8 x)).heap[g]? = some (.cells (C.setIfInBounds j (.int .u8 x)) 5 (C.size, C.size + 1)) := by
      simp [World.setCell, Array.getElem?_modify, h1]
    simpa using h5
  · rw [Array.getElem?_setIfInBounds, List.getD_eq_getElem?_getD, List.getElem?_set]
    by_cases hij : j = i
    · subst hij
      simp
      exact ⟨by omega, by rw [h4]; simp [hj]⟩
    · simp [hij]
      rw [h2 i hi, List.getD_eq_getElem?_getD]
theorem low_set (l : List Int) (j : Nat) (x : Int) (h : l[j]? = some x) : ((l.take j).map low ++ l.drop j).set j (low x) = (l.take (j + 1)).map low ++ l.drop (j + 1) := by
  obtain ⟨hj, hx⟩ := List.getElem?_eq_some_iff.1 h
  rw [List.set_append_right _ _ (by rw [List.length_map, List.length_take]; omega), List.length_map, List.length_take, show min j l.length = j by omega, Nat.sub_self, List.drop_eq_getElem_cons hj, hx, List.set_cons_zero, List.take_succ_eq_append_getElem hj, hx]
  simp
theorem low_same (l : List Int) (j : Nat) (x : Int) (h : l[j]? = some x) (hx : low x = x) : (l.take j).map low ++ l.drop j = (l.take (j + 1)).map low ++ l.drop (j + 1) := by
  rw [← low_set l j x h, hx]
  obtain ⟨hj, hxe⟩ := List.getElem?_eq_some_iff.1 h
  rw [List.set_append_right _ _ (by rw [List.length_map, List.length_take]; omega), List.length_map, List.length_take, show min j l.length = j by omega, Nat.sub_self, List.drop_eq_getElem_cons hj, hxe, List.set_cons_zero]
set_option maxHeartbeats 2000000 in
set_option maxRecDepth 100000 in
theorem lower_any (s : ByteArray) (w : World) (hs : s.size ≤ 1000) : Calls Tryz.prog 7 #[.string s] w fun e w' => e = .returned (.string (lowS s)) ∧ Below w.heap.size w w' := by
  have hbs := fun w => print_bytes (P := Tryz.prog) 9 35 5 Tryz.underlying9 Tryz.underlying35 Tryz.underlying5 s w
  have HN := Aside0.mk (LB.new w s)
  have HW := Aside0.mk (show Below w.heap.size w (Lib.bytesWorld w 5 s) from bytes_below (Below.refl _ _) (Nat.le_refl _) 5 s)
  have hl := bytesOf_length s
  have HS := Aside0.mk hl
  have hsi : (s.size : Int) ≤ 1000 := by omega
  clear hl
  go_enter Tryz.func7, Tryz.ntmps7
  go_wp2_with fail
  clear hbs
  generalize Lib.bytesWorld w 5 s = W at *
  go_loopg [10] s.size (fun gk v10 wr => ∃ j : Nat, v10 = .int .i64 j ∧ Aside0 (j ≤ s.size ∧ gk = s.size - j) ∧ Aside0 (LB wr w.heap.size s.size (((bytesOf s).take j).map low ++ (bytesOf s).drop j)) ∧ Aside0 (Below w.heap.size w wr))
  case atStart => exact ⟨0, rfl, ⟨by omega⟩, ⟨by simpa using HN.out⟩, ⟨HW.out⟩⟩
  case round =>
    clear HN HW
    obtain ⟨j, rfl, HJ, HR, HB⟩ := hrel
    by_cases hj : j < s.size
    · obtain ⟨x, hx⟩ : ∃ x, (bytesOf s)[j]? = some x := ⟨_, List.getElem?_eq_getElem (by rw [bytesOf_length]; exact hj)⟩
      have hxr : 0 ≤ x ∧ x ≤ 255 := by
        have := List.mem_of_getElem? hx
        unfold bytesOf at this
        obtain ⟨b, _, rfl⟩ := List.mem_map.1 this
        have := b.toNat_lt
        omega
      obtain ⟨c0, f0, l0⟩ := HR.out.cell hj
      have hgx : (((bytesOf s).take j).map low ++ (bytesOf s).drop j).getD j 0 = x := by
        rw [List.getD_eq_getElem?_getD, List.getElem?_append_right (by rw [List.length_map, List.length_take]; omega), List.length_map, List.length_take, bytesOf_length, show min j s.size = j by omega, Nat.sub_self, List.getElem?_drop, Nat.add_zero, hx]
        rfl
      rw [hgx] at c0
      have hji : (j : Int) < (s.size : Int) := by omega
      have HX := Aside0.mk hx
      obtain ⟨hx0, hx1⟩ := hxr
      clear hgx hx
      by_cases h1 : 65 ≤ x
      · by_cases h2 : x ≤ 90
        · have hlo := HR.out.set hj (x + 32)
          have e1 := low_set (bytesOf s) j x HX.out
          have hlx : low x = x + 32 := by unfold low; rw [if_pos ⟨h1, h2⟩]
          rw [hlx] at e1
          rw [e1] at hlo
          have HR2 := Aside0.mk hlo
          have HB2 := Aside0.mk (show Below w.heap.size w (wr.setCell ⟨w.heap.size, j, none⟩ (.int .u8 (x + 32))) from below_set HB.out (Nat.le_refl _))
          clear hlo e1 hlx HR HB HX
          go_wp2_with fail
          go_roundg (s.size - (j + 1))
          case measure => have := HJ.out.2; omega
          case rel => exact ⟨j + 1, by go_num, ⟨by omega⟩, ⟨HR2.out⟩, ⟨HB2.out⟩⟩
        · have hlx : low x = x := by unfold low; rw [if_neg (by omega)]
          have HR2 := Aside0.mk (by have h := HR.out; rw [low_same (bytesOf s) j x HX.out hlx] at h; exact h)
          clear hlx HR HX
          go_wp2_with fail
          go_roundg (s.size - (j + 1))
          case measure => have := HJ.out.2; omega
          case rel => exact ⟨j + 1, by go_num, ⟨by omega⟩, ⟨HR2.out⟩, ⟨HB.out⟩⟩
      · have hlx : low x = x := by unfold low; rw [if_neg (by omega)]
        have HR2 := Aside0.mk (by have h := HR.out; rw [low_same (bytesOf s) j x HX.out hlx] at h; exact h)
        clear hlx HR HX
        go_wp2_with fail
        go_roundg (s.size - (j + 1))
        case measure => have := HJ.out.2; omega
        case rel => exact ⟨j + 1, by go_num, ⟨by omega⟩, ⟨HR2.out⟩, ⟨HB.out⟩⟩
    · have hje : j = s.size := by have := HJ.out.1; omega
      subst hje
      have hr := HR.out
      rw [List.take_of_length_le (by rw [bytesOf_length]; omega), List.drop_of_length_le (by rw [bytesOf_length]; omega), List.append_nil] at hr
      have hcv : ∀ cap, (convert 35 9 (.slice (some ⟨w.heap.size, 0, none⟩) s.size cap)).run Tryz.prog wr = .ok (.string (lowS s)) wr := fun cap => run_convert_bytes_arg wr 35 5 Tryz.underlying35 Tryz.underlying5 w.heap.size 0 s.size cap ((bytesOf s).map low) (by rw [List.length_map, bytesOf_length]) (fun i hi => by rw [Nat.zero_add]; exact (hr.cell hi).1) 9 Tryz.underlying9
      clear hr HR
      go_wp2_with fail
      go_ret
      exact ⟨rfl, HB.out⟩
end Go.Proofs.YtkogipaaioibaaaGreat

namespace Go.Proofs.YtkogipaaioibaaaGreat
set_option linter.unusedVariables false
set_option linter.unusedSimpArgs false
open Go.RowKit Go.Proofs.YtkogipaaioibaaaGreatW.PrintWords

/-- The class of a mark. -/
def cl : Nat → Nat
  | 0 => 0
  | 1 => 1
  | 2 => 2
  | 3 => 3
  | 4 => 4
  | 5 => 5
  | 6 => 6
  | 7 => 7
  | 8 => 8
  | 9 => 9
  | 10 => 9
  | 11 => 10
  | 12 => 11
  | 13 => 12
  | _ => 13
theorem noX_of {m : ByteArray} (hu : ∀ j, ¬ At unauth m j) (hr : ∀ j, ¬ At ronly m j) (x : Nat) (hx : x < 13) (h : ∀ j, j < 14 → cl j = x → ¬ At (pre j) m 0) : NoX m x := by
  have hrl : ∀ j, ¬ At ronlyL m j := fun j hj => hr j (at_take hj rfl (by decide))
  have : x = 0 ∨ x = 1 ∨ x = 2 ∨ x = 3 ∨ x = 4 ∨ x = 5 ∨ x = 6 ∨ x = 7 ∨ x = 8 ∨ x = 9 ∨ x = 10 ∨ x = 11 ∨ x = 12 := by omega
  rcases this with rfl | rfl | rfl | rfl | rfl | rfl | rfl | rfl | rfl | rfl | rfl | rfl | rfl
  · exact h 0 (by decide) rfl
  · exact ⟨h 1 (by decide) rfl, hrl⟩
  · exact h 2 (by decide) rfl
  · exact h 3 (by decide) rfl
  · exact h 4 (by decide) rfl
  · exact h 5 (by decide) rfl
  · exact h 6 (by decide) rfl
  · exact h 7 (by decide) rfl
  · exact h 8 (by decide) rfl
  · exact ⟨h 9 (by decide) rfl, h 10 (by decide) rfl, hu⟩
  · exact h 11 (by decide) rfl
  · exact h 12 (by decide) rfl
  · exact h 13 (by decide) rfl
/-- A text of one class. -/
theorem bx_cls {m : ByteArray} (hu : ∀ j, ¬ At unauth m j) (hr : ∀ j, ¬ At ronly m j) (i : Nat) (hi : i < 14) (ha : At (pre i) m 0) (x : Nat) (hx : x < 13) : Bx m (cl i) x (x == cl i) := by
  by_cases h : x = cl i
  · subst h
    exact .inl ⟨by simp, rfl⟩
  · exact .inr (.inl ⟨by simp [h], fun e => h e.symm, noX_of hu hr x hx fun j hj hc => at_no hi ha j hj (fun e => h (by rw [e, hc]))⟩)
theorem bx_max {m : ByteArray} (hu : ∀ j, ¬ At unauth m j) (hr : ∀ j, ¬ At ronly m j) (ha : At (pre 8) m 0) (x : Nat) (hx : x < 13) : Bx m 13 x (x == 8) := by
  by_cases h : x = 8
  · subst h
    exact .inr (.inr ⟨rfl, rfl, rfl, ha⟩)
  · refine .inr (.inl ⟨by simp [h], by omega, noX_of hu hr x hx fun j hj hc => at_no (i := 8) (by decide) ha j hj (fun e => ?_)⟩)
    subst e
    exact h hc.symm
theorem bx_none {m : ByteArray} (hu : ∀ j, ¬ At unauth m j) (hr : ∀ j, ¬ At ronly m j) (ha : ∀ i, i < 14 → ¬ At (pre i) m 0) (x : Nat) (hx : x < 13) : Bx m 13 x false :=
  .inr (.inl ⟨rfl, by omega, noX_of hu hr x hx fun j hj _ => ha j hj⟩)
/-- The list of kinds that the reference's kind tells. -/
def ksOf (kind : ByteArray) : List ByteArray := if kind.size = 0 then [] else [kind]
theorem errorKind_any (line kind addr : ByteArray) (w : World) (hz : line.size ≤ 200) (h1 : 1 ≤ line.size) (hu : ∀ j, ¬ At unauth (line.extract 1 line.size) j) (hr : ∀ j, ¬ At ronly (line.extract 1 line.size) j) (hc : Cls (line.extract 1 line.size) kind addr) :
    Calls Tryz.prog 5 #[.string line] w fun e w' => EkR w (ksOf kind) addr (line.extract 1 line.size) e w' := by
  obtain ⟨m, hm⟩ : ∃ m, line.extract 1 line.size = m := ⟨_, rfl⟩
  have hmz : m.size ≤ 1000 := by rw [← hm, ByteArray.size_extract]; omega
  rw [hm] at hu hr hc ⊢
  rcases hc with ⟨i, hi, ha, rfl, h23, h0⟩ | ⟨hno, rfl, rfl⟩
  · have hcs : i = 0 ∨ i = 1 ∨ i = 2 ∨ i = 3 ∨ i = 4 ∨ i = 5 ∨ i = 6 ∨ i = 7 ∨ i = 8 ∨ i = 9 ∨ i = 10 ∨ i = 11 ∨ i = 12 ∨ i = 13 := by omega
    rcases hcs with rfl | rfl | rfl | rfl | rfl | rfl | rfl | rfl | rfl | rfl | rfl | rfl | rfl | rfl
    · obtain rfl := h0 (by decide) (by decide)
      exact ek_ff line m ⟨#[]⟩ 0 (fun x => x == 0) w hz h1 hm (by decide) (by decide) (by decide) rfl rfl (Lib.hid (fun w => parse_0 m hmz ha hu w)) (Lib.hid (bx_cls hu hr 0 (by decide) ha))
    · obtain rfl := h0 (by decide) (by decide)
      exact ek_ff line m ⟨#[]⟩ 1 (fun x => x == 1) w hz h1 hm (by decide) (by decide) (by decide) rfl rfl (Lib.hid (fun w => parse_1 m hmz ha hu w)) (Lib.hid (bx_cls hu hr 1 (by decide) ha))
    · obtain ⟨a, c, hL, hcb, rfl⟩ := h23 (by decide)
      exact ek_tf line m (ofL c) (fun x => x == 2) w hz h1 hm rfl rfl (Lib.hid (fun w => parse_2 m hmz ha hu a c hL hcb w)) (Lib.hid (bx_cls hu hr 2 (by decide) ha))
    · obtain ⟨a, c, hL, hcb, rfl⟩ := h23 (by decide)
      exact ek_ft line m (ofL c) (fun x => x == 3) w hz h1 hm rfl rfl (Lib.hid (fun w => parse_3 m hmz ha hu a c hL hcb w)) (Lib.hid (bx_cls hu hr 3 (by decide) ha))
    · obtain rfl := h0 (by decide) (by decide)
      exact ek_ff line m ⟨#[]⟩ 4 (fun x => x == 4) w hz h1 hm (by decide) (by decide) (by decide) rfl rfl (Lib.hid (fun w => parse_4 m hmz ha hu w)) (Lib.hid (bx_cls hu hr 4 (by decide) ha))
    · obtain rfl := h0 (by decide) (by decide)
      exact ek_ff line m ⟨#[]⟩ 5 (fun x => x == 5) w hz h1 hm (by decide) (by decide) (by decide) rfl rfl (Lib.hid (fun w => parse_5 m hmz ha hu w)) (Lib.hid (bx_cls hu hr 5 (by decide) ha))
    · obtain rfl := h0 (by decide) (by decide)
      exact ek_ff line m ⟨#[]⟩ 6 (fun x => x == 6) w hz h1 hm (by decide) (by decide) (by decide) rfl rfl (Lib.hid (fun w => parse_6 m hmz ha hu w)) (Lib.hid (bx_cls hu hr 6 (by decide) ha))
    · obtain rfl := h0 (by decide) (by decide)
      exact ek_ff line m ⟨#[]⟩ 7 (fun x => x == 7) w hz h1 hm (by decide) (by decide) (by decide) rfl rfl (Lib.hid (fun w => parse_7 m hmz ha hu w)) (Lib.hid (bx_cls hu hr 7 (by decide) ha))
    · obtain rfl := h0 (by decide) (by decide)
      by_cases he : m.toList = ([69, 82, 82, 32, 109, 97, 120, 32, 110, 117, 109, 98, 101, 114, 32, 111, 102, 32, 99, 108, 105, 101, 110, 116, 115, 32, 114, 101, 97, 99, 104, 101, 100] : List UInt8)
      · exact ek_ff line m ⟨#[]⟩ 8 (fun x => x == 8) w hz h1 hm (by decide) (by decide) (by decide) rfl rfl (Lib.hid (fun w => parse_8 m hmz ha he hu w)) (Lib.hid (bx_cls hu hr 8 (by decide) ha))
      · exact ek_ff line m ⟨#[]⟩ 13 (fun x => x == 8) w hz h1 hm (by decide) (by decide) (by decide) rfl rfl (Lib.hid (fun w => parse_14 m hmz ha he hu w)) (Lib.hid (bx_max hu hr ha))
    · obtain rfl := h0 (by decide) (by decide)
      exact ek_ff line m ⟨#[]⟩ 9 (fun x => x == 9) w hz h1 hm (by decide) (by decide) (by decide) rfl rfl (Lib.hid (fun w => parse_9 m hmz ha hu w)) (Lib.hid (bx_cls hu hr 9 (by decide) ha))
    · obtain rfl := h0 (by decide) (by decide)
      exact ek_ff line m ⟨#[]⟩ 9 (fun x => x == 9) w hz h1 hm (by decide) (by decide) (by decide) rfl rfl (Lib.hid (fun w => parse_10 m hmz ha hu w)) (Lib.hid (bx_cls hu hr 10 (by decide) ha))
    · obtain rfl := h0 (by decide) (by decide)
      exact ek_ff line m ⟨#[]⟩ 10 (fun x => x == 10) w hz h1 hm (by decide) (by decide) (by decide) rfl rfl (Lib.hid (fun w => parse_11 m hmz ha hu w)) (Lib.hid (bx_cls hu hr 11 (by decide) ha))
    · obtain rfl := h0 (by decide) (by decide)
      exact ek_ff line m ⟨#[]⟩ 11 (fun x => x == 11) w hz h1 hm (by decide) (by decide) (by decide) rfl rfl (Lib.hid (fun w => parse_12 m hmz ha hu w)) (Lib.hid (bx_cls hu hr 12 (by decide) ha))
    · obtain rfl := h0 (by decide) (by decide)
      exact ek_ff line m ⟨#[]⟩ 12 (fun x => x == 12) w hz h1 hm (by decide) (by decide) (by decide) rfl rfl (Lib.hid (fun w => parse_13 m hmz ha hu w)) (Lib.hid (bx_cls hu hr 13 (by decide) ha))
  · exact ek_ff line m ⟨#[]⟩ 13 (fun _ => false) w hz h1 hm (by decide) (by decide) (by decide) rfl rfl (Lib.hid (fun w => parse_15 m hmz hno hu w)) (Lib.hid (bx_none hu hr hno))
end Go.Proofs.YtkogipaaioibaaaGreat
