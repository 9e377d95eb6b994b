/- spec.plainVal, spec.PlainVal: a value that good lets in is plain for the reference. -/
import Derived.Test.YtjnookhdiolhgaaSpecVal
import Derived.Test.YtjnookhdiolhgaaValid
namespace Go.Proofs.Ytjnookhdiolhgaa
open Go.RowKit Go.Proofs.YtjnookhdiolhgaaW.PrintWords
open PAll (S26 k26 rd_T26 S35 k35 rd_T35)

/-- What plainVal's own box and its count hold. -/
structure VS (w wc : World) (lb : Nat) (l : Int) (k : Int) (b : Bool) (i f : Int) (s : ByteArray) (A5 : Option Addr) (n5 c5 : Nat) (A6 : Option Addr) (n6 c6 : Nat) : Prop where
  box : wc.heap[w.heap.size]? = some (.cells #[.int .i64 k, .bool b, .int .i64 i, .int .u64 f, .string s, .slice A5 n5 c5, .slice A6 n6 c6] 35 (0, 0))
  left : wc.heap[lb]? = some (.cells #[.int .i64 l] 3 (0, 0))
  gr : w.grownBy wc (some lb)
theorem VS.alloc {w wc : World} {lb : Nat} {l k : Int} {b : Bool} {i f : Int} {s : ByteArray} {A5 : Option Addr} {n5 c5 : Nat} {A6 : Option Addr} {n6 c6 : Nat} (h : VS w wc lb l k b i f s A5 n5 c5 A6 n6 c6) (o : Obj) :
    VS w (wc.alloc o) lb l k b i f s A5 n5 c5 A6 n6 c6 :=
  ⟨(Below.heap_alloc wc _ _ (blk_lt h.box)).trans h.box, (Below.heap_alloc wc _ _ (blk_lt h.left)).trans h.left, grown_trans' h.gr (World.grownBy_alloc wc o _)⟩

/-- What plainVal tells. -/
def PlainR (w : World) (lb : Nat) (l n : Int) (e : Ending) (w' : World) : Prop :=
  ∃ (r : Bool) (l' : Int), e = .returned (.bool r) ∧ w'.heap[lb]? = some (.cells #[.int .i64 l'] 3 (0, 0)) ∧ l - n ≤ l' ∧ l' ≤ 3000 ∧ w.grownBy w' (some lb)

/-- plainVal's contract for values of at most N parts. -/
def PlainSaid (N : Nat) : Prop :=
  ∀ (x : S26) (A5 : Option Addr) (c5 : Nat) (A6 : Option Addr) (c6 : Nat) (lb : Nat) (l : Int) (w0 w : World), nodes x ≤ N → okV x → nodes x ≤ l → l ≤ 3000 → x.f5.length ≤ c5 → x.f6.length ≤ c6 → Kd.C k35 w0 A6 x.f6.length (convAll x.f6) → Below w0.heap.size w0 w → w0.heap.size ≤ lb →
    w.heap[lb]? = some (.cells #[.int .i64 l] 3 (0, 0)) →
    Calls Try.prog 98 #[valOf x A5 c5 A6 c6, .pointer (some ⟨lb, 0, none⟩)] w fun e w' => PlainR w lb l (nodes x) e w'

theorem nodesAll_le {l : List S26} {j : Nat} {x : S26} (h : l[j]? = some x) : nodesAll (l.take j) + nodes x ≤ nodesAll l := by
  induction l generalizing j with
  | nil => simp at h
  | cons y r ih =>
    cases j with
    | zero => simp at h; subst h; simp [nodesAll]
    | succ j => simp at h; simp only [List.take_succ_cons, nodesAll]; have := ih h; omega

theorem convAll_get {l : List S26} {j : Nat} {x : S26} (h : l[j]? = some x) : (convAll l)[j]? = some (conv x) := by
  induction l generalizing j with
  | nil => simp at h
  | cons y r ih =>
    cases j with
    | zero => simp at h; subst h; simp [convAll]
    | succ j => simp at h; simp only [convAll, List.getElem?_cons_succ]; exact ih h

theorem toList_of_size {s : ByteArray} (h : s.size = 0) : s.toList = [] := by
  rw [ByteArray.toList_eq]
  apply List.eq_nil_of_length_eq_zero
  rw [Array.length_toList]
  exact h

set_option maxHeartbeats 8000000 in
set_option maxRecDepth 100000 in
theorem plain_step (N : Nat) (ih : PlainSaid N) (k : Int) (b : Bool) (i f : Int) (s : ByteArray) (keys : List ByteArray) (kids : List S26) (A5 : Option Addr) (c5 : Nat) (A6 : Option Addr) (c6 : Nat) (lb : Nat) (l : Int) (w0 w : World)
    (hN : nodesAll kids ≤ N) (hok : okTop k b i f s keys kids) (hoa : okAll kids) (hl0 : (nodesAll kids : Int) + 1 ≤ l) (hl1 : l ≤ 3000) (hc5 : keys.length ≤ c5) (hc6 : kids.length ≤ c6) (hk6 : Kd.C k35 w0 A6 kids.length (convAll kids)) (hw : Below w0.heap.size w0 w) (h0 : w0.heap.size ≤ lb)
    (hb : w.heap[lb]? = some (.cells #[.int .i64 l] 3 (0, 0))) :
    Calls Try.prog 98 #[.agg #[.int .i64 k, .bool b, .int .i64 i, .int .u64 f, .string s, .slice A5 keys.length c5, .slice A6 kids.length c6], .pointer (some ⟨lb, 0, none⟩)] w fun e w' => PlainR w lb l (nodesAll kids + 1) e w' := by
  have hlt := blk_lt hb
  have c0 : w.cell? ⟨lb, 0, none⟩ = some (.int .i64 l) := blk_cell hb 0
  have f0 : w.frozen? ⟨lb, 0, none⟩ = false := blk_frozen hb 0
  have HB := Aside0.mk hb
  have HK6 := Aside0.mk hk6
  have HOA := Aside0.mk hoa
  have HO := Aside0.mk hok
  have hkn := nodesAll_len kids
  have hkn2 : kids.length ≤ 3000 := by omega
  have HN := Aside0.mk (And.intro hN hl0)
  have HC := Aside0.mk (And.intro hc5 hc6)
  have HW := Aside0.mk (And.intro hw h0)
  have hm0 : 0 ≤ l - 1 := by omega
  have hk0 : 0 ≤ k := hok.1
  have hk8 : k ≤ 8 := hok.2.1
  clear hb hk6 hoa hok hkn hN hl0 hc5 hc6 hw h0
  have hvb : VS w ((w.setCell ⟨lb, 0, none⟩ (.int .i64 (l - 1))).alloc (.cells #[.int .i64 k, .bool b, .int .i64 i, .int .u64 f, .string s, .slice A5 keys.length c5, .slice A6 kids.length c6] 35)) lb (l - 1) k b i f s A5 keys.length c5 A6 kids.length c6 := by
    have h1 := blk_set HB.out 0 (.int .i64 (l - 1))
    refine ⟨?_, ?_, ?_⟩
    · have := heap_alloc_new (w.setCell ⟨lb, 0, none⟩ (.int .i64 (l - 1))) (.cells #[.int .i64 k, .bool b, .int .i64 i, .int .u64 f, .string s, .slice A5 keys.length c5, .slice A6 kids.length c6] 35)
      simpa using this
    · exact (Below.heap_alloc _ _ _ (blk_lt h1)).trans h1
    · exact grown_trans' (grown_set (World.grownBy.refl w _) 0 _) (World.grownBy_alloc _ _ _)
  have HVB := Aside0.mk hvb
  clear hvb
  go_enter Try.func98, Try.ntmps98
  go_upto_region 2 with (fail)
  go_cut [25] (fun v wc => v = .bool false ∧ Aside0 (VS w wc lb (l - 1) k b i f s A5 keys.length c5 A6 kids.length c6))
  case first =>
    clear HB HK6 HOA HN HC HW ih HO hkn2
    go_wp2_with fail
    all_goals
      go_meet
      case rel => exact ⟨by rw [decide_eq_false (by omega), decide_eq_false (by omega), decide_eq_false (by omega)]; rfl, HVB⟩
  case rest =>
    obtain ⟨rfl, HVB⟩ := hcut
    rename_i wc _
    obtain ⟨d0, d1, d2, d3, d4, d5, d6⟩ := box7 HVB.out.box
    have e0 : wc.cell? ⟨lb, 0, none⟩ = some (.int .i64 (l - 1)) := blk_cell HVB.out.left 0
    clear c0 f0
    go_upto_region 4 with (fail)
    go_cut [0, 94] (fun v0 v wx => v0 = .agg #[.int .i64 k, .bool b, .int .i64 i, .int .u64 f, .string s, .slice A5 keys.length c5, .slice A6 kids.length c6] ∧ (∃ t : Bool, v = .bool t) ∧ wx = wc)
    case first =>
      have hkc : k = 0 ∨ k = 1 ∨ k = 2 ∨ k = 3 ∨ k = 4 ∨ k = 5 ∨ k = 6 ∨ k = 7 ∨ k = 8 := by omega
      have hb1 := HO.out.2.2.2.1
      have hi1 := HO.out.2.2.2.2.1
      have hf1 := HO.out.2.2.2.2.2.1
      have hs1 := HO.out.2.2.2.2.2.2.1
      have hkeys1 := HO.out.2.2.2.2.2.2.2.1
      have hkids1 := HO.out.2.2.2.2.2.2.2.2.1
      clear HB HK6 HOA HN HC HW ih hk0 hk8 HO HVB e0 hl1 hm0 hkn2 hlt
      rcases hkc with rfl | rfl | rfl | rfl | rfl | rfl | rfl | rfl | rfl
      · as_aux_lemma =>
          obtain rfl : b = false := hb1 (by decide)
          obtain rfl : i = 0 := hi1 (by decide) (by decide)
          obtain rfl : f = 0 := hf1 (by decide)
          have hse : s.toList = [] := toList_of_size (hs1 (by decide) (by decide))
          obtain rfl : keys = [] := hkeys1 (by decide)
          obtain rfl : kids = [] := hkids1 (by decide)
          clear hs1
          go_wp2_with fail
          all_goals
            go_meet
            case rel => exact ⟨by first | rfl | simp only [List.length_nil], ⟨_, rfl⟩, rfl⟩
      · as_aux_lemma =>
          clear hb1
          obtain rfl : i = 0 := hi1 (by decide) (by decide)
          obtain rfl : f = 0 := hf1 (by decide)
          have hse : s.toList = [] := toList_of_size (hs1 (by decide) (by decide))
          obtain rfl : keys = [] := hkeys1 (by decide)
          obtain rfl : kids = [] := hkids1 (by decide)
          clear hs1
          go_wp2_with fail
          all_goals
            go_meet
            case rel => exact ⟨by first | rfl | simp only [List.length_nil], ⟨_, rfl⟩, rfl⟩
      · as_aux_lemma =>
          obtain rfl : b = false := hb1 (by decide)
          clear hi1
          obtain rfl : f = 0 := hf1 (by decide)
          have hse : s.toList = [] := toList_of_size (hs1 (by decide) (by decide))
          obtain rfl : keys = [] := hkeys1 (by decide)
          obtain rfl : kids = [] := hkids1 (by decide)
          clear hs1
          go_wp2_with fail
          all_goals
            go_meet
            case rel => exact ⟨by first | rfl | simp only [List.length_nil], ⟨_, rfl⟩, rfl⟩
      · as_aux_lemma =>
          obtain rfl : b = false := hb1 (by decide)
          obtain rfl : i = 0 := hi1 (by decide) (by decide)
          clear hf1
          have hse : s.toList = [] := toList_of_size (hs1 (by decide) (by decide))
          obtain rfl : keys = [] := hkeys1 (by decide)
          obtain rfl : kids = [] := hkids1 (by decide)
          clear hs1
          go_wp2_with fail
          all_goals
            go_meet
            case rel => exact ⟨by first | rfl | simp only [List.length_nil], ⟨_, rfl⟩, rfl⟩
      · as_aux_lemma =>
          obtain rfl : b = false := hb1 (by decide)
          obtain rfl : i = 0 := hi1 (by decide) (by decide)
          obtain rfl : f = 0 := hf1 (by decide)
          clear hs1
          obtain rfl : keys = [] := hkeys1 (by decide)
          obtain rfl : kids = [] := hkids1 (by decide)
          go_wp2_with fail
          all_goals
            go_meet
            case rel => exact ⟨by first | rfl | simp only [List.length_nil], ⟨_, rfl⟩, rfl⟩
      · as_aux_lemma =>
          obtain rfl : b = false := hb1 (by decide)
          obtain rfl : i = 0 := hi1 (by decide) (by decide)
          obtain rfl : f = 0 := hf1 (by decide)
          clear hs1
          obtain rfl : keys = [] := hkeys1 (by decide)
          obtain rfl : kids = [] := hkids1 (by decide)
          go_wp2_with fail
          all_goals
            go_meet
            case rel => exact ⟨by first | rfl | simp only [List.length_nil], ⟨_, rfl⟩, rfl⟩
      · as_aux_lemma =>
          obtain rfl : b = false := hb1 (by decide)
          obtain rfl : i = 0 := hi1 (by decide) (by decide)
          obtain rfl : f = 0 := hf1 (by decide)
          have hse : s.toList = [] := toList_of_size (hs1 (by decide) (by decide))
          obtain rfl : keys = [] := hkeys1 (by decide)
          clear hkids1
          clear hs1
          go_wp2_with fail
          all_goals
            go_meet
            case rel => exact ⟨by first | rfl | simp only [List.length_nil], ⟨_, rfl⟩, rfl⟩
      · as_aux_lemma =>
          obtain rfl : b = false := hb1 (by decide)
          obtain rfl : i = 0 := hi1 (by decide) (by decide)
          obtain rfl : f = 0 := hf1 (by decide)
          have hse : s.toList = [] := toList_of_size (hs1 (by decide) (by decide))
          clear hkeys1
          clear hkids1
          clear hs1
          go_wp2_with fail
          all_goals
            go_meet
            case rel => exact ⟨by first | rfl | simp only [List.length_nil], ⟨_, rfl⟩, rfl⟩
      · as_aux_lemma =>
          obtain rfl : b = false := hb1 (by decide)
          clear hi1
          obtain rfl : f = 0 := hf1 (by decide)
          have hse : s.toList = [] := toList_of_size (hs1 (by decide) (by decide))
          obtain rfl : keys = [] := hkeys1 (by decide)
          clear hkids1
          clear hs1
          go_wp2_with fail
          all_goals
            go_meet
            case rel => exact ⟨by first | rfl | simp only [List.length_nil], ⟨_, rfl⟩, rfl⟩
    case rest =>
      obtain ⟨rfl, ⟨t, rfl⟩, rfl⟩ := hcut
      cases t
      case true =>
        go_wp2_with fail
        go_ret
        exact ⟨false, l - 1, rfl, HVB.out.left, by omega, by omega, HVB.out.gr⟩
      case false =>
        go_upto_region 6 with (fail)
        go_cut [0, 127] (fun v0 v wx => v0 = .agg #[.int .i64 k, .bool b, .int .i64 i, .int .u64 f, .string s, .slice A5 keys.length c5, .slice A6 kids.length c6] ∧ (∃ t : Bool, v = .bool t) ∧ wx = wc)
        case first =>
          clear HO HB HK6 HOA HN HC HW ih
          go_wp2_with fail
          all_goals
            go_meet
            case rel =>
              first
                | exact ⟨by simp only [*], ⟨_, rfl⟩, rfl⟩
                | exact ⟨by simp [*], ⟨_, rfl⟩, rfl⟩
        case rest =>
          obtain ⟨rfl, ⟨t, rfl⟩, rfl⟩ := hcut
          clear d0 d1 d2 d3 d4 d5 e0
          cases t
          case true =>
            go_wp2_with fail
            go_ret
            exact ⟨false, l - 1, rfl, HVB.out.left, by omega, by omega, HVB.out.gr⟩
          case false =>
            go_wp2_with fail
            clear d6
            go_loopg [131] kids.length (fun gk v131 wk => ∃ (j : Nat) (lj : Int), v131 = .int .i64 j ∧ Aside0 (j ≤ kids.length ∧ gk = kids.length - j) ∧ Aside0 (VS w wk lb lj k b i f s A5 keys.length c5 A6 kids.length c6) ∧ Aside0 (l - 1 - nodesAll (kids.take j) ≤ lj ∧ lj ≤ 3000))
            case atStart => exact ⟨0, _, rfl, ⟨by omega⟩, ⟨HVB.out⟩, ⟨by simp [nodesAll]; omega⟩⟩
            case round =>
              clear HVB
              obtain ⟨j, lj, rfl, HJ, HVJ, HLJ⟩ := hrel
              have hszb : w.heap.size < _ := blk_lt HVJ.out.box
              by_cases hj : j < kids.length
              · obtain ⟨y, hy⟩ : ∃ y, kids[j]? = some y := ⟨_, List.getElem?_eq_getElem hj⟩
                have hbr := HW.out.1.grown HVJ.out.gr HW.out.1.size (by rintro q hq; injection hq with hq; have := HW.out.2; omega)
                obtain ⟨ad, B5, d5, B6, d6, hA, g0, g1, g2, g3, g4, g5, g6, l5, q5, l6, q6⟩ := PAll.at_T35 HK6.out (j : Int) (by omega) (by omega)
                have hry : rd_T35 (convAll kids) (j : Int) = conv y := by unfold Go.Proofs.Ytjnookhdiolhgaa.PAll.rd_T35; rw [Int.toNat_natCast, List.getD_eq_getElem?_getD, convAll_get hy]; rfl
                rw [hry, conv_eq] at g0 g1 g2 g3 g4 g5 g6 l5 q5 l6 q6
                rw [Int.toNat_natCast] at g0 g1 g2 g3 g4 g5 g6
                dsimp only at g0 g1 g2 g3 g4 g5 g6 l5 q5 l6 q6
                rw [convAll_length] at g6 l6 q6
                have h0 := pw_cell_below hbr g0
                have h1 := pw_cell_below hbr g1
                have h2 := pw_cell_below hbr g2
                have h3 := pw_cell_below hbr g3
                have h4 := pw_cell_below hbr g4
                have h5 := pw_cell_below hbr g5
                have h6 := pw_cell_below hbr g6
                subst hA
                have HY := Aside0.mk hy
                have HQ := Aside0.mk (And.intro l5 (And.intro q5 (And.intro l6 q6)))
                have HBR := Aside0.mk hbr
                have hny := nodesAll_take hy
                have hnp := nodesAll_le hy
                have HNY := Aside0.mk (And.intro hny hnp)
                clear g0 g1 g2 g3 g4 g5 g6 l5 q5 l6 q6 hry hy hbr hny hnp
                have HIH := ih y B5 d5 B6 d6 lb lj w0 _ (by have := HNY.out.2; have := HN.out.1; omega) (okAll_at HOA.out HY.out) (by have := HNY.out.2; have := HN.out.2; have := HLJ.out; omega) HLJ.out.2 HQ.out.1 HQ.out.2.2.1 HQ.out.2.2.2 (below_alloc HBR.out (.cells #[.int .i64 y.f0, .bool y.f1, .int .i64 y.f2, .int .u64 y.f3, .string y.f4, .slice B5 y.f5.length d5, .slice B6 y.f6.length d6] 35)) HW.out.2 ((HVJ.out.alloc (.cells #[.int .i64 y.f0, .bool y.f1, .int .i64 y.f2, .int .u64 y.f3, .string y.f4, .slice B5 y.f5.length d5, .slice B6 y.f6.length d6] 35)).left)
                unfold valOf at HIH
                have HX := Aside0.mk HIH
                clear HIH
                go_wp2_with fail
                refine (HX.out).mono ?_
                rintro e w2 ⟨r, l2, rfl, hl', hle, hle2, hg⟩
                have hv2 : VS w w2 lb l2 k b i f s A5 keys.length c5 (some ad) kids.length c6 :=
                  ⟨(hg.block w.heap.size (by simp; omega) (by simp; omega)).trans (HVJ.out.alloc (.cells #[.int .i64 y.f0, .bool y.f1, .int .i64 y.f2, .int .u64 y.f3, .string y.f4, .slice B5 y.f5.length d5, .slice B6 y.f6.length d6] 35)).box, hl', grown_trans' (HVJ.out.alloc (.cells #[.int .i64 y.f0, .bool y.f1, .int .i64 y.f2, .int .u64 y.f3, .string y.f4, .slice B5 y.f5.length d5, .slice B6 y.f6.length d6] 35)).gr hg⟩
                have HV2 := Aside0.mk hv2
                have HL2 := Aside0.mk (And.intro hle hle2)
                clear hl' hg hv2 HX hle hle2
                cases r
                case false =>
                  go_wp2_with fail
                  go_ret
                  refine ⟨false, l2, rfl, HV2.out.left, ?_, ?_, HV2.out.gr⟩
                  · have := HL2.out; have := HLJ.out; have := HNY.out; omega
                  · have := HL2.out; omega
                case true =>
                  go_wp2_with fail
                  go_roundg (kids.length - (j + 1))
                  case measure => have := HJ.out.2; omega
                  case rel =>
                    exact ⟨j + 1, l2, by go_num, ⟨by omega⟩, ⟨HV2.out⟩, ⟨by have := HL2.out; have := HLJ.out; have := HNY.out; omega⟩⟩
              · have hje : j = kids.length := by have := HJ.out.1; omega
                subst hje
                go_wp2_with fail
                go_ret
                have h3 := HVJ.out.left
                have h4 := HLJ.out
                rw [List.take_length] at h4
                exact ⟨true, lj, rfl, h3, by omega, h4.2, HVJ.out.gr⟩
theorem plainVal_any : ∀ N, PlainSaid N := by
  intro N
  induction N with
  | zero =>
    intro x A5 c5 A6 c6 lb l w0 w hn
    have := nodes_pos x
    omega
  | succ N ih =>
    intro x A5 c5 A6 c6 lb l w0 w hn hok hl0 hl1 h5 h6 hk6 hw h0 hb
    obtain ⟨k, b, i, f, s, keys, kids⟩ := x
    simp only [nodes] at hn hl0
    simp only [okV] at hok
    exact plain_step N ih k b i f s keys kids A5 c5 A6 c6 lb l w0 w (by omega) hok.1 hok.2 (by omega) hl1 h5 h6 hk6 hw h0 hb
end Go.Proofs.Ytjnookhdiolhgaa
