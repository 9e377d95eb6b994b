/- laws.valid and laws.good: what they let in is a value. -/
import Derived.Deep.DeepCutAuto
import Derived.Deep.CutBlock
import Derived.Deep.LoopGhost
import Derived.Test.YtjnookhdiolhgaaPackL
namespace Go.Proofs.Ytjnookhdiolhgaa
open Go.RowKit Go.Proofs.YtjnookhdiolhgaaW.PrintWords
open PAll (S26 k26 rd_T26)

/-- What valid's own box and its count hold. -/
structure VB (w wc : World) (lb : Nat) (l : Int) (k : Int) (b : Bool) (i f : Int) (s : ByteArray) (A5 : Option Addr) (n5 c5 : Nat) (A6 : Option Addr) (n6 c6 : Nat) : Prop where
  box : wc.heap[w.heap.size]? = some (.cells #[.int .i64 k, .bool b, .int .i64 i, .int .u64 f, .string s, .slice A5 n5 c5, .slice A6 n6 c6] 26 (0, 0))
  left : wc.heap[lb]? = some (.cells #[.int .i64 l] 3 (0, 0))
  gr : w.grownBy wc (some lb)

theorem VB.alloc {w wc : World} {lb : Nat} {l k : Int} {b : Bool} {i f : Int} {s : ByteArray} {A5 : Option Addr} {n5 c5 : Nat} {A6 : Option Addr} {n6 c6 : Nat} (h : VB w wc lb l k b i f s A5 n5 c5 A6 n6 c6) (o : Obj) :
    VB w (wc.alloc o) lb l k b i f s A5 n5 c5 A6 n6 c6 :=
  ⟨(Below.heap_alloc wc _ _ (blk_lt h.box)).trans h.box, (Below.heap_alloc wc _ _ (blk_lt h.left)).trans h.left, grown_trans' h.gr (World.grownBy_alloc wc o _)⟩

/-- What valid tells. -/
def VR (w : World) (lb : Nat) (l n : Int) (ok : Prop) (e : Ending) (w' : World) : Prop :=
  ∃ (r : Bool) (l' : Int), e = .returned (.bool r) ∧ w'.heap[lb]? = some (.cells #[.int .i64 l'] 3 (0, 0)) ∧ (r = true → ok ∧ l' = l - n ∧ 0 ≤ l') ∧ w.grownBy w' (some lb)

/-- valid's contract where at most N calls are left. -/
def ValidSaid (N : Nat) : Prop :=
  ∀ (x : S26) (A5 : Option Addr) (c5 : Nat) (A6 : Option Addr) (c6 : Nat) (lb : Nat) (l : Int) (w0 w : World),
    0 ≤ l → l ≤ N → N ≤ 400 → wfV x → x.f5.length ≤ c5 → x.f6.length ≤ c6 → Kd.C Kd.string w0 A5 x.f5.length x.f5 → Kd.C k26 w0 A6 x.f6.length x.f6 → Below w0.heap.size w0 w → w0.heap.size ≤ lb →
    w.heap[lb]? = some (.cells #[.int .i64 l] 3 (0, 0)) →
    Calls Try.prog 39 #[valOf x A5 c5 A6 c6, .pointer (some ⟨lb, 0, none⟩)] w fun e w' => VR w lb l (nodes x) (okV x) e w'

theorem size_of_toList {s : ByteArray} (h : s.toList = []) : s.size = 0 := by
  rw [ByteArray.toList_eq] at h
  have h2 : s.data.toList.length = 0 := by rw [h]; rfl
  rw [Array.length_toList] at h2
  exact h2

theorem nodesAll_take {l : List S26} {j : Nat} {x : S26} (h : l[j]? = some x) : nodesAll (l.take (j + 1)) = nodesAll (l.take j) + nodes x := by
  induction l generalizing j with
  | nil => simp at h
  | cons y r ih =>
    cases j with
    | zero => simp at h; subst h; simp [nodesAll]
    | succ j => simp at h; simp only [List.take_succ_cons, nodesAll]; rw [ih h]; omega

theorem okAll_take {l : List S26} {j : Nat} {x : S26} (h : l[j]? = some x) (h1 : okAll (l.take j)) (h2 : okV x) : okAll (l.take (j + 1)) := by
  induction l generalizing j with
  | nil => simp at h
  | cons y r ih =>
    cases j with
    | zero => simp at h; subst h; simp [okAll, h2]
    | succ j =>
      simp at h
      simp only [List.take_succ_cons, okAll] at h1 ⊢
      exact ⟨h1.1, ih h h1.2⟩

set_option maxHeartbeats 4000000 in
set_option maxRecDepth 100000 in
theorem valid_step (N : Nat) (hN : N ≤ 399) (ih : ValidSaid N) (k : Int) (b : Bool) (i f : Int) (s : ByteArray) (keys : List ByteArray) (kids : List S26) (A5 : Option Addr) (c5 : Nat) (A6 : Option Addr) (c6 : Nat) (lb : Nat) (l : Int) (w0 w : World)
    (hl0 : 1 ≤ l) (hl1 : l ≤ N + 1) (hwf : wfAll kids) (hc5 : keys.length ≤ c5) (hc6 : kids.length ≤ c6) (hk5 : Kd.C Kd.string w0 A5 keys.length keys) (hk6 : Kd.C k26 w0 A6 kids.length kids)
    (hw : Below w0.heap.size w0 w) (h0 : w0.heap.size ≤ lb)
    (hb : w.heap[lb]? = some (.cells #[.int .i64 l] 3 (0, 0))) :
    Calls Try.prog 39 #[.agg #[.int .i64 k, .bool b, .int .i64 i, .int .u64 f, .string s, .slice A5 keys.length c5, .slice A6 kids.length c6], .pointer (some ⟨lb, 0, none⟩)] w fun e w' => VR w lb l (nodesAll kids + 1) (okTop k b i f s keys kids ∧ okAll kids) e w' := by
  have hlt := blk_lt hb
  have c0 : w.cell? ⟨lb, 0, none⟩ = some (.int .i64 l) := blk_cell hb 0
  have f0 : w.frozen? ⟨lb, 0, none⟩ = false := blk_frozen hb 0
  have HB := Aside0.mk hb
  have hn5 : keys.length ≤ 9223372036854775807 := hk5.2.1
  have hn6 : kids.length ≤ 9223372036854775807 := hk6.2.1
  have HK5 := Aside0.mk hk5
  have HK6 := Aside0.mk hk6
  have HWF := Aside0.mk hwf
  have HC := Aside0.mk (And.intro hc5 (And.intro hc6 (And.intro hn5 hn6)))
  have hl2 : l ≤ 400 := by omega
  have HL := Aside0.mk (And.intro hN hl1)
  have HW := Aside0.mk (And.intro hw h0)
  clear hb hk5 hk6 hwf hc5 hc6 hl1 hN hw h0 hn5 hn6
  go_enter Try.func39, Try.ntmps39
  go_upto_region 2 with (fail)
  go_cut [36] (fun v wc => Aside0 (VB w wc lb (l - 1) k b i f s A5 keys.length c5 A6 kids.length c6) ∧ ∃ t : Bool, v = .bool t ∧ Aside0 (t = false → 0 ≤ l - 1 ∧ 0 ≤ k ∧ k ≤ 8 ∧ s.size ≤ 300))
  case first =>
    have hvb : VB w ((w.setCell ⟨lb, 0, none⟩ (.int .i64 (l - 1))).alloc (.cells #[.int .i64 k, .bool b, .int .i64 i, .int .u64 f, .string s, .slice A5 keys.length c5, .slice A6 kids.length c6] 26)) lb (l - 1) k b i f s A5 keys.length c5 A6 kids.length c6 := by
      have h1 := blk_set HB.out 0 (.int .i64 (l - 1))
      refine ⟨?_, ?_, ?_⟩
      · have := heap_alloc_new (w.setCell ⟨lb, 0, none⟩ (.int .i64 (l - 1))) (.cells #[.int .i64 k, .bool b, .int .i64 i, .int .u64 f, .string s, .slice A5 keys.length c5, .slice A6 kids.length c6] 26)
        simpa using this
      · exact (Below.heap_alloc _ _ _ (blk_lt h1)).trans h1
      · exact grown_trans' (grown_set (World.grownBy.refl w _) 0 _) (World.grownBy_alloc _ _ _)
    have HVB := Aside0.mk hvb
    clear hvb
    go_wp2_with fail
    all_goals
      go_meet
      case rel =>
        refine ⟨HVB, _, rfl, ⟨?_⟩⟩
        intro hb
        first
          | exact absurd hb (by decide)
          | (simp at hb; omega)
  case rest =>
    rename_i wc
    obtain ⟨HVB, t, rfl, HT⟩ := hcut
    obtain ⟨d0, d1, d2, d3, d4, d5, d6⟩ := box7 HVB.out.box
    have e0 : wc.cell? ⟨lb, 0, none⟩ = some (.int .i64 (l - 1)) := blk_cell HVB.out.left 0
    clear c0 f0
    cases t
    case true =>
      go_wp2_with fail
      go_ret
      exact ⟨false, l - 1, rfl, HVB.out.left, by simp, HVB.out.gr⟩
    case false =>
      obtain ⟨hm0, hk0, hk8, hs3⟩ := HT.out rfl
      clear HT
      go_upto_region 5 with (fail)
      go_cut [0, 5, 99] (fun v0 v5 v wx => v0 = .agg #[.int .i64 k, .bool b, .int .i64 i, .int .u64 f, .string s, .slice A5 keys.length c5, .slice A6 kids.length c6] ∧ v5 = .int .i64 k ∧ wx = wc ∧ ∃ t : Bool, v = .bool t ∧ Aside0 (t = false → (k ≠ 1 → b = false) ∧ (k ≠ 2 → k ≠ 8 → i = 0) ∧ (k ≠ 3 → f = 0) ∧ (k ≠ 4 → k ≠ 5 → s.size = 0) ∧ (k ≠ 7 → keys = []) ∧ (k < 6 → kids = [])))
      case first =>
        clear HB HK5 HK6 HWF ih HL HW hl0 hlt hl2 hm0 hs3 e0
        as_aux_lemma =>
          go_wp2_with fail
          all_goals
            go_meet
            case rel =>
              first
                | (refine ⟨by simp only [*, List.length_nil], by simp only [*], rfl, _, rfl, ⟨?_⟩⟩
                   intro hb
                   first
                     | exact absurd hb (by decide)
                     | (simp at hb
                        refine ⟨?_, ?_, ?_, ?_, ?_, ?_⟩
                        · intro _; first | contradiction | omega | exact Bool.eq_false_iff.2 (by assumption)
                        · intro _ _; first | contradiction | assumption | omega
                        · intro _; first | contradiction | assumption | omega
                        · intro _ _; first | contradiction | exact size_of_toList (by assumption) | omega
                        · intro _; first | contradiction | assumption | omega
                        · intro _; first | exact hb | contradiction | assumption | omega))
                | (exfalso; rcases keys with _ | ⟨_, _⟩ <;> rcases kids with _ | ⟨_, _⟩ <;> first | contradiction | simp at * | omega)
      case rest =>
        obtain ⟨rfl, rfl, rfl, t, rfl, HT⟩ := hcut
        cases t
        case true =>
          go_wp2_with fail
          go_ret
          exact ⟨false, l - 1, rfl, HVB.out.left, by simp, HVB.out.gr⟩
        case false =>
          go_upto_region 7 with (fail)
          go_cut [0, 5, 130] (fun v0 v5 v wx => v0 = .agg #[.int .i64 k, .bool b, .int .i64 i, .int .u64 f, .string s, .slice A5 keys.length c5, .slice A6 kids.length c6] ∧ v5 = .int .i64 k ∧ wx = wc ∧ ∃ t : Bool, v = .bool t ∧ Aside0 (t = false → (k = 8 → 0 ≤ i ∧ i ≤ 255 ∧ kids.length ≤ 15) ∧ (k = 7 → keys.length = kids.length)))
          case first =>
            go_wp2_with fail
            all_goals
              go_meet
              case rel =>
                refine ⟨by simp [*], by simp [*], rfl, _, rfl, ⟨?_⟩⟩
                intro hb
                first
                  | exact absurd hb (by decide)
                  | (simp at hb; omega)
          case rest =>
            obtain ⟨rfl, rfl, rfl, t, rfl, HU⟩ := hcut
            cases t
            case true =>
              go_wp2_with fail
              go_ret
              exact ⟨false, l - 1, rfl, HVB.out.left, by simp, HVB.out.gr⟩
            case false =>
              have hok : okTop k b i f s keys kids ∨ True := Or.inr trivial
              have hbel : Below w0.heap.size w0 wc := HW.out.1.grown HVB.out.gr HW.out.1.size (by rintro q hq; injection hq with hq; have := HW.out.2; omega)
              have HBEL := Aside0.mk hbel
              have hk1 := HC.out.1
              have hk2 := HC.out.2.2.1
              clear hbel hok d0 d1 d2 d3 d4
              go_wp2_with fail
              go_loopg [134] keys.length (fun gk v134 wr => ∃ j : Nat, v134 = .int .i64 j ∧ wr = wc ∧ Aside0 (j ≤ keys.length ∧ gk = keys.length - j ∧ ∀ q : Nat, q < j → (keys.getD q ByteArray.empty).size ≤ 300))
              case atStart => exact ⟨0, rfl, rfl, ⟨by omega, by omega, by omega⟩⟩
              case round =>
                obtain ⟨j, rfl, rfl, HJ⟩ := hrel
                by_cases hj : j < keys.length
                · obtain ⟨adk, hA5, gk0⟩ := Kd.at_string HK5.out (j : Int) (by omega) (by omega)
                  rw [Int.toNat_natCast] at gk0
                  have hkm : rdOf ByteArray.empty keys (j : Int) = keys.getD j ByteArray.empty := by unfold Go.Proofs.YtjnookhdiolhgaaW.PrintWords.rdOf; rw [Int.toNat_natCast]
                  rw [hkm] at gk0
                  have gk1 := pw_cell_below HBEL.out gk0
                  clear gk0 hkm
                  obtain ⟨kk, hkk⟩ : ∃ kk, keys.getD j ByteArray.empty = kk := ⟨_, rfl⟩
                  rw [hkk] at gk1
                  have HKK := Aside0.mk hkk
                  have HA5 := Aside0.mk hA5
                  clear hkk
                  subst hA5
                  go_wp2_with fail
                  · go_ret
                    exact ⟨false, l - 1, rfl, HVB.out.left, by simp, HVB.out.gr⟩
                  · have hks : kk.size ≤ 300 := by omega
                    go_loopg [147] j (fun gi v147 wi => ∃ i : Nat, v147 = .int .i64 i ∧ wi = wr ∧ Aside0 (i ≤ j ∧ gi = j - i))
                    case atStart => exact ⟨0, rfl, rfl, ⟨by omega⟩⟩
                    case round =>
                      obtain ⟨m, rfl, rfl, HM⟩ := hrel
                      by_cases hm : m < j
                      · obtain ⟨adk, hA5, gk0⟩ := Kd.at_string HK5.out (m : Int) (by omega) (by omega)
                        rw [Int.toNat_natCast] at gk0
                        have gk2 := pw_cell_below HBEL.out gk0
                        clear gk0
                        obtain ⟨k2, hk2'⟩ : ∃ k2, rdOf ByteArray.empty keys (m : Int) = k2 := ⟨_, rfl⟩
                        rw [hk2'] at gk2
                        have HK2 := Aside0.mk hk2'
                        clear hk2'
                        injection hA5 with hA5
                        subst hA5
                        go_wp2_with fail
                        · go_ret
                          exact ⟨false, l - 1, rfl, HVB.out.left, by simp, HVB.out.gr⟩
                        · go_roundg (j - (m + 1))
                          case measure => have := HM.out; omega
                          case rel => exact ⟨m + 1, by go_num, rfl, ⟨by omega⟩⟩
                      · have hje : m = j := by have := HM.out; omega
                        subst hje
                        go_wp2_with fail
                        go_roundg (keys.length - (m + 1))
                        case measure => have := HJ.out; omega
                        case rel =>
                          refine ⟨m + 1, by go_num, rfl, ⟨by omega, rfl, fun q hq => ?_⟩⟩
                          by_cases hqm : q < m
                          · exact HJ.out.2.2 q hqm
                          · have : q = m := by omega
                            subst this
                            rw [HKK.out]
                            exact hks
                · have hje : j = keys.length := by have := HJ.out.1; omega
                  subst hje
                  have HKL := Aside0.mk HJ.out.2.2
                  clear hk1 hk2 HJ
                  have hk1 := HC.out.2.1
                  have hk2 := HC.out.2.2.2
                  go_wp2_with fail
                  have e0' := e0
                  clear d5 d6 e0 e0'
                  go_loopg [159] kids.length (fun gk v159 wk => ∃ j : Nat, v159 = .int .i64 j ∧ Aside0 (j ≤ kids.length ∧ gk = kids.length - j) ∧ Aside0 (VB w wk lb (l - 1 - nodesAll (kids.take j)) k b i f s A5 keys.length c5 A6 kids.length c6) ∧ Aside0 (okAll (kids.take j)) ∧ Aside0 (0 ≤ l - 1 - nodesAll (kids.take j)))
                  case atStart => exact ⟨0, rfl, ⟨by omega⟩, ⟨by simpa [nodesAll] using HVB.out⟩, ⟨by simp [okAll]⟩, ⟨by simpa [nodesAll] using hm0⟩⟩
                  case round =>
                    clear HVB HBEL
                    obtain ⟨j, rfl, HJ, HVJ, HOJ, HMJ⟩ := hrel
                    rename_i wk _ _ _ _ _ _
                    have hszb : w.heap.size < _ := blk_lt HVJ.out.box
                    by_cases hj : j < kids.length
                    · obtain ⟨y, hy⟩ : ∃ y, kids[j]? = some y := ⟨_, List.getElem?_eq_getElem hj⟩
                      have hbr := HW.out.1.grown HVJ.out.gr HW.out.1.size (by rintro q hq; injection hq with hq; have := HW.out.2; omega)
                      obtain ⟨ad, B5, d5, B6, d6, hA, g0, g1, g2, g3, g4, g5, g6, l5, q5, l6, q6⟩ := PAll.at_T26 HK6.out (j : Int) (by omega) (by omega)
                      have hry : rd_T26 kids (j : Int) = y := by unfold Go.Proofs.Ytjnookhdiolhgaa.PAll.rd_T26; rw [Int.toNat_natCast, List.getD_eq_getElem?_getD, hy]; rfl
                      rw [hry] at g0 g1 g2 g3 g4 g5 g6 l5 q5 l6 q6
                      rw [Int.toNat_natCast] at g0 g1 g2 g3 g4 g5 g6
                      have h0 := pw_cell_below hbr g0
                      have h1 := pw_cell_below hbr g1
                      have h2 := pw_cell_below hbr g2
                      have h3 := pw_cell_below hbr g3
                      have h4 := pw_cell_below hbr g4
                      have h5 := pw_cell_below hbr g5
                      have h6 := pw_cell_below hbr g6
                      subst hA
                      have HY := Aside0.mk hy
                      have HQ := Aside0.mk (And.intro l5 (And.intro q5 (And.intro l6 q6)))
                      have HBR := Aside0.mk hbr
                      clear g0 g1 g2 g3 g4 g5 g6 l5 q5 l6 q6 hry hy hbr
                      have hny := nodesAll_take HY.out
                      have HNY := Aside0.mk hny
                      clear hny
                      have HIH := ih y B5 d5 B6 d6 lb (l - 1 - nodesAll (kids.take j)) w0 _ HMJ.out (by have := HL.out; omega) (by have := HL.out; omega) (wfAll_at HWF.out HY.out) HQ.out.1 HQ.out.2.2.1 HQ.out.2.1 HQ.out.2.2.2 (below_alloc HBR.out (.cells #[.int .i64 y.f0, .bool y.f1, .int .i64 y.f2, .int .u64 y.f3, .string y.f4, .slice B5 y.f5.length d5, .slice B6 y.f6.length d6] 26)) HW.out.2 ((HVJ.out.alloc (.cells #[.int .i64 y.f0, .bool y.f1, .int .i64 y.f2, .int .u64 y.f3, .string y.f4, .slice B5 y.f5.length d5, .slice B6 y.f6.length d6] 26)).left)
                      unfold valOf at HIH
                      have HX := Aside0.mk HIH
                      clear HIH
                      go_wp2_with fail
                      refine (HX.out).mono ?_
                      rintro e w2 ⟨r, l', rfl, hl', hr, hg⟩
                      have hv2 : VB w w2 lb l' k b i f s A5 keys.length c5 (some ad) kids.length c6 :=
                        ⟨(hg.block w.heap.size (by simp; omega) (by simp; omega)).trans (HVJ.out.alloc (.cells #[.int .i64 y.f0, .bool y.f1, .int .i64 y.f2, .int .u64 y.f3, .string y.f4, .slice B5 y.f5.length d5, .slice B6 y.f6.length d6] 26)).box, hl', grown_trans' (HVJ.out.alloc (.cells #[.int .i64 y.f0, .bool y.f1, .int .i64 y.f2, .int .u64 y.f3, .string y.f4, .slice B5 y.f5.length d5, .slice B6 y.f6.length d6] 26)).gr hg⟩
                      have HV2 := Aside0.mk hv2
                      have HR2 := Aside0.mk hr
                      clear hl' hr hg hv2 HX
                      cases r
                      case false =>
                        go_wp2_with fail
                        go_ret
                        exact ⟨false, l', rfl, HV2.out.left, by simp, HV2.out.gr⟩
                      case true =>
                        go_wp2_with fail
                        go_roundg (kids.length - (j + 1))
                        case measure => have := HJ.out.2; omega
                        case rel =>
                          obtain ⟨ho, hl, hp⟩ := HR2.out trivial
                          have h9 := HNY.out
                          have hle : l' = l - 1 - (nodesAll (kids.take (j + 1)) : Int) := by rw [h9]; push_cast; omega
                          exact ⟨j + 1, by go_num, ⟨by omega⟩, ⟨hle ▸ HV2.out⟩, ⟨okAll_take HY.out HOJ.out ho⟩, ⟨hle ▸ hp⟩⟩
                    · have hje : j = kids.length := by have := HJ.out.1; omega
                      subst hje
                      go_wp2_with fail
                      go_ret
                      have h1 := HOJ.out
                      have h2 := HMJ.out
                      have h3 := HVJ.out.left
                      rw [List.take_length] at h1 h2 h3
                      obtain ⟨ta, tb, tc, td, te, tf⟩ := HT.out trivial
                      obtain ⟨ua, ub⟩ := HU.out trivial
                      refine ⟨true, _, rfl, h3, fun _ => ⟨⟨⟨hk0, hk8, hs3, ta, tb, tc, td, te, tf, ua, ub, ?_⟩, h1⟩, by omega, h2⟩, HVJ.out.gr⟩
                      intro t ht
                      obtain ⟨q, hq, rfl⟩ := List.getElem_of_mem ht
                      have := HKL.out q hq
                      rwa [List.getD_eq_getElem?_getD, List.getElem?_eq_getElem hq] at this

set_option maxHeartbeats 2000000 in
set_option maxRecDepth 100000 in
theorem valid_zero (k : Int) (b : Bool) (i f : Int) (s : ByteArray) (n5 n6 : Nat) (A5 : Option Addr) (c5 : Nat) (A6 : Option Addr) (c6 : Nat) (lb : Nat) (w : World) (n : Int) (ok : Prop)
    (hb : w.heap[lb]? = some (.cells #[.int .i64 0] 3 (0, 0))) :
    Calls Try.prog 39 #[.agg #[.int .i64 k, .bool b, .int .i64 i, .int .u64 f, .string s, .slice A5 n5 c5, .slice A6 n6 c6], .pointer (some ⟨lb, 0, none⟩)] w fun e w' => VR w lb 0 n ok e w' := by
  have hlt := blk_lt hb
  have c0 : w.cell? ⟨lb, 0, none⟩ = some (.int .i64 0) := blk_cell hb 0
  have f0 : w.frozen? ⟨lb, 0, none⟩ = false := blk_frozen hb 0
  have HB := Aside0.mk hb
  clear hb
  go_enter Try.func39, Try.ntmps39
  go_wp2_with fail
  go_ret
  have h1 := blk_set HB.out 0 (.int .i64 (-1))
  exact ⟨false, -1, rfl, (Below.heap_alloc _ _ _ (blk_lt h1)).trans h1, by simp, grown_trans' (grown_set (World.grownBy.refl w _) 0 _) (World.grownBy_alloc _ _ _)⟩

theorem valid_any (N : Nat) : ValidSaid N := by
  induction N with
  | zero =>
    intro x A5 c5 A6 c6 lb l w0 w hl0 hl1 hN hwf h5 h6 hk5 hk6 hw h0 hb
    obtain rfl : l = 0 := by omega
    obtain ⟨k, b, i, f, s, keys, kids⟩ := x
    exact valid_zero k b i f s keys.length kids.length A5 c5 A6 c6 lb w _ _ hb
  | succ N ih =>
    intro x A5 c5 A6 c6 lb l w0 w hl0 hl1 hN hwf h5 h6 hk5 hk6 hw h0 hb
    obtain ⟨k, b, i, f, s, keys, kids⟩ := x
    by_cases hz : l = 0
    · subst hz
      exact valid_zero k b i f s keys.length kids.length A5 c5 A6 c6 lb w _ _ hb
    · simp only [wfV] at hwf
      exact valid_step N (by omega) ih k b i f s keys kids A5 c5 A6 c6 lb l w0 w (by omega) (by omega) hwf.2 h5 h6 hk5 hk6 hw h0 hb

end Go.Proofs.Ytjnookhdiolhgaa
