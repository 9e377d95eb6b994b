/- FnPackInner: the walk. -/
import Derived.Test.YtjnookhdiolhgaaGood
import Derived.Test.YtjnookhdiolhgaaPackA
import Derived.Test.YtjnookhdiolhgaaPlawszzFits4
namespace Go.Proofs.Ytjnookhdiolhgaa
open Go.RowKit Go.Proofs.YtjnookhdiolhgaaW.PrintWords
open PAll (S26 k26 laws_zzFits2.l0 laws_zzFits2.f laws_zzFits4.f laws_zzFits4.calls)

theorem fits2_l0 (l : List ByteArray) (hl : l.length ≤ 9223372036854775807) (d : Nat) : ∀ i : Nat, i ≤ l.length → l.length - i = d → ∃ r, laws_zzFits2.l0 (d + 1) l (l.length : Int) (i : Int) = some r := by
  induction d with
  | zero =>
    intro i hi hd
    exact ⟨true, by rw [PAll.laws_zzFits2.l0, if_neg (by omega)]⟩
  | succ d ih =>
    intro i hi hd
    have e : wrap64 ((i : Int) + 1) = ((i + 1 : Nat) : Int) := by unfold wrap64; omega
    obtain ⟨r, hr⟩ := ih (i + 1) (by omega) (by omega)
    rw [PAll.laws_zzFits2.l0, if_pos (by omega), if_pos (by omega), if_pos (by omega), e]
    split
    · exact ⟨_, rfl⟩
    · exact ⟨r, hr⟩
theorem fits2_ex (l : List ByteArray) (hl : l.length ≤ 9223372036854775807) : ∃ k r, laws_zzFits2.f k l = some r := by
  obtain ⟨r, hr⟩ := fits2_l0 l hl l.length 0 (Nat.zero_le _) rfl
  refine ⟨l.length + 1, ?_⟩
  unfold laws_zzFits2.f
  split
  · exact ⟨_, rfl⟩
  · exact ⟨r, hr⟩
theorem fits4_any (x : S26) (A5 : Option Addr) (c5 : Nat) (A6 : Option Addr) (c6 : Nat) (w : World) (h5 : x.f5.length ≤ c5) (h6 : x.f6.length ≤ c6) (hk5 : Kd.C Kd.string w A5 x.f5.length x.f5) (hk6 : Kd.C k26 w A6 x.f6.length x.f6) :
    Calls Try.prog 15 #[valOf x A5 c5 A6 c6] w fun e w' => ∃ r : Bool, e = .returned (.bool r) ∧ Below w.heap.size w w' := by
  obtain ⟨k, r, hr⟩ := fits2_ex x.f5 hk5.2.1
  have hf : ∃ r, laws_zzFits4.f k x.f0 x.f1 x.f2 x.f3 x.f4 x.f5 x.f6 = some r := by
    unfold laws_zzFits4.f
    rw [hr]
    simp only [Option.bind_some]
    split
    · exact ⟨_, rfl⟩
    · split
      · split
        · exact ⟨_, rfl⟩
        · exact ⟨_, rfl⟩
      · exact ⟨_, rfl⟩
  obtain ⟨r2, hr2⟩ := hf
  exact (laws_zzFits4.calls k x.f0 x.f1 x.f2 x.f3 x.f4 A5 c5 x.f5 A6 c6 x.f6 r2 w hk5 h5 hk6 h6 hr2).mono fun e w' h => ⟨r2, h⟩

/-- What a Val that came in is in memory. -/
structure In (w : World) (x : S26) (A5 : Option Addr) (c5 : Nat) (A6 : Option Addr) (c6 : Nat) : Prop where
  wf : wfV x
  l5 : x.f5.length ≤ c5
  l6 : x.f6.length ≤ c6
  k5 : Kd.C Kd.string w A5 x.f5.length x.f5
  k6 : Kd.C k26 w A6 x.f6.length x.f6
theorem In.below {w w1 : World} {x : S26} {A5 : Option Addr} {c5 : Nat} {A6 : Option Addr} {c6 : Nat} (h : In w x A5 c5 A6 c6) (hb : Below w.heap.size w w1) : In w1 x A5 c5 A6 c6 :=
  ⟨h.wf, h.l5, h.l6, Kd.C_below h.k5 hb, Kd.C_below h.k6 hb⟩
theorem In.fits {w : World} {x : S26} {A5 : Option Addr} {c5 : Nat} {A6 : Option Addr} {c6 : Nat} (h : In w x A5 c5 A6 c6) :
    Calls Try.prog 15 #[valOf x A5 c5 A6 c6] w fun e w' => ∃ r : Bool, e = .returned (.bool r) ∧ Below w.heap.size w w' := fits4_any x A5 c5 A6 c6 w h.l5 h.l6 h.k5 h.k6
theorem In.good {w : World} {x : S26} {A5 : Option Addr} {c5 : Nat} {A6 : Option Addr} {c6 : Nat} (h : In w x A5 c5 A6 c6) :
    Calls Try.prog 16 #[valOf x A5 c5 A6 c6] w fun e w' => ∃ r : Bool, e = .returned (.bool r) ∧ Below w.heap.size w w' ∧ (r = true → okV x ∧ nodes x ≤ 400) := good_any x A5 c5 A6 c6 w h.wf h.l5 h.l6 h.k5 h.k6
theorem In.pack {w : World} {x : S26} {A5 : Option Addr} {c5 : Nat} {A6 : Option Addr} {c6 : Nat} (h : In w x A5 c5 A6 c6) (hok : okV x) (hn : nodes x ≤ 1000) :
    Calls Try.prog 17 #[valOf x A5 c5 A6 c6] w fun e w' => e = .returned (.tuple #[.string (strOfNums (enc x)), .int .i64 0]) ∧ Below w.heap.size w w' := Pack_any x A5 c5 A6 c6 w hok h.wf hn h.l5 h.l6 h.k5 h.k6

/-- The boxes of two Vals, and all that is older. -/
structure Two (w wi : World) (p q : Obj) : Prop where
  bel : Below w.heap.size w wi
  b0 : wi.heap[w.heap.size]? = some p
  b1 : wi.heap[w.heap.size + 1]? = some q
theorem Two.start (w : World) (p q : Obj) : Two w ((w.alloc p).alloc q) p q :=
  ⟨below_alloc (below_alloc (Below.refl _ _) _) _, (Below.heap_alloc _ _ _ (by simp)).trans (heap_alloc_new w _), by have h := heap_alloc_new (w.alloc p) q; rw [World.size_alloc] at h; exact h⟩
theorem Two.step {w wi wj : World} {p q : Obj} (h : Two w wi p q) (hb : Below wi.heap.size wi wj) : Two w wj p q :=
  ⟨h.bel.trans (hb.mono h.bel.size), (hb.block _ (blk_lt h.b0)).trans h.b0, (hb.block _ (blk_lt h.b1)).trans h.b1⟩

theorem str_append (a b : List Int) : strOfNums (a ++ b) = strOfNums a ++ strOfNums b := by
  have ofData : ∀ {a b : ByteArray}, a.data.toList = b.data.toList → a = b := by
    intro a b h
    cases a; cases b
    simp at h
    rw [h]
  apply ofData
  unfold strOfNums
  simp
theorem str_size (l : List Int) : (strOfNums l).size = l.length := by
  unfold strOfNums
  show (List.map _ l).toArray.size = _
  simp
theorem enc_size {x : S26} (h : okV x) (hn : nodes x ≤ 400) : (strOfNums (enc x)).size ≤ 248000 := by
  have := enc_len x h
  rw [str_size]
  omega

/-- The pair of two Vals in a new row. -/
theorem pair_in (wi : World) (k i : Int) (x : S26) (A5 : Option Addr) (c5 : Nat) (A6 : Option Addr) (c6 : Nat) (y : S26) (B5 : Option Addr) (d5 : Nat) (B6 : Option Addr) (d6 : Nat) (hx : In wi x A5 c5 A6 c6) (hy : In wi y B5 d5 B6 d6) (hi0 : 0 ≤ i) (hi1 : i ≤ 255) :
    In (wi.alloc (.cells #[.int .i64 x.f0, .bool x.f1, .int .i64 x.f2, .int .u64 x.f3, .string x.f4, .slice A5 x.f5.length c5, .slice A6 x.f6.length c6, .int .i64 y.f0, .bool y.f1, .int .i64 y.f2, .int .u64 y.f3, .string y.f4, .slice B5 y.f5.length d5, .slice B6 y.f6.length d6] 26))
      ⟨k, false, i, 0, ⟨#[]⟩, [], [x, y]⟩ none 0 (some ⟨wi.heap.size, 0, none⟩) 2 := by
  have hb := below_alloc (Below.refl wi.heap.size wi) (.cells #[.int .i64 x.f0, .bool x.f1, .int .i64 x.f2, .int .u64 x.f3, .string x.f4, .slice A5 x.f5.length c5, .slice A6 x.f6.length c6, .int .i64 y.f0, .bool y.f1, .int .i64 y.f2, .int .u64 y.f3, .string y.f4, .slice B5 y.f5.length d5, .slice B6 y.f6.length d6] 26)
  have hn := heap_alloc_new wi (.cells #[.int .i64 x.f0, .bool x.f1, .int .i64 x.f2, .int .u64 x.f3, .string x.f4, .slice A5 x.f5.length c5, .slice A6 x.f6.length c6, .int .i64 y.f0, .bool y.f1, .int .i64 y.f2, .int .u64 y.f3, .string y.f4, .slice B5 y.f5.length d5, .slice B6 y.f6.length d6] 26)
  have hx2 := hx.below hb
  have hy2 := hy.below hb
  refine ⟨⟨⟨by omega, by omega, by decide, by decide⟩, hx.wf, hy.wf, trivial⟩, by simp, by simp, C_none _ _, ⟨rfl, by simp, fun _ => ⟨_, rfl, fun j p hj => ?_⟩⟩⟩
  match j, hj with
  | 0, hj =>
    obtain rfl : x = p := by simpa using hj
    refine ⟨_, rfl, PAll.k26_mk _ x hx2.l5 hx2.k5 hx2.l6 hx2.k6, fun q u hq => ?_⟩
    match q, hq with
    | 0, hq | 1, hq | 2, hq | 3, hq | 4, hq | 5, hq | 6, hq =>
      have hq' := Option.some.inj hq
      subst hq'
      exact blk_cell hn _
  | 1, hj =>
    obtain rfl : y = p := by simpa using hj
    refine ⟨_, rfl, PAll.k26_mk _ y hy2.l5 hy2.k5 hy2.l6 hy2.k6, fun q u hq => ?_⟩
    match q, hq with
    | 0, hq | 1, hq | 2, hq | 3, hq | 4, hq | 5, hq | 6, hq =>
      have hq' := Option.some.inj hq
      subst hq'
      exact blk_cell hn _

theorem pair_list (wi : World) (x : S26) (A5 : Option Addr) (c5 : Nat) (A6 : Option Addr) (c6 : Nat) (y : S26) (B5 : Option Addr) (d5 : Nat) (B6 : Option Addr) (d6 : Nat) (hx : In wi x A5 c5 A6 c6) (hy : In wi y B5 d5 B6 d6) (hox : okV x) (hoy : okV y) (hnx : nodes x ≤ 400) (hny : nodes y ≤ 400) :
    Calls Try.prog 17 #[.agg #[.int .i64 6, .bool false, .int .i64 0, .int .u64 0, .string ⟨#[]⟩, .slice none 0 0, .slice (some ⟨wi.heap.size, 0, none⟩) 2 2]]
      (wi.alloc (.cells #[.int .i64 x.f0, .bool x.f1, .int .i64 x.f2, .int .u64 x.f3, .string x.f4, .slice A5 x.f5.length c5, .slice A6 x.f6.length c6, .int .i64 y.f0, .bool y.f1, .int .i64 y.f2, .int .u64 y.f3, .string y.f4, .slice B5 y.f5.length d5, .slice B6 y.f6.length d6] 26))
      fun e w' => e = .returned (.tuple #[.string (⟨#[146]⟩ ++ strOfNums (enc x) ++ strOfNums (enc y)), .int .i64 0]) ∧ Below wi.heap.size wi w' := by
  have h := (pair_in wi 6 0 x A5 c5 A6 c6 y B5 d5 B6 d6 hx hy (by decide) (by decide)).pack
    ⟨⟨by decide, by decide, Nat.zero_le _, fun _ => rfl, fun _ _ => rfl, fun _ => rfl, fun _ _ => rfl, fun _ => rfl, fun h => absurd h (by decide), fun h => absurd h (by decide), fun h => absurd h (by decide), fun t h => by cases h⟩, hox, hoy, trivial⟩
    (by simp only [nodes, nodesAll]; omega)
  have he : strOfNums (enc ⟨6, false, 0, 0, ⟨#[]⟩, [], [x, y]⟩) = ⟨#[146]⟩ ++ strOfNums (enc x) ++ strOfNums (enc y) := by
    have e1 : enc ⟨6, false, 0, 0, ⟨#[]⟩, [], [x, y]⟩ = ([146] ++ enc x) ++ enc y := by simp [enc, encTop, encKids, encHead]
    rw [e1, str_append, str_append]
    rfl
  rw [he] at h
  exact h.mono fun e w' h => ⟨h.1, (below_alloc (Below.refl wi.heap.size wi) _).trans (h.2.mono (by simp))⟩
theorem pair_struct (wi : World) (x : S26) (A5 : Option Addr) (c5 : Nat) (A6 : Option Addr) (c6 : Nat) (y : S26) (B5 : Option Addr) (d5 : Nat) (B6 : Option Addr) (d6 : Nat) (hx : In wi x A5 c5 A6 c6) (hy : In wi y B5 d5 B6 d6) (hox : okV x) (hoy : okV y) (hnx : nodes x ≤ 400) (hny : nodes y ≤ 400) :
    Calls Try.prog 17 #[.agg #[.int .i64 8, .bool false, .int .i64 78, .int .u64 0, .string ⟨#[]⟩, .slice none 0 0, .slice (some ⟨wi.heap.size, 0, none⟩) 2 2]]
      (wi.alloc (.cells #[.int .i64 x.f0, .bool x.f1, .int .i64 x.f2, .int .u64 x.f3, .string x.f4, .slice A5 x.f5.length c5, .slice A6 x.f6.length c6, .int .i64 y.f0, .bool y.f1, .int .i64 y.f2, .int .u64 y.f3, .string y.f4, .slice B5 y.f5.length d5, .slice B6 y.f6.length d6] 26))
      fun e w' => e = .returned (.tuple #[.string (⟨#[178, 78]⟩ ++ strOfNums (enc x) ++ strOfNums (enc y)), .int .i64 0]) ∧ Below wi.heap.size wi w' := by
  have h := (pair_in wi 8 78 x A5 c5 A6 c6 y B5 d5 B6 d6 hx hy (by decide) (by decide)).pack
    ⟨⟨by decide, by decide, Nat.zero_le _, fun _ => rfl, fun _ h => absurd rfl h, fun _ => rfl, fun _ _ => rfl, fun _ => rfl, fun h => absurd h (by decide), fun _ => ⟨by decide, by decide, by simp⟩, fun h => absurd h (by decide), fun t h => by cases h⟩, hox, hoy, trivial⟩
    (by simp only [nodes, nodesAll]; omega)
  have he : strOfNums (enc ⟨8, false, 78, 0, ⟨#[]⟩, [], [x, y]⟩) = ⟨#[178, 78]⟩ ++ strOfNums (enc x) ++ strOfNums (enc y) := by
    have e1 : enc ⟨8, false, 78, 0, ⟨#[]⟩, [], [x, y]⟩ = ([178, 78] ++ enc x) ++ enc y := by simp [enc, encTop, encKids]
    rw [e1, str_append, str_append]
    rfl
  rw [he] at h
  exact h.mono fun e w' h => ⟨h.1, (below_alloc (Below.refl wi.heap.size wi) _).trans (h.2.mono (by simp))⟩

set_option maxHeartbeats 4000000 in
set_option maxRecDepth 100000 in
theorem FnPackInner_walk (x : S26) (A5 : Option Addr) (c5 : Nat) (A6 : Option Addr) (c6 : Nat) (y : S26) (B5 : Option Addr) (d5 : Nat) (B6 : Option Addr) (d6 : Nat) (w : World) (hx : In w x A5 c5 A6 c6) (hy : In w y B5 d5 B6 d6) :
    Calls Try.prog 3 #[valOf x A5 c5 A6 c6, valOf y B5 d5 B6 d6] w fun e w' => e = .returned (.bool true) ∧ Below w.heap.size w w' := by
  have HFX := Aside0.mk (fun wi (hb : Below w.heap.size w wi) => (hx.below hb).fits)
  have HFY := Aside0.mk (fun wi (hb : Below w.heap.size w wi) => (hy.below hb).fits)
  have HGX := Aside0.mk (fun wi (hb : Below w.heap.size w wi) => (hx.below hb).good)
  have HGY := Aside0.mk (fun wi (hb : Below w.heap.size w wi) => (hy.below hb).good)
  have HPX := Aside0.mk (fun wi (hb : Below w.heap.size w wi) => (hx.below hb).pack)
  have HPY := Aside0.mk (fun wi (hb : Below w.heap.size w wi) => (hy.below hb).pack)
  have HL := Aside0.mk (fun wi (hb : Below w.heap.size w wi) => pair_list wi x A5 c5 A6 c6 y B5 d5 B6 d6 (hx.below hb) (hy.below hb))
  have HS := Aside0.mk (fun wi (hb : Below w.heap.size w wi) => pair_struct wi x A5 c5 A6 c6 y B5 d5 B6 d6 (hx.below hb) (hy.below hb))
  have HSX := Aside0.mk (fun (h : okV x) (hn : nodes x ≤ 400) => enc_size h hn)
  have HSY := Aside0.mk (fun (h : okV y) (hn : nodes y ≤ 400) => enc_size h hn)
  generalize strOfNums (enc x) = sx at *
  generalize strOfNums (enc y) = sy at *
  have HT := Aside0.mk (Two.start w (.cells #[.int .i64 x.f0, .bool x.f1, .int .i64 x.f2, .int .u64 x.f3, .string x.f4, .slice A5 x.f5.length c5, .slice A6 x.f6.length c6] 26)
    (.cells #[.int .i64 y.f0, .bool y.f1, .int .i64 y.f2, .int .u64 y.f3, .string y.f4, .slice B5 y.f5.length d5, .slice B6 y.f6.length d6] 26))
  clear hx hy
  unfold valOf at *
  go_enter Try.func3, Try.ntmps3
  go_wp2_with fail
  refine (HFX.out _ HT.out.bel).mono ?_
  rintro e w1 ⟨r, rfl, hb⟩
  have HT1 := Aside0.mk (HT.out.step hb)
  obtain ⟨p0, p1, p2, p3, p4, p5, p6⟩ := box7 HT1.out.b0
  obtain ⟨q0, q1, q2, q3, q4, q5, q6⟩ := box7 HT1.out.b1
  clear hb HT
  cases r
  case false =>
    go_wp2_with fail
    go_ret
    exact ⟨rfl, HT1.out.bel⟩
  case true =>
    go_wp2_with fail
    refine (HFY.out _ HT1.out.bel).mono ?_
    rintro e w2 ⟨r, rfl, hb⟩
    have HT2 := Aside0.mk (HT1.out.step hb)
    clear p0 p1 p2 p3 p4 p5 p6 q0 q1 q2 q3 q4 q5 q6
    obtain ⟨p0, p1, p2, p3, p4, p5, p6⟩ := box7 HT2.out.b0
    obtain ⟨q0, q1, q2, q3, q4, q5, q6⟩ := box7 HT2.out.b1
    clear hb HT1
    cases r
    case false =>
      go_wp2_with fail
      go_ret
      exact ⟨rfl, HT2.out.bel⟩
    case true =>
      go_wp2_with fail
      refine (HGX.out _ HT2.out.bel).mono ?_
      rintro e w3 ⟨r, rfl, hb, hok⟩
      have HT3 := Aside0.mk (HT2.out.step hb)
      clear p0 p1 p2 p3 p4 p5 p6 q0 q1 q2 q3 q4 q5 q6
      obtain ⟨p0, p1, p2, p3, p4, p5, p6⟩ := box7 HT3.out.b0
      obtain ⟨q0, q1, q2, q3, q4, q5, q6⟩ := box7 HT3.out.b1
      have HOX := Aside0.mk hok
      clear hb HT2 hok
      cases r
      case false =>
        go_wp2_with fail
        go_ret
        exact ⟨rfl, HT3.out.bel⟩
      case true =>
        go_wp2_with fail
        refine (HGY.out _ HT3.out.bel).mono ?_
        rintro e w4 ⟨r, rfl, hb, hok⟩
        have HT4 := Aside0.mk (HT3.out.step hb)
        clear p0 p1 p2 p3 p4 p5 p6 q0 q1 q2 q3 q4 q5 q6
        obtain ⟨p0, p1, p2, p3, p4, p5, p6⟩ := box7 HT4.out.b0
        obtain ⟨q0, q1, q2, q3, q4, q5, q6⟩ := box7 HT4.out.b1
        have HOY := Aside0.mk hok
        clear hb HT3 hok
        cases r
        case false =>
          go_wp2_with fail
          go_ret
          exact ⟨rfl, HT4.out.bel⟩
        case true =>
          go_wp2_with fail
          obtain ⟨ox, nx⟩ := HOX.out trivial
          obtain ⟨oy, ny⟩ := HOY.out trivial
          have HK := Aside0.mk (And.intro (And.intro ox nx) (And.intro oy ny))
          have hsx : sx.size ≤ 248000 := HSX.out ox nx
          have hsy : sy.size ≤ 248000 := HSY.out oy ny
          clear ox nx oy ny HOX HOY
          refine (HL.out _ HT4.out.bel HK.out.1.1 HK.out.2.1 HK.out.1.2 HK.out.2.2).mono ?_
          rintro e w5 ⟨rfl, hb⟩
          have HT5 := Aside0.mk (HT4.out.step hb)
          clear p0 p1 p2 p3 p4 p5 p6 q0 q1 q2 q3 q4 q5 q6
          obtain ⟨p0, p1, p2, p3, p4, p5, p6⟩ := box7 HT5.out.b0
          obtain ⟨q0, q1, q2, q3, q4, q5, q6⟩ := box7 HT5.out.b1
          clear hb HT4
          go_wp2_with fail
          refine (HPX.out _ HT5.out.bel HK.out.1.1 (by have := HK.out.1.2; omega)).mono ?_
          rintro e w6 ⟨rfl, hb⟩
          have HT6 := Aside0.mk (HT5.out.step hb)
          clear p0 p1 p2 p3 p4 p5 p6 q0 q1 q2 q3 q4 q5 q6
          obtain ⟨p0, p1, p2, p3, p4, p5, p6⟩ := box7 HT6.out.b0
          obtain ⟨q0, q1, q2, q3, q4, q5, q6⟩ := box7 HT6.out.b1
          clear hb HT5
          go_wp2_with fail
          refine (HPY.out _ HT6.out.bel HK.out.2.1 (by have := HK.out.2.2; omega)).mono ?_
          rintro e w7 ⟨rfl, hb⟩
          have HT7 := Aside0.mk (HT6.out.step hb)
          clear p0 p1 p2 p3 p4 p5 p6 q0 q1 q2 q3 q4 q5 q6
          obtain ⟨p0, p1, p2, p3, p4, p5, p6⟩ := box7 HT7.out.b0
          obtain ⟨q0, q1, q2, q3, q4, q5, q6⟩ := box7 HT7.out.b1
          clear hb HT6
          go_wp2_with fail
          refine (HS.out _ HT7.out.bel HK.out.1.1 HK.out.2.1 HK.out.1.2 HK.out.2.2).mono ?_
          rintro e w8 ⟨rfl, hb⟩
          have HT8 := Aside0.mk (HT7.out.step hb)
          clear p0 p1 p2 p3 p4 p5 p6 q0 q1 q2 q3 q4 q5 q6 hb HT7
          go_wp2_with fail
          refine (alive_any _).mono ?_
          rintro e w9 ⟨rfl, hb⟩
          have HB := Aside0.mk (HT8.out.bel.trans (hb.mono HT8.out.bel.size))
          clear hb HT8
          go_wp2_with fail
          go_ret
          exact ⟨rfl, HB.out⟩
theorem FnPackInner_row (x : S26) (A5 : Option Addr) (c5 : Nat) (A6 : Option Addr) (c6 : Nat) (y : S26) (B5 : Option Addr) (d5 : Nat) (B6 : Option Addr) (d6 : Nat) (w : World)
    (hwf : wfV x) (h5 : x.f5.length ≤ c5) (h6 : x.f6.length ≤ c6) (hk5 : Kd.C Kd.string w A5 x.f5.length x.f5) (hk6 : Kd.C k26 w A6 x.f6.length x.f6)
    (hwfy : wfV y) (g5 : y.f5.length ≤ d5) (g6 : y.f6.length ≤ d6) (gk5 : Kd.C Kd.string w B5 y.f5.length y.f5) (gk6 : Kd.C k26 w B6 y.f6.length y.f6) :
    Calls Try.prog 3 #[valOf x A5 c5 A6 c6, valOf y B5 d5 B6 d6] w fun e w' => e = .returned (.bool true) ∧ Below w.heap.size w w' :=
  FnPackInner_walk x A5 c5 A6 c6 y B5 d5 B6 d6 w ⟨hwf, h5, h6, hk5, hk6⟩ ⟨hwfy, g5, g6, gk5, gk6⟩
end Go.Proofs.Ytjnookhdiolhgaa
