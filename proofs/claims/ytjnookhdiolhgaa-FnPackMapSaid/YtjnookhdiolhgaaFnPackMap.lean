/- FnPackMap: the walk. -/
import Derived.Test.YtjnookhdiolhgaaPackMap
import Derived.Test.YtjnookhdiolhgaaFnPackCut
import Derived.OpenShut
namespace Go.Proofs.Ytjnookhdiolhgaa
set_option linter.unusedVariables false
set_option linter.unusedSimpArgs false
open Go.RowKit Go.Proofs.YtjnookhdiolhgaaW.PrintWords
open PAll (S26 k26)

/-- A leaf as a value. -/
def leaf (k i f : Int) (s : ByteArray) : S26 := ⟨k, false, i, f, s, [], []⟩
theorem leaf_in (wi : World) (k i f : Int) (s : ByteArray) (hi0 : -9223372036854775808 ≤ i) (hi1 : i < 9223372036854775808) (hf0 : 0 ≤ f) (hf1 : f < 18446744073709551616) : In wi (leaf k i f s) none 0 none 0 :=
  ⟨⟨⟨hi0, hi1, hf0, hf1⟩, trivial⟩, Nat.le_refl _, Nat.le_refl _, C_none _ _, C_none _ _⟩
/-- The world behind the rows of one key and one value. -/
def rowsW (wi : World) (key : ByteArray) (k i f : Int) (s : ByteArray) : World := (wi.alloc (.cells #[.string key] 9)).alloc (.cells #[.int .i64 k, .bool false, .int .i64 i, .int .u64 f, .string s, .slice none 0 0, .slice none 0 0] 26)
theorem one_in (wi : World) (key : ByteArray) (k i f : Int) (s : ByteArray) (hx : ∀ wj, In wj (leaf k i f s) none 0 none 0) :
    In (rowsW wi key k i f s) ⟨7, false, 0, 0, ⟨#[]⟩, [key], [leaf k i f s]⟩ (some ⟨wi.heap.size, 0, none⟩) 1 (some ⟨wi.heap.size + 1, 0, none⟩) 1 := by
  have hn := heap_alloc_new (wi.alloc (.cells #[.string key] 9)) (.cells #[.int .i64 k, .bool false, .int .i64 i, .int .u64 f, .string s, .slice none 0 0, .slice none 0 0] 26)
  rw [World.size_alloc] at hn
  have hk := (Below.heap_alloc (wi.alloc (.cells #[.string key] 9)) (.cells #[.int .i64 k, .bool false, .int .i64 i, .int .u64 f, .string s, .slice none 0 0, .slice none 0 0] 26) wi.heap.size (by rw [World.size_alloc]; omega)).trans (heap_alloc_new wi (.cells #[.string key] 9))
  have hx2 := hx (rowsW wi key k i f s)
  refine ⟨⟨⟨by decide, by decide, by decide, by decide⟩, hx2.wf, trivial⟩, Nat.le_refl _, Nat.le_refl _, ⟨rfl, by simp, fun _ => ⟨_, rfl, fun j p hj => ?_⟩⟩, ⟨rfl, by simp, fun _ => ⟨_, rfl, fun j p hj => ?_⟩⟩⟩
  · match j, hj with
    | 0, hj =>
      obtain rfl : key = p := by simpa using hj
      refine ⟨[.string key], rfl, rfl, fun q u hq => ?_⟩
      match q, hq with
      | 0, hq =>
        have hq' := Option.some.inj hq
        subst hq'
        exact blk_cell hk _
  · match j, hj with
    | 0, hj =>
      obtain rfl : leaf k i f s = p := by simpa using hj
      refine ⟨_, rfl, PAll.k26_mk _ (leaf k i f s) hx2.l5 hx2.k5 hx2.l6 hx2.k6, fun q u hq => ?_⟩
      match q, hq with
      | 0, hq | 1, hq | 2, hq | 3, hq | 4, hq | 5, hq | 6, hq =>
        have hq' := Option.some.inj hq
        subst hq'
        exact blk_cell hn _
theorem map_pack (wi : World) (key : ByteArray) (k i f : Int) (s : ByteArray) (hkey : key.size ≤ 300) (hx : ∀ wj, In wj (leaf k i f s) none 0 none 0) (hok : okV (leaf k i f s)) :
    Calls Try.prog 17 #[.agg #[.int .i64 7, .bool false, .int .i64 0, .int .u64 0, .string ⟨#[]⟩, .slice (some ⟨wi.heap.size, 0, none⟩) 1 1, .slice (some ⟨wi.heap.size + 1, 0, none⟩) 1 1]]
      (rowsW wi key k i f s) fun e w' => e = .returned (.tuple #[.string (strOfNums (encHead 160 216 1 ++ encText key ++ enc (leaf k i f s))), .int .i64 0]) ∧ Below wi.heap.size wi w' := by
  have h := (one_in wi key k i f s hx).pack
    ⟨⟨by decide, by decide, Nat.zero_le _, fun _ => rfl, fun _ _ => rfl, fun _ => rfl, fun _ _ => rfl, fun h => absurd rfl h, fun h => absurd h (by decide), fun h => absurd h (by decide), fun _ => rfl, fun t h => by
      have := List.mem_singleton.1 h
      rw [this]
      exact hkey⟩, hok, trivial⟩
    (by simp only [nodes, nodesAll, leaf]; omega)
  have he : enc ⟨7, false, 0, 0, ⟨#[]⟩, [key], [leaf k i f s]⟩ = encHead 160 216 1 ++ encText key ++ enc (leaf k i f s) := by
    simp only [enc, encKids, List.length_cons, List.length_nil]
    rw [show ((7 : Int) == 7) = true from rfl]
    simp [encTop, List.append_assoc]
  rw [he] at h
  exact h.mono fun e w' h => ⟨h.1, (below_alloc (below_alloc (Below.refl wi.heap.size wi) _) _).trans (h.2.mono (by unfold rowsW; simp only [World.size_alloc]; omega))⟩

set_option maxHeartbeats 4000000 in
set_option maxRecDepth 100000 in
theorem fmap0 (way : Int) (key : ByteArray) (i f : Int) (s : ByteArray) (w : World) (hk5 : way % 5 = 0) (hw0 : 0 ≤ way) (hw1 : way ≤ 255) (hi0 : -9223372036854775808 ≤ i) (hi1 : i < 9223372036854775808) (hf0 : 0 ≤ f) (hf1 : f < 18446744073709551616) :
    Calls Try.prog 7 #[.int .u8 way, .string key, .int .i64 i, .int .u64 f, .string s] w fun e w' => e = .returned (.bool true) ∧ Below w.heap.size w w' := by
  have hk2 : way.tmod 5 = 0 := by rw [Int.tmod_eq_emod_of_nonneg hw0]; exact hk5
  have HL := Aside0.mk (fun (hk : key.size ≤ 300) (hs : s.size ≤ 300) (wi : World) => map0 key s i f wi hk hs hi0 hi1 hf0 hf1)
  have HE := Aside0.mk (fun (wi : World) => map0e key s i f wi)
  have HP := Aside0.mk (fun (hk : key.size ≤ 300) (hs : s.size ≤ 300) (wi : World) => map_pack wi key 2 i 0 ⟨#[]⟩ hk (fun wj => leaf_in wj 2 i 0 ⟨#[]⟩ hi0 hi1 (by decide) (by decide)) ⟨⟨by decide, by decide, Nat.zero_le _, fun _ => rfl, fun h => absurd rfl h, fun _ => rfl, fun _ _ => rfl, fun _ => rfl, fun _ => rfl, fun h => absurd h (by decide), fun h => absurd h (by decide), fun t h => by cases h⟩, trivial⟩)
  have he : enc (leaf 2 i 0 ⟨#[]⟩) = encInt i := by simp [leaf, enc, encTop, encKids]
  rw [he] at HP
  have hem : strOfNums (encHead 160 216 0) = ⟨#[160]⟩ := rfl
  rw [hem] at HE
  clear he hem hi0 hi1 hf0 hf1
  have HZ := Aside0.mk (fun (hk : key.size ≤ 300) (hs : s.size ≤ 300) => show (strOfNums (encHead 160 216 1 ++ encText key ++ encInt i)).size ≤ 100000 by
    rw [str_size]
    have h1 := encHead_len 160 216 1
    have h2 := encHead_len 128 208 key.size
    have h3 := encHead_len 128 208 s.size
    have h4 : (encInt i).length ≤ 9 := by unfold encInt; repeat' split
                                          all_goals simp
    unfold encText
    simp only [List.length_append, bytesOf_length]
    omega)
  generalize strOfNums (encHead 160 216 1 ++ encText key ++ encInt i) = sx at *
  go_enter Try.func7, Try.ntmps7
  by_cases h1 : (key.size : Int) > 2147483647
  · go_wp2_with fail
    go_ret
    exact ⟨rfl, Below.refl _ _⟩
  by_cases h2 : (s.size : Int) > 2147483647
  · go_wp2_with fail
    go_ret
    exact ⟨rfl, Below.refl _ _⟩
  by_cases h3 : (key.size : Int) > 300
  · go_wp2_with fail
    go_ret
    exact ⟨rfl, Below.refl _ _⟩
  by_cases h4 : (s.size : Int) > 300
  · go_wp2_with fail
    go_ret
    exact ⟨rfl, Below.refl _ _⟩
  have HK := Aside0.mk (show key.size ≤ 300 ∧ s.size ≤ 300 by omega)
  have hsx := HZ.out HK.out.1 HK.out.2
  clear HZ h1 h2
  go_wp2_with fail
  refine (HL.out HK.out.1 HK.out.2 _).mono ?_
  rintro e w1 ⟨rfl, hb⟩
  have HT1 := Aside0.mk (show One (w.alloc (.cells #[.int .i64 2, .bool false, .int .i64 i, .int .u64 0, .string ⟨#[]⟩, .slice none 0 0, .slice none 0 0, .int .i64 2, .bool false, .int .i64 i, .int .u64 0, .string ⟨#[]⟩, .slice none 0 0, .slice none 0 0, .int .i64 3, .bool false, .int .i64 0, .int .u64 f, .string ⟨#[]⟩, .slice none 0 0, .slice none 0 0, .int .i64 4, .bool false, .int .i64 0, .int .u64 0, .string s, .slice none 0 0, .slice none 0 0, .int .i64 5, .bool false, .int .i64 0, .int .u64 0, .string s, .slice none 0 0, .slice none 0 0] 26)) w1 _ from (One.start (w.alloc (.cells #[.int .i64 2, .bool false, .int .i64 i, .int .u64 0, .string ⟨#[]⟩, .slice none 0 0, .slice none 0 0, .int .i64 2, .bool false, .int .i64 i, .int .u64 0, .string ⟨#[]⟩, .slice none 0 0, .slice none 0 0, .int .i64 3, .bool false, .int .i64 0, .int .u64 f, .string ⟨#[]⟩, .slice none 0 0, .slice none 0 0, .int .i64 4, .bool false, .int .i64 0, .int .u64 0, .string s, .slice none 0 0, .slice none 0 0, .int .i64 5, .bool false, .int .i64 0, .int .u64 0, .string s, .slice none 0 0, .slice none 0 0] 26)) _).step hb)
  clear hb HL
  go_wp2_with fail
  refine (HE.out _).mono ?_
  rintro e w2 ⟨rfl, hb⟩
  have HT2 := Aside0.mk (HT1.out.step hb)
  obtain ⟨q0, q1, q2, q3, q4, q5, q6⟩ := box7 HT2.out.b0
  simp only [World.size_alloc] at q0 q1 q2 q3 q4 q5 q6
  have hlt2 : w.heap.size + 1 < w2.heap.size := by have := blk_lt HT2.out.b0; simpa only [World.size_alloc] using this
  clear hb HE HT1
  go_wp2_with fail
  refine (HP.out HK.out.1 HK.out.2 w2).mono ?_
  rintro e w3 ⟨rfl, hb⟩
  have HB3 := Aside0.mk ((below_alloc (Below.refl w.heap.size w) _).trans ((HT2.out.bel.mono (by rw [World.size_alloc]; omega)).trans (hb.mono (by omega))))
  clear hb HP HT2 q0 q1 q2 q3 q4 q5 q6
  go_wp2_with fail
  refine (alive_any _).mono ?_
  rintro e w6 ⟨rfl, hb⟩
  have HB6 := Aside0.mk (HB3.out.trans (hb.mono HB3.out.size))
  clear hb HB3
  go_wp2_with fail
  go_ret
  exact ⟨rfl, HB6.out⟩

set_option maxHeartbeats 4000000 in
set_option maxRecDepth 100000 in
theorem fmap1 (way : Int) (key : ByteArray) (i f : Int) (s : ByteArray) (w : World) (hk5 : way % 5 = 1) (hw0 : 0 ≤ way) (hw1 : way ≤ 255) (hi0 : -9223372036854775808 ≤ i) (hi1 : i < 9223372036854775808) (hf0 : 0 ≤ f) (hf1 : f < 18446744073709551616) :
    Calls Try.prog 7 #[.int .u8 way, .string key, .int .i64 i, .int .u64 f, .string s] w fun e w' => e = .returned (.bool true) ∧ Below w.heap.size w w' := by
  have hk2 : way.tmod 5 = 1 := by rw [Int.tmod_eq_emod_of_nonneg hw0]; exact hk5
  have HL := Aside0.mk (fun (hk : key.size ≤ 300) (hs : s.size ≤ 300) (wi : World) => map1 key s i f wi hk hs hi0 hi1 hf0 hf1)
  have HE := Aside0.mk (fun (wi : World) => map1e key s i f wi)
  have HP := Aside0.mk (fun (hk : key.size ≤ 300) (hs : s.size ≤ 300) (wi : World) => map_pack wi key 2 i 0 ⟨#[]⟩ hk (fun wj => leaf_in wj 2 i 0 ⟨#[]⟩ hi0 hi1 (by decide) (by decide)) ⟨⟨by decide, by decide, Nat.zero_le _, fun _ => rfl, fun h => absurd rfl h, fun _ => rfl, fun _ _ => rfl, fun _ => rfl, fun _ => rfl, fun h => absurd h (by decide), fun h => absurd h (by decide), fun t h => by cases h⟩, trivial⟩)
  have he : enc (leaf 2 i 0 ⟨#[]⟩) = encInt i := by simp [leaf, enc, encTop, encKids]
  rw [he] at HP
  have hem : strOfNums (encHead 160 216 0) = ⟨#[160]⟩ := rfl
  rw [hem] at HE
  clear he hem hi0 hi1 hf0 hf1
  have HZ := Aside0.mk (fun (hk : key.size ≤ 300) (hs : s.size ≤ 300) => show (strOfNums (encHead 160 216 1 ++ encText key ++ encInt i)).size ≤ 100000 by
    rw [str_size]
    have h1 := encHead_len 160 216 1
    have h2 := encHead_len 128 208 key.size
    have h3 := encHead_len 128 208 s.size
    have h4 : (encInt i).length ≤ 9 := by unfold encInt; repeat' split
                                          all_goals simp
    unfold encText
    simp only [List.length_append, bytesOf_length]
    omega)
  generalize strOfNums (encHead 160 216 1 ++ encText key ++ encInt i) = sx at *
  go_enter Try.func7, Try.ntmps7
  by_cases h1 : (key.size : Int) > 2147483647
  · go_wp2_with fail
    go_ret
    exact ⟨rfl, Below.refl _ _⟩
  by_cases h2 : (s.size : Int) > 2147483647
  · go_wp2_with fail
    go_ret
    exact ⟨rfl, Below.refl _ _⟩
  by_cases h3 : (key.size : Int) > 300
  · go_wp2_with fail
    go_ret
    exact ⟨rfl, Below.refl _ _⟩
  by_cases h4 : (s.size : Int) > 300
  · go_wp2_with fail
    go_ret
    exact ⟨rfl, Below.refl _ _⟩
  have HK := Aside0.mk (show key.size ≤ 300 ∧ s.size ≤ 300 by omega)
  have hsx := HZ.out HK.out.1 HK.out.2
  clear HZ h1 h2
  go_wp2_with fail
  refine (HL.out HK.out.1 HK.out.2 _).mono ?_
  rintro e w1 ⟨rfl, hb⟩
  have HT1 := Aside0.mk (show One (w.alloc (.cells #[.int .i64 2, .bool false, .int .i64 i, .int .u64 0, .string ⟨#[]⟩, .slice none 0 0, .slice none 0 0, .int .i64 2, .bool false, .int .i64 i, .int .u64 0, .string ⟨#[]⟩, .slice none 0 0, .slice none 0 0, .int .i64 3, .bool false, .int .i64 0, .int .u64 f, .string ⟨#[]⟩, .slice none 0 0, .slice none 0 0, .int .i64 4, .bool false, .int .i64 0, .int .u64 0, .string s, .slice none 0 0, .slice none 0 0, .int .i64 5, .bool false, .int .i64 0, .int .u64 0, .string s, .slice none 0 0, .slice none 0 0] 26)) w1 _ from (One.start (w.alloc (.cells #[.int .i64 2, .bool false, .int .i64 i, .int .u64 0, .string ⟨#[]⟩, .slice none 0 0, .slice none 0 0, .int .i64 2, .bool false, .int .i64 i, .int .u64 0, .string ⟨#[]⟩, .slice none 0 0, .slice none 0 0, .int .i64 3, .bool false, .int .i64 0, .int .u64 f, .string ⟨#[]⟩, .slice none 0 0, .slice none 0 0, .int .i64 4, .bool false, .int .i64 0, .int .u64 0, .string s, .slice none 0 0, .slice none 0 0, .int .i64 5, .bool false, .int .i64 0, .int .u64 0, .string s, .slice none 0 0, .slice none 0 0] 26)) _).step hb)
  clear hb HL
  go_wp2_with fail
  refine (HE.out _).mono ?_
  rintro e w2 ⟨rfl, hb⟩
  have HT2 := Aside0.mk (HT1.out.step hb)
  obtain ⟨q0, q1, q2, q3, q4, q5, q6⟩ := box7 HT2.out.b0
  simp only [World.size_alloc] at q0 q1 q2 q3 q4 q5 q6
  have hlt2 : w.heap.size + 1 < w2.heap.size := by have := blk_lt HT2.out.b0; simpa only [World.size_alloc] using this
  clear hb HE HT1
  go_wp2_with fail
  refine (HP.out HK.out.1 HK.out.2 w2).mono ?_
  rintro e w3 ⟨rfl, hb⟩
  have HB3 := Aside0.mk ((below_alloc (Below.refl w.heap.size w) _).trans ((HT2.out.bel.mono (by rw [World.size_alloc]; omega)).trans (hb.mono (by omega))))
  clear hb HP HT2 q0 q1 q2 q3 q4 q5 q6
  go_wp2_with fail
  refine (alive_any _).mono ?_
  rintro e w6 ⟨rfl, hb⟩
  have HB6 := Aside0.mk (HB3.out.trans (hb.mono HB3.out.size))
  clear hb HB3
  go_wp2_with fail
  go_ret
  exact ⟨rfl, HB6.out⟩

set_option maxHeartbeats 4000000 in
set_option maxRecDepth 100000 in
theorem fmap2 (way : Int) (key : ByteArray) (i f : Int) (s : ByteArray) (w : World) (hk5 : way % 5 = 2) (hw0 : 0 ≤ way) (hw1 : way ≤ 255) (hi0 : -9223372036854775808 ≤ i) (hi1 : i < 9223372036854775808) (hf0 : 0 ≤ f) (hf1 : f < 18446744073709551616) :
    Calls Try.prog 7 #[.int .u8 way, .string key, .int .i64 i, .int .u64 f, .string s] w fun e w' => e = .returned (.bool true) ∧ Below w.heap.size w w' := by
  have hk2 : way.tmod 5 = 2 := by rw [Int.tmod_eq_emod_of_nonneg hw0]; exact hk5
  have HL := Aside0.mk (fun (hk : key.size ≤ 300) (hs : s.size ≤ 300) (wi : World) => map2 key s i f wi hk hs hi0 hi1 hf0 hf1)
  have HE := Aside0.mk (fun (wi : World) => map2e key s i f wi)
  have HP := Aside0.mk (fun (hk : key.size ≤ 300) (hs : s.size ≤ 300) (wi : World) => map_pack wi key 3 0 f ⟨#[]⟩ hk (fun wj => leaf_in wj 3 0 f ⟨#[]⟩ (by decide) (by decide) hf0 hf1) ⟨⟨by decide, by decide, Nat.zero_le _, fun _ => rfl, fun _ _ => rfl, fun h => absurd rfl h, fun _ _ => rfl, fun _ => rfl, fun _ => rfl, fun h => absurd h (by decide), fun h => absurd h (by decide), fun t h => by cases h⟩, trivial⟩)
  have he : enc (leaf 3 0 f ⟨#[]⟩) = encFloat f.toNat := by simp [leaf, enc, encTop, encKids]
  rw [he] at HP
  have hem : strOfNums (encHead 160 216 0) = ⟨#[160]⟩ := rfl
  rw [hem] at HE
  clear he hem hi0 hi1 hf0 hf1
  have HZ := Aside0.mk (fun (hk : key.size ≤ 300) (hs : s.size ≤ 300) => show (strOfNums (encHead 160 216 1 ++ encText key ++ encFloat f.toNat)).size ≤ 100000 by
    rw [str_size]
    have h1 := encHead_len 160 216 1
    have h2 := encHead_len 128 208 key.size
    have h3 := encHead_len 128 208 s.size
    have h4 : (encFloat f.toNat).length = 9 := rfl
    unfold encText
    simp only [List.length_append, bytesOf_length]
    omega)
  generalize strOfNums (encHead 160 216 1 ++ encText key ++ encFloat f.toNat) = sx at *
  go_enter Try.func7, Try.ntmps7
  by_cases h1 : (key.size : Int) > 2147483647
  · go_wp2_with fail
    go_ret
    exact ⟨rfl, Below.refl _ _⟩
  by_cases h2 : (s.size : Int) > 2147483647
  · go_wp2_with fail
    go_ret
    exact ⟨rfl, Below.refl _ _⟩
  by_cases h3 : (key.size : Int) > 300
  · go_wp2_with fail
    go_ret
    exact ⟨rfl, Below.refl _ _⟩
  by_cases h4 : (s.size : Int) > 300
  · go_wp2_with fail
    go_ret
    exact ⟨rfl, Below.refl _ _⟩
  have HK := Aside0.mk (show key.size ≤ 300 ∧ s.size ≤ 300 by omega)
  have hsx := HZ.out HK.out.1 HK.out.2
  clear HZ h1 h2
  go_wp2_with fail
  refine (HL.out HK.out.1 HK.out.2 _).mono ?_
  rintro e w1 ⟨rfl, hb⟩
  have HT1 := Aside0.mk (show One (w.alloc (.cells #[.int .i64 2, .bool false, .int .i64 i, .int .u64 0, .string ⟨#[]⟩, .slice none 0 0, .slice none 0 0, .int .i64 2, .bool false, .int .i64 i, .int .u64 0, .string ⟨#[]⟩, .slice none 0 0, .slice none 0 0, .int .i64 3, .bool false, .int .i64 0, .int .u64 f, .string ⟨#[]⟩, .slice none 0 0, .slice none 0 0, .int .i64 4, .bool false, .int .i64 0, .int .u64 0, .string s, .slice none 0 0, .slice none 0 0, .int .i64 5, .bool false, .int .i64 0, .int .u64 0, .string s, .slice none 0 0, .slice none 0 0] 26)) w1 _ from (One.start (w.alloc (.cells #[.int .i64 2, .bool false, .int .i64 i, .int .u64 0, .string ⟨#[]⟩, .slice none 0 0, .slice none 0 0, .int .i64 2, .bool false, .int .i64 i, .int .u64 0, .string ⟨#[]⟩, .slice none 0 0, .slice none 0 0, .int .i64 3, .bool false, .int .i64 0, .int .u64 f, .string ⟨#[]⟩, .slice none 0 0, .slice none 0 0, .int .i64 4, .bool false, .int .i64 0, .int .u64 0, .string s, .slice none 0 0, .slice none 0 0, .int .i64 5, .bool false, .int .i64 0, .int .u64 0, .string s, .slice none 0 0, .slice none 0 0] 26)) _).step hb)
  clear hb HL
  go_wp2_with fail
  refine (HE.out _).mono ?_
  rintro e w2 ⟨rfl, hb⟩
  have HT2 := Aside0.mk (HT1.out.step hb)
  obtain ⟨q0, q1, q2, q3, q4, q5, q6⟩ := box7 HT2.out.b0
  simp only [World.size_alloc] at q0 q1 q2 q3 q4 q5 q6
  have hlt2 : w.heap.size + 1 < w2.heap.size := by have := blk_lt HT2.out.b0; simpa only [World.size_alloc] using this
  clear hb HE HT1
  go_wp2_with fail
  refine (HP.out HK.out.1 HK.out.2 w2).mono ?_
  rintro e w3 ⟨rfl, hb⟩
  have HB3 := Aside0.mk ((below_alloc (Below.refl w.heap.size w) _).trans ((HT2.out.bel.mono (by rw [World.size_alloc]; omega)).trans (hb.mono (by omega))))
  clear hb HP HT2 q0 q1 q2 q3 q4 q5 q6
  go_wp2_with fail
  refine (alive_any _).mono ?_
  rintro e w6 ⟨rfl, hb⟩
  have HB6 := Aside0.mk (HB3.out.trans (hb.mono HB3.out.size))
  clear hb HB3
  go_wp2_with fail
  go_ret
  exact ⟨rfl, HB6.out⟩

set_option maxHeartbeats 4000000 in
set_option maxRecDepth 100000 in
theorem fmap3 (way : Int) (key : ByteArray) (i f : Int) (s : ByteArray) (w : World) (hk5 : way % 5 = 3) (hw0 : 0 ≤ way) (hw1 : way ≤ 255) (hi0 : -9223372036854775808 ≤ i) (hi1 : i < 9223372036854775808) (hf0 : 0 ≤ f) (hf1 : f < 18446744073709551616) :
    Calls Try.prog 7 #[.int .u8 way, .string key, .int .i64 i, .int .u64 f, .string s] w fun e w' => e = .returned (.bool true) ∧ Below w.heap.size w w' := by
  have hk2 : way.tmod 5 = 3 := by rw [Int.tmod_eq_emod_of_nonneg hw0]; exact hk5
  have HL := Aside0.mk (fun (hk : key.size ≤ 300) (hs : s.size ≤ 300) (wi : World) => map3 key s i f wi hk hs hi0 hi1 hf0 hf1)
  have HE := Aside0.mk (fun (wi : World) => map3e key s i f wi)
  have HP := Aside0.mk (fun (hk : key.size ≤ 300) (hs : s.size ≤ 300) (wi : World) => map_pack wi key 4 0 0 s hk (fun wj => leaf_in wj 4 0 0 s (by decide) (by decide) (by decide) (by decide)) ⟨⟨by decide, by decide, hs, fun _ => rfl, fun _ _ => rfl, fun _ => rfl, fun h => absurd rfl h, fun _ => rfl, fun _ => rfl, fun h => absurd h (by decide), fun h => absurd h (by decide), fun t h => by cases h⟩, trivial⟩)
  have he : enc (leaf 4 0 0 s) = encText s := by simp [leaf, enc, encTop, encKids]
  rw [he] at HP
  have hem : strOfNums (encHead 160 216 0) = ⟨#[160]⟩ := rfl
  rw [hem] at HE
  clear he hem hi0 hi1 hf0 hf1
  have HZ := Aside0.mk (fun (hk : key.size ≤ 300) (hs : s.size ≤ 300) => show (strOfNums (encHead 160 216 1 ++ encText key ++ encText s)).size ≤ 100000 by
    rw [str_size]
    have h1 := encHead_len 160 216 1
    have h2 := encHead_len 128 208 key.size
    have h3 := encHead_len 128 208 s.size
    unfold encText
    simp only [List.length_append, bytesOf_length]
    omega)
  generalize strOfNums (encHead 160 216 1 ++ encText key ++ encText s) = sx at *
  go_enter Try.func7, Try.ntmps7
  by_cases h1 : (key.size : Int) > 2147483647
  · go_wp2_with fail
    go_ret
    exact ⟨rfl, Below.refl _ _⟩
  by_cases h2 : (s.size : Int) > 2147483647
  · go_wp2_with fail
    go_ret
    exact ⟨rfl, Below.refl _ _⟩
  by_cases h3 : (key.size : Int) > 300
  · go_wp2_with fail
    go_ret
    exact ⟨rfl, Below.refl _ _⟩
  by_cases h4 : (s.size : Int) > 300
  · go_wp2_with fail
    go_ret
    exact ⟨rfl, Below.refl _ _⟩
  have HK := Aside0.mk (show key.size ≤ 300 ∧ s.size ≤ 300 by omega)
  have hsx := HZ.out HK.out.1 HK.out.2
  clear HZ h1 h2
  go_wp2_with fail
  refine (HL.out HK.out.1 HK.out.2 _).mono ?_
  rintro e w1 ⟨rfl, hb⟩
  have HT1 := Aside0.mk (show One (w.alloc (.cells #[.int .i64 2, .bool false, .int .i64 i, .int .u64 0, .string ⟨#[]⟩, .slice none 0 0, .slice none 0 0, .int .i64 2, .bool false, .int .i64 i, .int .u64 0, .string ⟨#[]⟩, .slice none 0 0, .slice none 0 0, .int .i64 3, .bool false, .int .i64 0, .int .u64 f, .string ⟨#[]⟩, .slice none 0 0, .slice none 0 0, .int .i64 4, .bool false, .int .i64 0, .int .u64 0, .string s, .slice none 0 0, .slice none 0 0, .int .i64 5, .bool false, .int .i64 0, .int .u64 0, .string s, .slice none 0 0, .slice none 0 0] 26)) w1 _ from (One.start (w.alloc (.cells #[.int .i64 2, .bool false, .int .i64 i, .int .u64 0, .string ⟨#[]⟩, .slice none 0 0, .slice none 0 0, .int .i64 2, .bool false, .int .i64 i, .int .u64 0, .string ⟨#[]⟩, .slice none 0 0, .slice none 0 0, .int .i64 3, .bool false, .int .i64 0, .int .u64 f, .string ⟨#[]⟩, .slice none 0 0, .slice none 0 0, .int .i64 4, .bool false, .int .i64 0, .int .u64 0, .string s, .slice none 0 0, .slice none 0 0, .int .i64 5, .bool false, .int .i64 0, .int .u64 0, .string s, .slice none 0 0, .slice none 0 0] 26)) _).step hb)
  clear hb HL
  go_wp2_with fail
  refine (HE.out _).mono ?_
  rintro e w2 ⟨rfl, hb⟩
  have HT2 := Aside0.mk (HT1.out.step hb)
  obtain ⟨q0, q1, q2, q3, q4, q5, q6⟩ := box7 HT2.out.b0
  simp only [World.size_alloc] at q0 q1 q2 q3 q4 q5 q6
  have hlt2 : w.heap.size + 1 < w2.heap.size := by have := blk_lt HT2.out.b0; simpa only [World.size_alloc] using this
  clear hb HE HT1
  go_wp2_with fail
  refine (HP.out HK.out.1 HK.out.2 w2).mono ?_
  rintro e w3 ⟨rfl, hb⟩
  have HB3 := Aside0.mk ((below_alloc (Below.refl w.heap.size w) _).trans ((HT2.out.bel.mono (by rw [World.size_alloc]; omega)).trans (hb.mono (by omega))))
  clear hb HP HT2 q0 q1 q2 q3 q4 q5 q6
  go_wp2_with fail
  refine (alive_any _).mono ?_
  rintro e w6 ⟨rfl, hb⟩
  have HB6 := Aside0.mk (HB3.out.trans (hb.mono HB3.out.size))
  clear hb HB3
  go_wp2_with fail
  go_ret
  exact ⟨rfl, HB6.out⟩

set_option maxHeartbeats 4000000 in
set_option maxRecDepth 100000 in
theorem fmap4 (way : Int) (key : ByteArray) (i f : Int) (s : ByteArray) (w : World) (hk5 : way % 5 = 4) (hw0 : 0 ≤ way) (hw1 : way ≤ 255) (hi0 : -9223372036854775808 ≤ i) (hi1 : i < 9223372036854775808) (hf0 : 0 ≤ f) (hf1 : f < 18446744073709551616) :
    Calls Try.prog 7 #[.int .u8 way, .string key, .int .i64 i, .int .u64 f, .string s] w fun e w' => e = .returned (.bool true) ∧ Below w.heap.size w w' := by
  have hk2 : way.tmod 5 = 4 := by rw [Int.tmod_eq_emod_of_nonneg hw0]; exact hk5
  have HL := Aside0.mk (fun (hk : key.size ≤ 300) (hs : s.size ≤ 300) (wi : World) => map4 key s i f wi hk hs hi0 hi1 hf0 hf1)
  have HE := Aside0.mk (fun (wi : World) => map4e key s i f wi)
  have HP := Aside0.mk (fun (hk : key.size ≤ 300) (hs : s.size ≤ 300) (wi : World) => map_pack wi key 5 0 0 s hk (fun wj => leaf_in wj 5 0 0 s (by decide) (by decide) (by decide) (by decide)) ⟨⟨by decide, by decide, hs, fun _ => rfl, fun _ _ => rfl, fun _ => rfl, fun _ h => absurd rfl h, fun _ => rfl, fun _ => rfl, fun h => absurd h (by decide), fun h => absurd h (by decide), fun t h => by cases h⟩, trivial⟩)
  have he : enc (leaf 5 0 0 s) = (encByteHead s.size ++ bytesOf s) := by simp [leaf, enc, encTop, encKids]
  rw [he] at HP
  have hem : strOfNums (encHead 160 216 0) = ⟨#[160]⟩ := rfl
  rw [hem] at HE
  clear he hem hi0 hi1 hf0 hf1
  have HZ := Aside0.mk (fun (hk : key.size ≤ 300) (hs : s.size ≤ 300) => show (strOfNums (encHead 160 216 1 ++ encText key ++ (encByteHead s.size ++ bytesOf s))).size ≤ 100000 by
    rw [str_size]
    have h1 := encHead_len 160 216 1
    have h2 := encHead_len 128 208 key.size
    have h3 := encHead_len 128 208 s.size
    have h4 : (encByteHead s.size).length ≤ 3 := by unfold encByteHead; split <;> simp
    unfold encText
    simp only [List.length_append, bytesOf_length]
    omega)
  generalize strOfNums (encHead 160 216 1 ++ encText key ++ (encByteHead s.size ++ bytesOf s)) = sx at *
  go_enter Try.func7, Try.ntmps7
  by_cases h1 : (key.size : Int) > 2147483647
  · go_wp2_with fail
    go_ret
    exact ⟨rfl, Below.refl _ _⟩
  by_cases h2 : (s.size : Int) > 2147483647
  · go_wp2_with fail
    go_ret
    exact ⟨rfl, Below.refl _ _⟩
  by_cases h3 : (key.size : Int) > 300
  · go_wp2_with fail
    go_ret
    exact ⟨rfl, Below.refl _ _⟩
  by_cases h4 : (s.size : Int) > 300
  · go_wp2_with fail
    go_ret
    exact ⟨rfl, Below.refl _ _⟩
  have HK := Aside0.mk (show key.size ≤ 300 ∧ s.size ≤ 300 by omega)
  have hsx := HZ.out HK.out.1 HK.out.2
  clear HZ h1 h2
  go_wp2_with fail
  refine (HL.out HK.out.1 HK.out.2 _).mono ?_
  rintro e w1 ⟨rfl, hb⟩
  have HT1 := Aside0.mk (show One (w.alloc (.cells #[.int .i64 2, .bool false, .int .i64 i, .int .u64 0, .string ⟨#[]⟩, .slice none 0 0, .slice none 0 0, .int .i64 2, .bool false, .int .i64 i, .int .u64 0, .string ⟨#[]⟩, .slice none 0 0, .slice none 0 0, .int .i64 3, .bool false, .int .i64 0, .int .u64 f, .string ⟨#[]⟩, .slice none 0 0, .slice none 0 0, .int .i64 4, .bool false, .int .i64 0, .int .u64 0, .string s, .slice none 0 0, .slice none 0 0, .int .i64 5, .bool false, .int .i64 0, .int .u64 0, .string s, .slice none 0 0, .slice none 0 0] 26)) w1 _ from (One.start (w.alloc (.cells #[.int .i64 2, .bool false, .int .i64 i, .int .u64 0, .string ⟨#[]⟩, .slice none 0 0, .slice none 0 0, .int .i64 2, .bool false, .int .i64 i, .int .u64 0, .string ⟨#[]⟩, .slice none 0 0, .slice none 0 0, .int .i64 3, .bool false, .int .i64 0, .int .u64 f, .string ⟨#[]⟩, .slice none 0 0, .slice none 0 0, .int .i64 4, .bool false, .int .i64 0, .int .u64 0, .string s, .slice none 0 0, .slice none 0 0, .int .i64 5, .bool false, .int .i64 0, .int .u64 0, .string s, .slice none 0 0, .slice none 0 0] 26)) _).step hb)
  clear hb HL
  go_wp2_with fail
  refine (HE.out _).mono ?_
  rintro e w2 ⟨rfl, hb⟩
  have HT2 := Aside0.mk (HT1.out.step hb)
  obtain ⟨q0, q1, q2, q3, q4, q5, q6⟩ := box7 HT2.out.b0
  simp only [World.size_alloc] at q0 q1 q2 q3 q4 q5 q6
  have hlt2 : w.heap.size + 1 < w2.heap.size := by have := blk_lt HT2.out.b0; simpa only [World.size_alloc] using this
  clear hb HE HT1
  go_wp2_with fail
  refine (HP.out HK.out.1 HK.out.2 w2).mono ?_
  rintro e w3 ⟨rfl, hb⟩
  have HB3 := Aside0.mk ((below_alloc (Below.refl w.heap.size w) _).trans ((HT2.out.bel.mono (by rw [World.size_alloc]; omega)).trans (hb.mono (by omega))))
  clear hb HP HT2 q0 q1 q2 q3 q4 q5 q6
  go_wp2_with fail
  refine (alive_any _).mono ?_
  rintro e w6 ⟨rfl, hb⟩
  have HB6 := Aside0.mk (HB3.out.trans (hb.mono HB3.out.size))
  clear hb HB3
  go_wp2_with fail
  go_ret
  exact ⟨rfl, HB6.out⟩

theorem FnPackMap_row (way : Int) (key : ByteArray) (i f : Int) (s : ByteArray) (w : World) (hw : (Lit.int IntKind.u8 way).wf = true) (hk : key.size ≤ 140737488351232) (hi : (Lit.int IntKind.i64 i).wf = true) (hf : (Lit.int IntKind.u64 f).wf = true) (hs : s.size ≤ 140737488351232) :
    Calls Try.prog 7 #[.int .u8 way, .string key, .int .i64 i, .int .u64 f, .string s] w fun e w' => e = .returned (.bool true) ∧ Below w.heap.size w w' := by
  have h0 : 0 ≤ way ∧ way ≤ 255 := by have := Go.bounds_u8 hw; omega
  have h1 := Go.bounds_i64 hi
  have h2 := Go.bounds_u64 hf
  rcases (show way % 5 = 0 ∨ way % 5 = 1 ∨ way % 5 = 2 ∨ way % 5 = 3 ∨ way % 5 = 4 by omega) with h | h | h | h | h
  · exact fmap0 way key i f s w h h0.1 h0.2 (by omega) (by omega) (by omega) (by omega)
  · exact fmap1 way key i f s w h h0.1 h0.2 (by omega) (by omega) (by omega) (by omega)
  · exact fmap2 way key i f s w h h0.1 h0.2 (by omega) (by omega) (by omega) (by omega)
  · exact fmap3 way key i f s w h h0.1 h0.2 (by omega) (by omega) (by omega) (by omega)
  · exact fmap4 way key i f s w h h0.1 h0.2 (by omega) (by omega) (by omega) (by omega)
end Go.Proofs.Ytjnookhdiolhgaa
