/- FnPackRow: the walk. -/
import Derived.Test.YtjnookhdiolhgaaFnPackBack
import Derived.Test.YtjnookhdiolhgaaPlawssameAll
namespace Go.Proofs.Ytjnookhdiolhgaa
set_option linter.unusedVariables false
set_option linter.unusedSimpArgs false
open Go.RowKit Go.Proofs.YtjnookhdiolhgaaW.PrintWords
open PAll (S26 k26 rd_T26)
open Go.Proofs.YtjnookhdiolhgaaW.PrintLast (goes_)

/-- The element of a row of Vals that came in. -/
structure At7 (w : World) (ad : Addr) (j : Nat) (x : S26) (A5 : Option Addr) (c5 : Nat) (A6 : Option Addr) (c6 : Nat) : Prop where
  g0 : w.cell? (ad.add (j * 7)) = some (.int .i64 x.f0)
  g1 : w.cell? ⟨(ad.add (j * 7)).block, (ad.add (j * 7)).off + 1, none⟩ = some (.bool x.f1)
  g2 : w.cell? ⟨(ad.add (j * 7)).block, (ad.add (j * 7)).off + 2, none⟩ = some (.int .i64 x.f2)
  g3 : w.cell? ⟨(ad.add (j * 7)).block, (ad.add (j * 7)).off + 3, none⟩ = some (.int .u64 x.f3)
  g4 : w.cell? ⟨(ad.add (j * 7)).block, (ad.add (j * 7)).off + 4, none⟩ = some (.string x.f4)
  g5 : w.cell? ⟨(ad.add (j * 7)).block, (ad.add (j * 7)).off + 5, none⟩ = some (.slice A5 x.f5.length c5)
  g6 : w.cell? ⟨(ad.add (j * 7)).block, (ad.add (j * 7)).off + 6, none⟩ = some (.slice A6 x.f6.length c6)
theorem At7.below {w w1 : World} {ad : Addr} {j : Nat} {x : S26} {A5 : Option Addr} {c5 : Nat} {A6 : Option Addr} {c6 : Nat} (h : At7 w ad j x A5 c5 A6 c6) (hb : Below w.heap.size w w1) : At7 w1 ad j x A5 c5 A6 c6 :=
  ⟨pw_cell_below hb h.g0, pw_cell_below hb h.g1, pw_cell_below hb h.g2, pw_cell_below hb h.g3, pw_cell_below hb h.g4, pw_cell_below hb h.g5, pw_cell_below hb h.g6⟩
theorem vals_at {w : World} {A : Option Addr} {l : List S26} (hC : Kd.C k26 w A l.length l) (hwf : wfAll l) {j : Nat} (hj : j < l.length) :
    ∃ ad x A5 c5 A6 c6, A = some ad ∧ l[j]? = some x ∧ In w x A5 c5 A6 c6 ∧ At7 w ad j x A5 c5 A6 c6 := by
  obtain ⟨y, hy⟩ : ∃ y, l[j]? = some y := ⟨_, List.getElem?_eq_getElem hj⟩
  obtain ⟨ad, B5, d5, B6, d6, hA, g0, g1, g2, g3, g4, g5, g6, l5, q5, l6, q6⟩ := PAll.at_T26 hC (j : Int) (by omega) (by omega)
  have hry : rd_T26 l (j : Int) = y := by unfold Go.Proofs.Ytjnookhdiolhgaa.PAll.rd_T26; rw [Int.toNat_natCast, List.getD_eq_getElem?_getD, hy]; rfl
  rw [hry] at g0 g1 g2 g3 g4 g5 g6 l5 q5 l6 q6
  rw [Int.toNat_natCast] at g0 g1 g2 g3 g4 g5 g6
  exact ⟨ad, y, B5, d5, B6, d6, hA, hy, ⟨wfAll_at hwf hy, l5, l6, q5, q6⟩, ⟨g0, g1, g2, g3, g4, g5, g6⟩⟩

set_option maxHeartbeats 1000000 in
set_option maxRecDepth 100000 in
/-- allGood: what it lets in are at most eight values of at most 400 parts. -/
theorem allGood_any (A : Option Addr) (c : Nat) (l : List S26) (w : World) (hwf : wfAll l) (hc : l.length ≤ c) (hC : Kd.C k26 w A l.length l) :
    Calls Try.prog 35 #[.slice A l.length c] w fun e w' => ∃ r : Bool, e = .returned (.bool r) ∧ Below w.heap.size w w' ∧ (r = true → (∀ x ∈ l, okV x ∧ nodes x ≤ 400) ∧ l.length ≤ 8) := by
  have HC := Aside0.mk hC
  have HWF := Aside0.mk hwf
  have hmax : (l.length : Int) ≤ 9223372036854775807 := by have h1 : l.length ≤ maxLen := hC.2.1; simp only [maxLen] at h1; omega
  clear hC hwf
  go_enter Try.func35, Try.ntmps35
  go_wp2_with fail
  go_loopg [7] l.length (fun gk v7 wr => ∃ j : Nat, v7 = .int .i64 j ∧ Aside0 (j ≤ l.length ∧ gk = l.length - j) ∧ Aside0 (Below w.heap.size w wr) ∧ Aside0 (∀ x ∈ l.take j, okV x ∧ nodes x ≤ 400))
  case atStart => exact ⟨0, rfl, ⟨by omega⟩, ⟨Below.refl _ _⟩, ⟨by simp⟩⟩
  case round =>
    obtain ⟨j, rfl, HJ, HB, HG⟩ := hrel
    by_cases hj : j < l.length
    · obtain ⟨ad, x, A5, c5, A6, c6, hA, hx, hin, hat⟩ := vals_at HC.out HWF.out hj
      obtain ⟨g0, g1, g2, g3, g4, g5, g6⟩ := hat.below HB.out
      subst hA
      have HX := Aside0.mk hx
      have HGX := Aside0.mk (fun wi (hb : Below w.heap.size w wi) => (hin.below hb).good)
      clear hx hin hat
      unfold valOf at *
      go_wp2_with fail
      refine (HGX.out _ (HB.out.trans ((below_alloc (Below.refl _ _) _).mono HB.out.size))).mono ?_
      rintro e w2 ⟨r, rfl, hb, hok⟩
      have HB2 := Aside0.mk ((HB.out.trans ((below_alloc (Below.refl _ _) _).mono HB.out.size)).trans (hb.mono (by rw [World.size_alloc]; have := HB.out.size; omega)))
      have HO := Aside0.mk hok
      clear hb hok HGX g0 g1 g2 g3 g4 g5 g6
      cases r
      case false =>
        go_wp2_with fail
        go_ret
        exact ⟨false, rfl, HB2.out, fun h => by cases h⟩
      case true =>
        have HO2 := Aside0.mk (HO.out rfl)
        clear HO
        go_wp2_with fail
        go_roundg (l.length - (j + 1))
        case measure => have := HJ.out.2; omega
        case rel =>
          refine ⟨j + 1, by go_num, ⟨by omega⟩, ⟨HB2.out⟩, ⟨?_⟩⟩
          intro y hy
          rw [List.take_add_one, HX.out] at hy
          simp only [Option.toList_some, List.mem_append, List.mem_singleton] at hy
          rcases hy with hy | rfl
          · exact HG.out y hy
          · exact HO2.out
    · have hje : j = l.length := by have := HJ.out.1; omega
      subst hje
      have HG2 := Aside0.mk (show ∀ x ∈ l, okV x ∧ nodes x ≤ 400 by have := HG.out; rwa [List.take_length] at this)
      clear HG
      go_wp2_with fail
      go_ret
      exact ⟨_, rfl, HB.out, fun h => ⟨HG2.out, by have := of_decide_eq_true h; omega⟩⟩

/-- The bytes of values one behind the other. -/
def encRow : List S26 → List Int
  | [] => []
  | x :: r => enc x ++ encRow r
theorem encRow_append (a b : List S26) : encRow (a ++ b) = encRow a ++ encRow b := by
  induction a with
  | nil => rfl
  | cons x r ih => show enc x ++ encRow (r ++ b) = enc x ++ encRow r ++ encRow b; rw [ih, List.append_assoc]
theorem encRow_bytes : ∀ l : List S26, wfAll l → (∀ x ∈ l, okV x ∧ nodes x ≤ 400) → Bytes (encRow l)
  | [], _, _ => fun a ha => by cases ha
  | x :: r, hwf, h => by
    intro a ha
    rcases List.mem_append.1 ha with ha | ha
    · exact enc_bytes x (h x (by simp)).1 hwf.1 (by have := (h x (by simp)).2; omega) a ha
    · exact encRow_bytes r hwf.2 (fun y hy => h y (by simp [hy])) a ha
theorem encRow_parses : ∀ l : List S26, wfAll l → (∀ x ∈ l, okV x ∧ nodes x ≤ 400) → Parses 1002 (encRow l) l
  | [], _, _ => rfl
  | x :: r, hwf, h => by
    have hx := h x (by simp)
    refine ⟨?_, encRow r, parse_enc x 1002 0 (encRow r) hx.1 hwf.1 (by omega) (by omega) (by omega), encRow_parses r hwf.2 (fun y hy => h y (by simp [hy]))⟩
    intro he
    have he1 : enc x = [] := (List.append_eq_nil_iff.1 he).1
    have h3 := parse_enc x 1002 0 [] hx.1 hwf.1 (by omega) (by omega) (by omega)
    rw [he1] at h3
    have h2 := (parse_len 1002 0 [] [] x (fun y hy => by cases hy) h3).1
    exact Nat.lt_irrefl _ h2
theorem encRow_len : ∀ l : List S26, (∀ x ∈ l, okV x ∧ nodes x ≤ 400) → (strOfNums (encRow l)).size ≤ 248000 * l.length
  | [], _ => by rw [str_size]; simp [encRow]
  | x :: r, h => by
    have h1 := enc_size (h x (by simp)).1 (h x (by simp)).2
    have h2 := encRow_len r (fun y hy => h y (by simp [hy]))
    rw [str_size] at h1 h2 ⊢
    simp only [encRow, List.length_append, List.length_cons]
    omega
theorem sameAll_l0 (l : List S26) (hl : l.length ≤ 8) (hok : ∀ x ∈ l, okV x ∧ nodes x ≤ 400) : ∀ (m j : Nat), j + m = l.length → ∀ k, 2002005 + m + 5 ≤ k → PAll.laws_sameAll.l0 k l l (l.length : Int) (j : Int) = some true := by
  intro m
  induction m with
  | zero =>
    intro j hj k hk
    obtain ⟨k, rfl⟩ : ∃ k', k = k' + 1 := ⟨k - 1, by omega⟩
    simp only [PAll.laws_sameAll.l0]
    rw [if_neg (by omega)]
  | succ m ihm =>
    intro j hj k hk
    obtain ⟨k, rfl⟩ : ∃ k', k = k' + 1 := ⟨k - 1, by omega⟩
    have hj' : j < l.length := by omega
    have hr : rd_T26 l (j : Int) = l[j] := by unfold PAll.rd_T26; rw [Int.toNat_natCast, List.getD_eq_getElem?_getD, List.getElem?_eq_getElem hj']; rfl
    have hx := hok l[j] (List.getElem_mem hj')
    simp only [PAll.laws_sameAll.l0]
    rw [if_pos (by omega), if_pos (by omega), if_pos (by omega), if_pos (by omega), hr, same_f l[j] 400 hx.2 (by omega) hx.1 k (by omega)]
    simp only [if_true, if_pos, Option.bind_some]
    rw [wrap64_self' (by omega)]
    exact ihm (j + 1) (by omega) k (by omega)
theorem sameAll_f (l : List S26) (hl : l.length ≤ 8) (hok : ∀ x ∈ l, okV x ∧ nodes x ≤ 400) : PAll.laws_sameAll.f 2003000 l l = some true := by
  unfold PAll.laws_sameAll.f
  rw [if_pos rfl]
  exact sameAll_l0 l hl hok l.length 0 (by omega) _ (by omega)
theorem row_unpack (l : List S26) (hwf : wfAll l) (hl : l.length ≤ 8) (hok : ∀ x ∈ l, okV x ∧ nodes x ≤ 400) (wi : World) :
    Calls Try.prog 34 #[.string (strOfNums (encRow l))] wi fun e w' => Below wi.heap.size wi w' ∧ ∃ B d, e = .returned (.tuple #[.slice B l.length d, .int .i64 0]) ∧ l.length ≤ d ∧ Kd.C k26 w' B l.length l := by
  have hs := encRow_len l hok
  refine (UnpackAll_any 1002 (strOfNums (encRow l)) l wi (by omega) (by rw [bytesOf_strOfNums (encRow_bytes l hwf hok)]; exact encRow_parses l hwf hok)).mono ?_
  rintro e w' ⟨hb, v, rfl, hr⟩
  obtain ⟨B, d, rfl⟩ := Kd.R_slice hr
  obtain ⟨hn1, hnc, hC⟩ := Kd.R_reads' hr
  exact ⟨hb, B, d, rfl, hnc, hC⟩

set_option maxHeartbeats 2000000 in
set_option maxRecDepth 100000 in
theorem FnPackRow_walk (A : Option Addr) (c : Nat) (l : List S26) (w : World) (hwf : wfAll l) (hc : l.length ≤ c) (hC : Kd.C k26 w A l.length l) :
    Calls Try.prog 12 #[.slice A l.length c] w fun e w' => e = .returned (.bool true) ∧ Below w.heap.size w w' := by
  have HC := Aside0.mk hC
  have HWF := Aside0.mk hwf
  have HCC := Aside0.mk hc
  have hmax : (l.length : Int) ≤ 9223372036854775807 := by have h1 : l.length ≤ maxLen := hC.2.1; simp only [maxLen] at h1; omega
  have HA := Aside0.mk (fun wi (hb : Below w.heap.size w wi) => allGood_any A c l wi hwf hc (Kd.C_below hC hb))
  clear hC hwf hc
  go_enter Try.func12, Try.ntmps12
  by_cases hz : (l.length : Int) > 2147483647
  · go_wp2_with fail
    go_ret
    exact ⟨rfl, Below.refl _ _⟩
  go_wp2_with fail
  refine (HA.out _ (Below.refl _ _)).mono ?_
  rintro e w1 ⟨r, rfl, hb, hok⟩
  have HB1 := Aside0.mk hb
  have HO := Aside0.mk hok
  clear hb hok HA
  cases r
  case false =>
    go_wp2_with fail
    go_ret
    exact ⟨rfl, HB1.out⟩
  case true =>
    have HG := Aside0.mk (HO.out rfl)
    have hl8 : (l.length : Int) ≤ 8 := by have := HG.out.2; omega
    clear HO hz hmax
    go_wp2_with fail
    go_loopg [3, 18] l.length (fun gk v3 v18 wr => ∃ (j : Nat) (sa : ByteArray), v3 = .string sa ∧ v18 = .int .i64 j ∧ sa.size ≤ 2000000 ∧ Aside0 (sa = strOfNums (encRow (l.take j))) ∧ Aside0 (j ≤ l.length ∧ gk = l.length - j) ∧ Aside0 (Below w.heap.size w wr))
    case atStart => exact ⟨0, _, rfl, rfl, by decide, ⟨rfl⟩, ⟨by omega⟩, ⟨HB1.out⟩⟩
    case round =>
      clear HB1
      obtain ⟨j, sa, rfl, rfl, hsa, HS, HJ, HB⟩ := hrel
      by_cases hj : j < l.length
      · obtain ⟨ad, x, A5, c5, A6, c6, hA, hx, hin, hat⟩ := vals_at HC.out HWF.out hj
        obtain ⟨g0, g1, g2, g3, g4, g5, g6⟩ := hat.below HB.out
        subst hA
        have hxo := HG.out.1 x (List.mem_of_getElem? hx)
        have hsx := enc_size hxo.1 hxo.2
        have HX := Aside0.mk hx
        have HPX := Aside0.mk (fun wi (hb : Below w.heap.size w wi) => (hin.below hb).pack hxo.1 (by omega))
        have HE := Aside0.mk (show strOfNums (encRow (l.take (j + 1))) = sa ++ strOfNums (enc x) by
          rw [List.take_add_one, hx, encRow_append, str_append, ← HS.out]
          show sa ++ strOfNums (enc x ++ []) = _
          rw [List.append_nil])
        have HSZ := Aside0.mk (show (sa ++ strOfNums (enc x)).size ≤ 2000000 by
          rw [← HE.out]
          have h1 := encRow_len (l.take (j + 1)) (fun y hy => HG.out.1 y (List.mem_of_mem_take hy))
          have h2 : (l.take (j + 1)).length ≤ 8 := by rw [List.length_take]; omega
          omega)
        generalize strOfNums (enc x) = sx at *
        clear hx hin hat hxo
        unfold valOf at *
        go_wp2_with fail
        refine (HPX.out _ (HB.out.trans ((below_alloc (Below.refl _ _) _).mono HB.out.size))).mono ?_
        rintro e w2 ⟨rfl, hb⟩
        have HB2 := Aside0.mk ((HB.out.trans ((below_alloc (Below.refl _ _) _).mono HB.out.size)).trans (hb.mono (by rw [World.size_alloc]; have := HB.out.size; omega)))
        clear hb HPX g0 g1 g2 g3 g4 g5 g6
        go_wp2_with fail
        go_roundg (l.length - (j + 1))
        case measure => have := HJ.out.2; omega
        case rel =>
          exact ⟨j + 1, _, rfl, by go_num, HSZ.out, ⟨HE.out.symm⟩, ⟨by omega⟩, ⟨HB2.out⟩⟩
      · have hje : j = l.length := by have := HJ.out.1; omega
        subst hje
        have HS2 := Aside0.mk (show sa = strOfNums (encRow l) by have := HS.out; rwa [List.take_length] at this)
        have HU := Aside0.mk (fun wi => row_unpack l HWF.out HG.out.2 HG.out.1 wi)
        have HQ := Aside0.mk (fun (wi : World) (B : Option Addr) (d : Nat) (hb : Below w.heap.size w wi) (hB : Kd.C k26 wi B l.length l) (hd : l.length ≤ d) => PAll.laws_sameAll.calls 2003000 B d l A c l true wi hB hd (Kd.C_below HC.out hb) HCC.out (sameAll_f l HG.out.2 HG.out.1))
        clear HS HC HWF HG HCC
        rw [← HS2.out] at HU
        clear HS2
        go_wp2_with fail
        refine (HU.out _).mono ?_
        rintro e w4 ⟨hb, B, d, rfl, hd, hB⟩
        have HB4 := Aside0.mk (HB.out.trans (hb.mono HB.out.size))
        have HS := Aside0.mk (fun (wi : World) (hw : Below w4.heap.size w4 wi) => HQ.out wi B d (HB4.out.trans (hw.mono HB4.out.size)) (Kd.C_below hB hw) hd)
        clear hb hB hd HU HB HQ
        go_wp2_with fail
        refine (HS.out _ (Below.refl _ _)).mono ?_
        rintro e w5 ⟨rfl, hb⟩
        have HB5 := Aside0.mk (HB4.out.trans (hb.mono HB4.out.size))
        clear hb HS
        go_wp2_with fail
        refine (alive_any _).mono ?_
        rintro e w6 ⟨rfl, hb⟩
        have HB6 := Aside0.mk (HB5.out.trans (hb.mono HB5.out.size))
        clear hb
        go_wp2_with fail
        go_ret
        exact ⟨rfl, HB6.out⟩
theorem FnPackRow_row (A : Option Addr) (c : Nat) (l : List S26) (w : World) (hwf : wfAll l) (hc : l.length ≤ c) (hC : Kd.C k26 w A l.length l) :
    Calls Try.prog 12 #[.slice A l.length c] w fun e w' => e = .returned (.bool true) ∧ Below w.heap.size w w' := FnPackRow_walk A c l w hwf hc hC
end Go.Proofs.Ytjnookhdiolhgaa
