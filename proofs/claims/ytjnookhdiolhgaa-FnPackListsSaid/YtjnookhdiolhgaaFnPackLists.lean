/- FnPackLists: the walk. -/
import Derived.Test.YtjnookhdiolhgaaPackLi
import Derived.Test.YtjnookhdiolhgaaFnPackInner
import Derived.OpenShut
namespace Go.Proofs.Ytjnookhdiolhgaa
set_option linter.unusedVariables false
set_option linter.unusedSimpArgs false
open Go.RowKit Go.Proofs.YtjnookhdiolhgaaW.PrintWords
open PAll (S26 k26)

/-- Numbers, floats and texts as values. -/
def intV (n : Int) : S26 := ⟨2, false, n, 0, ⟨#[]⟩, [], []⟩
def fltV (f : Int) : S26 := ⟨3, false, 0, f, ⟨#[]⟩, [], []⟩
def txtV (s : ByteArray) : S26 := ⟨4, false, 0, 0, s, [], []⟩
/-- A list of values. -/
def listV (l : List S26) : S26 := ⟨6, false, 0, 0, ⟨#[]⟩, [], l⟩
theorem listV_enc {α : Type} (f : α → S26) (g : α → List Int) (hfg : ∀ x, enc (f x) = g x) (L : List α) : enc (listV (L.map f)) = encHead 144 212 L.length ++ L.flatMap g := by
  have h : ∀ (L : List α) (keys : List ByteArray), encKids false keys (L.map f) = L.flatMap g := by
    intro L
    induction L with
    | nil => intro keys; simp [encKids]
    | cons x r ih => intro keys; simp [encKids, ih, hfg]
  simp only [listV, enc]
  rw [show ((6 : Int) == 7) = false from rfl, h, List.length_map]
  simp [encTop]
theorem intV_enc (n : Int) : enc (intV n) = encInt n := by simp [intV, enc, encTop, encKids]
theorem fltV_enc (f : Int) : enc (fltV f) = encFloat f.toNat := by simp [fltV, enc, encTop, encKids]
theorem txtV_enc (s : ByteArray) : enc (txtV s) = encText s := by simp [txtV, enc, encTop, encKids]
theorem wfAll_map {α : Type} (f : α → S26) (L : List α) (h : ∀ x ∈ L, wfV (f x)) : wfAll (L.map f) := by
  induction L with
  | nil => trivial
  | cons x r ih => exact ⟨h x (by simp), ih (fun y hy => h y (by simp [hy]))⟩
theorem okAll_txt (L : List ByteArray) (h : okAll (L.map txtV)) : ∀ x ∈ L, x.size ≤ 300 := by
  induction L with
  | nil => intro x hx; cases hx
  | cons y r ih =>
    intro x hx
    simp only [List.map_cons, okAll] at h
    rcases List.mem_cons.1 hx with rfl | hx
    · exact h.1.1.2.2.1
    · exact ih h.2 x hx
theorem fits2_any (A : Option Addr) (c : Nat) (l : List ByteArray) (w : World) (hC : Kd.C Kd.string w A l.length l) (hc : l.length ≤ c) :
    Calls Try.prog 23 #[.slice A l.length c] w fun e w' => ∃ r : Bool, e = .returned (.bool r) ∧ Drawn0 w w' := by
  obtain ⟨k, r, hr⟩ := fits2_ex l hC.2.1
  exact (PAll.laws_zzFits2.calls k A c l r w hC hc hr).mono fun e w' h => ⟨r, h⟩
theorem info26' : (Try.prog.info? 26).map (fun i => (i.zero, i.size, i.bytes)) = some (some (.agg #[.int .i64 0, .bool false, .int .i64 0, .int .u64 0, .string ⟨#[]⟩, .slice none 0 0, .slice none 0 0]), 7, 96) := by kernel_rfl

/-- The box of the list, and its row. -/
structure LB (w wr : World) (v : Value) (l : List S26) : Prop where
  bel : Below w.heap.size w wr
  box : wr.heap[w.heap.size]? = some (.cells #[.int .i64 6, .bool false, .int .i64 0, .int .u64 0, .string ⟨#[]⟩, .slice none 0 0, v] 26 (0, 0))
  row : k26.R 26 wr (w.heap.size + 1) (fun q => w.heap.size + 1 ≤ q) v l
theorem LB.step {w wr w2 : World} {v : Value} {l : List S26} (h : LB w wr v l) (hb : Below wr.heap.size wr w2) : LB w w2 v l :=
  ⟨h.bel.trans (hb.mono h.bel.size), (hb.block _ (blk_lt h.box)).trans h.box, Kd.R_below h.row hb⟩
theorem LB.put {w wr w3 : World} {v v1 : Value} {l : List S26} {x : S26} (h : LB w wr v l) (hg : wr.grownBy w3 v.ownBlock) (hr : k26.R 26 w3 (w.heap.size + 1) (fun q => w.heap.size + 1 ≤ q) v1 (l ++ [x])) :
    LB w (w3.setCell ⟨w.heap.size, 6, none⟩ v1) v1 (l ++ [x]) := by
  have hob : ∀ g, v.ownBlock = some g → w.heap.size + 1 ≤ g := fun g hg => (Kd.R_bound h.row).1 g hg |>.1
  have hlt := blk_lt h.box
  have hs := h.bel.size
  have hbx := blk_grown h.box hg (fun he => by have := hob _ he.symm; omega)
  have hb3 : Below w.heap.size w w3 := h.bel.grown hg (by omega) (fun q hq => by have := hob q hq; omega)
  exact ⟨hb3.setCell (by show w.heap.size ≤ w.heap.size; omega) _, blk_put hbx 6 v1 rfl, Kd.R_far hr (p := ⟨w.heap.size, 6, none⟩) (fun q hq => by show q ≠ w.heap.size; omega) v1⟩
theorem list_good {w wr : World} {A : Option Addr} {c : Nat} {l : List S26} (h : LB w wr (.slice A l.length c) l) (hw : wfAll l) :
    Calls Try.prog 16 #[.agg #[.int .i64 6, .bool false, .int .i64 0, .int .u64 0, .string ⟨#[]⟩, .slice none 0 0, .slice A l.length c]] wr fun e w' => ∃ r : Bool, e = .returned (.bool r) ∧ Below wr.heap.size wr w' ∧ (r = true → okV (listV l) ∧ nodes (listV l) ≤ 400) :=
  good_any (listV l) none 0 A c wr ⟨⟨by decide, by decide, by decide, by decide⟩, hw⟩ (Nat.le_refl _) (Kd.R_reads' h.row).2.1 (C_none _ _) (Kd.R_reads' h.row).2.2
theorem list_pack {w wr : World} {A : Option Addr} {c : Nat} {l : List S26} (h : LB w wr (.slice A l.length c) l) (hw : wfAll l) (hok : okV (listV l)) (hn : nodes (listV l) ≤ 400) :
    Calls Try.prog 17 #[.agg #[.int .i64 6, .bool false, .int .i64 0, .int .u64 0, .string ⟨#[]⟩, .slice none 0 0, .slice A l.length c]] wr fun e w' => e = .returned (.tuple #[.string (strOfNums (enc (listV l))), .int .i64 0]) ∧ Below wr.heap.size wr w' :=
  Pack_any (listV l) none 0 A c wr hok ⟨⟨by decide, by decide, by decide, by decide⟩, hw⟩ (by omega) (Nat.le_refl _) (Kd.R_reads' h.row).2.1 (C_none _ _) (Kd.R_reads' h.row).2.2

set_option maxHeartbeats 4000000 in
set_option maxRecDepth 100000 in
theorem fnlists0 (way : Int) (A1 : Option Addr) (c1 : Nat) (L1 : List Int) (A2 : Option Addr) (c2 : Nat) (L2 : List Int) (A3 : Option Addr) (c3 : Nat) (L3 : List ByteArray) (w : World)
    (hk : way % 4 = 0) (hw0 : 0 ≤ way) (hw1 : way ≤ 255) (he1 : ∀ x ∈ L1, -9223372036854775808 ≤ x ∧ x < 9223372036854775808) (he2 : ∀ x ∈ L2, 0 ≤ x ∧ x < 18446744073709551616)
    (hc1 : L1.length ≤ c1) (hc2 : L2.length ≤ c2) (hc3 : L3.length ≤ c3) (hC1 : (Kd.int .i64).C w A1 L1.length L1) (hC2 : (Kd.int .u64).C w A2 L2.length L2) (hC3 : Kd.string.C w A3 L3.length L3) :
    Calls Try.prog 6 #[.int .u8 way, .slice A1 L1.length c1, .slice A2 L2.length c2, .slice A3 L3.length c3] w fun e w' => e = .returned (.bool true) ∧ Below w.heap.size w w' := by
  have HF := Lib.hid (fits2_any A3 c3 L3 w hC3 hc3)
  have HC := Lib.hid (hC1)
  have HW := Lib.hid (wfAll_map intV L1 (fun x hx => ⟨⟨(he1 x hx).1, (he1 x hx).2, by decide, by decide⟩, trivial⟩))
  have HP := Lib.hid (fun (wi : World) (hb : Below w.heap.size w wi) (hl : (L1.flatMap encInt).length ≤ 1000000000) (hn : L1.length ≤ 100) => lists0 L1 A1 c1 (.slice A2 L2.length c2) (.slice A3 L3.length c3) wi (by assumption) (Kd.C_below hC1 hb) hl (by omega) he1)
  have HENC := Lib.hid (listV_enc intV encInt intV_enc L1)
  have hk2 : way.tmod 4 = 0 := by rw [Int.tmod_eq_emod_of_nonneg hw0]; exact hk
  clear hC1 hC2 hC3 he1 he2 hc1 hc2 hc3 hk
  go_enter Try.func6, Try.ntmps6
  by_cases h1 : (L1.length : Int) > 2147483647
  · go_wp2_with fail
    go_ret
    exact ⟨rfl, Below.refl _ _⟩
  by_cases h2 : (L2.length : Int) > 2147483647
  · go_wp2_with fail
    go_ret
    exact ⟨rfl, Below.refl _ _⟩
  go_wp2_with fail
  refine (HF.out).mono ?_
  rintro e w1 ⟨r, rfl, ⟨nd, rfl⟩⟩
  have HB1 := Lib.hid (pw_below_drewN (Below.refl w.heap.size w) nd)
  generalize w.drewN nd = w1 at *
  clear HF
  cases r
  case false =>
    go_wp2_with fail
    go_ret
    exact ⟨rfl, HB1.out⟩
  by_cases h3 : (L1.length : Int) > 100
  · go_wp2_with fail
    go_ret
    exact ⟨rfl, HB1.out⟩
  by_cases h4 : (L2.length : Int) > 100
  · go_wp2_with fail
    go_ret
    exact ⟨rfl, HB1.out⟩
  by_cases h5 : (L3.length : Int) > 100
  · go_wp2_with fail
    go_ret
    exact ⟨rfl, HB1.out⟩
  clear h1 h2
  go_wp2_with fail
  have HLB := Lib.hid (show LB w1 (w1.alloc (.cells #[.int .i64 6, .bool false, .int .i64 0, .int .u64 0, .string ⟨#[]⟩, .slice none 0 0, .slice none 0 0] 26)) (.slice none 0 0) [] from ⟨below_alloc (Below.refl _ _) _, heap_alloc_new _ _, Kd.R_nil _ _ _ _ _⟩)
  go_loopg [68] L1.length (fun gk vi wr => ∃ (j : Nat) (done : List S26) (v : Value), vi = .int .i64 j ∧ Aside0 (j ≤ L1.length ∧ gk = L1.length - j) ∧ Aside0 (done = (L1.take j).map intV) ∧ Aside0 (LB w1 wr v done))
  case atStart => exact ⟨0, [], _, rfl, ⟨by omega⟩, ⟨by simp⟩, ⟨HLB.out⟩⟩
  case round =>
    clear HLB
    obtain ⟨j, done, v, rfl, HJ, HD, HB⟩ := hrel
    obtain ⟨A6, c6, rfl⟩ := Kd.R_slice HB.out.row
    have hb6 := blk_cell HB.out.box 6
    have hf6 := blk_frozen HB.out.box 6
    have hltb := blk_lt HB.out.box
    by_cases hj : j < L1.length
    · obtain ⟨x, hx⟩ : ∃ x, L1[j]? = some x := ⟨_, List.getElem?_eq_getElem hj⟩
      obtain ⟨ad, hAd, hcell⟩ := at_enc HC.out hx
      have hcr := pw_cell_below (HB1.out.trans (HB.out.bel.mono HB1.out.size)) hcell
      subst hAd
      have HX := Lib.hid hx
      have hlen : (done.length + 1) * 96 ≤ 140737488355328 := by rw [HD.out]; simp only [List.length_map, List.length_take]; omega
      have hszr := HB.out.bel.size
      have HM := Lib.hid (PAll.k26_mkM wr (w1.heap.size + 1) (fun _ => False) (intV x) (Kd.R_nil _ _ _ _ _) (Kd.R_nil _ _ _ _ _))
      clear hx hcell
      go_wp2_with (at_builtin; refine Kd.R_append (w0 := wr) k26 (w1.heap.size + 1) rfl (.tmp 73) (.tmp 76) 24 26 _ 96 rfl Try.underlying24 info26' rfl (by show 0 < 7; decide) (by decide) (.slice A6 done.length c6) done (intV x) [.int .i64 2, .bool false, .int .i64 x, .int .u64 0, .string ⟨#[]⟩, .slice none 0 0, .slice none 0 0] (fun q => w1.heap.size + 1 ≤ q) (fun _ => False) (by simp [Act.eval]) (by simp [Act.eval]) HM.out (fun _ h => h.elim) (fun q hq => by omega) HB.out.row (Below.refl _ _) (by omega) hlen ?_; intro v1 w3 hr1 hb1 hg1 hat1; obtain ⟨A7, n7, c7, rfl⟩ : ∃ A3 n3 c3, v1 = .slice A3 n3 c3 := (by obtain ⟨A, c, h⟩ := Kd.R_slice hr1; exact ⟨A, _, c, h⟩); have HN := Lib.hid (HB.out.put hg1 hr1); have hbx3 := blk_grown HB.out.box hg1 (fun he => by have := (Kd.R_bound HB.out.row).1 _ he.symm; omega); have hc63 := blk_cell hbx3 6; have hf63 := blk_frozen hbx3 6; clear hr1 hb1 hg1 hat1 hbx3)
      go_roundg (L1.length - (j + 1))
      case measure => have := HJ.out.2; omega
      case rel =>
        exact ⟨j + 1, done ++ [intV x], _, by go_num, ⟨by omega⟩, ⟨by rw [List.take_add_one, HX.out, HD.out]; simp⟩, ⟨HN.out⟩⟩
    · have hje : j = L1.length := by have := HJ.out.1; omega
      subst hje
      have hdone := HD.out
      rw [List.take_length] at hdone
      subst hdone
      have hlb := HB.out
      have hln : (L1.map intV).length = L1.length := by simp
      have HLB := Lib.hid hlb
      have HG := Lib.hid (fun (wi : World) (hb : Below wr.heap.size wr wi) => list_good (hlb.step hb) HW.out)
      have HPK := Lib.hid (fun (wi : World) (hb : Below wr.heap.size wr wi) ho hn => list_pack (hlb.step hb) HW.out ho hn)
      rw [hln] at hlb HLB HG HPK
      rw [hln] at hb6
      obtain ⟨q0, q1, q2, q3, q4, q5, q6⟩ := box7 hlb.box
      clear hb6 hf6 HB hlb hltb HJ hj
      go_wp2_with fail
      refine (HG.out _ (Below.refl _ _)).mono ?_
      rintro e w3 ⟨r, rfl, hb, hok⟩
      have HB3 := Lib.hid hb
      have HL3 := Lib.hid (HLB.out.step hb)
      have HO := Lib.hid hok
      clear hb hok HG q0 q1 q2 q3 q4 q5 q6
      cases r
      case false =>
        go_wp2_with fail
        go_ret
        exact ⟨rfl, HB1.out.trans (HL3.out.bel.mono HB1.out.size)⟩
      case true =>
        have HO2 := Lib.hid (HO.out rfl)
        clear HO
        have HEN := Lib.hid (enc_size HO2.out.1 HO2.out.2)
        have hfl : (L1.flatMap encInt).length ≤ 1000000000 := by
          have h := HEN.out
          rw [HENC.out, str_size, List.length_append] at h
          omega
        have HP2 := Lib.hid (HP.out w3 (HB1.out.trans (HL3.out.bel.mono HB1.out.size)) hfl (by omega))
        rw [HENC.out] at HPK HEN
        clear hfl HP
        generalize strOfNums (encHead 144 212 L1.length ++ L1.flatMap encInt) = sx at *
        have hsx := HEN.out
        clear HEN
        go_wp2_with fail
        refine (HP2.out).mono ?_
        rintro e w4 ⟨rfl, hb⟩
        have HL4 := Lib.hid (HL3.out.step hb)
        have HB4 := Lib.hid (HB3.out.trans (hb.mono HB3.out.size))
        obtain ⟨q0, q1, q2, q3, q4, q5, q6⟩ := box7 HL4.out.box
        clear hb HP2 HL3 HB3
        go_wp2_with fail
        refine (HPK.out _ HB4.out HO2.out.1 HO2.out.2).mono ?_
        rintro e w5 ⟨rfl, hb⟩
        have HL5 := Lib.hid (HL4.out.step hb)
        clear hb HL4 HB4 HPK q0 q1 q2 q3 q4 q5 q6
        go_wp2_with fail
        refine (alive_any _).mono ?_
        rintro e w6 ⟨rfl, hb⟩
        have HL6 := Lib.hid (HL5.out.step hb)
        clear hb HL5
        go_wp2_with fail
        go_ret
        exact ⟨rfl, HB1.out.trans (HL6.out.bel.mono HB1.out.size)⟩

set_option maxHeartbeats 4000000 in
set_option maxRecDepth 100000 in
theorem fnlists1 (way : Int) (A1 : Option Addr) (c1 : Nat) (L1 : List Int) (A2 : Option Addr) (c2 : Nat) (L2 : List Int) (A3 : Option Addr) (c3 : Nat) (L3 : List ByteArray) (w : World)
    (hk : way % 4 = 1) (hw0 : 0 ≤ way) (hw1 : way ≤ 255) (he1 : ∀ x ∈ L1, -9223372036854775808 ≤ x ∧ x < 9223372036854775808) (he2 : ∀ x ∈ L2, 0 ≤ x ∧ x < 18446744073709551616)
    (hc1 : L1.length ≤ c1) (hc2 : L2.length ≤ c2) (hc3 : L3.length ≤ c3) (hC1 : (Kd.int .i64).C w A1 L1.length L1) (hC2 : (Kd.int .u64).C w A2 L2.length L2) (hC3 : Kd.string.C w A3 L3.length L3) :
    Calls Try.prog 6 #[.int .u8 way, .slice A1 L1.length c1, .slice A2 L2.length c2, .slice A3 L3.length c3] w fun e w' => e = .returned (.bool true) ∧ Below w.heap.size w w' := by
  have HF := Lib.hid (fits2_any A3 c3 L3 w hC3 hc3)
  have HC := Lib.hid (hC1)
  have HW := Lib.hid (wfAll_map intV L1 (fun x hx => ⟨⟨(he1 x hx).1, (he1 x hx).2, by decide, by decide⟩, trivial⟩))
  have HP := Lib.hid (fun (wi : World) (hb : Below w.heap.size w wi) (hl : (L1.flatMap encInt).length ≤ 1000000000) (hn : L1.length ≤ 100) => lists1 L1 A1 c1 (.slice A2 L2.length c2) (.slice A3 L3.length c3) wi (by assumption) (Kd.C_below hC1 hb) hl (by omega) he1)
  have HENC := Lib.hid (listV_enc intV encInt intV_enc L1)
  have hk2 : way.tmod 4 = 1 := by rw [Int.tmod_eq_emod_of_nonneg hw0]; exact hk
  clear hC1 hC2 hC3 he1 he2 hc1 hc2 hc3 hk
  go_enter Try.func6, Try.ntmps6
  by_cases h1 : (L1.length : Int) > 2147483647
  · go_wp2_with fail
    go_ret
    exact ⟨rfl, Below.refl _ _⟩
  by_cases h2 : (L2.length : Int) > 2147483647
  · go_wp2_with fail
    go_ret
    exact ⟨rfl, Below.refl _ _⟩
  go_wp2_with fail
  refine (HF.out).mono ?_
  rintro e w1 ⟨r, rfl, ⟨nd, rfl⟩⟩
  have HB1 := Lib.hid (pw_below_drewN (Below.refl w.heap.size w) nd)
  generalize w.drewN nd = w1 at *
  clear HF
  cases r
  case false =>
    go_wp2_with fail
    go_ret
    exact ⟨rfl, HB1.out⟩
  by_cases h3 : (L1.length : Int) > 100
  · go_wp2_with fail
    go_ret
    exact ⟨rfl, HB1.out⟩
  by_cases h4 : (L2.length : Int) > 100
  · go_wp2_with fail
    go_ret
    exact ⟨rfl, HB1.out⟩
  by_cases h5 : (L3.length : Int) > 100
  · go_wp2_with fail
    go_ret
    exact ⟨rfl, HB1.out⟩
  clear h1 h2
  go_wp2_with fail
  have HLB := Lib.hid (show LB w1 (w1.alloc (.cells #[.int .i64 6, .bool false, .int .i64 0, .int .u64 0, .string ⟨#[]⟩, .slice none 0 0, .slice none 0 0] 26)) (.slice none 0 0) [] from ⟨below_alloc (Below.refl _ _) _, heap_alloc_new _ _, Kd.R_nil _ _ _ _ _⟩)
  go_loopg [68] L1.length (fun gk vi wr => ∃ (j : Nat) (done : List S26) (v : Value), vi = .int .i64 j ∧ Aside0 (j ≤ L1.length ∧ gk = L1.length - j) ∧ Aside0 (done = (L1.take j).map intV) ∧ Aside0 (LB w1 wr v done))
  case atStart => exact ⟨0, [], _, rfl, ⟨by omega⟩, ⟨by simp⟩, ⟨HLB.out⟩⟩
  case round =>
    clear HLB
    obtain ⟨j, done, v, rfl, HJ, HD, HB⟩ := hrel
    obtain ⟨A6, c6, rfl⟩ := Kd.R_slice HB.out.row
    have hb6 := blk_cell HB.out.box 6
    have hf6 := blk_frozen HB.out.box 6
    have hltb := blk_lt HB.out.box
    by_cases hj : j < L1.length
    · obtain ⟨x, hx⟩ : ∃ x, L1[j]? = some x := ⟨_, List.getElem?_eq_getElem hj⟩
      obtain ⟨ad, hAd, hcell⟩ := at_enc HC.out hx
      have hcr := pw_cell_below (HB1.out.trans (HB.out.bel.mono HB1.out.size)) hcell
      subst hAd
      have HX := Lib.hid hx
      have hlen : (done.length + 1) * 96 ≤ 140737488355328 := by rw [HD.out]; simp only [List.length_map, List.length_take]; omega
      have hszr := HB.out.bel.size
      have HM := Lib.hid (PAll.k26_mkM wr (w1.heap.size + 1) (fun _ => False) (intV x) (Kd.R_nil _ _ _ _ _) (Kd.R_nil _ _ _ _ _))
      clear hx hcell
      go_wp2_with (at_builtin; refine Kd.R_append (w0 := wr) k26 (w1.heap.size + 1) rfl (.tmp 73) (.tmp 76) 24 26 _ 96 rfl Try.underlying24 info26' rfl (by show 0 < 7; decide) (by decide) (.slice A6 done.length c6) done (intV x) [.int .i64 2, .bool false, .int .i64 x, .int .u64 0, .string ⟨#[]⟩, .slice none 0 0, .slice none 0 0] (fun q => w1.heap.size + 1 ≤ q) (fun _ => False) (by simp [Act.eval]) (by simp [Act.eval]) HM.out (fun _ h => h.elim) (fun q hq => by omega) HB.out.row (Below.refl _ _) (by omega) hlen ?_; intro v1 w3 hr1 hb1 hg1 hat1; obtain ⟨A7, n7, c7, rfl⟩ : ∃ A3 n3 c3, v1 = .slice A3 n3 c3 := (by obtain ⟨A, c, h⟩ := Kd.R_slice hr1; exact ⟨A, _, c, h⟩); have HN := Lib.hid (HB.out.put hg1 hr1); have hbx3 := blk_grown HB.out.box hg1 (fun he => by have := (Kd.R_bound HB.out.row).1 _ he.symm; omega); have hc63 := blk_cell hbx3 6; have hf63 := blk_frozen hbx3 6; clear hr1 hb1 hg1 hat1 hbx3)
      go_roundg (L1.length - (j + 1))
      case measure => have := HJ.out.2; omega
      case rel =>
        exact ⟨j + 1, done ++ [intV x], _, by go_num, ⟨by omega⟩, ⟨by rw [List.take_add_one, HX.out, HD.out]; simp⟩, ⟨HN.out⟩⟩
    · have hje : j = L1.length := by have := HJ.out.1; omega
      subst hje
      have hdone := HD.out
      rw [List.take_length] at hdone
      subst hdone
      have hlb := HB.out
      have hln : (L1.map intV).length = L1.length := by simp
      have HLB := Lib.hid hlb
      have HG := Lib.hid (fun (wi : World) (hb : Below wr.heap.size wr wi) => list_good (hlb.step hb) HW.out)
      have HPK := Lib.hid (fun (wi : World) (hb : Below wr.heap.size wr wi) ho hn => list_pack (hlb.step hb) HW.out ho hn)
      rw [hln] at hlb HLB HG HPK
      rw [hln] at hb6
      obtain ⟨q0, q1, q2, q3, q4, q5, q6⟩ := box7 hlb.box
      clear hb6 hf6 HB hlb hltb HJ hj
      go_wp2_with fail
      refine (HG.out _ (Below.refl _ _)).mono ?_
      rintro e w3 ⟨r, rfl, hb, hok⟩
      have HB3 := Lib.hid hb
      have HL3 := Lib.hid (HLB.out.step hb)
      have HO := Lib.hid hok
      clear hb hok HG q0 q1 q2 q3 q4 q5 q6
      cases r
      case false =>
        go_wp2_with fail
        go_ret
        exact ⟨rfl, HB1.out.trans (HL3.out.bel.mono HB1.out.size)⟩
      case true =>
        have HO2 := Lib.hid (HO.out rfl)
        clear HO
        have HEN := Lib.hid (enc_size HO2.out.1 HO2.out.2)
        have hfl : (L1.flatMap encInt).length ≤ 1000000000 := by
          have h := HEN.out
          rw [HENC.out, str_size, List.length_append] at h
          omega
        have HP2 := Lib.hid (HP.out w3 (HB1.out.trans (HL3.out.bel.mono HB1.out.size)) hfl (by omega))
        rw [HENC.out] at HPK HEN
        clear hfl HP
        generalize strOfNums (encHead 144 212 L1.length ++ L1.flatMap encInt) = sx at *
        have hsx := HEN.out
        clear HEN
        go_wp2_with fail
        refine (HP2.out).mono ?_
        rintro e w4 ⟨rfl, hb⟩
        have HL4 := Lib.hid (HL3.out.step hb)
        have HB4 := Lib.hid (HB3.out.trans (hb.mono HB3.out.size))
        obtain ⟨q0, q1, q2, q3, q4, q5, q6⟩ := box7 HL4.out.box
        clear hb HP2 HL3 HB3
        go_wp2_with fail
        refine (HPK.out _ HB4.out HO2.out.1 HO2.out.2).mono ?_
        rintro e w5 ⟨rfl, hb⟩
        have HL5 := Lib.hid (HL4.out.step hb)
        clear hb HL4 HB4 HPK q0 q1 q2 q3 q4 q5 q6
        go_wp2_with fail
        refine (alive_any _).mono ?_
        rintro e w6 ⟨rfl, hb⟩
        have HL6 := Lib.hid (HL5.out.step hb)
        clear hb HL5
        go_wp2_with fail
        go_ret
        exact ⟨rfl, HB1.out.trans (HL6.out.bel.mono HB1.out.size)⟩

set_option maxHeartbeats 4000000 in
set_option maxRecDepth 100000 in
theorem fnlists2 (way : Int) (A1 : Option Addr) (c1 : Nat) (L1 : List Int) (A2 : Option Addr) (c2 : Nat) (L2 : List Int) (A3 : Option Addr) (c3 : Nat) (L3 : List ByteArray) (w : World)
    (hk : way % 4 = 2) (hw0 : 0 ≤ way) (hw1 : way ≤ 255) (he1 : ∀ x ∈ L1, -9223372036854775808 ≤ x ∧ x < 9223372036854775808) (he2 : ∀ x ∈ L2, 0 ≤ x ∧ x < 18446744073709551616)
    (hc1 : L1.length ≤ c1) (hc2 : L2.length ≤ c2) (hc3 : L3.length ≤ c3) (hC1 : (Kd.int .i64).C w A1 L1.length L1) (hC2 : (Kd.int .u64).C w A2 L2.length L2) (hC3 : Kd.string.C w A3 L3.length L3) :
    Calls Try.prog 6 #[.int .u8 way, .slice A1 L1.length c1, .slice A2 L2.length c2, .slice A3 L3.length c3] w fun e w' => e = .returned (.bool true) ∧ Below w.heap.size w w' := by
  have HF := Lib.hid (fits2_any A3 c3 L3 w hC3 hc3)
  have HC := Lib.hid (hC2)
  have HW := Lib.hid (wfAll_map fltV L2 (fun x hx => ⟨⟨by decide, by decide, (he2 x hx).1, (he2 x hx).2⟩, trivial⟩))
  have HP := Lib.hid (fun (wi : World) (hb : Below w.heap.size w wi) (hl : (L2.flatMap (fun x => encFloat x.toNat)).length ≤ 1000000000) (hn : L2.length ≤ 100) => lists2 L2 A2 c2 (.slice A1 L1.length c1) (.slice A3 L3.length c3) wi (by assumption) (Kd.C_below hC2 hb) hl (by omega) he2)
  have HENC := Lib.hid (listV_enc fltV (fun x => encFloat x.toNat) fltV_enc L2)
  have hk2 : way.tmod 4 = 2 := by rw [Int.tmod_eq_emod_of_nonneg hw0]; exact hk
  clear hC1 hC2 hC3 he1 he2 hc1 hc2 hc3 hk
  go_enter Try.func6, Try.ntmps6
  by_cases h1 : (L1.length : Int) > 2147483647
  · go_wp2_with fail
    go_ret
    exact ⟨rfl, Below.refl _ _⟩
  by_cases h2 : (L2.length : Int) > 2147483647
  · go_wp2_with fail
    go_ret
    exact ⟨rfl, Below.refl _ _⟩
  go_wp2_with fail
  refine (HF.out).mono ?_
  rintro e w1 ⟨r, rfl, ⟨nd, rfl⟩⟩
  have HB1 := Lib.hid (pw_below_drewN (Below.refl w.heap.size w) nd)
  generalize w.drewN nd = w1 at *
  clear HF
  cases r
  case false =>
    go_wp2_with fail
    go_ret
    exact ⟨rfl, HB1.out⟩
  by_cases h3 : (L1.length : Int) > 100
  · go_wp2_with fail
    go_ret
    exact ⟨rfl, HB1.out⟩
  by_cases h4 : (L2.length : Int) > 100
  · go_wp2_with fail
    go_ret
    exact ⟨rfl, HB1.out⟩
  by_cases h5 : (L3.length : Int) > 100
  · go_wp2_with fail
    go_ret
    exact ⟨rfl, HB1.out⟩
  clear h1 h2
  go_wp2_with fail
  have HLB := Lib.hid (show LB w1 (w1.alloc (.cells #[.int .i64 6, .bool false, .int .i64 0, .int .u64 0, .string ⟨#[]⟩, .slice none 0 0, .slice none 0 0] 26)) (.slice none 0 0) [] from ⟨below_alloc (Below.refl _ _) _, heap_alloc_new _ _, Kd.R_nil _ _ _ _ _⟩)
  go_loopg [84] L2.length (fun gk vi wr => ∃ (j : Nat) (done : List S26) (v : Value), vi = .int .i64 j ∧ Aside0 (j ≤ L2.length ∧ gk = L2.length - j) ∧ Aside0 (done = (L2.take j).map fltV) ∧ Aside0 (LB w1 wr v done))
  case atStart => exact ⟨0, [], _, rfl, ⟨by omega⟩, ⟨by simp⟩, ⟨HLB.out⟩⟩
  case round =>
    clear HLB
    obtain ⟨j, done, v, rfl, HJ, HD, HB⟩ := hrel
    obtain ⟨A6, c6, rfl⟩ := Kd.R_slice HB.out.row
    have hb6 := blk_cell HB.out.box 6
    have hf6 := blk_frozen HB.out.box 6
    have hltb := blk_lt HB.out.box
    by_cases hj : j < L2.length
    · obtain ⟨x, hx⟩ : ∃ x, L2[j]? = some x := ⟨_, List.getElem?_eq_getElem hj⟩
      obtain ⟨ad, hAd, hcell⟩ := at_enc HC.out hx
      have hcr := pw_cell_below (HB1.out.trans (HB.out.bel.mono HB1.out.size)) hcell
      subst hAd
      have HX := Lib.hid hx
      have hlen : (done.length + 1) * 96 ≤ 140737488355328 := by rw [HD.out]; simp only [List.length_map, List.length_take]; omega
      have hszr := HB.out.bel.size
      have HM := Lib.hid (PAll.k26_mkM wr (w1.heap.size + 1) (fun _ => False) (fltV x) (Kd.R_nil _ _ _ _ _) (Kd.R_nil _ _ _ _ _))
      clear hx hcell
      go_wp2_with (at_builtin; refine Kd.R_append (w0 := wr) k26 (w1.heap.size + 1) rfl (.tmp 89) (.tmp 92) 24 26 _ 96 rfl Try.underlying24 info26' rfl (by show 0 < 7; decide) (by decide) (.slice A6 done.length c6) done (fltV x) [.int .i64 3, .bool false, .int .i64 0, .int .u64 x, .string ⟨#[]⟩, .slice none 0 0, .slice none 0 0] (fun q => w1.heap.size + 1 ≤ q) (fun _ => False) (by simp [Act.eval]) (by simp [Act.eval]) HM.out (fun _ h => h.elim) (fun q hq => by omega) HB.out.row (Below.refl _ _) (by omega) hlen ?_; intro v1 w3 hr1 hb1 hg1 hat1; obtain ⟨A7, n7, c7, rfl⟩ : ∃ A3 n3 c3, v1 = .slice A3 n3 c3 := (by obtain ⟨A, c, h⟩ := Kd.R_slice hr1; exact ⟨A, _, c, h⟩); have HN := Lib.hid (HB.out.put hg1 hr1); have hbx3 := blk_grown HB.out.box hg1 (fun he => by have := (Kd.R_bound HB.out.row).1 _ he.symm; omega); have hc63 := blk_cell hbx3 6; have hf63 := blk_frozen hbx3 6; clear hr1 hb1 hg1 hat1 hbx3)
      go_roundg (L2.length - (j + 1))
      case measure => have := HJ.out.2; omega
      case rel =>
        exact ⟨j + 1, done ++ [fltV x], _, by go_num, ⟨by omega⟩, ⟨by rw [List.take_add_one, HX.out, HD.out]; simp⟩, ⟨HN.out⟩⟩
    · have hje : j = L2.length := by have := HJ.out.1; omega
      subst hje
      have hdone := HD.out
      rw [List.take_length] at hdone
      subst hdone
      have hlb := HB.out
      have hln : (L2.map fltV).length = L2.length := by simp
      have HLB := Lib.hid hlb
      have HG := Lib.hid (fun (wi : World) (hb : Below wr.heap.size wr wi) => list_good (hlb.step hb) HW.out)
      have HPK := Lib.hid (fun (wi : World) (hb : Below wr.heap.size wr wi) ho hn => list_pack (hlb.step hb) HW.out ho hn)
      rw [hln] at hlb HLB HG HPK
      rw [hln] at hb6
      obtain ⟨q0, q1, q2, q3, q4, q5, q6⟩ := box7 hlb.box
      clear hb6 hf6 HB hlb hltb HJ hj
      go_wp2_with fail
      refine (HG.out _ (Below.refl _ _)).mono ?_
      rintro e w3 ⟨r, rfl, hb, hok⟩
      have HB3 := Lib.hid hb
      have HL3 := Lib.hid (HLB.out.step hb)
      have HO := Lib.hid hok
      clear hb hok HG q0 q1 q2 q3 q4 q5 q6
      cases r
      case false =>
        go_wp2_with fail
        go_ret
        exact ⟨rfl, HB1.out.trans (HL3.out.bel.mono HB1.out.size)⟩
      case true =>
        have HO2 := Lib.hid (HO.out rfl)
        clear HO
        have HEN := Lib.hid (enc_size HO2.out.1 HO2.out.2)
        have hfl : (L2.flatMap (fun x => encFloat x.toNat)).length ≤ 1000000000 := by
          have h := HEN.out
          rw [HENC.out, str_size, List.length_append] at h
          omega
        have HP2 := Lib.hid (HP.out w3 (HB1.out.trans (HL3.out.bel.mono HB1.out.size)) hfl (by omega))
        rw [HENC.out] at HPK HEN
        clear hfl HP
        generalize strOfNums (encHead 144 212 L2.length ++ L2.flatMap (fun x => encFloat x.toNat)) = sx at *
        have hsx := HEN.out
        clear HEN
        go_wp2_with fail
        refine (HP2.out).mono ?_
        rintro e w4 ⟨rfl, hb⟩
        have HL4 := Lib.hid (HL3.out.step hb)
        have HB4 := Lib.hid (HB3.out.trans (hb.mono HB3.out.size))
        obtain ⟨q0, q1, q2, q3, q4, q5, q6⟩ := box7 HL4.out.box
        clear hb HP2 HL3 HB3
        go_wp2_with fail
        refine (HPK.out _ HB4.out HO2.out.1 HO2.out.2).mono ?_
        rintro e w5 ⟨rfl, hb⟩
        have HL5 := Lib.hid (HL4.out.step hb)
        clear hb HL4 HB4 HPK q0 q1 q2 q3 q4 q5 q6
        go_wp2_with fail
        refine (alive_any _).mono ?_
        rintro e w6 ⟨rfl, hb⟩
        have HL6 := Lib.hid (HL5.out.step hb)
        clear hb HL5
        go_wp2_with fail
        go_ret
        exact ⟨rfl, HB1.out.trans (HL6.out.bel.mono HB1.out.size)⟩

set_option maxHeartbeats 4000000 in
set_option maxRecDepth 100000 in
theorem fnlists3 (way : Int) (A1 : Option Addr) (c1 : Nat) (L1 : List Int) (A2 : Option Addr) (c2 : Nat) (L2 : List Int) (A3 : Option Addr) (c3 : Nat) (L3 : List ByteArray) (w : World)
    (hk : way % 4 = 3) (hw0 : 0 ≤ way) (hw1 : way ≤ 255) (he1 : ∀ x ∈ L1, -9223372036854775808 ≤ x ∧ x < 9223372036854775808) (he2 : ∀ x ∈ L2, 0 ≤ x ∧ x < 18446744073709551616)
    (hc1 : L1.length ≤ c1) (hc2 : L2.length ≤ c2) (hc3 : L3.length ≤ c3) (hC1 : (Kd.int .i64).C w A1 L1.length L1) (hC2 : (Kd.int .u64).C w A2 L2.length L2) (hC3 : Kd.string.C w A3 L3.length L3) :
    Calls Try.prog 6 #[.int .u8 way, .slice A1 L1.length c1, .slice A2 L2.length c2, .slice A3 L3.length c3] w fun e w' => e = .returned (.bool true) ∧ Below w.heap.size w w' := by
  have HF := Lib.hid (fits2_any A3 c3 L3 w hC3 hc3)
  have HC := Lib.hid (hC3)
  have HW := Lib.hid (wfAll_map txtV L3 (fun x hx => ⟨⟨by decide, by decide, by decide, by decide⟩, trivial⟩))
  have HP := Lib.hid (fun (wi : World) (hb : Below w.heap.size w wi) (hl : (L3.flatMap encText).length ≤ 1000000000) (hn : L3.length ≤ 100) (hx : ∀ x ∈ L3, x.size ≤ 300) => lists3 L3 A3 c3 (.slice A1 L1.length c1) (.slice A2 L2.length c2) wi (by assumption) (Kd.C_below hC3 hb) hl (by omega) hx)
  have HENC := Lib.hid (listV_enc txtV encText txtV_enc L3)
  have hk2 : way.tmod 4 = 3 := by rw [Int.tmod_eq_emod_of_nonneg hw0]; exact hk
  clear hC1 hC2 hC3 he1 he2 hc1 hc2 hc3 hk
  go_enter Try.func6, Try.ntmps6
  by_cases h1 : (L1.length : Int) > 2147483647
  · go_wp2_with fail
    go_ret
    exact ⟨rfl, Below.refl _ _⟩
  by_cases h2 : (L2.length : Int) > 2147483647
  · go_wp2_with fail
    go_ret
    exact ⟨rfl, Below.refl _ _⟩
  go_wp2_with fail
  refine (HF.out).mono ?_
  rintro e w1 ⟨r, rfl, ⟨nd, rfl⟩⟩
  have HB1 := Lib.hid (pw_below_drewN (Below.refl w.heap.size w) nd)
  generalize w.drewN nd = w1 at *
  clear HF
  cases r
  case false =>
    go_wp2_with fail
    go_ret
    exact ⟨rfl, HB1.out⟩
  by_cases h3 : (L1.length : Int) > 100
  · go_wp2_with fail
    go_ret
    exact ⟨rfl, HB1.out⟩
  by_cases h4 : (L2.length : Int) > 100
  · go_wp2_with fail
    go_ret
    exact ⟨rfl, HB1.out⟩
  by_cases h5 : (L3.length : Int) > 100
  · go_wp2_with fail
    go_ret
    exact ⟨rfl, HB1.out⟩
  clear h1 h2
  go_wp2_with fail
  have HLB := Lib.hid (show LB w1 (w1.alloc (.cells #[.int .i64 6, .bool false, .int .i64 0, .int .u64 0, .string ⟨#[]⟩, .slice none 0 0, .slice none 0 0] 26)) (.slice none 0 0) [] from ⟨below_alloc (Below.refl _ _) _, heap_alloc_new _ _, Kd.R_nil _ _ _ _ _⟩)
  go_loopg [51] L3.length (fun gk vi wr => ∃ (j : Nat) (done : List S26) (v : Value), vi = .int .i64 j ∧ Aside0 (j ≤ L3.length ∧ gk = L3.length - j) ∧ Aside0 (done = (L3.take j).map txtV) ∧ Aside0 (LB w1 wr v done))
  case atStart => exact ⟨0, [], _, rfl, ⟨by omega⟩, ⟨by simp⟩, ⟨HLB.out⟩⟩
  case round =>
    clear HLB
    obtain ⟨j, done, v, rfl, HJ, HD, HB⟩ := hrel
    obtain ⟨A6, c6, rfl⟩ := Kd.R_slice HB.out.row
    have hb6 := blk_cell HB.out.box 6
    have hf6 := blk_frozen HB.out.box 6
    have hltb := blk_lt HB.out.box
    by_cases hj : j < L3.length
    · obtain ⟨x, hx⟩ : ∃ x, L3[j]? = some x := ⟨_, List.getElem?_eq_getElem hj⟩
      obtain ⟨ad, hAd, hcell⟩ := at_enc HC.out hx
      have hcr := pw_cell_below (HB1.out.trans (HB.out.bel.mono HB1.out.size)) hcell
      subst hAd
      have HX := Lib.hid hx
      have hlen : (done.length + 1) * 96 ≤ 140737488355328 := by rw [HD.out]; simp only [List.length_map, List.length_take]; omega
      have hszr := HB.out.bel.size
      have HM := Lib.hid (PAll.k26_mkM wr (w1.heap.size + 1) (fun _ => False) (txtV x) (Kd.R_nil _ _ _ _ _) (Kd.R_nil _ _ _ _ _))
      clear hx hcell
      go_wp2_with (at_builtin; refine Kd.R_append (w0 := wr) k26 (w1.heap.size + 1) rfl (.tmp 56) (.tmp 59) 24 26 _ 96 rfl Try.underlying24 info26' rfl (by show 0 < 7; decide) (by decide) (.slice A6 done.length c6) done (txtV x) [.int .i64 4, .bool false, .int .i64 0, .int .u64 0, .string x, .slice none 0 0, .slice none 0 0] (fun q => w1.heap.size + 1 ≤ q) (fun _ => False) (by simp [Act.eval]) (by simp [Act.eval]) HM.out (fun _ h => h.elim) (fun q hq => by omega) HB.out.row (Below.refl _ _) (by omega) hlen ?_; intro v1 w3 hr1 hb1 hg1 hat1; obtain ⟨A7, n7, c7, rfl⟩ : ∃ A3 n3 c3, v1 = .slice A3 n3 c3 := (by obtain ⟨A, c, h⟩ := Kd.R_slice hr1; exact ⟨A, _, c, h⟩); have HN := Lib.hid (HB.out.put hg1 hr1); have hbx3 := blk_grown HB.out.box hg1 (fun he => by have := (Kd.R_bound HB.out.row).1 _ he.symm; omega); have hc63 := blk_cell hbx3 6; have hf63 := blk_frozen hbx3 6; clear hr1 hb1 hg1 hat1 hbx3)
      go_roundg (L3.length - (j + 1))
      case measure => have := HJ.out.2; omega
      case rel =>
        exact ⟨j + 1, done ++ [txtV x], _, by go_num, ⟨by omega⟩, ⟨by rw [List.take_add_one, HX.out, HD.out]; simp⟩, ⟨HN.out⟩⟩
    · have hje : j = L3.length := by have := HJ.out.1; omega
      subst hje
      have hdone := HD.out
      rw [List.take_length] at hdone
      subst hdone
      have hlb := HB.out
      have hln : (L3.map txtV).length = L3.length := by simp
      have HLB := Lib.hid hlb
      have HG := Lib.hid (fun (wi : World) (hb : Below wr.heap.size wr wi) => list_good (hlb.step hb) HW.out)
      have HPK := Lib.hid (fun (wi : World) (hb : Below wr.heap.size wr wi) ho hn => list_pack (hlb.step hb) HW.out ho hn)
      rw [hln] at hlb HLB HG HPK
      rw [hln] at hb6
      obtain ⟨q0, q1, q2, q3, q4, q5, q6⟩ := box7 hlb.box
      clear hb6 hf6 HB hlb hltb HJ hj
      go_wp2_with fail
      refine (HG.out _ (Below.refl _ _)).mono ?_
      rintro e w3 ⟨r, rfl, hb, hok⟩
      have HB3 := Lib.hid hb
      have HL3 := Lib.hid (HLB.out.step hb)
      have HO := Lib.hid hok
      clear hb hok HG q0 q1 q2 q3 q4 q5 q6
      cases r
      case false =>
        go_wp2_with fail
        go_ret
        exact ⟨rfl, HB1.out.trans (HL3.out.bel.mono HB1.out.size)⟩
      case true =>
        have HO2 := Lib.hid (HO.out rfl)
        clear HO
        have HEN := Lib.hid (enc_size HO2.out.1 HO2.out.2)
        have hfl : (L3.flatMap encText).length ≤ 1000000000 := by
          have h := HEN.out
          rw [HENC.out, str_size, List.length_append] at h
          omega
        have HP2 := Lib.hid (HP.out w3 (HB1.out.trans (HL3.out.bel.mono HB1.out.size)) hfl (by omega) (okAll_txt L3 HO2.out.1.2))
        rw [HENC.out] at HPK HEN
        clear hfl HP
        generalize strOfNums (encHead 144 212 L3.length ++ L3.flatMap encText) = sx at *
        have hsx := HEN.out
        clear HEN
        go_wp2_with fail
        refine (HP2.out).mono ?_
        rintro e w4 ⟨rfl, hb⟩
        have HL4 := Lib.hid (HL3.out.step hb)
        have HB4 := Lib.hid (HB3.out.trans (hb.mono HB3.out.size))
        obtain ⟨q0, q1, q2, q3, q4, q5, q6⟩ := box7 HL4.out.box
        clear hb HP2 HL3 HB3
        go_wp2_with fail
        refine (HPK.out _ HB4.out HO2.out.1 HO2.out.2).mono ?_
        rintro e w5 ⟨rfl, hb⟩
        have HL5 := Lib.hid (HL4.out.step hb)
        clear hb HL4 HB4 HPK q0 q1 q2 q3 q4 q5 q6
        go_wp2_with fail
        refine (alive_any _).mono ?_
        rintro e w6 ⟨rfl, hb⟩
        have HL6 := Lib.hid (HL5.out.step hb)
        clear hb HL5
        go_wp2_with fail
        go_ret
        exact ⟨rfl, HB1.out.trans (HL6.out.bel.mono HB1.out.size)⟩

theorem FnPackLists_row (way : Int) (A1 : Option Addr) (c1 : Nat) (L1 : List Int) (A2 : Option Addr) (c2 : Nat) (L2 : List Int) (A3 : Option Addr) (c3 : Nat) (L3 : List ByteArray) (w : World) (hw : (Lit.int IntKind.u8 way).wf = true)
    (hw1 : ∀ x ∈ L1, (Lit.int IntKind.i64 x).wf = true) (hc1 : L1.length ≤ c1) (hC1 : (Kd.int .i64).C w A1 L1.length L1) (hw2 : ∀ x ∈ L2, (Lit.int IntKind.u64 x).wf = true) (hc2 : L2.length ≤ c2) (hC2 : (Kd.int .u64).C w A2 L2.length L2)
    (hc3 : L3.length ≤ c3) (hC3 : Kd.string.C w A3 L3.length L3) :
    Calls Try.prog 6 #[.int .u8 way, .slice A1 L1.length c1, .slice A2 L2.length c2, .slice A3 L3.length c3] w fun e w' => e = .returned (.bool true) ∧ Below w.heap.size w w' := by
  have he1 : ∀ x ∈ L1, -9223372036854775808 ≤ x ∧ x < 9223372036854775808 := fun x hx => by have := Go.bounds_i64 (hw1 x hx); omega
  have he2 : ∀ x ∈ L2, 0 ≤ x ∧ x < 18446744073709551616 := fun x hx => by have := Go.bounds_u64 (hw2 x hx); omega
  have h0 : 0 ≤ way ∧ way ≤ 255 := by have := Go.bounds_u8 hw; omega
  rcases (show way % 4 = 0 ∨ way % 4 = 1 ∨ way % 4 = 2 ∨ way % 4 = 3 by omega) with h | h | h | h
  · exact fnlists0 way A1 c1 L1 A2 c2 L2 A3 c3 L3 w h h0.1 h0.2 he1 he2 hc1 hc2 hc3 hC1 hC2 hC3
  · exact fnlists1 way A1 c1 L1 A2 c2 L2 A3 c3 L3 w h h0.1 h0.2 he1 he2 hc1 hc2 hc3 hC1 hC2 hC3
  · exact fnlists2 way A1 c1 L1 A2 c2 L2 A3 c3 L3 w h h0.1 h0.2 he1 he2 hc1 hc2 hc3 hC1 hC2 hC3
  · exact fnlists3 way A1 c1 L1 A2 c2 L2 A3 c3 L3 w h h0.1 h0.2 he1 he2 hc1 hc2 hc3 hC1 hC2 hC3
end Go.Proofs.Ytjnookhdiolhgaa
