/- FnPackWide: the walk. -/
import Derived.Test.YtjnookhdiolhgaaWd
import Derived.Test.YtjnookhdiolhgaaFnPackBack
import Derived.OpenShut
namespace Go.Proofs.Ytjnookhdiolhgaa
set_option linter.unusedVariables false
set_option linter.unusedSimpArgs false
open Go.RowKit Go.Proofs.YtjnookhdiolhgaaW.PrintWords
open PAll (S26 k26)
open Go.Proofs.YtjnookhdiolhgaaW.PrintLast (goes_)

set_option maxRecDepth 100000 in
theorem widen_any : ∀ N, WdSaid N := by
  intro N
  induction N with
  | zero =>
    intro x A5 c5 A6 c6 wb w0 w hn
    have := nodes_pos x
    omega
  | succ N ih =>
    intro x A5 c5 A6 c6 wb w0 w hn hok hwf hn1 h5 h6 hk5 hk6 hw h0b hwy
    have hok0 := hok
    have hwf0 := hwf
    obtain ⟨k, b, i, f, s, keys, kids⟩ := x
    have hel := enc_len ⟨k, b, i, f, s, keys, kids⟩ hok0
    have hby := enc_bytes ⟨k, b, i, f, s, keys, kids⟩ hok0 hwf0 (by omega)
    have hpe := fun f' deep r h1 h2 => parse_enc ⟨k, b, i, f, s, keys, kids⟩ f' deep r hok0 hwf0 h1 (by omega) h2
    have hnn : nodes ⟨k, b, i, f, s, keys, kids⟩ = nodesAll kids + 1 := by simp only [nodes]
    simp only [okV] at hok
    simp only [wfV] at hwf
    obtain ⟨⟨hk0, hk8, hs, hb, hi, hg, hs0, hkeys, hkids, h8, h7, hks⟩, hoa⟩ := hok
    obtain ⟨⟨hi0, hi1, hf0, hf1⟩, hwa⟩ := hwf
    rw [hnn] at hn hn1 hel ⊢
    have hB : ∀ wi : World, Below w.heap.size w wi ∨ w.grownBy wi (some wb) → Below w0.heap.size w0 wi := fun wi h => by
      rcases h with h | h
      · exact hw.trans (h.mono hw.size)
      · exact hw.grown h hw.size (by rintro q hq; injection hq with hq; omega)
    have hpl : (k = 0 ∨ k = 1 ∨ k = 3) → Calls Try.prog 76 #[valOf ⟨k, b, i, f, s, keys, kids⟩ A5 c5 A6 c6, .pointer (some ⟨wb, 0, none⟩), .func (.func 77) #[] #[]] w fun e w' =>
        ∃ s' : ByteArray, e = .returned (.string s') ∧ PW ⟨k, b, i, f, s, keys, kids⟩ (bytesOf s') ∧ (k = 4 → KW s (bytesOf s')) ∧ s'.size + 310 ≤ 620 * (nodesAll kids + 1) ∧ WyE w' wb ∧ w.grownBy w' (some wb) := fun hk => by
      refine (widen_plain k hk b i f s keys.length kids.length A5 c5 A6 c6 wb w hwy (strOfNums (enc ⟨k, b, i, f, s, keys, kids⟩)) (fun wi h => plainly_any ⟨k, b, i, f, s, keys, kids⟩ A5 c5 A6 c6 wi hok0 hwf0 (by omega) h5 h6 (Kd.C_below hk5 (hB wi h)) (Kd.C_below hk6 (hB wi h)))).mono ?_
      rintro e w' ⟨rfl, h1, h2⟩
      exact ⟨_, rfl, fun f' deep r h1 h2 => by rw [bytesOf_strOfNums hby]; exact hpe f' deep r h1 h2, fun h => by omega, by rw [str_size]; exact hel, h1, h2⟩
    rcases (show k = 0 ∨ k = 1 ∨ k = 2 ∨ k = 3 ∨ k = 4 ∨ k = 5 ∨ k = 6 ∨ k = 7 ∨ k = 8 by omega) with rfl | rfl | rfl | rfl | rfl | rfl | rfl | rfl | rfl
    · exact hpl (.inl rfl)
    · exact hpl (.inr (.inl rfl))
    · obtain rfl := hb (by decide)
      obtain rfl := hg (by decide)
      obtain rfl := size_zero (hs0 (by decide) (by decide))
      obtain rfl := hkeys (by decide)
      obtain rfl := hkids (by decide)
      refine (widen_int false i 0 ⟨#[]⟩ 0 0 A5 c5 A6 c6 wb w hwy hi0 hi1).mono ?_
      rintro e w' ⟨l, rfl, ht, hl, hz, h1, h2⟩
      exact ⟨_, rfl, by rw [bytesOf_strOfNums hl]; exact PW_val ht, fun h => absurd (show (2 : Int) = 4 from h) (by decide), by rw [str_size]; simp only [nodesAll]; omega, h1, h2⟩
    · exact hpl (.inr (.inr rfl))
    · obtain rfl := hb (by decide)
      obtain rfl := hi (by decide) (by decide)
      obtain rfl := hg (by decide)
      obtain rfl := hkeys (by decide)
      obtain rfl := hkids (by decide)
      refine (widen_s4 false 0 0 s hs 0 0 A5 c5 A6 c6 wb w hwy).mono ?_
      rintro e w' ⟨h, rfl, hz, h1, h2⟩
      have hb2 := Szd_bytes hz (by omega) (by omega) (by omega) (by omega)
      have hl2 := Szd_len hz
      have e2 : bytesOf (strOfNums h ++ s) = h ++ bytesOf s := by rw [bytesOf_append, bytesOf_strOfNums hb2]
      exact ⟨_, rfl, by rw [e2]; exact PW_val (wide_str s hs h hz), fun _ => by rw [e2]; exact wide_key s hs h hz, by rw [ByteArray.size_append, str_size]; simp only [nodesAll]; omega, h1, h2⟩
    · obtain rfl := hb (by decide)
      obtain rfl := hi (by decide) (by decide)
      obtain rfl := hg (by decide)
      obtain rfl := hkeys (by decide)
      obtain rfl := hkids (by decide)
      refine (widen_s5 false 0 0 s hs 0 0 A5 c5 A6 c6 wb w hwy).mono ?_
      rintro e w' ⟨h, rfl, hz, h1, h2⟩
      have hb2 := Szd_bytes hz (by omega) (by omega) (by omega) (by omega)
      have hl2 := Szd_len hz
      have e2 : bytesOf (strOfNums h ++ s) = h ++ bytesOf s := by rw [bytesOf_append, bytesOf_strOfNums hb2]
      exact ⟨_, rfl, by rw [e2]; exact PW_val (wide_bytes s hs h hz), fun h => absurd (show (5 : Int) = 4 from h) (by decide), by rw [ByteArray.size_append, str_size]; simp only [nodesAll]; omega, h1, h2⟩
    · obtain rfl := hb (by decide)
      obtain rfl := hi (by decide) (by decide)
      obtain rfl := hg (by decide)
      obtain rfl := size_zero (hs0 (by decide) (by decide))
      obtain rfl := hkeys (by decide)
      refine (widen_k6 N ih false 0 0 ⟨#[]⟩ [] kids A5 c5 A6 c6 wb w0 w (by omega) (by omega) hoa hwa h5 h6 hk5 hk6 hw h0b hwy).mono ?_
      rintro e w' ⟨so, hd, lb, rfl, e2, hz, hr, hzz, h1, h2⟩
      have hkl := nodesAll_len kids
      exact ⟨_, rfl, by rw [e2]; exact PW_opn (wide_list kids.length (by omega) hd hz) hr (fun _ => rfl), fun h => absurd (show (6 : Int) = 4 from h) (by decide), by omega, h1, h2⟩
    · obtain rfl := hb (by decide)
      obtain rfl := hi (by decide) (by decide)
      obtain rfl := hg (by decide)
      obtain rfl := size_zero (hs0 (by decide) (by decide))
      refine (widen_k7 N ih false 0 0 ⟨#[]⟩ keys kids A5 c5 A6 c6 wb w0 w (by omega) (by omega) hoa hwa (h7 rfl) hks h5 h6 hk5 hk6 hw h0b hwy).mono ?_
      rintro e w' ⟨so, hd, lb, rfl, e2, hz, hr, hzz, h1, h2⟩
      have hkl := nodesAll_len kids
      exact ⟨_, rfl, by rw [e2]; exact PW_opn (wide_map kids.length (by omega) hd hz) hr (fun h => by cases h), fun h => absurd (show (7 : Int) = 4 from h) (by decide), by omega, h1, h2⟩
    · obtain rfl := hb (by decide)
      obtain rfl := hg (by decide)
      obtain rfl := size_zero (hs0 (by decide) (by decide))
      obtain rfl := hkeys (by decide)
      refine (widen_k8 N ih false i 0 ⟨#[]⟩ [] kids A5 c5 A6 c6 wb w0 w (by omega) (by omega) hoa hwa (h8 rfl) h5 h6 hk5 hk6 hw h0b hwy).mono ?_
      rintro e w' ⟨so, hd, lb, rfl, e2, hz, hr, hzz, h1, h2⟩
      subst hz
      exact ⟨_, rfl, by rw [e2]; exact PW_opn (fun r => tok_struct kids.length (h8 rfl).2.2 i r) hr (fun _ => rfl), fun h => absurd (show (8 : Int) = 4 from h) (by decide), by omega, h1, h2⟩

set_option maxHeartbeats 1000000 in
set_option maxRecDepth 100000 in
theorem wide_any (x : S26) (A5 : Option Addr) (c5 : Nat) (A6 : Option Addr) (c6 : Nat) (wb : Nat) (w0 w : World) (hx : In w0 x A5 c5 A6 c6) (hok : okV x) (hn : nodes x ≤ 400) (hb : Below w0.heap.size w0 w) (h0b : w0.heap.size ≤ wb) (hwy : WyE w wb) :
    Calls Try.prog 37 #[valOf x A5 c5 A6 c6, .pointer (some ⟨wb, 0, none⟩)] w fun e w' => ∃ s : ByteArray, e = .returned (.string s) ∧ PW x (bytesOf s) ∧ s.size + 310 ≤ 620 * nodes x ∧ w.grownBy w' (some wb) := by
  have HX := Aside0.mk (fun (wi : World) (h : Below w0.heap.size w0 wi) (hwi : WyE wi wb) => widen_any (nodes x) x A5 c5 A6 c6 wb w0 wi (Nat.le_refl _) hok hx.wf (by omega) hx.l5 hx.l6 hx.k5 hx.k6 h h0b hwi)
  have HB := Aside0.mk (below_alloc (Below.refl w.heap.size w) (.cells #[.int .i64 x.f0, .bool x.f1, .int .i64 x.f2, .int .u64 x.f3, .string x.f4, .slice A5 x.f5.length c5, .slice A6 x.f6.length c6] 26))
  have HW := Aside0.mk (And.intro hb hwy)
  clear hx hok hb hwy
  unfold valOf at *
  go_enter Try.func37, Try.ntmps37
  go_wp2_with fail
  refine (HX.out _ (HW.out.1.trans (HB.out.mono HW.out.1.size)) (HW.out.2.below HB.out)).mono ?_
  rintro e w2 ⟨s, rfl, hp, -, hz, -, hg⟩
  have HR := Aside0.mk (And.intro hp (And.intro hz (grown_trans' (grown_of_below HB.out (some wb)) hg)))
  clear hp hz hg HX
  go_wp2_with fail
  go_ret
  exact ⟨s, rfl, HR.out.1, HR.out.2.1, HR.out.2.2⟩

theorem wide_parses {x : S26} {s : ByteArray} (h : PW x (bytesOf s)) (hn : nodes x ≤ 400) : Parses 1002 (bytesOf s) [x] := by
  have h1 := h 1002 0 [] (by omega) (by omega)
  rw [List.append_nil] at h1
  refine ⟨?_, [], h1, rfl⟩
  intro he
  rw [he] at h1
  have h2 := (parse_len 1002 0 [] [] x (fun y hy => by cases hy) h1).1
  exact Nat.lt_irrefl _ h2
theorem wide_all (x : S26) (s : ByteArray) (hs : s.size ≤ 248000) (hp : Parses 1002 (bytesOf s) [x]) (wi : World) :
    Calls Try.prog 34 #[.string s] wi fun e w' => Below wi.heap.size wi w' ∧ ∃ g n c A5 c5 A6 c6, n = 1 ∧ e = .returned (.tuple #[.slice (some ⟨g, 0, none⟩) n c, .int .i64 0]) ∧ x.f5.length ≤ c5 ∧ x.f6.length ≤ c6 ∧ Kd.C Kd.string w' A5 x.f5.length x.f5 ∧ Kd.C k26 w' A6 x.f6.length x.f6 ∧
      w'.cell? ⟨g, 0, none⟩ = some (.int .i64 x.f0) ∧ w'.cell? ⟨g, 1, none⟩ = some (.bool x.f1) ∧ w'.cell? ⟨g, 2, none⟩ = some (.int .i64 x.f2) ∧ w'.cell? ⟨g, 3, none⟩ = some (.int .u64 x.f3) ∧ w'.cell? ⟨g, 4, none⟩ = some (.string x.f4) ∧
      w'.cell? ⟨g, 5, none⟩ = some (.slice A5 x.f5.length c5) ∧ w'.cell? ⟨g, 6, none⟩ = some (.slice A6 x.f6.length c6) := by
  refine (UnpackAll_any 1002 s [x] wi (by omega) hp).mono ?_
  rintro e w' ⟨hb, v, rfl, hr⟩
  obtain ⟨g, c, rfl, -, -, -⟩ := Kd.R_form hr (by simp)
  obtain ⟨hn1, hnc, hC⟩ := Kd.R_reads' hr
  obtain ⟨ad, A5, c5, A6, c6, had, g0, g1, g2, g3, g4, g5, g6, l5, q5, l6, q6⟩ := PAll.at_T26 hC 0 (by omega) (by simp)
  have hry : PAll.rd_T26 [x] (0 : Int) = x := rfl
  rw [hry] at g0 g1 g2 g3 g4 g5 g6 l5 q5 l6 q6
  injection had with had
  subst had
  exact ⟨hb, g, 1, c, A5, c5, A6, c6, rfl, rfl, l5, l6, q5, q6, g0, g1, g2, g3, g4, g5, g6⟩

theorem One.grown {w wi wj : World} {p : Obj} {wb : Nat} (h : One w wi p) (hg : wi.grownBy wj (some wb)) (hw : w.heap.size < wb) : One w wj p :=
  ⟨h.bel.grown hg h.bel.size (by rintro q hq; injection hq with hq; omega), (hg.block _ (blk_lt h.b0) (by intro he; injection he with he; omega)).trans h.b0⟩
theorem wy_own {w : World} {base : Nat} {v : Value} {l : List Int} {o : Obj} (h : w.ownsRow base 5 1 v l.length (nums .u8 l)) (hl : ∀ x ∈ l, 0 ≤ x ∧ x ≤ 255) (ho : o = .cells #[v] 69) : WyE (w.alloc o) w.heap.size := by
  subst ho
  have hr : (Kd.int .u8).R 5 w base (fun _ => True) v l := Kd.R_of_own h (fun _ _ => trivial)
  obtain ⟨A, c, rfl⟩ := Kd.R_slice hr
  obtain ⟨h1, h2, h3⟩ := Kd.R_reads' hr
  refine ⟨A, l.length, c, l, heap_alloc_new w _, rfl, h2, Kd.C_below h3 (below_alloc (Below.refl _ _) _), hl, ?_⟩
  rintro ad rfl
  have hlt := Kd.R_lt hr
  rcases h.2 with ⟨he, _⟩ | ⟨g, cap, cur, he, hg, hh, _⟩
  · cases he
  · injection he with he _ _
    injection he with he
    subst he
    have := blk_lt hh
    show g ≠ w.heap.size
    omega

set_option maxHeartbeats 2000000 in
set_option maxRecDepth 100000 in
theorem FnPackWide_walk (x : S26) (A5 : Option Addr) (c5 : Nat) (A6 : Option Addr) (c6 : Nat) (Aw : Option Addr) (cw : Nat) (lw : List Int) (w : World) (hx : In w x A5 c5 A6 c6) (hwr : ∀ a ∈ lw, 0 ≤ a ∧ a ≤ 255) (hcw : lw.length ≤ cw) (hkw : (Kd.int .u8).C w Aw lw.length lw) :
    Calls Try.prog 13 #[valOf x A5 c5 A6 c6, .slice Aw lw.length cw] w fun e w' => e = .returned (.bool true) ∧ Below w.heap.size w w' := by
  have HFX := Aside0.mk (fun wi (hb : Below w.heap.size w wi) => (hx.below hb).fits)
  have HGX := Aside0.mk (fun wi (hb : Below w.heap.size w wi) => (hx.below hb).good)
  have HIX := Aside0.mk (fun wi (hb : Below w.heap.size w wi) => hx.below hb)
  have HWX := Aside0.mk (fun wi (hb : Below w.heap.size w wi) (wb : Nat) (hok : okV x) (hn : nodes x ≤ 400) (h0b : w.heap.size ≤ wb) (hwy : WyE wi wb) => wide_any x A5 c5 A6 c6 wb w wi hx hok hn hb h0b hwy)
  have HKW := Aside0.mk (fun (wi : World) (hb : Below w.heap.size w wi) => Kd.reads_of_C (enc := Value.int .u8) (d := (0 : Int)) (h1 := fun _ => rfl) (Kd.C_below hkw hb))
  have HRW := Aside0.mk hwr
  have HT := Aside0.mk (One.start w (.cells #[.int .i64 x.f0, .bool x.f1, .int .i64 x.f2, .int .u64 x.f3, .string x.f4, .slice A5 x.f5.length c5, .slice A6 x.f6.length c6] 26))
  clear hx hwr hkw
  unfold valOf at *
  go_enter Try.func13, Try.ntmps13
  go_wp2_with fail
  refine (HFX.out _ HT.out.bel).mono ?_
  rintro e w1 ⟨r, rfl, hb⟩
  have HT1 := Aside0.mk (HT.out.step hb)
  obtain ⟨p0, p1, p2, p3, p4, p5, p6⟩ := box7 HT1.out.b0
  clear hb HT
  cases r
  case false =>
    go_wp2_with fail
    go_ret
    exact ⟨rfl, HT1.out.bel⟩
  by_cases hz : (lw.length : Int) > 2147483647
  · go_wp2_with fail
    go_ret
    exact ⟨rfl, HT1.out.bel⟩
  go_wp2_with fail
  refine (HGX.out _ HT1.out.bel).mono ?_
  rintro e w2 ⟨r, rfl, hb, hok⟩
  have HT2 := Aside0.mk (HT1.out.step hb)
  clear p0 p1 p2 p3 p4 p5 p6
  obtain ⟨p0, p1, p2, p3, p4, p5, p6⟩ := box7 HT2.out.b0
  have HOX := Aside0.mk hok
  clear hb HT1 hok
  cases r
  case false =>
    go_wp2_with fail
    go_ret
    exact ⟨rfl, HT2.out.bel⟩
  have HK := Aside0.mk (HOX.out rfl)
  clear HOX
  by_cases hz4 : (lw.length : Int) > 400
  · go_wp2_with fail
    go_ret
    exact ⟨rfl, HT2.out.bel⟩
  have hl8 : lw.length ≤ 400 := by omega
  have HRD := Aside0.mk (HKW.out _ HT2.out.bel)
  clear hz HKW
  go_wp2_with (at_builtin; (refine print_append_row_of (w0 := w2) (Value.int .u8) 0 w2.heap.size rfl (.const (.slice none 0 0)) (.tmp 24) 69 5 (.int .u8 0) 1 rfl Try.underlying69 PAll.info5 rfl (by decide) (fun _ => rfl) (.slice none 0 0) [] lw Aw lw.length cw rfl rfl (own_nil _ _ _ _) HRD.out (Below.refl _ _) (Nat.le_refl _) (by simp; omega) ?_; intro v1 w3 hown1 hb1 hg1 hat1; obtain ⟨A1, cc, hv⟩ := own_slice hown1; subst hv; have HWY := Aside0.mk (wy_own (l := lw) (by rw [List.nil_append] at hown1; exact hown1) HRW.out rfl); have HT3 := Aside0.mk (HT2.out.step hb1); clear hown1 hb1 hg1 hat1 p0 p1 p2 p3 p4 p5 p6; have hwlt : w.heap.size < w3.heap.size := blk_lt HT3.out.b0; obtain ⟨p0, p1, p2, p3, p4, p5, p6⟩ := box7 (HT3.out.step (below_alloc (Below.refl w3.heap.size w3) (.cells #[.slice A1 lw.length cc] 69))).b0))
  clear p0 p1 p2 p3 p4 p5 p6
  have HBA := Aside0.mk (below_alloc (Below.refl w3.heap.size w3) (.cells #[.slice A1 lw.length cc] 69))
  have HTA := Aside0.mk (HT3.out.step HBA.out)
  have HWLT := Aside0.mk (show w.heap.size < w3.heap.size from blk_lt HT3.out.b0)
  obtain ⟨p0, p1, p2, p3, p4, p5, p6⟩ := box7 HTA.out.b0
  refine (HWX.out _ HTA.out.bel w3.heap.size HK.out.1 HK.out.2 (by have := HWLT.out; omega) HWY.out).mono ?_
  rintro e w5 ⟨s, rfl, hpw, hzs, hg⟩
  have HT5 := Aside0.mk (HTA.out.grown hg HWLT.out)
  have HU := Aside0.mk (wide_all x s (by have := HK.out.2; omega) (wide_parses hpw HK.out.2))
  clear hpw hzs hg HWX HT3 HTA HBA HWY HWLT p0 p1 p2 p3 p4 p5 p6
  go_wp2_with fail
  refine (HU.out _).mono ?_
  rintro e w4 ⟨hb, g, n, c, B5, d5, B6, d6, hn, rfl, l5, l6, q5, q6, g0, g1, g2, g3, g4, g5, g6⟩
  have hn1 : (n : Int) = 1 := by omega
  have hn2 : 0 < n := by omega
  clear hn
  have HT4 := Aside0.mk (HT5.out.step hb)
  have HS := Aside0.mk (fun (wi : World) (hw : Below w4.heap.size w4 wi) => same_any x HK.out.1 (by have := HK.out.2; omega) B5 d5 B6 d6 A5 c5 A6 c6 wi (Kd.C_below q5 hw) l5 (Kd.C_below q6 hw) l6 (HIX.out wi (HT4.out.bel.trans (hw.mono HT4.out.bel.size))).k5 (HIX.out wi (HT4.out.bel.trans (hw.mono HT4.out.bel.size))).l5 (HIX.out wi (HT4.out.bel.trans (hw.mono HT4.out.bel.size))).k6 (HIX.out wi (HT4.out.bel.trans (hw.mono HT4.out.bel.size))).l6)
  obtain ⟨p0, p1, p2, p3, p4, p5, p6⟩ := box7 HT4.out.b0
  clear hb HT5 l5 l6 q5 q6 HU HIX HFX HGX HK
  go_wp2_with fail
  have HB := Aside0.mk (And.intro HT4.out.bel trivial)
  go_region_held3 (fun wi : World => Below w4.heap.size w4 wi ∧ wi.cell? ⟨g, 0, none⟩ = some (.int .i64 x.f0) ∧ wi.cell? ⟨g, 1, none⟩ = some (.bool x.f1) ∧ wi.cell? ⟨g, 2, none⟩ = some (.int .i64 x.f2) ∧ wi.cell? ⟨g, 3, none⟩ = some (.int .u64 x.f3) ∧ wi.cell? ⟨g, 4, none⟩ = some (.string x.f4) ∧ wi.cell? ⟨g, 5, none⟩ = some (.slice B5 x.f5.length d5) ∧ wi.cell? ⟨g, 6, none⟩ = some (.slice B6 x.f6.length d6) ∧
      wi.cell? ⟨w.heap.size, 0, none⟩ = some (.int .i64 x.f0) ∧ wi.cell? ⟨w.heap.size, 1, none⟩ = some (.bool x.f1) ∧ wi.cell? ⟨w.heap.size, 2, none⟩ = some (.int .i64 x.f2) ∧ wi.cell? ⟨w.heap.size, 3, none⟩ = some (.int .u64 x.f3) ∧ wi.cell? ⟨w.heap.size, 4, none⟩ = some (.string x.f4) ∧ wi.cell? ⟨w.heap.size, 5, none⟩ = some (.slice A5 x.f5.length c5) ∧ wi.cell? ⟨w.heap.size, 6, none⟩ = some (.slice A6 x.f6.length c6))
    (first
      | exact back_held (below_drew (Below.refl _ _)) g0 g1 g2 g3 g4 g5 g6 p0 p1 p2 p3 p4 p5 p6
      | exact back_held ((‹Below w4.heap.size w4 _ ∧ _›).1.trans (hb5.mono (‹Below w4.heap.size w4 _ ∧ _›).1.size)) g0 g1 g2 g3 g4 g5 g6 p0 p1 p2 p3 p4 p5 p6)
    (first
      | (go_at_call 32; refine (HS.out _ (‹Below w4.heap.size w4 _ ∧ _›).1).mono ?_; rintro e w5 ⟨rfl, hb5⟩)
      | (go_at_call 18; refine (alive_any _).mono ?_; rintro e w6 ⟨rfl, hb5⟩))
  all_goals
    go_wp2_with fail
    go_ret
    exact ⟨rfl, HT4.out.bel.trans ((‹Below w4.heap.size w4 _ ∧ _›).1.mono HT4.out.bel.size)⟩
theorem FnPackWide_row (x : S26) (A5 : Option Addr) (c5 : Nat) (A6 : Option Addr) (c6 : Nat) (Aw : Option Addr) (cw : Nat) (lw : List Int) (w : World)
    (hwf : wfV x) (h5 : x.f5.length ≤ c5) (h6 : x.f6.length ≤ c6) (hk5 : Kd.C Kd.string w A5 x.f5.length x.f5) (hk6 : Kd.C k26 w A6 x.f6.length x.f6) (hww : ∀ a ∈ lw, (Lit.int IntKind.u8 a).wf = true) (hcw : lw.length ≤ cw) (hkw : (Kd.int .u8).C w Aw lw.length lw) :
    Calls Try.prog 13 #[valOf x A5 c5 A6 c6, .slice Aw lw.length cw] w fun e w' => e = .returned (.bool true) ∧ Below w.heap.size w w' :=
  FnPackWide_walk x A5 c5 A6 c6 Aw cw lw w ⟨hwf, h5, h6, hk5, hk6⟩ (fun a ha => by have := Go.bounds_u8 (hww a ha); omega) hcw hkw
end Go.Proofs.Ytjnookhdiolhgaa
