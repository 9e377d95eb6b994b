/- Frames: impl.Frame, impl.Response, impl.UnpackFrame. (seat r2) -/
import Derived.Test.YtnbhledkdkchlaaFr4
namespace Go.Proofs.Ytnbhledkdkchlaa
set_option linter.unusedVariables false
set_option linter.unusedSimpArgs false
open Go.RowKit Go.Proofs.YtnbhledkdkchlaaW.PrintWords Go.Proofs.YtnbhledkdkchlaaW.PrintLast Go.Proofs.YtnbhledkdkchlaaW.PrintMore
open PAll (info5)

theorem results_tmp4 {fn : Func} {t u v x : Tmp} (h : fn.results = #[.tmp t, .tmp u, .tmp v, .tmp x]) (tmps : Array Value) (P : Program) (w : World) :
    (results fn tmps).run P w = .ok (.tuple #[tmps.getD t undef, tmps.getD u undef, tmps.getD v undef, tmps.getD x undef]) w := by
  simp [results, h]
/-- The world behind the bytes and their reader. -/
def rdW (w : World) (s : ByteArray) : World := (Lib.bytesWorld w 5 s).alloc (.cells #[.slice (some ⟨w.heap.size, 0, none⟩) s.size (grownCap w s.size 0 5), .int .i64 0, .int .i64 4096] 93)
theorem rdW_below (w : World) (s : ByteArray) : Below w.heap.size w (rdW w s) := below_alloc (bytes_below (Below.refl w.heap.size w) (Nat.le_refl _) 5 s) _
theorem rdW_rb (w : World) (s : ByteArray) (hs : s.size ≤ 1000000000) : RB (rdW w s) (w.heap.size + 1) w.heap.size 0 (grownCap w s.size 0 5) (bytesOf s) 0 := by
  have hl := bytesOf_length s
  have hz := Lib.bytesWorld_size w 5 s
  have hn := heap_alloc_new (Lib.bytesWorld w 5 s) (.cells #[.slice (some ⟨w.heap.size, 0, none⟩) s.size (grownCap w s.size 0 5), .int .i64 0, .int .i64 4096] 93)
  rw [hz] at hn
  refine ⟨by rw [hl]; exact hn, by rw [hl]; exact grownCap_ge _ _ _ _, by omega, ?_, by omega, by omega, by omega, by unfold rdW; rw [World.size_alloc, hz]; omega⟩
  rw [hl]
  exact reads_block (bytes_reads w 5 s (by omega)) (Below.heap_alloc _ _ _ (by omega))
theorem bytesOf_rng (s : ByteArray) : ∀ x ∈ bytesOf s, 0 ≤ x ∧ x ≤ 255 := by
  intro x hx
  unfold bytesOf at hx
  obtain ⟨b, _, rfl⟩ := List.mem_map.1 hx
  have := b.toNat_lt
  omega

/-- What impl.Frame answers. -/
def FrR (xs : List Int) (w : World) (e : Ending) (w' : World) : Prop :=
  Below w.heap.size w w' ∧ ((xs.length < 4 ∨ (xs.length : Int) - 4 < be (xs.take 4) ∨ be (xs.take 4) < 4) → ∃ k left, e = .returned (.tuple #[.int .i64 k, .string ⟨#[]⟩, .int .i64 left, .int .i64 1])) ∧
    (4 ≤ xs.length → be (xs.take 4) ≤ (xs.length : Int) - 4 → 4 ≤ be (xs.take 4) → e = .returned (.tuple #[.int .i64 (wrap32 (be ((xs.drop 4).take 4))), .string (strOfNums ((xs.drop 8).take ((be (xs.take 4)).toNat - 4))), .int .i64 ((xs.length : Int) - 4 - be (xs.take 4)), .int .i64 0]))

set_option maxHeartbeats 2000000 in
set_option maxRecDepth 100000 in
theorem frame_any (s : ByteArray) (w : World) (hs : s.size ≤ 1000000000) (hn : 4 ≤ (bytesOf s).length → be ((bytesOf s).take 4) ≤ 100000) :
    Calls Try.prog 32 #[.string s] w fun e w' => FrR (bytesOf s) w e w' := by
  have hbs := fun w => print_bytes (P := Try.prog) 9 69 5 Try.underlying9 Try.underlying69 Try.underlying5 s w
  have HF := Aside0.mk (rur_any (rdW w s) (rdW_rb w s hs) (bytesOf_rng s) hn)
  have HBW := Aside0.mk (rdW_below w s)
  have HNR := Aside0.mk (fun (wi : World) => newReader_any (some ⟨w.heap.size, 0, none⟩) s.size (grownCap w s.size 0 5) wi)
  have HSZ := Aside0.mk (Lib.bytesWorld_size w 5 s)
  clear hn hs
  go_enter Try.func32, Try.ntmps32
  go_wp2_with fail
  refine (HNR.out _).mono ?_
  rintro e w1 ⟨rfl, rfl⟩
  rw [HSZ.out]
  clear HNR HSZ hbs
  go_wp2_with fail
  refine (HF.out).mono ?_
  rintro e w2 ⟨hg, rest, off2, c2, bf2, hr, hbad, hok⟩
  obtain ⟨d0, d1⟩ := hr.cells
  have HB2 := Aside0.mk (HBW.out.grown hg HBW.out.size (by rintro q hq; injection hq with hq; omega))
  clear hg hr HF
  by_cases hc : (bytesOf s).length < 4 ∨ ((bytesOf s).length : Int) - 4 < be ((bytesOf s).take 4) ∨ be ((bytesOf s).take 4) < 4
  · obtain ⟨k, t, v, rfl, hk0, hk1⟩ := hbad hc
    have HC := Aside0.mk hc
    clear hbad hok hc
    go_wp2_with fail
    go_quiet (fail)
    all_goals go_wp2_with fail
    all_goals
      (try simp only [Exit.inBlock, Exit.then])
      refine bodyPost_ret (results_tmp4 rfl _ _ _) rfl ?_
    all_goals
      refine ⟨pw_below_drewN HB2.out _, fun _ => ⟨_, _, rfl⟩, fun h1 h2 h3 => ?_⟩
      rcases HC.out with h | h | h <;> omega
  · obtain ⟨hrest, ad, cc, rfl, hrd⟩ := hok (by omega) (by omega) (by omega)
    have HC := Aside0.mk hc
    have hcv := fun nd => string_of_reads (P := Try.prog) (w := w2.drewN nd) (c := cc) Try.underlying69 Try.underlying5 Try.underlying9 (hrd.drewN nd)
    have hrl : (rest.length : Int) = ((bytesOf s).length : Int) - 4 - be ((bytesOf s).take 4) := by rw [hrest, List.length_drop]; omega
    have HRL := Aside0.mk hrl
    have hww : ∀ z : Int, wrap64 (wrap32 z) = wrap32 z := fun z => by unfold wrap64 wrap32; omega
    clear hbad hok hc hrest hrd hrl
    go_wp2_with fail
    go_quiet (fail)
    all_goals go_wp2_with fail
    all_goals
      (try simp only [Exit.inBlock, Exit.then])
      refine bodyPost_ret (results_tmp4 rfl _ _ _) rfl ?_
    all_goals
      refine ⟨pw_below_drewN HB2.out _, fun h => absurd h HC.out, fun _ _ _ => ?_⟩
      rw [← HRL.out]
      simp only [hww]
      rfl

/-- What impl.Response answers. -/
def ReR (xs : List Int) (w : World) (e : Ending) (w' : World) : Prop :=
  Below w.heap.size w w' ∧ ((xs.length < 4 ∨ (xs.length : Int) - 4 < be (xs.take 4)) → ∃ left, e = .returned (.tuple #[.string ⟨#[]⟩, .int .i64 left, .int .i64 1])) ∧
    (4 ≤ xs.length → be (xs.take 4) ≤ (xs.length : Int) - 4 → e = .returned (.tuple #[.string (strOfNums ((xs.drop 4).take (be (xs.take 4)).toNat)), .int .i64 ((xs.length : Int) - 4 - be (xs.take 4)), .int .i64 0]))

set_option maxHeartbeats 2000000 in
set_option maxRecDepth 100000 in
theorem response_any (s : ByteArray) (w : World) (hs : s.size ≤ 1000000000) (hn : 4 ≤ (bytesOf s).length → be ((bytesOf s).take 4) ≤ 100000) :
    Calls Try.prog 35 #[.string s] w fun e w' => ReR (bytesOf s) w e w' := by
  have hbs := fun w => print_bytes (P := Try.prog) 9 69 5 Try.underlying9 Try.underlying69 Try.underlying5 s w
  have HF := Aside0.mk (resp_any (rdW w s) (rdW_rb w s hs) (bytesOf_rng s) hn)
  have HBW := Aside0.mk (rdW_below w s)
  have HNR := Aside0.mk (fun (wi : World) => newReader_any (some ⟨w.heap.size, 0, none⟩) s.size (grownCap w s.size 0 5) wi)
  have HSZ := Aside0.mk (Lib.bytesWorld_size w 5 s)
  have HR0 := Aside0.mk (fun (h4 : 4 ≤ (bytesOf s).length) => And.intro (be_range ((bytesOf s).take 4) (fun x hx => bytesOf_rng s x (List.mem_of_mem_take hx))).1 (hn h4))
  clear hn hs
  go_enter Try.func35, Try.ntmps35
  go_wp2_with fail
  refine (HNR.out _).mono ?_
  rintro e w1 ⟨rfl, rfl⟩
  rw [HSZ.out]
  clear HNR HSZ hbs
  go_wp2_with fail
  refine (HF.out).mono ?_
  rintro e w2 ⟨hg, rest, off2, c2, bf2, hr, hbad, hok⟩
  obtain ⟨d0, d1⟩ := hr.cells
  have HB2 := Aside0.mk (HBW.out.grown hg HBW.out.size (by rintro q hq; injection hq with hq; omega))
  clear hg hr HF
  by_cases hc : (bytesOf s).length < 4 ∨ ((bytesOf s).length : Int) - 4 < be ((bytesOf s).take 4)
  · obtain ⟨t, v, rfl⟩ := hbad hc
    have HC := Aside0.mk hc
    clear hbad hok hc
    go_wp2_with fail
    go_quiet (fail)
    all_goals go_wp2_with fail
    all_goals go_ret3
    all_goals
      refine ⟨pw_below_drewN HB2.out _, fun _ => ⟨_, rfl⟩, fun h1 h2 => ?_⟩
      rcases HC.out with h | h <;> omega
  · have h4 : 4 ≤ (bytesOf s).length := by omega
    obtain ⟨hrest, g, hgs, rfl, hbf⟩ := hok h4 (by omega)
    have HC := Aside0.mk hc
    obtain ⟨hr0, hn0⟩ := HR0.out h4
    have hdl : (((bytesOf s).drop 4).take (be ((bytesOf s).take 4)).toNat).length = (be ((bytesOf s).take 4)).toNat := by rw [List.length_take, List.length_drop]; omega
    have hrd := hbf.reads (by omega)
    rw [hdl] at hrd
    have hcv := fun nd => string_of_reads (P := Try.prog) (w := w2.drewN nd) (c := (be ((bytesOf s).take 4)).toNat) Try.underlying69 Try.underlying5 Try.underlying9 (hrd.drewN nd)
    have hrl : (rest.length : Int) = ((bytesOf s).length : Int) - 4 - be ((bytesOf s).take 4) := by rw [hrest, List.length_drop]; omega
    have HRL := Aside0.mk hrl
    clear hbad hok hc hrest hrd hrl hdl hbf hgs h4 hr0 hn0
    go_wp2_with fail
    go_quiet (fail)
    all_goals go_wp2_with fail
    all_goals go_ret3
    all_goals
      refine ⟨pw_below_drewN HB2.out _, fun h => absurd h HC.out, fun _ _ => ?_⟩
      rw [← HRL.out]
      rfl

/-- What impl.UnpackFrame answers. -/
def UfR (xs : List Int) (w : World) (e : Ending) (w' : World) : Prop :=
  Below w.heap.size w w' ∧ (4 ≤ xs.length → e = .returned (.tuple #[.int .i64 (wrap32 (be (xs.take 4))), .string (strOfNums (xs.drop 4)), .int .i64 0]))
set_option maxHeartbeats 2000000 in
set_option maxRecDepth 100000 in
theorem unpackFrame_any (s : ByteArray) (w : World) (hs : s.size ≤ 1000000000) (h4 : 4 ≤ (bytesOf s).length) :
    Calls Try.prog 36 #[.string s] w fun e w' => UfR (bytesOf s) w e w' := by
  have hbs := fun w => print_bytes (P := Try.prog) 9 69 5 Try.underlying9 Try.underlying69 Try.underlying5 s w
  have HU := Aside0.mk (unpackResp_any w.heap.size s.size (grownCap w s.size 0 5) (bytesOf s) (Lib.bytesWorld w 5 s) (bytes_reads w 5 s (by omega)) (grownCap_ge _ _ _ _) hs (bytesOf_rng s))
  have HBW := Aside0.mk (bytes_below (Below.refl w.heap.size w) (Nat.le_refl _) 5 s)
  have H4 := Aside0.mk h4
  clear hs h4
  go_enter Try.func36, Try.ntmps36
  go_wp2_with fail
  refine (HU.out).mono ?_
  rintro e w2 ⟨hb, -, hok⟩
  obtain ⟨ad, cc, rfl, hrd⟩ := hok H4.out
  have HB2 := Aside0.mk (HBW.out.trans (hb.mono HBW.out.size))
  have hcv := fun nd => string_of_reads (P := Try.prog) (w := w2.drewN nd) (c := cc) Try.underlying69 Try.underlying5 Try.underlying9 (hrd.drewN nd)
  have hww : ∀ z : Int, wrap64 (wrap32 z) = wrap32 z := fun z => by unfold wrap64 wrap32; omega
  clear hb hok hrd HU hbs
  go_wp2_with fail
  go_quiet (fail)
  all_goals go_wp2_with fail
  all_goals go_ret3
  all_goals exact ⟨pw_below_drewN HB2.out _, fun _ => by simp only [hww]; rfl⟩
end Go.Proofs.Ytnbhledkdkchlaa
