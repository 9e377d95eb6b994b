/- Frames: UnpackResponse, ReadUnpackedResponse, NewReaderSize, impl.Frame, impl.Response. (seat r2) -/
import Derived.Test.YtnbhledkdkchlaaFr3
import Derived.Deep.QuietTactic
import Derived.BigQuiet
import Derived.Lib.Hide
namespace Go.Proofs.Ytnbhledkdkchlaa
set_option linter.unusedVariables false
set_option linter.unusedSimpArgs false
open Go.RowKit Go.Proofs.YtnbhledkdkchlaaW.PrintWords Go.Proofs.YtnbhledkdkchlaaW.PrintLast Go.Proofs.YtnbhledkdkchlaaW.PrintMore
attribute [local go_sem] max2_int min2_int max_two min_two max_three min_three max_four min_four
open PAll (info5)

set_option maxHeartbeats 2000000 in
set_option maxRecDepth 100000 in
theorem errNew_any (s : ByteArray) (w : World) : Calls Try.prog 62 #[.string s] w fun e w' => (∃ t v, e = .returned (.iface t v)) ∧ Below w.heap.size w w' := by
  have HB := Aside0.mk (below_alloc (Below.refl w.heap.size w) (.cells #[.string s] 138))
  go_enter Try.func62, Try.ntmps62
  go_wp2_with fail
  go_ret
  exact ⟨⟨_, _, rfl⟩, HB.out⟩

set_option maxHeartbeats 2000000 in
set_option maxRecDepth 100000 in
theorem newReader_any (A : Option Addr) (n c : Nat) (w : World) : Calls Try.prog 53 #[.slice A n c, .int .i64 4096] w fun e w' => e = .returned (.pointer (some ⟨w.heap.size, 0, none⟩)) ∧ w' = w.alloc (.cells #[.slice A n c, .int .i64 0, .int .i64 4096] 93) := by
  go_enter Try.func53, Try.ntmps53
  go_wp2_with fail
  go_ret
  exact ⟨rfl, rfl⟩

theorem quiet32 {W : World} {A' : Option Addr} {c' : Nat} {ys : List Int} (hr : ReadsInt W .u8 A' ys.length ys) (hc : ys.length ≤ c') (h2 : 4 ≤ ys.length) (hb : ∀ x ∈ ys, 0 ≤ x ∧ x ≤ 255) (n : Nat) :
    Calls Try.prog 72 #[.slice A' ys.length c'] (W.drewN n) fun e w' => e = .returned (.int .u32 (be (ys.take 4))) ∧ ∃ m, w' = W.drewN m :=
  Calls.quiet_of ((uint32_any (W.drewN n) (hr.drewN n) hc h2 hb).mono fun _ _ ⟨he, hd⟩ => ⟨he, hd.out⟩)
/-- What UnpackResponse answers. -/
def UnpR (ys : List Int) (w : World) (e : Ending) (w' : World) : Prop :=
  Below w.heap.size w w' ∧ (ys.length < 4 → ∃ t v, e = .returned (.tuple #[.int .i32 (-1), .slice none 0 0, .iface t v])) ∧
    (4 ≤ ys.length → ∃ ad c, e = .returned (.tuple #[.int .i32 (wrap32 (be (ys.take 4))), .slice (some ad) (ys.length - 4) c, .nilIface]) ∧ ReadsInt w' .u8 (some ad) (ys.length - 4) (ys.drop 4))

set_option maxHeartbeats 2000000 in
set_option maxRecDepth 100000 in
theorem unpackResp_any (g n c : Nat) (ys : List Int) (w : World) (hr : ReadsInt w .u8 (some ⟨g, 0, none⟩) n ys) (hnc : n ≤ c) (hn : n ≤ 1000000000) (hb : ∀ x ∈ ys, 0 ≤ x ∧ x ≤ 255) :
    Calls Try.prog 56 #[.slice (some ⟨g, 0, none⟩) n c] w fun e w' => UnpR ys w e w' := by
  obtain rfl : ys.length = n := hr.1
  have HR := Aside0.mk hr
  have HE := Aside0.mk (fun (s : ByteArray) (wi : World) => errNew_any s wi)
  by_cases h4 : ys.length < 4
  · have h4i : (ys.length : Int) < 4 := by omega
    clear hr hb
    go_enter Try.func56, Try.ntmps56
    go_wp2_with fail
    refine (HE.out _ _).mono ?_
    rintro e w1 ⟨⟨t, v, rfl⟩, hb⟩
    have HB := Aside0.mk hb
    clear hb HE
    go_wp2_with fail
    go_ret3
    exact ⟨HB.out, fun _ => ⟨t, v, rfl⟩, fun h => by omega⟩
  · have h4i : ¬ (ys.length : Int) < 4 := by omega
    have h4j : (4 : Int) ≤ (ys.length : Int) := by omega
    have h4n : 4 ≤ ys.length := by omega
    have h4c : 4 ≤ c := by omega
    have HQ := Lib.hid (fun nq => quiet32 (W := w) hr hnc h4n hb nq)
    clear hr hb
    go_enter Try.func56, Try.ntmps56
    go_wp2_with fail
    go_quiet (exact HQ.out _)
    all_goals go_wp2_with fail
    all_goals go_ret3
    all_goals
      refine ⟨pw_below_drewN (Below.refl _ _) _, fun h => absurd h h4, fun _ => ⟨_, _, rfl, ?_⟩⟩
      first
      | exact reads_drop (reads_block HR.out rfl) h4n
      | (have hl4 : ys.length = 4 := (by omega)
         rw [hl4, show ys.drop 4 = [] from List.drop_of_length_le (by omega)]
         exact ⟨rfl, by decide, fun hp => absurd hp (by decide)⟩)

/-- What ReadUnpackedResponse leaves. -/
def RurR (rb src : Nat) (xs : List Int) (w : World) (e : Ending) (w' : World) : Prop :=
  w.grownBy w' (some rb) ∧ ∃ (rest : List Int) (off c : Nat) (bf : Int), RB w' rb src off c rest bf ∧
    ((xs.length < 4 ∨ (xs.length : Int) - 4 < be (xs.take 4) ∨ be (xs.take 4) < 4) → ∃ k t v, e = .returned (.tuple #[.int .i32 k, .slice none 0 0, .iface t v]) ∧ -2147483648 ≤ k ∧ k ≤ 2147483647) ∧
    (4 ≤ xs.length → be (xs.take 4) ≤ (xs.length : Int) - 4 → 4 ≤ be (xs.take 4) → rest = xs.drop (4 + (be (xs.take 4)).toNat) ∧ ∃ ad cc, e = .returned (.tuple #[.int .i32 (wrap32 (be ((xs.drop 4).take 4))), .slice (some ad) ((be (xs.take 4)).toNat - 4) cc, .nilIface]) ∧
      ReadsInt w' .u8 (some ad) ((be (xs.take 4)).toNat - 4) ((xs.drop 8).take ((be (xs.take 4)).toNat - 4)))

set_option maxHeartbeats 2000000 in
set_option maxRecDepth 100000 in
theorem rur_any {rb src off c : Nat} {xs : List Int} {bf : Int} (w : World) (h : RB w rb src off c xs bf) (hby : ∀ x ∈ xs, 0 ≤ x ∧ x ≤ 255) (hn : 4 ≤ xs.length → be (xs.take 4) ≤ 100000) :
    Calls Try.prog 54 #[.pointer (some ⟨rb, 0, none⟩)] w fun e w' => RurR rb src xs w e w' := by
  have HF := Aside0.mk (resp_any w h hby hn)
  have HBY := Aside0.mk hby
  have HN := Aside0.mk hn
  have HR0 := Aside0.mk (fun (h4 : 4 ≤ xs.length) => be_range (xs.take 4) (fun x hx => hby x (List.mem_of_mem_take hx)))
  clear h hby hn
  go_enter Try.func54, Try.ntmps54
  go_wp2_with fail
  refine (HF.out).mono ?_
  rintro e w1 ⟨hg, rest, off1, c1, bf1, hr, hbad, hok⟩
  have HG := Aside0.mk hg
  have HR := Aside0.mk hr
  clear hg hr HF
  by_cases hc : xs.length < 4 ∨ (xs.length : Int) - 4 < be (xs.take 4)
  · obtain ⟨t, v, rfl⟩ := hbad hc
    clear hbad hok
    have HC := Aside0.mk hc
    clear hc
    go_wp2_with fail
    go_ret3
    refine ⟨HG.out, _, _, _, _, HR.out, fun _ => ⟨-1, t, v, rfl, by decide, by decide⟩, fun h1 h2 _ => ?_⟩
    rcases HC.out with h | h
    · omega
    · omega
  · have h4 : 4 ≤ xs.length := by omega
    have hle : be (xs.take 4) ≤ (xs.length : Int) - 4 := by omega
    obtain ⟨hrest, g, hgs, rfl, hbf⟩ := hok h4 hle
    have hr0 := (HR0.out h4).1
    have hn0 := HN.out h4
    obtain ⟨m, hm⟩ : ∃ m : Nat, be (xs.take 4) = m := ⟨(be (xs.take 4)).toNat, by omega⟩
    rw [hm] at hle hn0
    rw [hm, Int.toNat_natCast] at hrest hbf ⊢
    have hl : ((xs.drop 4).take m).length = m := by rw [List.length_take, List.length_drop]; omega
    have hrd := hbf.reads (by omega)
    rw [hl] at hrd
    have HU := Aside0.mk (unpackResp_any g m m ((xs.drop 4).take m) w1 hrd (Nat.le_refl _) (by omega) (fun x hx => HBY.out x (List.mem_of_mem_drop (List.mem_of_mem_take hx))))
    have HRS := Aside0.mk hrest
    have HM := Aside0.mk (And.intro hm (And.intro h4 (And.intro hle hl)))
    clear hbad hok hc hrest hbf hrd hm h4 hle hr0 hn0 hgs hl
    go_wp2_with fail
    refine (HU.out).mono ?_
    rintro e w2 ⟨hb2, hb4, hg4⟩
    have HB2 := Aside0.mk hb2
    have HR2 := Aside0.mk (HR.out.below hb2)
    have HG2 := Aside0.mk (grown_trans' HG.out (grown_of_below hb2 _))
    clear hb2 HU
    by_cases hm4 : m < 4
    · obtain ⟨t, v, rfl⟩ := hb4 (by rw [HM.out.2.2.2]; exact hm4)
      have HM4 := Aside0.mk hm4
      clear hb4 hg4 hm4
      go_wp2_with fail
      go_ret3
      exact ⟨HG2.out, _, _, _, _, HR2.out, fun _ => ⟨-1, t, v, rfl, by decide, by decide⟩, fun _ _ h => by have := HM.out.1; have := HM4.out; omega⟩
    · obtain ⟨ad, cc, rfl, hrd2⟩ := hg4 (by rw [HM.out.2.2.2]; omega)
      have e1 : ((xs.drop 4).take m).take 4 = (xs.drop 4).take 4 := by rw [List.take_take, Nat.min_eq_left (by omega)]
      have e2 : ((xs.drop 4).take m).drop 4 = (xs.drop 8).take (m - 4) := by rw [List.drop_take, List.drop_drop]
      rw [e1]
      rw [e2, HM.out.2.2.2] at hrd2
      rw [HM.out.2.2.2]
      have HRD := Aside0.mk hrd2
      have HM4 := Aside0.mk hm4
      clear hb4 hg4 hm4 hrd2 e1 e2
      go_wp2_with fail
      go_ret3
      refine ⟨HG2.out, _, _, _, _, HR2.out, fun h => ?_, fun _ _ _ => ⟨?_, ad, cc, ?_, ?_⟩⟩
      · have h1 := HM.out
        have h2 := HM4.out
        rcases h with h | h | h
        · omega
        · omega
        · omega
      · rw [HRS.out, HM.out.1]; simp
      · rw [HM.out.1]; rfl
      · rw [HM.out.1]; exact HRD.out
end Go.Proofs.Ytnbhledkdkchlaa
