/- laws.big: a number's bytes, the highest ones first. laws.sized: a header of a length, in one of three forms. Values in forms that need not be the smallest ones: they are read as themselves. laws.widen: the callback, and the first piece: a way is taken. laws.widen: numbers, texts, bytes. laws.widen: texts, bytes, lists, maps, structs. -/
import Derived.Test.YtjnookhdiolhgaaPackA
import Derived.Test.YtjnookhdiolhgaaFnPackInner
import Derived.Deep.LoopGhost
import Derived.Test.YtjnookhdiolhgaaRd
import Derived.Deep.CutBlock
import Derived.Deep.Slices
import Derived.Deep.RegionHeld3
namespace Go.Proofs.Ytjnookhdiolhgaa
set_option linter.unusedVariables false
set_option linter.unusedSimpArgs false
open Go.RowKit Go.Proofs.YtjnookhdiolhgaaW.PrintWords Go.Proofs.YtjnookhdiolhgaaW.PrintLast Go.Proofs.YtjnookhdiolhgaaW.PrintMore
open PAll (info5 S26 k26)

theorem at_enc {α : Type} {enc : α → Value} {h1 : ∀ x, (enc x).oneCell' = true} {w : World} {A : Option Addr} {xs : List α} (h : (Kd.scalar enc h1).C w A xs.length xs) {j : Nat} {x : α} (hx : xs[j]? = some x) : ∃ ad, A = some ad ∧ w.cell? (ad.add j) = some (enc x) := by
  have hj := (List.getElem?_eq_some_iff.1 hx).1
  obtain ⟨ad, e, hc⟩ := ReadsOf.at_ (Kd.reads_of_C (enc := enc) (d := x) (h1 := h1) h) (j : Int) (by omega) (by omega)
  refine ⟨ad, e, ?_⟩
  have e2 : rdOf x xs (j : Int) = x := by unfold rdOf; rw [Int.toNat_natCast, List.getD_eq_getElem?_getD, hx]; rfl
  rw [e2, Int.toNat_natCast] at hc
  exact hc
/-- The last m bytes of a number, the highest one first. -/
def bigL (n : Int) : Nat → List Int
  | 0 => []
  | m + 1 => n / 256 ^ m % 256 :: bigL n m
theorem bigL_length (n : Int) (m : Nat) : (bigL n m).length = m := by
  induction m with
  | zero => rfl
  | succ m ih => simp [bigL, ih]
theorem big_set (n : Int) (q j : Nat) : (List.replicate (q + 1) (0 : Int) ++ bigL n j).set q (n / 256 ^ j % 256) = List.replicate q 0 ++ bigL n (j + 1) := by
  rw [List.replicate_succ', List.append_assoc, List.set_append_right _ _ (by simp)]
  simp [bigL]
theorem big_set' (n : Int) (q j : Nat) : (List.replicate (q + 1) (0 : Int) ++ bigL n j).set q (n / 2 ^ (8 * j) % 256) = List.replicate q 0 ++ bigL n (j + 1) := by
  rw [← big_set, show (2 : Int) ^ (8 * j) = 256 ^ j by rw [Int.pow_mul]; rfl]
theorem shr8 (n : Int) (j : Nat) (hj : j < 8) : shr .u64 n (8 * (j : Int)) = n / 256 ^ j := by
  unfold shr
  have e : min (8 * (j : Int)).toNat IntKind.u64.bits = 8 * j := by
    have : IntKind.u64.bits = 64 := rfl
    omega
  rw [e, Int.pow_mul]
  rfl

set_option maxHeartbeats 4000000 in
set_option maxRecDepth 100000 in
theorem big_any (n : Int) (m : Nat) (hm : m ≤ 8) (w : World) :
    Calls Try.prog 119 #[.int .u64 n, .int .i64 m] w fun e w' => e = .returned (.string (strOfNums (bigL n m))) ∧ Below w.heap.size w w' := by
  have HB := Aside0.mk (Below.refl w.heap.size w)
  have hm8 : (m : Int) ≤ 8 := by omega
  have c3 : decide ((0 : Int) ≤ (m : Int)) = true := decide_eq_true (by omega)
  have c4 : decide (((m : Int)).toNat ≤ 281474976710656) = true := decide_eq_true (by omega)
  obtain ⟨y, hy⟩ : ∃ y_ : List Int, y_ = List.replicate ((m : Int)).toNat 0 := ⟨_, rfl⟩
  have Ny := Aside0.mk hy
  clear hy
  go_enter Try.func119, Try.ntmps119
  go_wp2_with (first | ((with_reducible refine gate_dst (N := 8) rfl ?_); refine Kd.R_make (Kd.int .u8) _ 5 rfl (N := 8) rfl 69 _ _ rfl (m : Int) rfl rfl Try.underlying69 (.int .u8 0) 1 info5 rfl (by decide) (by omega) 0 (ok := fun _ => True) (okp := fun _ => True) rfl (fun _ hk => hk) trivial (of_decide_eq_true (by assumption)) (Nat.le_trans (Nat.mul_le_mul_right _ (of_decide_eq_true (by assumption) : ((m : Int)).toNat ≤ 281474976710656)) (by omega)) (Below.refl _ _) (Nat.le_refl _) ?_; intro v124 w5 ho6 hb hg_ hnew_; clear hg_ hnew_; obtain ⟨A9, c9, rfl⟩ := Kd.R_slice ho6; have HO := Aside0.mk ho6; have HB5 := Aside0.mk hb; clear hb ho6))
  have hlm : (List.replicate ((m : Int)).toNat (0 : Int)).length = m := by simp
  have ho5 := HO.out
  rw [hlm] at ho5
  have HO2 := Aside0.mk (show (Kd.int .u8).R 5 w5 w.heap.size (fun _ => True) (.slice A9 m c9) (List.replicate m 0) by have h := ho5; rwa [Int.toNat_natCast] at h)
  clear HO ho5 Ny c3 c4 hlm
  go_loopg [11] m (fun gk v11 wr => ∃ j : Nat, v11 = .int .i64 j ∧ Aside0 (j ≤ m ∧ gk = m - j) ∧ Aside0 ((Kd.int .u8).R 5 wr w.heap.size (fun _ => True) (.slice A9 m c9) (List.replicate (m - j) 0 ++ bigL n j)) ∧ Aside0 (Below w.heap.size w wr))
  case atStart => exact ⟨0, rfl, ⟨by omega⟩, ⟨by simpa [bigL] using HO2.out⟩, ⟨HB5.out⟩⟩
  case round =>
    clear HO2 HB5
    obtain ⟨j, rfl, HJ, HR, HBr⟩ := hrel
    by_cases hj : j < m
    · obtain ⟨q, hq⟩ : ∃ q, m = q + 1 + j := ⟨m - 1 - j, by omega⟩
      have hq1 : m - j = q + 1 := by omega
      have hr := HR.out
      rw [hq1] at hr
      have hlen : (List.replicate (q + 1) (0 : Int) ++ bigL n j).length = m := by rw [List.length_append, List.length_replicate, bigL_length]; omega
      have e8 : IntKind.i64.wrap (8 * (j : Int)) = 8 * (j : Int) := by rw [IntKind.wrap_i64]; omega
      have e1 : IntKind.i64.wrap ((m : Int) - 1) = (m : Int) - 1 := by rw [IntKind.wrap_i64]; omega
      have e2 : IntKind.i64.wrap ((m : Int) - 1 - (j : Int)) = (q : Int) := by rw [IntKind.wrap_i64]; omega
      have es : shr .u64 n (8 * (j : Int)) = n / 256 ^ j := shr8 n j (by omega)
      have p8 : decide (0 ≤ 8 * (j : Int)) = true := decide_eq_true (by omega)
      have pq : decide (0 ≤ (q : Int)) = true := decide_eq_true (by omega)
      have pm : decide ((q : Int) < (m : Int)) = true := decide_eq_true (by omega)
      obtain ⟨g, cap, he, h1, h2, -⟩ := Kd.R_form hr (by rw [hlen]; omega)
      rw [hlen] at he
      injection he with he ha hb
      subst he
      subst hb
      have hr2 : (Kd.int .u8).R 5 wr w.heap.size (fun _ => True) (.slice (some ⟨g, 0, none⟩) (List.replicate (q + 1) (0 : Int) ++ bigL n j).length c9) (List.replicate (q + 1) (0 : Int) ++ bigL n j) := by rw [hlen]; exact hr
      obtain ⟨hx, hf⟩ := Kd.R_celln 0 hr2 (q : Int) (by omega) (by rw [hlen]; omega)
      have HP := Kd.R_putg hr2 (q : Int) (n / 2 ^ (8 * j) % 256)
      rw [Int.toNat_natCast, big_set', hlen] at HP
      rw [Int.toNat_natCast] at hx hf
      clear hr hr2 h2
      have HR2 := Aside0.mk HP.1
      have HB2 := Aside0.mk (show Below w.heap.size w (wr.setCell ⟨g, q, none⟩ (.int .u8 (n / 2 ^ (8 * j) % 256))) from below_set HBr.out h1)
      have HQ := Aside0.mk (show m - (j + 1) = q by omega)
      have hqm : (q : Int) < (m : Int) := by omega
      have hqm2 : q < m := by omega
      clear HP hq hq1 hlen pm
      go_wp2_with fail
      go_roundg (m - (j + 1))
      case measure => have := HJ.out.2; omega
      case rel =>
        refine ⟨j + 1, by go_num, ⟨by omega⟩, ⟨?_⟩, ⟨HB2.out⟩⟩
        rw [HQ.out]
        exact HR2.out
    · have hje : j = m := by have := HJ.out.1; omega
      subst hje
      have hr := HR.out
      rw [Nat.sub_self, List.replicate_zero, List.nil_append] at hr
      have hlen := bigL_length n j
      have hr2 : (Kd.int .u8).R 5 wr w.heap.size (fun _ => True) (.slice A9 (bigL n j).length c9) (bigL n j) := by rw [hlen]; exact hr
      have hcv := own_string (P := Try.prog) Try.underlying69 Try.underlying5 Try.underlying9 (Kd.own_of_R hr2)
      rw [hlen] at hcv
      clear hr hr2
      go_wp2_with fail
      go_ret
      exact ⟨rfl, HBr.out⟩
end Go.Proofs.Ytjnookhdiolhgaa

namespace Go.Proofs.Ytjnookhdiolhgaa
set_option linter.unusedVariables false
set_option linter.unusedSimpArgs false
open Go.RowKit Go.Proofs.YtjnookhdiolhgaaW.PrintWords Go.Proofs.YtjnookhdiolhgaaW.PrintLast Go.Proofs.YtjnookhdiolhgaaW.PrintMore
open PAll (info5 S26 k26)

set_option maxRecDepth 100000 in
/-- The text of a row of one byte that was made. -/
theorem cv_lit (W W2 : World) (a : Int) (hb : Below (W.alloc (.cells #[.int .u8 a] 5)).heap.size (W.alloc (.cells #[.int .u8 a] 5)) W2) :
    (convert 69 9 (.slice (some ⟨W.heap.size, 0, none⟩) 1 1)).run Try.prog W2 = .ok (.string (strOfNums [a])) W2 := by
  have h := own_lit W W.heap.size 5 .u8 [a] (Nat.le_refl _) (by simp)
  exact own_string (P := Try.prog) Try.underlying69 Try.underlying5 Try.underlying9 (pw_own_below h hb)

/-- What sized may answer. -/
def Szd (n m0 m1 m2 : Int) (h : List Int) : Prop := (n < 256 ∧ h = [m0, n]) ∨ (n < 65536 ∧ h = m1 :: bigL n 2) ∨ h = m2 :: bigL n 4
theorem str_two (m : Int) (l : List Int) : strOfNums [m] ++ strOfNums l = strOfNums (m :: l) := by rw [← str_append]; rfl

set_option maxHeartbeats 4000000 in
set_option maxRecDepth 100000 in
theorem sized_any (n : Nat) (hn : n < 4294967296) (way m0 m1 m2 : Int) (hw0 : 0 ≤ way) (hw1 : way ≤ 255) (hm0 : m0 ≠ 0) (w : World) :
    Calls Try.prog 120 #[.int .i64 n, .int .u8 way, .agg #[.int .u8 m0, .int .u8 m1, .int .u8 m2]] w fun e w' => ∃ h, e = .returned (.string (strOfNums h)) ∧ Szd n m0 m1 m2 h ∧ Below w.heap.size w w' := by
  have HB := Aside0.mk (show Below w.heap.size w (w.alloc (.cells #[.int .u8 m0, .int .u8 m1, .int .u8 m2] 178)) from below_alloc (Below.refl _ _) _)
  have HB2 := Aside0.mk (fun wi => big_any n 2 (by omega) wi)
  have HB4 := Aside0.mk (fun wi => big_any n 4 (by omega) wi)
  have hwr : way.tmod 3 = way % 3 := Int.tmod_eq_emod_of_nonneg hw0
  have hm00 : (m0 != 0) = true := by simpa using hm0
  have hu : IntKind.u64.wrap (n : Int) = n := by rw [IntKind.wrap_u64]; omega
  have hni : (n : Int) < 4294967296 := by omega
  have z2 : (strOfNums (bigL n 2)).size = 2 := by rw [str_size, bigL_length]
  have z4 : (strOfNums (bigL n 4)).size = 4 := by rw [str_size, bigL_length]
  have z1 : ∀ a : Int, (strOfNums [a]).size = 1 := fun a => by rw [str_size]; rfl
  have hz1 := z1 m1
  have hz2 := z1 m2
  have HS1 := Aside0.mk (str_two m1 (bigL n 2))
  have HS2 := Aside0.mk (str_two m2 (bigL n 4))
  clear z1
  by_cases c1 : way % 3 = 0 ∧ (n : Int) < 256
  · obtain ⟨c1, c2⟩ := c1
    go_enter Try.func120, Try.ntmps120
    have e2 : (n : Int) % 256 = n := by omega
    go_wp2_with (first | ((with_reducible refine gate_dst (N := 24) rfl ?_); refine Kd.R_lit (Kd.int .u8) _ 5 ?hg (N := 24) ?hd (xs := ([m0, (n : Int)] : List Int)) (inner := [.int .u8 m0, .int .u8 (n : Int)]) (ok := fun _ => True) (okp := fun _ => True) ?hr ?hp (fun _ hk => hk) trivial (Below.refl _ _) (Nat.le_refl _) (by simp) ?_; (case hd => rfl); (case hg => rfl); (case hr => first | (go_simp; done) | (go_simp; rfl)); (case hp => exact (Reps.one (show Kd.M (Kd.int .u8) _ _ _ m0 [.int .u8 m0] from rfl) (Reps.one (show Kd.M (Kd.int .u8) _ _ _ (n : Int) [.int .u8 (n : Int)] from rfl) (Reps.none _ _)))); intro v1 w1 ho hb hg_ hnew_; clear hg_ hnew_; have hcv := own_string (P := Try.prog) Try.underlying69 Try.underlying5 Try.underlying9 (Kd.own_of_R ho); have HBX := Aside0.mk (HB.out.trans (hb.mono HB.out.size)); clear hb ho))
    go_ret
    exact ⟨_, rfl, .inl ⟨c2, rfl⟩, HBX.out⟩
  · by_cases c2 : way % 3 = 1 ∧ (n : Int) < 65536
    · obtain ⟨c2, c3⟩ := c2
      have c1' : ¬ way % 3 = 0 := by omega
      clear c1
      go_enter Try.func120, Try.ntmps120
      obtain ⟨wz, hwz⟩ : ∃ wz, w.alloc (.cells #[.int .u8 m0, .int .u8 m1, .int .u8 m2] 178) = wz := ⟨_, rfl⟩
      have HZB := Aside0.mk (show wz.heap[w.heap.size]? = some (.cells #[.int .u8 m0, .int .u8 m1, .int .u8 m2] 178 (0, 0)) by rw [← hwz]; exact heap_alloc_new w _)
      have hlt := blk_lt HZB.out
      have hcvA := fun (W : World) (a : Int) => cv_lit W (W.alloc (.cells #[.int .u8 a] 5)) a (Below.refl _ _)
      have hcvD := fun (W : World) (a : Int) => cv_lit W (W.alloc (.cells #[.int .u8 a] 5)).drew a (below_drew (Below.refl _ _))
      go_wp2_with fail
      rw [hwz] at HB
      try rw [hwz]
      clear hwz
      have p1 : wz.cell? ⟨w.heap.size, 1, none⟩ = some (.int .u8 m1) := blk_cell HZB.out 1
      go_region_with (first | (go_at_call 119; refine (HB2.out _).mono ?_; rintro e w5 ⟨rfl, hb5⟩; have p1' : w5.cell? ⟨w.heap.size, 1, none⟩ = some (.int .u8 m1) := (pw_cell_below (below_step (by repeat (first | (with_reducible first | exact Below.refl _ _ | apply below_alloc | apply below_drew) | exact Below.refl _ _)) hb5) p1); have HB5 := Aside0.mk (show Below wz.heap.size wz w5 from below_step (by repeat (first | (with_reducible first | exact Below.refl _ _ | apply below_alloc | apply below_drew) | exact Below.refl _ _)) hb5); first | (have hcv5 := cv_lit wz w5 m1 (below_step (below_drew (Below.refl _ _)) hb5)) | (have hcv5 := True.intro)))
      all_goals
        go_wp2_with fail
        go_ret
        refine ⟨m1 :: bigL n 2, by rw [← HS1.out]; rfl, .inr (.inl ⟨c3, rfl⟩), ?_⟩
        first | exact HB.out.trans (HB5.out.mono HB.out.size) | exact below_alloc (HB.out.trans (HB5.out.mono HB.out.size)) _
    · rcases (show (way % 3 = 0 ∧ ¬ (n : Int) < 256) ∨ (way % 3 = 1 ∧ ¬ (n : Int) < 65536) ∨ way % 3 = 2 by omega) with ⟨c3, c4⟩ | ⟨c3, c4⟩ | c3
      all_goals
        clear c1 c2
        go_enter Try.func120, Try.ntmps120
        obtain ⟨wz, hwz⟩ : ∃ wz, w.alloc (.cells #[.int .u8 m0, .int .u8 m1, .int .u8 m2] 178) = wz := ⟨_, rfl⟩
        have HZB := Aside0.mk (show wz.heap[w.heap.size]? = some (.cells #[.int .u8 m0, .int .u8 m1, .int .u8 m2] 178 (0, 0)) by rw [← hwz]; exact heap_alloc_new w _)
        have hlt := blk_lt HZB.out
        have hcvA := fun (W : World) (a : Int) => cv_lit W (W.alloc (.cells #[.int .u8 a] 5)) a (Below.refl _ _)
        have hcvD := fun (W : World) (a : Int) => cv_lit W (W.alloc (.cells #[.int .u8 a] 5)).drew a (below_drew (Below.refl _ _))
        go_wp2_with fail
        rw [hwz] at HB
        try rw [hwz]
        clear hwz
        have p1 : wz.cell? ⟨w.heap.size, 2, none⟩ = some (.int .u8 m2) := blk_cell HZB.out 2
        go_region_with (first | (go_at_call 119; refine (HB4.out _).mono ?_; rintro e w5 ⟨rfl, hb5⟩; have p1' : w5.cell? ⟨w.heap.size, 2, none⟩ = some (.int .u8 m2) := (pw_cell_below (below_step (by repeat (first | (with_reducible first | exact Below.refl _ _ | apply below_alloc | apply below_drew) | exact Below.refl _ _)) hb5) p1); have HB5 := Aside0.mk (show Below wz.heap.size wz w5 from below_step (by repeat (first | (with_reducible first | exact Below.refl _ _ | apply below_alloc | apply below_drew) | exact Below.refl _ _)) hb5); first | (have hcv5 := cv_lit wz w5 m2 (below_step (below_drew (Below.refl _ _)) hb5)) | (have hcv5 := True.intro)))
        all_goals
          go_wp2_with fail
          go_ret
          refine ⟨m2 :: bigL n 4, by rw [← HS2.out]; rfl, .inr (.inr rfl), ?_⟩
          first | exact HB.out.trans (HB5.out.mono HB.out.size) | exact below_alloc (HB.out.trans (HB5.out.mono HB.out.size)) _
end Go.Proofs.Ytjnookhdiolhgaa

namespace Go.Proofs.Ytjnookhdiolhgaa
set_option linter.unusedVariables false
set_option linter.unusedSimpArgs false
open Go.RowKit Go.Proofs.YtjnookhdiolhgaaW.PrintWords
open PAll (S26)

/-- These bytes are read as the value, whatever stands behind. -/
def PW (x : S26) (l : List Int) : Prop := ∀ (f : Nat) (deep : Int) (r : List Int), nodes x ≤ f → deep + nodes x ≤ 1001 → parse f deep (l ++ r) = .ok x r
/-- These bytes are read as a key. -/
def KW (s : ByteArray) (l : List Int) : Prop := ∀ r : List Int, key (l ++ r) = .ok s r
/-- These bytes are read as the parts. -/
def RW (m : Bool) (keys : List ByteArray) (kids : List S26) (l : List Int) : Prop :=
  ∀ (f : Nat) (deep : Int) (r : List Int), nodesAll kids ≤ f → deep + nodesAll kids ≤ 1001 → rows (parse f deep) m kids.length (l ++ r) = .ok (if m then keys else []) kids r

theorem PW_val {x : S26} {l : List Int} (h : ∀ r, tok (l ++ r) = .val x r) : PW x l := by
  intro f deep r hf hd
  have := nodes_pos x
  obtain ⟨f, rfl⟩ : ∃ m, f = m + 1 := ⟨f - 1, by omega⟩
  simp only [parse]
  rw [if_neg (by omega), h]
theorem PW_opn {k tag : Int} {keys : List ByteArray} {kids : List S26} {h l : List Int} (hh : ∀ r, tok (h ++ r) = .opn k tag kids.length r) (hr : RW (k == 7) keys kids l) (hk : (k == 7) = false → keys = []) :
    PW ⟨k, false, tag, 0, ⟨#[]⟩, keys, kids⟩ (h ++ l) := by
  intro f deep r hf hd
  simp only [nodes] at hf hd
  obtain ⟨f, rfl⟩ : ∃ m, f = m + 1 := ⟨f - 1, by omega⟩
  simp only [parse]
  rw [if_neg (by omega), List.append_assoc, hh]
  simp only
  rw [hr f (deep + 1) r (by omega) (by omega)]
  cases hc : (k == 7) with
  | true => rfl
  | false => rw [hk hc]; rfl
theorem rows_snoc {p : List Int → PR} {m : Bool} : ∀ (n : Nat) {r0 r1 r1' r2 : List Int} {ks : List ByteArray} {xs : List S26} {s : ByteArray} {y : S26}, rows p m n r0 = .ok ks xs r1 → (m = true → key r1 = .ok s r1') → (m = false → r1' = r1) → p r1' = .ok y r2 →
    rows p m (n + 1) r0 = .ok (ks ++ if m then [s] else []) (xs ++ [y]) r2 := by
  intro n
  induction n with
  | zero =>
    intro r0 r1 r1' r2 ks xs s y h hk hm hp
    simp only [rows, PRs.ok.injEq] at h
    obtain ⟨rfl, rfl, rfl⟩ := h
    cases m with
    | true => simp [rows, hk rfl, hp, PRs.pre]
    | false => obtain rfl := hm rfl; simp [rows, hp, PRs.pre]
  | succ n ih =>
    intro r0 r1 r1' r2 ks xs s y h hk hm hp
    cases m with
    | true =>
      rw [rows] at h ⊢
      simp only [if_true] at h ⊢
      cases hk1 : key r0 with
      | wild => rw [hk1] at h; cases h
      | bad c => rw [hk1] at h; cases h
      | ok s0 q1 =>
        rw [hk1] at h
        simp only at h ⊢
        cases hp1 : p q1 with
        | wild => rw [hp1] at h; cases h
        | bad c => rw [hp1] at h; cases h
        | ok x0 q2 =>
          rw [hp1] at h
          simp only at h ⊢
          cases hr : rows p true n q2 with
          | wild => rw [hr] at h; cases h
          | bad c => rw [hr] at h; cases h
          | ok ks' xs' q3 =>
            rw [hr] at h
            simp only [PRs.pre, PRs.ok.injEq] at h
            obtain ⟨rfl, rfl, rfl⟩ := h
            rw [ih hr hk hm hp]
            simp [PRs.pre]
    | false =>
      rw [rows] at h ⊢
      simp only [Bool.false_eq_true, if_false] at h ⊢
      cases hp1 : p r0 with
      | wild => rw [hp1] at h; cases h
      | bad c => rw [hp1] at h; cases h
      | ok x0 q2 =>
        rw [hp1] at h
        simp only at h ⊢
        cases hr : rows p false n q2 with
        | wild => rw [hr] at h; cases h
        | bad c => rw [hr] at h; cases h
        | ok ks' xs' q3 =>
          rw [hr] at h
          simp only [PRs.pre, PRs.ok.injEq] at h
          obtain ⟨rfl, rfl, rfl⟩ := h
          rw [ih hr hk hm hp]
          simp [PRs.pre]
theorem RW_nil (m : Bool) : RW m [] [] [] := by
  intro f deep r _ _
  simp [rows]
theorem nodesAll_snoc (l : List S26) (y : S26) : nodesAll (l ++ [y]) = nodesAll l + nodes y := by
  induction l with
  | nil => simp [nodesAll]
  | cons x r ih => simp only [List.cons_append, nodesAll, ih]; omega
theorem parse_le {x : S26} {l : List Int} (h : PW x l) {f : Nat} {deep : Int} (r : List Int) (hf : nodes x ≤ f) (hd : deep + nodes x ≤ 1001) : parse f deep (l ++ r) = .ok x r := h f deep r hf hd
theorem RW_snoc {keys : List ByteArray} {kids : List S26} {l ly : List Int} {y : S26} (h : RW false keys kids l) (hy : PW y ly) : RW false keys (kids ++ [y]) (l ++ ly) := by
  intro f deep r hf hd
  rw [nodesAll_snoc] at hf hd
  have h1 := h f deep (ly ++ r) (by omega) (by omega)
  rw [List.length_append, List.append_assoc]
  have h2 := rows_snoc (p := parse f deep) (m := false) kids.length h1 (s := ByteArray.empty) (fun h => by cases h) (fun _ => rfl) (hy f deep r (by omega) (by omega))
  simpa using h2
theorem RW_snocK {keys : List ByteArray} {kids : List S26} {l lk ly : List Int} {s : ByteArray} {y : S26} (h : RW true keys kids l) (hk : KW s lk) (hy : PW y ly) : RW true (keys ++ [s]) (kids ++ [y]) (l ++ (lk ++ ly)) := by
  intro f deep r hf hd
  rw [nodesAll_snoc] at hf hd
  have h1 := h f deep (lk ++ (ly ++ r)) (by omega) (by omega)
  rw [List.length_append, List.append_assoc, List.append_assoc]
  have h2 := rows_snoc (p := parse f deep) (m := true) kids.length h1 (fun _ => hk (ly ++ r)) (fun h => by cases h) (hy f deep r (by omega) (by omega))
  simpa using h2

/-! ### the headers -/
theorem wide_i8 (i : Int) (h0 : -128 ≤ i) (h1 : i < 128) (r : List Int) : tok (200 :: (bigL (i % 18446744073709551616) 1 ++ r)) = .val (vI i) r := by
  simp only [bigL, List.cons_append, List.nil_append, tok, sized1]
  simp [tkInt, wrap_i8']
  congr 1
  omega
theorem wide_i16 (i : Int) (h0 : -32768 ≤ i) (h1 : i < 32768) (r : List Int) : tok (201 :: (bigL (i % 18446744073709551616) 2 ++ r)) = .val (vI i) r := by
  simp only [bigL, List.cons_append, List.nil_append, tok, sized2]
  simp [tkInt, wrap_i16']
  congr 1
  omega
theorem wide_i32 (i : Int) (h0 : -2147483648 ≤ i) (h1 : i < 2147483648) (r : List Int) : tok (202 :: (bigL (i % 18446744073709551616) 4 ++ r)) = .val (vI i) r := by
  simp only [bigL, List.cons_append, List.nil_append, tok, sized4]
  simp [tkInt, IntKind.wrap_i32, wrap32]
  congr 1
  omega
theorem wide_i64 (i : Int) (h0 : -9223372036854775808 ≤ i) (h1 : i < 9223372036854775808) (r : List Int) : tok (203 :: (bigL (i % 18446744073709551616) 8 ++ r)) = .val (vI i) r := by
  simp only [bigL, List.cons_append, List.nil_append, tok, sized8]
  simp [tkInt, IntKind.wrap_i64, wrap64]
  congr 1
  omega
theorem wide_str (s : ByteArray) (hs : s.size ≤ 300) (h : List Int) (hh : Szd s.size 208 209 210 h) (r : List Int) : tok (h ++ bytesOf s ++ r) = .val (vS 4 s) r := by
  rcases hh with ⟨h1, rfl⟩ | ⟨h1, rfl⟩ | rfl
  · simp only [bigL, List.cons_append, List.nil_append, tok, sized1]
    simp
    exact tkStr_bytes 4 _ s (by omega) (by omega) r
  · simp only [bigL, List.cons_append, List.nil_append, tok, sized2]
    simp
    exact tkStr_bytes 4 _ s (by omega) (by omega) r
  · simp only [bigL, List.cons_append, List.nil_append, tok, sized4]
    simp
    exact tkStr_bytes 4 _ s (by omega) (by omega) r
theorem wide_bytes (s : ByteArray) (hs : s.size ≤ 300) (h : List Int) (hh : Szd s.size 204 205 206 h) (r : List Int) : tok (h ++ bytesOf s ++ r) = .val (vS 5 s) r := by
  rcases hh with ⟨h1, rfl⟩ | ⟨h1, rfl⟩ | rfl
  · simp only [bigL, List.cons_append, List.nil_append, tok, sized1]
    simp
    exact tkStr_bytes 5 _ s (by omega) (by omega) r
  · simp only [bigL, List.cons_append, List.nil_append, tok, sized2]
    simp
    exact tkStr_bytes 5 _ s (by omega) (by omega) r
  · simp only [bigL, List.cons_append, List.nil_append, tok, sized4]
    simp
    exact tkStr_bytes 5 _ s (by omega) (by omega) r
theorem wide_key (s : ByteArray) (hs : s.size ≤ 300) (h : List Int) (hh : Szd s.size 208 209 210 h) : KW s (h ++ bytesOf s) := by
  intro r
  have h1 := wide_str s hs h hh r
  have h2 : ∃ m t, h ++ bytesOf s ++ r = m :: t ∧ isStr m = true := by
    rcases hh with ⟨_, rfl⟩ | ⟨_, rfl⟩ | rfl
    · exact ⟨_, _, rfl, by simp [isStr]⟩
    · exact ⟨_, _, rfl, by simp [isStr]⟩
    · exact ⟨_, _, rfl, by simp [isStr]⟩
  obtain ⟨m, t, e, hm⟩ := h2
  rw [e] at h1 ⊢
  simp only [key]
  rw [if_pos hm, h1]
  rfl
theorem wide_list (n : Nat) (hn : n ≤ 1000) (h : List Int) (hh : Szd n 212 213 214 h) (r : List Int) : tok (h ++ r) = .opn 6 0 n r := by
  rcases hh with ⟨h1, rfl⟩ | ⟨h1, rfl⟩ | rfl
  · simp only [bigL, List.cons_append, List.nil_append, tok, sized1]
    simp [tkOpn]
  · simp only [bigL, List.cons_append, List.nil_append, tok, sized2]
    simp [tkOpn]
    congr 1
    omega
  · simp only [bigL, List.cons_append, List.nil_append, tok, sized4]
    simp [tkOpn]
    congr 1
    omega
theorem wide_map (n : Nat) (hn : n ≤ 1000) (h : List Int) (hh : Szd n 216 217 218 h) (r : List Int) : tok (h ++ r) = .opn 7 0 n r := by
  rcases hh with ⟨h1, rfl⟩ | ⟨h1, rfl⟩ | rfl
  · simp only [bigL, List.cons_append, List.nil_append, tok, sized1]
    simp [tkOpn]
  · simp only [bigL, List.cons_append, List.nil_append, tok, sized2]
    simp [tkOpn]
    congr 1
    omega
  · simp only [bigL, List.cons_append, List.nil_append, tok, sized4]
    simp [tkOpn]
    congr 1
    omega
theorem Szd_bytes {n m0 m1 m2 : Int} {h : List Int} (hh : Szd n m0 m1 m2 h) (h0 : 0 ≤ n) (hm0 : 0 ≤ m0 ∧ m0 < 256) (hm1 : 0 ≤ m1 ∧ m1 < 256) (hm2 : 0 ≤ m2 ∧ m2 < 256) : Bytes h := by
  rcases hh with ⟨h1, rfl⟩ | ⟨h1, rfl⟩ | rfl
  all_goals
    intro a ha
    simp [bigL] at ha
    omega
theorem Szd_len {n m0 m1 m2 : Int} {h : List Int} (hh : Szd n m0 m1 m2 h) : h.length ≤ 5 := by
  rcases hh with ⟨h1, rfl⟩ | ⟨h1, rfl⟩ | rfl <;> simp [bigL]
end Go.Proofs.Ytjnookhdiolhgaa

namespace Go.Proofs.Ytjnookhdiolhgaa
set_option linter.unusedVariables false
set_option linter.unusedSimpArgs false
open Go.RowKit Go.Proofs.YtjnookhdiolhgaaW.PrintWords
open PAll (S26 k26 rd_T26)

set_option maxHeartbeats 1000000 in
set_option maxRecDepth 100000 in
theorem plainly_any (x : S26) (A5 : Option Addr) (c5 : Nat) (A6 : Option Addr) (c6 : Nat) (w : World) (hok : okV x) (hwf : wfV x) (hn : nodes x ≤ 1000) (hc5 : x.f5.length ≤ c5) (hc6 : x.f6.length ≤ c6)
    (hk5 : Kd.C Kd.string w A5 x.f5.length x.f5) (hk6 : Kd.C k26 w A6 x.f6.length x.f6) :
    Calls Try.prog 77 #[valOf x A5 c5 A6 c6] w fun e w' => e = .returned (.string (strOfNums (enc x))) ∧ Below w.heap.size w w' := by
  have HP := Aside0.mk (fun (wi : World) (hb : Below w.heap.size w wi) => Pack_any x A5 c5 A6 c6 wi hok hwf hn hc5 hc6 (Kd.C_below hk5 hb) (Kd.C_below hk6 hb))
  have HB := Aside0.mk (below_alloc (Below.refl w.heap.size w) (.cells #[.int .i64 x.f0, .bool x.f1, .int .i64 x.f2, .int .u64 x.f3, .string x.f4, .slice A5 x.f5.length c5, .slice A6 x.f6.length c6] 26))
  clear hok hwf hk5 hk6
  unfold valOf at *
  go_enter Try.func77, Try.ntmps77
  go_wp2_with fail
  refine (HP.out _ HB.out).mono ?_
  rintro e w1 ⟨rfl, hb⟩
  have HB1 := Aside0.mk (HB.out.trans (hb.mono HB.out.size))
  clear hb HB HP
  go_wp2_with fail
  go_ret
  exact ⟨rfl, HB1.out⟩

/-- The ways that are left: a box that leads into a row of bytes. -/
structure Wy (w : World) (wb : Nat) (A : Option Addr) (n c : Nat) (lw : List Int) : Prop where
  box : w.heap[wb]? = some (.cells #[.slice A n c] 69 (0, 0))
  len : lw.length = n
  le : n ≤ c
  row : (Kd.int .u8).C w A n lw
  rng : ∀ x ∈ lw, 0 ≤ x ∧ x ≤ 255
  far : ∀ ad, A = some ad → ad.block ≠ wb
theorem Wy.below {w w1 : World} {wb : Nat} {A : Option Addr} {n c : Nat} {lw : List Int} (h : Wy w wb A n c lw) (hb : Below w.heap.size w w1) : Wy w1 wb A n c lw :=
  ⟨(hb.block _ (blk_lt h.box)).trans h.box, h.len, h.le, Kd.C_below h.row hb, h.rng, h.far⟩
def WyE (w : World) (wb : Nat) : Prop := ∃ A n c lw, Wy w wb A n c lw
theorem WyE.below {w w1 : World} {wb : Nat} (h : WyE w wb) (hb : Below w.heap.size w w1) : WyE w1 wb := by
  obtain ⟨A, n, c, lw, h⟩ := h
  exact ⟨A, n, c, lw, h.below hb⟩

/-- The box of the value, the ways, and what has turned. -/
structure WS (w wr : World) (wb : Nat) (k : Int) (b : Bool) (i f : Int) (s : ByteArray) (A5 : Option Addr) (n5 c5 : Nat) (A6 : Option Addr) (n6 c6 : Nat) : Prop where
  box : wr.heap[w.heap.size]? = some (.cells #[.int .i64 k, .bool b, .int .i64 i, .int .u64 f, .string s, .slice A5 n5 c5, .slice A6 n6 c6] 26 (0, 0))
  ways : WyE wr wb
  gr : w.grownBy wr (some wb)
theorem WS.below {w wr w2 : World} {wb : Nat} {k : Int} {b : Bool} {i f : Int} {s : ByteArray} {A5 : Option Addr} {n5 c5 : Nat} {A6 : Option Addr} {n6 c6 : Nat} (h : WS w wr wb k b i f s A5 n5 c5 A6 n6 c6) (hb : Below wr.heap.size wr w2) : WS w w2 wb k b i f s A5 n5 c5 A6 n6 c6 :=
  ⟨(hb.block _ (blk_lt h.box)).trans h.box, h.ways.below hb, grown_trans' h.gr (grown_of_below hb _)⟩
theorem wy_drop {w : World} {wb : Nat} {ad : Addr} {n c : Nat} {a : Int} {lw : List Int} (h : Wy w wb (some ad) n c (a :: lw)) : Wy (w.setCell ⟨wb, 0, none⟩ (.slice (some ⟨ad.block, ad.off + 1, none⟩) (n - 1) (c - 1))) wb (some ⟨ad.block, ad.off + 1, none⟩) (n - 1) (c - 1) lw := by
  have hlt := blk_lt h.box
  have hln : lw.length + 1 = n := h.len
  have ea : (⟨ad.block, ad.off + 1, none⟩ : Addr) = ad.add 1 := rfl
  rw [ea]
  refine ⟨blk_put h.box 0 _ rfl, by omega, by have := h.le; omega, ?_, fun x hx => h.rng x (by simp [hx]), fun q hq => ?_⟩
  · obtain ⟨h1, h2, h3⟩ := h.row
    refine ⟨by omega, by omega, fun hp => ⟨ad.add 1, rfl, ?_⟩⟩
    obtain ⟨ad2, he, hat⟩ := h3 (by omega)
    injection he with he
    subst he
    intro j p hj
    obtain ⟨cs, hl, hK, hc⟩ := hat (j + 1) p (by simpa using hj)
    refine ⟨cs, hl, hK, fun i u hu => ?_⟩
    have h4 := hc i u hu
    have e : (ad.add 1).add (j * (Kd.int .u8).sz + i) = ad.add ((j + 1) * (Kd.int .u8).sz + i) := by
      rw [Go.Deep.add_add]
      congr 1
      show 1 + (j * 1 + i) = (j + 1) * 1 + i
      omega
    rw [e, World.cell?_setCell_other]
    · exact h4
    · intro he
      have hb : (ad.add ((j + 1) * (Kd.int .u8).sz + i)).block = ad.block := by unfold Addr.add; split <;> rfl
      rw [← he] at hb
      exact h.far ad rfl hb.symm
  · injection hq with hq
    subst hq
    exact h.far ad rfl
theorem wy_drop1 {w : World} {wb : Nat} {ad : Addr} {n : Nat} {a : Int} {lw : List Int} (h : Wy w wb (some ad) n 1 (a :: lw)) : Wy (w.setCell ⟨wb, 0, none⟩ (.slice (some ad) (n - 1) 0)) wb (some ad) (n - 1) 0 lw := by
  have hln : lw.length + 1 = n := h.len
  have hle := h.le
  obtain rfl : lw = [] := List.eq_nil_of_length_eq_zero (by omega)
  have hn : n - 1 = 0 := by omega
  rw [hn]
  exact ⟨blk_put h.box 0 _ rfl, rfl, Nat.le_refl _, ⟨rfl, by decide, fun h => absurd h (by decide)⟩, (fun x hx => by cases hx), h.far⟩
theorem ws_drop {w : World} {wb : Nat} {v : Value} {A : Option Addr} {n c : Nat} {lw : List Int} {k : Int} {b : Bool} {i f : Int} {s : ByteArray} {A5 : Option Addr} {n5 c5 : Nat} {A6 : Option Addr} {n6 c6 : Nat} (hlt : wb < w.heap.size) (h : Wy (w.setCell ⟨wb, 0, none⟩ v) wb A n c lw) :
    WS w ((w.setCell ⟨wb, 0, none⟩ v).alloc (.cells #[.int .i64 k, .bool b, .int .i64 i, .int .u64 f, .string s, .slice A5 n5 c5, .slice A6 n6 c6] 26)).drew wb k b i f s A5 n5 c5 A6 n6 c6 := by
  have hb : Below (w.setCell ⟨wb, 0, none⟩ v).heap.size (w.setCell ⟨wb, 0, none⟩ v) ((w.setCell ⟨wb, 0, none⟩ v).alloc (.cells #[.int .i64 k, .bool b, .int .i64 i, .int .u64 f, .string s, .slice A5 n5 c5, .slice A6 n6 c6] 26)).drew := below_drew (below_alloc (Below.refl _ _) _)
  refine ⟨?_, ⟨A, n, c, lw, h.below hb⟩, grown_trans' (grown_set (World.grownBy.refl w _) 0 _) (grown_of_below hb _)⟩
  have h1 := heap_alloc_new (w.setCell ⟨wb, 0, none⟩ v) (.cells #[.int .i64 k, .bool b, .int .i64 i, .int .u64 f, .string s, .slice A5 n5 c5, .slice A6 n6 c6] 26)
  have e : (w.setCell ⟨wb, 0, none⟩ v).heap.size = w.heap.size := by simp [World.setCell]
  rw [e] at h1
  exact h1

/-- widen's contract for values of at most N parts. -/
def WdSaid (N : Nat) : Prop :=
  ∀ (x : S26) (A5 : Option Addr) (c5 : Nat) (A6 : Option Addr) (c6 : Nat) (wb : Nat) (w0 w : World), nodes x ≤ N → okV x → wfV x → nodes x ≤ 1000 → x.f5.length ≤ c5 → x.f6.length ≤ c6 → Kd.C Kd.string w0 A5 x.f5.length x.f5 → Kd.C k26 w0 A6 x.f6.length x.f6 →
    Below w0.heap.size w0 w → w0.heap.size ≤ wb → WyE w wb →
    Calls Try.prog 76 #[valOf x A5 c5 A6 c6, .pointer (some ⟨wb, 0, none⟩), .func (.func 77) #[] #[]] w fun e w' =>
      ∃ s : ByteArray, e = .returned (.string s) ∧ PW x (bytesOf s) ∧ (x.f0 = 4 → KW x.f4 (bytesOf s)) ∧ s.size + 310 ≤ 620 * nodes x ∧ WyE w' wb ∧ w.grownBy w' (some wb)

theorem add_nought (ad : Addr) : ad.add 0 = ad := by unfold Addr.add; rw [if_pos rfl]
set_option maxHeartbeats 4000000 in
set_option maxRecDepth 100000 in
theorem widen_plain (k : Int) (hk : k = 0 ∨ k = 1 ∨ k = 3) (b : Bool) (i f : Int) (s : ByteArray) (n5 n6 : Nat) (A5 : Option Addr) (c5 : Nat) (A6 : Option Addr) (c6 : Nat) (wb : Nat) (w : World) (hwy : WyE w wb) (sx : ByteArray)
    (hp : ∀ wi, Below w.heap.size w wi ∨ w.grownBy wi (some wb) → Calls Try.prog 77 #[.agg #[.int .i64 k, .bool b, .int .i64 i, .int .u64 f, .string s, .slice A5 n5 c5, .slice A6 n6 c6]] wi fun e w' => e = .returned (.string sx) ∧ Below wi.heap.size wi w') :
    Calls Try.prog 76 #[.agg #[.int .i64 k, .bool b, .int .i64 i, .int .u64 f, .string s, .slice A5 n5 c5, .slice A6 n6 c6], .pointer (some ⟨wb, 0, none⟩), .func (.func 77) #[] #[]] w fun e w' =>
      e = .returned (.string sx) ∧ WyE w' wb ∧ w.grownBy w' (some wb) := by
  have HP := Aside0.mk hp
  obtain ⟨A, n, c, lw, hwy⟩ := hwy
  have HWY := Aside0.mk hwy
  have c0 : w.cell? ⟨wb, 0, none⟩ = some (.slice A n c) := blk_cell hwy.box 0
  have f0 : w.frozen? ⟨wb, 0, none⟩ = false := blk_frozen hwy.box 0
  have hlt := blk_lt hwy.box
  have hnc := hwy.le
  have hnm : (n : Int) ≤ 9223372036854775807 := by have h1 : n ≤ maxLen := hwy.row.2.1; simp only [maxLen] at h1; omega
  clear hp hwy
  go_enter Try.func76, Try.ntmps76
  go_upto_if 15 with (fail)
  go_cut [7] (fun v7 wc => ∃ way : Int, v7 = .int .u8 way ∧ Aside0 (0 ≤ way ∧ way ≤ 255) ∧ Aside0 (WS w wc wb k b i f s A5 n5 c5 A6 n6 c6))
  case first =>
    have HBX := Aside0.mk (below_alloc (Below.refl w.heap.size w) (.cells #[.int .i64 k, .bool b, .int .i64 i, .int .u64 f, .string s, .slice A5 n5 c5, .slice A6 n6 c6] 26))
    by_cases hz : n = 0
    · subst hz
      go_wp2_with fail
      go_meet
      case rel => exact ⟨0, rfl, ⟨by omega⟩, ⟨heap_alloc_new w _, ⟨A, 0, c, lw, HWY.out.below HBX.out⟩, grown_of_below HBX.out _⟩⟩
    · obtain ⟨a, lt, hlw⟩ : ∃ a lt, lw = a :: lt := by
        cases lw with
        | nil => exact absurd HWY.out.len (by simp; omega)
        | cons a lt => exact ⟨a, lt, rfl⟩
      have HLW := Aside0.mk hlw
      clear hlw
      have har := HWY.out.rng a (by rw [HLW.out]; simp)
      obtain ⟨ad, hA, hc0⟩ := at_enc (show (Kd.int .u8).C w A lw.length lw by have h := HWY.out.row; rw [← HWY.out.len] at h; exact h) (j := 0) (x := a) (by rw [HLW.out]; rfl)
      subst hA
      have hz0 := add_nought ad
      have hc1 : w.cell? ad = some (.int .u8 a) := by rw [hz0] at hc0; exact hc0
      have hgt : decide (0 < n) = true := decide_eq_true (by omega)
      have hn0 : 0 < n := by omega
      have hn1 : (0 : Int) < (n : Int) := by omega
      have hn2 : (1 : Int) ≤ (n : Int) := by omega
      have hn3 : 1 ≤ n := by omega
      clear hc0 hz hz0
      have HAR := Aside0.mk har
      clear har hnm
      have hc2 : (w.alloc (.cells #[.int .i64 k, .bool b, .int .i64 i, .int .u64 f, .string s, .slice A5 n5 c5, .slice A6 n6 c6] 26)).drew.cell? ad = some (.int .u8 a) := pw_cell_below (below_drew (below_alloc (Below.refl _ _) _)) hc1
      go_wp2_with fail
      go_region
      all_goals go_wp2_with fail
      all_goals
        go_meet
        case rel =>
          refine ⟨a, rfl, ⟨HAR.out⟩, ⟨?_⟩⟩
          have hw := HWY.out
          rw [HLW.out] at hw
          first | exact ws_drop hlt (wy_drop hw) | (have hcone : c = 1 := (by omega); rw [hcone] at hw; exact ws_drop hlt (wy_drop1 hw))
  case rest =>
    clear hlt hnc hnm c0 f0
    obtain ⟨way, rfl, HWAY, HV⟩ := hcut
    obtain ⟨q0, q1, q2, q3, q4, q5, q6⟩ := box7 HV.out.box
    rcases hk with rfl | rfl | rfl
    all_goals
      go_wp2_with fail
      refine (HP.out _ (.inr HV.out.gr)).mono ?_
      rintro e w2 ⟨rfl, hb⟩
      have HV2 := Aside0.mk (HV.out.below hb)
      clear hb HV HP q0 q1 q2 q3 q4 q5 q6
      go_wp2_with fail
      go_ret
      exact ⟨rfl, HV2.out.ways, HV2.out.gr⟩
end Go.Proofs.Ytjnookhdiolhgaa

namespace Go.Proofs.Ytjnookhdiolhgaa
set_option linter.unusedVariables false
set_option linter.unusedSimpArgs false
open Go.RowKit Go.Proofs.YtjnookhdiolhgaaW.PrintWords Go.Proofs.YtjnookhdiolhgaaW.PrintLast
open PAll (S26 k26 rd_T26)

theorem bigL_bytes (n : Int) (m : Nat) : Bytes (bigL n m) := by
  induction m with
  | zero => intro a ha; cases ha
  | succ m ih =>
    intro a ha
    rcases List.mem_cons.1 ha with rfl | ha
    · omega
    · exact ih a ha
theorem bytes_cons {a : Int} {l : List Int} (h : 0 ≤ a ∧ a ≤ 255) (hl : Bytes l) : Bytes (a :: l) := by
  intro x hx
  rcases List.mem_cons.1 hx with rfl | hx
  · exact h
  · exact hl x hx

set_option maxHeartbeats 4000000 in
set_option maxRecDepth 100000 in
theorem widen_int (b : Bool) (i f : Int) (s : ByteArray) (n5 n6 : Nat) (A5 : Option Addr) (c5 : Nat) (A6 : Option Addr) (c6 : Nat) (wb : Nat) (w : World) (hwy : WyE w wb) (hi0 : -9223372036854775808 ≤ i) (hi1 : i < 9223372036854775808) :
    Calls Try.prog 76 #[.agg #[.int .i64 2, .bool b, .int .i64 i, .int .u64 f, .string s, .slice A5 n5 c5, .slice A6 n6 c6], .pointer (some ⟨wb, 0, none⟩), .func (.func 77) #[] #[]] w fun e w' =>
      ∃ l : List Int, e = .returned (.string (strOfNums l)) ∧ (∀ r, tok (l ++ r) = .val (vI i) r) ∧ Bytes l ∧ l.length ≤ 9 ∧ WyE w' wb ∧ w.grownBy w' (some wb) := by
  obtain ⟨u, hu⟩ : ∃ u, IntKind.u64.wrap i = u := ⟨_, rfl⟩
  have HU := Aside0.mk (show u = i % 18446744073709551616 by rw [← hu, IntKind.wrap_u64])
  have HI := Aside0.mk (And.intro hi0 hi1)
  have HB1 : Aside0 (∀ wi : World, Calls Try.prog 119 #[.int .u64 u, .int .i64 1] wi fun e w' => e = .returned (.string (strOfNums (bigL u 1))) ∧ Below wi.heap.size wi w') := ⟨fun wi => big_any u 1 (by omega) wi⟩
  have HB2 : Aside0 (∀ wi : World, Calls Try.prog 119 #[.int .u64 u, .int .i64 2] wi fun e w' => e = .returned (.string (strOfNums (bigL u 2))) ∧ Below wi.heap.size wi w') := ⟨fun wi => big_any u 2 (by omega) wi⟩
  have HB4 : Aside0 (∀ wi : World, Calls Try.prog 119 #[.int .u64 u, .int .i64 4] wi fun e w' => e = .returned (.string (strOfNums (bigL u 4))) ∧ Below wi.heap.size wi w') := ⟨fun wi => big_any u 4 (by omega) wi⟩
  have HB8 : Aside0 (∀ wi : World, Calls Try.prog 119 #[.int .u64 u, .int .i64 8] wi fun e w' => e = .returned (.string (strOfNums (bigL u 8))) ∧ Below wi.heap.size wi w') := ⟨fun wi => big_any u 8 (by omega) wi⟩
  have z1 : (strOfNums (bigL u 1)).size = 1 := by rw [str_size, bigL_length]
  have z2 : (strOfNums (bigL u 2)).size = 2 := by rw [str_size, bigL_length]
  have z4 : (strOfNums (bigL u 4)).size = 4 := by rw [str_size, bigL_length]
  have z8 : (strOfNums (bigL u 8)).size = 8 := by rw [str_size, bigL_length]
  clear hi0 hi1
  obtain ⟨A, n, c, lw, hwy⟩ := hwy
  have HWY := Aside0.mk hwy
  have c0 : w.cell? ⟨wb, 0, none⟩ = some (.slice A n c) := blk_cell hwy.box 0
  have f0 : w.frozen? ⟨wb, 0, none⟩ = false := blk_frozen hwy.box 0
  have hlt := blk_lt hwy.box
  have hnc := hwy.le
  clear hwy
  go_enter Try.func76, Try.ntmps76
  go_upto_if 15 with (fail)
  go_cut [7] (fun v7 wc => ∃ way : Int, v7 = .int .u8 way ∧ Aside0 (0 ≤ way ∧ way ≤ 255) ∧ Aside0 (WS w wc wb 2 b i f s A5 n5 c5 A6 n6 c6))
  case first =>
    have HBX := Aside0.mk (below_alloc (Below.refl w.heap.size w) (.cells #[.int .i64 2, .bool b, .int .i64 i, .int .u64 f, .string s, .slice A5 n5 c5, .slice A6 n6 c6] 26))
    by_cases hz : n = 0
    · subst hz
      go_wp2_with fail
      go_meet
      case rel => exact ⟨0, rfl, ⟨by omega⟩, ⟨heap_alloc_new w _, ⟨A, 0, c, lw, HWY.out.below HBX.out⟩, grown_of_below HBX.out _⟩⟩
    · obtain ⟨a, lt, hlw⟩ : ∃ a lt, lw = a :: lt := by
        cases lw with
        | nil => exact absurd HWY.out.len (by simp; omega)
        | cons a lt => exact ⟨a, lt, rfl⟩
      have HLW := Aside0.mk hlw
      clear hlw
      have har := HWY.out.rng a (by rw [HLW.out]; simp)
      obtain ⟨ad, hA, hc0⟩ := at_enc (show (Kd.int .u8).C w A lw.length lw by have h := HWY.out.row; rw [← HWY.out.len] at h; exact h) (j := 0) (x := a) (by rw [HLW.out]; rfl)
      subst hA
      have hz0 := add_nought ad
      have hc1 : w.cell? ad = some (.int .u8 a) := by rw [hz0] at hc0; exact hc0
      have hgt : decide (0 < n) = true := decide_eq_true (by omega)
      have hn0 : 0 < n := by omega
      have hn1 : (0 : Int) < (n : Int) := by omega
      have hn2 : (1 : Int) ≤ (n : Int) := by omega
      have hn3 : 1 ≤ n := by omega
      clear hc0 hz hz0
      have HAR := Aside0.mk har
      clear har
      have hc2 : (w.alloc (.cells #[.int .i64 2, .bool b, .int .i64 i, .int .u64 f, .string s, .slice A5 n5 c5, .slice A6 n6 c6] 26)).drew.cell? ad = some (.int .u8 a) := pw_cell_below (below_drew (below_alloc (Below.refl _ _) _)) hc1
      go_wp2_with fail
      go_region
      all_goals go_wp2_with fail
      all_goals
        go_meet
        case rel =>
          refine ⟨a, rfl, ⟨HAR.out⟩, ⟨?_⟩⟩
          have hw := HWY.out
          rw [HLW.out] at hw
          first | exact ws_drop hlt (wy_drop hw) | (have hcone : c = 1 := (by omega); rw [hcone] at hw; exact ws_drop hlt (wy_drop1 hw))
  case rest =>
    clear hlt hnc c0 f0
    obtain ⟨way, rfl, HWAY, HV⟩ := hcut
    obtain ⟨q0, q1, q2, q3, q4, q5, q6⟩ := box7 HV.out.box
    have hw0 := HWAY.out.1
    have hwr : way.tmod 4 = way % 4 := Int.tmod_eq_emod_of_nonneg hw0
    have HS1 := Aside0.mk (show (⟨#[200]⟩ : ByteArray) ++ strOfNums (bigL u 1) = strOfNums (200 :: bigL u 1) from str_two 200 (bigL u 1))
    have HS2 := Aside0.mk (show (⟨#[201]⟩ : ByteArray) ++ strOfNums (bigL u 2) = strOfNums (201 :: bigL u 2) from str_two 201 (bigL u 2))
    have HS4 := Aside0.mk (show (⟨#[202]⟩ : ByteArray) ++ strOfNums (bigL u 4) = strOfNums (202 :: bigL u 4) from str_two 202 (bigL u 4))
    have HS8 := Aside0.mk (show (⟨#[203]⟩ : ByteArray) ++ strOfNums (bigL u 8) = strOfNums (203 :: bigL u 8) from str_two 203 (bigL u 8))
    go_wp2_with fail
    all_goals
      first
      | (with_reducible refine (HB1.out _).mono ?_
         rintro e w2 ⟨rfl, hb⟩
         have HV2 := Aside0.mk (HV.out.below hb)
         clear hb HV q0 q1 q2 q3 q4 q5 q6
         go_wp2_with fail
         go_ret
         exact ⟨200 :: bigL u 1, by rw [← HS1.out]; rfl, by rw [HU.out]; exact fun r => wide_i8 i (by omega) (by omega) r, bytes_cons (by omega) (bigL_bytes u 1), by rw [List.length_cons, bigL_length]; omega, HV2.out.ways, HV2.out.gr⟩)
      | (with_reducible refine (HB2.out _).mono ?_
         rintro e w2 ⟨rfl, hb⟩
         have HV2 := Aside0.mk (HV.out.below hb)
         clear hb HV q0 q1 q2 q3 q4 q5 q6
         go_wp2_with fail
         go_ret
         exact ⟨201 :: bigL u 2, by rw [← HS2.out]; rfl, by rw [HU.out]; exact fun r => wide_i16 i (by omega) (by omega) r, bytes_cons (by omega) (bigL_bytes u 2), by rw [List.length_cons, bigL_length]; omega, HV2.out.ways, HV2.out.gr⟩)
      | (with_reducible refine (HB4.out _).mono ?_
         rintro e w2 ⟨rfl, hb⟩
         have HV2 := Aside0.mk (HV.out.below hb)
         clear hb HV q0 q1 q2 q3 q4 q5 q6
         go_wp2_with fail
         go_ret
         exact ⟨202 :: bigL u 4, by rw [← HS4.out]; rfl, by rw [HU.out]; exact fun r => wide_i32 i (by omega) (by omega) r, bytes_cons (by omega) (bigL_bytes u 4), by rw [List.length_cons, bigL_length]; omega, HV2.out.ways, HV2.out.gr⟩)
      | (with_reducible refine (HB8.out _).mono ?_
         rintro e w2 ⟨rfl, hb⟩
         have HV2 := Aside0.mk (HV.out.below hb)
         clear hb HV q0 q1 q2 q3 q4 q5 q6
         go_wp2_with fail
         go_ret
         exact ⟨203 :: bigL u 8, by rw [← HS8.out]; rfl, by rw [HU.out]; exact fun r => wide_i64 i HI.out.1 HI.out.2 r, bytes_cons (by omega) (bigL_bytes u 8), by rw [List.length_cons, bigL_length]; omega, HV2.out.ways, HV2.out.gr⟩)
end Go.Proofs.Ytjnookhdiolhgaa

namespace Go.Proofs.Ytjnookhdiolhgaa
set_option linter.unusedVariables false
set_option linter.unusedSimpArgs false
open Go.RowKit Go.Proofs.YtjnookhdiolhgaaW.PrintWords Go.Proofs.YtjnookhdiolhgaaW.PrintLast
open PAll (S26 k26 rd_T26)

set_option maxHeartbeats 4000000 in
set_option maxRecDepth 100000 in
theorem widen_s4 (b : Bool) (i f : Int) (s : ByteArray) (hs : s.size ≤ 300) (n5 n6 : Nat) (A5 : Option Addr) (c5 : Nat) (A6 : Option Addr) (c6 : Nat) (wb : Nat) (w : World) (hwy : WyE w wb) :
    Calls Try.prog 76 #[.agg #[.int .i64 4, .bool b, .int .i64 i, .int .u64 f, .string s, .slice A5 n5 c5, .slice A6 n6 c6], .pointer (some ⟨wb, 0, none⟩), .func (.func 77) #[] #[]] w fun e w' =>
      ∃ h : List Int, e = .returned (.string (strOfNums h ++ s)) ∧ Szd s.size 208 209 210 h ∧ WyE w' wb ∧ w.grownBy w' (some wb) := by
  obtain ⟨A, n, c, lw, hwy⟩ := hwy
  have HWY := Aside0.mk hwy
  have c0 : w.cell? ⟨wb, 0, none⟩ = some (.slice A n c) := blk_cell hwy.box 0
  have f0 : w.frozen? ⟨wb, 0, none⟩ = false := blk_frozen hwy.box 0
  have hlt := blk_lt hwy.box
  have hnc := hwy.le
  clear hwy
  go_enter Try.func76, Try.ntmps76
  go_upto_if 15 with (fail)
  go_cut [7] (fun v7 wc => ∃ way : Int, v7 = .int .u8 way ∧ Aside0 (0 ≤ way ∧ way ≤ 255) ∧ Aside0 (WS w wc wb 4 b i f s A5 n5 c5 A6 n6 c6))
  case first =>
    have HBX := Aside0.mk (below_alloc (Below.refl w.heap.size w) (.cells #[.int .i64 4, .bool b, .int .i64 i, .int .u64 f, .string s, .slice A5 n5 c5, .slice A6 n6 c6] 26))
    by_cases hz : n = 0
    · subst hz
      go_wp2_with fail
      go_meet
      case rel => exact ⟨0, rfl, ⟨by omega⟩, ⟨heap_alloc_new w _, ⟨A, 0, c, lw, HWY.out.below HBX.out⟩, grown_of_below HBX.out _⟩⟩
    · obtain ⟨a, lt, hlw⟩ : ∃ a lt, lw = a :: lt := by
        cases lw with
        | nil => exact absurd HWY.out.len (by simp; omega)
        | cons a lt => exact ⟨a, lt, rfl⟩
      have HLW := Aside0.mk hlw
      clear hlw
      have har := HWY.out.rng a (by rw [HLW.out]; simp)
      obtain ⟨ad, hA, hc0⟩ := at_enc (show (Kd.int .u8).C w A lw.length lw by have h := HWY.out.row; rw [← HWY.out.len] at h; exact h) (j := 0) (x := a) (by rw [HLW.out]; rfl)
      subst hA
      have hz0 := add_nought ad
      have hc1 : w.cell? ad = some (.int .u8 a) := by rw [hz0] at hc0; exact hc0
      have hgt : decide (0 < n) = true := decide_eq_true (by omega)
      have hn0 : 0 < n := by omega
      have hn1 : (0 : Int) < (n : Int) := by omega
      have hn2 : (1 : Int) ≤ (n : Int) := by omega
      have hn3 : 1 ≤ n := by omega
      clear hc0 hz hz0
      have HAR := Aside0.mk har
      clear har
      have hc2 : (w.alloc (.cells #[.int .i64 4, .bool b, .int .i64 i, .int .u64 f, .string s, .slice A5 n5 c5, .slice A6 n6 c6] 26)).drew.cell? ad = some (.int .u8 a) := pw_cell_below (below_drew (below_alloc (Below.refl _ _) _)) hc1
      go_wp2_with fail
      go_region
      all_goals go_wp2_with fail
      all_goals
        go_meet
        case rel =>
          refine ⟨a, rfl, ⟨HAR.out⟩, ⟨?_⟩⟩
          have hw := HWY.out
          rw [HLW.out] at hw
          first | exact ws_drop hlt (wy_drop hw) | (have hcone : c = 1 := (by omega); rw [hcone] at hw; exact ws_drop hlt (wy_drop1 hw))
  case rest =>
    clear hlt hnc c0 f0
    obtain ⟨way, rfl, HWAY, HV⟩ := hcut
    obtain ⟨q0, q1, q2, q3, q4, q5, q6⟩ := box7 HV.out.box
    have HSZ := Aside0.mk (fun wi : World => sized_any s.size (by omega) way 208 209 210 HWAY.out.1 HWAY.out.2 (by decide) wi)
    clear q1 q2 q3 q5 q6
    go_wp2_with fail
    go_region_with (first | (go_at_call 120; refine (HSZ.out _).mono ?_; rintro e w5 ⟨h5, rfl, hs5, hb5⟩; have p4' : w5.cell? ⟨w.heap.size, 4, none⟩ = some (.string s) := (pw_cell_below (below_step (by repeat (first | (with_reducible first | exact Below.refl _ _ | apply below_alloc | apply below_drew) | exact Below.refl _ _)) hb5) q4); have HB5 := Aside0.mk (show Below wc.heap.size wc w5 from below_step (by repeat (first | (with_reducible first | exact Below.refl _ _ | apply below_alloc | apply below_drew) | exact Below.refl _ _)) hb5); have hz5 : (strOfNums h5).size ≤ 5 := (by rw [str_size]; exact Szd_len hs5); have HS5 := Aside0.mk hs5; clear hs5))
    all_goals
      have HV2 := Aside0.mk (HV.out.below HB5.out)
      go_wp2_with fail
      go_ret
      exact ⟨h5, rfl, HS5.out, HV2.out.ways, HV2.out.gr⟩

set_option maxHeartbeats 4000000 in
set_option maxRecDepth 100000 in
theorem widen_s5 (b : Bool) (i f : Int) (s : ByteArray) (hs : s.size ≤ 300) (n5 n6 : Nat) (A5 : Option Addr) (c5 : Nat) (A6 : Option Addr) (c6 : Nat) (wb : Nat) (w : World) (hwy : WyE w wb) :
    Calls Try.prog 76 #[.agg #[.int .i64 5, .bool b, .int .i64 i, .int .u64 f, .string s, .slice A5 n5 c5, .slice A6 n6 c6], .pointer (some ⟨wb, 0, none⟩), .func (.func 77) #[] #[]] w fun e w' =>
      ∃ h : List Int, e = .returned (.string (strOfNums h ++ s)) ∧ Szd s.size 204 205 206 h ∧ WyE w' wb ∧ w.grownBy w' (some wb) := by
  obtain ⟨A, n, c, lw, hwy⟩ := hwy
  have HWY := Aside0.mk hwy
  have c0 : w.cell? ⟨wb, 0, none⟩ = some (.slice A n c) := blk_cell hwy.box 0
  have f0 : w.frozen? ⟨wb, 0, none⟩ = false := blk_frozen hwy.box 0
  have hlt := blk_lt hwy.box
  have hnc := hwy.le
  clear hwy
  go_enter Try.func76, Try.ntmps76
  go_upto_if 15 with (fail)
  go_cut [7] (fun v7 wc => ∃ way : Int, v7 = .int .u8 way ∧ Aside0 (0 ≤ way ∧ way ≤ 255) ∧ Aside0 (WS w wc wb 5 b i f s A5 n5 c5 A6 n6 c6))
  case first =>
    have HBX := Aside0.mk (below_alloc (Below.refl w.heap.size w) (.cells #[.int .i64 5, .bool b, .int .i64 i, .int .u64 f, .string s, .slice A5 n5 c5, .slice A6 n6 c6] 26))
    by_cases hz : n = 0
    · subst hz
      go_wp2_with fail
      go_meet
      case rel => exact ⟨0, rfl, ⟨by omega⟩, ⟨heap_alloc_new w _, ⟨A, 0, c, lw, HWY.out.below HBX.out⟩, grown_of_below HBX.out _⟩⟩
    · obtain ⟨a, lt, hlw⟩ : ∃ a lt, lw = a :: lt := by
        cases lw with
        | nil => exact absurd HWY.out.len (by simp; omega)
        | cons a lt => exact ⟨a, lt, rfl⟩
      have HLW := Aside0.mk hlw
      clear hlw
      have har := HWY.out.rng a (by rw [HLW.out]; simp)
      obtain ⟨ad, hA, hc0⟩ := at_enc (show (Kd.int .u8).C w A lw.length lw by have h := HWY.out.row; rw [← HWY.out.len] at h; exact h) (j := 0) (x := a) (by rw [HLW.out]; rfl)
      subst hA
      have hz0 := add_nought ad
      have hc1 : w.cell? ad = some (.int .u8 a) := by rw [hz0] at hc0; exact hc0
      have hgt : decide (0 < n) = true := decide_eq_true (by omega)
      have hn0 : 0 < n := by omega
      have hn1 : (0 : Int) < (n : Int) := by omega
      have hn2 : (1 : Int) ≤ (n : Int) := by omega
      have hn3 : 1 ≤ n := by omega
      clear hc0 hz hz0
      have HAR := Aside0.mk har
      clear har
      have hc2 : (w.alloc (.cells #[.int .i64 5, .bool b, .int .i64 i, .int .u64 f, .string s, .slice A5 n5 c5, .slice A6 n6 c6] 26)).drew.cell? ad = some (.int .u8 a) := pw_cell_below (below_drew (below_alloc (Below.refl _ _) _)) hc1
      go_wp2_with fail
      go_region
      all_goals go_wp2_with fail
      all_goals
        go_meet
        case rel =>
          refine ⟨a, rfl, ⟨HAR.out⟩, ⟨?_⟩⟩
          have hw := HWY.out
          rw [HLW.out] at hw
          first | exact ws_drop hlt (wy_drop hw) | (have hcone : c = 1 := (by omega); rw [hcone] at hw; exact ws_drop hlt (wy_drop1 hw))
  case rest =>
    clear hlt hnc c0 f0
    obtain ⟨way, rfl, HWAY, HV⟩ := hcut
    obtain ⟨q0, q1, q2, q3, q4, q5, q6⟩ := box7 HV.out.box
    have HSZ := Aside0.mk (fun wi : World => sized_any s.size (by omega) way 204 205 206 HWAY.out.1 HWAY.out.2 (by decide) wi)
    clear q1 q2 q3 q5 q6
    go_wp2_with fail
    go_region_with (first | (go_at_call 120; refine (HSZ.out _).mono ?_; rintro e w5 ⟨h5, rfl, hs5, hb5⟩; have p4' : w5.cell? ⟨w.heap.size, 4, none⟩ = some (.string s) := (pw_cell_below (below_step (by repeat (first | (with_reducible first | exact Below.refl _ _ | apply below_alloc | apply below_drew) | exact Below.refl _ _)) hb5) q4); have HB5 := Aside0.mk (show Below wc.heap.size wc w5 from below_step (by repeat (first | (with_reducible first | exact Below.refl _ _ | apply below_alloc | apply below_drew) | exact Below.refl _ _)) hb5); have hz5 : (strOfNums h5).size ≤ 5 := (by rw [str_size]; exact Szd_len hs5); have HS5 := Aside0.mk hs5; clear hs5))
    all_goals
      have HV2 := Aside0.mk (HV.out.below HB5.out)
      go_wp2_with fail
      go_ret
      exact ⟨h5, rfl, HS5.out, HV2.out.ways, HV2.out.gr⟩

theorem nodesAll_takeS {l : List S26} {j : Nat} {x : S26} (h : l[j]? = some x) : nodesAll (l.take (j + 1)) = nodesAll (l.take j) + nodes x := by
  rw [List.take_add_one, h, Option.toList_some, nodesAll_snoc]
theorem nodesAll_le' (l : List S26) (j : Nat) : nodesAll (l.take j) ≤ nodesAll l := by
  induction l generalizing j with
  | nil => simp
  | cons x r ih =>
    cases j with
    | zero => simp [nodesAll]
    | succ j => simp only [List.take_succ_cons, nodesAll]; have := ih j; omega
theorem bytesOf_append (a b : ByteArray) : bytesOf (a ++ b) = bytesOf a ++ bytesOf b := by
  unfold bytesOf
  simp
/-- A key as a value. -/
def keyV (s : ByteArray) : S26 := ⟨4, false, 0, 0, s, [], []⟩
theorem keyV_ok (s : ByteArray) (hs : s.size ≤ 300) : okV (keyV s) :=
  ⟨⟨by decide, by decide, hs, fun _ => rfl, fun _ _ => rfl, fun _ => rfl, fun h => absurd rfl h, fun _ => rfl, fun _ => rfl, fun h => absurd h (by decide), fun h => absurd h (by decide), fun t h => by cases h⟩, trivial⟩
theorem keyV_wf (s : ByteArray) : wfV (keyV s) := ⟨⟨by decide, by decide, by decide, by decide⟩, trivial⟩
theorem keyV_nodes (s : ByteArray) : nodes (keyV s) = 1 := by simp [keyV, nodes, nodesAll]
theorem keyV_kind (s : ByteArray) : (keyV s).f0 = 4 := rfl
theorem keyV_text (s : ByteArray) : (keyV s).f4 = s := rfl
theorem keyV_val (s : ByteArray) : valOf (keyV s) none 0 none 0 = .agg #[.int .i64 4, .bool false, .int .i64 0, .int .u64 0, .string s, .slice none 0 0, .slice none 0 0] := rfl

set_option maxHeartbeats 4000000 in
set_option maxRecDepth 100000 in
theorem widen_k6 (N : Nat) (ih : WdSaid N) (b : Bool) (i f : Int) (s : ByteArray) (keys : List ByteArray) (kids : List S26) (A5 : Option Addr) (c5 : Nat) (A6 : Option Addr) (c6 : Nat) (wb : Nat) (w0 w : World)
    (hN : nodesAll kids ≤ N) (hn : nodesAll kids + 1 ≤ 1000) (hoa : okAll kids) (hwa : wfAll kids)
    (hc5 : keys.length ≤ c5) (hc6 : kids.length ≤ c6) (hk5 : Kd.C Kd.string w0 A5 keys.length keys) (hk6 : Kd.C k26 w0 A6 kids.length kids) (hw : Below w0.heap.size w0 w) (h0b : w0.heap.size ≤ wb) (hwy : WyE w wb) :
    Calls Try.prog 76 #[.agg #[.int .i64 6, .bool b, .int .i64 i, .int .u64 f, .string s, .slice A5 keys.length c5, .slice A6 kids.length c6], .pointer (some ⟨wb, 0, none⟩), .func (.func 77) #[] #[]] w fun e w' =>
      ∃ (so : ByteArray) (hd lb : List Int), e = .returned (.string so) ∧ bytesOf so = hd ++ lb ∧ Szd kids.length 212 213 214 hd ∧ RW false [] kids lb ∧ so.size ≤ 5 + 620 * nodesAll kids ∧ WyE w' wb ∧ w.grownBy w' (some wb) := by
  have hkn := nodesAll_len kids
  have hkn2 : kids.length ≤ 1000 := by omega
  have HK5 := Aside0.mk hk5
  have HK6 := Aside0.mk hk6
  have HW := Aside0.mk hw
  have H0B := Aside0.mk h0b
  have HN := Aside0.mk (And.intro hN hn)
  have HOA := Aside0.mk hoa
  have HWA := Aside0.mk hwa
  have HC5 := Aside0.mk hc5
  have HC6 := Aside0.mk hc6
  have HLT := Aside0.mk (show wb < w.heap.size by obtain ⟨A, n, c, lw, h⟩ := hwy; exact blk_lt h.box)
  clear hk5 hk6 hw h0b hN hn hoa hwa hc5 hc6 hkn
  obtain ⟨A, n, c, lw, hwy⟩ := hwy
  have HWY := Aside0.mk hwy
  have c0 : w.cell? ⟨wb, 0, none⟩ = some (.slice A n c) := blk_cell hwy.box 0
  have f0 : w.frozen? ⟨wb, 0, none⟩ = false := blk_frozen hwy.box 0
  have hlt := blk_lt hwy.box
  have hnc := hwy.le
  clear hwy
  go_enter Try.func76, Try.ntmps76
  go_upto_if 15 with (fail)
  go_cut [7] (fun v7 wc => ∃ way : Int, v7 = .int .u8 way ∧ Aside0 (0 ≤ way ∧ way ≤ 255) ∧ Aside0 (WS w wc wb 6 b i f s A5 keys.length c5 A6 kids.length c6))
  case first =>
    have HBX := Aside0.mk (below_alloc (Below.refl w.heap.size w) (.cells #[.int .i64 6, .bool b, .int .i64 i, .int .u64 f, .string s, .slice A5 keys.length c5, .slice A6 kids.length c6] 26))
    by_cases hz : n = 0
    · subst hz
      go_wp2_with fail
      go_meet
      case rel => exact ⟨0, rfl, ⟨by omega⟩, ⟨heap_alloc_new w _, ⟨A, 0, c, lw, HWY.out.below HBX.out⟩, grown_of_below HBX.out _⟩⟩
    · obtain ⟨a, lt, hlw⟩ : ∃ a lt, lw = a :: lt := by
        cases lw with
        | nil => exact absurd HWY.out.len (by simp; omega)
        | cons a lt => exact ⟨a, lt, rfl⟩
      have HLW := Aside0.mk hlw
      clear hlw
      have har := HWY.out.rng a (by rw [HLW.out]; simp)
      obtain ⟨ad, hA, hc0⟩ := at_enc (show (Kd.int .u8).C w A lw.length lw by have h := HWY.out.row; rw [← HWY.out.len] at h; exact h) (j := 0) (x := a) (by rw [HLW.out]; rfl)
      subst hA
      have hz0 := add_nought ad
      have hc1 : w.cell? ad = some (.int .u8 a) := by rw [hz0] at hc0; exact hc0
      have hgt : decide (0 < n) = true := decide_eq_true (by omega)
      have hn0 : 0 < n := by omega
      have hn1 : (0 : Int) < (n : Int) := by omega
      have hn2 : (1 : Int) ≤ (n : Int) := by omega
      have hn3 : 1 ≤ n := by omega
      clear hc0 hz hz0
      have HAR := Aside0.mk har
      clear har
      have hc2 : (w.alloc (.cells #[.int .i64 6, .bool b, .int .i64 i, .int .u64 f, .string s, .slice A5 keys.length c5, .slice A6 kids.length c6] 26)).drew.cell? ad = some (.int .u8 a) := pw_cell_below (below_drew (below_alloc (Below.refl _ _) _)) hc1
      go_wp2_with fail
      go_region
      all_goals go_wp2_with fail
      all_goals
        go_meet
        case rel =>
          refine ⟨a, rfl, ⟨HAR.out⟩, ⟨?_⟩⟩
          have hw := HWY.out
          rw [HLW.out] at hw
          first | exact ws_drop hlt (wy_drop hw) | (have hcone : c = 1 := (by omega); rw [hcone] at hw; exact ws_drop hlt (wy_drop1 hw))
  case rest =>
    clear hlt hnc c0 f0
    obtain ⟨way, rfl, HWAY, HV⟩ := hcut
    obtain ⟨q0, q1, q2, q3, q4, q5, q6⟩ := box7 HV.out.box
    have HSZ := Aside0.mk (fun wi : World => sized_any kids.length (by omega) way 212 213 214 HWAY.out.1 HWAY.out.2 (by decide) wi)
    clear q1 q2 q3 q4 q5
    go_wp2_with fail
    refine (HSZ.out _).mono ?_
    rintro e w1 ⟨hd, rfl, hsd, hb⟩
    have HV1 := Aside0.mk (HV.out.below hb)
    have HDF := Aside0.mk hsd
    have HDB := Aside0.mk (Szd_bytes hsd (by omega) (by omega) (by omega) (by omega))
    have HDZ := Aside0.mk (show (strOfNums hd).size ≤ 5 by rw [str_size]; exact Szd_len hsd)
    obtain ⟨hc0, hc1, hc2, hc3, hc4, hc5, hc6⟩ := box7 HV1.out.box
    clear hb HV HSZ hsd q0 q6 hc1 hc2 hc3 hc4 hc5
    go_wp2_with fail
    clear hc0 hc6
    go_loopg [8, 149] kids.length (fun gk v8 v149 wr => ∃ (j : Nat) (so : ByteArray), v8 = .string so ∧ v149 = .int .i64 j ∧ so.size ≤ 700000 ∧ Aside0 (∃ lb, bytesOf so = hd ++ lb ∧ RW false [] (kids.take j) lb ∧ so.size ≤ 5 + 620 * nodesAll (kids.take j)) ∧ Aside0 (j ≤ kids.length ∧ gk = kids.length - j) ∧
      Aside0 (WS w wr wb 6 b i f s A5 keys.length c5 A6 kids.length c6))
    case atStart => exact ⟨0, _, rfl, rfl, by have := HDZ.out; omega, ⟨⟨[], by rw [bytesOf_strOfNums HDB.out]; simp, by simpa using RW_nil false, by have := HDZ.out; omega⟩⟩, ⟨by omega⟩, ⟨HV1.out⟩⟩
    case round =>
      clear HV1 HDZ HDB
      obtain ⟨j, so, rfl, rfl, hso, HS, HJ, HV⟩ := hrel
      obtain ⟨hc0, hc1, hc2, hc3, hc4, hc5, hc6⟩ := box7 HV.out.box
      have hszb : w.heap.size < wr.heap.size := blk_lt HV.out.box
      clear hc1 hc2 hc3 hc4 hc6
      by_cases hj : j < kids.length
      · obtain ⟨y, hy⟩ : ∃ y, kids[j]? = some y := ⟨_, List.getElem?_eq_getElem hj⟩
        have hbr : Below w0.heap.size w0 wr := HW.out.grown HV.out.gr HW.out.size (by rintro q hq; injection hq with hq; have := H0B.out; omega)
        obtain ⟨ad, B5, d5, B6, d6, hA, g0, g1, g2, g3, g4, g5, g6, l5, q5, l6, q6⟩ := PAll.at_T26 HK6.out (j : Int) (by omega) (by omega)
        have hry : rd_T26 kids (j : Int) = y := by unfold Go.Proofs.Ytjnookhdiolhgaa.PAll.rd_T26; rw [Int.toNat_natCast, List.getD_eq_getElem?_getD, hy]; rfl
        rw [hry] at g0 g1 g2 g3 g4 g5 g6 l5 q5 l6 q6
        rw [Int.toNat_natCast] at g0 g1 g2 g3 g4 g5 g6
        have h0 := pw_cell_below hbr g0
        have h1 := pw_cell_below hbr g1
        have h2 := pw_cell_below hbr g2
        have h3 := pw_cell_below hbr g3
        have h4 := pw_cell_below hbr g4
        have h5 := pw_cell_below hbr g5
        have h6 := pw_cell_below hbr g6
        subst hA
        have HY := Aside0.mk hy
        have HQ := Aside0.mk (And.intro l5 (And.intro q5 (And.intro l6 q6)))
        have HBR := Aside0.mk hbr
        clear g0 g1 g2 g3 g4 g5 g6 l5 q5 l6 q6 hry hy hbr
        have HNY := Aside0.mk (And.intro (nodes_at HY.out) (And.intro (nodesAll_takeS HY.out) (nodesAll_le' kids (j + 1))))
        have HXY := Aside0.mk (fun (wi : World) (hb : Below w0.heap.size w0 wi) (hwi : WyE wi wb) => ih y B5 d5 B6 d6 wb w0 wi (by have := HNY.out.1; have := HN.out.1; omega) (okAll_at HOA.out HY.out) (wfAll_at HWA.out HY.out) (by have := HNY.out.1; have := HN.out.2; omega) HQ.out.1 HQ.out.2.2.1 HQ.out.2.1 HQ.out.2.2.2 hb H0B.out hwi)
        unfold valOf at HXY
        have HA0 := Aside0.mk (below_alloc (Below.refl wr.heap.size wr) (.cells #[.int .i64 y.f0, .bool y.f1, .int .i64 y.f2, .int .u64 y.f3, .string y.f4, .slice B5 y.f5.length d5, .slice B6 y.f6.length d6] 26))
        go_wp2_with fail
        refine (HXY.out _ (HBR.out.trans (HA0.out.mono HBR.out.size)) (HV.out.ways.below HA0.out)).mono ?_
        rintro e w2 ⟨sy, rfl, hpy, -, hzy, hwy, hg⟩
        have hzy2 : sy.size ≤ 700000 := by have := HNY.out.1; have := HN.out.2; omega
        have HV2 := Aside0.mk (show WS w w2 wb 6 b i f s A5 keys.length c5 (some ad) kids.length c6 from ⟨(hg.block w.heap.size (by rw [World.size_alloc]; omega) (by intro he; injection he with he; have := HLT.out; omega)).trans ((Below.heap_alloc wr _ _ hszb).trans HV.out.box), hwy, grown_trans' HV.out.gr (grown_trans' (World.grownBy_alloc wr _ _) hg)⟩)
        have HPY := Aside0.mk (And.intro hpy hzy)
        clear hpy hzy hwy hg HXY h0 h1 h2 h3 h4 h5 h6 hc0 hc5
        go_wp2_with fail
        go_roundg (kids.length - (j + 1))
        case measure => have := HJ.out.2; omega
        case rel =>
          obtain ⟨lb, hl1, hl2, hl3⟩ := HS.out
          refine ⟨j + 1, _, rfl, by go_num, ?_, ⟨⟨lb ++ bytesOf sy, ?_, ?_, ?_⟩⟩, ⟨by omega⟩, ⟨HV2.out⟩⟩
          · rw [ByteArray.size_append]; have := HPY.out.2; have := HNY.out; have := HN.out.2; omega
          · rw [bytesOf_append, hl1, List.append_assoc]
          · rw [List.take_add_one, HY.out]; exact RW_snoc hl2 HPY.out.1
          · rw [ByteArray.size_append]; have := HPY.out.2; have := HNY.out.2.1; omega
      · have hje : j = kids.length := by have := HJ.out.1; omega
        subst hje
        have HS2 := Aside0.mk HS.out
        clear HS
        go_wp2_with fail
        go_ret
        obtain ⟨lb, hl1, hl2, hl3⟩ := HS2.out
        rw [List.take_length] at hl2 hl3
        exact ⟨_, hd, lb, rfl, hl1, HDF.out, hl2, hl3, HV.out.ways, HV.out.gr⟩

set_option maxHeartbeats 4000000 in
set_option maxRecDepth 100000 in
theorem widen_k7 (N : Nat) (ih : WdSaid N) (b : Bool) (i f : Int) (s : ByteArray) (keys : List ByteArray) (kids : List S26) (A5 : Option Addr) (c5 : Nat) (A6 : Option Addr) (c6 : Nat) (wb : Nat) (w0 w : World)
    (hN : nodesAll kids ≤ N) (hn : nodesAll kids + 1 ≤ 1000) (hoa : okAll kids) (hwa : wfAll kids) (hkl : keys.length = kids.length) (hks : ∀ t ∈ keys, t.size ≤ 300)
    (hc5 : keys.length ≤ c5) (hc6 : kids.length ≤ c6) (hk5 : Kd.C Kd.string w0 A5 keys.length keys) (hk6 : Kd.C k26 w0 A6 kids.length kids) (hw : Below w0.heap.size w0 w) (h0b : w0.heap.size ≤ wb) (hwy : WyE w wb) :
    Calls Try.prog 76 #[.agg #[.int .i64 7, .bool b, .int .i64 i, .int .u64 f, .string s, .slice A5 keys.length c5, .slice A6 kids.length c6], .pointer (some ⟨wb, 0, none⟩), .func (.func 77) #[] #[]] w fun e w' =>
      ∃ (so : ByteArray) (hd lb : List Int), e = .returned (.string so) ∧ bytesOf so = hd ++ lb ∧ Szd kids.length 216 217 218 hd ∧ RW true keys kids lb ∧ so.size ≤ 5 + 620 * nodesAll kids ∧ WyE w' wb ∧ w.grownBy w' (some wb) := by
  have hkn := nodesAll_len kids
  have hkn2 : kids.length ≤ 1000 := by omega
  have HK5 := Aside0.mk hk5
  have HK6 := Aside0.mk hk6
  have HW := Aside0.mk hw
  have H0B := Aside0.mk h0b
  have HN := Aside0.mk (And.intro hN hn)
  have HOA := Aside0.mk hoa
  have HWA := Aside0.mk hwa
  have HC5 := Aside0.mk hc5
  have HC6 := Aside0.mk hc6
  have HLT := Aside0.mk (show wb < w.heap.size by obtain ⟨A, n, c, lw, h⟩ := hwy; exact blk_lt h.box)
  have HKL := Aside0.mk hkl
  have HKS := Aside0.mk hks
  clear hkl hks
  clear hk5 hk6 hw h0b hN hn hoa hwa hc5 hc6 hkn
  obtain ⟨A, n, c, lw, hwy⟩ := hwy
  have HWY := Aside0.mk hwy
  have c0 : w.cell? ⟨wb, 0, none⟩ = some (.slice A n c) := blk_cell hwy.box 0
  have f0 : w.frozen? ⟨wb, 0, none⟩ = false := blk_frozen hwy.box 0
  have hlt := blk_lt hwy.box
  have hnc := hwy.le
  clear hwy
  go_enter Try.func76, Try.ntmps76
  go_upto_if 15 with (fail)
  go_cut [7] (fun v7 wc => ∃ way : Int, v7 = .int .u8 way ∧ Aside0 (0 ≤ way ∧ way ≤ 255) ∧ Aside0 (WS w wc wb 7 b i f s A5 keys.length c5 A6 kids.length c6))
  case first =>
    have HBX := Aside0.mk (below_alloc (Below.refl w.heap.size w) (.cells #[.int .i64 7, .bool b, .int .i64 i, .int .u64 f, .string s, .slice A5 keys.length c5, .slice A6 kids.length c6] 26))
    by_cases hz : n = 0
    · subst hz
      go_wp2_with fail
      go_meet
      case rel => exact ⟨0, rfl, ⟨by omega⟩, ⟨heap_alloc_new w _, ⟨A, 0, c, lw, HWY.out.below HBX.out⟩, grown_of_below HBX.out _⟩⟩
    · obtain ⟨a, lt, hlw⟩ : ∃ a lt, lw = a :: lt := by
        cases lw with
        | nil => exact absurd HWY.out.len (by simp; omega)
        | cons a lt => exact ⟨a, lt, rfl⟩
      have HLW := Aside0.mk hlw
      clear hlw
      have har := HWY.out.rng a (by rw [HLW.out]; simp)
      obtain ⟨ad, hA, hc0⟩ := at_enc (show (Kd.int .u8).C w A lw.length lw by have h := HWY.out.row; rw [← HWY.out.len] at h; exact h) (j := 0) (x := a) (by rw [HLW.out]; rfl)
      subst hA
      have hz0 := add_nought ad
      have hc1 : w.cell? ad = some (.int .u8 a) := by rw [hz0] at hc0; exact hc0
      have hgt : decide (0 < n) = true := decide_eq_true (by omega)
      have hn0 : 0 < n := by omega
      have hn1 : (0 : Int) < (n : Int) := by omega
      have hn2 : (1 : Int) ≤ (n : Int) := by omega
      have hn3 : 1 ≤ n := by omega
      clear hc0 hz hz0
      have HAR := Aside0.mk har
      clear har
      have hc2 : (w.alloc (.cells #[.int .i64 7, .bool b, .int .i64 i, .int .u64 f, .string s, .slice A5 keys.length c5, .slice A6 kids.length c6] 26)).drew.cell? ad = some (.int .u8 a) := pw_cell_below (below_drew (below_alloc (Below.refl _ _) _)) hc1
      go_wp2_with fail
      go_region
      all_goals go_wp2_with fail
      all_goals
        go_meet
        case rel =>
          refine ⟨a, rfl, ⟨HAR.out⟩, ⟨?_⟩⟩
          have hw := HWY.out
          rw [HLW.out] at hw
          first | exact ws_drop hlt (wy_drop hw) | (have hcone : c = 1 := (by omega); rw [hcone] at hw; exact ws_drop hlt (wy_drop1 hw))
  case rest =>
    clear hlt hnc c0 f0
    obtain ⟨way, rfl, HWAY, HV⟩ := hcut
    obtain ⟨q0, q1, q2, q3, q4, q5, q6⟩ := box7 HV.out.box
    have HSZ := Aside0.mk (fun wi : World => sized_any kids.length (by omega) way 216 217 218 HWAY.out.1 HWAY.out.2 (by decide) wi)
    clear q1 q2 q3 q4 q5
    go_wp2_with fail
    refine (HSZ.out _).mono ?_
    rintro e w1 ⟨hd, rfl, hsd, hb⟩
    have HV1 := Aside0.mk (HV.out.below hb)
    have HDF := Aside0.mk hsd
    have HDB := Aside0.mk (Szd_bytes hsd (by omega) (by omega) (by omega) (by omega))
    have HDZ := Aside0.mk (show (strOfNums hd).size ≤ 5 by rw [str_size]; exact Szd_len hsd)
    obtain ⟨hc0, hc1, hc2, hc3, hc4, hc5, hc6⟩ := box7 HV1.out.box
    clear hb HV HSZ hsd q0 q6 hc1 hc2 hc3 hc4 hc5
    go_wp2_with fail
    clear hc0 hc6
    go_loopg [8, 149] kids.length (fun gk v8 v149 wr => ∃ (j : Nat) (so : ByteArray), v8 = .string so ∧ v149 = .int .i64 j ∧ so.size ≤ 700000 ∧ Aside0 (∃ lb, bytesOf so = hd ++ lb ∧ RW true (keys.take j) (kids.take j) lb ∧ so.size ≤ 5 + 620 * nodesAll (kids.take j)) ∧ Aside0 (j ≤ kids.length ∧ gk = kids.length - j) ∧
      Aside0 (WS w wr wb 7 b i f s A5 keys.length c5 A6 kids.length c6))
    case atStart => exact ⟨0, _, rfl, rfl, by have := HDZ.out; omega, ⟨⟨[], by rw [bytesOf_strOfNums HDB.out]; simp, by simpa using RW_nil true, by have := HDZ.out; omega⟩⟩, ⟨by omega⟩, ⟨HV1.out⟩⟩
    case round =>
      clear HV1 HDZ HDB
      obtain ⟨j, so, rfl, rfl, hso, HS, HJ, HV⟩ := hrel
      obtain ⟨hc0, hc1, hc2, hc3, hc4, hc5, hc6⟩ := box7 HV.out.box
      have hszb : w.heap.size < wr.heap.size := blk_lt HV.out.box
      clear hc1 hc2 hc3 hc4 hc6
      by_cases hj : j < kids.length
      · obtain ⟨y, hy⟩ : ∃ y, kids[j]? = some y := ⟨_, List.getElem?_eq_getElem hj⟩
        have hbr : Below w0.heap.size w0 wr := HW.out.grown HV.out.gr HW.out.size (by rintro q hq; injection hq with hq; have := H0B.out; omega)
        obtain ⟨ad, B5, d5, B6, d6, hA, g0, g1, g2, g3, g4, g5, g6, l5, q5, l6, q6⟩ := PAll.at_T26 HK6.out (j : Int) (by omega) (by omega)
        have hry : rd_T26 kids (j : Int) = y := by unfold Go.Proofs.Ytjnookhdiolhgaa.PAll.rd_T26; rw [Int.toNat_natCast, List.getD_eq_getElem?_getD, hy]; rfl
        rw [hry] at g0 g1 g2 g3 g4 g5 g6 l5 q5 l6 q6
        rw [Int.toNat_natCast] at g0 g1 g2 g3 g4 g5 g6
        have h0 := pw_cell_below hbr g0
        have h1 := pw_cell_below hbr g1
        have h2 := pw_cell_below hbr g2
        have h3 := pw_cell_below hbr g3
        have h4 := pw_cell_below hbr g4
        have h5 := pw_cell_below hbr g5
        have h6 := pw_cell_below hbr g6
        subst hA
        have HY := Aside0.mk hy
        have HQ := Aside0.mk (And.intro l5 (And.intro q5 (And.intro l6 q6)))
        have HBR := Aside0.mk hbr
        clear g0 g1 g2 g3 g4 g5 g6 l5 q5 l6 q6 hry hy hbr
        have HNY := Aside0.mk (And.intro (nodes_at HY.out) (And.intro (nodesAll_takeS HY.out) (nodesAll_le' kids (j + 1))))
        have HXY := Aside0.mk (fun (wi : World) (hb : Below w0.heap.size w0 wi) (hwi : WyE wi wb) => ih y B5 d5 B6 d6 wb w0 wi (by have := HNY.out.1; have := HN.out.1; omega) (okAll_at HOA.out HY.out) (wfAll_at HWA.out HY.out) (by have := HNY.out.1; have := HN.out.2; omega) HQ.out.1 HQ.out.2.2.1 HQ.out.2.1 HQ.out.2.2.2 hb H0B.out hwi)
        unfold valOf at HXY
        have HA0 := Aside0.mk (below_alloc (Below.refl wr.heap.size wr) (.cells #[.int .i64 y.f0, .bool y.f1, .int .i64 y.f2, .int .u64 y.f3, .string y.f4, .slice B5 y.f5.length d5, .slice B6 y.f6.length d6] 26))
        obtain ⟨adk, hA5, gk⟩ := Kd.at_string HK5.out (j : Int) (by omega) (by have := HKL.out; omega)
        have gk2 := pw_cell_below HBR.out gk
        rw [Int.toNat_natCast] at gk2
        have hkm : rdOf ByteArray.empty keys (j : Int) = keys.getD j ByteArray.empty := by unfold Go.Proofs.YtjnookhdiolhgaaW.PrintWords.rdOf; rw [Int.toNat_natCast]
        have hjk : j < keys.length := by have := HKL.out; omega
        have hks : (keys.getD j ByteArray.empty).size ≤ 300 := by
          rw [List.getD_eq_getElem?_getD, List.getElem?_eq_getElem hjk]
          exact HKS.out _ (List.getElem_mem hjk)
        rw [hkm] at gk2
        obtain ⟨kk, hkk⟩ : ∃ kk, keys.getD j ByteArray.empty = kk := ⟨_, rfl⟩
        rw [hkk] at gk2 hks
        have HKK := Aside0.mk (show keys[j]? = some kk by rw [← hkk, List.getD_eq_getElem?_getD, List.getElem?_eq_getElem hjk]; rfl)
        have HXK := Aside0.mk (fun (wi : World) (hb : Below w0.heap.size w0 wi) (hwi : WyE wi wb) => ih (keyV kk) none 0 none 0 wb w0 wi (by have := HNY.out.1; have := nodes_pos y; have := HN.out.1; rw [keyV_nodes]; omega) (keyV_ok kk hks) (keyV_wf kk) (by rw [keyV_nodes]; omega) (Nat.le_refl _) (Nat.le_refl _) (C_none _ _) (C_none _ _) hb H0B.out hwi)
        simp only [keyV_val, keyV_nodes, keyV_kind, keyV_text] at HXK
        subst hA5
        clear gk hkm hkk hks
        have gk3 : (wr.alloc (.cells #[.int .i64 y.f0, .bool y.f1, .int .i64 y.f2, .int .u64 y.f3, .string y.f4, .slice B5 y.f5.length d5, .slice B6 y.f6.length d6] 26)).cell? (adk.add j) = some (.string kk) := pw_cell_below HA0.out gk2
        clear gk2
        go_wp2_with fail
        refine (HXK.out _ (HBR.out.trans (HA0.out.mono HBR.out.size)) (HV.out.ways.below HA0.out)).mono ?_
        rintro e w3 ⟨sk, rfl, -, hkw, hzk, hwyk, hgk⟩
        have hzk2 : sk.size ≤ 310 := by omega
        have HKW := Aside0.mk (hkw trivial)
        have HV3 := Aside0.mk (show WS w w3 wb 7 b i f s (some adk) keys.length c5 (some ad) kids.length c6 from ⟨(hgk.block w.heap.size (by rw [World.size_alloc]; omega) (by intro he; injection he with he; have := HLT.out; omega)).trans ((Below.heap_alloc wr _ _ hszb).trans HV.out.box), hwyk, grown_trans' HV.out.gr (grown_trans' (World.grownBy_alloc wr _ _) hgk)⟩)
        obtain ⟨e0, e1, e2, e3, e4, e5, e6⟩ := box7 ((hgk.block wr.heap.size (by rw [World.size_alloc]; omega) (by intro he; injection he with he; have := HLT.out; omega)).trans (heap_alloc_new wr (.cells #[.int .i64 y.f0, .bool y.f1, .int .i64 y.f2, .int .u64 y.f3, .string y.f4, .slice B5 y.f5.length d5, .slice B6 y.f6.length d6] 26)))
        obtain ⟨hc0, hc1, hc2, hc3, hc4, hc5, hc6⟩ := box7 HV3.out.box
        have hsz3 := blk_lt HV3.out.box
        have hsk3 : (so ++ sk).size ≤ 700310 := by rw [ByteArray.size_append]; omega
        clear hkw hzk hwyk hgk HXK gk3 hc1 hc2 hc3 hc4 hc6
        go_wp2_with fail
        refine (HXY.out _ (HW.out.grown HV3.out.gr HW.out.size (by rintro q hq; injection hq with hq; have := H0B.out; omega)) HV3.out.ways).mono ?_
        rintro e w2 ⟨sy, rfl, hpy, -, hzy, hwy, hg⟩
        have hzy2 : sy.size ≤ 700000 := by have := HNY.out.1; have := HN.out.2; omega
        have HV2 := Aside0.mk (show WS w w2 wb 7 b i f s (some adk) keys.length c5 (some ad) kids.length c6 from ⟨(hg.block w.heap.size hsz3 (by intro he; injection he with he; have := HLT.out; omega)).trans HV3.out.box, hwy, grown_trans' HV3.out.gr hg⟩)
        have HPY := Aside0.mk (And.intro hpy hzy)
        clear hpy hzy hwy hg HXY h0 h1 h2 h3 h4 h5 h6 hc0 hc5
        go_wp2_with fail
        go_roundg (kids.length - (j + 1))
        case measure => have := HJ.out.2; omega
        case rel =>
          obtain ⟨lb, hl1, hl2, hl3⟩ := HS.out
          refine ⟨j + 1, _, rfl, by go_num, ?_, ⟨⟨lb ++ (bytesOf sk ++ bytesOf sy), ?_, ?_, ?_⟩⟩, ⟨by omega⟩, ⟨HV2.out⟩⟩
          · simp only [ByteArray.size_append]; have := HPY.out.2; have := HNY.out; have := HN.out.2; omega
          · simp only [bytesOf_append, hl1, List.append_assoc]
          · rw [List.take_add_one, List.take_add_one, HY.out, HKK.out]; exact RW_snocK hl2 HKW.out HPY.out.1
          · simp only [ByteArray.size_append]; have := HPY.out.2; have := HNY.out.2.1; omega
      · have hje : j = kids.length := by have := HJ.out.1; omega
        subst hje
        have HS2 := Aside0.mk HS.out
        clear HS
        go_wp2_with fail
        go_ret
        obtain ⟨lb, hl1, hl2, hl3⟩ := HS2.out
        rw [List.take_length] at hl2 hl3
        exact ⟨_, hd, lb, rfl, hl1, HDF.out, by have h := hl2; rw [← HKL.out, List.take_length] at h; exact h, hl3, HV.out.ways, HV.out.gr⟩

set_option maxHeartbeats 4000000 in
set_option maxRecDepth 100000 in
theorem widen_k8 (N : Nat) (ih : WdSaid N) (b : Bool) (i f : Int) (s : ByteArray) (keys : List ByteArray) (kids : List S26) (A5 : Option Addr) (c5 : Nat) (A6 : Option Addr) (c6 : Nat) (wb : Nat) (w0 w : World)
    (hN : nodesAll kids ≤ N) (hn : nodesAll kids + 1 ≤ 1000) (hoa : okAll kids) (hwa : wfAll kids) (hi : 0 ≤ i ∧ i ≤ 255 ∧ kids.length ≤ 15)
    (hc5 : keys.length ≤ c5) (hc6 : kids.length ≤ c6) (hk5 : Kd.C Kd.string w0 A5 keys.length keys) (hk6 : Kd.C k26 w0 A6 kids.length kids) (hw : Below w0.heap.size w0 w) (h0b : w0.heap.size ≤ wb) (hwy : WyE w wb) :
    Calls Try.prog 76 #[.agg #[.int .i64 8, .bool b, .int .i64 i, .int .u64 f, .string s, .slice A5 keys.length c5, .slice A6 kids.length c6], .pointer (some ⟨wb, 0, none⟩), .func (.func 77) #[] #[]] w fun e w' =>
      ∃ (so : ByteArray) (hd lb : List Int), e = .returned (.string so) ∧ bytesOf so = hd ++ lb ∧ hd = [176 + (kids.length : Int), i] ∧ RW false [] kids lb ∧ so.size ≤ 5 + 620 * nodesAll kids ∧ WyE w' wb ∧ w.grownBy w' (some wb) := by
  have hkn := nodesAll_len kids
  have hkn2 : kids.length ≤ 1000 := by omega
  have HK5 := Aside0.mk hk5
  have HK6 := Aside0.mk hk6
  have HW := Aside0.mk hw
  have H0B := Aside0.mk h0b
  have HN := Aside0.mk (And.intro hN hn)
  have HOA := Aside0.mk hoa
  have HWA := Aside0.mk hwa
  have HC5 := Aside0.mk hc5
  have HC6 := Aside0.mk hc6
  have HLT := Aside0.mk (show wb < w.heap.size by obtain ⟨A, n, c, lw, h⟩ := hwy; exact blk_lt h.box)
  obtain ⟨hi0, hi1, hk15⟩ := hi
  clear hk5 hk6 hw h0b hN hn hoa hwa hc5 hc6 hkn
  obtain ⟨A, n, c, lw, hwy⟩ := hwy
  have HWY := Aside0.mk hwy
  have c0 : w.cell? ⟨wb, 0, none⟩ = some (.slice A n c) := blk_cell hwy.box 0
  have f0 : w.frozen? ⟨wb, 0, none⟩ = false := blk_frozen hwy.box 0
  have hlt := blk_lt hwy.box
  have hnc := hwy.le
  clear hwy
  go_enter Try.func76, Try.ntmps76
  go_upto_if 15 with (fail)
  go_cut [7] (fun v7 wc => ∃ way : Int, v7 = .int .u8 way ∧ Aside0 (0 ≤ way ∧ way ≤ 255) ∧ Aside0 (WS w wc wb 8 b i f s A5 keys.length c5 A6 kids.length c6))
  case first =>
    have HBX := Aside0.mk (below_alloc (Below.refl w.heap.size w) (.cells #[.int .i64 8, .bool b, .int .i64 i, .int .u64 f, .string s, .slice A5 keys.length c5, .slice A6 kids.length c6] 26))
    by_cases hz : n = 0
    · subst hz
      go_wp2_with fail
      go_meet
      case rel => exact ⟨0, rfl, ⟨by omega⟩, ⟨heap_alloc_new w _, ⟨A, 0, c, lw, HWY.out.below HBX.out⟩, grown_of_below HBX.out _⟩⟩
    · obtain ⟨a, lt, hlw⟩ : ∃ a lt, lw = a :: lt := by
        cases lw with
        | nil => exact absurd HWY.out.len (by simp; omega)
        | cons a lt => exact ⟨a, lt, rfl⟩
      have HLW := Aside0.mk hlw
      clear hlw
      have har := HWY.out.rng a (by rw [HLW.out]; simp)
      obtain ⟨ad, hA, hc0⟩ := at_enc (show (Kd.int .u8).C w A lw.length lw by have h := HWY.out.row; rw [← HWY.out.len] at h; exact h) (j := 0) (x := a) (by rw [HLW.out]; rfl)
      subst hA
      have hz0 := add_nought ad
      have hc1 : w.cell? ad = some (.int .u8 a) := by rw [hz0] at hc0; exact hc0
      have hgt : decide (0 < n) = true := decide_eq_true (by omega)
      have hn0 : 0 < n := by omega
      have hn1 : (0 : Int) < (n : Int) := by omega
      have hn2 : (1 : Int) ≤ (n : Int) := by omega
      have hn3 : 1 ≤ n := by omega
      clear hc0 hz hz0
      have HAR := Aside0.mk har
      clear har
      have hc2 : (w.alloc (.cells #[.int .i64 8, .bool b, .int .i64 i, .int .u64 f, .string s, .slice A5 keys.length c5, .slice A6 kids.length c6] 26)).drew.cell? ad = some (.int .u8 a) := pw_cell_below (below_drew (below_alloc (Below.refl _ _) _)) hc1
      go_wp2_with fail
      go_region
      all_goals go_wp2_with fail
      all_goals
        go_meet
        case rel =>
          refine ⟨a, rfl, ⟨HAR.out⟩, ⟨?_⟩⟩
          have hw := HWY.out
          rw [HLW.out] at hw
          first | exact ws_drop hlt (wy_drop hw) | (have hcone : c = 1 := (by omega); rw [hcone] at hw; exact ws_drop hlt (wy_drop1 hw))
  case rest =>
    clear hlt hnc c0 f0
    obtain ⟨way, rfl, HWAY, HV⟩ := hcut
    obtain ⟨q0, q1, q2, q3, q4, q5, q6⟩ := box7 HV.out.box
    clear q1 q3 q4 q5
    go_wp2_with (first | ((with_reducible refine gate_dst (N := 144) rfl ?_); refine Kd.R_lit (Kd.int .u8) _ 5 ?hg (N := 144) ?hd (xs := ([176 + (kids.length : Int), i] : List Int)) (inner := [.int .u8 (176 + (kids.length : Int)), .int .u8 i]) (ok := fun _ => True) (okp := fun _ => True) ?hr ?hp (fun _ hk => hk) trivial (Below.refl _ _) (Nat.le_refl _) (by simp) ?_; (case hd => rfl); (case hg => rfl); (case hr => first | (go_simp; done) | (go_simp; rfl)); (case hp => exact (Reps.one (show Kd.M (Kd.int .u8) _ _ _ (176 + (kids.length : Int)) [.int .u8 (176 + (kids.length : Int))] from rfl) (Reps.one (show Kd.M (Kd.int .u8) _ _ _ i [.int .u8 i] from rfl) (Reps.none _ _)))); intro v1 w1 ho hb hg_ hnew_; clear hg_ hnew_; have hcv := own_string (P := Try.prog) Try.underlying69 Try.underlying5 Try.underlying9 (Kd.own_of_R ho); have HV1 := Aside0.mk (HV.out.below hb); obtain ⟨hc0, hc1, hc2, hc3, hc4, hc5, hc6⟩ := box7 HV1.out.box; clear hb HV ho q0 q2 q6))
    obtain ⟨hd, hhd⟩ : ∃ hd : List Int, hd = [176 + (kids.length : Int), i] := ⟨_, rfl⟩
    have HDF := Aside0.mk hhd
    have HDB := Aside0.mk (show Bytes [176 + (kids.length : Int), i] by intro a ha; simp at ha; omega)
    have HDZ := Aside0.mk (show (strOfNums [176 + (kids.length : Int), i]).size ≤ 5 by rw [str_size]; simp)
    clear hc0 hc1 hc2 hc3 hc4 hc5 hc6 hhd
    go_loopg [8, 149] kids.length (fun gk v8 v149 wr => ∃ (j : Nat) (so : ByteArray), v8 = .string so ∧ v149 = .int .i64 j ∧ so.size ≤ 700000 ∧ Aside0 (∃ lb, bytesOf so = hd ++ lb ∧ RW false [] (kids.take j) lb ∧ so.size ≤ 5 + 620 * nodesAll (kids.take j)) ∧ Aside0 (j ≤ kids.length ∧ gk = kids.length - j) ∧
      Aside0 (WS w wr wb 8 b i f s A5 keys.length c5 A6 kids.length c6))
    case atStart => exact ⟨0, _, rfl, rfl, by have := HDZ.out; omega, ⟨⟨[], by rw [bytesOf_strOfNums HDB.out, HDF.out]; simp, by simpa using RW_nil false, by have := HDZ.out; omega⟩⟩, ⟨by omega⟩, ⟨HV1.out⟩⟩
    case round =>
      clear HV1 HDZ HDB
      obtain ⟨j, so, rfl, rfl, hso, HS, HJ, HV⟩ := hrel
      obtain ⟨hc0, hc1, hc2, hc3, hc4, hc5, hc6⟩ := box7 HV.out.box
      have hszb : w.heap.size < wr.heap.size := blk_lt HV.out.box
      clear hc1 hc2 hc3 hc4 hc6
      by_cases hj : j < kids.length
      · obtain ⟨y, hy⟩ : ∃ y, kids[j]? = some y := ⟨_, List.getElem?_eq_getElem hj⟩
        have hbr : Below w0.heap.size w0 wr := HW.out.grown HV.out.gr HW.out.size (by rintro q hq; injection hq with hq; have := H0B.out; omega)
        obtain ⟨ad, B5, d5, B6, d6, hA, g0, g1, g2, g3, g4, g5, g6, l5, q5, l6, q6⟩ := PAll.at_T26 HK6.out (j : Int) (by omega) (by omega)
        have hry : rd_T26 kids (j : Int) = y := by unfold Go.Proofs.Ytjnookhdiolhgaa.PAll.rd_T26; rw [Int.toNat_natCast, List.getD_eq_getElem?_getD, hy]; rfl
        rw [hry] at g0 g1 g2 g3 g4 g5 g6 l5 q5 l6 q6
        rw [Int.toNat_natCast] at g0 g1 g2 g3 g4 g5 g6
        have h0 := pw_cell_below hbr g0
        have h1 := pw_cell_below hbr g1
        have h2 := pw_cell_below hbr g2
        have h3 := pw_cell_below hbr g3
        have h4 := pw_cell_below hbr g4
        have h5 := pw_cell_below hbr g5
        have h6 := pw_cell_below hbr g6
        subst hA
        have HY := Aside0.mk hy
        have HQ := Aside0.mk (And.intro l5 (And.intro q5 (And.intro l6 q6)))
        have HBR := Aside0.mk hbr
        clear g0 g1 g2 g3 g4 g5 g6 l5 q5 l6 q6 hry hy hbr
        have HNY := Aside0.mk (And.intro (nodes_at HY.out) (And.intro (nodesAll_takeS HY.out) (nodesAll_le' kids (j + 1))))
        have HXY := Aside0.mk (fun (wi : World) (hb : Below w0.heap.size w0 wi) (hwi : WyE wi wb) => ih y B5 d5 B6 d6 wb w0 wi (by have := HNY.out.1; have := HN.out.1; omega) (okAll_at HOA.out HY.out) (wfAll_at HWA.out HY.out) (by have := HNY.out.1; have := HN.out.2; omega) HQ.out.1 HQ.out.2.2.1 HQ.out.2.1 HQ.out.2.2.2 hb H0B.out hwi)
        unfold valOf at HXY
        have HA0 := Aside0.mk (below_alloc (Below.refl wr.heap.size wr) (.cells #[.int .i64 y.f0, .bool y.f1, .int .i64 y.f2, .int .u64 y.f3, .string y.f4, .slice B5 y.f5.length d5, .slice B6 y.f6.length d6] 26))
        go_wp2_with fail
        refine (HXY.out _ (HBR.out.trans (HA0.out.mono HBR.out.size)) (HV.out.ways.below HA0.out)).mono ?_
        rintro e w2 ⟨sy, rfl, hpy, -, hzy, hwy, hg⟩
        have hzy2 : sy.size ≤ 700000 := by have := HNY.out.1; have := HN.out.2; omega
        have HV2 := Aside0.mk (show WS w w2 wb 8 b i f s A5 keys.length c5 (some ad) kids.length c6 from ⟨(hg.block w.heap.size (by rw [World.size_alloc]; omega) (by intro he; injection he with he; have := HLT.out; omega)).trans ((Below.heap_alloc wr _ _ hszb).trans HV.out.box), hwy, grown_trans' HV.out.gr (grown_trans' (World.grownBy_alloc wr _ _) hg)⟩)
        have HPY := Aside0.mk (And.intro hpy hzy)
        clear hpy hzy hwy hg HXY h0 h1 h2 h3 h4 h5 h6 hc0 hc5
        go_wp2_with fail
        go_roundg (kids.length - (j + 1))
        case measure => have := HJ.out.2; omega
        case rel =>
          obtain ⟨lb, hl1, hl2, hl3⟩ := HS.out
          refine ⟨j + 1, _, rfl, by go_num, ?_, ⟨⟨lb ++ bytesOf sy, ?_, ?_, ?_⟩⟩, ⟨by omega⟩, ⟨HV2.out⟩⟩
          · rw [ByteArray.size_append]; have := HPY.out.2; have := HNY.out; have := HN.out.2; omega
          · rw [bytesOf_append, hl1, List.append_assoc]
          · rw [List.take_add_one, HY.out]; exact RW_snoc hl2 HPY.out.1
          · rw [ByteArray.size_append]; have := HPY.out.2; have := HNY.out.2.1; omega
      · have hje : j = kids.length := by have := HJ.out.1; omega
        subst hje
        have HS2 := Aside0.mk HS.out
        clear HS
        go_wp2_with fail
        go_ret
        obtain ⟨lb, hl1, hl2, hl3⟩ := HS2.out
        rw [List.take_length] at hl2 hl3
        exact ⟨_, hd, lb, rfl, hl1, HDF.out, hl2, hl3, HV.out.ways, HV.out.gr⟩
end Go.Proofs.Ytjnookhdiolhgaa
