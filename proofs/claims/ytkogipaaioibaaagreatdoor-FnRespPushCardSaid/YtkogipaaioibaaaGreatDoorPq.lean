/- Pushes: skipDigitsThenCRLF, util.Atoi, util.BytesToString. (seat r3.ZD) Pushes: parsePushNotificationName. (seat r3.ZD) impl.PushName. (seat r3.ZD) FnRespPush: the walk. (seat r3.ZD) -/
import Derived.Test.YtkogipaaioibaaaGreatDoorWa
import Derived.Test.YtkogipaaioibaaaGreatDoorWd
import Derived.Test.YtkogipaaioibaaaGreatDoorShelf
import Derived.Deep.DeepCutAuto
import Derived.Deep.LoopGhost
import Derived.Test.YtkogipaaioibaaaGreatDoorAlive
import Derived.Test.YtkogipaaioibaaaGreatDoorWc
import Derived.Test.YtkogipaaioibaaaGreatDoorLq
namespace Go.Proofs.YtkogipaaioibaaaGreatDoor
set_option linter.unusedVariables false
set_option linter.unusedSimpArgs false
open Go.RowKit Go.Proofs.YtkogipaaioibaaaGreatDoorW.PrintWords
open PAll (info5)
theorem at0 {w : World} {src n : Nat} {xs : List Int} (h : ReadsInt w .u8 (some ⟨src, 0, none⟩) n xs) (j : Nat) (hj : j < n) : w.cell? ⟨src, j, none⟩ = some (.int .u8 (xs.getD j 0)) := by
  obtain ⟨ad, he, hc⟩ := h.2.2 (by omega)
  injection he with he
  subst he
  have h1 := hc j hj
  rwa [show (⟨src, 0, none⟩ : Addr).add j = ⟨src, j, none⟩ by unfold Addr.add; split <;> simp_all] at h1
set_option maxHeartbeats 4000000 in
set_option maxRecDepth 100000 in
theorem skip_any (src m c i p : Nat) (ys : List Int) (w : World) (hr : ReadsInt w .u8 (some ⟨src, 0, none⟩) m ys) (hmc : m ≤ c) (hm : m ≤ 100000) (hip : i ≤ p) (hp : p + 1 < m)
    (hd : ∀ j, i ≤ j → j < p → 48 ≤ ys.getD j 0 ∧ ys.getD j 0 ≤ 57) (h13 : ys.getD p 0 = 13) (h10 : ys.getD (p + 1) 0 = 10) :
    Calls Tryz.prog 63 #[.slice (some ⟨src, 0, none⟩) m c, .int .i64 i] w fun e w' => e = .returned (.tuple #[.int .i64 ((p + 2 : Nat) : Int), .bool true, .nilIface]) ∧ w' = w := by
  have HR := Lib.hid hr
  have HD := Lib.hid hd
  have HB := Lib.hid (And.intro h13 h10)
  have hmi : (m : Int) ≤ 100000 := by omega
  clear hr hd h13 h10
  go_enter Tryz.func63, Tryz.ntmps63
  go_wp2_with fail
  go_loopg [7] (p - i) (fun gk v7 wk => wk = w ∧ ∃ j : Nat, v7 = .int .i64 j ∧ Aside0 (i ≤ j ∧ j ≤ p ∧ gk = p - j))
  case atStart => exact ⟨rfl, i, rfl, ⟨by omega⟩⟩
  case round =>
    obtain ⟨rfl, j, rfl, HJ⟩ := hrel
    obtain ⟨hj0, hj1, hj2⟩ := HJ.out
    have hjm : (j : Int) < (m : Int) - 1 := by omega
    have hjm2 : (j : Int) < (m : Int) := by omega
    have hjm3 : (j : Int) + 1 < (m : Int) := by omega
    have hjm4 : j < m := by omega
    have hjm5 : j + 1 < m := by omega
    obtain ⟨x, hx⟩ : ∃ x, ys.getD j 0 = x := ⟨_, rfl⟩
    obtain ⟨y, hy⟩ : ∃ y, ys.getD (j + 1) 0 = y := ⟨_, rfl⟩
    have c0 := at0 HR.out j hjm4
    have c1 := at0 HR.out (j + 1) hjm5
    rw [hx] at c0
    rw [hy] at c1
    by_cases hjp : j = p
    · subst hjp
      have hx13 : x = 13 := by rw [← hx]; exact HB.out.1
      have hy10 : y = 10 := by rw [← hy]; exact HB.out.2
      subst hx13 hy10
      clear hx hy
      go_wp2_with fail
      go_ret3
      exact ⟨rfl, rfl⟩
    · have HJP := Lib.hid hjp
      have hxd : 48 ≤ x ∧ x ≤ 57 := by rw [← hx]; exact HD.out j hj0 (by omega)
      have hx1 : ¬ x = 13 := by omega
      have hx2 : ¬ x < 48 := by omega
      have hx3 : ¬ 57 < x := by omega
      clear hx hy hjp
      go_wp2_with fail
      have hjp := HJP.out
      go_roundg (p - (j + 1))
      case measure => omega
      case rel => exact ⟨rfl, j + 1, by go_num, ⟨by omega⟩⟩
theorem text_any (src o m c : Nat) (ys : List Int) (w : World) (hr : ReadsInt w .u8 (some ⟨src, o, none⟩) m ys) :
    Calls Tryz.prog 64 #[.slice (some ⟨src, o, none⟩) m c] w fun e w' => e = .returned (.string (strOfNums ys)) ∧ w' = w := by
  have hcv := string_of_reads (P := Tryz.prog) (w := w) (c := c) Tryz.underlying42 Tryz.underlying5 Tryz.underlying9 hr
  clear hr
  go_enter Tryz.func64, Tryz.ntmps64
  go_wp2_with fail
  go_ret
  exact ⟨rfl, rfl⟩
theorem strOfNums_dec (n : Nat) : strOfNums (decL n) = dec n := by
  unfold strOfNums decL dec
  congr 1
  simp only [List.map_map]
  congr 1
  have h : ∀ l : List UInt8, List.map ((fun n : Int => UInt8.ofNat n.toNat) ∘ fun b : UInt8 => (b.toNat : Int)) l = l := by
    intro l
    induction l with
    | nil => rfl
    | cons a l ih => rw [List.map_cons, ih]; simp
  exact h _
set_option maxHeartbeats 2000000 in
set_option maxRecDepth 100000 in
theorem atoi_any (src o c n : Nat) (w : World) (hr : ReadsInt w .u8 (some ⟨src, o, none⟩) (decL n).length (decL n)) (hn : n ≤ 1000) :
    Calls Tryz.prog 48 #[.slice (some ⟨src, o, none⟩) (decL n).length c] w fun e w' => e = .returned (.tuple #[.int .i64 (n : Int), .nilIface]) ∧ Below w.heap.size w w' := by
  have hl := decL_le n hn
  have HT := Lib.hid (text_any src o (decL n).length c (decL n) w hr)
  have HA := Lib.hid (Tryz.strconv_Atoi (dec n) (n : Int) (by rw [← bytesOf_length, bytesOf_dec]; omega) (dec_atoi n) w)
  clear hr
  go_enter Tryz.func48, Tryz.ntmps48
  go_wp2_with fail
  refine HT.out.mono ?_
  rintro e w1 ⟨rfl, rfl⟩
  rw [strOfNums_dec]
  go_wp2_with fail
  refine HA.out.mono ?_
  rintro e w2 ⟨rfl, t, rfl⟩
  go_wp2_with fail
  go_ret2
  exact ⟨rfl, bytes_below (Below.refl _ _) (Nat.le_refl _) 5 t⟩
end Go.Proofs.YtkogipaaioibaaaGreatDoor

namespace Go.Proofs.YtkogipaaioibaaaGreatDoor
set_option linter.unusedVariables false
set_option linter.unusedSimpArgs false
open Go.RowKit Go.Proofs.YtkogipaaioibaaaGreatDoorW.PrintWords
open PAll (info5)
theorem reads_sub {w : World} {b n a k : Nat} {xs : List Int} (h : ReadsInt w .u8 (some ⟨b, 0, none⟩) n xs) (hk : a + k ≤ n) : ReadsInt w .u8 (some ⟨b, a, none⟩) k ((xs.drop a).take k) := by
  refine ⟨by rw [List.length_take, List.length_drop, h.1]; omega, by have := h.2.1; omega, fun hp => ⟨_, rfl, fun j hj => ?_⟩⟩
  have h1 := at0 h (a + j) (by omega)
  rw [show (⟨b, a, none⟩ : Addr).add j = ⟨b, a + j, none⟩ by unfold Addr.add; split <;> simp_all]
  rw [h1]
  simp [List.getD_eq_getElem?_getD, List.getElem?_take, hj, List.getElem?_drop]
/-- The beginning of a push. -/
def pre (name : ByteArray) : List Int := [62, 50, 13, 10, 36] ++ (decL name.size ++ ([13, 10] ++ bytesOf name))
theorem pre_len (name : ByteArray) : (pre name).length = 7 + (decL name.size).length + name.size := by
  unfold pre
  simp [bytesOf_length]
  omega
structure PreAt (ys : List Int) (name : ByteArray) (q : Nat) : Prop where
  q5 : q = 5 + (decL name.size).length
  a0 : ys.getD 0 0 = 62
  a1 : ys.getD 1 0 = 50
  a2 : ys.getD 2 0 = 13
  a3 : ys.getD 3 0 = 10
  a4 : ys.getD 4 0 = 36
  dg : (ys.drop 5).take (q - 5) = decL name.size
  dd : ∀ j, 5 ≤ j → j < q → 48 ≤ ys.getD j 0 ∧ ys.getD j 0 ≤ 57
  b0 : ys.getD q 0 = 13
  b1 : ys.getD (q + 1) 0 = 10
  nm : (ys.drop (q + 2)).take name.size = bytesOf name
  ln : q + 2 + name.size ≤ ys.length
theorem preAt (name : ByteArray) (rest : List Int) : PreAt (pre name ++ rest) name (5 + (decL name.size).length) := by
  have hb := bytesOf_length name
  obtain ⟨D, hD⟩ : ∃ D, decL name.size = D := ⟨_, rfl⟩
  have hdig : ∀ x ∈ D, 48 ≤ x ∧ x ≤ 57 := fun x hx => decL_dig name.size x (hD ▸ hx)
  have e : pre name ++ rest = 62 :: 50 :: 13 :: 10 :: 36 :: (D ++ (13 :: 10 :: (bytesOf name ++ rest))) := by unfold pre; rw [hD]; simp
  rw [e, hD]
  obtain ⟨n, hn⟩ : ∃ n, D.length = n := ⟨_, rfl⟩
  have e5 : (62 :: 50 :: 13 :: 10 :: 36 :: (D ++ (13 :: 10 :: (bytesOf name ++ rest)))).drop 5 = D ++ (13 :: 10 :: (bytesOf name ++ rest)) := rfl
  have g5 : ∀ j, (62 :: 50 :: 13 :: 10 :: 36 :: (D ++ (13 :: 10 :: (bytesOf name ++ rest)))).getD (5 + j) 0 = (D ++ (13 :: 10 :: (bytesOf name ++ rest))).getD j 0 := fun j => by
    rw [List.getD_eq_getElem?_getD, List.getD_eq_getElem?_getD, Nat.add_comm 5 j]
    rfl
  refine ⟨by rw [hD], rfl, rfl, rfl, rfl, rfl, ?_, ?_, ?_, ?_, ?_, ?_⟩
  · rw [e5, Nat.add_sub_cancel_left, hD, List.take_left']
    rfl
  · intro j h1 h2
    obtain ⟨i, rfl⟩ : ∃ i, j = 5 + i := ⟨j - 5, by omega⟩
    rw [g5]
    have hi : i < D.length := by omega
    rw [List.getD_eq_getElem?_getD, List.getElem?_append_left hi, List.getElem?_eq_getElem hi]
    exact hdig _ (List.getElem_mem _)
  · rw [g5, List.getD_eq_getElem?_getD, List.getElem?_append_right (Nat.le_refl _), Nat.sub_self]
    rfl
  · rw [Nat.add_assoc, g5, List.getD_eq_getElem?_getD, List.getElem?_append_right (by omega), Nat.add_sub_cancel_left]
    rfl
  · rw [show 5 + D.length + 2 = 5 + (D.length + 2) by omega, ← List.drop_drop, e5, ← List.drop_drop, List.drop_left']
    · show List.take name.size (bytesOf name ++ rest) = _
      rw [List.take_left']
      exact hb
    · rfl
  · simp [hb]
    omega
set_option maxHeartbeats 4000000 in
set_option maxRecDepth 100000 in
theorem parse_any (src m c q : Nat) (name : ByteArray) (ys : List Int) (w : World) (hr : ReadsInt w .u8 (some ⟨src, 0, none⟩) m ys) (hmc : m ≤ c) (hm : m ≤ 100000) (h1 : 1 ≤ name.size) (h2 : name.size ≤ 60) (hp : PreAt ys name q) :
    Calls Tryz.prog 37 #[.slice (some ⟨src, 0, none⟩) m c] w fun e w' => e = .returned (.tuple #[.string name, .bool true, .nilIface]) ∧ Below w.heap.size w w' := by
  have hl := decL_le name.size (by omega)
  have hyl := hr.1
  have hq5 := hp.q5
  have hln := hp.ln
  have hone : ∀ j, 1 ≤ j → j < 2 → 48 ≤ ys.getD j 0 ∧ ys.getD j 0 ≤ 57 := fun j h1 h2 => by
    have e : j = 1 := by omega
    rw [e, hp.a1]
    omega
  have HS1 := Lib.hid (skip_any src m c 1 2 ys w hr hmc hm (by omega) (by omega) hone hp.a2 hp.a3)
  have HS2 := Lib.hid (skip_any src m c 5 q ys w hr hmc hm (by omega) (by omega) hp.dd hp.b0 hp.b1)
  have hsub := reads_sub (a := 5) (k := q - 5) hr (by omega)
  have hsn := reads_sub (a := q + 2) (k := name.size) hr (by omega)
  rw [hp.dg] at hsub
  rw [hp.nm] at hsn
  have hdl : (decL name.size).length = q - 5 := by omega
  have hat := fun c' => atoi_any src 5 c' name.size w (by rw [hdl]; exact hsub) (by omega)
  rw [hdl] at hat
  have HAT := Lib.hid hat
  have HTX := Lib.hid (fun W (hb : Below w.heap.size w W) c' => text_any src (q + 2) name.size c' (bytesOf name) W (hsn.below hb))
  have c0 := at0 hr 0 (by omega)
  have c4 := at0 hr 4 (by omega)
  rw [hp.a0] at c0
  rw [hp.a4] at c4
  have f0 : (3 : Int) ≤ (m : Int) := by omega
  have f1 : (4 : Int) < (m : Int) := by omega
  have f2 : (q : Int) + 2 + (name.size : Int) ≤ (m : Int) := by omega
  have f3 : (6 : Int) ≤ (q : Int) := by omega
  have f4 : q + 2 + name.size ≤ c := by omega
  have f5 : (1 : Int) ≤ (name.size : Int) := by omega
  have f6 : 5 ≤ q := by omega
  have hsb : strOfNums (bytesOf name) = name := by
    unfold strOfNums bytesOf
    have h : ∀ l : List UInt8, List.map ((fun n : Int => UInt8.ofNat n.toNat) ∘ fun b : UInt8 => (b.toNat : Int)) l = l := by
      intro l
      induction l with
      | nil => rfl
      | cons a l ih => rw [List.map_cons, ih]; simp
    rw [List.map_map, h]
  have HSB := Lib.hid hsb
  clear hone hat hsub hsn hr hp hdl hq5 hln hsb hl hyl
  go_enter Tryz.func37, Tryz.ntmps37
  go_wp2_with fail
  refine HS1.out.mono ?_
  rintro e w1 ⟨rfl, rfl⟩
  go_wp2_with fail
  refine HS2.out.mono ?_
  rintro e w2 ⟨rfl, rfl⟩
  go_wp2_with fail
  refine (HAT.out _).mono ?_
  rintro e w3 ⟨rfl, hb⟩
  have HB := Lib.hid hb
  clear hb
  go_wp2_with fail
  refine (HTX.out _ HB.out _).mono ?_
  rintro e w4 ⟨rfl, rfl⟩
  rw [HSB.out]
  go_wp2_with fail
  go_ret3
  exact ⟨rfl, HB.out⟩
end Go.Proofs.YtkogipaaioibaaaGreatDoor

namespace Go.Proofs.YtkogipaaioibaaaGreatDoor
set_option linter.unusedVariables false
set_option linter.unusedSimpArgs false
open Go.RowKit Go.Proofs.YtkogipaaioibaaaGreatDoorW.PrintWords Go.Proofs.YtkogipaaioibaaaGreatDoorW.PrintLast Go.Proofs.YtkogipaaioibaaaGreatDoorW.PrintMore
theorem pre_take (name : ByteArray) (rest : List Int) (k : Nat) (hk : (pre name).length ≤ k) : (pre name ++ rest).take k = pre name ++ rest.take (k - (pre name).length) := by
  rw [List.take_append]
  rw [List.take_of_length_le hk]
/-- What a reader holds, as a row of its first bytes. -/
theorem RB.first {w : World} {rb src c : Nat} {xs : List Int} {bf : Int} (h : RB w rb src 0 c xs bf) (k : Nat) (hk : k ≤ xs.length) : ReadsInt w .u8 (some ⟨src, 0, none⟩) k (xs.take k) := by
  have := reads_sub (a := 0) (k := k) h.row (by omega)
  simpa using this
theorem buffered_any {rb src off c : Nat} {xs : List Int} {bf : Int} (w : World) (h : RB w rb src off c xs bf) :
    Calls Tryz.prog 30 #[.pointer (some ⟨rb, 0, none⟩)] w fun e w' => e = .returned (.int .i64 bf) ∧ w' = w := by
  have c1 : w.cell? ⟨rb, 1, none⟩ = some (.int .i64 bf) := blk_cell h.box 1
  clear h
  go_enter Tryz.func30, Tryz.ntmps30
  go_wp2_with fail
  go_ret
  exact ⟨rfl, rfl⟩
set_option maxHeartbeats 4000000 in
set_option maxRecDepth 100000 in
theorem peekName_any {pr rb src c : Nat} {xs rest : List Int} (name : ByteArray) (hx : xs = pre name ++ rest) (h1 : 1 ≤ name.size) (h2 : name.size ≤ 60) (w : World) (hp : w.heap[pr]? = some (.cells #[.pointer (some ⟨rb, 0, none⟩)] 63 (0, 0))) (h : RB w rb src 0 c xs 0) (hz : xs.length ≤ 32768) (hpr : pr ≠ rb) :
    Calls Tryz.prog 23 #[.pointer (some ⟨pr, 0, none⟩)] w fun e w' => e = .returned (.tuple #[.string name, .nilIface]) ∧ w.grownBy w' (some rb) := by
  have hl := decL_le name.size (by omega)
  have hpl := pre_len name
  have hxl : xs.length = 7 + (decL name.size).length + name.size + rest.length := by rw [hx, List.length_append, hpl]
  obtain ⟨n, hn⟩ : ∃ n : Nat, n = if 4096 < xs.length then 4096 else xs.length := ⟨_, rfl⟩
  have hn1 : n ≤ xs.length := by rw [hn]; split <;> omega
  have hn2 : n ≤ 4096 := by rw [hn]; split <;> omega
  have hn3 : (pre name).length ≤ n := by rw [hn, hpl]; split <;> omega
  have htk : xs.take n = pre name ++ rest.take (n - (pre name).length) := by rw [hx]; exact pre_take name rest n hn3
  have p0 : w.cell? ⟨pr, 0, none⟩ = some (.pointer (some ⟨rb, 0, none⟩)) := blk_cell hp 0
  have HP1 := Lib.hid (peek_any 1 w h (by omega) hz)
  have HPE := Lib.hid (fun bf W (h : RB W rb src 0 c xs bf) => peek_any n W h hn1 hz)
  have HPA := Lib.hid (fun W bf (h : RB W rb src 0 c xs bf) => parse_any src n c (5 + (decL name.size).length) name (xs.take n) W (h.first n hn1) (by have := h.le; omega) (by omega) h1 h2 (by rw [htk]; exact preAt name _))
  have HX := Lib.hid (And.intro hx (And.intro hpr hp))
  obtain ⟨N, hN⟩ : ∃ N : Int, N = xs.length := ⟨_, rfl⟩
  have hNn : (n : Int) = if 4096 < N then 4096 else N := by rw [hn, hN]; split <;> split <;> omega
  have HN := Lib.hid hN
  have HNN := Lib.hid hNn
  clear h hz hp hx hl hpl hxl hn hn1 hn2 hn3 htk h1 h2 hN hNn hpr
  go_enter Tryz.func23, Tryz.ntmps23
  go_wp2_with fail
  refine HP1.out.mono ?_
  rintro e w1 ⟨bf1, rfl, hr1, hk1, hg1, hbf⟩
  have hbf1 : bf1 = N := by have := HN.out; omega
  subst hbf1
  have c0 : w1.cell? ⟨src, 0, none⟩ = some (.int .u8 62) := by
    have := hr1.at 0 (by rw [HX.out.1]; simp [pre])
    rw [HX.out.1] at this
    exact this
  have c1 : w1.cell? ⟨rb, 1, none⟩ = some (.int .i64 bf1) := blk_cell hr1.box 1
  have hp1 : w1.heap[pr]? = _ := (hg1.block pr (blk_lt HX.out.2.2) (by intro e; injection e with e; exact HX.out.2.1 e)).trans HX.out.2.2
  have p1 : w1.cell? ⟨pr, 0, none⟩ = some (.pointer (some ⟨rb, 0, none⟩)) := blk_cell hp1 0
  have HR1 := Lib.hid hr1
  have HG1 := Lib.hid hg1
  have HP := Lib.hid hp1
  clear hr1 hg1 hp1 HP1 p0 hk1
  go_wp2_with fail
  refine wp_loop_rounds 1 ?_
  rw [rounds_succ]
  go_wp2_with fail
  refine (buffered_any _ HR1.out).mono ?_
  rintro e w2 ⟨rfl, rfl⟩
  have hcase : (bf1 ≤ 4096 ∧ (n : Int) = bf1) ∨ (4096 < bf1 ∧ (n : Int) = 4096) := by
    have h9 := HNN.out
    split at h9 <;> omega
  have hpe := HPE.out bf1 _ HR1.out
  rcases hcase with ⟨hb, hn⟩ | ⟨hb, hn⟩
  all_goals
    rw [hn] at hpe
    have HPX := Lib.hid hpe
    clear hpe hn hbf
    go_wp2_with fail
    refine HPX.out.mono ?_
    rintro e w3 ⟨bf2, rfl, hr2, hk2, hg2, -⟩
    have HPY := Lib.hid (HPA.out _ _ hr2)
    have hbb := hr2
    have HG2 := Lib.hid (grown_trans' HG1.out hg2)
    clear hr2 hk2 hg2 hbb c0 c1
    go_wp2_with fail
    refine HPY.out.mono ?_
    rintro e w4 ⟨rfl, hb4⟩
    have HG4 := Lib.hid (grown_trans' HG2.out (grown_below' hb4 _))
    clear hb4
    go_wp2_with fail
    go_ret2
    exact ⟨rfl, HG4.out⟩
theorem idleP (a b : Value) (w : World) :
    CallsD Tryz.prog 22 #[a, b] .returning w fun e u' w' => e = .returned (.tuple #[]) ∧ u' = .returning ∧ w' = w := by
  refine callsD_of_wpS Tryz.func22 rfl fun c₀ cs hu => ?_
  apply wpS_seq
  apply wpS_region
  simp [wpOpsS, go_sem, recoverD, hu, Tryz.ntmps22, Exit.thenS]
  refine wpS_cond (t := false) (by simp [Act.eval, Array.replicate]) ?_
  simp only [Bool.false_eq_true, if_false]
  refine wpS_of_wp (wp_skip ?_)
  cases c₀
  simp_all [bodyPostS, results, Tryz.results22]
theorem resP (tmps : Array Value) (w : World) (g g1 : Nat) (x : ByteArray) (y : Int) (h2 : tmps.getD 2 undef = .pointer (some ⟨g, 0, none⟩)) (h3 : tmps.getD 3 undef = .pointer (some ⟨g1, 0, none⟩))
    (hg : w.cell? ⟨g, 0, none⟩ = some (.string x)) (hx : w.cell? ⟨g1, 0, none⟩ = some (.int .i64 y)) :
    (results Tryz.f13 tmps).run Tryz.prog w = .ok (.tuple #[.string x, .int .i64 y]) w := by
  have h2' : tmps[2]?.getD undef = .pointer (some ⟨g, 0, none⟩) := by simpa using h2
  have h3' : tmps[3]?.getD undef = .pointer (some ⟨g1, 0, none⟩) := by simpa using h3
  simp [results, Tryz.results13, h2', h3', asAddr, go_sem, hg, hx]
/-- The world behind PushName's two results' cells. -/
def pW (w : World) : World := (w.alloc (.cells #[.string ⟨#[]⟩] 9)).alloc (.cells #[.int .i64 0] 3)
set_option maxHeartbeats 4000000 in
set_option maxRecDepth 100000 in
theorem pushName_any (s x : ByteArray) (r : List Int) (hx : bytesOf s = pre x ++ r) (h1 : 1 ≤ x.size) (h2 : x.size ≤ 60) (hs : s.size ≤ 32768) (w : World) :
    Calls Tryz.prog 13 #[.string s] w fun e w' => e = .returned (.tuple #[.string x, .int .i64 0]) ∧ Below w.heap.size w w' := by
  have hbs := fun w => print_bytes (P := Tryz.prog) 9 42 5 Tryz.underlying9 Tryz.underlying42 Tryz.underlying5 s w
  have hks : (pW w).heap.size = w.heap.size + 1 + 1 := by unfold pW; rw [World.size_alloc, World.size_alloc]
  have hf := (peekName_any x hx h1 h2 (rdW (pW w) s) (rdW_pr _ s) (rdW_rb _ s (by omega)) (by rw [bytesOf_length]; exact hs) (by omega))
  have hnr := newReader_at (pW w) s
  have hbw := rdW_below (pW w) s
  have q0 : (pW w).heap[w.heap.size]? = some (.cells #[.string ⟨#[]⟩] 9 (0, 0)) := (Below.heap_alloc _ _ _ (by rw [World.size_alloc]; omega)).trans (heap_alloc_new w _)
  have q1 : (pW w).heap[w.heap.size + 1]? = some (.cells #[.int .i64 0] 3 (0, 0)) := by
    have h := heap_alloc_new (w.alloc (.cells #[.string ⟨#[]⟩] 9)) (.cells #[.int .i64 0] 3)
    rw [World.size_alloc] at h
    exact h
  rw [hks] at hnr hf hbw
  have HKS := Lib.hid hks
  have HNR := Lib.hid hnr
  have HF := Lib.hid hf
  have HBW := Lib.hid hbw
  have HQ := Lib.hid (And.intro q0 q1)
  clear hx hs hks h1 h2 q0 q1 hnr hf hbw
  go_enter_defers Tryz.func13, Tryz.ntmps13
  go_wp2_with fail
  refine HNR.out.mono ?_
  rintro e w1 ⟨rfl, rfl⟩
  clear hbs
  go_wp2_with fail
  refine HF.out.mono ?_
  rintro e w2 ⟨rfl, hg⟩
  have hks := HKS.out
  have y0 : w2.heap[w.heap.size]? = some (.cells #[.string ⟨#[]⟩] 9 (0, 0)) := (hg.block _ (by have := HBW.out.size; omega) (by intro e; injection e with e; omega)).trans ((HBW.out.block _ (by omega)).trans HQ.out.1)
  have y1 : w2.heap[w.heap.size + 1]? = some (.cells #[.int .i64 0] 3 (0, 0)) := (hg.block _ (by have := HBW.out.size; omega) (by intro e; injection e with e; omega)).trans ((HBW.out.block _ (by omega)).trans HQ.out.2)
  have c0 : w2.cell? ⟨w.heap.size, 0, none⟩ = some (.string ⟨#[]⟩) := blk_cell y0 0
  have c1 : w2.cell? ⟨w.heap.size + 1, 0, none⟩ = some (.int .i64 0) := blk_cell y1 0
  have f0 := blk_frozen y0 0
  have f1 := blk_frozen y1 0
  have l0 := blk_lt y0
  have l1 := blk_lt y1
  have hb0 : Below w.heap.size w (pW w) := below_alloc (below_alloc (Below.refl _ _) _) _
  have hb1 := hb0.trans ((HBW.out).mono (by omega))
  have hb2 := hb1.grown hg hb1.size (by rintro q hq; injection hq with hq; omega)
  have HEND : Hid (∀ (a : ByteArray) (b : Int), (((w2.setCell ⟨w.heap.size, 0, none⟩ (.string a)).setCell ⟨w.heap.size, 0, none⟩ (.string a)).setCell ⟨w.heap.size + 1, 0, none⟩ (.int .i64 b)).cell? ⟨w.heap.size, 0, none⟩ = some (.string a) ∧ (((w2.setCell ⟨w.heap.size, 0, none⟩ (.string a)).setCell ⟨w.heap.size, 0, none⟩ (.string a)).setCell ⟨w.heap.size + 1, 0, none⟩ (.int .i64 b)).cell? ⟨w.heap.size + 1, 0, none⟩ = some (.int .i64 b) ∧ Below w.heap.size w (((w2.setCell ⟨w.heap.size, 0, none⟩ (.string a)).setCell ⟨w.heap.size, 0, none⟩ (.string a)).setCell ⟨w.heap.size + 1, 0, none⟩ (.int .i64 b))) := Lib.hid fun a b => by
    have z0 := blk_set (blk_set y0 0 (.string a)) 0 (.string a)
    have z1 := blk_far (blk_far y1 (p := ⟨w.heap.size, 0, none⟩) (by show w.heap.size + 1 ≠ w.heap.size; omega) (.string a)) (p := ⟨w.heap.size, 0, none⟩) (by show w.heap.size + 1 ≠ w.heap.size; omega) (.string a)
    have z2 := blk_set z1 0 (.int .i64 b)
    have z3 := blk_far z0 (p := ⟨w.heap.size + 1, 0, none⟩) (by show w.heap.size ≠ w.heap.size + 1; omega) (.int .i64 b)
    exact ⟨blk_cell z3 0, blk_cell z2 0, below_set (below_set (below_set hb2 (Nat.le_refl _)) (Nat.le_refl _)) (Nat.le_succ _)⟩
  clear hks hg y0 y1 hb0 hb1 hb2 HF HQ HBW
  go_wp2
  refine leaves_cons (f := 22) (args := #[.pointer (some ⟨w.heap.size, 0, none⟩), .pointer (some ⟨w.heap.size + 1, 0, none⟩)]) (by simp) (by simp [go_sem]) ?_
  refine (idleP _ _ _).mono ?_
  rintro e u' w'' ⟨rfl, rfl, rfl⟩
  exact ⟨_, resP _ _ w.heap.size (w.heap.size + 1) x 0 rfl rfl (HEND.out x 0).1 (HEND.out x 0).2.1, rfl, (HEND.out x 0).2.2⟩
end Go.Proofs.YtkogipaaioibaaaGreatDoor

namespace Go.Proofs.YtkogipaaioibaaaGreatDoor
set_option linter.unusedVariables false
set_option linter.unusedSimpArgs false
open Go.RowKit Go.Proofs.YtkogipaaioibaaaGreatDoorW.PrintWords
/-- The reply that FnRespPush puts together. -/
def pushR (name : ByteArray) (r : RP) : RP := ⟨62, 0, 0, ⟨#[]⟩, [⟨36, 0, 0, name, []⟩, r]⟩
theorem push_wire {name : ByteArray} {r : RP} {l : List Int} (h : wire (pushR name r) l) : ∃ rest, l = pre name ++ rest := by
  unfold pushR at h
  simp only [wire] at h
  rcases h with ⟨h, _⟩ | ⟨h, _⟩ | ⟨h, _⟩ | ⟨_, _, _, _, t, rfl, a, b, rfl, hp, _⟩
  · unfold lineK at h; omega
  · unfold blobK at h; omega
  · omega
  rcases hp with ⟨h, _⟩ | ⟨_, _, rfl⟩ | ⟨_, h, _⟩ | ⟨h, _⟩
  · unfold lineK at h; omega
  · refine ⟨[13, 10] ++ b, ?_⟩
    have e : decL (aggN 62 [(⟨36, 0, 0, name, []⟩ : RP), r].length) = [50] := by
      show decL (aggN 62 2) = [50]
      unfold aggN
      rw [if_neg (by omega)]
      unfold decL
      rw [dec_lt (by omega)]
      rfl
    rw [e]
    unfold pre
    simp
  · omega
  · unfold aggK at h; omega
theorem push_wf {name : ByteArray} {r : RP} (h : wfR r) : wfR (pushR name r) := by
  unfold pushR
  simp only [wfR, wfAll]
  refine ⟨by omega, ⟨by omega, trivial⟩, h, trivial⟩
/-- The two replies in a row. -/
theorem push_row {w : World} {g : Nat} {name : ByteArray} {k i f : Int} {s : ByteArray} {kids : List RP} {A : Option Addr} {c : Nat} (hc : kids.length ≤ c) (hk : Kd.C kR w A kids.length kids)
    (hb : w.heap[g]? = some (.cells #[.int .i64 36, .int .i64 0, .int .u64 0, .string name, .slice none 0 0, .int .i64 k, .int .i64 i, .int .u64 f, .string s, .slice A kids.length c] 25 (0, 0))) :
    Kd.C kR w (some ⟨g, 0, none⟩) 2 [⟨36, 0, 0, name, []⟩, ⟨k, i, f, s, kids⟩] := by
  refine ⟨rfl, by decide, fun _ => ⟨_, rfl, fun j p hj => ?_⟩⟩
  have hadd : ∀ n, (⟨g, 0, none⟩ : Addr).add n = ⟨g, n, none⟩ := fun n => by unfold Addr.add; split <;> simp_all
  match j, hj with
  | 0, hj =>
    obtain rfl : (⟨36, 0, 0, name, []⟩ : RP) = p := by simpa using hj
    refine ⟨[.int .i64 36, .int .i64 0, .int .u64 0, .string name, .slice none 0 0], rfl, PAll.k25_mk w ⟨36, 0, 0, name, []⟩ (A4 := none) (c4 := 0) (Nat.le_refl _) ⟨rfl, Nat.zero_le _, fun h => absurd h (Nat.lt_irrefl 0)⟩, fun t u hu => ?_⟩
    rw [hadd, blk_cell hb]
    match t, hu with
    | 0, hu => exact hu
    | 1, hu => exact hu
    | 2, hu => exact hu
    | 3, hu => exact hu
    | 4, hu => exact hu
  | 1, hj =>
    obtain rfl : (⟨k, i, f, s, kids⟩ : RP) = p := by simpa using hj
    refine ⟨[.int .i64 k, .int .i64 i, .int .u64 f, .string s, .slice A kids.length c], rfl, PAll.k25_mk w ⟨k, i, f, s, kids⟩ hc hk, fun t u hu => ?_⟩
    rw [hadd, blk_cell hb]
    match t, hu with
    | 0, hu => exact hu
    | 1, hu => exact hu
    | 2, hu => exact hu
    | 3, hu => exact hu
    | 4, hu => exact hu
set_option maxHeartbeats 4000000 in
set_option maxRecDepth 100000 in
theorem FnRespPush_walk (name : ByteArray) (k i f : Int) (s : ByteArray) (kids : List RP) (A : Option Addr) (c : Nat) (w : World) (hnm : name.size ≤ 9223372036854775807) (hc : kids.length ≤ c) (hk : Kd.C kR w A kids.length kids) (hwf : wfR ⟨k, i, f, s, kids⟩) (ht : Tb w) :
    Calls Tryz.prog 4 #[.string name, .agg #[.int .i64 k, .int .i64 i, .int .u64 f, .string s, .slice A kids.length c]] w fun e w' => e = .returned (.bool true) ∧ Below w.heap.size w w' := by
  have HZ := Lib.hid (fun W hw => fits_any ⟨k, i, f, s, kids⟩ A c w W hc hk hw)
  have HK := Lib.hid (And.intro hc (And.intro hk (And.intro hwf ht)))
  clear hc hk hwf ht
  by_cases hbig : (2147483647 : Int) < (name.size : Int)
  · go_enter Tryz.func4, Tryz.ntmps4
    go_wp2_with fail
    go_ret
    exact ⟨rfl, below_alloc (Below.refl _ _) _⟩
  go_enter Tryz.func4, Tryz.ntmps4
  go_wp2_with fail
  refine (HZ.out _ (below_alloc (Below.refl _ _) _)).mono ?_
  rintro e w1 ⟨r, rfl, hb1⟩
  have h1 : Below w.heap.size w w1 := (below_alloc (Below.refl _ _) _).trans (hb1.mono (by simp))
  have HB := Lib.hid h1
  have hbx : w1.heap[w.heap.size]? = _ := (hb1.block _ (by simp)).trans (heap_alloc_new w _)
  have HBX := Lib.hid hbx
  obtain ⟨b0, b1, b2, b3, b4⟩ := box5 hbx
  clear hb1 h1 hbx HZ
  cases r
  · go_wp2_with fail
    go_ret
    exact ⟨rfl, HB.out⟩
  by_cases hz0 : (name.size : Int) = 0
  · go_wp2_with fail
    go_ret
    exact ⟨rfl, HB.out⟩
  have hz0b : ((name.size : Int) == 0) = false := beq_eq_false_iff_ne.2 hz0
  by_cases hz1 : (60 : Int) < (name.size : Int)
  · go_wp2_with fail
    go_ret
    exact ⟨rfl, HB.out⟩
  have hz2 : (1 : Int) ≤ (name.size : Int) := by omega
  have hnew := heap_alloc_new w1 (.cells #[.int .i64 36, .int .i64 0, .int .u64 0, .string name, .slice none 0 0, .int .i64 k, .int .i64 i, .int .u64 f, .string s, .slice A kids.length c] 25)
  have hbw : Below w.heap.size w (w1.alloc (.cells #[.int .i64 36, .int .i64 0, .int .u64 0, .string name, .slice none 0 0, .int .i64 k, .int .i64 i, .int .u64 f, .string s, .slice A kids.length c] 25)) := below_alloc HB.out _
  have hlt := lettered_any (pushR name ⟨k, i, f, s, kids⟩) (some ⟨w1.heap.size, 0, none⟩) 2 _ ((w1.alloc (.cells #[.int .i64 36, .int .i64 0, .int .u64 0, .string name, .slice none 0 0, .int .i64 k, .int .i64 i, .int .u64 f, .string s, .slice A kids.length c] 25)).alloc (.cells #[.int .i64 62, .int .i64 0, .int .u64 0, .string ⟨#[]⟩, .slice (some ⟨w1.heap.size, 0, none⟩) 2 2] 25)) (Nat.le_refl 2) (push_wf HK.out.2.2.1) (push_row HK.out.1 (Kd.C_below HK.out.2.1 hbw) hnew) (below_alloc (Below.refl _ _) _) (HK.out.2.2.2.below hbw)
  have HLT := Lib.hid hlt
  have HBW := Lib.hid (below_alloc hbw (.cells #[.int .i64 62, .int .i64 0, .int .u64 0, .string ⟨#[]⟩, .slice (some ⟨w1.heap.size, 0, none⟩) 2 2] 25))
  clear hlt hbw hnew
  go_wp2_with fail
  refine HLT.out.mono ?_
  rintro e w2 ⟨t, b, rfl, hlr, hb2⟩
  have HB2 := Lib.hid (HBW.out.trans (hb2.mono HBW.out.size))
  have HLR := Lib.hid hlr
  clear hlr hb2 HLT
  cases b
  · go_wp2_with fail
    go_ret
    exact ⟨rfl, HB2.out⟩
  obtain ⟨hwi, hno, hsh⟩ := HLR.out (by trivial)
  obtain ⟨rest, hr⟩ := push_wire hwi
  have HPK := Lib.hid (fun W => pushName_any t name rest hr (by omega) (by omega) (by have := wire_size hwi hno; omega) W)
  have HAL := Lib.hid (fun W => alive_any W)
  clear hwi hno hsh hr
  go_wp2_with fail
  refine (HPK.out _).mono ?_
  rintro e w3 ⟨rfl, hb3⟩
  have HB3 := Lib.hid (HB2.out.trans (hb3.mono HB2.out.size))
  clear hb3 HPK
  go_wp2_with fail
  refine (HAL.out _).mono ?_
  rintro e w4 ⟨rfl, hb4⟩
  have HB4 := Lib.hid (HB3.out.trans (hb4.mono HB3.out.size))
  clear hb4
  go_wp2_with fail
  go_ret
  exact ⟨rfl, HB4.out⟩
end Go.Proofs.YtkogipaaioibaaaGreatDoor
