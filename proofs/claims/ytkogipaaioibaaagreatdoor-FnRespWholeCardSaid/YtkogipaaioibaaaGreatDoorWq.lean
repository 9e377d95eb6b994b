/- Pushes: skipDigitsThenCRLF, util.Atoi, util.BytesToString. (seat r3.ZD) Pushes: parsePushNotificationName. (seat r3.ZD) impl.PushName. (seat r3.ZD) Whole replies: rows that are read from a place on; the first line's end; the number in a head. (seat r3.ZD) Whole replies: bufferedFrameLen of a line, a text, a nil. (seat r3.ZD) Whole replies: bufferedFrameLen of a reply with parts. (seat r3.ZD; printed by gen_wh2.py) Whole replies: bufferedFrameLen and bufferedValueLen, by induction. (seat r3.ZD) Whole replies: HasBufferedReply, impl.Whole. (seat r3.ZD) Whole replies: carries, nested. (seat r3.ZD; printed by gen_wh5.py) Whole replies: mild answers (whatever it says). (seat r3.ZD) FnRespWhole: the walk. (seat r3.ZD) -/
import Derived.Test.YtkogipaaioibaaaGreatDoorWa
import Derived.Test.YtkogipaaioibaaaGreatDoorLw
import Derived.Test.YtkogipaaioibaaaGreatDoorShelf
import Derived.Deep.DeepCutAuto
import Derived.Deep.LoopGhost
import Derived.Test.YtkogipaaioibaaaGreatDoorPprotozzIndexByte
import Derived.Test.YtkogipaaioibaaaGreatDoorPlawsmild
import Derived.Test.YtkogipaaioibaaaGreatDoorAlive
import Derived.Test.YtkogipaaioibaaaGreatDoorWc
namespace Go.Proofs.YtkogipaaioibaaaGreatDoor
set_option linter.unusedVariables false
set_option linter.unusedSimpArgs false
open Go.RowKit Go.Proofs.YtkogipaaioibaaaGreatDoorW.PrintWords
open PAll (info5)
theorem at0 {w : World} {src n : Nat} {xs : List Int} (h : ReadsInt w .u8 (some ⟨src, 0, none⟩) n xs) (j : Nat) (hj : j < n) : w.cell? ⟨src, j, none⟩ = some (.int .u8 (xs.getD j 0)) := by
  obtain ⟨ad, he, hc⟩ := h.2.2 (by omega)
  injection he with he
  subst he
  have h1 := hc j hj
  rwa [show (⟨src, 0, none⟩ : Addr).add j = ⟨src, j, none⟩ by unfold Addr.add; split <;> simp_all] at h1
set_option maxHeartbeats 4000000 in
set_option maxRecDepth 100000 in
theorem skip_any (src m c i p : Nat) (ys : List Int) (w : World) (hr : ReadsInt w .u8 (some ⟨src, 0, none⟩) m ys) (hmc : m ≤ c) (hm : m ≤ 100000) (hip : i ≤ p) (hp : p + 1 < m)
    (hd : ∀ j, i ≤ j → j < p → 48 ≤ ys.getD j 0 ∧ ys.getD j 0 ≤ 57) (h13 : ys.getD p 0 = 13) (h10 : ys.getD (p + 1) 0 = 10) :
    Calls Tryz.prog 63 #[.slice (some ⟨src, 0, none⟩) m c, .int .i64 i] w fun e w' => e = .returned (.tuple #[.int .i64 ((p + 2 : Nat) : Int), .bool true, .nilIface]) ∧ w' = w := by
  have HR := Lib.hid hr
  have HD := Lib.hid hd
  have HB := Lib.hid (And.intro h13 h10)
  have hmi : (m : Int) ≤ 100000 := by omega
  clear hr hd h13 h10
  go_enter Tryz.func63, Tryz.ntmps63
  go_wp2_with fail
  go_loopg [7] (p - i) (fun gk v7 wk => wk = w ∧ ∃ j : Nat, v7 = .int .i64 j ∧ Aside0 (i ≤ j ∧ j ≤ p ∧ gk = p - j))
  case atStart => exact ⟨rfl, i, rfl, ⟨by omega⟩⟩
  case round =>
    obtain ⟨rfl, j, rfl, HJ⟩ := hrel
    obtain ⟨hj0, hj1, hj2⟩ := HJ.out
    have hjm : (j : Int) < (m : Int) - 1 := by omega
    have hjm2 : (j : Int) < (m : Int) := by omega
    have hjm3 : (j : Int) + 1 < (m : Int) := by omega
    have hjm4 : j < m := by omega
    have hjm5 : j + 1 < m := by omega
    obtain ⟨x, hx⟩ : ∃ x, ys.getD j 0 = x := ⟨_, rfl⟩
    obtain ⟨y, hy⟩ : ∃ y, ys.getD (j + 1) 0 = y := ⟨_, rfl⟩
    have c0 := at0 HR.out j hjm4
    have c1 := at0 HR.out (j + 1) hjm5
    rw [hx] at c0
    rw [hy] at c1
    by_cases hjp : j = p
    · subst hjp
      have hx13 : x = 13 := by rw [← hx]; exact HB.out.1
      have hy10 : y = 10 := by rw [← hy]; exact HB.out.2
      subst hx13 hy10
      clear hx hy
      go_wp2_with fail
      go_ret3
      exact ⟨rfl, rfl⟩
    · have HJP := Lib.hid hjp
      have hxd : 48 ≤ x ∧ x ≤ 57 := by rw [← hx]; exact HD.out j hj0 (by omega)
      have hx1 : ¬ x = 13 := by omega
      have hx2 : ¬ x < 48 := by omega
      have hx3 : ¬ 57 < x := by omega
      clear hx hy hjp
      go_wp2_with fail
      have hjp := HJP.out
      go_roundg (p - (j + 1))
      case measure => omega
      case rel => exact ⟨rfl, j + 1, by go_num, ⟨by omega⟩⟩
theorem text_any (src o m c : Nat) (ys : List Int) (w : World) (hr : ReadsInt w .u8 (some ⟨src, o, none⟩) m ys) :
    Calls Tryz.prog 64 #[.slice (some ⟨src, o, none⟩) m c] w fun e w' => e = .returned (.string (strOfNums ys)) ∧ w' = w := by
  have hcv := string_of_reads (P := Tryz.prog) (w := w) (c := c) Tryz.underlying42 Tryz.underlying5 Tryz.underlying9 hr
  clear hr
  go_enter Tryz.func64, Tryz.ntmps64
  go_wp2_with fail
  go_ret
  exact ⟨rfl, rfl⟩
theorem strOfNums_dec (n : Nat) : strOfNums (decL n) = dec n := by
  unfold strOfNums decL dec
  congr 1
  simp only [List.map_map]
  congr 1
  have h : ∀ l : List UInt8, List.map ((fun n : Int => UInt8.ofNat n.toNat) ∘ fun b : UInt8 => (b.toNat : Int)) l = l := by
    intro l
    induction l with
    | nil => rfl
    | cons a l ih => rw [List.map_cons, ih]; simp
  exact h _
set_option maxHeartbeats 2000000 in
set_option maxRecDepth 100000 in
theorem atoi_any (src o c n : Nat) (w : World) (hr : ReadsInt w .u8 (some ⟨src, o, none⟩) (decL n).length (decL n)) (hn : n ≤ 1000) :
    Calls Tryz.prog 48 #[.slice (some ⟨src, o, none⟩) (decL n).length c] w fun e w' => e = .returned (.tuple #[.int .i64 (n : Int), .nilIface]) ∧ Below w.heap.size w w' := by
  have hl := decL_le n hn
  have HT := Lib.hid (text_any src o (decL n).length c (decL n) w hr)
  have HA := Lib.hid (Tryz.strconv_Atoi (dec n) (n : Int) (by rw [← bytesOf_length, bytesOf_dec]; omega) (dec_atoi n) w)
  clear hr
  go_enter Tryz.func48, Tryz.ntmps48
  go_wp2_with fail
  refine HT.out.mono ?_
  rintro e w1 ⟨rfl, rfl⟩
  rw [strOfNums_dec]
  go_wp2_with fail
  refine HA.out.mono ?_
  rintro e w2 ⟨rfl, t, rfl⟩
  go_wp2_with fail
  go_ret2
  exact ⟨rfl, bytes_below (Below.refl _ _) (Nat.le_refl _) 5 t⟩
end Go.Proofs.YtkogipaaioibaaaGreatDoor

namespace Go.Proofs.YtkogipaaioibaaaGreatDoor
set_option linter.unusedVariables false
set_option linter.unusedSimpArgs false
open Go.RowKit Go.Proofs.YtkogipaaioibaaaGreatDoorW.PrintWords
open PAll (info5)
theorem reads_sub {w : World} {b n a k : Nat} {xs : List Int} (h : ReadsInt w .u8 (some ⟨b, 0, none⟩) n xs) (hk : a + k ≤ n) : ReadsInt w .u8 (some ⟨b, a, none⟩) k ((xs.drop a).take k) := by
  refine ⟨by rw [List.length_take, List.length_drop, h.1]; omega, by have := h.2.1; omega, fun hp => ⟨_, rfl, fun j hj => ?_⟩⟩
  have h1 := at0 h (a + j) (by omega)
  rw [show (⟨b, a, none⟩ : Addr).add j = ⟨b, a + j, none⟩ by unfold Addr.add; split <;> simp_all]
  rw [h1]
  simp [List.getD_eq_getElem?_getD, List.getElem?_take, hj, List.getElem?_drop]
/-- The beginning of a push. -/
def pre (name : ByteArray) : List Int := [62, 50, 13, 10, 36] ++ (decL name.size ++ ([13, 10] ++ bytesOf name))
theorem pre_len (name : ByteArray) : (pre name).length = 7 + (decL name.size).length + name.size := by
  unfold pre
  simp [bytesOf_length]
  omega
structure PreAt (ys : List Int) (name : ByteArray) (q : Nat) : Prop where
  q5 : q = 5 + (decL name.size).length
  a0 : ys.getD 0 0 = 62
  a1 : ys.getD 1 0 = 50
  a2 : ys.getD 2 0 = 13
  a3 : ys.getD 3 0 = 10
  a4 : ys.getD 4 0 = 36
  dg : (ys.drop 5).take (q - 5) = decL name.size
  dd : ∀ j, 5 ≤ j → j < q → 48 ≤ ys.getD j 0 ∧ ys.getD j 0 ≤ 57
  b0 : ys.getD q 0 = 13
  b1 : ys.getD (q + 1) 0 = 10
  nm : (ys.drop (q + 2)).take name.size = bytesOf name
  ln : q + 2 + name.size ≤ ys.length
theorem preAt (name : ByteArray) (rest : List Int) : PreAt (pre name ++ rest) name (5 + (decL name.size).length) := by
  have hb := bytesOf_length name
  obtain ⟨D, hD⟩ : ∃ D, decL name.size = D := ⟨_, rfl⟩
  have hdig : ∀ x ∈ D, 48 ≤ x ∧ x ≤ 57 := fun x hx => decL_dig name.size x (hD ▸ hx)
  have e : pre name ++ rest = 62 :: 50 :: 13 :: 10 :: 36 :: (D ++ (13 :: 10 :: (bytesOf name ++ rest))) := by unfold pre; rw [hD]; simp
  rw [e, hD]
  obtain ⟨n, hn⟩ : ∃ n, D.length = n := ⟨_, rfl⟩
  have e5 : (62 :: 50 :: 13 :: 10 :: 36 :: (D ++ (13 :: 10 :: (bytesOf name ++ rest)))).drop 5 = D ++ (13 :: 10 :: (bytesOf name ++ rest)) := rfl
  have g5 : ∀ j, (62 :: 50 :: 13 :: 10 :: 36 :: (D ++ (13 :: 10 :: (bytesOf name ++ rest)))).getD (5 + j) 0 = (D ++ (13 :: 10 :: (bytesOf name ++ rest))).getD j 0 := fun j => by
    rw [List.getD_eq_getElem?_getD, List.getD_eq_getElem?_getD, Nat.add_comm 5 j]
    rfl
  refine ⟨by rw [hD], rfl, rfl, rfl, rfl, rfl, ?_, ?_, ?_, ?_, ?_, ?_⟩
  · rw [e5, Nat.add_sub_cancel_left, hD, List.take_left']
    rfl
  · intro j h1 h2
    obtain ⟨i, rfl⟩ : ∃ i, j = 5 + i := ⟨j - 5, by omega⟩
    rw [g5]
    have hi : i < D.length := by omega
    rw [List.getD_eq_getElem?_getD, List.getElem?_append_left hi, List.getElem?_eq_getElem hi]
    exact hdig _ (List.getElem_mem _)
  · rw [g5, List.getD_eq_getElem?_getD, List.getElem?_append_right (Nat.le_refl _), Nat.sub_self]
    rfl
  · rw [Nat.add_assoc, g5, List.getD_eq_getElem?_getD, List.getElem?_append_right (by omega), Nat.add_sub_cancel_left]
    rfl
  · rw [show 5 + D.length + 2 = 5 + (D.length + 2) by omega, ← List.drop_drop, e5, ← List.drop_drop, List.drop_left']
    · show List.take name.size (bytesOf name ++ rest) = _
      rw [List.take_left']
      exact hb
    · rfl
  · simp [hb]
    omega
set_option maxHeartbeats 4000000 in
set_option maxRecDepth 100000 in
theorem parse_any (src m c q : Nat) (name : ByteArray) (ys : List Int) (w : World) (hr : ReadsInt w .u8 (some ⟨src, 0, none⟩) m ys) (hmc : m ≤ c) (hm : m ≤ 100000) (h1 : 1 ≤ name.size) (h2 : name.size ≤ 60) (hp : PreAt ys name q) :
    Calls Tryz.prog 37 #[.slice (some ⟨src, 0, none⟩) m c] w fun e w' => e = .returned (.tuple #[.string name, .bool true, .nilIface]) ∧ Below w.heap.size w w' := by
  have hl := decL_le name.size (by omega)
  have hyl := hr.1
  have hq5 := hp.q5
  have hln := hp.ln
  have hone : ∀ j, 1 ≤ j → j < 2 → 48 ≤ ys.getD j 0 ∧ ys.getD j 0 ≤ 57 := fun j h1 h2 => by
    have e : j = 1 := by omega
    rw [e, hp.a1]
    omega
  have HS1 := Lib.hid (skip_any src m c 1 2 ys w hr hmc hm (by omega) (by omega) hone hp.a2 hp.a3)
  have HS2 := Lib.hid (skip_any src m c 5 q ys w hr hmc hm (by omega) (by omega) hp.dd hp.b0 hp.b1)
  have hsub := reads_sub (a := 5) (k := q - 5) hr (by omega)
  have hsn := reads_sub (a := q + 2) (k := name.size) hr (by omega)
  rw [hp.dg] at hsub
  rw [hp.nm] at hsn
  have hdl : (decL name.size).length = q - 5 := by omega
  have hat := fun c' => atoi_any src 5 c' name.size w (by rw [hdl]; exact hsub) (by omega)
  rw [hdl] at hat
  have HAT := Lib.hid hat
  have HTX := Lib.hid (fun W (hb : Below w.heap.size w W) c' => text_any src (q + 2) name.size c' (bytesOf name) W (hsn.below hb))
  have c0 := at0 hr 0 (by omega)
  have c4 := at0 hr 4 (by omega)
  rw [hp.a0] at c0
  rw [hp.a4] at c4
  have f0 : (3 : Int) ≤ (m : Int) := by omega
  have f1 : (4 : Int) < (m : Int) := by omega
  have f2 : (q : Int) + 2 + (name.size : Int) ≤ (m : Int) := by omega
  have f3 : (6 : Int) ≤ (q : Int) := by omega
  have f4 : q + 2 + name.size ≤ c := by omega
  have f5 : (1 : Int) ≤ (name.size : Int) := by omega
  have f6 : 5 ≤ q := by omega
  have hsb : strOfNums (bytesOf name) = name := by
    unfold strOfNums bytesOf
    have h : ∀ l : List UInt8, List.map ((fun n : Int => UInt8.ofNat n.toNat) ∘ fun b : UInt8 => (b.toNat : Int)) l = l := by
      intro l
      induction l with
      | nil => rfl
      | cons a l ih => rw [List.map_cons, ih]; simp
    rw [List.map_map, h]
  have HSB := Lib.hid hsb
  clear hone hat hsub hsn hr hp hdl hq5 hln hsb hl hyl
  go_enter Tryz.func37, Tryz.ntmps37
  go_wp2_with fail
  refine HS1.out.mono ?_
  rintro e w1 ⟨rfl, rfl⟩
  go_wp2_with fail
  refine HS2.out.mono ?_
  rintro e w2 ⟨rfl, rfl⟩
  go_wp2_with fail
  refine (HAT.out _).mono ?_
  rintro e w3 ⟨rfl, hb⟩
  have HB := Lib.hid hb
  clear hb
  go_wp2_with fail
  refine (HTX.out _ HB.out _).mono ?_
  rintro e w4 ⟨rfl, rfl⟩
  rw [HSB.out]
  go_wp2_with fail
  go_ret3
  exact ⟨rfl, HB.out⟩
end Go.Proofs.YtkogipaaioibaaaGreatDoor

namespace Go.Proofs.YtkogipaaioibaaaGreatDoor
set_option linter.unusedVariables false
set_option linter.unusedSimpArgs false
open Go.RowKit Go.Proofs.YtkogipaaioibaaaGreatDoorW.PrintWords Go.Proofs.YtkogipaaioibaaaGreatDoorW.PrintLast Go.Proofs.YtkogipaaioibaaaGreatDoorW.PrintMore
theorem pre_take (name : ByteArray) (rest : List Int) (k : Nat) (hk : (pre name).length ≤ k) : (pre name ++ rest).take k = pre name ++ rest.take (k - (pre name).length) := by
  rw [List.take_append]
  rw [List.take_of_length_le hk]
/-- What a reader holds, as a row of its first bytes. -/
theorem RB.first {w : World} {rb src c : Nat} {xs : List Int} {bf : Int} (h : RB w rb src 0 c xs bf) (k : Nat) (hk : k ≤ xs.length) : ReadsInt w .u8 (some ⟨src, 0, none⟩) k (xs.take k) := by
  have := reads_sub (a := 0) (k := k) h.row (by omega)
  simpa using this
theorem buffered_any {rb src off c : Nat} {xs : List Int} {bf : Int} (w : World) (h : RB w rb src off c xs bf) :
    Calls Tryz.prog 30 #[.pointer (some ⟨rb, 0, none⟩)] w fun e w' => e = .returned (.int .i64 bf) ∧ w' = w := by
  have c1 : w.cell? ⟨rb, 1, none⟩ = some (.int .i64 bf) := blk_cell h.box 1
  clear h
  go_enter Tryz.func30, Tryz.ntmps30
  go_wp2_with fail
  go_ret
  exact ⟨rfl, rfl⟩
set_option maxHeartbeats 4000000 in
set_option maxRecDepth 100000 in
theorem peekName_any {pr rb src c : Nat} {xs rest : List Int} (name : ByteArray) (hx : xs = pre name ++ rest) (h1 : 1 ≤ name.size) (h2 : name.size ≤ 60) (w : World) (hp : w.heap[pr]? = some (.cells #[.pointer (some ⟨rb, 0, none⟩)] 63 (0, 0))) (h : RB w rb src 0 c xs 0) (hz : xs.length ≤ 32768) (hpr : pr ≠ rb) :
    Calls Tryz.prog 23 #[.pointer (some ⟨pr, 0, none⟩)] w fun e w' => e = .returned (.tuple #[.string name, .nilIface]) ∧ w.grownBy w' (some rb) := by
  have hl := decL_le name.size (by omega)
  have hpl := pre_len name
  have hxl : xs.length = 7 + (decL name.size).length + name.size + rest.length := by rw [hx, List.length_append, hpl]
  obtain ⟨n, hn⟩ : ∃ n : Nat, n = if 4096 < xs.length then 4096 else xs.length := ⟨_, rfl⟩
  have hn1 : n ≤ xs.length := by rw [hn]; split <;> omega
  have hn2 : n ≤ 4096 := by rw [hn]; split <;> omega
  have hn3 : (pre name).length ≤ n := by rw [hn, hpl]; split <;> omega
  have htk : xs.take n = pre name ++ rest.take (n - (pre name).length) := by rw [hx]; exact pre_take name rest n hn3
  have p0 : w.cell? ⟨pr, 0, none⟩ = some (.pointer (some ⟨rb, 0, none⟩)) := blk_cell hp 0
  have HP1 := Lib.hid (peek_any 1 w h (by omega) hz)
  have HPE := Lib.hid (fun bf W (h : RB W rb src 0 c xs bf) => peek_any n W h hn1 hz)
  have HPA := Lib.hid (fun W bf (h : RB W rb src 0 c xs bf) => parse_any src n c (5 + (decL name.size).length) name (xs.take n) W (h.first n hn1) (by have := h.le; omega) (by omega) h1 h2 (by rw [htk]; exact preAt name _))
  have HX := Lib.hid (And.intro hx (And.intro hpr hp))
  obtain ⟨N, hN⟩ : ∃ N : Int, N = xs.length := ⟨_, rfl⟩
  have hNn : (n : Int) = if 4096 < N then 4096 else N := by rw [hn, hN]; split <;> split <;> omega
  have HN := Lib.hid hN
  have HNN := Lib.hid hNn
  clear h hz hp hx hl hpl hxl hn hn1 hn2 hn3 htk h1 h2 hN hNn hpr
  go_enter Tryz.func23, Tryz.ntmps23
  go_wp2_with fail
  refine HP1.out.mono ?_
  rintro e w1 ⟨bf1, rfl, hr1, hk1, hg1, hbf⟩
  have hbf1 : bf1 = N := by have := HN.out; omega
  subst hbf1
  have c0 : w1.cell? ⟨src, 0, none⟩ = some (.int .u8 62) := by
    have := hr1.at 0 (by rw [HX.out.1]; simp [pre])
    rw [HX.out.1] at this
    exact this
  have c1 : w1.cell? ⟨rb, 1, none⟩ = some (.int .i64 bf1) := blk_cell hr1.box 1
  have hp1 : w1.heap[pr]? = _ := (hg1.block pr (blk_lt HX.out.2.2) (by intro e; injection e with e; exact HX.out.2.1 e)).trans HX.out.2.2
  have p1 : w1.cell? ⟨pr, 0, none⟩ = some (.pointer (some ⟨rb, 0, none⟩)) := blk_cell hp1 0
  have HR1 := Lib.hid hr1
  have HG1 := Lib.hid hg1
  have HP := Lib.hid hp1
  clear hr1 hg1 hp1 HP1 p0 hk1
  go_wp2_with fail
  refine wp_loop_rounds 1 ?_
  rw [rounds_succ]
  go_wp2_with fail
  refine (buffered_any _ HR1.out).mono ?_
  rintro e w2 ⟨rfl, rfl⟩
  have hcase : (bf1 ≤ 4096 ∧ (n : Int) = bf1) ∨ (4096 < bf1 ∧ (n : Int) = 4096) := by
    have h9 := HNN.out
    split at h9 <;> omega
  have hpe := HPE.out bf1 _ HR1.out
  rcases hcase with ⟨hb, hn⟩ | ⟨hb, hn⟩
  all_goals
    rw [hn] at hpe
    have HPX := Lib.hid hpe
    clear hpe hn hbf
    go_wp2_with fail
    refine HPX.out.mono ?_
    rintro e w3 ⟨bf2, rfl, hr2, hk2, hg2, -⟩
    have HPY := Lib.hid (HPA.out _ _ hr2)
    have hbb := hr2
    have HG2 := Lib.hid (grown_trans' HG1.out hg2)
    clear hr2 hk2 hg2 hbb c0 c1
    go_wp2_with fail
    refine HPY.out.mono ?_
    rintro e w4 ⟨rfl, hb4⟩
    have HG4 := Lib.hid (grown_trans' HG2.out (grown_below' hb4 _))
    clear hb4
    go_wp2_with fail
    go_ret2
    exact ⟨rfl, HG4.out⟩
theorem idleP (a b : Value) (w : World) :
    CallsD Tryz.prog 22 #[a, b] .returning w fun e u' w' => e = .returned (.tuple #[]) ∧ u' = .returning ∧ w' = w := by
  refine callsD_of_wpS Tryz.func22 rfl fun c₀ cs hu => ?_
  apply wpS_seq
  apply wpS_region
  simp [wpOpsS, go_sem, recoverD, hu, Tryz.ntmps22, Exit.thenS]
  refine wpS_cond (t := false) (by simp [Act.eval, Array.replicate]) ?_
  simp only [Bool.false_eq_true, if_false]
  refine wpS_of_wp (wp_skip ?_)
  cases c₀
  simp_all [bodyPostS, results, Tryz.results22]
theorem resP (tmps : Array Value) (w : World) (g g1 : Nat) (x : ByteArray) (y : Int) (h2 : tmps.getD 2 undef = .pointer (some ⟨g, 0, none⟩)) (h3 : tmps.getD 3 undef = .pointer (some ⟨g1, 0, none⟩))
    (hg : w.cell? ⟨g, 0, none⟩ = some (.string x)) (hx : w.cell? ⟨g1, 0, none⟩ = some (.int .i64 y)) :
    (results Tryz.f13 tmps).run Tryz.prog w = .ok (.tuple #[.string x, .int .i64 y]) w := by
  have h2' : tmps[2]?.getD undef = .pointer (some ⟨g, 0, none⟩) := by simpa using h2
  have h3' : tmps[3]?.getD undef = .pointer (some ⟨g1, 0, none⟩) := by simpa using h3
  simp [results, Tryz.results13, h2', h3', asAddr, go_sem, hg, hx]
/-- The world behind PushName's two results' cells. -/
def pW (w : World) : World := (w.alloc (.cells #[.string ⟨#[]⟩] 9)).alloc (.cells #[.int .i64 0] 3)
set_option maxHeartbeats 4000000 in
set_option maxRecDepth 100000 in
theorem pushName_any (s x : ByteArray) (r : List Int) (hx : bytesOf s = pre x ++ r) (h1 : 1 ≤ x.size) (h2 : x.size ≤ 60) (hs : s.size ≤ 32768) (w : World) :
    Calls Tryz.prog 13 #[.string s] w fun e w' => e = .returned (.tuple #[.string x, .int .i64 0]) ∧ Below w.heap.size w w' := by
  have hbs := fun w => print_bytes (P := Tryz.prog) 9 42 5 Tryz.underlying9 Tryz.underlying42 Tryz.underlying5 s w
  have hks : (pW w).heap.size = w.heap.size + 1 + 1 := by unfold pW; rw [World.size_alloc, World.size_alloc]
  have hf := (peekName_any x hx h1 h2 (rdW (pW w) s) (rdW_pr _ s) (rdW_rb _ s (by omega)) (by rw [bytesOf_length]; exact hs) (by omega))
  have hnr := newReader_at (pW w) s
  have hbw := rdW_below (pW w) s
  have q0 : (pW w).heap[w.heap.size]? = some (.cells #[.string ⟨#[]⟩] 9 (0, 0)) := (Below.heap_alloc _ _ _ (by rw [World.size_alloc]; omega)).trans (heap_alloc_new w _)
  have q1 : (pW w).heap[w.heap.size + 1]? = some (.cells #[.int .i64 0] 3 (0, 0)) := by
    have h := heap_alloc_new (w.alloc (.cells #[.string ⟨#[]⟩] 9)) (.cells #[.int .i64 0] 3)
    rw [World.size_alloc] at h
    exact h
  rw [hks] at hnr hf hbw
  have HKS := Lib.hid hks
  have HNR := Lib.hid hnr
  have HF := Lib.hid hf
  have HBW := Lib.hid hbw
  have HQ := Lib.hid (And.intro q0 q1)
  clear hx hs hks h1 h2 q0 q1 hnr hf hbw
  go_enter_defers Tryz.func13, Tryz.ntmps13
  go_wp2_with fail
  refine HNR.out.mono ?_
  rintro e w1 ⟨rfl, rfl⟩
  clear hbs
  go_wp2_with fail
  refine HF.out.mono ?_
  rintro e w2 ⟨rfl, hg⟩
  have hks := HKS.out
  have y0 : w2.heap[w.heap.size]? = some (.cells #[.string ⟨#[]⟩] 9 (0, 0)) := (hg.block _ (by have := HBW.out.size; omega) (by intro e; injection e with e; omega)).trans ((HBW.out.block _ (by omega)).trans HQ.out.1)
  have y1 : w2.heap[w.heap.size + 1]? = some (.cells #[.int .i64 0] 3 (0, 0)) := (hg.block _ (by have := HBW.out.size; omega) (by intro e; injection e with e; omega)).trans ((HBW.out.block _ (by omega)).trans HQ.out.2)
  have c0 : w2.cell? ⟨w.heap.size, 0, none⟩ = some (.string ⟨#[]⟩) := blk_cell y0 0
  have c1 : w2.cell? ⟨w.heap.size + 1, 0, none⟩ = some (.int .i64 0) := blk_cell y1 0
  have f0 := blk_frozen y0 0
  have f1 := blk_frozen y1 0
  have l0 := blk_lt y0
  have l1 := blk_lt y1
  have hb0 : Below w.heap.size w (pW w) := below_alloc (below_alloc (Below.refl _ _) _) _
  have hb1 := hb0.trans ((HBW.out).mono (by omega))
  have hb2 := hb1.grown hg hb1.size (by rintro q hq; injection hq with hq; omega)
  have HEND : Hid (∀ (a : ByteArray) (b : Int), (((w2.setCell ⟨w.heap.size, 0, none⟩ (.string a)).setCell ⟨w.heap.size, 0, none⟩ (.string a)).setCell ⟨w.heap.size + 1, 0, none⟩ (.int .i64 b)).cell? ⟨w.heap.size, 0, none⟩ = some (.string a) ∧ (((w2.setCell ⟨w.heap.size, 0, none⟩ (.string a)).setCell ⟨w.heap.size, 0, none⟩ (.string a)).setCell ⟨w.heap.size + 1, 0, none⟩ (.int .i64 b)).cell? ⟨w.heap.size + 1, 0, none⟩ = some (.int .i64 b) ∧ Below w.heap.size w (((w2.setCell ⟨w.heap.size, 0, none⟩ (.string a)).setCell ⟨w.heap.size, 0, none⟩ (.string a)).setCell ⟨w.heap.size + 1, 0, none⟩ (.int .i64 b))) := Lib.hid fun a b => by
    have z0 := blk_set (blk_set y0 0 (.string a)) 0 (.string a)
    have z1 := blk_far (blk_far y1 (p := ⟨w.heap.size, 0, none⟩) (by show w.heap.size + 1 ≠ w.heap.size; omega) (.string a)) (p := ⟨w.heap.size, 0, none⟩) (by show w.heap.size + 1 ≠ w.heap.size; omega) (.string a)
    have z2 := blk_set z1 0 (.int .i64 b)
    have z3 := blk_far z0 (p := ⟨w.heap.size + 1, 0, none⟩) (by show w.heap.size ≠ w.heap.size + 1; omega) (.int .i64 b)
    exact ⟨blk_cell z3 0, blk_cell z2 0, below_set (below_set (below_set hb2 (Nat.le_refl _)) (Nat.le_refl _)) (Nat.le_succ _)⟩
  clear hks hg y0 y1 hb0 hb1 hb2 HF HQ HBW
  go_wp2
  refine leaves_cons (f := 22) (args := #[.pointer (some ⟨w.heap.size, 0, none⟩), .pointer (some ⟨w.heap.size + 1, 0, none⟩)]) (by simp) (by simp [go_sem]) ?_
  refine (idleP _ _ _).mono ?_
  rintro e u' w'' ⟨rfl, rfl, rfl⟩
  exact ⟨_, resP _ _ w.heap.size (w.heap.size + 1) x 0 rfl rfl (HEND.out x 0).1 (HEND.out x 0).2.1, rfl, (HEND.out x 0).2.2⟩
end Go.Proofs.YtkogipaaioibaaaGreatDoor

namespace Go.Proofs.YtkogipaaioibaaaGreatDoor
set_option linter.unusedVariables false
set_option linter.unusedSimpArgs false
open Go.RowKit Go.Proofs.YtkogipaaioibaaaGreatDoorW.PrintWords
open PAll (info5)
/-- A row of bytes that is read from a place of a block on. -/
structure Rw (w : World) (src o m c : Nat) (xs : List Int) : Prop where
  rd : ReadsInt w .u8 (some ⟨src, o, none⟩) m xs
  le : m ≤ c
  sm : m ≤ 100000
theorem Rw.len {w : World} {src o m c : Nat} {xs : List Int} (h : Rw w src o m c xs) : xs.length = m := h.rd.1
theorem add_pl (src o k : Nat) : (⟨src, o, none⟩ : Addr).add k = ⟨src, o + k, none⟩ := by unfold Addr.add; split <;> simp_all
theorem Rw.at {w : World} {src o m c : Nat} {xs : List Int} (h : Rw w src o m c xs) (j : Nat) (hj : j < m) : w.cell? ⟨src, o + j, none⟩ = some (.int .u8 (xs.getD j 0)) := by
  obtain ⟨ad, he, hc⟩ := h.rd.2.2 (by omega)
  injection he with he
  subst he
  have h1 := hc j hj
  rwa [add_pl] at h1
theorem Rw.below {w w' : World} {src o m c : Nat} {xs : List Int} (h : Rw w src o m c xs) (hb : Below w.heap.size w w') : Rw w' src o m c xs := ⟨h.rd.below hb, h.le, h.sm⟩
theorem Rw.sub {w : World} {src o m c : Nat} {xs : List Int} (h : Rw w src o m c xs) (a k c' : Nat) (hk : a + k ≤ m) (hc : k ≤ c') : Rw w src (o + a) k c' ((xs.drop a).take k) := by
  have hm := h.sm
  refine ⟨⟨by rw [List.length_take, List.length_drop, h.len]; omega, by omega, fun hp => ⟨_, rfl, fun j hj => ?_⟩⟩, hc, by omega⟩
  have h1 := h.at (a + j) (by omega)
  rw [add_pl, Nat.add_assoc, h1]
  simp [List.getD_eq_getElem?_getD, List.getElem?_take, hj, List.getElem?_drop]
theorem Rw.drop {w : World} {src o m c : Nat} {xs : List Int} (h : Rw w src o m c xs) (a : Nat) (ha : a ≤ m) : Rw w src (o + a) (m - a) (c - a) (xs.drop a) := by
  have h1 := h.sub a (m - a) (c - a) (by omega) (by have := h.le; omega)
  rwa [List.take_of_length_le (by rw [List.length_drop, h.len]; exact Nat.le_refl _)] at h1
/-- The first line feed. -/
theorem lf_any {src o m c : Nat} (a r : List Int) (w : World) (h : Rw w src o m c (a ++ 10 :: r)) (ha : (10 : Int) ∉ a) :
    Calls Tryz.prog 47 #[.slice (some ⟨src, o, none⟩) m c, .int .u8 10] w fun e w' => e = .returned (.int .i64 (a.length : Int)) ∧ Drawn0 w w' := by
  have hl := h.len
  have hr := h.rd
  rw [← hl] at hr ⊢
  exact PAll.proto_zzIndexByte.calls (a.length + 1) (some ⟨src, o, none⟩) c (a ++ 10 :: r) 10 (a.length : Int) w (Kd.C_of_reads (d := 0) hr) (by rw [hl]; exact h.le) (index_f a r ha (by have := h.sm; omega))
theorem minus_one : Lib.atoi [45, 49] = some (-1) := by rfl
set_option maxHeartbeats 2000000 in
set_option maxRecDepth 100000 in
/-- util.Atoi of whatever text is a number. -/
theorem num_any {src o m c : Nat} (s : ByteArray) (n : Int) (w : World) (h : Rw w src o m c (bytesOf s)) (hs : s.size ≤ 18) (hn : Lib.atoi s.data.toList = some n) :
    Calls Tryz.prog 48 #[.slice (some ⟨src, o, none⟩) m c] w fun e w' => e = .returned (.tuple #[.int .i64 n, .nilIface]) ∧ Below w.heap.size w w' := by
  have HT := Lib.hid (text_any src o m c (bytesOf s) w h.rd)
  have HA := Lib.hid (Tryz.strconv_Atoi s n hs hn w)
  have hsb : strOfNums (bytesOf s) = s := by
    unfold strOfNums bytesOf
    have h : ∀ l : List UInt8, List.map ((fun n : Int => UInt8.ofNat n.toNat) ∘ fun b : UInt8 => (b.toNat : Int)) l = l := by
      intro l
      induction l with
      | nil => rfl
      | cons a l ih => rw [List.map_cons, ih]; simp
    rw [List.map_map, h]
  have HS := Lib.hid hsb
  clear h hs hn hsb
  go_enter Tryz.func48, Tryz.ntmps48
  go_wp2_with fail
  refine HT.out.mono ?_
  rintro e w1 ⟨rfl, rfl⟩
  rw [HS.out]
  go_wp2_with fail
  refine HA.out.mono ?_
  rintro e w2 ⟨rfl, t, rfl⟩
  go_wp2_with fail
  go_ret2
  exact ⟨rfl, bytes_below (Below.refl _ _) (Nat.le_refl _) 5 t⟩
/-- The number behind the first letter of a head. -/
theorem headNum_any {src o m c : Nat} (n : Nat) (hn : n ≤ 1000) (w : World) (h : Rw w src o m c (decL n)) :
    Calls Tryz.prog 48 #[.slice (some ⟨src, o, none⟩) m c] w fun e w' => e = .returned (.tuple #[.int .i64 (n : Int), .nilIface]) ∧ Below w.heap.size w w' := by
  have hl := decL_le n hn
  exact num_any (dec n) n w (by rw [bytesOf_dec]; exact h) (by rw [← bytesOf_length, bytesOf_dec]; omega) (dec_atoi n)
theorem headNeg_any {src o m c : Nat} (w : World) (h : Rw w src o m c [45, 49]) :
    Calls Tryz.prog 48 #[.slice (some ⟨src, o, none⟩) m c] w fun e w' => e = .returned (.tuple #[.int .i64 (-1), .nilIface]) ∧ Below w.heap.size w w' :=
  num_any ⟨#[45, 49]⟩ (-1) w h (by decide) minus_one
end Go.Proofs.YtkogipaaioibaaaGreatDoor

namespace Go.Proofs.YtkogipaaioibaaaGreatDoor
set_option linter.unusedVariables false
set_option linter.unusedSimpArgs false
open Go.RowKit Go.Proofs.YtkogipaaioibaaaGreatDoorW.PrintWords
open PAll (info5)
/-- The head of a frame: its bytes up to the carriage return. -/
structure Hd (w : World) (src o m c H : Nat) (k : Int) (tl r xs : List Int) : Prop where
  rw : Rw w src o m c xs
  eq : xs = (k :: tl) ++ 13 :: 10 :: r
  no : (10 : Int) ∉ k :: tl
  ln : tl.length + 1 = H
theorem Hd.lf {w : World} {src o m c H : Nat} {k : Int} {tl r xs : List Int} (h : Hd w src o m c H k tl r xs) :
    Calls Tryz.prog 47 #[.slice (some ⟨src, o, none⟩) m c, .int .u8 10] w fun e w' => e = .returned (.int .i64 ((H + 1 : Nat) : Int)) ∧ Drawn0 w w' := by
  have h1 : xs = ((k :: tl) ++ [13]) ++ 10 :: r := by rw [h.eq]; simp
  have h2 := lf_any ((k :: tl) ++ [13]) r w (h1 ▸ h.rw) (by rw [List.mem_append]; rintro (q | q); exact h.no q; simp at q)
  have h3 : ((k :: tl) ++ [13]).length = H + 1 := by have := h.ln; simp; omega
  rw [h3] at h2
  exact h2
theorem Hd.len {w : World} {src o m c H : Nat} {k : Int} {tl r xs : List Int} (h : Hd w src o m c H k tl r xs) : m = H + 2 + r.length := by
  rw [← h.rw.len, h.eq]
  have := h.ln
  simp
  omega
theorem Hd.c0 {w : World} {src o m c H : Nat} {k : Int} {tl r xs : List Int} (h : Hd w src o m c H k tl r xs) : w.cell? ⟨src, o, none⟩ = some (.int .u8 k) := by
  have := h.rw.at 0 (by have := h.len; omega)
  rw [h.eq] at this
  exact this
theorem Hd.cH {w : World} {src o m c H : Nat} {k : Int} {tl r xs : List Int} (h : Hd w src o m c H k tl r xs) : w.cell? ⟨src, o + H, none⟩ = some (.int .u8 13) := by
  have h1 := h.rw.at H (by have := h.len; omega)
  rw [h1, h.eq, List.getD_eq_getElem?_getD, List.getElem?_append_right (by have := h.ln; simp; omega)]
  have : H - (k :: tl).length = 0 := by have := h.ln; simp; omega
  rw [this]
  rfl
theorem Hd.below {w w' : World} {src o m c H : Nat} {k : Int} {tl r xs : List Int} (h : Hd w src o m c H k tl r xs) (hb : Below w.heap.size w w') : Hd w' src o m c H k tl r xs := ⟨h.rw.below hb, h.eq, h.no, h.ln⟩
/-- The head's text behind its first letter. -/
theorem Hd.tail {w : World} {src o m c H : Nat} {k : Int} {tl r xs : List Int} (h : Hd w src o m c H k tl r xs) : Rw w src (o + 1) (H - 1) (c - 1) tl := by
  have h1 := h.rw.sub 1 (H - 1) (c - 1) (by have := h.len; omega) (by have := h.len; have := h.rw.le; omega)
  have h2 : (xs.drop 1).take (H - 1) = tl := by
    rw [h.eq]
    show (tl ++ 13 :: 10 :: r).take (H - 1) = tl
    rw [List.take_left']
    have := h.ln; omega
  rwa [h2] at h1
def FrR (n : Nat) (w : World) (e : Ending) (w' : World) : Prop := e = .returned (.tuple #[.int .i64 (n : Int), .bool true]) ∧ Below w.heap.size w w'
set_option maxHeartbeats 4000000 in
set_option maxRecDepth 100000 in
theorem frame_line {src o m c H : Nat} {k : Int} {tl r xs : List Int} (d : Int) (w : World) (h : Hd w src o m c H k tl r xs) (hk : lineK k) (hd0 : 0 ≤ d) (hd1 : d ≤ 32) :
    Calls Tryz.prog 31 #[.slice (some ⟨src, o, none⟩) m c, .int .i64 d] w fun e w' => FrR (H + 2) w e w' := by
  have HL := Lib.hid h.lf
  have hm := h.len
  have hh := h.ln
  have c0 := h.c0
  have cH := h.cH
  have hmc := h.rw.le
  have f1 : 1 ≤ H := by omega
  have f2 : H < m := by omega
  have f3 : (1 : Int) ≤ (H : Int) := by omega
  have f4 : (H : Int) < (m : Int) := by omega
  have f5 : H ≤ c := by omega
  have f6 : (m : Int) ≤ 100000 := by have := h.rw.sm; omega
  clear h hm hh
  rcases hk with rfl | rfl | rfl | rfl | rfl | rfl | rfl
  all_goals
    go_enter Tryz.func31, Tryz.ntmps31
    go_wp2_with fail
    refine HL.out.mono ?_
    rintro e w1 ⟨rfl, ⟨n1, rfl⟩⟩
    go_wp2_with fail
    go_ret2
    exact ⟨rfl, pw_below_drewN (Below.refl _ _) _⟩
set_option maxHeartbeats 4000000 in
set_option maxRecDepth 100000 in
theorem frame_null {src o m c : Nat} {k : Int} {r xs : List Int} (d : Int) (w : World) (h : Hd w src o m c 3 k [45, 49] r xs) (hk : k = 36 ∨ k = 42) (hd0 : 0 ≤ d) (hd1 : d ≤ 32) :
    Calls Tryz.prog 31 #[.slice (some ⟨src, o, none⟩) m c, .int .i64 d] w fun e w' => FrR 5 w e w' := by
  have HL := Lib.hid h.lf
  have hm := h.len
  have c0 := h.c0
  have cH := h.cH
  have hmc := h.rw.le
  have HNU := Lib.hid (fun W (hb : Below w.heap.size w W) => headNeg_any W (h.tail.below hb))
  have f2 : 5 ≤ m := by omega
  have f4 : (5 : Int) ≤ (m : Int) := by omega
  have f5 : 5 ≤ c := by omega
  have f6 : (m : Int) ≤ 100000 := by have := h.rw.sm; omega
  have HC0 := Lib.hid c0
  clear h hm
  rcases hk with rfl | rfl
  all_goals
    go_enter Tryz.func31, Tryz.ntmps31
    go_wp2_with fail
    refine HL.out.mono ?_
    rintro e w1 ⟨rfl, ⟨n1, rfl⟩⟩
    go_wp2_with fail
    refine (HNU.out _ (pw_below_drewN (Below.refl _ _) _)).mono ?_
    rintro e w2 ⟨rfl, hb⟩
    have hbb : Below w.heap.size w w2 := (pw_below_drewN (Below.refl _ _) n1).trans hb
    have HB := Lib.hid hbb
    have c1 := pw_cell_below hbb HC0.out
    clear hb hbb c0 cH
    go_wp2_with fail
    go_ret2
    exact ⟨rfl, HB.out⟩
/-- A text behind its head: its end. -/
structure Bl (w : World) (src o m c H n : Nat) (k : Int) (s : ByteArray) (rest : List Int) (xs : List Int) : Prop where
  hd : Hd w src o m c H k (decL n) (bytesOf s ++ ([13, 10] ++ rest)) xs
  sz : s.size = n
theorem Bl.cells {w : World} {src o m c H n : Nat} {k : Int} {s : ByteArray} {rest xs : List Int} (h : Bl w src o m c H n k s rest xs) : w.cell? ⟨src, o + (H + 2 + n), none⟩ = some (.int .u8 13) ∧ w.cell? ⟨src, o + (H + 2 + n + 1), none⟩ = some (.int .u8 10) ∧ H + n + 4 ≤ m := by
  have hb := bytesOf_length s
  have hs := h.sz
  have hm := h.hd.len
  have hl := h.hd.ln
  have hm2 : m = H + 2 + (n + (2 + rest.length)) := by rw [hm]; simp; omega
  have e : xs = ((k :: decL n) ++ [13, 10] ++ bytesOf s) ++ (13 :: 10 :: rest) := by rw [h.hd.eq]; simp
  have hl2 : ((k :: decL n) ++ [13, 10] ++ bytesOf s).length = H + 2 + n := by simp; omega
  refine ⟨?_, ?_, by omega⟩
  · rw [h.hd.rw.at (H + 2 + n) (by omega), e, List.getD_eq_getElem?_getD, List.getElem?_append_right (by omega), hl2, Nat.sub_self]
    rfl
  · rw [h.hd.rw.at (H + 2 + n + 1) (by omega), e, List.getD_eq_getElem?_getD, List.getElem?_append_right (by omega), hl2, show H + 2 + n + 1 - (H + 2 + n) = 1 by omega]
    rfl
set_option maxHeartbeats 4000000 in
set_option maxRecDepth 100000 in
theorem frame_blob {src o m c H n : Nat} {k : Int} {s : ByteArray} {rest xs : List Int} (d : Int) (w : World) (h : Bl w src o m c H n k s rest xs) (hk : blobK k) (hn : n ≤ 200) (hd0 : 0 ≤ d) (hd1 : d ≤ 32) :
    Calls Tryz.prog 31 #[.slice (some ⟨src, o, none⟩) m c, .int .i64 d] w fun e w' => FrR (H + 2 + n + 2) w e w' := by
  have HL := Lib.hid h.hd.lf
  have hm := h.hd.len
  have hh := h.hd.ln
  have hld := decL_le n (by omega)
  have c0 := h.hd.c0
  have cH := h.hd.cH
  obtain ⟨e0, e1, hme⟩ := h.cells
  have hmc := h.hd.rw.le
  have HNU := Lib.hid (fun W (hb : Below w.heap.size w W) => headNum_any n (by omega) W (h.hd.tail.below hb))
  have f1 : 1 ≤ H := by omega
  have f2 : H < m := by omega
  have f3 : (1 : Int) ≤ (H : Int) := by omega
  have f4 : (H : Int) + n + 4 ≤ (m : Int) := by omega
  have f5 : H ≤ c := by omega
  have f6 : (m : Int) ≤ 100000 := by have := h.hd.rw.sm; omega
  have f7 : H + n + 4 ≤ m := by omega
  have HC0 := Lib.hid (And.intro c0 (And.intro e0 e1))
  clear h hm hh hld e0 e1
  rcases hk with rfl | rfl | rfl
  all_goals
    go_enter Tryz.func31, Tryz.ntmps31
    go_wp2_with fail
    refine HL.out.mono ?_
    rintro e w1 ⟨rfl, ⟨n1, rfl⟩⟩
    go_wp2_with fail
    refine (HNU.out _ (pw_below_drewN (Below.refl _ _) _)).mono ?_
    rintro e w2 ⟨rfl, hb⟩
    have hbb : Below w.heap.size w w2 := (pw_below_drewN (Below.refl _ _) n1).trans hb
    have HB := Lib.hid hbb
    have c1 := pw_cell_below hbb HC0.out.1
    have e0 := pw_cell_below hbb HC0.out.2.1
    have e1 := pw_cell_below hbb HC0.out.2.2
    clear hb hbb c0 cH
    go_wp2_with fail
    go_ret2
    exact ⟨by push_cast; rfl, HB.out⟩
end Go.Proofs.YtkogipaaioibaaaGreatDoor

namespace Go.Proofs.YtkogipaaioibaaaGreatDoor
set_option linter.unusedVariables false
set_option linter.unusedSimpArgs false
open Go.RowKit Go.Proofs.YtkogipaaioibaaaGreatDoorW.PrintWords
open PAll (info5)
/-- The parts, one behind the other: where each begins, how long it is, and what bufferedValueLen says of it. -/
structure Parts (w : World) (src o m c H T : Nat) (d : Int) (P b : Nat → Nat) : Prop where
  p0 : P 0 = H + 2
  ps : ∀ j, j < T → P (j + 1) = P j + b j
  pm : ∀ j, j ≤ T → P j ≤ m
  lt : ∀ j, j < T → P j < m
  ca : ∀ j, j < T → ∀ W, Below w.heap.size w W → Calls Tryz.prog 49 #[.slice (some ⟨src, o + P j, none⟩) (m - P j) (c - P j), .int .i64 (d + 1)] W fun e w' => FrR (b j) W e w'
set_option maxHeartbeats 8000000 in
set_option maxRecDepth 100000 in
theorem frame_agg1 {src o m c H N : Nat} {k : Int} {r xs : List Int} {P b : Nat → Nat} (d : Int) (w : World) (h : Hd w src o m c H k (decL N) r xs) (hk : k = 42 ∨ k = 126 ∨ k = 62) (hN : N ≤ 1000) (hd0 : 0 ≤ d) (hd1 : d ≤ 32) (hP : Parts w src o m c H (N) d P b) :
    Calls Tryz.prog 31 #[.slice (some ⟨src, o, none⟩) m c, .int .i64 d] w fun e w' => FrR (P (N)) w e w' := by
  have HL := Lib.hid h.lf
  have hm := h.len
  have hh := h.ln
  have hld := decL_le N hN
  have c0 := h.c0
  have cH := h.cH
  have hmc := h.rw.le
  have HNU := Lib.hid (fun W (hb : Below w.heap.size w W) => headNum_any N hN W (h.tail.below hb))
  have f1 : 1 ≤ H := by omega
  have f2 : H < m := by omega
  have f3 : (1 : Int) ≤ (H : Int) := by omega
  have f4 : (H : Int) + 2 ≤ (m : Int) := by omega
  have f5 : H ≤ c := by omega
  have f6 : (m : Int) ≤ 100000 := by have := h.rw.sm; omega
  have f7 : (N : Int) ≤ 1000 := by omega
  have HC0 := Lib.hid c0
  have HP := Lib.hid hP
  have HMC := Lib.hid hmc
  clear h hm hh hld hP
  rcases hk with rfl | rfl | rfl
  all_goals
    go_enter Tryz.func31, Tryz.ntmps31
    go_wp2_with fail
    refine HL.out.mono ?_
    rintro e w1 ⟨rfl, ⟨n1, rfl⟩⟩
    go_wp2_with fail
    refine (HNU.out _ (pw_below_drewN (Below.refl _ _) _)).mono ?_
    rintro e w2 ⟨rfl, hb⟩
    have hbb : Below w.heap.size w w2 := (pw_below_drewN (Below.refl _ _) n1).trans hb
    have HB := Aside0.mk hbb
    have c1 := pw_cell_below hbb HC0.out
    clear hb hbb c0 cH HL HNU
    go_wp2_with fail
    go_loopg [13, 14] N (fun gk v13 v14 wk => ∃ i p : Nat, v13 = .int .i64 p ∧ v14 = .int .i64 i ∧ Aside0 (i ≤ N ∧ gk = N - i ∧ p = P (i)) ∧ Aside0 (Below w.heap.size w wk))
    case atStart => exact ⟨0, H + 2, by push_cast; rfl, rfl, ⟨by omega, by omega, HP.out.p0.symm⟩, HB⟩
    case round =>
      clear HB c1
      obtain ⟨i, p, rfl, rfl, HI, HBk0⟩ := hrel
      by_cases hi : i < N
      · have hii : (i : Int) < (N : Int) := by omega
        obtain ⟨b0, hb0⟩ : ∃ n, b (i) = n := ⟨_, rfl⟩
        obtain ⟨q1, hq1⟩ : ∃ n, p + b0 = n := ⟨_, rfl⟩
        have hP0 : P (i) = p := HI.out.2.2.symm
        have hP1 : P (i + 1) = q1 := by rw [HP.out.ps (i) (by omega), hP0, hb0]; exact hq1
        have hm0 : p < m := by rw [← hP0]; exact HP.out.lt _ (by omega)
        have hc0 : p < c := by have := HMC.out; omega
        have HC0 := Aside0.mk (HP.out.ca (i) (by omega))
        rw [hP0, hb0] at HC0
        have hi0 : (p : Int) < (m : Int) := by omega
        have hm1 : q1 ≤ m := by rw [← hP1]; exact HP.out.pm _ (by omega)
        have hi1 : (q1 : Int) ≤ (m : Int) := by omega
        have hs0 : (p : Int) + (b0 : Int) = (q1 : Int) := by omega
        have HPN := Aside0.mk hP1
        clear hb0 hq1 hP0 hP1
        go_wp2_with fail
        refine wp_loop_rounds 2 ?_
        rw [rounds_succ]
        go_wp2_with fail
        refine (HC0.out _ HBk0.out).mono ?_
        rintro e w0x ⟨rfl, hb⟩
        have HBk1 := Aside0.mk (HBk0.out.trans (hb.mono HBk0.out.size))
        clear hb HC0 HBk0
        go_wp2_with fail
        rw [rounds_succ]
        go_wp2_with fail
        go_roundg (N - (i + 1))
        case measure => have := HI.out.2.1; omega
        case rel => exact ⟨i + 1, q1, rfl, by go_num, ⟨by omega, by omega, HPN.out.symm⟩, HBk1⟩
      · have hie : i = N := by have := HI.out.1; omega
        subst hie
        go_wp2_with fail
        go_ret2
        refine ⟨?_, HBk0.out⟩
        rw [← HI.out.2.2]
        rfl
set_option maxHeartbeats 8000000 in
set_option maxRecDepth 100000 in
theorem frame_agg2 {src o m c H N : Nat} {k : Int} {r xs : List Int} {P b : Nat → Nat} (d : Int) (w : World) (h : Hd w src o m c H k (decL N) r xs) (hk : k = 37 ∨ k = 124) (hN : N ≤ 1000) (hd0 : 0 ≤ d) (hd1 : d ≤ 32) (hP : Parts w src o m c H (2 * N) d P b) :
    Calls Tryz.prog 31 #[.slice (some ⟨src, o, none⟩) m c, .int .i64 d] w fun e w' => FrR (P (2 * N)) w e w' := by
  have HL := Lib.hid h.lf
  have hm := h.len
  have hh := h.ln
  have hld := decL_le N hN
  have c0 := h.c0
  have cH := h.cH
  have hmc := h.rw.le
  have HNU := Lib.hid (fun W (hb : Below w.heap.size w W) => headNum_any N hN W (h.tail.below hb))
  have f1 : 1 ≤ H := by omega
  have f2 : H < m := by omega
  have f3 : (1 : Int) ≤ (H : Int) := by omega
  have f4 : (H : Int) + 2 ≤ (m : Int) := by omega
  have f5 : H ≤ c := by omega
  have f6 : (m : Int) ≤ 100000 := by have := h.rw.sm; omega
  have f7 : (N : Int) ≤ 1000 := by omega
  have HC0 := Lib.hid c0
  have HP := Lib.hid hP
  have HMC := Lib.hid hmc
  clear h hm hh hld hP
  rcases hk with rfl | rfl
  all_goals
    go_enter Tryz.func31, Tryz.ntmps31
    go_wp2_with fail
    refine HL.out.mono ?_
    rintro e w1 ⟨rfl, ⟨n1, rfl⟩⟩
    go_wp2_with fail
    refine (HNU.out _ (pw_below_drewN (Below.refl _ _) _)).mono ?_
    rintro e w2 ⟨rfl, hb⟩
    have hbb : Below w.heap.size w w2 := (pw_below_drewN (Below.refl _ _) n1).trans hb
    have HB := Aside0.mk hbb
    have c1 := pw_cell_below hbb HC0.out
    clear hb hbb c0 cH HL HNU
    go_wp2_with fail
    go_loopg [13, 14] N (fun gk v13 v14 wk => ∃ i p : Nat, v13 = .int .i64 p ∧ v14 = .int .i64 i ∧ Aside0 (i ≤ N ∧ gk = N - i ∧ p = P (2 * i)) ∧ Aside0 (Below w.heap.size w wk))
    case atStart => exact ⟨0, H + 2, by push_cast; rfl, rfl, ⟨by omega, by omega, HP.out.p0.symm⟩, HB⟩
    case round =>
      clear HB c1
      obtain ⟨i, p, rfl, rfl, HI, HBk0⟩ := hrel
      by_cases hi : i < N
      · have hii : (i : Int) < (N : Int) := by omega
        obtain ⟨b0, hb0⟩ : ∃ n, b (2 * i) = n := ⟨_, rfl⟩
        obtain ⟨q1, hq1⟩ : ∃ n, p + b0 = n := ⟨_, rfl⟩
        obtain ⟨b1, hb1⟩ : ∃ n, b (2 * i + 1) = n := ⟨_, rfl⟩
        obtain ⟨q2, hq2⟩ : ∃ n, q1 + b1 = n := ⟨_, rfl⟩
        have hP0 : P (2 * i) = p := HI.out.2.2.symm
        have hP1 : P (2 * i + 1) = q1 := by rw [HP.out.ps (2 * i) (by omega), hP0, hb0]; exact hq1
        have hm0 : p < m := by rw [← hP0]; exact HP.out.lt _ (by omega)
        have hc0 : p < c := by have := HMC.out; omega
        have HC0 := Aside0.mk (HP.out.ca (2 * i) (by omega))
        rw [hP0, hb0] at HC0
        have hi0 : (p : Int) < (m : Int) := by omega
        have hP2 : P (2 * i + 1 + 1) = q2 := by rw [HP.out.ps (2 * i + 1) (by omega), hP1, hb1]; exact hq2
        have hm1 : q1 < m := by rw [← hP1]; exact HP.out.lt _ (by omega)
        have hc1 : q1 < c := by have := HMC.out; omega
        have HC1 := Aside0.mk (HP.out.ca (2 * i + 1) (by omega))
        rw [hP1, hb1] at HC1
        have hi1 : (q1 : Int) < (m : Int) := by omega
        have hm2 : q2 ≤ m := by rw [← hP2]; exact HP.out.pm _ (by omega)
        have hi2 : (q2 : Int) ≤ (m : Int) := by omega
        have hs0 : (p : Int) + (b0 : Int) = (q1 : Int) := by omega
        have hs1 : (q1 : Int) + (b1 : Int) = (q2 : Int) := by omega
        have HPN := Aside0.mk hP2
        clear hb0 hq1 hP0 hb1 hq2 hP1 hP2
        go_wp2_with fail
        refine wp_loop_rounds 3 ?_
        rw [rounds_succ]
        go_wp2_with fail
        refine (HC0.out _ HBk0.out).mono ?_
        rintro e w0x ⟨rfl, hb⟩
        have HBk1 := Aside0.mk (HBk0.out.trans (hb.mono HBk0.out.size))
        clear hb HC0 HBk0
        go_wp2_with fail
        rw [rounds_succ]
        go_wp2_with fail
        refine (HC1.out _ HBk1.out).mono ?_
        rintro e w1x ⟨rfl, hb⟩
        have HBk2 := Aside0.mk (HBk1.out.trans (hb.mono HBk1.out.size))
        clear hb HC1 HBk1
        go_wp2_with fail
        rw [rounds_succ]
        go_wp2_with fail
        go_roundg (N - (i + 1))
        case measure => have := HI.out.2.1; omega
        case rel => exact ⟨i + 1, q2, rfl, by go_num, ⟨by omega, by omega, by rw [show 2 * (i + 1) = 2 * i + 1 + 1 by omega]; exact HPN.out.symm⟩, HBk2⟩
      · have hie : i = N := by have := HI.out.1; omega
        subst hie
        go_wp2_with fail
        go_ret2
        refine ⟨?_, HBk0.out⟩
        rw [← HI.out.2.2]
        rfl
end Go.Proofs.YtkogipaaioibaaaGreatDoor

namespace Go.Proofs.YtkogipaaioibaaaGreatDoor
set_option linter.unusedVariables false
set_option linter.unusedSimpArgs false
open Go.RowKit Go.Proofs.YtkogipaaioibaaaGreatDoorW.PrintWords
open PAll (info5)
/-- What bufferedFrameLen tells of a reply: how far its frame goes; an attribute's frame ends where the reply behind it begins. -/
def FrX (x : RP) (l : List Int) (fl : Nat) : Prop := (x.f0 ≠ 124 ∧ fl = l.length) ∨ (x.f0 = 124 ∧ ∃ y l1 l2, l = l1 ++ l2 ∧ fl = l1.length ∧ wire y l2 ∧ nodes y < nodes x ∧ nest y < nest x ∧ x.f4.getLast? = some y)
def ValSaid (n : Nat) : Prop :=
  ∀ (x : RP) (l rest xs : List Int) (src o m c : Nat) (d : Int) (w : World), nodes x ≤ n → wire x l → Rw w src o m c xs → xs = l ++ rest → 0 ≤ d → d + nest x ≤ 33 →
    Calls Tryz.prog 49 #[.slice (some ⟨src, o, none⟩) m c, .int .i64 d] w fun e w' => FrR l.length w e w'
def FrameSaid (n : Nat) : Prop :=
  ∀ (x : RP) (l rest xs : List Int) (src o m c : Nat) (d : Int) (w : World), nodes x ≤ n → wire x l → Rw w src o m c xs → xs = l ++ rest → 0 ≤ d → d + nest x ≤ 33 →
    ∃ fl, FrX x l fl ∧ Calls Tryz.prog 31 #[.slice (some ⟨src, o, none⟩) m c, .int .i64 d] w fun e w' => FrR fl w e w'
/-- The parts of a row of replies. -/
theorem pieces : ∀ (kids : List RP) (t : List Int), wires kids t → ∃ ps : List (List Int), ps.length = kids.length ∧ t = ps.flatten ∧ ∀ j x, kids[j]? = some x → wire x (ps.getD j []) ∧ 1 ≤ (ps.getD j []).length
  | [], t, h => by simp only [wires] at h; exact ⟨[], rfl, by simp [h], fun j x hj => by simp at hj⟩
  | x :: r, t, h => by
    simp only [wires] at h
    obtain ⟨a, b, rfl, h1, h2⟩ := h
    obtain ⟨ps, hl, hb, hp⟩ := pieces r b h2
    refine ⟨a :: ps, by simp [hl], by simp [hb], fun j y hj => ?_⟩
    cases j with
    | zero =>
      obtain rfl : x = y := by simpa using hj
      obtain ⟨q, hq⟩ := wire_head h1
      exact ⟨h1, by show 1 ≤ a.length; rw [hq]; simp⟩
    | succ j => exact hp j y (by simpa using hj)
/-- The parts of a reply with parts, for the walk. -/
theorem parts_of {n : Nat} (ih : ValSaid n) {kids : List RP} {ps : List (List Int)} {rest xs : List Int} {src o m c H T : Nat} {k : Int} {tl : List Int} {d : Int} {w : World}
    (h : Hd w src o m c H k tl (ps.flatten ++ rest) xs) (hl : ps.length = kids.length) (hp : ∀ j x, kids[j]? = some x → wire x (ps.getD j []) ∧ 1 ≤ (ps.getD j []).length) (hT : T ≤ kids.length) (hn : nodesAll kids ≤ n) (hd0 : 0 ≤ d) (hd1 : d + nestAll kids + 1 ≤ 33) :
    Parts w src o m c H T d (fun j => H + 2 + (ps.take j).flatten.length) (fun j => (ps.getD j []).length) := by
  have hm := h.len
  have hln := h.ln
  have hsp : ∀ j, j < ps.length → ps.flatten = (ps.take j).flatten ++ (ps.getD j [] ++ (ps.drop (j + 1)).flatten) := fun j hj => by
    have h1 := List.take_append_drop j ps
    rw [List.drop_eq_getElem_cons hj] at h1
    have h2 := congrArg List.flatten h1
    rw [List.flatten_append, List.flatten_cons] at h2
    rw [List.getD_eq_getElem?_getD, List.getElem?_eq_getElem hj]
    exact h2.symm
  have htk : ∀ j, j < ps.length → (ps.take (j + 1)).flatten.length = (ps.take j).flatten.length + (ps.getD j []).length := fun j hj => by
    rw [List.take_add_one, List.getElem?_eq_getElem hj, List.flatten_append, List.length_append, List.getD_eq_getElem?_getD, List.getElem?_eq_getElem hj]
    simp
  have hle : ∀ j, (ps.take j).flatten.length ≤ ps.flatten.length := fun j => by
    have h2 := congrArg List.flatten (List.take_append_drop j ps)
    rw [List.flatten_append] at h2
    have h3 := congrArg List.length h2
    rw [List.length_append] at h3
    omega
  have hm2 : m = H + 2 + (ps.flatten.length + rest.length) := by rw [hm, List.length_append]
  refine ⟨by simp, fun j hj => ?_, fun j hj => ?_, fun j hj => ?_, fun j hj W hb => ?_⟩
  · show H + 2 + _ = H + 2 + _ + _
    rw [htk j (by omega)]
    omega
  · have := hle j
    show H + 2 + _ ≤ m
    omega
  · have hj2 : j < ps.length := by omega
    have h1 := hle (j + 1)
    rw [htk j hj2] at h1
    obtain ⟨x, hx⟩ : ∃ x, kids[j]? = some x := ⟨_, List.getElem?_eq_getElem (by omega)⟩
    have h2 := (hp j x hx).2
    show H + 2 + _ < m
    omega
  · have hj2 : j < ps.length := by omega
    obtain ⟨x, hx⟩ : ∃ x, kids[j]? = some x := ⟨_, List.getElem?_eq_getElem (by omega)⟩
    have hrw := (h.rw.below hb).drop (H + 2 + (ps.take j).flatten.length) (by have := hle j; omega)
    have hxs : xs.drop (H + 2 + (ps.take j).flatten.length) = ps.getD j [] ++ ((ps.drop (j + 1)).flatten ++ rest) := by
      rw [h.eq, ← List.drop_drop]
      have e : ((k :: tl) ++ 13 :: 10 :: (ps.flatten ++ rest)).drop (H + 2) = ps.flatten ++ rest := by
        rw [show (k :: tl) ++ 13 :: 10 :: (ps.flatten ++ rest) = ((k :: tl) ++ [13, 10]) ++ (ps.flatten ++ rest) by simp]
        exact List.drop_left' (by simp; omega)
      rw [e, hsp j hj2, List.append_assoc, List.drop_left', List.append_assoc]
      rfl
    exact ih x _ _ _ src _ _ _ (d + 1) W (by have := nodes_at hx; omega) (hp j x hx).1 hrw hxs (by omega) (by have := nest_at hx; omega)
theorem frame_said (n : Nat) (ih : ValSaid n) : FrameSaid (n + 1) := by
  intro x l rest xs src o m c d w hn hw hr hx hd0 hd1
  obtain ⟨k, i, f, s, kids⟩ := x
  simp only [nodes] at hn
  simp only [nest] at hd1
  simp only [wire] at hw
  have hd32 : d ≤ 32 := by omega
  rcases hw with ⟨hk, t, rfl, h10, ht⟩ | ⟨hk, hs, rfl⟩ | ⟨hk, _, rfl⟩ | ⟨hk, hlen, h37, h124, t, rfl, hws⟩
  · have hh : Hd w src o m c (t.length + 1) k t rest xs := ⟨hr, by rw [hx]; simp, by rw [List.mem_cons]; rintro (q | q); (unfold lineK at hk; omega); exact h10 q, rfl⟩
    refine ⟨t.length + 1 + 2, Or.inl ⟨?_, by simp⟩, frame_line d w hh hk hd0 hd32⟩
    show k ≠ 124
    unfold lineK at hk; omega
  · have hb := bytesOf_length s
    have hh : Bl w src o m c ((decL s.size).length + 1) s.size k s rest xs := ⟨⟨hr, by rw [hx]; simp, by rw [List.mem_cons]; rintro (q | q); (unfold blobK at hk; omega); exact decL_no10 _ q, rfl⟩, rfl⟩
    refine ⟨(decL s.size).length + 1 + 2 + s.size + 2, Or.inl ⟨?_, by simp [hb]; omega⟩, frame_blob d w hh hk hs hd0 hd32⟩
    show k ≠ 124
    unfold blobK at hk; omega
  · have hh : Hd w src o m c 3 k [45, 49] rest xs := ⟨hr, by rw [hx]; rfl, by simp only [List.mem_cons, List.not_mem_nil, or_false]; omega, rfl⟩
    refine ⟨5, Or.inl ⟨?_, rfl⟩, frame_null d w hh hk hd0 hd32⟩
    show k ≠ 124
    omega
  · obtain ⟨ps, hl, rfl, hp⟩ := pieces kids t hws
    obtain ⟨N, hN⟩ : ∃ N, aggN k kids.length = N := ⟨_, rfl⟩
    rw [hN] at hx ⊢
    have hN1 : N ≤ 1000 := by rw [← hN]; unfold aggN; split <;> omega
    have hh : Hd w src o m c ((decL N).length + 1) k (decL N) (ps.flatten ++ rest) xs := ⟨hr, by rw [hx]; simp, by rw [List.mem_cons]; rintro (q | q); (unfold aggK at hk; omega); exact decL_no10 _ q, rfl⟩
    have hfull : ∀ T, T = kids.length → (ps.take T).flatten.length = ps.flatten.length := fun T e => by rw [e, ← hl, List.take_length]
    have hparts := fun T hT => parts_of (T := T) ih hh hl hp hT (by omega) hd0 (by omega)
    by_cases h1 : k = 42 ∨ k = 126 ∨ k = 62
    · have hNe : N = kids.length := by rw [← hN]; unfold aggN; rw [if_neg (by omega)]
      refine ⟨(decL N).length + 1 + 2 + (ps.take N).flatten.length, Or.inl ⟨?_, ?_⟩, by have hf := frame_agg1 d w hh h1 hN1 hd0 hd32 (hparts N (by omega)); exact hf⟩
      · show k ≠ 124
        omega
      · rw [hfull N hNe]; simp; omega
    · have h2 : k = 37 ∨ k = 124 := by unfold aggK at hk; omega
      have hNe : N = kids.length / 2 := by rw [← hN]; unfold aggN; rw [if_pos (by omega)]
      refine ⟨(decL N).length + 1 + 2 + (ps.take (2 * N)).flatten.length, ?_, by have hf := frame_agg2 d w hh h2 hN1 hd0 hd32 (hparts (2 * N) (by omega)); exact hf⟩
      by_cases h3 : k = 37
      · have := h37 h3
        refine Or.inl ⟨?_, ?_⟩
        · show k ≠ 124
          omega
        · rw [hfull (2 * N) (by omega)]; simp; omega
      · have hk124 : k = 124 := by omega
        have hodd := h124 hk124
        have hT : 2 * N + 1 = kids.length := by omega
        obtain ⟨y, hy⟩ : ∃ y, kids[2 * N]? = some y := ⟨_, List.getElem?_eq_getElem (by omega)⟩
        have hj : 2 * N < ps.length := by omega
        have h4 := List.take_append_drop (2 * N) ps
        rw [List.drop_eq_getElem_cons hj, List.drop_of_length_le (by omega)] at h4
        have h5 := congrArg List.flatten h4
        rw [List.flatten_append, List.flatten_cons, List.flatten_nil, List.append_nil] at h5
        refine Or.inr ⟨hk124, y, k :: (decL N ++ ([13, 10] ++ (ps.take (2 * N)).flatten)), ps.getD (2 * N) [], ?_, by simp; omega, (hp _ _ hy).1, ?_, ?_, ?_⟩
        · rw [List.getD_eq_getElem?_getD, List.getElem?_eq_getElem hj, ← h5]
          simp
        · have := nodes_at hy
          simp only [nodes]; omega
        · have := nest_at hy
          simp only [nest]; omega
        · show kids.getLast? = some y
          rw [List.getLast?_eq_getElem?, show kids.length - 1 = 2 * N by omega]
          exact hy
set_option maxHeartbeats 4000000 in
set_option maxRecDepth 100000 in
theorem val_said (n : Nat) (ih : FrameSaid n) : ValSaid n := by
  intro x l rest xs src o m c d w hn hw hr hx hd0 hd1
  have hm := hr.len
  have hle := hr.le
  have HR := Aside0.mk hr
  have f6 : (m : Int) ≤ 100000 := by have := hr.sm; omega
  have hxl : l.length + rest.length = m := by rw [← hm, hx, List.length_append]
  have HL := Aside0.mk (And.intro hxl hle)
  have HI := Aside0.mk (And.intro hx (And.intro hn (And.intro hw hd1)))
  have HIH := Aside0.mk ih
  clear hm hle hr hxl hx hn hw hd1 ih
  go_enter Tryz.func49, Tryz.ntmps49
  go_wp2_with fail
  go_loopg [6] (nodes x) (fun gk v6 wk => ∃ (t : Nat) (y : RP) (l' : List Int), v6 = .int .i64 t ∧ Aside0 (gk = nodes y ∧ t + l'.length = l.length ∧ xs.drop t = l' ++ rest ∧ wire y l' ∧ nodes y ≤ n ∧ d + nest y ≤ 33) ∧ Aside0 (Below w.heap.size w wk))
  case atStart => exact ⟨0, x, l, rfl, ⟨rfl, by omega, by simpa using HI.out.1, HI.out.2.2.1, HI.out.2.1, HI.out.2.2.2⟩, ⟨Below.refl _ _⟩⟩
  case round =>
    clear HI
    obtain ⟨t, y, l', rfl, HY, HBk⟩ := hrel
    obtain ⟨hg, htl, hdr, hwy, hny, hdy⟩ := HY.out
    obtain ⟨q, hq⟩ := wire_head hwy
    have hl1 : 1 ≤ l'.length := by rw [hq]; simp
    have htm : t < m := by have := HL.out.1; omega
    have hrw := (HR.out.below HBk.out).drop t (by omega)
    obtain ⟨fl, hfl, hcall⟩ := HIH.out y l' rest _ src _ _ _ d _ hny hwy hrw hdr hd0 hdy
    have hct := HR.out.at t htm
    have hby : xs.getD t 0 = y.f0 := by
      have h1 : (xs.drop t).getD 0 0 = y.f0 := by rw [hdr, hq]; rfl
      rw [List.getD_eq_getElem?_getD, List.getElem?_drop] at h1
      rw [List.getD_eq_getElem?_getD]
      simpa using h1
    rw [hby] at hct
    have hct2 := pw_cell_below HBk.out hct
    obtain ⟨kk, hkk⟩ : ∃ kk, y.f0 = kk := ⟨_, rfl⟩
    rw [hkk] at hct hct2
    have hflm : t + fl ≤ m := by
      have := HL.out.1
      rcases hfl with ⟨_, e⟩ | ⟨_, y2, l1, l2, e1, e2, _⟩
      · omega
      · have := congrArg List.length e1
        rw [List.length_append] at this
        omega
    have HF := Aside0.mk (And.intro hfl hkk)
    have HC := Aside0.mk hcall
    have HCT := Aside0.mk hct
    have i1 : (t : Int) < (m : Int) := by omega
    have i2 : (t : Int) + (fl : Int) ≤ (m : Int) := by omega
    have i3 : t < c := by have := HL.out.2; omega
    clear hg htl hdr hwy hny hdy hq hl1 hrw hfl hcall hct hby hkk hflm hct2
    go_wp2_with fail
    refine HC.out.mono ?_
    rintro e w2 ⟨rfl, hb⟩
    have HB2 := Aside0.mk (HBk.out.trans (hb.mono HBk.out.size))
    have hc2 := pw_cell_below HB2.out HCT.out
    clear hb HC HBk
    by_cases hk : kk = 124
    · subst hk
      go_wp2_with fail
      rcases HF.out.1 with ⟨e, _⟩ | ⟨_, y2, l1, l2, e1, e2, hw2, hn2, hne2, _⟩
      · exact absurd HF.out.2 e
      have hlen := congrArg List.length e1
      rw [List.length_append] at hlen
      have hdr2 : xs.drop (t + fl) = l2 ++ rest := by
        rw [← List.drop_drop, HY.out.2.2.1, e1, List.append_assoc, e2]
        exact List.drop_left' rfl
      have hg := HY.out.1
      have h2 := HY.out.2.1
      have h5 := HY.out.2.2.2.2.1
      have h6 := HY.out.2.2.2.2.2
      go_roundg (nodes y2)
      case measure => omega
      case rel => exact ⟨t + fl, y2, l2, by go_num, ⟨rfl, by omega, hdr2, hw2, by omega, by omega⟩, HB2⟩
    · have hkb : (kk != 124) = true := bne_iff_ne.2 hk
      go_wp2_with fail
      go_ret2
      refine ⟨?_, HB2.out⟩
      rcases HF.out.1 with ⟨_, e⟩ | ⟨e, _⟩
      · have := HY.out.2.1
        rw [e, ← this]
        push_cast
        rfl
      · exact absurd (HF.out.2.symm.trans e) hk
theorem val_all : ∀ n, ValSaid n ∧ FrameSaid n := by
  intro n
  induction n with
  | zero => exact ⟨fun x _ _ _ _ _ _ _ _ _ h => by have := nodes_pos x; omega, fun x _ _ _ _ _ _ _ _ _ h => by have := nodes_pos x; omega⟩
  | succ n ih => exact ⟨val_said _ (frame_said n ih.1), frame_said n ih.1⟩
end Go.Proofs.YtkogipaaioibaaaGreatDoor

namespace Go.Proofs.YtkogipaaioibaaaGreatDoor
set_option linter.unusedVariables false
set_option linter.unusedSimpArgs false
open Go.RowKit Go.Proofs.YtkogipaaioibaaaGreatDoorW.PrintWords Go.Proofs.YtkogipaaioibaaaGreatDoorW.PrintLast Go.Proofs.YtkogipaaioibaaaGreatDoorW.PrintMore
open PAll (info5)
mutual
/-- No push within. -/
def free62 : RP → Prop
  | ⟨k, _, _, _, kids⟩ => k ≠ 62 ∧ free62All kids
def free62All : List RP → Prop
  | [] => True
  | x :: r => free62 x ∧ free62All r
end
theorem free62_mem : ∀ {l : List RP}, free62All l → ∀ x ∈ l, free62 x
  | [], _, x, hx => by simp at hx
  | y :: r, h, x, hx => by
    simp only [free62All] at h
    rcases List.mem_cons.1 hx with rfl | q
    · exact h.1
    · exact free62_mem h.2 x q
theorem free62_last {x y : RP} (h : free62 x) (hy : x.f4.getLast? = some y) : free62 y := by
  obtain ⟨k, i, f, s, kids⟩ := x
  simp only [free62] at h
  exact free62_mem h.2 y (List.mem_of_getLast? hy)
theorem free62_head {x : RP} (h : free62 x) : x.f0 ≠ 62 := by
  obtain ⟨k, i, f, s, kids⟩ := x
  simp only [free62] at h
  exact h.1
theorem RB.rw {w : World} {rb src c : Nat} {xs : List Int} {bf : Int} (h : RB w rb src 0 c xs bf) (hz : xs.length ≤ 32768) : Rw w src 0 xs.length c xs := ⟨h.row, h.le, by omega⟩
theorem pw_cell_grown {w w' : World} {pr rb : Nat} {v : Value} (h : w.cell? ⟨pr, 0, none⟩ = some v) (hg : w.drew.grownBy w' (some rb)) (hne : pr ≠ rb) : w'.cell? ⟨pr, 0, none⟩ = some v := by
  have hlt : pr < w.heap.size := block_lt_of_cell h
  rw [World.cell?_of_block (w := w.drew) (w' := w') (a := ⟨pr, 0, none⟩) (hg.block pr hlt (by intro e; injection e with e; exact hne e))]
  exact h
set_option maxHeartbeats 4000000 in
set_option maxRecDepth 100000 in
theorem hasReply_any {pr rb src c : Nat} {xs l rest : List Int} {x : RP} (w : World) (hp : w.heap[pr]? = some (.cells #[.pointer (some ⟨rb, 0, none⟩)] 63 (0, 0))) (hpr : pr ≠ rb) (h : RB w rb src 0 c xs xs.length) (hz : xs.length ≤ 32768)
    (hx : xs = l ++ rest) (hw : wire x l) (hf : free62 x) (hn : nest x ≤ 33) :
    Calls Tryz.prog 19 #[.pointer (some ⟨pr, 0, none⟩)] w fun e w' => e = .returned (.bool true) ∧ w.grownBy w' (some rb) := by
  have p0 : w.cell? ⟨pr, 0, none⟩ = some (.pointer (some ⟨rb, 0, none⟩)) := blk_cell hp 0
  obtain ⟨m, hm⟩ : ∃ m, xs.length = m := ⟨_, rfl⟩
  rw [hm] at h hz
  have HBU := Lib.hid (fun W (hb : Below w.heap.size w W) => buffered_any W (h.below hb))
  have HPE := Lib.hid (fun W (hb : Below w.heap.size w W) => peek_any m W (h.below hb) (by omega) (by omega))
  have hmi : (m : Int) ≤ 32768 := by omega
  have HM := Lib.hid (And.intro hm (And.intro hx (And.intro hw (And.intro hf (And.intro hn h.le)))))
  clear h hz hx hw hf hn hp hm
  go_enter Tryz.func19, Tryz.ntmps19
  go_wp2_with fail
  go_region_held3 (fun wi : World => wi.cell? ⟨pr, 0, none⟩ = some (.pointer (some ⟨rb, 0, none⟩)))
    (first | exact p0 | (exact (pw_cell_grown p0 ‹World.grownBy _ _ _› hpr)))
    (first
      | (go_at_call 30; refine (HBU.out _ (by first | exact below_drew (Below.refl _ _) | exact pw_below_drewN (Below.refl _ _) _)).mono ?_; rintro e w1 ⟨rfl, rfl⟩)
      | (go_at_call 29; refine (HPE.out _ (by first | exact below_drew (Below.refl _ _) | exact pw_below_drewN (Below.refl _ _) _)).mono ?_; rintro e w2 ⟨bf2, rfl, hr2, hk2, hg2, -⟩))
  have HR2 := Aside0.mk (And.intro hr2 (show w.grownBy w2 (some rb) from grown_trans' (grown_below' (below_drew (Below.refl _ _)) _) hg2))
  clear hr2 hk2 hg2 HBU HPE
  go_wp2_with fail
  go_loopg [3] (nodes x) (fun gk v3 wk => ∃ (t : Nat) (y : RP) (l' : List Int), v3 = .slice (some ⟨src, t, none⟩) (m - t) (c - t) ∧ Aside0 (gk = nodes y ∧ t + l'.length + rest.length = m ∧ xs.drop t = l' ++ rest ∧ wire y l' ∧ free62 y ∧ nest y ≤ 33) ∧ Aside0 (Rw wk src 0 m c xs ∧ w.grownBy wk (some rb)))
  case atStart => exact ⟨0, x, l, rfl, ⟨rfl, by have h1 := HM.out.1; rw [HM.out.2.1, List.length_append] at h1; omega, HM.out.2.1, HM.out.2.2.1, HM.out.2.2.2.1, HM.out.2.2.2.2.1⟩, ⟨by have h := HR2.out.1.rw (by have := HM.out.1; omega); rw [HM.out.1] at h; exact h, HR2.out.2⟩⟩
  case round =>
    clear HR2
    obtain ⟨t, y, l', rfl, HY, HBk⟩ := hrel
    obtain ⟨hg, htl, hdr, hwy, hfy, hny⟩ := HY.out
    obtain ⟨q, hq⟩ := wire_head hwy
    have hl1 : 1 ≤ l'.length := by rw [hq]; simp
    have htm : t < m := by omega
    have hrw := HBk.out.1.drop t (by omega)
    rw [Nat.zero_add] at hrw
    obtain ⟨fl, hfl, hcall⟩ := (val_all (nodes y)).2 y l' rest _ src _ _ _ 0 _ (Nat.le_refl _) hwy hrw hdr (by omega) (by omega)
    have hct := HBk.out.1.at t htm
    rw [Nat.zero_add] at hct
    have hby : xs.getD t 0 = y.f0 := by
      have h1 : (xs.drop t).getD 0 0 = y.f0 := by rw [hdr, hq]; rfl
      rw [List.getD_eq_getElem?_getD, List.getElem?_drop] at h1
      rw [List.getD_eq_getElem?_getD]
      simpa using h1
    rw [hby] at hct
    have hk62 := free62_head hfy
    obtain ⟨kk, hkk⟩ : ∃ kk, y.f0 = kk := ⟨_, rfl⟩
    rw [hkk] at hct hk62
    have hkb : (kk != 62) = true := bne_iff_ne.2 hk62
    have hkb2 : (kk == 62) = false := beq_eq_false_iff_ne.2 hk62
    have hflm : t + fl ≤ m := by
      rcases hfl with ⟨_, e⟩ | ⟨_, y2, l1, l2, e1, e2, _⟩
      · omega
      · have := congrArg List.length e1
        rw [List.length_append] at this
        omega
    have HF := Aside0.mk (And.intro hfl hkk)
    have HC := Aside0.mk hcall
    have HCT := Aside0.mk hct
    have hmc := HM.out.2.2.2.2.2
    have hmm := HM.out.1
    have i1 : (t : Int) < (m : Int) := by omega
    have i2 : (t : Int) + (fl : Int) ≤ (m : Int) := by omega
    have i3 : t < c := by omega
    have i4 : fl ≤ m - t := by omega
    have i5 : 0 < m - t := by omega
    have i6 : fl ≤ c - t := by omega
    have HI6 := Aside0.mk (And.intro hflm (And.intro hmc hmm))
    clear hg htl hdr hwy hfy hny hq hl1 hrw hfl hcall hct hby hkk hflm hmc hmm hk62
    go_wp2_with fail
    refine HC.out.mono ?_
    rintro e w3 ⟨rfl, hb⟩
    have HB2 := Aside0.mk (And.intro (HBk.out.1.below hb) (grown_trans' HBk.out.2 (grown_below' hb _)))
    have hc2 := pw_cell_below hb HCT.out
    clear hb HC HBk
    by_cases hk : kk = 124
    · subst hk
      rcases HF.out.1 with ⟨e, _⟩ | ⟨_, y2, l1, l2, e1, e2, hw2, hn2, hne2, hla⟩
      · exact absurd HF.out.2 e
      have hlen := congrArg List.length e1
      rw [List.length_append] at hlen
      obtain ⟨q2, hq2⟩ := wire_head hw2
      have hl2 : 1 ≤ l2.length := by rw [hq2]; simp
      have hg := HY.out.1
      have h2 := HY.out.2.1
      have h6 := HY.out.2.2.2.2.2
      have hdr2 : xs.drop (t + fl) = l2 ++ rest := by
        rw [← List.drop_drop, HY.out.2.2.1, e1, List.append_assoc, e2]
        exact List.drop_left' rfl
      have hff := free62_last HY.out.2.2.2.2.1 hla
      have i7 : fl < m - t := by omega
      have i8 : fl < c - t := by have := HI6.out; omega
      have HZ := Aside0.mk (And.intro hg (And.intro h2 (And.intro h6 (And.intro hlen (And.intro hw2 (And.intro hn2 (And.intro hne2 (And.intro hdr2 (And.intro hff e2)))))))))
      clear hg h2 h6 hlen hw2 hn2 hne2 hla hdr2 hff e1 e2 hq2 hl2
      go_wp2_with fail
      obtain ⟨hg, h2, h6, hlen, hw2, hn2, hne2, hdr2, hff, e2⟩ := HZ.out
      go_roundg (nodes y2)
      case measure => omega
      case rel => exact ⟨t + fl, y2, l2, by rw [Nat.sub_sub, Nat.sub_sub], ⟨rfl, by omega, hdr2, hw2, hff, by omega⟩, HB2⟩
    · have hkc : (kk != 124) = true := bne_iff_ne.2 hk
      go_wp2_with fail
      all_goals
        go_ret
        exact ⟨rfl, HB2.out.2⟩
set_option maxHeartbeats 4000000 in
set_option maxRecDepth 100000 in
/-- proto.Reader.Peek of all there is. -/
theorem peekAll_any {pr rb src c : Nat} {xs : List Int} (w : World) (hp : w.heap[pr]? = some (.cells #[.pointer (some ⟨rb, 0, none⟩)] 63 (0, 0))) (h : RB w rb src 0 c xs 0) (hz : xs.length ≤ 32768) :
    Calls Tryz.prog 18 #[.pointer (some ⟨pr, 0, none⟩), .int .i64 (xs.length : Int)] w fun e w' => (∃ v, e = .returned (.tuple #[v, .nilIface])) ∧ RB w' rb src 0 c xs xs.length ∧ w.grownBy w' (some rb) := by
  have p0 : w.cell? ⟨pr, 0, none⟩ = some (.pointer (some ⟨rb, 0, none⟩)) := blk_cell hp 0
  have HP := Lib.hid (peek_any xs.length w h (Nat.le_refl _) hz)
  clear h hz hp
  go_enter Tryz.func18, Tryz.ntmps18
  go_wp2_with fail
  refine HP.out.mono ?_
  rintro e w1 ⟨bf, rfl, h1, hk, hg, -⟩
  have hbf : bf = xs.length := by have := h1.bf1; omega
  subst hbf
  have HH := Lib.hid (And.intro h1 hg)
  clear h1 hk hg HP
  go_wp2_with fail
  go_ret2
  exact ⟨⟨_, rfl⟩, HH.out⟩
set_option maxHeartbeats 4000000 in
set_option maxRecDepth 100000 in
theorem whole_any (s : ByteArray) (x : RP) (l rest : List Int) (hx : bytesOf s = l ++ rest) (hw : wire x l) (hf : free62 x) (hn : nest x ≤ 33) (hs : s.size ≤ 32768) (w : World) :
    Calls Tryz.prog 11 #[.string s] w fun e w' => e = .returned (.bool true) ∧ Below w.heap.size w w' := by
  have hbs := fun w => print_bytes (P := Tryz.prog) 9 42 5 Tryz.underlying9 Tryz.underlying42 Tryz.underlying5 s w
  have hl := bytesOf_length s
  have hpk := peekAll_any (rdW w s) (rdW_pr w s) (rdW_rb w s (by omega)) (by omega)
  rw [hl] at hpk
  have HNR := Lib.hid (newReader_at w s)
  have HPK := Lib.hid hpk
  have HBW := Lib.hid (rdW_below w s)
  have HM := Lib.hid (And.intro hx (And.intro hw (And.intro hf (And.intro hn (And.intro hs hl)))))
  clear hx hw hf hn hs hl hpk
  go_enter Tryz.func11, Tryz.ntmps11
  go_wp2_with fail
  refine HNR.out.mono ?_
  rintro e w1 ⟨rfl, rfl⟩
  clear hbs
  go_wp2_with fail
  refine HPK.out.mono ?_
  rintro e w2 ⟨⟨v, rfl⟩, hr, hg⟩
  have hpr : w2.heap[w.heap.size + 2]? = some (.cells #[.pointer (some ⟨w.heap.size + 1, 0, none⟩)] 63 (0, 0)) := (hg.block _ (blk_lt (rdW_pr w s)) (by intro e; injection e with e; omega)).trans (rdW_pr w s)
  have hb2 : Below w.heap.size w w2 := HBW.out.grown hg HBW.out.size (by rintro q hq; injection hq with hq; omega)
  have hl := HM.out.2.2.2.2.2
  have HQ := Lib.hid (hasReply_any w2 hpr (by omega) (by rw [hl]; exact hr) (by have := HM.out.2.2.2.2.1; omega) HM.out.1 HM.out.2.1 HM.out.2.2.1 HM.out.2.2.2.1)
  have HB2 := Lib.hid hb2
  clear hr hg hpr hb2 hl HPK
  go_wp2_with fail
  refine HQ.out.mono ?_
  rintro e w3 ⟨rfl, hg⟩
  have hb3 : Below w.heap.size w w3 := HB2.out.grown hg HB2.out.size (by rintro q hq; injection hq with hq; omega)
  have HB3 := Lib.hid hb3
  clear hg hb3
  go_wp2_with fail
  go_ret
  exact ⟨rfl, HB3.out⟩
end Go.Proofs.YtkogipaaioibaaaGreatDoor

namespace Go.Proofs.YtkogipaaioibaaaGreatDoor
set_option linter.unusedVariables false
set_option linter.unusedSimpArgs false
open Go.RowKit Go.Proofs.YtkogipaaioibaaaGreatDoorW.PrintWords Go.Proofs.YtkogipaaioibaaaGreatDoorW.PrintLast Go.Proofs.YtkogipaaioibaaaGreatDoorW.PrintMore
attribute [local go_sem] max2_int min2_int max_two min_two max_three min_three max_four min_four
theorem nestAll_take {l : List RP} {j : Nat} {x : RP} (h : l[j]? = some x) : nestAll (l.take (j + 1)) = max (nestAll (l.take j)) (nest x) := by
  induction l generalizing j with
  | nil => simp at h
  | cons y r ih =>
    cases j with
    | zero =>
      obtain rfl : y = x := by simpa using h
      simp [nestAll]
    | succ j =>
      have h2 : r[j]? = some x := by simpa using h
      have := ih h2
      simp only [List.take_succ_cons, nestAll, this]
      omega
theorem free62All_take {l : List RP} {j : Nat} {x : RP} (h : l[j]? = some x) (h1 : free62All (l.take j)) (h2 : free62 x) : free62All (l.take (j + 1)) := by
  induction l generalizing j with
  | nil => simp at h
  | cons y r ih =>
    cases j with
    | zero =>
      obtain rfl : y = x := by simpa using h
      simpa [free62All] using h2
    | succ j =>
      have h3 : r[j]? = some x := by simpa using h
      simp only [List.take_succ_cons, free62All] at h1 ⊢
      exact ⟨h1.1, ih h3 h1.2⟩
/-- What carries tells, at '>'. -/
def CarR (x : RP) (e : Ending) : Prop := ∃ b : Bool, e = .returned (.bool b) ∧ (b = false → free62 x)
def NesR (x : RP) (e : Ending) : Prop := e = .returned (.int .i64 (nest x : Int))
theorem nest_le : ∀ (n : Nat) (x : RP), nodes x ≤ n → nest x ≤ nodes x := by
  intro n
  induction n with
  | zero => intro x h; have := nodes_pos x; omega
  | succ n ih =>
    intro x h
    obtain ⟨k, i, f, s, kids⟩ := x
    simp only [nodes, nest] at h ⊢
    have : ∀ l : List RP, nodesAll l ≤ n → nestAll l ≤ nodesAll l := by
      intro l
      induction l with
      | nil => intro _; simp [nestAll]
      | cons y r ihr =>
        intro hl
        simp only [nodesAll, nestAll] at hl ⊢
        have h1 := ih y (by omega)
        have h2 := ihr (by omega)
        omega
    have := this kids (by omega)
    omega

def carSaid (N : Nat) : Prop :=
  ∀ (x : RP) (A : Option Addr) (c : Nat) (w0 w : World), nodes x ≤ N → nodes x ≤ 60 → x.f4.length ≤ c → Kd.C kR w0 A x.f4.length x.f4 → Below w0.heap.size w0 w →
    Calls Tryz.prog 9 #[valR x A c, .int .i64 62] w fun e w' => CarR x e ∧ Below w.heap.size w w'
set_option maxHeartbeats 4000000 in
set_option maxRecDepth 100000 in
theorem car_step (N : Nat) (ih : carSaid N) (k i f : Int) (s : ByteArray) (kids : List RP) (A : Option Addr) (c : Nat) (w0 w : World)
    (hn : nodesAll kids ≤ N) (hn60 : nodesAll kids ≤ 59) (hc : kids.length ≤ c) (hk : Kd.C kR w0 A kids.length kids) (hw : Below w0.heap.size w0 w) :
    Calls Tryz.prog 9 #[.agg #[.int .i64 k, .int .i64 i, .int .u64 f, .string s, .slice A kids.length c], .int .i64 62] w fun e w' => CarR ⟨k, i, f, s, kids⟩ e ∧ Below w.heap.size w w' := by
  have hnew := heap_alloc_new w (.cells #[.int .i64 k, .int .i64 i, .int .u64 f, .string s, .slice A kids.length c] 25)
  have hbe := below_alloc (Below.refl w.heap.size w) (.cells #[.int .i64 k, .int .i64 i, .int .u64 f, .string s, .slice A kids.length c] 25)
  have HN := Aside0.mk (And.intro hn (And.intro hn60 (And.intro hc hw)))
  have HK := Aside0.mk hk
  have hk59 : kids.length ≤ 59 := by have := nodesAll_len kids; omega
  have HV := Aside0.mk (And.intro hnew hbe)
  clear hn hn60 hc hk hw hnew hbe
  go_enter Tryz.func9, Tryz.ntmps9
  go_wp2_with fail
  generalize hWC : w.alloc (.cells #[.int .i64 k, .int .i64 i, .int .u64 f, .string s, .slice A kids.length c] 25) = wc at *
  clear hWC
  go_loopg [10] kids.length (fun gk v10 wk => ∃ j : Nat, v10 = .int .i64 j ∧ Aside0 (j ≤ kids.length ∧ gk = kids.length - j) ∧ Aside0 (wk.heap[w.heap.size]? = some (.cells #[.int .i64 k, .int .i64 i, .int .u64 f, .string s, .slice A kids.length c] 25 (0, 0)) ∧ Below w.heap.size w wk)  ∧ Aside0 (free62All (kids.take j)))
  case atStart => exact ⟨0, rfl, ⟨by omega⟩, HV, ⟨by simp [free62All]⟩⟩
  case round =>
    clear HV
    obtain ⟨j, rfl, HJ, HB, HF⟩ := hrel
    rename_i wk _ _ _ _ _ _
    have hszb : w.heap.size < _ := blk_lt HB.out.1
    have k0 := blk_cell HB.out.1 0
    by_cases hj : j < kids.length
    · obtain ⟨y, hy⟩ : ∃ y, kids[j]? = some y := ⟨_, List.getElem?_eq_getElem hj⟩
      have hji : (j : Int) < (kids.length : Int) := by omega
      have hbr := HN.out.2.2.2.trans (HB.out.2.mono HN.out.2.2.2.size)
      obtain ⟨ad, B6, d6, hA, g0, g1, g2, g3, g4, l6, q6⟩ := PAll.at_T25 HK.out (j : Int) (by omega) (by omega)
      have hry : PAll.rd_T25 kids (j : Int) = y := by unfold Go.Proofs.YtkogipaaioibaaaGreatDoor.PAll.rd_T25; rw [Int.toNat_natCast, List.getD_eq_getElem?_getD, hy]; rfl
      rw [hry] at g0 g1 g2 g3 g4 l6 q6
      rw [Int.toNat_natCast] at g0 g1 g2 g3 g4
      have h0 := pw_cell_below hbr g0
      have h1 := pw_cell_below hbr g1
      have h2 := pw_cell_below hbr g2
      have h3 := pw_cell_below hbr g3
      have h4 := pw_cell_below hbr g4
      subst hA
      have HY := Aside0.mk hy
      have hcl := ih y B6 d6 w0 _ (by have := nodes_at hy; have := HN.out.1; omega) (by have := nodes_at hy; have := HN.out.2.1; omega) l6 q6 (below_alloc hbr (.cells #[.int .i64 y.f0, .int .i64 y.f1, .int .u64 y.f2, .string y.f3, .slice B6 y.f4.length d6] 25))
      unfold valR at hcl
      have HX := Aside0.mk hcl
      have HBR := Aside0.mk (And.intro ((Below.heap_alloc _ (.cells #[.int .i64 y.f0, .int .i64 y.f1, .int .u64 y.f2, .string y.f3, .slice B6 y.f4.length d6] 25) _ hszb).trans HB.out.1) (below_alloc HB.out.2 (.cells #[.int .i64 y.f0, .int .i64 y.f1, .int .u64 y.f2, .string y.f3, .slice B6 y.f4.length d6] 25)))
      clear g0 g1 g2 g3 g4 l6 q6 hry hy hbr hcl HB
      go_wp2_with fail
      refine (HX.out).mono ?_
      rintro e w2 ⟨⟨b, rfl, hb⟩, hbel⟩
      have HB2 := Aside0.mk (And.intro ((hbel.block _ (blk_lt HBR.out.1)).trans HBR.out.1) (HBR.out.2.trans (hbel.mono HBR.out.2.size)))
      have HR2 := Aside0.mk hb
      clear hbel hb HX HBR
      cases b
      · go_wp2_with fail
        go_roundg (kids.length - (j + 1))
        case measure => have := HJ.out.2; omega
        case rel => exact ⟨j + 1, by go_num, ⟨by omega⟩, HB2, ⟨free62All_take HY.out HF.out (HR2.out (by trivial))⟩⟩
      · go_wp2_with fail
        go_ret
        exact ⟨⟨true, rfl, by simp⟩, HB2.out.2⟩
    · have hje : j = kids.length := by have := HJ.out.1; omega
      subst hje
      have h9 := HF.out
      rw [List.take_length] at h9
      have HF9 := Aside0.mk h9
      clear h9
      by_cases hk62 : k = 62
      · subst hk62
        go_wp2_with fail
        go_ret
        exact ⟨⟨_, rfl, by simp⟩, HB.out.2⟩
      · have hkb : (k == 62) = false := beq_eq_false_iff_ne.2 hk62
        go_wp2_with fail
        go_ret
        exact ⟨⟨_, rfl, fun _ => by simp only [free62]; exact ⟨hk62, HF9.out⟩⟩, HB.out.2⟩
theorem car_all : ∀ N, carSaid N := by
  intro N
  induction N with
  | zero => intro x A c w0 w h; have := nodes_pos x; omega
  | succ N ih =>
    intro x A c w0 w hn h60 hc hk hw
    obtain ⟨k, i, f, s, kids⟩ := x
    simp only [nodes] at hn h60
    exact car_step N ih k i f s kids A c w0 w (by omega) (by omega) hc hk hw

def nesSaid (N : Nat) : Prop :=
  ∀ (x : RP) (A : Option Addr) (c : Nat) (w0 w : World), nodes x ≤ N → nodes x ≤ 60 → x.f4.length ≤ c → Kd.C kR w0 A x.f4.length x.f4 → Below w0.heap.size w0 w →
    Calls Tryz.prog 10 #[valR x A c] w fun e w' => NesR x e ∧ Below w.heap.size w w'
set_option maxHeartbeats 4000000 in
set_option maxRecDepth 100000 in
theorem nes_step (N : Nat) (ih : nesSaid N) (k i f : Int) (s : ByteArray) (kids : List RP) (A : Option Addr) (c : Nat) (w0 w : World)
    (hn : nodesAll kids ≤ N) (hn60 : nodesAll kids ≤ 59) (hc : kids.length ≤ c) (hk : Kd.C kR w0 A kids.length kids) (hw : Below w0.heap.size w0 w) :
    Calls Tryz.prog 10 #[.agg #[.int .i64 k, .int .i64 i, .int .u64 f, .string s, .slice A kids.length c]] w fun e w' => NesR ⟨k, i, f, s, kids⟩ e ∧ Below w.heap.size w w' := by
  have hnew := heap_alloc_new w (.cells #[.int .i64 k, .int .i64 i, .int .u64 f, .string s, .slice A kids.length c] 25)
  have hbe := below_alloc (Below.refl w.heap.size w) (.cells #[.int .i64 k, .int .i64 i, .int .u64 f, .string s, .slice A kids.length c] 25)
  have HN := Aside0.mk (And.intro hn (And.intro hn60 (And.intro hc hw)))
  have HK := Aside0.mk hk
  have hk59 : kids.length ≤ 59 := by have := nodesAll_len kids; omega
  have HV := Aside0.mk (And.intro hnew hbe)
  clear hn hn60 hc hk hw hnew hbe
  go_enter Tryz.func10, Tryz.ntmps10
  go_wp2_with fail
  generalize hWC : w.alloc (.cells #[.int .i64 k, .int .i64 i, .int .u64 f, .string s, .slice A kids.length c] 25) = wc at *
  clear hWC
  go_loopg [3, 9] kids.length (fun gk v3 v9 wk => ∃ j : Nat, v9 = .int .i64 j ∧ v3 = .int .i64 ((nestAll (kids.take j) : Nat) : Int) ∧ Aside0 (j ≤ kids.length ∧ gk = kids.length - j) ∧ Aside0 (wk.heap[w.heap.size]? = some (.cells #[.int .i64 k, .int .i64 i, .int .u64 f, .string s, .slice A kids.length c] 25 (0, 0)) ∧ Below w.heap.size w wk))
  case atStart => exact ⟨0, rfl, by simp [nestAll], ⟨by omega⟩, HV⟩
  case round =>
    clear HV
    obtain ⟨j, rfl, rfl, HJ, HB⟩ := hrel
    rename_i wk _ _ _ _ _ _
    have hszb : w.heap.size < _ := blk_lt HB.out.1
    have k0 := blk_cell HB.out.1 0
    by_cases hj : j < kids.length
    · obtain ⟨y, hy⟩ : ∃ y, kids[j]? = some y := ⟨_, List.getElem?_eq_getElem hj⟩
      have hji : (j : Int) < (kids.length : Int) := by omega
      have hbr := HN.out.2.2.2.trans (HB.out.2.mono HN.out.2.2.2.size)
      obtain ⟨ad, B6, d6, hA, g0, g1, g2, g3, g4, l6, q6⟩ := PAll.at_T25 HK.out (j : Int) (by omega) (by omega)
      have hry : PAll.rd_T25 kids (j : Int) = y := by unfold Go.Proofs.YtkogipaaioibaaaGreatDoor.PAll.rd_T25; rw [Int.toNat_natCast, List.getD_eq_getElem?_getD, hy]; rfl
      rw [hry] at g0 g1 g2 g3 g4 l6 q6
      rw [Int.toNat_natCast] at g0 g1 g2 g3 g4
      have h0 := pw_cell_below hbr g0
      have h1 := pw_cell_below hbr g1
      have h2 := pw_cell_below hbr g2
      have h3 := pw_cell_below hbr g3
      have h4 := pw_cell_below hbr g4
      subst hA
      have HY := Aside0.mk hy
      have hcl := ih y B6 d6 w0 _ (by have := nodes_at hy; have := HN.out.1; omega) (by have := nodes_at hy; have := HN.out.2.1; omega) l6 q6 (below_alloc hbr (.cells #[.int .i64 y.f0, .int .i64 y.f1, .int .u64 y.f2, .string y.f3, .slice B6 y.f4.length d6] 25))
      unfold valR at hcl
      have HX := Aside0.mk hcl
      have HBR := Aside0.mk (And.intro ((Below.heap_alloc _ (.cells #[.int .i64 y.f0, .int .i64 y.f1, .int .u64 y.f2, .string y.f3, .slice B6 y.f4.length d6] 25) _ hszb).trans HB.out.1) (below_alloc HB.out.2 (.cells #[.int .i64 y.f0, .int .i64 y.f1, .int .u64 y.f2, .string y.f3, .slice B6 y.f4.length d6] 25)))
      clear g0 g1 g2 g3 g4 l6 q6 hry hy hbr hcl HB
      go_wp2_with fail
      refine (HX.out).mono ?_
      rintro e w2 ⟨rfl, hbel⟩
      have HB2 := Aside0.mk (And.intro ((hbel.block _ (blk_lt HBR.out.1)).trans HBR.out.1) (HBR.out.2.trans (hbel.mono HBR.out.2.size)))
      have hnn : nest y ≤ 60 := by have h1 := nodes_at HY.out; have h2 := nest_le _ y (Nat.le_refl _); have := HN.out.2.1; omega
      obtain ⟨a, ha⟩ : ∃ a, nestAll (kids.take j) = a := ⟨_, rfl⟩
      obtain ⟨b, hb⟩ : ∃ b, nest y = b := ⟨_, rfl⟩
      have HT : Aside0 (nestAll (kids.take (j + 1)) = max a b) := ⟨by rw [nestAll_take HY.out, ha, hb]⟩
      rw [ha, hb]
      clear hbel HX HBR ha hb hnn
      by_cases hab : (a : Int) < (b : Int)
      · go_wp2_with fail
        go_roundg (kids.length - (j + 1))
        case measure => have := HJ.out.2; omega
        case rel => exact ⟨j + 1, by go_num, by rw [HT.out, show max a b = b by omega], ⟨by omega⟩, HB2⟩
      · go_wp2_with fail
        all_goals
          go_roundg (kids.length - (j + 1))
          case measure => have := HJ.out.2; omega
          case rel => exact ⟨j + 1, by go_num, by rw [HT.out, show max a b = a by omega], ⟨by omega⟩, HB2⟩
    · have hje : j = kids.length := by have := HJ.out.1; omega
      subst hje
      have hnn : nestAll kids ≤ 60 := by
        have h2 := nest_le _ ⟨k, i, f, s, kids⟩ (Nat.le_refl _)
        simp only [nest, nodes] at h2
        have := HN.out.2.1
        omega
      rw [List.take_length]
      have hni : (nestAll kids : Int) ≤ 60 := by omega
      go_wp2_with fail
      go_ret
      refine ⟨?_, HB.out.2⟩
      unfold NesR
      simp only [nest]
      push_cast
      rfl
theorem nes_all : ∀ N, nesSaid N := by
  intro N
  induction N with
  | zero => intro x A c w0 w h; have := nodes_pos x; omega
  | succ N ih =>
    intro x A c w0 w hn h60 hc hk hw
    obtain ⟨k, i, f, s, kids⟩ := x
    simp only [nodes] at hn h60
    exact nes_step N ih k i f s kids A c w0 w (by omega) (by omega) hc hk hw
end Go.Proofs.YtkogipaaioibaaaGreatDoor

namespace Go.Proofs.YtkogipaaioibaaaGreatDoor
set_option linter.unusedVariables false
set_option linter.unusedSimpArgs false
open Go.RowKit Go.Proofs.YtkogipaaioibaaaGreatDoorW.PrintWords
open PAll
theorem mild_up0 {k : Nat} {s : ByteArray} {a b c : Int} {r : Bool} (h : laws_mild.l0 k s a b c = some r) : ∀ d, laws_mild.l0 (k + d) s a b c = some r
  | 0 => h
  | d + 1 => (laws_mild.mono_l (k + d)).1 s a b c r (mild_up0 h d)
theorem mild_up1 {k : Nat} {s : ByteArray} {a b c e f : Int} {r : Bool} (h : laws_mild.l1 k s a b c e f = some r) : ∀ d, laws_mild.l1 (k + d) s a b c e f = some r
  | 0 => h
  | d + 1 => (laws_mild.mono_l (k + d)).2.2.1 s a b c e f r (mild_up1 h d)
set_option maxHeartbeats 2000000 in
theorem mild_in (s : ByteArray) (hz : s.size ≤ 1000) (x3 : Int) (i : Nat) (hi : i < s.size) (h0 : ∃ k r, laws_mild.l0 k s x3 (s.size : Int) (wrap64 ((i : Int) + 1)) = some r) :
    ∀ (n p : Nat), s.size ≤ n + p → ∃ k r, laws_mild.l1 k s x3 i p (s.size : Int) i = some r := by
  obtain ⟨k0, r0, h0⟩ := h0
  intro n
  induction n with
  | zero =>
    intro p hp
    refine ⟨k0 + 1, ?_⟩
    rw [laws_mild.l1, if_neg (by omega)]
    split
    · exact ⟨_, rfl⟩
    · exact ⟨_, h0⟩
  | succ n ih =>
    intro p hp
    obtain ⟨k1, r1, h1⟩ := ih (p + 1) (by omega)
    have e0 := mild_up0 h0 k1
    have e1 := mild_up1 h1 k0
    rw [Nat.add_comm k1 k0] at e1
    by_cases hps : p < s.size
    · have hw : wrap64 ((p : Int) + 1) = ((p + 1 : Nat) : Int) := by rw [IntWalk.wrap64_in _ ⟨by omega, by omega⟩]; rfl
      refine ⟨k0 + k1 + 1, ?_⟩
      rw [laws_mild.l1, hw]
      repeat' split
      all_goals first
        | exact ⟨_, rfl⟩
        | exact ⟨_, e0⟩
        | exact ⟨_, e1⟩
        | (exfalso; omega)
    · refine ⟨k0 + k1 + 1, ?_⟩
      rw [laws_mild.l1, if_neg (by omega)]
      split
      · exact ⟨_, rfl⟩
      · exact ⟨_, e0⟩
set_option maxHeartbeats 2000000 in
theorem mild_out (s : ByteArray) (hz : s.size ≤ 1000) : ∀ (n i : Nat), s.size ≤ n + i → ∀ x3 : Int, ∃ k r, laws_mild.l0 k s x3 (s.size : Int) i = some r := by
  intro n
  induction n with
  | zero =>
    intro i hi x3
    exact ⟨1, _, by rw [laws_mild.l0, if_neg (by omega)]⟩
  | succ n ih =>
    intro i hi x3
    by_cases his : i < s.size
    · have hw : wrap64 ((i : Int) + 1) = ((i + 1 : Nat) : Int) := by rw [IntWalk.wrap64_in _ ⟨by omega, by omega⟩]; rfl
      have hA := ih (i + 1) (by omega) x3
      have hB := ih (i + 1) (by omega) (wrap64 (x3 + 1))
      obtain ⟨k2, r2, h2⟩ := mild_in s hz x3 i his (by rw [hw]; exact hA) s.size (i + 1) (by omega)
      obtain ⟨k3, r3, h3⟩ := mild_in s hz (wrap64 (x3 + 1)) i his (by rw [hw]; exact hB) s.size (i + 1) (by omega)
      obtain ⟨k4, r4, h4⟩ := hA
      have e2 := mild_up1 h2 (k3 + k4)
      have e3 := mild_up1 h3 (k2 + k4)
      have e4 := mild_up0 h4 (k2 + k3 + 1)
      rw [show k2 + (k3 + k4) = k2 + k3 + k4 by omega] at e2
      rw [show k3 + (k2 + k4) = k2 + k3 + k4 by omega] at e3
      rw [show k4 + (k2 + k3 + 1) = k2 + k3 + k4 + 1 by omega] at e4
      rw [← hw] at e2 e3 e4
      have hj2 : ∀ x, laws_mild.j2 (k2 + k3 + k4 + 1) s x3 i (s.size : Int) i = x → x = some r2 := fun x h => by rw [laws_mild.j2] at h; exact h.symm.trans e2
      have f2 : laws_mild.j2 (k2 + k3 + k4 + 1) s x3 i (s.size : Int) i = some r2 := hj2 _ rfl
      have f3 : laws_mild.j2 (k2 + k3 + k4 + 1) s (wrap64 (x3 + 1)) i (s.size : Int) i = some r3 := by rw [laws_mild.j2]; exact e3
      have hj1 : ∀ (b : Int) (t : Bool), ∃ r, laws_mild.j1 (k2 + k3 + k4 + 2) s x3 i (s.size : Int) i b t = some r := fun b t => by
        rw [show k2 + k3 + k4 + 2 = (k2 + k3 + k4 + 1) + 1 from rfl, laws_mild.j1]
        repeat' split
        all_goals first
          | exact ⟨_, f3⟩
          | exact ⟨_, f2⟩
          | exact ⟨_, e4⟩
      refine ⟨k2 + k3 + k4 + 3, ?_⟩
      rw [show k2 + k3 + k4 + 3 = (k2 + k3 + k4 + 2) + 1 from rfl, laws_mild.l0, if_pos (by omega), if_pos (by omega), if_pos (by omega)]
      repeat' split
      all_goals exact hj1 _ _
    · exact ⟨1, _, by rw [laws_mild.l0, if_neg (by omega)]⟩
theorem mild_any (s : ByteArray) (hz : s.size ≤ 1000) (w : World) : Calls Tryz.prog 8 #[.string s] w fun e w' => ∃ b : Bool, e = .returned (.bool b) ∧ Drawn0 w w' := by
  obtain ⟨k, r, h⟩ := mild_out s hz s.size 0 (by omega) 0
  exact (laws_mild.calls k s r w h).mono fun e w' h => ⟨r, h⟩
end Go.Proofs.YtkogipaaioibaaaGreatDoor

namespace Go.Proofs.YtkogipaaioibaaaGreatDoor
set_option linter.unusedVariables false
set_option linter.unusedSimpArgs false
open Go.RowKit Go.Proofs.YtkogipaaioibaaaGreatDoorW.PrintWords
set_option maxHeartbeats 4000000 in
set_option maxRecDepth 100000 in
theorem FnRespWhole_walk (k i f : Int) (s : ByteArray) (kids : List RP) (A : Option Addr) (c : Nat) (tx : ByteArray) (w : World) (hc : kids.length ≤ c) (hk : Kd.C kR w A kids.length kids) (hwf : wfR ⟨k, i, f, s, kids⟩) (htx : tx.size ≤ 9223372036854775807) (ht : Tb w) :
    Calls Tryz.prog 3 #[.agg #[.int .i64 k, .int .i64 i, .int .u64 f, .string s, .slice A kids.length c], .string tx] w fun e w' => e = .returned (.bool true) ∧ Below w.heap.size w w' := by
  have HZ := Lib.hid (fun W hw => fits_any ⟨k, i, f, s, kids⟩ A c w W hc hk hw)
  have HLT := Lib.hid (fun W hw => lettered_any ⟨k, i, f, s, kids⟩ A c w W hc hwf hk hw ht)
  have HCA := Lib.hid (fun W hn hw => car_all 60 ⟨k, i, f, s, kids⟩ A c w W hn hn hc hk hw)
  have HNE := Lib.hid (fun W hn hw => nes_all 60 ⟨k, i, f, s, kids⟩ A c w W hn hn hc hk hw)
  have HAL := Lib.hid (fun W => alive_any W)
  unfold valR at HLT HCA HNE
  clear hc hk hwf ht
  go_enter Tryz.func3, Tryz.ntmps3
  go_wp2_with fail
  refine (HZ.out _ (below_alloc (Below.refl _ _) _)).mono ?_
  rintro e w1 ⟨r, rfl, hb1⟩
  have h1 : Below w.heap.size w w1 := (below_alloc (Below.refl _ _) _).trans (hb1.mono (by simp))
  have HB := Lib.hid h1
  have hbx : w1.heap[w.heap.size]? = _ := (hb1.block _ (by simp)).trans (heap_alloc_new w _)
  have HBX := Lib.hid hbx
  obtain ⟨b0, b1, b2, b3, b4⟩ := box5 hbx
  clear hb1 h1 hbx HZ
  cases r
  · go_wp2_with fail
    go_ret
    exact ⟨rfl, HB.out⟩
  by_cases hbig : (2147483647 : Int) < (tx.size : Int)
  · go_wp2_with fail
    go_ret
    exact ⟨rfl, HB.out⟩
  go_wp2_with fail
  refine (HLT.out _ HB.out).mono ?_
  rintro e w2 ⟨t, b, rfl, hlt, hb2⟩
  have HB2 := Lib.hid (HB.out.trans (hb2.mono HB.out.size))
  have hbx2 := (hb2.block _ (blk_lt HBX.out)).trans HBX.out
  have HBX2 := Lib.hid hbx2
  obtain ⟨d0, d1, d2, d3, d4⟩ := box5 hbx2
  have HLR := Lib.hid hlt
  clear hlt hb2 hbx2 HLT b0 b1 b2 b3 b4 HBX HB
  cases b
  · go_wp2_with fail
    go_ret
    exact ⟨rfl, HB2.out⟩
  by_cases h200 : (200 : Int) < (tx.size : Int)
  · go_wp2_with fail
    go_ret
    exact ⟨rfl, HB2.out⟩
  have HMI := Lib.hid (fun W => mild_any tx (by omega) W)
  go_wp2_with fail
  refine (HMI.out _).mono ?_
  rintro e w3 ⟨bm, rfl, ⟨n3, rfl⟩⟩
  clear HMI
  cases bm
  · go_wp2_with fail
    go_ret
    exact ⟨rfl, pw_below_drewN HB2.out _⟩
  obtain ⟨hwi, hno, hsh⟩ := HLR.out (by trivial)
  go_wp2_with fail
  refine (HCA.out _ hno (pw_below_drewN HB2.out _)).mono ?_
  rintro e w4 ⟨⟨bc, rfl, hfr⟩, hb4⟩
  have hb24 : Below w2.heap.size w2 w4 := (pw_below_drewN (Below.refl _ _) n3).trans hb4
  have HB4 := Lib.hid (HB2.out.trans (hb24.mono HB2.out.size))
  have hbx4 := (hb24.block _ (blk_lt HBX2.out)).trans HBX2.out
  obtain ⟨e0, e1, e2, e3, e4⟩ := box5 hbx4
  have HFR := Lib.hid hfr
  clear hfr hb4 hb24 hbx4 d0 d1 d2 d3 d4 HCA
  cases bc
  case true =>
    go_wp2_with fail
    go_ret
    exact ⟨rfl, HB4.out⟩
  obtain ⟨q, hq⟩ : ∃ q, nest ⟨k, i, f, s, kids⟩ = q := ⟨_, rfl⟩
  have HNX := Lib.hid (HNE.out _ hno HB4.out)
  unfold NesR at HNX
  rw [hq] at HNX
  clear HNE
  go_wp2_with fail
  refine HNX.out.mono ?_
  rintro e w5 ⟨rfl, hb5⟩
  have HB5 := Lib.hid (HB4.out.trans (hb5.mono HB4.out.size))
  clear hb5 HNX e0 e1 e2 e3 e4
  by_cases h20 : (20 : Int) < (q : Int)
  · clear hq
    go_wp2_with fail
    go_ret
    exact ⟨rfl, HB5.out⟩
  have hts := wire_size hwi hno
  have HWH := Lib.hid (fun W => whole_any (t ++ tx) ⟨k, i, f, s, kids⟩ (bytesOf t) (bytesOf tx) (bytesOf_append t tx) hwi (HFR.out (by trivial)) (by omega) (by rw [ByteArray.size_append]; omega) W)
  clear hwi hno hsh hq
  go_wp2_with fail
  refine (HWH.out _).mono ?_
  rintro e w6 ⟨rfl, hb6⟩
  have HB6 := Lib.hid (HB5.out.trans (hb6.mono HB5.out.size))
  clear hb6 HWH
  go_wp2_with fail
  refine (HAL.out _).mono ?_
  rintro e w7 ⟨rfl, hb7⟩
  have HB7 := Lib.hid (HB6.out.trans (hb7.mono HB6.out.size))
  clear hb7
  go_wp2_with fail
  go_ret
  exact ⟨rfl, HB7.out⟩
end Go.Proofs.YtkogipaaioibaaaGreatDoor
