/- The Lean function of hashtag_crc16sum and its contract: the Go function comes to exactly what the Lean function answers (laid by the kit's print program). -/
import Derived.Test.YtkogipaaioibaaaGreatDoorPAllx0
import Derived.Test.YtkogipaaioibaaaGreatDoorPhashtagcrc16of
namespace Go.Proofs.YtkogipaaioibaaaGreatDoor.PAll
open Go.RowKit Go.Proofs.YtkogipaaioibaaaGreatDoorW.PrintWords Go.Proofs.YtkogipaaioibaaaGreatDoorW.PrintLast Go.Proofs.YtkogipaaioibaaaGreatDoorW.PrintMore
attribute [local go_sem] max2_int min2_int max_two min_two max_three min_three max_four min_four   -- for this text's walks alone
set_option linter.unusedVariables false
set_option linter.unusedSimpArgs false
-- NOT PRINTED: function 119 (strconv_ParseUint)

-- NOT PRINTED: function 99 (strconv_ParseInt)

-- NOT PRINTED: function 88 (strconv_Atoi_88)

-- NOT PRINTED: function 120 (stringslite_Clone)

-- NOT PRINTED: function 100 (strconv_syntaxError)

-- NOT PRINTED: function 101 (strconv_rangeError)

-- NOT PRINTED: function 36 (errors_New)

-- NOT PRINTED: function 102 (strconv_baseError)

-- NOT PRINTED: function 103 (strconv_bitSizeError)

-- NOT PRINTED: function 89 (strconv_toError)

-- NOT PRINTED: function 70 (strconv_Atoi_70)

-- NOT PRINTED: function 48 (util_Atoi)

-- NOT PRINTED: function 49 (proto_bufferedValueLen)

-- NOT PRINTED: function 31 (proto_bufferedFrameLen)

-- NOT PRINTED: function 19 (proto_Reader_HasBufferedReply)

-- NOT PRINTED: function 11 (impl_Whole)

-- NOT PRINTED: function 32 (packstream_Packer_Begin)

-- NOT PRINTED: function 50 (packstream_Packer_Nil)

-- NOT PRINTED: function 51 (packstream_Packer_Bool)

/-! ### hashtag_crc16sum: function 62 -/
def hashtag_crc16sum.l0 : Nat → ByteArray → Int → Int → Option (Int)
  | 0, _, _, _ => none
  | k + 1, x0, x2, x3 => if x3 < (x0.size : Int) then (if 0 ≤ x3 then ((hashtag_crc16of.f (Go.bits .and .u8 (Go.bits .xor .u8 ((x2 / 256) % 256) (bt x0 x3)) 255)).bind fun t328 => (hashtag_crc16sum.l0 k x0 (Go.bits .xor .u16 (IntKind.u16.wrap (x2 * 256)) t328) (wrap64 (x3 + 1)))) else (none)) else (some x2)
def hashtag_crc16sum.f (k : Nat) (a0 : ByteArray) : Option (Int) := hashtag_crc16sum.l0 k a0 0 0
theorem hashtag_crc16sum.mono_l : ∀ k, (∀ y0 y1 y2, LeO (hashtag_crc16sum.l0 k y0 y1 y2) (hashtag_crc16sum.l0 (k + 1) y0 y1 y2))
  | 0 => fun _ _ _ r h => by simp [hashtag_crc16sum.l0] at h
  | k + 1 => by
    have ih0 := hashtag_crc16sum.mono_l k
    · intro y0 y1 y2
      unfold hashtag_crc16sum.l0
      repeat' first
      | (with_reducible exact ih0 _ _ _)
      | (with_reducible exact LeO.refl _)
      | (with_reducible exact LeO.none _)
      | (with_reducible refine LeO.ite ?_ ?_)
      | (with_reducible refine LeO.bind ?_ (fun _ => ?_))
      | exact ih0 _ _ _
      | exact LeO.none _
      | refine LeO.ite ?_ ?_
      | refine LeO.bind ?_ (fun _ => ?_)
theorem hashtag_crc16sum.mono : ∀ a0 k, LeO (hashtag_crc16sum.f k a0) (hashtag_crc16sum.f (k + 1) a0) := by
  intro a0 k
  have ih0 := hashtag_crc16sum.mono_l k
  unfold hashtag_crc16sum.f
  repeat' first
      | (with_reducible exact ih0 _ _ _)
      | (with_reducible exact LeO.refl _)
      | (with_reducible exact LeO.none _)
      | (with_reducible refine LeO.ite ?_ ?_)
      | (with_reducible refine LeO.bind ?_ (fun _ => ?_))
      | exact ih0 _ _ _
      | exact LeO.none _
      | refine LeO.ite ?_ ?_
      | refine LeO.bind ?_ (fun _ => ?_)
set_option maxHeartbeats 8000000 in
set_option maxRecDepth 100000 in
theorem hashtag_crc16sum.calls (k : Nat) (a0 : ByteArray) (r : Int) (w : World) (h : hashtag_crc16sum.f k a0 = some r) :
    Calls Tryz.prog 62 #[.string a0] w fun e w' => e = .returned (.int .u16 r) ∧ Drawn0 w w' := by
  have H : (hashtag_crc16sum.l0 k a0 0 0) = some r := h
  clear h
  have H' := Aside0.mk H
  clear H
  go_enter Tryz.func62, Tryz.ntmps62
  go_wp2
  go_loopg [2, 3] k (fun kq v2 v3 w' => ∃ (x2_1 : Int) (x3_1 : Int), v2 = .int .u16 x2_1 ∧ v3 = .int .i64 x3_1 ∧ Aside0 (hashtag_crc16sum.l0 kq a0 x2_1 x3_1 = some r) ∧ Aside0 (kq ≤ k) ∧ Drawn0 w w')
  case atStart => exact ⟨(0), (0), (by first | rfl | (simp; done) | (simp [*]; done)), (by first | rfl | (simp; done) | (simp [*]; done)), H', ⟨Nat.le_refl _⟩, by repeat (first | exact Drawn0.refl _ | apply Drawn0.step)⟩
  case round =>
    clear H'
    try clear c1
    obtain ⟨x2_1, x3_1, rfl, rfl, HA, HK1, ⟨m1, rfl⟩⟩ := hrel
    cases gk with
    | zero => exact absurd HA.out (by simp [hashtag_crc16sum.l0])
    | succ k1 =>
      have H := HA.out
      clear HA
      simp only [hashtag_crc16sum.l0] at H
      by_cases c2 : x3_1 < (a0.size : Int)
      · rw [if_pos c2] at H
        have c2b0 : decide (x3_1 < (a0.size : Int)) = true := decide_eq_true c2
        clear c2
        by_cases c3 : 0 ≤ x3_1
        · rw [if_pos c3] at H
          have c3b0 : decide (0 ≤ x3_1) = true := decide_eq_true c3
          clear c3
          replace H := Option.bind_eq_some_iff.mp H
          obtain ⟨t328, A50, H⟩ := H
          replace H : (hashtag_crc16sum.l0 k1 a0 (Go.bits .xor .u16 (IntKind.u16.wrap (x2_1 * 256)) t328) (wrap64 (x3_1 + 1))) = some r := H
          have A5 := Aside0.mk A50
          clear A50
          have H' := Aside0.mk H
          clear H
          have p4 : 0 ≤ (x3_1 : Int) := of_decide_eq_true (by first | (with_reducible assumption) | assumption)
          have q4 : x3_1 < (a0.size : Int) := of_decide_eq_true (by first | (with_reducible assumption) | assumption)
          have hx4 := bt_at a0 x3_1
          replace p4 := eq_true p4
          replace q4 := eq_true q4
          go_wp2_with (first | ((with_reducible refine gate_callee (f := 78) rfl ?_); refine goesL_ (some 20) rfl rfl Tryz.func78 (by kernel_rfl) rfl #[.int .u8 (Go.bits .and .u8 (Go.bits .xor .u8 ((x2_1 / 256) % 256) (bt a0 x3_1)) 255)] rfl (by (try simp only [List.map_toArray, List.map_cons, List.map_nil]); first | done | rfl | (simp only [List.length_drop, List.length_take]; rfl)) ?_; (with_reducible refine (hashtag_crc16of.calls (Go.bits .and .u8 (Go.bits .xor .u8 ((x2_1 / 256) % 256) (bt a0 x3_1)) 255) t328 _ A5.out).mono ?_); rintro e w' ⟨rfl, ⟨nd, rfl⟩⟩; refine ⟨_, rfl, ?_⟩))
          go_roundg k1
          case measure => have := HK1.out; omega
          case rel => exact ⟨(Go.bits .xor .u16 (IntKind.u16.wrap (x2_1 * 256)) t328), (wrap64 (x3_1 + 1)), (by first | rfl | (simp; done) | (simp [*]; done)), (by first | rfl | (simp; done) | (simp [*]; done)), H', ⟨by have := HK1.out; omega⟩, by repeat (first | exact Drawn0.refl _ | apply Drawn0.step)⟩
        · rw [if_neg c3] at H
          exact absurd H (by simp)
      · rw [if_neg c2] at H
        have c2b0 : decide (x3_1 < (a0.size : Int)) = false := decide_eq_false c2
        clear c2
        obtain rfl := Option.some.inj H
        go_wp2
        go_ret
        exact ⟨by first | rfl | (simp; done) | (simp [*]; done), by repeat (first | exact Drawn0.refl _ | apply Drawn0.step)⟩

-- NOT PRINTED: function 35 (hashtag_Slot)

-- NOT PRINTED: function 21 (impl_Slot)

-- NOT PRINTED: function 12 (laws_alive)

-- NOT PRINTED: function 3 (laws_FnRespWhole)

-- NOT PRINTED: function 63 (proto_skipDigitsThenCRLF)

-- NOT PRINTED: function 37 (proto_parsePushNotificationName)

-- NOT PRINTED: function 38 (proto_ErrPushNotificationNameTooLong)

-- NOT PRINTED: function 23 (proto_Reader_PeekPushNotificationName)

-- NOT PRINTED: function 13 (impl_PushName)

-- NOT PRINTED: function 4 (laws_FnRespPush)

-- NOT PRINTED: function 91 (source_Reader_take)

-- NOT PRINTED: function 79 (source_Reader_ReadSlice)

-- NOT PRINTED: function 80 (source_Reader_ReadBytes)

-- NOT PRINTED: function 65 (proto_Reader_readLine)

-- NOT PRINTED: function 81 (proto_replyLen)

-- NOT PRINTED: function 82 (source_Reader_Discard)

-- NOT PRINTED: function 66 (proto_Reader_Discard)

-- NOT PRINTED: function 39 (proto_Reader_DiscardNext)

-- NOT PRINTED: function 25 (proto_Reader_PeekReplyType)

-- NOT PRINTED: function 14 (impl_PeekKind)

-- NOT PRINTED: function 5 (laws_FnRespPeek)

end Go.Proofs.YtkogipaaioibaaaGreatDoor.PAll
