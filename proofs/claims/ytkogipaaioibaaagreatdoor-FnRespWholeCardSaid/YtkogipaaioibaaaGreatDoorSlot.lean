/- hashtag's Key, crc16sum and Slot, and impl.Slot: what they answer of every key. -/
import Derived.Test.YtkogipaaioibaaaGreatDoorPhashtagcrc16sum
import Derived.Lib.Bytealg
import Derived.Lib.IndexBytes
import Derived.Lib.IndexLaws
import Derived.Laws.StandIn
import Derived.WalkSpells
namespace Go.Proofs.YtkogipaaioibaaaGreatDoor
open Go.RowKit
open PAll (hashtag_crc16sum.f hashtag_crc16sum.l0 hashtag_crc16of.f)
open Go.Proofs.YtkogipaaioibaaaGreatDoorW.PrintWords (bt bt_at Drawn0)

theorem callFunc_IndexByteString (args : Array Value) (w : World) :
    (callFunc 104 args).run Tryz.prog w = ((Extern.BytealgIndexByte.indexByte args).run Tryz.prog w).andThen fun v w' => .ok (.value v) w' :=
  run_callFunc_indexByte Tryz.func104 (by kernel_rfl) (by kernel_rfl) (by kernel_rfl) (by kernel_rfl) args w

theorem indexByte_any (s : ByteArray) (c : Int) (w : World) :
    Calls Tryz.prog 77 #[.string s, .int .u8 c] w fun e w' => e = .returned (.int .i64 (Lib.indexByte s.data.toList c.toNat.toUInt8)) ∧ w = w' := by
  have hc : ∀ w : World, (callFunc 104 #[.string s, .int .u8 c]).run Tryz.prog w = .ok (.value (.int .i64 (Lib.indexByte s.data.toList c.toNat.toUInt8))) w := fun w => by
    rw [callFunc_IndexByteString, Lib.run_indexByteString]
    rfl
  go_enter Tryz.func77, Tryz.ntmps77
  go_wp2
  go_ret
  exact ⟨rfl, rfl⟩

/-- What is hashed of a key. -/
def keyB (s : ByteArray) : ByteArray :=
  if -1 < Lib.indexByte s.data.toList 123 then
    (if 0 < Lib.indexByte (s.extract ((Lib.indexByte s.data.toList 123).toNat + 1) s.size).data.toList 125 then
      s.extract ((Lib.indexByte s.data.toList 123).toNat + 1) ((Lib.indexByte s.data.toList 123).toNat + (Lib.indexByte (s.extract ((Lib.indexByte s.data.toList 123).toNat + 1) s.size).data.toList 125).toNat + 1)
    else s)
  else s

set_option maxHeartbeats 1000000 in
theorem key_any (s : ByteArray) (w : World) (hs : s.size ≤ 140737488351232) :
    Calls Tryz.prog 61 #[.string s] w fun e w' => e = .returned (.string (keyB s)) ∧ w = w' := by
  have c123 : (123 : Int).toNat.toUInt8 = 123 := rfl
  have c125 : (125 : Int).toNat.toUInt8 = 125 := rfl
  have hge := Lib.indexByte_ge s.data.toList 123
  by_cases hi : -1 < Lib.indexByte s.data.toList 123
  · obtain ⟨i, hi'⟩ : ∃ i : Nat, Lib.indexByte s.data.toList 123 = i := ⟨(Lib.indexByte s.data.toList 123).toNat, by omega⟩
    have hlt : i < s.size := by
      have h1 := (Lib.indexByte_some hi').1
      rcases Nat.lt_or_ge i s.size with h | h
      · exact h
      · rw [List.getElem?_eq_none (by rw [Array.length_toList]; exact h)] at h1
        cases h1
    have hge2 := Lib.indexByte_ge (s.extract (i + 1) s.size).data.toList 125
    have hk : keyB s = if 0 < Lib.indexByte (s.extract (i + 1) s.size).data.toList 125 then s.extract (i + 1) (i + (Lib.indexByte (s.extract (i + 1) s.size).data.toList 125).toNat + 1) else s := by
      unfold keyB
      rw [if_pos hi, hi']
      rfl
    rw [hk]
    have H1 := indexByte_any s 123
    rw [c123, hi'] at H1
    have H2 := indexByte_any (s.extract (i + 1) s.size) 125
    rw [c125] at H2
    have h0 : (-1 : Int) < (i : Int) := by omega
    by_cases he : 0 < Lib.indexByte (s.extract (i + 1) s.size).data.toList 125
    · rw [if_pos he]
      rcases Lib.indexByte_piece s (i + 1) s.size 125 with hx | ⟨o, ho, hol⟩
      · omega
      · rw [ho] at H2 he ⊢
        have ho0 : 0 < o := by omega
        have HH1 := Lib.hid H1
        have HH2 := Lib.hid H2
        clear H1 H2 hi hi' hk hge hge2 ho c123 c125
        go_enter Tryz.func61, Tryz.ntmps61
        go_wp2_with fail
        refine (HH1.out _).mono ?_
        rintro e w' ⟨rfl, rfl⟩
        go_wp2_with fail
        refine (HH2.out _).mono ?_
        rintro e w' ⟨rfl, rfl⟩
        go_wp2_with fail
        go_ret
        exact ⟨by simp, rfl⟩
    · rw [if_neg he]
      generalize Lib.indexByte (s.extract (i + 1) s.size).data.toList 125 = o at *
      have ho : ¬ 0 < o := he
      have HH1 := Lib.hid H1
      have HH2 := Lib.hid H2
      clear H1 H2 hi hi' hk hge c123 c125
      go_enter Tryz.func61, Tryz.ntmps61
      go_wp2_with fail
      refine (HH1.out _).mono ?_
      rintro e w' ⟨rfl, rfl⟩
      go_wp2_with fail
      refine (HH2.out _).mono ?_
      rintro e w' ⟨rfl, rfl⟩
      go_wp2_with fail
      go_ret
      exact ⟨rfl, rfl⟩
  · have hk : keyB s = s := by unfold keyB; rw [if_neg hi]
    rw [hk]
    have H1 := indexByte_any s 123
    rw [c123] at H1
    generalize Lib.indexByte s.data.toList 123 = o at *
    have HH1 := Lib.hid H1
    clear H1 hk c123 c125
    go_enter Tryz.func61, Tryz.ntmps61
    go_wp2_with fail
    refine (HH1.out _).mono ?_
    rintro e w' ⟨rfl, rfl⟩
    go_wp2_with fail
    go_ret
    exact ⟨rfl, rfl⟩

theorem bt_nat (s : ByteArray) (i : Nat) (h : i < s.size) : bt s (i : Int) = ((s[i]'h).toNat : Int) := by
  unfold Go.Proofs.YtkogipaaioibaaaGreatDoorW.PrintWords.bt
  simp [h]
theorem crcStep (c : Nat) (hc : c < 65536) (b : Nat) (hb : b < 256) :
    (hashtag_crc16of.f (bits .and .u8 (bits .xor .u8 (((c : Int) / 256) % 256) (b : Int)) 255)) = some (Crc.tab ((c / 256) ^^^ b) : Int) := by
  have e1 : (((c : Int) / 256) % 256) = ((c / 256 : Nat) : Int) := by omega
  have hx : (c / 256) ^^^ b < 256 := Nat.xor_lt_two_pow (n := 8) (by omega) hb
  rw [e1, u8_xor_nat _ _ (by omega) hb]
  have e2 : bits .and .u8 (((c / 256) ^^^ b : Nat) : Int) 255 = (((c / 256) ^^^ b : Nat) : Int) := by
    have h := u8_and_nat ((c / 256) ^^^ b) 255 hx (by decide)
    have h2 : ((c / 256) ^^^ b) &&& 255 = (c / 256) ^^^ b := by
      rw [show (255 : Nat) = 2 ^ 8 - 1 from rfl, Nat.and_two_pow_sub_one_eq_mod]
      exact Nat.mod_eq_of_lt hx
    rw [h2] at h
    exact h
  rw [e2]
  unfold Go.Proofs.YtkogipaaioibaaaGreatDoor.PAll.hashtag_crc16of.f
  rw [if_pos (by omega), if_pos (by omega), Int.toNat_natCast]
theorem crcSum_from (s : ByteArray) (hs : s.size ≤ 140737488351232) (d : Nat) : ∀ (k i c : Nat), s.size - i = d → i ≤ s.size → d < k → c < 65536 →
    hashtag_crc16sum.l0 k s (c : Int) (i : Int) = some (Crc.crcL c (s.data.toList.drop i) : Int) := by
  induction d with
  | zero =>
    intro k i c hd hi hk hc
    obtain ⟨k, rfl⟩ : ∃ m, k = m + 1 := ⟨k - 1, by omega⟩
    simp only [Go.Proofs.YtkogipaaioibaaaGreatDoor.PAll.hashtag_crc16sum.l0]
    rw [if_neg (by omega), List.drop_eq_nil_of_le (by rw [Array.length_toList]; show s.size ≤ i; omega)]
    rfl
  | succ d ih =>
    intro k i c hd hi hk hc
    obtain ⟨k, rfl⟩ : ∃ m, k = m + 1 := ⟨k - 1, by omega⟩
    have hlt : i < s.size := by omega
    simp only [Go.Proofs.YtkogipaaioibaaaGreatDoor.PAll.hashtag_crc16sum.l0]
    rw [if_pos (by omega), if_pos (by omega), bt_nat s i hlt, crcStep c hc _ (UInt8.toNat_lt _)]
    simp only [Option.bind_some]
    have e1 : IntKind.u16.wrap ((c : Int) * 256) = ((c * 256 % 65536 : Nat) : Int) := by rw [IntKind.wrap_u16]; omega
    have e2 : wrap64 ((i : Int) + 1) = ((i + 1 : Nat) : Int) := by unfold wrap64; omega
    rw [e1, u16_xor_nat _ _ (Nat.mod_lt _ (by decide)) (Crc.tab_lt _), e2]
    have hn : (c * 256 % 65536) ^^^ Crc.tab ((c / 256) ^^^ s[i].toNat) = Crc.nextT c s[i].toNat := rfl
    rw [hn, ih k (i + 1) _ (by omega) (by omega) (by omega) (Crc.nextT_lt _ _)]
    have hdrop : s.data.toList.drop i = s[i] :: s.data.toList.drop (i + 1) := by
      rw [List.drop_eq_getElem_cons (by rw [Array.length_toList]; exact hlt)]
      rfl
    rw [hdrop, Crc.crcL_cons, Crc.next_eq]
theorem crcSum_any (s : ByteArray) (w : World) (hs : s.size ≤ 140737488351232) :
    Calls Tryz.prog 62 #[.string s] w fun e w' => e = .returned (.int .u16 (Crc.crcL 0 s.data.toList)) ∧ Drawn0 w w' :=
  PAll.hashtag_crc16sum.calls (s.size + 1) s _ w (crcSum_from s hs s.size (s.size + 1) 0 0 (by omega) (by omega) (by omega) (by decide))

/-- The slot of a key. -/
def slotN (s : ByteArray) : Nat := if s.data.toList = [] then 0 else Crc.crcL 0 (keyB s).data.toList % 16384

theorem keyB_size (s : ByteArray) : (keyB s).size ≤ s.size := by
  unfold keyB
  split
  · split
    · rw [ByteArray.size_extract]; omega
    · exact Nat.le_refl _
  · exact Nat.le_refl _

set_option maxHeartbeats 1000000 in
theorem tagSlot_any (s : ByteArray) (w : World) (hs : s.size ≤ 140737488351232) :
    Calls Tryz.prog 35 #[.string s] w fun e w' => e = .returned (.int .i64 (slotN s)) ∧ Drawn0 w w' := by
  have hd : s.toList = s.data.toList := ByteArray.toList_eq s
  by_cases he : s.toList = []
  · have hr : slotN s = 0 := by
      unfold slotN
      rw [if_pos (hd ▸ he)]
    rw [hr]
    have he2 : (s.toList == []) = true := by rw [he]; rfl
    clear hr hd
    go_enter Tryz.func35, Tryz.ntmps35
    go_wp2_with fail
    go_ret
    exact ⟨rfl, Drawn0.refl _⟩
  · have hc : Crc.crcL 0 (keyB s).data.toList < 65536 := Crc.crcL_lt _ (by decide) _
    have hr : slotN s = Crc.crcL 0 (keyB s).data.toList % 16384 := by
      unfold slotN
      rw [if_neg (hd ▸ he)]
    rw [hr]
    have H1 := fun w => key_any s w hs
    have H2 := fun w => crcSum_any (keyB s) w (Nat.le_trans (keyB_size s) hs)
    generalize Crc.crcL 0 (keyB s).data.toList = c at *
    have HH1 := Lib.hid H1
    have HH2 := Lib.hid H2
    have he2 : (s.toList == []) = false := beq_eq_false_iff_ne.mpr he
    clear H1 H2 hr hd he
    go_enter Tryz.func35, Tryz.ntmps35
    go_wp2_with fail
    refine (HH1.out _).mono ?_
    rintro e w' ⟨rfl, rfl⟩
    go_wp2_with fail
    refine (HH2.out _).mono ?_
    rintro e w' ⟨rfl, ⟨nd, rfl⟩⟩
    go_wp2_with fail
    go_ret
    refine ⟨?_, (Drawn0.refl _).step _⟩
    simp
theorem slot_any (s : ByteArray) (w : World) (hs : s.size ≤ 140737488351232) :
    Calls Tryz.prog 21 #[.string s] w fun e w' => e = .returned (.int .i64 (slotN s)) ∧ Drawn0 w w' := by
  go_enter Tryz.func21, Tryz.ntmps21
  go_wp2_with fail
  refine (tagSlot_any s _ hs).mono ?_
  rintro e w' ⟨rfl, ⟨nd, rfl⟩⟩
  go_wp2_with fail
  go_ret
  exact ⟨rfl, (Drawn0.refl _).step _⟩
theorem slot_foo : slotN ⟨#[102, 111, 111]⟩ = 12182 := by decide +kernel
end Go.Proofs.YtkogipaaioibaaaGreatDoor
