/- crc16of answers the table's entry of its byte. -/
import Derived.Test.YtkogipaaioibaaaGreatDoorPAllx0
import Derived.Test.YtkogipaaioibaaaGreatDoorCrc
import Derived.Lib.Hide
namespace Go.Proofs.YtkogipaaioibaaaGreatDoor.PAll
open Go.RowKit Go.Proofs.YtkogipaaioibaaaGreatDoorW.PrintWords Go.Proofs.YtkogipaaioibaaaGreatDoorW.PrintLast Go.Proofs.YtkogipaaioibaaaGreatDoorW.PrintMore
def hashtag_crc16of.f (a0 : Int) : Option (Int) := if 0 ≤ a0 then (if a0 < 256 then some (Crc.tab a0.toNat : Int) else none) else none

theorem tab_split (T : ByteArray) (hT : T.data.toList = Crc.tabBytes) (n : Nat) (hn : n < 256) (h1 : 2 * n < T.size) (h2 : 2 * n + 1 < T.size) :
    T[2 * n].toNat = Crc.tab n / 256 ∧ T[2 * n + 1].toNat = Crc.tab n % 256 := by
  have hk : ∀ m : Fin 256, (Crc.tabBytes[2 * m.val]?).map UInt8.toNat = some (Crc.tab m.val / 256) ∧ (Crc.tabBytes[2 * m.val + 1]?).map UInt8.toNat = some (Crc.tab m.val % 256) := by decide +kernel
  have hm := hk ⟨n, hn⟩
  simp only at hm
  rw [← hT] at hm
  have e : ∀ i (h : i < T.size), (T.data.toList[i]?).map UInt8.toNat = some (T[i]'h).toNat := by
    intro i h
    rw [List.getElem?_eq_getElem (by simpa using h)]
    rfl
  rw [e _ h1, e _ h2] at hm
  exact ⟨Option.some.inj hm.1, Option.some.inj hm.2⟩

set_option maxHeartbeats 8000000 in
set_option maxRecDepth 100000 in
theorem hashtag_crc16of.calls (a0 : Int) (r : Int) (w : World) (h : hashtag_crc16of.f a0 = some r) :
    Calls Tryz.prog 78 #[.int .u8 a0] w fun e w' => e = .returned (.int .u16 r) ∧ Drawn0 w w' := by
  unfold hashtag_crc16of.f at h
  by_cases h0 : 0 ≤ a0
  case neg => rw [if_neg h0] at h; cases h
  by_cases h1 : a0 < 256
  case neg => rw [if_pos h0, if_neg h1] at h; cases h
  rw [if_pos h0, if_pos h1] at h
  obtain rfl := Option.some.inj h
  obtain ⟨n, rfl⟩ := Int.eq_ofNat_of_zero_le h0
  rw [Int.toNat_natCast]
  clear h h0
  have h : n < 256 := by omega
  clear h1
  go_enter Tryz.func78, Tryz.ntmps78
  go_wp2
  generalize hT : ByteArray.mk _ = T
  have hs : T.size = 512 := by rw [← hT]; kernel_rfl
  have hb : T.data.toList = Crc.tabBytes := by rw [← hT]; kernel_rfl
  clear hT
  have e1 : IntKind.i64.wrap (n : Int) = n := IntWalk.i64_in _ (by omega)
  have e2 : IntKind.i64.wrap (2 * (n : Int)) = 2 * n := IntWalk.i64_in _ (by omega)
  have e3 : IntKind.i64.wrap (2 * (n : Int) + 1) = 2 * n + 1 := IntWalk.i64_in _ (by omega)
  have h1 : 2 * n < T.size := by omega
  have h2 : 2 * n + 1 < T.size := by omega
  have hv := tab_split T hb n h h1 h2
  have hl := Crc.tab_lt n
  have hfin : bits BinOp.or IntKind.u16 (IntKind.u16.wrap (IntKind.u16.wrap (T[2 * n].toNat : Int) * 256)) (IntKind.u16.wrap (T[2 * n + 1].toNat : Int)) = (Crc.tab n : Int) := by
    rw [hv.1, hv.2]
    have a1 : IntKind.u16.wrap ((Crc.tab n / 256 : Nat) : Int) = ((Crc.tab n / 256 : Nat) : Int) := IntWalk.u16_in _ (by omega)
    have a2 : IntKind.u16.wrap (((Crc.tab n / 256 : Nat) : Int) * 256) = ((Crc.tab n / 256 * 256 : Nat) : Int) := (IntWalk.u16_in _ (by omega)).trans (by omega)
    have a3 : IntKind.u16.wrap ((Crc.tab n % 256 : Nat) : Int) = ((Crc.tab n % 256 : Nat) : Int) := IntWalk.u16_in _ (by omega)
    rw [a1, a2, a3, u16_or_nat _ _ (by omega) (by omega), nat_join 8 _ _ (by omega) (by omega)]
    omega
  have HF := Lib.hid hfin
  clear hfin hv hb hl
  have h3 : (2 * (n : Int)).toNat = 2 * n := by omega
  have h4 : (2 * (n : Int) + 1).toNat = 2 * n + 1 := by omega
  have h5 : 0 ≤ 2 * (n : Int) := by omega
  have h6 : 0 ≤ 2 * (n : Int) + 1 := by omega
  have h7 : (2 * (n : Int)) < (T.size : Int) := by omega
  have h8 : (2 * (n : Int)) + 1 < (T.size : Int) := by omega
  have HS := Lib.hid hs
  clear hs
  go_quiet (fail)
  go_wp2
  go_ret
  exact ⟨congrArg (fun x => Ending.returned (.int .u16 x)) HF.out, (Drawn0.refl _).step _⟩
end Go.Proofs.YtkogipaaioibaaaGreatDoor.PAll
