/- The Lean function of spec_Slot and its contract: the Go function comes to exactly what the Lean function answers (laid by the kit's print program). -/
import Derived.Test.YtjnookhdiolhgaaPAllx0
import Derived.Test.YtjnookhdiolhgaaPspeccrc
import Derived.Test.YtjnookhdiolhgaaPspecKey
namespace Go.Proofs.Ytjnookhdiolhgaa.PAll
open Go.RowKit Go.Proofs.YtjnookhdiolhgaaW.PrintWords Go.Proofs.YtjnookhdiolhgaaW.PrintLast Go.Proofs.YtjnookhdiolhgaaW.PrintMore
attribute [local go_sem] max2_int min2_int max_two min_two max_three min_three max_four min_four   -- for this text's walks alone
set_option linter.unusedVariables false
set_option linter.unusedSimpArgs false
-- NOT PRINTED: function 19 (spec_Pack)

-- NOT PRINTED: function 20 (laws_specVal)

-- NOT PRINTED: function 4 (laws_FnPackText)

/-! ### spec_Slot: function 21 -/
def spec_Slot.f (k : Nat) (a0 : ByteArray) : Option (Int × Int) := if a0.toList = ([] : List UInt8) then (some (0, 2)) else ((spec_Key.f k a0).bind fun t176 => ((spec_crc.f k t176).bind fun t177 => (some (Int.tmod (wrap64 (t177)) 16384, 1))))
theorem spec_Slot.mono : ∀ a0 k, LeO (spec_Slot.f k a0) (spec_Slot.f (k + 1) a0) := by
  intro a0 k
  unfold spec_Slot.f
  repeat' first
      | (with_reducible exact spec_Key.mono _ _)
      | (with_reducible exact spec_crc.mono _ _)
      | (with_reducible exact LeO.refl _)
      | (with_reducible exact LeO.none _)
      | (with_reducible refine LeO.ite ?_ ?_)
      | (with_reducible refine LeO.bind ?_ (fun _ => ?_))
      | exact spec_Key.mono _ _
      | exact spec_crc.mono _ _
      | exact LeO.none _
      | refine LeO.ite ?_ ?_
      | refine LeO.bind ?_ (fun _ => ?_)
set_option maxHeartbeats 8000000 in
set_option maxRecDepth 100000 in
theorem spec_Slot.calls (k : Nat) (a0 : ByteArray) (r1 : Int) (r2 : Int) (w : World) (h : spec_Slot.f k a0 = some (r1, r2)) :
    Calls Try.prog 21 #[.string a0] w fun e w' => e = .returned (.tuple #[.int .i64 r1, .int .i64 r2]) ∧ Drawn0 w w' := by
  have H : (if a0.toList = ([] : List UInt8) then (some (0, 2)) else ((spec_Key.f k a0).bind fun t176 => ((spec_crc.f k t176).bind fun t177 => (some (Int.tmod (wrap64 (t177)) 16384, 1))))) = some (r1, r2) := h
  clear h
  by_cases c2 : a0.toList = ([] : List UInt8)
  · rw [if_pos c2] at H
    have c2b0 : (a0.toList == ([] : List UInt8)) = true := beq_iff_eq.mpr c2
    have c2b1 : (a0.toList != ([] : List UInt8)) = false := bne_eq_false_iff_eq.mpr c2
    clear c2
    simp only [Option.some.injEq, Prod.mk.injEq] at H
    obtain ⟨rfl, rfl⟩ := H
    go_enter Try.func21, Try.ntmps21
    go_wp2
    go_ret2
    exact ⟨by first | rfl | (simp; done) | (simp [*]; done), by repeat (first | exact Drawn0.refl _ | apply Drawn0.step)⟩
  · rw [if_neg c2] at H
    have c2b0 : (a0.toList == ([] : List UInt8)) = false := beq_eq_false_iff_ne.mpr c2
    have c2b1 : (a0.toList != ([] : List UInt8)) = true := bne_iff_ne.mpr c2
    replace H := Option.bind_eq_some_iff.mp H
    obtain ⟨t176, A30, H⟩ := H
    replace H : ((spec_crc.f k t176).bind fun t177 => (some (Int.tmod (wrap64 (t177)) 16384, 1))) = some (r1, r2) := H
    have A3 := Aside0.mk A30
    clear A30
    replace H := Option.bind_eq_some_iff.mp H
    obtain ⟨t177, A40, H⟩ := H
    replace H : (some (Int.tmod (wrap64 (t177)) 16384, 1)) = some (r1, r2) := H
    have A4 := Aside0.mk A40
    clear A40
    simp only [Option.some.injEq, Prod.mk.injEq] at H
    obtain ⟨rfl, rfl⟩ := H
    go_enter Try.func21, Try.ntmps21
    go_wp2_with (first | ((with_reducible refine gate_callee (f := 46) rfl ?_); refine goesL_ (some 7) rfl rfl Try.func46 (by kernel_rfl) rfl #[.string a0] rfl (by (try simp only [List.map_toArray, List.map_cons, List.map_nil]); first | done | rfl | (simp only [List.length_drop, List.length_take]; rfl)) ?_; (with_reducible refine (spec_Key.calls k a0 t176 _ A3.out).mono ?_); rintro e w' ⟨rfl, ⟨nd, rfl⟩⟩; refine ⟨_, rfl, ?_⟩) | ((with_reducible refine gate_callee (f := 45) rfl ?_); refine goesL_ (some 8) rfl rfl Try.func45 (by kernel_rfl) rfl #[.string t176] rfl (by (try simp only [List.map_toArray, List.map_cons, List.map_nil]); first | done | rfl | (simp only [List.length_drop, List.length_take]; rfl)) ?_; (with_reducible refine (spec_crc.calls k t176 t177 _ A4.out).mono ?_); rintro e w' ⟨rfl, ⟨nd, rfl⟩⟩; refine ⟨_, rfl, ?_⟩))
    go_ret2
    exact ⟨by first | rfl | (simp; done) | (simp [*]; done), by repeat (first | exact Drawn0.refl _ | apply Drawn0.step)⟩

-- NOT PRINTED: function 5 (laws_FnSlot)

-- NOT PRINTED: function 48 (packstream_Packer_Int64s)

-- NOT PRINTED: function 78 (packstream_Packer_Int)

-- NOT PRINTED: function 49 (packstream_Packer_Ints)

-- NOT PRINTED: function 51 (packstream_Packer_Float64s)

-- NOT PRINTED: function 52 (packstream_Packer_Strings)

-- NOT PRINTED: function 24 (impl_PackLists)

-- NOT PRINTED: function 6 (laws_FnPackLists)

-- NOT PRINTED: function 53 (packstream_Packer_IntMap)

-- NOT PRINTED: function 54 (packstream_Packer_Int64Map)

-- NOT PRINTED: function 55 (packstream_Packer_Float64Map)

-- NOT PRINTED: function 56 (packstream_Packer_StringMap)

-- NOT PRINTED: function 57 (packstream_Packer_BytesMap)

-- NOT PRINTED: function 25 (impl_PackMap)

-- NOT PRINTED: function 7 (laws_FnPackMap)

end Go.Proofs.Ytjnookhdiolhgaa.PAll
