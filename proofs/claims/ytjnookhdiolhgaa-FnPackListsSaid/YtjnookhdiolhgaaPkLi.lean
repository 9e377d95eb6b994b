/- The packer's methods for lists: numbers, floats, texts. -/
import Derived.Test.YtjnookhdiolhgaaNum
import Derived.Deep.LoopGhost
namespace Go.Proofs.Ytjnookhdiolhgaa
set_option linter.unusedVariables false
set_option linter.unusedSimpArgs false
open Go.RowKit Go.Proofs.YtjnookhdiolhgaaW.PrintWords
open PAll (info5 S26 k26)

/-- Floats by their bits. -/
def kfl : Kd Nat := Kd.scalar (fun b => Value.float .f64 b) (fun _ => rfl)
theorem at_enc {α : Type} {enc : α → Value} {h1 : ∀ x, (enc x).oneCell' = true} {w : World} {A : Option Addr} {xs : List α} (h : (Kd.scalar enc h1).C w A xs.length xs) {j : Nat} {x : α} (hx : xs[j]? = some x) : ∃ ad, A = some ad ∧ w.cell? (ad.add j) = some (enc x) := by
  have hj := (List.getElem?_eq_some_iff.1 hx).1
  obtain ⟨ad, e, hc⟩ := ReadsOf.at_ (Kd.reads_of_C (enc := enc) (d := x) (h1 := h1) h) (j : Int) (by omega) (by omega)
  refine ⟨ad, e, ?_⟩
  have e2 : rdOf x xs (j : Int) = x := by unfold rdOf; rw [Int.toNat_natCast, List.getD_eq_getElem?_getD, hx]; rfl
  rw [e2, Int.toNat_natCast] at hc
  exact hc
theorem fr_cell {B bp : Nat} {w w' : World} (h : Fr B bp w w') {a : Addr} {u : Value} (ha : a.block ≠ bp) (hB : a.block < B) (hc : w.cell? a = some u) : w'.cell? a = some u := by
  have hb := h.blk a.block (World.block_lt_of_cell? w a hc) ha (.inl hB)
  unfold World.cell? at hc ⊢
  rw [hb]
  exact hc
theorem fr_cell_add {B bp : Nat} {w w' : World} (h : Fr B bp w w') {a : Addr} {j : Nat} {u : Value} (ha : a.block ≠ bp) (hB : a.block < B) (hc : w.cell? (a.add j) = some u) : w'.cell? (a.add j) = some u := by
  have e : (a.add j).block = a.block := by unfold Addr.add; split <;> rfl
  exact fr_cell h (by rw [e]; exact ha) (by rw [e]; exact hB) hc
theorem flat_le {α : Type} (f : α → List Int) (L : List α) (j : Nat) : ((L.take j).flatMap f).length ≤ (L.flatMap f).length := by
  have h : L.flatMap f = (L.take j).flatMap f ++ (L.drop j).flatMap f := by rw [← List.flatMap_append, List.take_append_drop]
  rw [h, List.length_append]
  omega
theorem flat_snoc {α : Type} (f : α → List Int) {L : List α} {j : Nat} {x : α} (h : L[j]? = some x) : (L.take (j + 1)).flatMap f = (L.take j).flatMap f ++ f x := by
  rw [List.take_add_one, h, List.flatMap_append]
  simp

set_option maxHeartbeats 2000000 in
set_option maxRecDepth 100000 in
theorem pl_ints64 (L : List Int) (A : Option Addr) (c : Nat) {B bp : Nat} {xs : List Int} (w : World) (hc : L.length ≤ c) (hC : (Kd.int .i64).C w A L.length L) (hA : 0 < L.length → ∀ ad, A = some ad → ad.block ≠ bp ∧ ad.block < B) (h : PB w B bp xs) (hB : B ≤ w.heap.size)
    (hl : xs.length + (L.flatMap encInt).length ≤ 1000000000) (hn : L.length ≤ 100000) (hel : ∀ x ∈ L, -9223372036854775808 ≤ x ∧ x < 9223372036854775808) :
    Calls Try.prog 48 #[.pointer (some ⟨bp, 0, none⟩), .slice A L.length c] w fun e w' => e = .returned (.tuple #[]) ∧ PB w' B bp (xs ++ encHead 144 212 L.length ++ L.flatMap encInt) ∧ Fr B bp w w' := by
  have HH := Aside0.mk (pk_head L.length 144 212 w h hB (by omega) (by omega) (by omega) (by omega) (by omega))
  have HC := Aside0.mk hC
  have HA := Aside0.mk hA
  have HEL := Aside0.mk hel
  have HL := Aside0.mk hl
  have HBS := Aside0.mk hB
  clear hC hA hel hl h hB
  go_enter Try.func48, Try.ntmps48
  go_wp2_with fail
  refine (HH.out).mono ?_
  rintro e w1 ⟨rfl, hp, hf⟩
  have HP1 := Aside0.mk hp
  have HF1 := Aside0.mk hf
  clear hp hf HH
  go_wp2_with fail
  go_loopg [12] L.length (fun gk v12 wr => ∃ j : Nat, v12 = .int .i64 j ∧ Aside0 (j ≤ L.length ∧ gk = L.length - j) ∧ Aside0 (PB wr B bp (xs ++ encHead 144 212 L.length ++ (L.take j).flatMap encInt)) ∧ Aside0 (Fr B bp w wr))
  case atStart => exact ⟨0, rfl, ⟨by omega⟩, ⟨by simpa using HP1.out⟩, ⟨HF1.out⟩⟩
  case round =>
    clear HP1 HF1
    obtain ⟨j, rfl, HJ, HPJ, HFJ⟩ := hrel
    by_cases hj : j < L.length
    · obtain ⟨x, hx⟩ : ∃ x, L[j]? = some x := ⟨_, List.getElem?_eq_getElem hj⟩
      obtain ⟨ad, hAd, hcell⟩ := at_enc HC.out hx
      have hcr := fr_cell_add HFJ.out (HA.out (by omega) ad hAd).1 (HA.out (by omega) ad hAd).2 hcell
      subst hAd
      have hx0 := HEL.out x (List.mem_of_getElem? hx)
      have HX := Aside0.mk hx
      have hsz := HFJ.out.size
      have hle := flat_le encInt L j
      have hhd := encHead_len 144 212 L.length
      have hbs := HBS.out
      have hll := HL.out
      have hlen : (xs ++ encHead 144 212 L.length ++ (L.take j).flatMap encInt).length ≤ 1000000010 := by rw [List.length_append, List.length_append]; omega
      have HCALL := Aside0.mk (pk_int x _ HPJ.out (by omega) (by omega) hx0.1 hx0.2)
      clear hx hcell hsz hle hhd hbs hll hlen hx0
      go_wp2_with fail
      refine (HCALL.out).mono ?_
      rintro e w2 ⟨rfl, hp2, hf2⟩
      have HP2 := Aside0.mk hp2
      have HF2 := Aside0.mk (HFJ.out.trans hf2)
      clear hp2 hf2 HCALL hcr
      go_wp2_with fail
      go_roundg (L.length - (j + 1))
      case measure => have := HJ.out.2; omega
      case rel =>
        refine ⟨j + 1, by go_num, ⟨by omega⟩, ⟨?_⟩, ⟨HF2.out⟩⟩
        rw [flat_snoc encInt HX.out, ← List.append_assoc]
        exact HP2.out
    · have hje : j = L.length := by have := HJ.out.1; omega
      subst hje
      go_wp2_with fail
      go_end0
      refine ⟨rfl, ?_, HFJ.out⟩
      have h := HPJ.out
      rw [List.take_length] at h
      exact h

set_option maxHeartbeats 2000000 in
set_option maxRecDepth 100000 in
theorem pl_ints (L : List Int) (A : Option Addr) (c : Nat) {B bp : Nat} {xs : List Int} (w : World) (hc : L.length ≤ c) (hC : (Kd.int .i64).C w A L.length L) (hA : 0 < L.length → ∀ ad, A = some ad → ad.block ≠ bp ∧ ad.block < B) (h : PB w B bp xs) (hB : B ≤ w.heap.size)
    (hl : xs.length + (L.flatMap encInt).length ≤ 1000000000) (hn : L.length ≤ 100000) (hel : ∀ x ∈ L, -9223372036854775808 ≤ x ∧ x < 9223372036854775808) :
    Calls Try.prog 49 #[.pointer (some ⟨bp, 0, none⟩), .slice A L.length c] w fun e w' => e = .returned (.tuple #[]) ∧ PB w' B bp (xs ++ encHead 144 212 L.length ++ L.flatMap encInt) ∧ Fr B bp w w' := by
  have HH := Aside0.mk (pk_head L.length 144 212 w h hB (by omega) (by omega) (by omega) (by omega) (by omega))
  have HC := Aside0.mk hC
  have HA := Aside0.mk hA
  have HEL := Aside0.mk hel
  have HL := Aside0.mk hl
  have HBS := Aside0.mk hB
  clear hC hA hel hl h hB
  go_enter Try.func49, Try.ntmps49
  go_wp2_with fail
  refine (HH.out).mono ?_
  rintro e w1 ⟨rfl, hp, hf⟩
  have HP1 := Aside0.mk hp
  have HF1 := Aside0.mk hf
  clear hp hf HH
  go_wp2_with fail
  go_loopg [12] L.length (fun gk v12 wr => ∃ j : Nat, v12 = .int .i64 j ∧ Aside0 (j ≤ L.length ∧ gk = L.length - j) ∧ Aside0 (PB wr B bp (xs ++ encHead 144 212 L.length ++ (L.take j).flatMap encInt)) ∧ Aside0 (Fr B bp w wr))
  case atStart => exact ⟨0, rfl, ⟨by omega⟩, ⟨by simpa using HP1.out⟩, ⟨HF1.out⟩⟩
  case round =>
    clear HP1 HF1
    obtain ⟨j, rfl, HJ, HPJ, HFJ⟩ := hrel
    by_cases hj : j < L.length
    · obtain ⟨x, hx⟩ : ∃ x, L[j]? = some x := ⟨_, List.getElem?_eq_getElem hj⟩
      obtain ⟨ad, hAd, hcell⟩ := at_enc HC.out hx
      have hcr := fr_cell_add HFJ.out (HA.out (by omega) ad hAd).1 (HA.out (by omega) ad hAd).2 hcell
      subst hAd
      have hx0 := HEL.out x (List.mem_of_getElem? hx)
      have HX := Aside0.mk hx
      have hsz := HFJ.out.size
      have hle := flat_le encInt L j
      have hhd := encHead_len 144 212 L.length
      have hbs := HBS.out
      have hll := HL.out
      have hlen : (xs ++ encHead 144 212 L.length ++ (L.take j).flatMap encInt).length ≤ 1000000010 := by rw [List.length_append, List.length_append]; omega
      have HCALL := Aside0.mk (num_int x _ HPJ.out (by omega) (by omega) hx0.1 (by omega))
      clear hx hcell hsz hle hhd hbs hll hlen hx0
      go_wp2_with fail
      refine (HCALL.out).mono ?_
      rintro e w2 ⟨rfl, hp2, hf2⟩
      have HP2 := Aside0.mk hp2
      have HF2 := Aside0.mk (HFJ.out.trans hf2)
      clear hp2 hf2 HCALL hcr
      go_wp2_with fail
      go_roundg (L.length - (j + 1))
      case measure => have := HJ.out.2; omega
      case rel =>
        refine ⟨j + 1, by go_num, ⟨by omega⟩, ⟨?_⟩, ⟨HF2.out⟩⟩
        rw [flat_snoc encInt HX.out, ← List.append_assoc]
        exact HP2.out
    · have hje : j = L.length := by have := HJ.out.1; omega
      subst hje
      go_wp2_with fail
      go_end0
      refine ⟨rfl, ?_, HFJ.out⟩
      have h := HPJ.out
      rw [List.take_length] at h
      exact h

set_option maxHeartbeats 2000000 in
set_option maxRecDepth 100000 in
theorem pl_floats (L : List Nat) (A : Option Addr) (c : Nat) {B bp : Nat} {xs : List Int} (w : World) (hc : L.length ≤ c) (hC : kfl.C w A L.length L) (hA : 0 < L.length → ∀ ad, A = some ad → ad.block ≠ bp ∧ ad.block < B) (h : PB w B bp xs) (hB : B ≤ w.heap.size)
    (hl : xs.length + (L.flatMap encFloat).length ≤ 1000000000) (hn : L.length ≤ 100000) (hel : ∀ x ∈ L, x < 18446744073709551616) :
    Calls Try.prog 51 #[.pointer (some ⟨bp, 0, none⟩), .slice A L.length c] w fun e w' => e = .returned (.tuple #[]) ∧ PB w' B bp (xs ++ encHead 144 212 L.length ++ L.flatMap encFloat) ∧ Fr B bp w w' := by
  have HH := Aside0.mk (pk_head L.length 144 212 w h hB (by omega) (by omega) (by omega) (by omega) (by omega))
  have HC := Aside0.mk hC
  have HA := Aside0.mk hA
  have HEL := Aside0.mk hel
  have HL := Aside0.mk hl
  have HBS := Aside0.mk hB
  clear hC hA hel hl h hB
  go_enter Try.func51, Try.ntmps51
  go_wp2_with fail
  refine (HH.out).mono ?_
  rintro e w1 ⟨rfl, hp, hf⟩
  have HP1 := Aside0.mk hp
  have HF1 := Aside0.mk hf
  clear hp hf HH
  go_wp2_with fail
  go_loopg [12] L.length (fun gk v12 wr => ∃ j : Nat, v12 = .int .i64 j ∧ Aside0 (j ≤ L.length ∧ gk = L.length - j) ∧ Aside0 (PB wr B bp (xs ++ encHead 144 212 L.length ++ (L.take j).flatMap encFloat)) ∧ Aside0 (Fr B bp w wr))
  case atStart => exact ⟨0, rfl, ⟨by omega⟩, ⟨by simpa using HP1.out⟩, ⟨HF1.out⟩⟩
  case round =>
    clear HP1 HF1
    obtain ⟨j, rfl, HJ, HPJ, HFJ⟩ := hrel
    by_cases hj : j < L.length
    · obtain ⟨x, hx⟩ : ∃ x, L[j]? = some x := ⟨_, List.getElem?_eq_getElem hj⟩
      obtain ⟨ad, hAd, hcell⟩ := at_enc HC.out hx
      have hcr := fr_cell_add HFJ.out (HA.out (by omega) ad hAd).1 (HA.out (by omega) ad hAd).2 hcell
      subst hAd
      have hx0 := HEL.out x (List.mem_of_getElem? hx)
      have HX := Aside0.mk hx
      have hsz := HFJ.out.size
      have hle := flat_le encFloat L j
      have hhd := encHead_len 144 212 L.length
      have hbs := HBS.out
      have hll := HL.out
      have hlen : (xs ++ encHead 144 212 L.length ++ (L.take j).flatMap encFloat).length ≤ 1000000010 := by rw [List.length_append, List.length_append]; omega
      have HCALL := Aside0.mk (pk_float x _ HPJ.out (by omega) (by omega) hx0)
      clear hx hcell hsz hle hhd hbs hll hlen hx0
      go_wp2_with fail
      refine (HCALL.out).mono ?_
      rintro e w2 ⟨rfl, hp2, hf2⟩
      have HP2 := Aside0.mk hp2
      have HF2 := Aside0.mk (HFJ.out.trans hf2)
      clear hp2 hf2 HCALL hcr
      go_wp2_with fail
      go_roundg (L.length - (j + 1))
      case measure => have := HJ.out.2; omega
      case rel =>
        refine ⟨j + 1, by go_num, ⟨by omega⟩, ⟨?_⟩, ⟨HF2.out⟩⟩
        rw [flat_snoc encFloat HX.out, ← List.append_assoc]
        exact HP2.out
    · have hje : j = L.length := by have := HJ.out.1; omega
      subst hje
      go_wp2_with fail
      go_end0
      refine ⟨rfl, ?_, HFJ.out⟩
      have h := HPJ.out
      rw [List.take_length] at h
      exact h

set_option maxHeartbeats 2000000 in
set_option maxRecDepth 100000 in
theorem pl_strings (L : List ByteArray) (A : Option Addr) (c : Nat) {B bp : Nat} {xs : List Int} (w : World) (hc : L.length ≤ c) (hC : Kd.string.C w A L.length L) (hA : 0 < L.length → ∀ ad, A = some ad → ad.block ≠ bp ∧ ad.block < B) (h : PB w B bp xs) (hB : B ≤ w.heap.size)
    (hl : xs.length + (L.flatMap encText).length ≤ 1000000000) (hn : L.length ≤ 100000) (hel : ∀ x ∈ L, x.size ≤ 300) :
    Calls Try.prog 52 #[.pointer (some ⟨bp, 0, none⟩), .slice A L.length c] w fun e w' => e = .returned (.tuple #[]) ∧ PB w' B bp (xs ++ encHead 144 212 L.length ++ L.flatMap encText) ∧ Fr B bp w w' := by
  have HH := Aside0.mk (pk_head L.length 144 212 w h hB (by omega) (by omega) (by omega) (by omega) (by omega))
  have HC := Aside0.mk hC
  have HA := Aside0.mk hA
  have HEL := Aside0.mk hel
  have HL := Aside0.mk hl
  have HBS := Aside0.mk hB
  clear hC hA hel hl h hB
  go_enter Try.func52, Try.ntmps52
  go_wp2_with fail
  refine (HH.out).mono ?_
  rintro e w1 ⟨rfl, hp, hf⟩
  have HP1 := Aside0.mk hp
  have HF1 := Aside0.mk hf
  clear hp hf HH
  go_wp2_with fail
  go_loopg [12] L.length (fun gk v12 wr => ∃ j : Nat, v12 = .int .i64 j ∧ Aside0 (j ≤ L.length ∧ gk = L.length - j) ∧ Aside0 (PB wr B bp (xs ++ encHead 144 212 L.length ++ (L.take j).flatMap encText)) ∧ Aside0 (Fr B bp w wr))
  case atStart => exact ⟨0, rfl, ⟨by omega⟩, ⟨by simpa using HP1.out⟩, ⟨HF1.out⟩⟩
  case round =>
    clear HP1 HF1
    obtain ⟨j, rfl, HJ, HPJ, HFJ⟩ := hrel
    by_cases hj : j < L.length
    · obtain ⟨x, hx⟩ : ∃ x, L[j]? = some x := ⟨_, List.getElem?_eq_getElem hj⟩
      obtain ⟨ad, hAd, hcell⟩ := at_enc HC.out hx
      have hcr := fr_cell_add HFJ.out (HA.out (by omega) ad hAd).1 (HA.out (by omega) ad hAd).2 hcell
      subst hAd
      have hx0 := HEL.out x (List.mem_of_getElem? hx)
      have HX := Aside0.mk hx
      have hsz := HFJ.out.size
      have hle := flat_le encText L j
      have hhd := encHead_len 144 212 L.length
      have hbs := HBS.out
      have hll := HL.out
      have hlen : (xs ++ encHead 144 212 L.length ++ (L.take j).flatMap encText).length ≤ 1000000010 := by rw [List.length_append, List.length_append]; omega
      have HCALL := Aside0.mk (pk_string x _ HPJ.out (by omega) (by omega) (by omega))
      clear hx hcell hsz hle hhd hbs hll hlen hx0
      go_wp2_with fail
      refine (HCALL.out).mono ?_
      rintro e w2 ⟨rfl, hp2, hf2⟩
      have HP2 := Aside0.mk hp2
      have HF2 := Aside0.mk (HFJ.out.trans hf2)
      clear hp2 hf2 HCALL hcr
      go_wp2_with fail
      go_roundg (L.length - (j + 1))
      case measure => have := HJ.out.2; omega
      case rel =>
        refine ⟨j + 1, by go_num, ⟨by omega⟩, ⟨?_⟩, ⟨HF2.out⟩⟩
        rw [flat_snoc encText HX.out, ← List.append_assoc]
        exact HP2.out
    · have hje : j = L.length := by have := HJ.out.1; omega
      subst hje
      go_wp2_with fail
      go_end0
      refine ⟨rfl, ?_, HFJ.out⟩
      have h := HPJ.out
      rw [List.take_length] at h
      exact h
end Go.Proofs.Ytjnookhdiolhgaa
