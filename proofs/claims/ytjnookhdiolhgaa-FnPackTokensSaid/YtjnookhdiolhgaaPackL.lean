/- impl.pack at lists, maps and structs: the header, and the parts one behind the other. -/
import Derived.Test.YtjnookhdiolhgaaPack
import Derived.Deep.LoopGhost
namespace Go.Proofs.Ytjnookhdiolhgaa
open Go.RowKit Go.Proofs.YtjnookhdiolhgaaW.PrintWords
open PAll (info5 S26 k26 rd_T26)

theorem enc_le {j : Nat} {y : S26} (m : Bool) (keys : List ByteArray) (kids : List S26) (h : kids[j]? = some y) :
    (encKids m keys (kids.take j)).length + ((if m then encText (keys.getD j ByteArray.empty) else []) ++ enc y).length ≤ (encKids m keys kids).length := by
  have h1 := encKids_prefix m keys kids (j + 1)
  rw [encKids_snoc m keys kids j y h, List.length_append] at h1
  exact h1

set_option maxHeartbeats 4000000 in
set_option maxRecDepth 100000 in
theorem pack_k6 (N : Nat) (ih : PackSaid N) (b : Bool) (i f : Int) (s : ByteArray) (keys : List ByteArray) (kids : List S26) (A5 : Option Addr) (c5 : Nat) (A6 : Option Addr) (c6 : Nat) (deep : Int) (B bp : Nat) (xs : List Int) (w0 w : World)
    (hN : nodesAll kids ≤ N) (hok : okAll kids) (hwf : wfAll kids) (hd0 : 0 ≤ deep) (hd1 : deep + nodesAll kids ≤ 1000) (hc5 : keys.length ≤ c5) (hc6 : kids.length ≤ c6)
    (hk5 : Kd.C Kd.string w0 A5 keys.length keys) (hk6 : Kd.C k26 w0 A6 kids.length kids) (hw : Below w0.heap.size w0 w) (h0B : w0.heap.size ≤ B) (hBp : B ≤ bp) (hB : B ≤ w.heap.size)
    (hpb : PB w B bp xs) (hl : xs.length + (encHead 144 212 kids.length : List Int).length + (encKids false keys kids).length ≤ 1099511626776) :
    Calls Try.prog 41 #[.pointer (some ⟨bp, 0, none⟩), .agg #[.int .i64 6, .bool b, .int .i64 i, .int .u64 f, .string s, .slice A5 keys.length c5, .slice A6 kids.length c6], .int .i64 deep] w fun e w' =>
      e = .returned (.bool true) ∧ PB w' B bp (xs ++ encHead 144 212 kids.length ++ encKids false keys kids) ∧ Fr B bp w w' := by
  have HP := Aside0.mk hpb
  have hlt := hpb.lt
  have hlen : (encHead 144 212 kids.length : List Int).length ≤ 5 := encHead_len _ _ _
  have HK5 := Aside0.mk hk5
  have HK6 := Aside0.mk hk6
  have HW := Aside0.mk hw
  have HN := Aside0.mk hN
  have HOK := Aside0.mk hok
  have HWF := Aside0.mk hwf
  have hkn := nodesAll_len kids
  have hkn2 : kids.length ≤ 1000 := by omega
  have HD := Aside0.mk hd1
  have hdd : deep ≤ 1000 := by omega
  have HC5 := Aside0.mk hc5
  have HC6 := Aside0.mk hc6
  have HL := Aside0.mk hl
  have HLEN := Aside0.mk hlen
  have HZ := Aside0.mk (And.intro h0B hBp)
  clear hpb hk5 hk6 hw hN hok hwf hkn hd1 hc5 hc6 hl hlen h0B hBp
  go_enter Try.func41, Try.ntmps41
  go_wp2_with fail
  refine (pk_array kids.length _ (HP.out.alloc _) (by simp; omega) (by have := HL.out; omega) (by omega) (by omega)).mono ?_
  rintro e w1 ⟨rfl, hp1, hf1⟩
  have hk := hf1.keep (heap_alloc_new w _) (by omega) (by decide)
  obtain ⟨hc0, hc1, hc2, hc3, hc4, hc5, hc6⟩ := box7 hk
  have hsz1 := hf1.size
  simp only [World.size_alloc] at hsz1
  have HP1 := Aside0.mk hp1
  have HF1 := Aside0.mk (((Fr.refl B bp w).alloc _).trans hf1)
  have HBX := Aside0.mk hk
  clear hp1 hf1 hk hc1 hc2 hc3 hc4 hc5
  go_wp2_with fail
  clear hc0 hc6
  go_loopg [96] kids.length (fun gk v96 wr => ∃ j : Nat, v96 = .int .i64 j ∧ Aside0 (j ≤ kids.length ∧ gk = kids.length - j) ∧ Aside0 (PB wr B bp (xs ++ encHead 144 212 kids.length ++ encKids false keys (kids.take j))) ∧ Aside0 (Fr B bp w wr) ∧
    Aside0 (wr.heap[w.heap.size]? = some (.cells #[.int .i64 6, .bool b, .int .i64 i, .int .u64 f, .string s, .slice A5 keys.length c5, .slice A6 kids.length c6] 26 (0, 0))))
  case atStart => exact ⟨0, rfl, ⟨by omega⟩, ⟨by simpa [encKids] using HP1.out⟩, ⟨HF1.out⟩, ⟨HBX.out⟩⟩
  case round =>
    clear HP1 HF1 HBX HP
    obtain ⟨j, rfl, HJ, HPJ, HFJ, HBJ⟩ := hrel
    obtain ⟨hc0, hc1, hc2, hc3, hc4, hc5, hc6⟩ := box7 HBJ.out
    have hszr : w.heap.size ≤ wr.heap.size := HFJ.out.size
    have hszb : w.heap.size < wr.heap.size := blk_lt HBJ.out
    clear hc1 hc2 hc3 hc4 hc6
    by_cases hj : j < kids.length
    · obtain ⟨y, hy⟩ : ∃ y, kids[j]? = some y := ⟨_, List.getElem?_eq_getElem hj⟩
      have hbr : Below w0.heap.size w0 wr := HW.out.trans (HFJ.out.below (by have := HZ.out.2; omega) hB |>.mono HZ.out.1)
      obtain ⟨ad, B5, d5, B6, d6, hA, g0, g1, g2, g3, g4, g5, g6, l5, q5, l6, q6⟩ := PAll.at_T26 HK6.out (j : Int) (by omega) (by omega)
      have hry : rd_T26 kids (j : Int) = y := by unfold Go.Proofs.Ytjnookhdiolhgaa.PAll.rd_T26; rw [Int.toNat_natCast, List.getD_eq_getElem?_getD, hy]; rfl
      rw [hry] at g0 g1 g2 g3 g4 g5 g6 l5 q5 l6 q6
      rw [Int.toNat_natCast] at g0 g1 g2 g3 g4 g5 g6
      have h0 := pw_cell_below hbr g0
      have h1 := pw_cell_below hbr g1
      have h2 := pw_cell_below hbr g2
      have h3 := pw_cell_below hbr g3
      have h4 := pw_cell_below hbr g4
      have h5 := pw_cell_below hbr g5
      have h6 := pw_cell_below hbr g6
      subst hA
      have HY := Aside0.mk hy
      have HQ := Aside0.mk (And.intro l5 (And.intro q5 (And.intro l6 q6)))
      have HBR := Aside0.mk hbr
      clear g0 g1 g2 g3 g4 g5 g6 l5 q5 l6 q6 hry hy hbr
      have hle := enc_le false keys kids HY.out
      rw [List.length_append] at hle
      have HLE := Aside0.mk hle
      have hny := nodes_at HY.out
      have HNY := Aside0.mk hny
      clear hle hny
      have HIH := ih y B5 d5 B6 d6 (deep + 1) B bp _ w0 _ (by have := HNY.out; have := HN.out; omega) (okAll_at HOK.out HY.out) (wfAll_at HWF.out HY.out) (by omega) (by have := HNY.out; have := HD.out; omega) HQ.out.1 HQ.out.2.2.1 HQ.out.2.1 HQ.out.2.2.2 (below_alloc HBR.out (.cells #[.int .i64 y.f0, .bool y.f1, .int .i64 y.f2, .int .u64 y.f3, .string y.f4, .slice B5 y.f5.length d5, .slice B6 y.f6.length d6] 26)) HZ.out.1 HZ.out.2 (by simp; omega) (HPJ.out.alloc (.cells #[.int .i64 y.f0, .bool y.f1, .int .i64 y.f2, .int .u64 y.f3, .string y.f4, .slice B5 y.f5.length d5, .slice B6 y.f6.length d6] 26)) (by simp only [List.length_append]; have := HLE.out; have := HL.out; have := HLEN.out; omega)
      unfold valOf at HIH
      have HX := Aside0.mk HIH
      clear HIH
      go_wp2_with fail
      refine (HX.out).mono ?_
      rintro e w2 ⟨rfl, hp2, hf2⟩
      have hbx := hf2.keep ((Below.heap_alloc wr _ _ hszb).trans HBJ.out) (by omega) (by decide)
      have HP2 := Aside0.mk hp2
      have HF2 := Aside0.mk ((HFJ.out.alloc (.cells #[.int .i64 y.f0, .bool y.f1, .int .i64 y.f2, .int .u64 y.f3, .string y.f4, .slice B5 y.f5.length d5, .slice B6 y.f6.length d6] 26)).trans hf2)
      have HB2 := Aside0.mk hbx
      clear hp2 hf2 hbx HX
      go_wp2_with fail
      go_roundg (kids.length - (j + 1))
      case measure => have := HJ.out.2; omega
      case rel =>
        refine ⟨j + 1, by go_num, ⟨by omega⟩, ⟨?_⟩, ⟨HF2.out⟩, ⟨HB2.out⟩⟩
        rw [encKids_snoc false keys kids j y HY.out]
        simpa [List.append_assoc] using HP2.out
    · have hje : j = kids.length := by have := HJ.out.1; omega
      subst hje
      go_wp2_with fail
      go_ret
      refine ⟨rfl, ?_, HFJ.out⟩
      have h := HPJ.out
      rw [List.take_length] at h
      exact h

set_option maxHeartbeats 4000000 in
set_option maxRecDepth 100000 in
theorem pack_k8 (N : Nat) (ih : PackSaid N) (b : Bool) (i f : Int) (s : ByteArray) (keys : List ByteArray) (kids : List S26) (A5 : Option Addr) (c5 : Nat) (A6 : Option Addr) (c6 : Nat) (deep : Int) (B bp : Nat) (xs : List Int) (w0 w : World)
    (hN : nodesAll kids ≤ N) (hok : okAll kids) (hwf : wfAll kids) (hi0 : 0 ≤ i) (hi1 : i ≤ 255) (hnk : kids.length ≤ 15) (hd0 : 0 ≤ deep) (hd1 : deep + nodesAll kids ≤ 1000) (hc5 : keys.length ≤ c5) (hc6 : kids.length ≤ c6)
    (hk5 : Kd.C Kd.string w0 A5 keys.length keys) (hk6 : Kd.C k26 w0 A6 kids.length kids) (hw : Below w0.heap.size w0 w) (h0B : w0.heap.size ≤ B) (hBp : B ≤ bp) (hB : B ≤ w.heap.size)
    (hpb : PB w B bp xs) (hl : xs.length + ([176 + (kids.length : Int), i] : List Int).length + (encKids false keys kids).length ≤ 1099511626776) :
    Calls Try.prog 41 #[.pointer (some ⟨bp, 0, none⟩), .agg #[.int .i64 8, .bool b, .int .i64 i, .int .u64 f, .string s, .slice A5 keys.length c5, .slice A6 kids.length c6], .int .i64 deep] w fun e w' =>
      e = .returned (.bool true) ∧ PB w' B bp (xs ++ [176 + (kids.length : Int), i] ++ encKids false keys kids) ∧ Fr B bp w w' := by
  have HP := Aside0.mk hpb
  have hlt := hpb.lt
  have hlen : ([176 + (kids.length : Int), i] : List Int).length ≤ 5 := by simp
  have HK5 := Aside0.mk hk5
  have HK6 := Aside0.mk hk6
  have HW := Aside0.mk hw
  have HN := Aside0.mk hN
  have HOK := Aside0.mk hok
  have HWF := Aside0.mk hwf
  have hkn := nodesAll_len kids
  have hkn2 : kids.length ≤ 1000 := by omega
  have HD := Aside0.mk hd1
  have hdd : deep ≤ 1000 := by omega
  have HC5 := Aside0.mk hc5
  have HC6 := Aside0.mk hc6
  have HL := Aside0.mk hl
  have HLEN := Aside0.mk hlen
  have HZ := Aside0.mk (And.intro h0B hBp)
  clear hpb hk5 hk6 hw hN hok hwf hkn hd1 hc5 hc6 hl hlen h0B hBp
  go_enter Try.func41, Try.ntmps41
  go_wp2_with fail
  refine (pk_struct i kids.length _ (HP.out.alloc _) (by simp; omega) (by have := HL.out; omega) (by omega)).mono ?_
  rintro e w1 ⟨rfl, hp1, hf1⟩
  have hk := hf1.keep (heap_alloc_new w _) (by omega) (by decide)
  obtain ⟨hc0, hc1, hc2, hc3, hc4, hc5, hc6⟩ := box7 hk
  have hsz1 := hf1.size
  simp only [World.size_alloc] at hsz1
  have HP1 := Aside0.mk hp1
  have HF1 := Aside0.mk (((Fr.refl B bp w).alloc _).trans hf1)
  have HBX := Aside0.mk hk
  clear hp1 hf1 hk hc1 hc2 hc3 hc4 hc5
  go_wp2_with fail
  clear hc0 hc6
  go_loopg [96] kids.length (fun gk v96 wr => ∃ j : Nat, v96 = .int .i64 j ∧ Aside0 (j ≤ kids.length ∧ gk = kids.length - j) ∧ Aside0 (PB wr B bp (xs ++ [176 + (kids.length : Int), i] ++ encKids false keys (kids.take j))) ∧ Aside0 (Fr B bp w wr) ∧
    Aside0 (wr.heap[w.heap.size]? = some (.cells #[.int .i64 8, .bool b, .int .i64 i, .int .u64 f, .string s, .slice A5 keys.length c5, .slice A6 kids.length c6] 26 (0, 0))))
  case atStart => exact ⟨0, rfl, ⟨by omega⟩, ⟨by simpa [encKids] using HP1.out⟩, ⟨HF1.out⟩, ⟨HBX.out⟩⟩
  case round =>
    clear HP1 HF1 HBX HP
    obtain ⟨j, rfl, HJ, HPJ, HFJ, HBJ⟩ := hrel
    obtain ⟨hc0, hc1, hc2, hc3, hc4, hc5, hc6⟩ := box7 HBJ.out
    have hszr : w.heap.size ≤ wr.heap.size := HFJ.out.size
    have hszb : w.heap.size < wr.heap.size := blk_lt HBJ.out
    clear hc1 hc2 hc3 hc4 hc6
    by_cases hj : j < kids.length
    · obtain ⟨y, hy⟩ : ∃ y, kids[j]? = some y := ⟨_, List.getElem?_eq_getElem hj⟩
      have hbr : Below w0.heap.size w0 wr := HW.out.trans (HFJ.out.below (by have := HZ.out.2; omega) hB |>.mono HZ.out.1)
      obtain ⟨ad, B5, d5, B6, d6, hA, g0, g1, g2, g3, g4, g5, g6, l5, q5, l6, q6⟩ := PAll.at_T26 HK6.out (j : Int) (by omega) (by omega)
      have hry : rd_T26 kids (j : Int) = y := by unfold Go.Proofs.Ytjnookhdiolhgaa.PAll.rd_T26; rw [Int.toNat_natCast, List.getD_eq_getElem?_getD, hy]; rfl
      rw [hry] at g0 g1 g2 g3 g4 g5 g6 l5 q5 l6 q6
      rw [Int.toNat_natCast] at g0 g1 g2 g3 g4 g5 g6
      have h0 := pw_cell_below hbr g0
      have h1 := pw_cell_below hbr g1
      have h2 := pw_cell_below hbr g2
      have h3 := pw_cell_below hbr g3
      have h4 := pw_cell_below hbr g4
      have h5 := pw_cell_below hbr g5
      have h6 := pw_cell_below hbr g6
      subst hA
      have HY := Aside0.mk hy
      have HQ := Aside0.mk (And.intro l5 (And.intro q5 (And.intro l6 q6)))
      have HBR := Aside0.mk hbr
      clear g0 g1 g2 g3 g4 g5 g6 l5 q5 l6 q6 hry hy hbr
      have hle := enc_le false keys kids HY.out
      rw [List.length_append] at hle
      have HLE := Aside0.mk hle
      have hny := nodes_at HY.out
      have HNY := Aside0.mk hny
      clear hle hny
      have HIH := ih y B5 d5 B6 d6 (deep + 1) B bp _ w0 _ (by have := HNY.out; have := HN.out; omega) (okAll_at HOK.out HY.out) (wfAll_at HWF.out HY.out) (by omega) (by have := HNY.out; have := HD.out; omega) HQ.out.1 HQ.out.2.2.1 HQ.out.2.1 HQ.out.2.2.2 (below_alloc HBR.out (.cells #[.int .i64 y.f0, .bool y.f1, .int .i64 y.f2, .int .u64 y.f3, .string y.f4, .slice B5 y.f5.length d5, .slice B6 y.f6.length d6] 26)) HZ.out.1 HZ.out.2 (by simp; omega) (HPJ.out.alloc (.cells #[.int .i64 y.f0, .bool y.f1, .int .i64 y.f2, .int .u64 y.f3, .string y.f4, .slice B5 y.f5.length d5, .slice B6 y.f6.length d6] 26)) (by simp only [List.length_append]; have := HLE.out; have := HL.out; have := HLEN.out; omega)
      unfold valOf at HIH
      have HX := Aside0.mk HIH
      clear HIH
      go_wp2_with fail
      refine (HX.out).mono ?_
      rintro e w2 ⟨rfl, hp2, hf2⟩
      have hbx := hf2.keep ((Below.heap_alloc wr _ _ hszb).trans HBJ.out) (by omega) (by decide)
      have HP2 := Aside0.mk hp2
      have HF2 := Aside0.mk ((HFJ.out.alloc (.cells #[.int .i64 y.f0, .bool y.f1, .int .i64 y.f2, .int .u64 y.f3, .string y.f4, .slice B5 y.f5.length d5, .slice B6 y.f6.length d6] 26)).trans hf2)
      have HB2 := Aside0.mk hbx
      clear hp2 hf2 hbx HX
      go_wp2_with fail
      go_roundg (kids.length - (j + 1))
      case measure => have := HJ.out.2; omega
      case rel =>
        refine ⟨j + 1, by go_num, ⟨by omega⟩, ⟨?_⟩, ⟨HF2.out⟩, ⟨HB2.out⟩⟩
        rw [encKids_snoc false keys kids j y HY.out]
        simpa [List.append_assoc] using HP2.out
    · have hje : j = kids.length := by have := HJ.out.1; omega
      subst hje
      go_wp2_with fail
      go_ret
      refine ⟨rfl, ?_, HFJ.out⟩
      have h := HPJ.out
      rw [List.take_length] at h
      exact h

set_option maxHeartbeats 4000000 in
set_option maxRecDepth 100000 in
theorem pack_k7 (N : Nat) (ih : PackSaid N) (b : Bool) (i f : Int) (s : ByteArray) (keys : List ByteArray) (kids : List S26) (A5 : Option Addr) (c5 : Nat) (A6 : Option Addr) (c6 : Nat) (deep : Int) (B bp : Nat) (xs : List Int) (w0 w : World)
    (hN : nodesAll kids ≤ N) (hok : okAll kids) (hwf : wfAll kids) (hkl : keys.length = kids.length) (hks : ∀ t ∈ keys, t.size ≤ 300) (hd0 : 0 ≤ deep) (hd1 : deep + nodesAll kids ≤ 1000) (hc5 : keys.length ≤ c5) (hc6 : kids.length ≤ c6)
    (hk5 : Kd.C Kd.string w0 A5 keys.length keys) (hk6 : Kd.C k26 w0 A6 kids.length kids) (hw : Below w0.heap.size w0 w) (h0B : w0.heap.size ≤ B) (hBp : B ≤ bp) (hB : B ≤ w.heap.size)
    (hpb : PB w B bp xs) (hl : xs.length + (encHead 160 216 kids.length : List Int).length + (encKids true keys kids).length ≤ 1099511626776) :
    Calls Try.prog 41 #[.pointer (some ⟨bp, 0, none⟩), .agg #[.int .i64 7, .bool b, .int .i64 i, .int .u64 f, .string s, .slice A5 keys.length c5, .slice A6 kids.length c6], .int .i64 deep] w fun e w' =>
      e = .returned (.bool true) ∧ PB w' B bp (xs ++ encHead 160 216 kids.length ++ encKids true keys kids) ∧ Fr B bp w w' := by
  have HP := Aside0.mk hpb
  have hlt := hpb.lt
  have hlen : (encHead 160 216 kids.length : List Int).length ≤ 5 := encHead_len _ _ _
  have HK5 := Aside0.mk hk5
  have HK6 := Aside0.mk hk6
  have HW := Aside0.mk hw
  have HN := Aside0.mk hN
  have HOK := Aside0.mk hok
  have HWF := Aside0.mk hwf
  have hkn := nodesAll_len kids
  have hkn2 : kids.length ≤ 1000 := by omega
  have HD := Aside0.mk hd1
  have hdd : deep ≤ 1000 := by omega
  have HC5 := Aside0.mk hc5
  have HC6 := Aside0.mk hc6
  have HL := Aside0.mk hl
  have HLEN := Aside0.mk hlen
  have HZ := Aside0.mk (And.intro h0B hBp)
  have HKL := Aside0.mk hkl
  have HKS := Aside0.mk hks
  have hlk : ((keys.length : Int) != (kids.length : Int)) = false := by rw [hkl]; simp
  clear hkl hks
  clear hpb hk5 hk6 hw hN hok hwf hkn hd1 hc5 hc6 hl hlen h0B hBp
  go_enter Try.func41, Try.ntmps41
  go_wp2_with fail
  refine (pk_map kids.length _ (HP.out.alloc _) (by simp; omega) (by have := HL.out; omega) (by omega) (by omega)).mono ?_
  rintro e w1 ⟨rfl, hp1, hf1⟩
  have hk := hf1.keep (heap_alloc_new w _) (by omega) (by decide)
  obtain ⟨hc0, hc1, hc2, hc3, hc4, hc5, hc6⟩ := box7 hk
  have hsz1 := hf1.size
  simp only [World.size_alloc] at hsz1
  have HP1 := Aside0.mk hp1
  have HF1 := Aside0.mk (((Fr.refl B bp w).alloc _).trans hf1)
  have HBX := Aside0.mk hk
  clear hp1 hf1 hk hc1 hc2 hc3 hc4 hc5
  go_wp2_with fail
  clear hc0 hc6
  go_loopg [96] kids.length (fun gk v96 wr => ∃ j : Nat, v96 = .int .i64 j ∧ Aside0 (j ≤ kids.length ∧ gk = kids.length - j) ∧ Aside0 (PB wr B bp (xs ++ encHead 160 216 kids.length ++ encKids true keys (kids.take j))) ∧ Aside0 (Fr B bp w wr) ∧
    Aside0 (wr.heap[w.heap.size]? = some (.cells #[.int .i64 7, .bool b, .int .i64 i, .int .u64 f, .string s, .slice A5 keys.length c5, .slice A6 kids.length c6] 26 (0, 0))))
  case atStart => exact ⟨0, rfl, ⟨by omega⟩, ⟨by simpa [encKids] using HP1.out⟩, ⟨HF1.out⟩, ⟨HBX.out⟩⟩
  case round =>
    clear HP1 HF1 HBX HP
    obtain ⟨j, rfl, HJ, HPJ, HFJ, HBJ⟩ := hrel
    obtain ⟨hc0, hc1, hc2, hc3, hc4, hc5, hc6⟩ := box7 HBJ.out
    have hszr : w.heap.size ≤ wr.heap.size := HFJ.out.size
    have hszb : w.heap.size < wr.heap.size := blk_lt HBJ.out
    clear hc1 hc2 hc3 hc4 hc6
    by_cases hj : j < kids.length
    · obtain ⟨y, hy⟩ : ∃ y, kids[j]? = some y := ⟨_, List.getElem?_eq_getElem hj⟩
      have hbr : Below w0.heap.size w0 wr := HW.out.trans (HFJ.out.below (by have := HZ.out.2; omega) hB |>.mono HZ.out.1)
      obtain ⟨ad, B5, d5, B6, d6, hA, g0, g1, g2, g3, g4, g5, g6, l5, q5, l6, q6⟩ := PAll.at_T26 HK6.out (j : Int) (by omega) (by omega)
      have hry : rd_T26 kids (j : Int) = y := by unfold Go.Proofs.Ytjnookhdiolhgaa.PAll.rd_T26; rw [Int.toNat_natCast, List.getD_eq_getElem?_getD, hy]; rfl
      rw [hry] at g0 g1 g2 g3 g4 g5 g6 l5 q5 l6 q6
      rw [Int.toNat_natCast] at g0 g1 g2 g3 g4 g5 g6
      have h0 := pw_cell_below hbr g0
      have h1 := pw_cell_below hbr g1
      have h2 := pw_cell_below hbr g2
      have h3 := pw_cell_below hbr g3
      have h4 := pw_cell_below hbr g4
      have h5 := pw_cell_below hbr g5
      have h6 := pw_cell_below hbr g6
      subst hA
      have HY := Aside0.mk hy
      have HQ := Aside0.mk (And.intro l5 (And.intro q5 (And.intro l6 q6)))
      have HBR := Aside0.mk hbr
      clear g0 g1 g2 g3 g4 g5 g6 l5 q5 l6 q6 hry hy hbr
      have hle := enc_le true keys kids HY.out
      rw [List.length_append] at hle
      have HLE := Aside0.mk hle
      have hny := nodes_at HY.out
      have HNY := Aside0.mk hny
      clear hle hny
      obtain ⟨adk, hA5, gk⟩ := Kd.at_string HK5.out (j : Int) (by omega) (by have := HKL.out; omega)
      have gk2 := pw_cell_below HBR.out gk
      rw [Int.toNat_natCast] at gk2
      have hkm : rdOf ByteArray.empty keys (j : Int) = keys.getD j ByteArray.empty := by unfold Go.Proofs.YtjnookhdiolhgaaW.PrintWords.rdOf; rw [Int.toNat_natCast]
      have hks : (keys.getD j ByteArray.empty).size ≤ 300 := by
        have hjk : j < keys.length := by have := HKL.out; omega
        rw [List.getD_eq_getElem?_getD, List.getElem?_eq_getElem hjk]
        exact HKS.out _ (List.getElem_mem hjk)
      rw [hkm] at gk2
      obtain ⟨kk, hkk⟩ : ∃ kk, keys.getD j ByteArray.empty = kk := ⟨_, rfl⟩
      rw [hkk] at gk2 hks
      have HLE2 := HLE.out
      rw [hkk] at HLE2
      have HLE3 := Aside0.mk HLE2
      have HKK := Aside0.mk hkk
      subst hA5
      clear gk hkm hkk HLE2
      have hjl : j < keys.length := by have := HKL.out; omega
      have gk3 : (wr.alloc (.cells #[.int .i64 y.f0, .bool y.f1, .int .i64 y.f2, .int .u64 y.f3, .string y.f4, .slice B5 y.f5.length d5, .slice B6 y.f6.length d6] 26)).cell? (adk.add j) = some (.string kk) := pw_cell_below (below_alloc (Below.refl _ _) _) gk2
      clear gk2
      go_wp2_with fail
      refine (pk_string kk _ (HPJ.out.alloc (.cells #[.int .i64 y.f0, .bool y.f1, .int .i64 y.f2, .int .u64 y.f3, .string y.f4, .slice B5 y.f5.length d5, .slice B6 y.f6.length d6] 26)) (by simp; omega) (by simp only [List.length_append]; have h1 := HLE3.out; have := HL.out; have := HLEN.out; simp only [if_true] at h1; unfold encText at h1; simp only [List.length_append, bytesOf_length] at h1; omega) (by omega)).mono ?_
      rintro e w3 ⟨rfl, hp3, hf3⟩
      have hk3 := hf3.keep (heap_alloc_new wr _) (by omega) (by decide)
      have hbx3 := hf3.keep ((Below.heap_alloc wr _ _ hszb).trans HBJ.out) (by omega) (by decide)
      have hsz3 := hf3.size
      simp only [World.size_alloc] at hsz3
      obtain ⟨e0, e1, e2, e3, e4, e5, e6⟩ := box7 hk3
      have hbr3 : Below w0.heap.size w0 w3 := (below_alloc HBR.out _).trans ((hf3.below HZ.out.2 (by simp; omega)).mono HZ.out.1)
      have HIH := ih y B5 d5 B6 d6 (deep + 1) B bp _ w0 w3 (by have := HNY.out; have := HN.out; omega) (okAll_at HOK.out HY.out) (wfAll_at HWF.out HY.out) (by omega) (by have := HNY.out; have := HD.out; omega) HQ.out.1 HQ.out.2.2.1 HQ.out.2.1 HQ.out.2.2.2 hbr3 HZ.out.1 HZ.out.2 (by omega) hp3 (by simp only [List.length_append]; have h1 := HLE3.out; have := HL.out; have := HLEN.out; simp only [if_true] at h1; omega)
      unfold valOf at HIH
      have HX := Aside0.mk HIH
      have HF3 := Aside0.mk ((HFJ.out.alloc (.cells #[.int .i64 y.f0, .bool y.f1, .int .i64 y.f2, .int .u64 y.f3, .string y.f4, .slice B5 y.f5.length d5, .slice B6 y.f6.length d6] 26)).trans hf3)
      have HB3 := Aside0.mk hbx3
      clear HIH hp3 hf3 hk3 hbx3 hbr3 gk3
      go_wp2_with fail
      refine (HX.out).mono ?_
      rintro e w2 ⟨rfl, hp2, hf2⟩
      have hbx := hf2.keep HB3.out (by omega) (by decide)
      have HP2 := Aside0.mk hp2
      have HF2 := Aside0.mk (HF3.out.trans hf2)
      have HB2 := Aside0.mk hbx
      clear hp2 hf2 hbx HX e0 e1 e2 e3 e4 e5 e6
      go_wp2_with fail
      go_roundg (kids.length - (j + 1))
      case measure => have := HJ.out.2; omega
      case rel =>
        refine ⟨j + 1, by go_num, ⟨by omega⟩, ⟨?_⟩, ⟨HF2.out⟩, ⟨HB2.out⟩⟩
        rw [encKids_snoc true keys kids j y HY.out, HKK.out]
        simpa [List.append_assoc] using HP2.out
    · have hje : j = kids.length := by have := HJ.out.1; omega
      subst hje
      go_wp2_with fail
      go_ret
      refine ⟨rfl, ?_, HFJ.out⟩
      have h := HPJ.out
      rw [List.take_length] at h
      exact h

end Go.Proofs.Ytjnookhdiolhgaa
