/- Command.String. (seat r2) -/
import Derived.Test.YtnbhledkdkchlaaJoinL
import Derived.Deep.RegionHeld3
namespace Go.Proofs.Ytnbhledkdkchlaa
set_option linter.unusedVariables false
set_option linter.unusedSimpArgs false
open Go.RowKit Go.Proofs.YtnbhledkdkchlaaW.PrintWords
open PAll (info5)

theorem fresh_reads {B : Nat} {w : World} {v : Value} {l : List UInt8} (h : Lib.FreshBytes B w v l) : ∃ A c, v = .slice A l.length c ∧ ReadsInt w .u8 A l.length (l.map fun b => (b.toNat : Int)) := by
  obtain ⟨g, cap, zs, rfl, _, hlc, hm, hz, hr, hb, hc, _⟩ := h
  refine ⟨_, _, rfl, by simp, by unfold maxLen at hm; omega, fun _ => ⟨_, rfl, fun j hj => ?_⟩⟩
  have e : (⟨g, 0, none⟩ : Addr).add j = ⟨g, j, none⟩ := by rw [Lib.add_plain2]; simp
  rw [e, hc j (by omega)]
  have hzj : zs.getD j 0 = (l.map fun b => (b.toNat : Int)).getD j 0 := by
    have hb2 : l[j]? = (zs.take l.length)[j]?.map (fun n => UInt8.ofNat n.toNat) := by
      conv => lhs; rw [← hb]
      unfold Lib.bytesOf
      rw [List.getElem?_map]
    rw [List.getD_eq_getElem?_getD, List.getD_eq_getElem?_getD, List.getElem?_map, hb2, List.getElem?_take, if_pos hj, List.getElem?_eq_getElem (by omega)]
    have := hr _ (List.getElem_mem (l := zs) (n := j) (by omega))
    simp only [Option.map_some, Option.getD_some]
    rw [UInt8.toNat_ofNat']
    omega
  rw [hzj]
theorem holds_of {w : World} {b c : Nat} {s : ByteArray} (h : BlkR w b c s) : Lib.HoldsBytes w (.slice (some ⟨b, 0, none⟩) s.size c) s.data.toList := by
  have hl : s.data.toList.length = s.size := rfl
  refine ⟨_, c, by rw [hl], (fun h => by cases h), fun a ha i x hx => ?_⟩
  injection ha with ha
  subst ha
  have hi : i < s.size := (List.getElem?_eq_some_iff.1 hx).1
  obtain ⟨ad, e, hc⟩ := h.2.2.2.2 (by omega)
  injection e with e
  subst e
  rw [hc i hi]
  unfold bytesOf
  rw [List.getD_eq_getElem?_getD, List.getElem?_map, hx]
  rfl
theorem holds_one (w wi : World) (a : UInt8) (b : Nat) (hb : wi.heap[b]? = some (.cells #[.int .u8 (a.toNat : Int)] 5 (1, 2))) : Lib.HoldsBytes wi (.slice (some ⟨b, 0, none⟩) 1 1) [a] := by
  refine ⟨_, 1, rfl, (fun h => by cases h), fun ad ha i x hx => ?_⟩
  injection ha with ha
  subst ha
  match i, hx with
  | 0, hx =>
    simp at hx
    subst hx
    exact cell_of_row _ b 0 _ 5 (1, 2) hb

/-- The parts' bytes, as bytes.Join has them. -/
def joinI (l : List ByteArray) : List Int := (Lib.join (l.map (·.data.toList)) [32]).map fun b => (b.toNat : Int)
theorem joinTail_ints : ∀ r : List ByteArray, (Lib.joinTail [32] (r.map (·.data.toList))).map (fun b : UInt8 => (b.toNat : Int)) = parL r := by
  intro r
  induction r with
  | nil => rfl
  | cons a r ih =>
    have e : Lib.joinTail [32] ((a :: r).map (·.data.toList)) = ([32] ++ a.data.toList) ++ Lib.joinTail [32] (r.map (·.data.toList)) := by simp [Lib.joinTail]
    rw [e, List.map_append, ih, List.map_append]
    rfl
theorem joinI_par (a : ByteArray) (r : List ByteArray) : 32 :: joinI (a :: r) = parL (a :: r) := by
  unfold joinI
  rw [List.map_cons, Lib.join_cons, List.map_append, joinTail_ints]
  rfl
theorem lens_le : ∀ (l : List ByteArray), (∀ s ∈ l, s.size ≤ 1000000) → Lib.lens (l.map (·.data.toList)) ≤ 1000000 * l.length := by
  intro l
  induction l with
  | nil => intro _; simp [Lib.lens]
  | cons a l ih =>
    intro h
    have h1 := ih (fun x hx => h x (by simp [hx]))
    have h2 := h a (by simp)
    have h3 : a.data.toList.length = a.size := rfl
    have e : Lib.lens ((a :: l).map (·.data.toList)) = a.size + Lib.lens (l.map (·.data.toList)) := by simp [Lib.lens]
    rw [e, List.length_cons]
    omega

set_option maxHeartbeats 1000000 in
/-- bytes.Join of a command's parameters. -/
theorem join_any {B0 : Nat} {v : Value} {ps : List (Nat × Nat × Nat)} {l : List ByteArray} (w : World) (hR : ksl.R 69 w B0 (fun k => B0 ≤ k) v ps) (hE : Elems w ps l) (b : Nat) (hb : w.heap[b]? = some (.cells #[.int .u8 32] 5 (1, 2))) (h0 : l ≠ []) (h8 : l.length ≤ 8) (hz : ∀ s ∈ l, s.size ≤ 1000000) :
    Calls Try.prog 66 #[v, .slice (some ⟨b, 0, none⟩) 1 1] w fun e w' => ∃ A c, e = .returned (.slice A (joinI l).length c) ∧ ReadsInt w' .u8 A (joinI l).length (joinI l) ∧ Below w.heap.size w w' := by
  have hn : ps.length = l.length := hE.1
  have hpos : 0 < l.length := List.length_pos_iff.2 h0
  have hlen : (joinI l).length = (Lib.join (l.map (·.data.toList)) [32]).length := by simp [joinI]
  obtain ⟨g, cap, rfl, hlt, hle, -⟩ := Kd.R_form hR (by omega)
  have hcapn : ps.length ≤ cap := by
    obtain ⟨A, c, he, hl, _⟩ := Kd.R_reads hR
    injection he with _ _ he
    omega
  have hcells : ∀ (i : Nat) p, ps[i]? = some p → w.cell? ((⟨g, 0, none⟩ : Addr).add i) = some (.slice (some ⟨p.1, 0, none⟩) p.2.1 p.2.2) := by
    intro i p hp
    obtain ⟨ad, c, he, hc⟩ := elem_at hR hp
    injection he with he _ _
    injection he with he
    subst he
    exact hc
  have hfin : ∀ {e w'}, (∃ v', e = Ending.returned v' ∧ Lib.FreshBytes w.heap.size w' v' (Lib.join (l.map (·.data.toList)) [32]) ∧ Below w.heap.size w w') → ∃ A c, e = .returned (.slice A (joinI l).length c) ∧ ReadsInt w' .u8 A (joinI l).length (joinI l) ∧ Below w.heap.size w w' := by
    rintro e w' ⟨v', rfl, hf, hbw⟩
    obtain ⟨A, c, rfl, hrd⟩ := fresh_reads hf
    rw [hlen]
    exact ⟨A, c, rfl, hrd, hbw⟩
  by_cases h2 : 2 ≤ l.length
  · refine (Any.bytes_Join_many Try.lays14 g 0 ps.length cap (ps.map fun p => .slice (some ⟨p.1, 0, none⟩) p.2.1 p.2.2) (l.map (·.data.toList)) _ [32] w (by rw [List.length_map, hn]) (by omega) ⟨by rw [List.length_map, List.length_map, hn], fun i u hu => ?_, fun i u q hu hq => ?_⟩ (by omega) (holds_one w w 32 b hb) (by omega) ?_).mono (fun e w' h => hfin h)
    · rw [List.getElem?_map] at hu
      obtain ⟨p, hp, rfl⟩ := Option.map_eq_some_iff.1 hu
      exact hcells i p hp
    · rw [List.getElem?_map] at hu hq
      obtain ⟨p, hp, rfl⟩ := Option.map_eq_some_iff.1 hu
      obtain ⟨s, hs, rfl⟩ := Option.map_eq_some_iff.1 hq
      obtain ⟨h3, h4⟩ := hE.2 i p s hp hs
      rw [h3]
      exact holds_of h4
    · have := lens_le l hz
      show Lib.lens (l.map (·.data.toList)) + 1 * (ps.length - 1) ≤ _
      omega
  · have h1 : l.length = 1 := by omega
    obtain ⟨s, rfl⟩ : ∃ s, l = [s] := by
      match l, h1 with
      | [s], _ => exact ⟨s, rfl⟩
    have hp1 : ps.length = 1 := by rw [hn]; rfl
    obtain ⟨p, rfl⟩ : ∃ p, ps = [p] := by
      match ps, hp1 with
      | [p], _ => exact ⟨p, rfl⟩
    obtain ⟨h3, h4⟩ := hE.2 0 p s rfl rfl
    have hc0 := hcells 0 p rfl
    rw [Lib.add_plain2] at hc0
    have hl : s.data.toList.length = s.size := rfl
    by_cases hs0 : s.size = 0
    · refine (Any.bytes_Join_one_empty Try.lays14 g 0 cap (some ⟨p.1, 0, none⟩) p.2.2 _ w (by rw [h3, hs0] at hc0; exact hc0)).mono ?_
      rintro e w' ⟨rfl, rfl⟩
      have he : joinI [s] = [] := by
        unfold joinI
        rw [List.map_cons, List.map_nil, Lib.join_one]
        rw [show s.data.toList = [] from List.length_eq_zero_iff.1 (by rw [hl, hs0])]
        rfl
      rw [he]
      exact ⟨none, 0, rfl, ⟨rfl, by decide, fun h => absurd h (by decide)⟩, Below.refl _ _⟩
    · have hh := holds_of h4
      refine (Any.bytes_Join_one Try.lays14 g 0 cap ⟨p.1, 0, none⟩ p.2.2 s.data.toList _ w (by rw [h3] at hc0; exact hc0) (fun i x hx => ?_) (by omega) (by have := hz s (by simp); omega)).mono (fun e w' h => hfin (by rw [List.map_cons, List.map_nil, Lib.join_one]; exact h))
      obtain ⟨q, cap2, he, _, hq⟩ := hh
      injection he with he _ _
      exact hq _ he.symm i x hx
theorem parL_fits (name : ByteArray) (l : List ByteArray) (h8 : l.length ≤ 8) (hn : name.size ≤ 1000000) (hz : ∀ s ∈ l, s.size ≤ 1000000) : (bytesOf name ++ parL l).length ≤ 100000000 := by
  have h1 := parL_size l hz
  have h2 := bytesOf_length name
  rw [List.length_append]
  omega
theorem str_blank {l : List Int} : (⟨#[32]⟩ : ByteArray) ++ strOfNums l = strOfNums (32 :: l) := by
  have : (32 :: l) = [32] ++ l := rfl
  rw [this, fr_append]
  rfl
/-- What Command.String answers. -/
def CsR (w : World) (name : ByteArray) (l : List ByteArray) (e : Ending) (w' : World) : Prop := e = .returned (.string (strOfNums (bytesOf name ++ parL l))) ∧ Below w.heap.size w w'

set_option maxHeartbeats 2000000 in
set_option maxRecDepth 100000 in
theorem cmdString_any {B0 cp nb nc : Nat} {v1 vb : Value} {ps : List (Nat × Nat × Nat)} {name : ByteArray} {l : List ByteArray} {body : Option ByteArray} (w : World) (hc : CmdB w B0 cp nb nc v1 vb ps name l body)
    (h8 : l.length ≤ 8) (hn : name.size ≤ 1000000) (hz : ∀ s ∈ l, s.size ≤ 1000000) :
    Calls Try.prog 47 #[.pointer (some ⟨cp, 0, none⟩)] w fun e w' => CsR w name l e w' := by
  have p0 := blk_cell hc.cell 0
  have p1 := blk_cell hc.cell 1
  have hcvn := string_of_reads (P := Try.prog) (w := w) (c := nc) Try.underlying69 Try.underlying5 Try.underlying9 hc.nm.2.2
  obtain ⟨A1, c1, rfl⟩ := Kd.R_slice hc.row
  have hpl : ps.length = l.length := hc.els.1
  by_cases h0 : l = []
  · subst h0
    have hp0 : ps.length = 0 := hpl
    rw [hp0] at p1
    clear hpl hp0
    go_enter Try.func47, Try.ntmps47
    go_wp2_with fail
    go_ret
    exact ⟨by simp [parL], Below.refl _ _⟩
  · have hpos : 0 < ps.length := by rw [hpl]; exact List.length_pos_iff.2 h0
    have hposi : (0 : Int) < (ps.length : Int) := by omega
    have hcv2 : ∀ (C : Array Value) (n c : Nat), (convert 69 69 (.slice (some ⟨w.heap.size, 0, none⟩) n c)).run Try.prog (w.alloc (.cells C 5)).drew = .ok (.slice (some ⟨w.heap.size, 0, none⟩) n c) (w.alloc (.cells C 5 (C.size, C.size + 1))).drew := fun C n c => Lib.run_convert_bytes_const (P := Try.prog) w.drew 69 5 C n c Try.underlying69 Try.underlying5
    have HJ := Aside0.mk (join_any (w.alloc (.cells #[.int .u8 32] 5 (1, 2))).drew (Kd.R_below hc.row (below_drew (below_alloc (Below.refl _ _) _))) (hc.els.move (fun k cs fr hk => (below_drew (below_alloc (Below.refl w.heap.size w) (.cells #[.int .u8 32] 5 (1, 2)))).block k (Array.getElem?_eq_some_iff.1 hk).1)) w.heap.size (heap_alloc_new w _) h0 h8 hz)
    have HK := Aside0.mk (fun (wi : World) (hb : Below w.heap.size w wi) => show wi.cell? ⟨cp, 0, none⟩ = some (.slice (some ⟨nb, 0, none⟩) name.size nc) ∧ wi.cell? ⟨cp, 1, none⟩ = some (.slice A1 ps.length c1) ∧ (convert 69 9 (.slice (some ⟨nb, 0, none⟩) name.size nc)).run Try.prog wi = .ok (.string (strOfNums (bytesOf name))) wi ∧ Below w.heap.size w wi from
      ⟨blk_cell (blk_below hc.cell hb) 0, blk_cell (blk_below hc.cell hb) 1, string_of_reads (P := Try.prog) (w := wi) (c := nc) Try.underlying69 Try.underlying5 Try.underlying9 (hc.nm.move (hb.block _ hc.nm.lt)).2.2, hb⟩)
    have HEQ := Aside0.mk (show 32 :: joinI l = parL l by
      cases l with
      | nil => exact absurd rfl h0
      | cons a r => exact joinI_par a r)
    have hjz : (strOfNums (joinI l)).size ≤ 100000000 := by
      have := parL_size l hz
      rw [← HEQ.out] at this
      rw [fr_size]
      simp only [List.length_cons] at this
      omega
    have hnz : (strOfNums (bytesOf name)).size ≤ 1000000 := by rw [fr_size, bytesOf_length]; exact hn
    have hnz2 : (strOfNums (bytesOf name) ++ (⟨#[32]⟩ : ByteArray)).size ≤ 1000001 := by rw [ByteArray.size_append]; show (strOfNums (bytesOf name)).size + 1 ≤ _; omega
    have HT := Aside0.mk (show (strOfNums (bytesOf name) ++ (⟨#[32]⟩ : ByteArray)) ++ strOfNums (joinI l) = strOfNums (bytesOf name ++ parL l) by rw [ByteArray.append_assoc, str_blank, HEQ.out, fr_append])
    have hz1 : ¬ 9223372036854775807 < (strOfNums (bytesOf name)).size + 1 := by omega
    have hz2 : ¬ 9223372036854775807 < (strOfNums (bytesOf name)).size + 1 + (strOfNums (joinI l)).size := by omega
    generalize joinI l = JL at *
    generalize strOfNums (bytesOf name) = SN at *
    clear hc hpl h0 HEQ hz hcvn
    go_enter Try.func47, Try.ntmps47
    go_wp2_with fail
    refine wp_region_held_drew (S := fun wi : World => wi.cell? ⟨cp, 0, none⟩ = some (.slice (some ⟨nb, 0, none⟩) name.size nc) ∧ wi.cell? ⟨cp, 1, none⟩ = some (.slice A1 ps.length c1) ∧ (convert 69 9 (.slice (some ⟨nb, 0, none⟩) name.size nc)).run Try.prog wi = .ok (.string SN) wi ∧ Below w.heap.size w wi) (by kernel_rfl) (HK.out _ (below_drew (Below.refl _ _))) (fun hH => ?_)
    refine wpAnyH_take (i := 0) (v := .pointer (some ⟨cp, 0, none⟩)) rfl (by kernel_rfl) (by kernel_rfl) (by kernel_rfl) (fun _ _ _ h => h) (Or.inl ⟨by rfl, ?_⟩) (by assumption) ?_
    · intro wi hSw
      obtain ⟨hs0, hs1, hs2, -⟩ := hSw
      go_simp
    try simp only [Act.put, List.setIfInBounds_toArray, List.set_cons_zero, List.set_cons_succ]
    refine wpAnyH_take (i := 1) (v := .pointer (some ⟨cp, 0, none⟩)) rfl (by kernel_rfl) (by kernel_rfl) (by kernel_rfl) (fun _ _ _ h => h) (Or.inl ⟨by rfl, ?_⟩) (by assumption) ?_
    · intro wi hSw
      obtain ⟨hs0, hs1, hs2, -⟩ := hSw
      go_simp
    try simp only [Act.put, List.setIfInBounds_toArray, List.set_cons_zero, List.set_cons_succ]
    refine wpAnyH_take (i := 2) (v := .pointer (some ⟨cp, 0, none⟩)) rfl (by kernel_rfl) (by kernel_rfl) (by kernel_rfl) (fun _ _ _ h => h) (Or.inl ⟨by rfl, ?_⟩) (by assumption) ?_
    · intro wi hSw
      obtain ⟨hs0, hs1, hs2, -⟩ := hSw
      go_simp
    try simp only [Act.put, List.setIfInBounds_toArray, List.set_cons_zero, List.set_cons_succ]
    refine wpAnyH_take (i := 3) (v := .slice (some ⟨nb, 0, none⟩) name.size nc) rfl (by kernel_rfl) (by kernel_rfl) (by kernel_rfl) (fun _ _ _ h => h) (Or.inl ⟨by rfl, ?_⟩) (by assumption) ?_
    · intro wi hSw
      obtain ⟨hs0, hs1, hs2, -⟩ := hSw
      go_simp
    try simp only [Act.put, List.setIfInBounds_toArray, List.set_cons_zero, List.set_cons_succ]
    refine wpAnyH_take (i := 4) (v := .string SN) rfl (by kernel_rfl) (by kernel_rfl) (by kernel_rfl) (fun _ _ _ h => h) (Or.inl ⟨by rfl, ?_⟩) (by assumption) ?_
    · intro wi hSw
      obtain ⟨hs0, hs1, hs2, -⟩ := hSw
      go_simp
    try simp only [Act.put, List.setIfInBounds_toArray, List.set_cons_zero, List.set_cons_succ]
    refine wpAnyH_take (i := 5) (v := .string (SN ++ (⟨#[32]⟩ : ByteArray))) rfl (by kernel_rfl) (by kernel_rfl) (by kernel_rfl) (fun _ _ _ h => h) (Or.inl ⟨by rfl, ?_⟩) (by assumption) ?_
    · intro wi hSw
      obtain ⟨hs0, hs1, hs2, -⟩ := hSw
      go_simp
    try simp only [Act.put, List.setIfInBounds_toArray, List.set_cons_zero, List.set_cons_succ]
    refine wpAnyH_take (i := 6) (v := .pointer (some ⟨cp, 0, none⟩)) rfl (by kernel_rfl) (by kernel_rfl) (by kernel_rfl) (fun _ _ _ h => h) (Or.inl ⟨by rfl, ?_⟩) (by assumption) ?_
    · intro wi hSw
      obtain ⟨hs0, hs1, hs2, -⟩ := hSw
      go_simp
    try simp only [Act.put, List.setIfInBounds_toArray, List.set_cons_zero, List.set_cons_succ]
    refine wpAnyH_take (i := 7) (v := .pointer (some ⟨cp, 0, none⟩)) rfl (by kernel_rfl) (by kernel_rfl) (by kernel_rfl) (fun _ _ _ h => h) (Or.inl ⟨by rfl, ?_⟩) (by assumption) ?_
    · intro wi hSw
      obtain ⟨hs0, hs1, hs2, -⟩ := hSw
      go_simp
    try simp only [Act.put, List.setIfInBounds_toArray, List.set_cons_zero, List.set_cons_succ]
    refine wpAnyH_take (i := 8) (v := .pointer (some ⟨cp, 1, none⟩)) rfl (by kernel_rfl) (by kernel_rfl) (by kernel_rfl) (fun _ _ _ h => h) (Or.inl ⟨by rfl, ?_⟩) (by assumption) ?_
    · intro wi hSw
      obtain ⟨hs0, hs1, hs2, -⟩ := hSw
      go_simp
    try simp only [Act.put, List.setIfInBounds_toArray, List.set_cons_zero, List.set_cons_succ]
    refine wpAnyH_take (i := 9) (v := .slice A1 ps.length c1) rfl (by kernel_rfl) (by kernel_rfl) (by kernel_rfl) (fun _ _ _ h => h) (Or.inl ⟨by rfl, ?_⟩) (by assumption) ?_
    · intro wi hSw
      obtain ⟨hs0, hs1, hs2, -⟩ := hSw
      go_simp
    try simp only [Act.put, List.setIfInBounds_toArray, List.set_cons_zero, List.set_cons_succ]
    refine wpAnyH_ready (rs := [10]) (by kernel_rfl) (by simp) ?_
    refine AllReadyH.cons rfl (fun K hK => ?_) AllReadyH.nil
    go_simp
    refine hK.out _ _ (HK.out _ (below_drew (below_alloc (Below.refl _ _) _))) (fun hH2 => ?_)
    clear hK K hH
    try simp only [Act.put, List.setIfInBounds_toArray, List.set_cons_zero, List.set_cons_succ]
    refine wpAnyH_ready (rs := [11]) (by kernel_rfl) (by simp) ?_
    refine AllReadyH.cons rfl (fun K hK => ?_) AllReadyH.nil
    go_simp
    refine hK.out _ _ (HK.out _ (below_drew (below_alloc (Below.refl _ _) _))) (fun hH => ?_)
    clear hK K hH2
    try simp only [Act.put, List.setIfInBounds_toArray, List.set_cons_zero, List.set_cons_succ]
    refine wpAnyH_ready (rs := [12]) (by kernel_rfl) (by simp) ?_
    refine AllReadyH.cons rfl (fun K hK => ?_) AllReadyH.nil
    go_simp
    go_wp2_with fail
    refine HJ.out.mono ?_
    rintro e w5 ⟨A5, c5, rfl, hrd, hbj⟩
    have hb5 := (below_drew (below_alloc (Below.refl w.heap.size w) _)).trans (hbj.mono (by simp))
    have hcv5 := string_of_reads (P := Try.prog) (w := w5) (c := c5) Try.underlying69 Try.underlying5 Try.underlying9 hrd
    clear hrd hbj
    go_wp2_with fail
    refine hK.out _ _ (HK.out _ hb5) (fun hH2 => ?_)
    clear hK K hH
    try simp only [Act.put, List.setIfInBounds_toArray, List.set_cons_zero, List.set_cons_succ]
    refine wpAnyH_ready (rs := [13]) (by kernel_rfl) (by simp) ?_
    refine AllReadyH.cons rfl (fun K hK => ?_) AllReadyH.nil
    go_simp
    refine hK.out _ _ (HK.out _ hb5) (fun hH => ?_)
    clear hK K hH2
    try simp only [Act.put, List.setIfInBounds_toArray, List.set_cons_zero, List.set_cons_succ]
    refine wpAnyH_take (i := 14) (oi := { dst := some 23, op := .binOp .add 9 (.tmp 14) (.tmp 22) 9, type := 9, pos := "command.go:19", after := #[{ on := 5, ground := .data }, { on := 13, ground := .data }], guard := none }) (v := .string ((SN ++ (⟨#[32]⟩ : ByteArray)) ++ strOfNums JL)) rfl (by kernel_rfl) (by kernel_rfl) (by kernel_rfl) (fun _ _ _ h => h) (Or.inl ⟨by rfl, ?_⟩) (by assumption) ?_
    · intro wi hSw
      obtain ⟨hs0, hs1, hs2, -⟩ := hSw
      go_simp
    try simp only [Act.put, List.setIfInBounds_toArray, List.set_cons_zero, List.set_cons_succ]
    refine wpAnyH_take (i := 15) (oi := { dst := some 2, op := .assign (.tmp 23), type := 9, pos := "command.go:19", after := #[{ on := 14, ground := .data }, { on := 12, ground := .chain }, { on := 0, ground := .phase }, { on := 1, ground := .phase }, { on := 2, ground := .phase }, { on := 3, ground := .phase }, { on := 4, ground := .phase }, { on := 5, ground := .phase }, { on := 6, ground := .phase }, { on := 7, ground := .phase }, { on := 8, ground := .phase }, { on := 9, ground := .phase }, { on := 10, ground := .phase }, { on := 11, ground := .phase }, { on := 12, ground := .phase }, { on := 13, ground := .phase }, { on := 14, ground := .phase }], guard := none }) (v := .string ((SN ++ (⟨#[32]⟩ : ByteArray)) ++ strOfNums JL)) rfl (by kernel_rfl) (by kernel_rfl) (by kernel_rfl) (fun _ _ _ h => h) (Or.inl ⟨by rfl, ?_⟩) (by assumption) ?_
    · intro wi hSw
      obtain ⟨hs0, hs1, hs2, -⟩ := hSw
      go_simp
    try simp only [Act.put, List.setIfInBounds_toArray, List.set_cons_zero, List.set_cons_succ]
    refine wpAnyH_done (by kernel_rfl) ?_ _
    go_wp2_with fail
    go_ret
    refine ⟨?_, hb5⟩
    rw [← HT.out]
    rfl
end Go.Proofs.Ytnbhledkdkchlaa
