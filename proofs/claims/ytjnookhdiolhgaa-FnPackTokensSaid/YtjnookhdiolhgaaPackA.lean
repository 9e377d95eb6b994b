/- impl.pack, impl.Pack, and the sanity check alive. -/
import Derived.Test.YtjnookhdiolhgaaPackL
import Derived.Test.YtjnookhdiolhgaaSlot
namespace Go.Proofs.Ytjnookhdiolhgaa
open Go.RowKit Go.Proofs.YtjnookhdiolhgaaW.PrintWords
open PAll (info5 S26 k26)

theorem pack_any : ∀ N, PackSaid N := by
  intro N
  induction N with
  | zero =>
    intro x A5 c5 A6 c6 deep B bp xs w0 w hn
    have := nodes_pos x
    omega
  | succ N ih =>
    intro x A5 c5 A6 c6 deep B bp xs w0 w hn hok hwf hd0 hd1 hc5 hc6 hk5 hk6 hw h0B hBp hB hpb hl
    obtain ⟨k, b, i, f, s, keys, kids⟩ := x
    simp only [nodes] at hn hd1
    simp only [okV] at hok
    simp only [wfV] at hwf
    obtain ⟨⟨hk0, hk8, hs, _, _, _, _, _, hkid, hst, hmp, hky⟩, hoa⟩ := hok
    obtain ⟨⟨hi0, hi1, hf0, hf1⟩, hwa⟩ := hwf
    show Calls Try.prog _ #[_, .agg #[.int .i64 k, .bool b, .int .i64 i, .int .u64 f, .string s, .slice A5 keys.length c5, .slice A6 kids.length c6], _] w _
    by_cases hlt : k < 6
    · obtain rfl : kids = [] := hkid hlt
      have he : enc ⟨k, b, i, f, s, keys, []⟩ = encTop k b i f s 0 := by simp [enc, encKids]
      rw [he] at hl ⊢
      show Calls Try.prog _ #[_, .agg #[.int .i64 k, .bool b, .int .i64 i, .int .u64 f, .string s, .slice A5 keys.length c5, .slice A6 0 c6], _] w _
      have hx : xs.length ≤ 1099511626776 := by omega
      have hc : k = 0 ∨ k = 1 ∨ k = 2 ∨ k = 3 ∨ k = 4 ∨ k = 5 := by omega
      rcases hc with rfl | rfl | rfl | rfl | rfl | rfl
      · exact pack_k0 b i f s A5 c5 keys.length A6 c6 deep B bp xs w hB hpb hx
      · exact pack_k1 b i f s A5 c5 keys.length A6 c6 deep B bp xs w hB hpb hx
      · exact pack_k2 b i f s A5 c5 keys.length A6 c6 deep B bp xs w hB hpb hx hi0 hi1
      · exact pack_k3 b i f s A5 c5 keys.length A6 c6 deep B bp xs w hB hpb hx hf0 hf1
      · exact pack_k4 b i f s A5 c5 keys.length A6 c6 deep B bp xs w hB hpb hx hs
      · exact pack_k5 b i f s A5 c5 keys.length A6 c6 deep B bp xs w hB hpb hx hs
    · have hc : k = 6 ∨ k = 7 ∨ k = 8 := by omega
      have hn' : nodesAll kids ≤ N := by omega
      have hdd : deep + nodesAll kids ≤ 1000 := by omega
      rcases hc with rfl | rfl | rfl
      · have he : enc ⟨6, b, i, f, s, keys, kids⟩ = encHead 144 212 kids.length ++ encKids false keys kids := by simp [enc, encTop]
        rw [he, List.length_append] at hl
        rw [he, ← List.append_assoc]
        refine pack_k6 N ih b i f s keys kids A5 c5 A6 c6 deep B bp xs w0 w hn' hoa hwa hd0 hdd hc5 hc6 hk5 hk6 hw h0B hBp hB hpb (by omega)
      · have he : enc ⟨7, b, i, f, s, keys, kids⟩ = encHead 160 216 kids.length ++ encKids true keys kids := by simp [enc, encTop]
        rw [he, List.length_append] at hl
        rw [he, ← List.append_assoc]
        refine pack_k7 N ih b i f s keys kids A5 c5 A6 c6 deep B bp xs w0 w hn' hoa hwa (hmp rfl) hky hd0 hdd hc5 hc6 hk5 hk6 hw h0B hBp hB hpb (by omega)
      · have he : enc ⟨8, b, i, f, s, keys, kids⟩ = [176 + (kids.length : Int), i] ++ encKids false keys kids := by simp [enc, encTop]
        rw [he, List.length_append] at hl
        rw [he, ← List.append_assoc]
        obtain ⟨h8a, h8b, h8c⟩ := hst rfl
        refine pack_k8 N ih b i f s keys kids A5 c5 A6 c6 deep B bp xs w0 w hn' hoa hwa h8a h8b h8c hd0 hdd hc5 hc6 hk5 hk6 hw h0B hBp hB hpb (by omega)

set_option maxHeartbeats 1000000 in
theorem pk_begin {bp : Nat} (w : World) (hb : w.heap[bp]? = some (.cells #[.slice none 0 0, .nilIface] 83 (0, 0))) :
    Calls Try.prog 40 #[.pointer (some ⟨bp, 0, none⟩), .slice none 0 0] w fun e w' => e = .returned (.tuple #[]) ∧
      w'.heap[bp]? = some (.cells #[.slice none 0 0, .nilIface] 83 (0, 0)) ∧ w.grownBy w' (some bp) := by
  have c0 : w.cell? ⟨bp, 0, none⟩ = some (.slice none 0 0) := blk_cell hb 0
  have c1 : w.cell? ⟨bp, 1, none⟩ = some .nilIface := blk_cell hb 1
  have f0 := blk_frozen hb 0
  have f1 := blk_frozen hb 1
  have HB := Lib.hid hb
  clear hb
  go_enter Try.func40, Try.ntmps40
  go_wp2
  go_end0
  exact ⟨rfl, blk_set (blk_set HB.out 0 _) 1 _, grown_set (grown_set (World.grownBy.refl w _) 0 _) 1 _⟩

set_option maxHeartbeats 1000000 in
theorem pk_end {B bp : Nat} {xs : List Int} (w : World) (h : PB w B bp xs) :
    Calls Try.prog 97 #[.pointer (some ⟨bp, 0, none⟩)] w fun e w' => ∃ v, e = .returned (.tuple #[v, .nilIface]) ∧ w.ownsRow B 5 1 v xs.length (nums .u8 xs) ∧ Drawn0 w w' := by
  obtain ⟨v, hb, ho⟩ := h
  have c0 : w.cell? ⟨bp, 0, none⟩ = some v := blk_cell hb 0
  have c1 : w.cell? ⟨bp, 1, none⟩ = some .nilIface := blk_cell hb 1
  obtain ⟨A1, cc, hv⟩ := own_slice ho
  subst hv
  have HO := Lib.hid ho
  clear hb ho
  go_enter Try.func97, Try.ntmps97
  go_wp2
  go_quiet (fail)
  go_wp2
  go_ret2
  exact ⟨_, rfl, HO.out, (Drawn0.refl w).step _⟩

set_option maxHeartbeats 1000000 in
theorem ended_any {B bp : Nat} {xs : List Int} (w : World) (h : PB w B bp xs) :
    Calls Try.prog 42 #[.pointer (some ⟨bp, 0, none⟩)] w fun e w' => e = .returned (.tuple #[.string (strOfNums xs), .int .i64 0]) ∧ Drawn0 w w' := by
  have HE := Lib.hid (pk_end w h)
  clear h
  go_enter Try.func42, Try.ntmps42
  go_wp2_with fail
  refine HE.out.mono ?_
  rintro e w1 ⟨v, rfl, ho, ⟨nd, rfl⟩⟩
  have hcv := own_string (P := Try.prog) Try.underlying69 Try.underlying5 Try.underlying9 (show (w.drewN nd).ownsRow B 5 1 v xs.length (nums .u8 xs) from pw_own_below ho (pw_below_drewN (Below.refl _ _) nd))
  obtain ⟨A1, cc, hv⟩ := own_slice ho
  subst hv
  clear ho
  go_wp2_with fail
  go_ret2
  exact ⟨rfl, (Drawn0.refl w).step _⟩

theorem encTop_len {k : Int} (b : Bool) (i f : Int) (s : ByteArray) (n : Int) (hs : s.size ≤ 300) : (encTop k b i f s n).length ≤ 310 := by
  have h1 := encHead_len 128 208 s.size
  have h2 := encHead_len 144 212 n
  have h3 := encHead_len 160 216 n
  have h4 : (encInt i).length ≤ 9 := by
    unfold encInt
    split
    · simp
    · split
      · simp
      · split
        · simp
        · split <;> simp
  have h5 : (encFloat f.toNat).length ≤ 9 := by simp [encFloat]
  have h6 : (encByteHead s.size).length ≤ 3 := by unfold encByteHead; split <;> simp
  have h7 := bytesOf_length s
  unfold encTop
  split
  · simp
  · split
    · simp
    · split
      · omega
      · split
        · omega
        · split
          · unfold encText; rw [List.length_append]; omega
          · split
            · rw [List.length_append]; omega
            · split
              · omega
              · split
                · omega
                · simp
mutual
theorem enc_len : ∀ (x : S26), okV x → (enc x).length + 310 ≤ 620 * nodes x
  | ⟨k, b, i, f, s, keys, kids⟩, h => by
    simp only [okV] at h
    have h1 := encTop_len (k := k) b i f s kids.length h.1.2.2.1
    have h2 := encKids_len kids (k == 7) keys h.2 h.1.2.2.2.2.2.2.2.2.2.2.2
    simp only [enc, List.length_append, nodes]
    omega
theorem encKids_len : ∀ (kids : List S26) (m : Bool) (keys : List ByteArray), okAll kids → (∀ t ∈ keys, t.size ≤ 300) → (encKids m keys kids).length ≤ 620 * nodesAll kids
  | [], _, _, _, _ => by simp [encKids]
  | x :: r, m, keys, h, hk => by
    simp only [okAll] at h
    have h1 := enc_len x h.1
    have h2 := encKids_len r m keys.tail h.2 (fun t ht => hk t (List.mem_of_mem_tail ht))
    have h3 : (if m then encText (keys.headD ByteArray.empty) else []).length ≤ 310 := by
      split
      · have hs : (keys.headD ByteArray.empty).size ≤ 300 := by
          cases keys with
          | nil => exact Nat.zero_le _
          | cons a l => exact hk a (by simp)
        have := encHead_len 128 208 (keys.headD ByteArray.empty).size
        unfold encText
        rw [List.length_append, bytesOf_length]
        omega
      · simp
    simp only [encKids, List.length_append, nodesAll]
    omega
end

set_option maxHeartbeats 2000000 in
set_option maxRecDepth 100000 in
theorem Pack_any (x : S26) (A5 : Option Addr) (c5 : Nat) (A6 : Option Addr) (c6 : Nat) (w : World) (hok : okV x) (hwf : wfV x) (hn : nodes x ≤ 1000) (hc5 : x.f5.length ≤ c5) (hc6 : x.f6.length ≤ c6)
    (hk5 : Kd.C Kd.string w A5 x.f5.length x.f5) (hk6 : Kd.C k26 w A6 x.f6.length x.f6) :
    Calls Try.prog 17 #[valOf x A5 c5 A6 c6] w fun e w' => e = .returned (.tuple #[.string (strOfNums (enc x)), .int .i64 0]) ∧ Below w.heap.size w w' := by
  have hel := enc_len x hok
  have HC : Hid (∀ (B bp : Nat) (w1 : World), Below w.heap.size w w1 → w.heap.size ≤ B → B ≤ bp → B ≤ w1.heap.size → PB w1 B bp [] →
      Calls Try.prog 41 #[.pointer (some ⟨bp, 0, none⟩), valOf x A5 c5 A6 c6, .int .i64 0] w1 fun e w' => e = .returned (.bool true) ∧ PB w' B bp ([] ++ enc x) ∧ Fr B bp w1 w') :=
    fun B bp w1 h1 h2 h3 h4 h5 => pack_any (nodes x) x A5 c5 A6 c6 0 B bp [] w w1 (Nat.le_refl _) hok hwf (by omega) (by omega) hc5 hc6 hk5 hk6 h1 h2 h3 h4 h5 (by simp; omega)
  clear hok hwf hn hc5 hc6 hk5 hk6 hel
  have hnew : ∀ o o2, ((w.alloc o).alloc o2).heap[w.heap.size + 1]? = some o2 := fun o o2 => by
    have h := heap_alloc_new (w.alloc o) o2
    rw [World.size_alloc] at h
    exact h
  unfold valOf at HC ⊢
  go_enter Try.func17, Try.ntmps17
  go_wp2_with fail
  refine (pk_begin _ (hnew _ _)).mono ?_
  rintro e w1 ⟨rfl, hb1, hg1⟩
  have hbx : w1.heap[w.heap.size]? = _ := (hg1.block w.heap.size (by simp; omega) (by simp)).trans ((Below.heap_alloc _ _ _ (by simp)).trans (heap_alloc_new w _))
  have hbel : Below w.heap.size w w1 := (below_alloc (below_alloc (Below.refl _ _) _) _).grown hg1 (by simp; omega) (by rintro k hk; injection hk with hk; omega)
  obtain ⟨hc0, hc1, hc2, hc3, hc4, hc5, hc6⟩ := box7 hbx
  have hpk := HC.out w.heap.size (w.heap.size + 1) w1 hbel (Nat.le_refl _) (by omega) hbel.size ⟨.slice none 0 0, hb1, own_nil _ _ _ _⟩
  have HPK := Lib.hid hpk
  have HBE := Lib.hid hbel
  clear hb1 hg1 hbx hbel hpk HC
  go_wp2_with fail
  refine HPK.out.mono ?_
  rintro e w2 ⟨rfl, hp2, hf2⟩
  rw [List.nil_append] at hp2
  have HP2 := Lib.hid hp2
  have HF2 := Lib.hid (HBE.out.trans (hf2.below (by omega) HBE.out.size))
  clear hp2 hf2 HPK hc0 hc1 hc2 hc3 hc4 hc5 hc6
  go_wp2_with fail
  refine (ended_any _ HP2.out).mono ?_
  rintro e w3 ⟨rfl, ⟨nd, rfl⟩⟩
  go_wp2_with fail
  go_ret2
  exact ⟨rfl, pw_below_drewN HF2.out nd⟩

theorem C_none {α : Type} (d : Kd α) (w : World) : Kd.C d w none 0 [] := ⟨rfl, by decide, fun h => absurd h (by decide)⟩

/-- The sanity check of every statement holds. -/
theorem alive_any (w : World) : Calls Try.prog 18 #[] w fun e w' => e = .returned (.bool true) ∧ Below w.heap.size w w' := by
  have hP := Pack_any ⟨2, false, 1, 0, ⟨#[]⟩, [], []⟩ none 0 none 0 w
    ⟨⟨by decide, by decide, Nat.zero_le _, fun _ => rfl, fun h => absurd rfl h, fun _ => rfl, fun _ _ => rfl, fun _ => rfl, fun _ => rfl, fun h => absurd h (by decide), fun h => absurd h (by decide), fun t h => by cases h⟩, trivial⟩ (by simp [wfV, wfAll]) (by simp [nodes, nodesAll]) (by simp) (by simp) (C_none _ w) (C_none _ w)
  have he : strOfNums (enc ⟨2, false, 1, 0, ⟨#[]⟩, [], []⟩) = ⟨#[1]⟩ := by simp [enc, encTop, encInt, encKids, strOfNums]
  rw [he] at hP
  unfold valOf at hP
  have hS := fun w => slot_any ⟨#[102, 111, 111]⟩ w (by decide)
  rw [slot_foo] at hS
  have HP := Lib.hid hP
  have HS := Lib.hid hS
  clear hP he hS
  go_enter Try.func18, Try.ntmps18
  go_wp2_with fail
  refine HP.out.mono ?_
  rintro e w1 ⟨rfl, hb⟩
  have HB := Lib.hid hb
  clear hb
  go_wp2_with fail
  refine (HS.out _).mono ?_
  rintro e w2 ⟨rfl, ⟨nd, rfl⟩⟩
  go_wp2_with fail
  go_ret
  exact ⟨rfl, pw_below_drewN HB.out nd⟩
end Go.Proofs.Ytjnookhdiolhgaa
