/- The sanity check alive, for a seat whose statements pack no values of their own. -/
import Derived.Test.YtkogipaaioibaaaGreatDoorPk
import Derived.Test.YtkogipaaioibaaaGreatDoorSlot
namespace Go.Proofs.YtkogipaaioibaaaGreatDoor
open Go.RowKit Go.Proofs.YtkogipaaioibaaaGreatDoorW.PrintWords

/-- The box of a Val: its seven cells. -/
theorem box7 {w : World} {g : Nat} {t : TypeId} {a b c d e f k : Value} (h : w.heap[g]? = some (.cells #[a, b, c, d, e, f, k] t (0, 0))) :
    w.cell? ⟨g, 0, none⟩ = some a ∧ w.cell? ⟨g, 1, none⟩ = some b ∧ w.cell? ⟨g, 2, none⟩ = some c ∧ w.cell? ⟨g, 3, none⟩ = some d ∧ w.cell? ⟨g, 4, none⟩ = some e ∧ w.cell? ⟨g, 5, none⟩ = some f ∧ w.cell? ⟨g, 6, none⟩ = some k :=
  ⟨blk_cell h 0, blk_cell h 1, blk_cell h 2, blk_cell h 3, blk_cell h 4, blk_cell h 5, blk_cell h 6⟩


set_option maxHeartbeats 2000000 in
set_option maxRecDepth 100000 in
theorem pack_k2 (b : Bool) (i f : Int) (s : ByteArray) (A5 : Option Addr) (c5 n5 : Nat) (A6 : Option Addr) (c6 : Nat) (deep : Int) (B bp : Nat) (xs : List Int) (w : World)
    (hB : B ≤ w.heap.size) (hpb : PB w B bp xs) (hl : xs.length ≤ 1099511626776) (hi0 : -9223372036854775808 ≤ i) (hi1 : i < 9223372036854775808) :
    Calls Tryz.prog 33 #[.pointer (some ⟨bp, 0, none⟩), .agg #[.int .i64 2, .bool b, .int .i64 i, .int .u64 f, .string s, .slice A5 n5 c5, .slice A6 0 c6], .int .i64 deep] w fun e w' =>
      e = .returned (.bool true) ∧ PB w' B bp (xs ++ encInt i) ∧ Fr B bp w w' := by
  have HP := Lib.hid hpb
  have hlt := hpb.lt
  clear hpb
  have HI := Lib.hid (And.intro hi0 hi1)
  clear hi0 hi1
  go_enter Tryz.func33, Tryz.ntmps33
  go_wp2_with fail
  refine (pk_int i _ (HP.out.alloc _) (by simp; omega) (by omega) HI.out.1 HI.out.2).mono ?_
  rintro e w1 ⟨rfl, hp1, hf1⟩
  have hk := hf1.keep (heap_alloc_new w _) (by omega) (by decide)
  obtain ⟨hc0, hc1, hc2, hc3, hc4, hc5, hc6⟩ := box7 hk
  have HP1 := Lib.hid hp1
  have HF1 := Lib.hid hf1
  clear hp1 hf1 hk hc1 hc2 hc3 hc4 hc5
  go_wp2_with fail
  go_ret
  exact ⟨rfl, HP1.out, ((Fr.refl B bp w).alloc _).trans HF1.out⟩


set_option maxHeartbeats 1000000 in
theorem pk_begin {bp : Nat} (w : World) (hb : w.heap[bp]? = some (.cells #[.slice none 0 0, .nilIface] 69 (0, 0))) :
    Calls Tryz.prog 32 #[.pointer (some ⟨bp, 0, none⟩), .slice none 0 0] w fun e w' => e = .returned (.tuple #[]) ∧
      w'.heap[bp]? = some (.cells #[.slice none 0 0, .nilIface] 69 (0, 0)) ∧ w.grownBy w' (some bp) := by
  have c0 : w.cell? ⟨bp, 0, none⟩ = some (.slice none 0 0) := blk_cell hb 0
  have c1 : w.cell? ⟨bp, 1, none⟩ = some .nilIface := blk_cell hb 1
  have f0 := blk_frozen hb 0
  have f1 := blk_frozen hb 1
  have HB := Lib.hid hb
  clear hb
  go_enter Tryz.func32, Tryz.ntmps32
  go_wp2
  go_end0
  exact ⟨rfl, blk_set (blk_set HB.out 0 _) 1 _, grown_set (grown_set (World.grownBy.refl w _) 0 _) 1 _⟩


set_option maxHeartbeats 1000000 in
theorem pk_end {B bp : Nat} {xs : List Int} (w : World) (h : PB w B bp xs) :
    Calls Tryz.prog 60 #[.pointer (some ⟨bp, 0, none⟩)] w fun e w' => ∃ v, e = .returned (.tuple #[v, .nilIface]) ∧ w.ownsRow B 5 1 v xs.length (nums .u8 xs) ∧ Drawn0 w w' := by
  obtain ⟨v, hb, ho⟩ := h
  have c0 : w.cell? ⟨bp, 0, none⟩ = some v := blk_cell hb 0
  have c1 : w.cell? ⟨bp, 1, none⟩ = some .nilIface := blk_cell hb 1
  obtain ⟨A1, cc, hv⟩ := own_slice ho
  subst hv
  have HO := Lib.hid ho
  clear hb ho
  go_enter Tryz.func60, Tryz.ntmps60
  go_wp2
  go_quiet (fail)
  go_wp2
  go_ret2
  exact ⟨_, rfl, HO.out, (Drawn0.refl w).step _⟩


set_option maxHeartbeats 1000000 in
theorem ended_any {B bp : Nat} {xs : List Int} (w : World) (h : PB w B bp xs) :
    Calls Tryz.prog 34 #[.pointer (some ⟨bp, 0, none⟩)] w fun e w' => e = .returned (.tuple #[.string (strOfNums xs), .int .i64 0]) ∧ Drawn0 w w' := by
  have HE := Lib.hid (pk_end w h)
  clear h
  go_enter Tryz.func34, Tryz.ntmps34
  go_wp2_with fail
  refine HE.out.mono ?_
  rintro e w1 ⟨v, rfl, ho, ⟨nd, rfl⟩⟩
  have hcv := own_string (P := Tryz.prog) Tryz.underlying42 Tryz.underlying5 Tryz.underlying9 (show (w.drewN nd).ownsRow B 5 1 v xs.length (nums .u8 xs) from pw_own_below ho (pw_below_drewN (Below.refl _ _) nd))
  obtain ⟨A1, cc, hv⟩ := own_slice ho
  subst hv
  clear ho
  go_wp2_with fail
  go_ret2
  exact ⟨rfl, (Drawn0.refl w).step _⟩


set_option maxHeartbeats 2000000 in
set_option maxRecDepth 100000 in
theorem Pack_one (w : World) :
    Calls Tryz.prog 20 #[.agg #[.int .i64 2, .bool false, .int .i64 1, .int .u64 0, .string ⟨#[]⟩, .slice none 0 0, .slice none 0 0]] w fun e w' => e = .returned (.tuple #[.string ⟨#[1]⟩, .int .i64 0]) ∧ Below w.heap.size w w' := by
  have HC : Hid (∀ (B bp : Nat) (w1 : World), B ≤ bp → B ≤ w1.heap.size → PB w1 B bp [] →
      Calls Tryz.prog 33 #[.pointer (some ⟨bp, 0, none⟩), .agg #[.int .i64 2, .bool false, .int .i64 1, .int .u64 0, .string ⟨#[]⟩, .slice none 0 0, .slice none 0 0], .int .i64 0] w1 fun e w' => e = .returned (.bool true) ∧ PB w' B bp [1] ∧ Fr B bp w1 w') :=
    fun B bp w1 h1 h2 h3 => (pack_k2 false 1 0 ⟨#[]⟩ none 0 0 none 0 0 B bp [] w1 h2 h3 (by decide) (by decide) (by decide)).mono (fun e w' h => by simpa [encInt] using h)
  have hnew : ∀ o o2, ((w.alloc o).alloc o2).heap[w.heap.size + 1]? = some o2 := fun o o2 => by
    have h := heap_alloc_new (w.alloc o) o2
    rw [World.size_alloc] at h
    exact h
  go_enter Tryz.func20, Tryz.ntmps20
  go_wp2_with fail
  refine (pk_begin _ (hnew _ _)).mono ?_
  rintro e w1 ⟨rfl, hb1, hg1⟩
  have hbx : w1.heap[w.heap.size]? = _ := (hg1.block w.heap.size (by simp; omega) (by simp)).trans ((Below.heap_alloc _ _ _ (by simp)).trans (heap_alloc_new w _))
  have hbel : Below w.heap.size w w1 := (below_alloc (below_alloc (Below.refl _ _) _) _).grown hg1 (by simp; omega) (by rintro k hk; injection hk with hk; omega)
  obtain ⟨hc0, hc1, hc2, hc3, hc4, hc5, hc6⟩ := box7 hbx
  have hpk := HC.out w.heap.size (w.heap.size + 1) w1 (by omega) hbel.size ⟨.slice none 0 0, hb1, own_nil _ _ _ _⟩
  have HPK := Lib.hid hpk
  have HBE := Lib.hid hbel
  clear hb1 hg1 hbx hbel hpk HC
  go_wp2_with fail
  refine HPK.out.mono ?_
  rintro e w2 ⟨rfl, hp2, hf2⟩
  have HP2 := Lib.hid hp2
  have HF2 := Lib.hid (HBE.out.trans (hf2.below (by omega) HBE.out.size))
  clear hp2 hf2 HPK hc0 hc1 hc2 hc3 hc4 hc5 hc6
  go_wp2_with fail
  refine (ended_any _ HP2.out).mono ?_
  rintro e w3 ⟨rfl, ⟨nd, rfl⟩⟩
  go_wp2_with fail
  go_ret2
  exact ⟨rfl, pw_below_drewN HF2.out nd⟩


/-- The sanity check of every statement holds. -/
theorem alive_any (w : World) : Calls Tryz.prog 12 #[] w fun e w' => e = .returned (.bool true) ∧ Below w.heap.size w w' := by
  have hP := Pack_one w
  have hS := fun w => slot_any ⟨#[102, 111, 111]⟩ w (by decide)
  rw [slot_foo] at hS
  have HP := Lib.hid hP
  have HS := Lib.hid hS
  clear hP hS
  go_enter Tryz.func12, Tryz.ntmps12
  go_wp2_with fail
  refine HP.out.mono ?_
  rintro e w1 ⟨rfl, hb⟩
  have HB := Lib.hid hb
  clear hb
  go_wp2_with fail
  refine (HS.out _).mono ?_
  rintro e w2 ⟨rfl, ⟨nd, rfl⟩⟩
  go_wp2_with fail
  go_ret
  exact ⟨rfl, pw_below_drewN HB.out nd⟩
end Go.Proofs.YtkogipaaioibaaaGreatDoor
