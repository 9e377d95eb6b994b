/- laws.specVal: a value as the reference's. -/
import Derived.Test.YtjnookhdiolhgaaPackL
import Derived.Deep.LoopGhost
import Derived.Deep.RegionLaw
import Derived.Laws.Rows
namespace Go.Proofs.Ytjnookhdiolhgaa
open Go.RowKit Go.Proofs.YtjnookhdiolhgaaW.PrintWords
open Go.Proofs.YtjnookhdiolhgaaW.PrintLast (goes_)
open PAll (S26 k26 rd_T26 S35 k35)

mutual
/-- A value as the reference's. -/
def conv : S26 → S35
  | ⟨k, b, i, f, s, keys, kids⟩ => ⟨k, b, i, f, s, keys, convAll kids⟩
def convAll : List S26 → List S35
  | [] => []
  | x :: r => conv x :: convAll r
end
theorem convAll_length : ∀ l : List S26, (convAll l).length = l.length
  | [] => rfl
  | x :: r => by simp [convAll, convAll_length r]
theorem convAll_take {l : List S26} {j : Nat} {x : S26} (h : l[j]? = some x) : convAll (l.take (j + 1)) = convAll (l.take j) ++ [conv x] := by
  induction l generalizing j with
  | nil => simp at h
  | cons y r ih =>
    cases j with
    | zero => simp at h; subst h; simp [convAll]
    | succ j => simp at h; simp only [List.take_succ_cons, convAll, List.cons_append]; rw [ih h]

/-- A reference's value that is made, but for its keys, which came in. -/
def G35 (w0 : World) (d : Kd S35) : Kd S35 := Kd.iso (Kd.pair (Kd.int .i64) (Kd.pair Kd.bool (Kd.pair (Kd.int .i64) (Kd.pair (Kd.int .u64) (Kd.pair Kd.string (Kd.pair (Kd.fixed (Kd.slice 9 Kd.string) w0) (Kd.slice 35 d))))))) (fun x : S35 => (x.f0, x.f1, x.f2, x.f3, x.f4, x.f5, x.f6))
theorem mono35s (w0 : World) : Kd.Mono (G35 w0) := Kd.mono_iso _ (Kd.mono_pair (Kd.mono_const _) (Kd.mono_pair (Kd.mono_const _) (Kd.mono_pair (Kd.mono_const _) (Kd.mono_pair (Kd.mono_const _) (Kd.mono_pair (Kd.mono_const _) (Kd.mono_pair (Kd.mono_const _) (Kd.mono_slice 35 Kd.mono_id)))))))
theorem sub35s (w0 : World) : Kd.Sub (G35 w0) [9, 35] := Kd.sub_iso _ (Kd.sub_pair (Kd.sub_const _ (by intro q h; cases h)) (Kd.sub_pair (Kd.sub_const _ (by intro q h; cases h)) (Kd.sub_pair (Kd.sub_const _ (by intro q h; cases h)) (Kd.sub_pair (Kd.sub_const _ (by intro q h; cases h)) (Kd.sub_pair (Kd.sub_const _ (by intro q h; cases h)) (Kd.sub_pair (Kd.sub_const _ (by intro q h; cases h)) (Kd.sub_slice 35 (by decide) Kd.sub_id)))))))
theorem sz35s (w0 : World) : ∀ n, (Kd.upto (G35 w0) 7 [9, 35] n).sz = 7 := Kd.upto_sz (fun _ => rfl)
def k35s (w0 : World) : Kd S35 := Kd.fix (G35 w0) 7 [9, 35] (sz35s w0) (Kd.upto_E (sub35s w0))
theorem k35s_mkM (w0 w : World) (base : Nat) (ok : Nat → Prop) (x : S35) {A5 : Option Addr} {c5 : Nat} (l5 : x.f5.length ≤ c5) (g5 : Kd.string.C w0 A5 x.f5.length x.f5) {v6 : Value} (g6 : (k35s w0).R 35 w base ok v6 x.f6) : (k35s w0).M w base ok x [.int .i64 x.f0, .bool x.f1, .int .i64 x.f2, .int .u64 x.f3, .string x.f4, .slice A5 x.f5.length c5, v6] := by
  obtain ⟨n6, q6⟩ := Kd.fix_R_back (mono35s w0) g6
  exact ⟨n6 + 1, ⟨[.int .i64 x.f0], [.bool x.f1, .int .i64 x.f2, .int .u64 x.f3, .string x.f4, .slice A5 x.f5.length c5, v6], rfl, rfl, ⟨[.bool x.f1], [.int .i64 x.f2, .int .u64 x.f3, .string x.f4, .slice A5 x.f5.length c5, v6], rfl, rfl, ⟨[.int .i64 x.f2], [.int .u64 x.f3, .string x.f4, .slice A5 x.f5.length c5, v6], rfl, rfl, ⟨[.int .u64 x.f3], [.string x.f4, .slice A5 x.f5.length c5, v6], rfl, rfl, ⟨[.string x.f4], [.slice A5 x.f5.length c5, v6], rfl, rfl, ⟨[.slice A5 x.f5.length c5], [v6], rfl, ⟨A5, c5, rfl, l5, g5⟩, ⟨v6, rfl, q6⟩⟩⟩⟩⟩⟩⟩⟩
theorem k35s_K (w0 : World) (n : Nat) : ∀ (w : World) (x : S35) (cs : List Value), Below w0.heap.size w0 w → (Kd.upto (G35 w0) 7 [9, 35] n).K w x cs → k35.K w x cs := by
  induction n with
  | zero => intro w x cs hb h; exact h.elim
  | succ n ih =>
    intro w x cs hb h
    obtain ⟨_, _, rfl, rfl, ⟨_, _, rfl, rfl, ⟨_, _, rfl, rfl, ⟨_, _, rfl, rfl, ⟨_, _, rfl, rfl, ⟨_, _, rfl, ⟨A5, c5, rfl, l5, g5⟩, ⟨A6, c6, rfl, l6, g6⟩⟩⟩⟩⟩⟩⟩ := h
    have g6' : k35.C w A6 x.f6.length x.f6 := Kd.C_read (by rw [sz35s]; rfl) (fun y cs hy => ih w y cs hb hy) g6
    exact PAll.k35_mk w x l5 (Kd.C_below g5 hb) l6 g6'
theorem k35s_read {w0 w : World} {x : S35} {cs : List Value} (hb : Below w0.heap.size w0 w) (h : (k35s w0).K w x cs) : k35.K w x cs := by
  obtain ⟨n, h⟩ := h
  exact k35s_K w0 n w x cs hb h
theorem k35s_C {w0 w : World} {A : Option Addr} {n : Nat} {xs : List S35} (hb : Below w0.heap.size w0 w) (h : (k35s w0).C w A n xs) : k35.C w A n xs := Kd.C_read (d := k35) (dm := k35s w0) rfl (fun _ _ hy => k35s_read hb hy) h
/-- specVal's contract for values of at most N parts. -/
def SpecSaid (N : Nat) : Prop :=
  ∀ (x : S26) (A5 : Option Addr) (c5 : Nat) (A6 : Option Addr) (c6 : Nat) (w0 w : World), nodes x ≤ N → N ≤ 1000 → x.f5.length ≤ c5 → x.f6.length ≤ c6 → Kd.C Kd.string w0 A5 x.f5.length x.f5 → Kd.C k26 w0 A6 x.f6.length x.f6 → Below w0.heap.size w0 w →
    Calls Try.prog 20 #[valOf x A5 c5 A6 c6] w fun e w' => ∃ v6, e = .returned (.agg #[.int .i64 x.f0, .bool x.f1, .int .i64 x.f2, .int .u64 x.f3, .string x.f4, .slice A5 x.f5.length c5, v6]) ∧
      (k35s w0).R 35 w' w.heap.size (fun k => w.heap.size ≤ k) v6 (convAll x.f6) ∧ Below w.heap.size w w'

/-- What the loop holds. -/
structure SV (w0 w wr : World) (k : Int) (b : Bool) (i f : Int) (s : ByteArray) (A5 : Option Addr) (n5 c5 : Nat) (v6 : Value) (A6 : Option Addr) (n6 c6 : Nat) (l : List S35) : Prop where
  bel : Below w.heap.size w wr
  inn : wr.heap[w.heap.size]? = some (.cells #[.int .i64 k, .bool b, .int .i64 i, .int .u64 f, .string s, .slice A5 n5 c5, .slice A6 n6 c6] 26 (0, 0))
  res : wr.heap[w.heap.size + 1]? = some (.cells #[.int .i64 0, .bool false, .int .i64 0, .int .u64 0, .string ⟨#[]⟩, .slice none 0 0, .slice none 0 0] 35 (0, 0))
  out : wr.heap[w.heap.size + 1 + 1]? = some (.cells #[.int .i64 k, .bool b, .int .i64 i, .int .u64 f, .string s, .slice A5 n5 c5, v6] 35 (0, 0))
  row : (k35s w0).R 35 wr (w.heap.size + 3) (fun k => w.heap.size + 3 ≤ k) v6 l

theorem conv_eq (y : S26) : conv y = ⟨y.f0, y.f1, y.f2, y.f3, y.f4, y.f5, convAll y.f6⟩ := by cases y; rfl
theorem sv_own {w0 w wr : World} {k : Int} {b : Bool} {i f : Int} {s : ByteArray} {A5 : Option Addr} {n5 c5 : Nat} {v6 : Value} {A6 : Option Addr} {n6 c6 : Nat} {l : List S35} (h : SV w0 w wr k b i f s A5 n5 c5 v6 A6 n6 c6 l) :
    ∀ g, v6.ownBlock = some g → w.heap.size + 3 ≤ g ∧ g < wr.heap.size := fun g hg => by
  have h1 := (Kd.R_bound h.row).1 g hg
  exact ⟨h1.1, h1.2.2.1⟩
theorem sv_keep {w0 w wr w2 w1 : World} {k : Int} {b : Bool} {i f : Int} {s : ByteArray} {A5 : Option Addr} {n5 c5 : Nat} {v6 : Value} {A6 : Option Addr} {n6 c6 : Nat} {l : List S35} (h : SV w0 w wr k b i f s A5 n5 c5 v6 A6 n6 c6 l)
    (hb : Below wr.heap.size wr w2) (hg : w2.grownBy w1 v6.ownBlock) : Below w.heap.size w w1 ∧ ∀ g, g < w.heap.size + 3 → g < wr.heap.size → w1.heap[g]? = wr.heap[g]? := by
  have ho := sv_own h
  have hsz := h.bel.size
  have hsz2 := hb.size
  refine ⟨(h.bel.trans (hb.mono hsz)).grown hg (by omega) (by intro q hq; have := ho q hq; omega), fun g hg1 hg2 => ?_⟩
  exact (hg.block g (by omega) (by intro e; have := ho g e.symm; omega)).trans (hb.block g hg2)
theorem sv_next {w0 w wr w2 w1 : World} {k : Int} {b : Bool} {i f : Int} {s : ByteArray} {A5 : Option Addr} {n5 c5 : Nat} {v6 v1 : Value} {A6 : Option Addr} {n6 c6 : Nat} {l : List S35} {p : S35} (h : SV w0 w wr k b i f s A5 n5 c5 v6 A6 n6 c6 l)
    (hb : Below wr.heap.size wr w2) (hg : w2.grownBy w1 v6.ownBlock) (hr : (k35s w0).R 35 w1 (w.heap.size + 3) (fun k => w.heap.size + 3 ≤ k) v1 (l ++ [p])) :
    SV w0 w (w1.setCell ⟨w.heap.size + 1 + 1, 6, none⟩ v1) k b i f s A5 n5 c5 v1 A6 n6 c6 (l ++ [p]) := by
  obtain ⟨h1, h2⟩ := sv_keep h hb hg
  have l0 := blk_lt h.inn
  have l1 := blk_lt h.res
  have l2 := blk_lt h.out
  refine ⟨h1.setCell (by show w.heap.size ≤ w.heap.size + 1 + 1; omega) _, ?_, ?_, ?_, ?_⟩
  · exact (Below.heap_setCell w1 ⟨w.heap.size + 1 + 1, 6, none⟩ v1 _ (by show w.heap.size ≠ w.heap.size + 1 + 1; omega)).trans ((h2 _ (by omega) l0).trans h.inn)
  · exact (Below.heap_setCell w1 ⟨w.heap.size + 1 + 1, 6, none⟩ v1 _ (by show w.heap.size + 1 ≠ w.heap.size + 1 + 1; omega)).trans ((h2 _ (by omega) l1).trans h.res)
  · exact blk_put ((h2 _ (by omega) l2).trans h.out) 6 v1 rfl
  · exact Kd.R_far hr (p := ⟨w.heap.size + 1 + 1, 6, none⟩) (fun q hq => by show q ≠ w.heap.size + 1 + 1; omega) v1

theorem info35 : (Try.prog.info? 35).map (fun i => (i.zero, i.size, i.bytes)) = some (some (.agg #[.int .i64 0, .bool false, .int .i64 0, .int .u64 0, .string ⟨#[]⟩, .slice none 0 0, .slice none 0 0]), 7, 96) := by kernel_rfl

set_option maxHeartbeats 4000000 in
set_option maxRecDepth 100000 in
theorem spec_step (N : Nat) (ih : SpecSaid N) (k : Int) (b : Bool) (i f : Int) (s : ByteArray) (keys : List ByteArray) (kids : List S26) (A5 : Option Addr) (c5 : Nat) (A6 : Option Addr) (c6 : Nat) (w0 w : World)
    (hN : nodesAll kids ≤ N) (hN2 : N ≤ 999) (hc5 : keys.length ≤ c5) (hc6 : kids.length ≤ c6) (hk5 : Kd.C Kd.string w0 A5 keys.length keys) (hk6 : Kd.C k26 w0 A6 kids.length kids) (hw : Below w0.heap.size w0 w) :
    Calls Try.prog 20 #[.agg #[.int .i64 k, .bool b, .int .i64 i, .int .u64 f, .string s, .slice A5 keys.length c5, .slice A6 kids.length c6]] w fun e w' => ∃ v6, e = .returned (.agg #[.int .i64 k, .bool b, .int .i64 i, .int .u64 f, .string s, .slice A5 keys.length c5, v6]) ∧
      (k35s w0).R 35 w' w.heap.size (fun k => w.heap.size ≤ k) v6 (convAll kids) ∧ Below w.heap.size w w' := by
  have hkn := nodesAll_len kids
  have hkn2 : kids.length ≤ 1000 := by omega
  have HK5 := Aside0.mk hk5
  have HK6 := Aside0.mk hk6
  have HW := Aside0.mk hw
  have HN := Aside0.mk (And.intro hN hN2)
  have HC5 := Aside0.mk hc5
  have HC6 := Aside0.mk hc6
  clear hk5 hk6 hw hN hN2 hkn hc5 hc6
  go_enter Try.func20, Try.ntmps20
  go_wp2_with fail
  have hsv : SV w0 w (((w.alloc (.cells #[.int .i64 k, .bool b, .int .i64 i, .int .u64 f, .string s, .slice A5 keys.length c5, .slice A6 kids.length c6] 26)).alloc (.cells #[.int .i64 0, .bool false, .int .i64 0, .int .u64 0, .string ⟨#[]⟩, .slice none 0 0, .slice none 0 0] 35)).alloc (.cells #[.int .i64 k, .bool b, .int .i64 i, .int .u64 f, .string s, .slice A5 keys.length c5, .slice none 0 0] 35)) k b i f s A5 keys.length c5 (.slice none 0 0) A6 kids.length c6 [] := by
    refine ⟨below_alloc (below_alloc (below_alloc (Below.refl _ _) _) _) _, ?_, ?_, ?_, Kd.R_nil _ _ _ _ _⟩
    · exact (Below.heap_alloc _ _ _ (by simp; omega)).trans ((Below.heap_alloc _ _ _ (by simp)).trans (heap_alloc_new w _))
    · refine (Below.heap_alloc _ _ _ (by simp)).trans ?_
      have h := heap_alloc_new (w.alloc (.cells #[.int .i64 k, .bool b, .int .i64 i, .int .u64 f, .string s, .slice A5 keys.length c5, .slice A6 kids.length c6] 26)) (.cells #[.int .i64 0, .bool false, .int .i64 0, .int .u64 0, .string ⟨#[]⟩, .slice none 0 0, .slice none 0 0] 35)
      rw [World.size_alloc] at h
      exact h
    · have h := heap_alloc_new ((w.alloc (.cells #[.int .i64 k, .bool b, .int .i64 i, .int .u64 f, .string s, .slice A5 keys.length c5, .slice A6 kids.length c6] 26)).alloc (.cells #[.int .i64 0, .bool false, .int .i64 0, .int .u64 0, .string ⟨#[]⟩, .slice none 0 0, .slice none 0 0] 35)) (.cells #[.int .i64 k, .bool b, .int .i64 i, .int .u64 f, .string s, .slice A5 keys.length c5, .slice none 0 0] 35)
      rw [World.size_alloc, World.size_alloc] at h
      exact h
  have HSV := Aside0.mk hsv
  clear hsv
  go_loopg [22] kids.length (fun gk v22 wr => ∃ (j : Nat) (v6 : Value), v22 = .int .i64 j ∧ Aside0 (j ≤ kids.length ∧ gk = kids.length - j) ∧ Aside0 (SV w0 w wr k b i f s A5 keys.length c5 v6 A6 kids.length c6 (convAll (kids.take j))))
  case atStart => exact ⟨0, _, rfl, ⟨by omega⟩, ⟨by simpa [convAll] using HSV.out⟩⟩
  case round =>
    clear HSV
    obtain ⟨j, v6, rfl, HJ, HVJ⟩ := hrel
    obtain ⟨e0, e1, e2, e3, e4, e5, e6⟩ := box7 HVJ.out.out
    have f6 : wr.frozen? ⟨w.heap.size + 1 + 1, 6, none⟩ = false := blk_frozen HVJ.out.out 6
    have hszb : w.heap.size + 1 + 1 < wr.heap.size := blk_lt HVJ.out.out
    by_cases hj : j < kids.length
    · clear e0 e1 e2 e3 e4 e5
      obtain ⟨y, hy⟩ : ∃ y, kids[j]? = some y := ⟨_, List.getElem?_eq_getElem hj⟩
      have hbr : Below w0.heap.size w0 wr := HW.out.trans (HVJ.out.bel.mono HW.out.size)
      obtain ⟨ad, B5, d5, B6, d6, hA, g0, g1, g2, g3, g4, g5, g6, l5, q5, l6, q6⟩ := PAll.at_T26 HK6.out (j : Int) (by omega) (by omega)
      have hry : rd_T26 kids (j : Int) = y := by unfold Go.Proofs.Ytjnookhdiolhgaa.PAll.rd_T26; rw [Int.toNat_natCast, List.getD_eq_getElem?_getD, hy]; rfl
      rw [hry] at g0 g1 g2 g3 g4 g5 g6 l5 q5 l6 q6
      rw [Int.toNat_natCast] at g0 g1 g2 g3 g4 g5 g6
      have h0 := pw_cell_below hbr g0
      have h1 := pw_cell_below hbr g1
      have h2 := pw_cell_below hbr g2
      have h3 := pw_cell_below hbr g3
      have h4 := pw_cell_below hbr g4
      have h5 := pw_cell_below hbr g5
      have h6 := pw_cell_below hbr g6
      subst hA
      have HY := Aside0.mk hy
      have HQ := Aside0.mk (And.intro l5 (And.intro q5 (And.intro l6 q6)))
      have HBR := Aside0.mk hbr
      have hny := nodes_at hy
      have HNY := Aside0.mk hny
      clear g0 g1 g2 g3 g4 g5 g6 l5 q5 l6 q6 hry hy hbr hny
      have HIH := ih y B5 d5 B6 d6 w0 (wr.alloc (.cells #[.int .i64 y.f0, .bool y.f1, .int .i64 y.f2, .int .u64 y.f3, .string y.f4, .slice B5 y.f5.length d5, .slice B6 y.f6.length d6] 26)).drew (by have := HNY.out; have := HN.out.1; omega) (by have := HN.out.2; omega) HQ.out.1 HQ.out.2.2.1 HQ.out.2.1 HQ.out.2.2.2 (below_drew (below_alloc HBR.out (.cells #[.int .i64 y.f0, .bool y.f1, .int .i64 y.f2, .int .u64 y.f3, .string y.f4, .slice B5 y.f5.length d5, .slice B6 y.f6.length d6] 26)))
      unfold valOf at HIH
      have HX := Aside0.mk HIH
      clear HIH
      go_wp2_with fail
      have hb0 : Below wr.heap.size wr (wr.alloc (.cells #[.int .i64 y.f0, .bool y.f1, .int .i64 y.f2, .int .u64 y.f3, .string y.f4, .slice B5 y.f5.length d5, .slice B6 y.f6.length d6] 26)).drew := below_drew (below_alloc (Below.refl _ _) _)
      have hzz : (wr.alloc (.cells #[.int .i64 y.f0, .bool y.f1, .int .i64 y.f2, .int .u64 y.f3, .string y.f4, .slice B5 y.f5.length d5, .slice B6 y.f6.length d6] 26)).drew.heap.size = wr.heap.size + 1 := by show (wr.alloc (.cells #[.int .i64 y.f0, .bool y.f1, .int .i64 y.f2, .int .u64 y.f3, .string y.f4, .slice B5 y.f5.length d5, .slice B6 y.f6.length d6] 26)).heap.size = _; rw [World.size_alloc]
      have HAP : Aside0 (∀ (w2 : World) (v62 : Value), (k35s w0).R 35 w2 (wr.alloc (.cells #[.int .i64 y.f0, .bool y.f1, .int .i64 y.f2, .int .u64 y.f3, .string y.f4, .slice B5 y.f5.length d5, .slice B6 y.f6.length d6] 26)).drew.heap.size (fun k => (wr.alloc (.cells #[.int .i64 y.f0, .bool y.f1, .int .i64 y.f2, .int .u64 y.f3, .string y.f4, .slice B5 y.f5.length d5, .slice B6 y.f6.length d6] 26)).drew.heap.size ≤ k) v62 (convAll y.f6) → Below (wr.alloc (.cells #[.int .i64 y.f0, .bool y.f1, .int .i64 y.f2, .int .u64 y.f3, .string y.f4, .slice B5 y.f5.length d5, .slice B6 y.f6.length d6] 26)).drew.heap.size (wr.alloc (.cells #[.int .i64 y.f0, .bool y.f1, .int .i64 y.f2, .int .u64 y.f3, .string y.f4, .slice B5 y.f5.length d5, .slice B6 y.f6.length d6] 26)).drew w2 →
          (k35s w0).M w2 (w.heap.size + 3) (fun k => wr.heap.size ≤ k) (conv y) [.int .i64 y.f0, .bool y.f1, .int .i64 y.f2, .int .u64 y.f3, .string y.f4, .slice B5 y.f5.length d5, v62] ∧
          (∀ k, wr.heap.size ≤ k → w.heap.size + 3 ≤ k ∧ some k ≠ v6.ownBlock) ∧ (∀ k, w2.heap.size ≤ k → w.heap.size + 3 ≤ k) ∧ (k35s w0).R 35 w2 (w.heap.size + 3) (fun k => w.heap.size + 3 ≤ k) v6 (convAll (kids.take j)) ∧
          w.heap.size + 3 ≤ w2.heap.size ∧ ((convAll (kids.take j)).length + 1) * 96 ≤ 140737488355328 ∧ Below wr.heap.size wr w2) := ⟨by
        intro w2 v62 hr hb
        rw [hzz] at hr hb
        have hb2 : Below wr.heap.size wr w2 := hb0.trans (hb.mono (by omega))
        have hs2 := hb2.size
        refine ⟨?_, fun q hq => ⟨by omega, fun e => by have := (sv_own HVJ.out) q e.symm; omega⟩, fun q hq => by omega, Kd.R_below HVJ.out.row hb2, by omega, ?_, hb2⟩
        · rw [conv_eq]
          exact k35s_mkM w0 w2 _ _ ⟨y.f0, y.f1, y.f2, y.f3, y.f4, y.f5, convAll y.f6⟩ HQ.out.1 HQ.out.2.1 (Kd.R_lower (Kd.R_mono hr (fun q (hq : wr.heap.size + 1 ≤ q) => by show wr.heap.size ≤ q; omega)) (by omega))
        · rw [convAll_length, List.length_take]
          omega⟩
      clear hb0 hzz
      go_region_law (first
        | (refine goes_ Try.func20 (by kernel_rfl) rfl #[.agg #[.int .i64 y.f0, .bool y.f1, .int .i64 y.f2, .int .u64 y.f3, .string y.f4, .slice B5 y.f5.length d5, .slice B6 y.f6.length d6]] (by rfl) rfl rfl (by simp only [List.map_toArray, List.map_cons, List.map_nil]; rfl) ?_
           refine (HX.out).mono ?_
           rintro e w2 ⟨v62, rfl, hr, hb⟩
           refine ⟨_, rfl, ?_⟩
           have hap := HAP.out w2 v62 hr hb
           have hk2 : w2.heap[w.heap.size + 1 + 1]? = some (.cells #[.int .i64 k, .bool b, .int .i64 i, .int .u64 f, .string s, .slice A5 keys.length c5, v6] 35 (0, 0)) := (hap.2.2.2.2.2.2.block _ hszb).trans HVJ.out.out
           have e6w : w2.cell? ⟨w.heap.size + 1 + 1, 6, none⟩ = some v6 := blk_cell hk2 6
           have hlt2 : w.heap.size + 1 + 1 < w2.heap.size := blk_lt hk2
           clear hk2)
        | (refine Kd.R_append_step (W := w2) (w0 := w2) (k35s w0) (w.heap.size + 3) (by rfl) (.tmp 27) (.tmp 30) 33 35 _ 96 rfl Try.underlying33 info35 rfl (by show 0 < 7; decide) (by decide) v6 (convAll (kids.take j)) (conv y) [.int .i64 y.f0, .bool y.f1, .int .i64 y.f2, .int .u64 y.f3, .string y.f4, .slice B5 y.f5.length d5, v62] (fun k => w.heap.size + 3 ≤ k) (fun k => wr.heap.size ≤ k) (by simp [Act.eval]) (by simp [Act.eval]) hap.1 hap.2.1 hap.2.2.1 hap.2.2.2.1 (Below.refl _ _) hap.2.2.2.2.1 hap.2.2.2.2.2.1 ?_
           intro v1 w1 hr1 hb1 hg1 hat1
           obtain ⟨A1, n1, c1, rfl⟩ : ∃ A1 n1 c1, v1 = .slice A1 n1 c1 := by obtain ⟨A, c, h⟩ := Kd.R_slice hr1; exact ⟨A, _, c, h⟩
           have hkp := (sv_keep HVJ.out hap.2.2.2.2.2.2 hg1).2 (w.heap.size + 1 + 1) (by omega) hszb
           have hout : w1.heap[w.heap.size + 1 + 1]? = some (.cells #[.int .i64 k, .bool b, .int .i64 i, .int .u64 f, .string s, .slice A5 keys.length c5, v6] 35 (0, 0)) := hkp.trans HVJ.out.out
           have e6' : w1.cell? ⟨w.heap.size + 1 + 1, 6, none⟩ = some v6 := blk_cell hout 6
           have f6' : w1.frozen? ⟨w.heap.size + 1 + 1, 6, none⟩ = false := blk_frozen hout 6))
      all_goals
        have HNX := Aside0.mk (sv_next HVJ.out hap.2.2.2.2.2.2 hg1 hr1)
        clear hr hb hap hr1 hb1 hg1 hat1 hkp hout HX HAP
        go_wp2_with fail
        go_roundg (kids.length - (j + 1))
        case measure => have := HJ.out.2; omega
        case rel =>
          exact ⟨j + 1, .slice A1 n1 c1, by go_num, ⟨by omega⟩, ⟨by rw [convAll_take HY.out]; exact HNX.out⟩⟩
    · have hje : j = kids.length := by have := HJ.out.1; omega
      subst hje
      obtain ⟨A1, n1, c1, rfl⟩ : ∃ A1 n1 c1, v6 = .slice A1 n1 c1 := by obtain ⟨A, c, h⟩ := Kd.R_slice HVJ.out.row; exact ⟨A, _, c, h⟩
      obtain ⟨r0, r1, r2, r3, r4, r5, r6⟩ := box7 HVJ.out.res
      have s0 := blk_frozen HVJ.out.res 0
      have s1 := blk_frozen HVJ.out.res 1
      have s2 := blk_frozen HVJ.out.res 2
      have s3 := blk_frozen HVJ.out.res 3
      have s4 := blk_frozen HVJ.out.res 4
      have s5 := blk_frozen HVJ.out.res 5
      have s6 := blk_frozen HVJ.out.res 6
      go_wp2_with fail
      have hp0 := blk_put (cs' := #[.int .i64 k, .bool false, .int .i64 0, .int .u64 0, .string ⟨#[]⟩, .slice none 0 0, .slice none 0 0]) HVJ.out.res 0 (.int .i64 k) rfl
      have hp1 := blk_put (cs' := #[.int .i64 k, .bool b, .int .i64 0, .int .u64 0, .string ⟨#[]⟩, .slice none 0 0, .slice none 0 0]) hp0 1 (.bool b) rfl
      have hp2 := blk_put (cs' := #[.int .i64 k, .bool b, .int .i64 i, .int .u64 0, .string ⟨#[]⟩, .slice none 0 0, .slice none 0 0]) hp1 2 (.int .i64 i) rfl
      have hp3 := blk_put (cs' := #[.int .i64 k, .bool b, .int .i64 i, .int .u64 f, .string ⟨#[]⟩, .slice none 0 0, .slice none 0 0]) hp2 3 (.int .u64 f) rfl
      have hp4 := blk_put (cs' := #[.int .i64 k, .bool b, .int .i64 i, .int .u64 f, .string s, .slice none 0 0, .slice none 0 0]) hp3 4 (.string s) rfl
      have hp5 := blk_put (cs' := #[.int .i64 k, .bool b, .int .i64 i, .int .u64 f, .string s, .slice A5 keys.length c5, .slice none 0 0]) hp4 5 (.slice A5 keys.length c5) rfl
      have hp6 := blk_put (cs' := #[.int .i64 k, .bool b, .int .i64 i, .int .u64 f, .string s, .slice A5 keys.length c5, .slice A1 n1 c1]) hp5 6 (.slice A1 n1 c1) rfl
      refine bodyPost_ret (results_cell_row rfl _ _ (w.heap.size + 1) 35 #[.int .i64 k, .bool b, .int .i64 i, .int .u64 f, .string s, .slice A5 keys.length c5, .slice A1 n1 c1] (0, 0) _ rfl hp6 Try.underlying35 rfl (by kernel_rfl)) rfl ?_
      have hrow := HVJ.out.row
      rw [List.take_length] at hrow
      have hbl := HVJ.out.bel
      have hq : ∀ q, w.heap.size + 3 ≤ q → q ≠ w.heap.size + 1 := fun q h => by omega
      refine ⟨_, rfl, ?_, ?_⟩
      · exact Kd.R_lower (Kd.R_mono (Kd.R_far (Kd.R_far (Kd.R_far (Kd.R_far (Kd.R_far (Kd.R_far (Kd.R_far hrow (p := ⟨w.heap.size + 1, 0, none⟩) hq _) (p := ⟨w.heap.size + 1, 1, none⟩) hq _) (p := ⟨w.heap.size + 1, 2, none⟩) hq _) (p := ⟨w.heap.size + 1, 3, none⟩) hq _) (p := ⟨w.heap.size + 1, 4, none⟩) hq _) (p := ⟨w.heap.size + 1, 5, none⟩) hq _) (p := ⟨w.heap.size + 1, 6, none⟩) hq _) (fun q (h : w.heap.size + 3 ≤ q) => by show w.heap.size ≤ q; omega)) (by omega)
      · have hg1 : w.heap.size ≤ w.heap.size + 1 := by omega
        exact below_set (below_set (below_set (below_set (below_set (below_set (below_set hbl hg1) hg1) hg1) hg1) hg1) hg1) hg1
theorem specVal_any : ∀ N, SpecSaid N := by
  intro N
  induction N with
  | zero =>
    intro x A5 c5 A6 c6 w0 w hn
    have := nodes_pos x
    omega
  | succ N ih =>
    intro x A5 c5 A6 c6 w0 w hn hN h5 h6 hk5 hk6 hw
    obtain ⟨k, b, i, f, s, keys, kids⟩ := x
    simp only [nodes] at hn
    exact spec_step N ih k b i f s keys kids A5 c5 A6 c6 w0 w (by omega) (by omega) h5 h6 hk5 hk6 hw
end Go.Proofs.Ytjnookhdiolhgaa
