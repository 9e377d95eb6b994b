/- spec.Tokens. (seat r1) impl.Tokens. (seat r1; printed by gen_toki.py) impl.Tokens: the walk. (seat r1; printed by gen_tokj.py) laws.short: it returns. (seat r1) -/
import Derived.Test.YtjnookhdiolhgaaTokA
import Derived.Test.YtjnookhdiolhgaaTk
namespace Go.Proofs.Ytjnookhdiolhgaa
set_option linter.unusedVariables false
set_option linter.unusedSimpArgs false
open Go.RowKit Go.Proofs.YtjnookhdiolhgaaW.PrintWords

/-- A token's seven cells, of no memory of its own. -/
def ktk : Kd TKN where
  sz := 7
  E := []
  K := fun _ x cs => cs = (B57 x).toList
  M := fun _ _ _ x cs => cs = (B57 x).toList
  K_len := fun h => by rw [h]; rfl
  K_one := fun h u hu => by
    rw [h] at hu
    simp only [B57, List.mem_cons, List.not_mem_nil, or_false] at hu
    rcases hu with rfl | rfl | rfl | rfl | rfl | rfl | rfl <;> rfl
  K_below := fun _ h => h
  K_of_M := fun h => h
  M_mono := fun _ h => h
  M_bound := fun h => h
  M_move := fun _ h => h
  M_lower := fun _ h => h

/-- What Tokens says: nothing, the tokens ahead of what is too short, all tokens. -/
inductive TL where
  | wide : TL
  | cut : List TKN → TL
  | ok : List TKN → TL
def tkA : Nat → List TKN → List Int → TL
  | 0, acc, _ => .ok acc
  | n + 1, acc, xs => if xs = [] then .ok acc else match tks xs with
    | .bad => .cut acc
    | .wild => .wide
    | .ok t r => if 1000 < t.n then .wide else tkA n (acc ++ [t]) r
theorem tks_le {xs r : List Int} {t : TKN} (h : tks xs = .ok t r) : r.length + 1 ≤ xs.length := by
  cases xs with
  | nil => cases h
  | cons m q =>
    change (if (mark m).1 = 0 then TS.ok tk0 q else tkv (mark m).1 (tokM (mark m).1 (mark m).2.1 (mark m).2.2 q)) = TS.ok t r at h
    rw [List.length_cons]
    by_cases h0 : (mark m).1 = 0
    · rw [if_pos h0] at h
      injection h with _ h
      subst h
      exact Nat.le_refl _
    · rw [if_neg h0] at h
      have hl := tokM_le (mark m).1 (mark m).2.1 (mark m).2.2 q
      generalize tokM (mark m).1 (mark m).2.1 (mark m).2.2 q = k at h hl
      cases k with
      | bad => cases h
      | wild => cases h
      | val x r2 =>
        injection h with _ h
        subst h
        have hl : r2.length ≤ q.length := hl
        omega
      | opn a b c r2 =>
        injection h with _ h
        subst h
        have hl : r2.length ≤ q.length := hl
        omega
/-- What Tokens answers. -/
def TksR (R : TL) (w : World) (e : Ending) (w' : World) : Prop :=
  Below w.heap.size w w' ∧ match R with
  | .wide => e = .returned (.tuple #[.slice none 0 0, .bool false, .int .i64 2])
  | .cut l => ∃ v, e = .returned (.tuple #[v, .bool false, .int .i64 1]) ∧ ktk.R 57 w' w.heap.size (fun k => w.heap.size ≤ k) v l
  | .ok l => ∃ v, e = .returned (.tuple #[v, .bool true, .int .i64 1]) ∧ ktk.R 57 w' w.heap.size (fun k => w.heap.size ≤ k) v l
theorem info57 : (Try.prog.info? 57).map (fun i => (i.zero, i.size, i.bytes)) = some (some (.agg #[.int .i64 0, .bool false, .int .i64 0, .int .u64 0, .string ⟨#[]⟩, .int .u32 0, .int .i64 0]), 7, 64) := by kernel_rfl

set_option maxHeartbeats 4000000 in
set_option maxRecDepth 100000 in
theorem specTokens_any (s : ByteArray) (most : Nat) (w : World) (hs : s.size ≤ 100000) (hm : most ≤ 1000) (R : TL) (hR : tkA most [] (bytesOf s) = R) :
    Calls Try.prog 27 #[.string s, .int .i64 (most : Int)] w fun e w' => TksR R w e w' := by
  have HS := Aside0.mk hs
  have HM := Aside0.mk hm
  have HR := Aside0.mk hR
  have HB := Aside0.mk (Below.refl w.heap.size w)
  clear hs hm hR
  go_enter Try.func27, Try.ntmps27
  go_wp2_with fail
  go_loopg [0, 4] most (fun gk v0 v4 wr => ∃ (b : ByteArray) (acc : List TKN) (v : Value), v0 = .string b ∧ v4 = v ∧ Aside0 (gk = most - acc.length ∧ acc.length ≤ most ∧ tkA (most - acc.length) acc (bytesOf b) = R ∧ b.size ≤ s.size) ∧ Aside0 (Below w.heap.size w wr ∧ ktk.R 57 wr w.heap.size (fun k => w.heap.size ≤ k) v acc))
  case atStart => exact ⟨s, [], _, rfl, rfl, ⟨by simp, by simp, by simpa using HR.out, Nat.le_refl _⟩, ⟨HB.out, Kd.R_nil _ _ _ _ _⟩⟩
  case round =>
    clear HR HB
    obtain ⟨b, acc, v, rfl, rfl, HJ, HV⟩ := hrel
    obtain ⟨A1, c1, rfl⟩ := Kd.R_slice HV.out.2
    by_cases hz : b.size = 0
    · have hem : b.toList.isEmpty = true := by rw [List.isEmpty_iff]; exact List.length_eq_zero_iff.1 (by rw [toList_len]; exact hz)
      have hxs : bytesOf b = [] := List.length_eq_zero_iff.1 (by rw [bytesOf_length]; exact hz)
      have hRR : R = .ok acc := by
        have := HJ.out.2.2.1
        rw [hxs] at this
        rw [← this]
        cases most - acc.length <;> rfl
      subst hRR
      clear hz hxs
      go_wp2_with fail
      refine bodyPost_ret (results_tmp3 rfl _ _ _) rfl ?_
      exact ⟨HV.out.1, _, rfl, HV.out.2⟩
    · have hem : b.toList.isEmpty = false := by
        rw [Bool.eq_false_iff]
        intro h
        have h1 : b.toList = [] := by simpa using h
        exact hz (by rw [← toList_len, h1]; rfl)
      by_cases hlt : acc.length < most
      · have hlti : (acc.length : Int) < (most : Int) := by omega
        have HT := Aside0.mk (token_any b)
        have hxs : bytesOf b ≠ [] := fun h => hz (by rw [← bytesOf_length, h]; rfl)
        obtain ⟨q, hq⟩ : ∃ q, most - acc.length = q + 1 := ⟨most - acc.length - 1, by omega⟩
        have hst := HJ.out.2.2.1
        rw [hq] at hst
        simp only [tkA] at hst
        rw [if_neg hxs] at hst
        have HST := Aside0.mk hst
        have HQ := Aside0.mk hq
        clear hst hq hz hxs
        go_wp2_with fail
        refine (HT.out _ (by have := HJ.out.2.2.2; have := HS.out; omega)).mono ?_
        rintro e w1 ⟨hb1, hT⟩
        have HB1 := Aside0.mk (HV.out.1.trans (hb1.mono HV.out.1.size))
        have HR1 := Aside0.mk (Kd.R_below HV.out.2 hb1)
        clear hb1 HT HV
        cases hk : tks (bytesOf b) with
        | bad =>
          rw [hk] at hT
          obtain ⟨t, str, hn, rfl⟩ := hT
          obtain ⟨c, bb, i, f, ss, n, g⟩ := t
          simp only at hn
          subst hn
          simp only [B57]
          have hRR : R = .cut acc := by rw [← HST.out, hk]
          subst hRR
          clear hk HST
          go_wp2_with fail
          refine bodyPost_ret (results_tmp3 rfl _ _ _) rfl ?_
          exact ⟨below_alloc HB1.out _, _, rfl, Kd.R_below HR1.out (below_alloc (Below.refl _ _) _)⟩
        | wild =>
          rw [hk] at hT
          obtain ⟨t, rfl⟩ := hT
          obtain ⟨c, bb, i, f, ss, n, g⟩ := t
          simp only [B57]
          have hRR : R = .wide := by rw [← HST.out, hk]
          subst hRR
          clear hk HST
          go_wp2_with fail
          refine bodyPost_ret (results_tmp3 rfl _ _ _) rfl ?_
          exact ⟨below_alloc HB1.out _, rfl⟩
        | ok t r =>
          rw [hk] at hT
          obtain ⟨str, hstr, rfl⟩ := hT
          have hst := HST.out
          rw [hk] at hst
          simp only at hst
          have hle : r.length + 1 ≤ (bytesOf b).length := tks_le hk
          by_cases hbig : 1000 < t.n
          · rw [if_pos hbig] at hst
            subst hst
            obtain ⟨c, bb, i, f, ss, n, g⟩ := t
            simp only [B57]
            simp only at hbig
            clear hk HST hle
            go_wp2_with fail
            refine bodyPost_ret (results_tmp3 rfl _ _ _) rfl ?_
            exact ⟨below_alloc HB1.out _, rfl⟩
          · rw [if_neg hbig] at hst
            have HST2 := Aside0.mk hst
            have HLE := Aside0.mk (show str.size ≤ s.size by have h1 := bytesOf_length str; have h2 := bytesOf_length b; have h3 := HJ.out.2.2.2; rw [hstr] at h1; omega)
            have HSTR := Aside0.mk hstr
            have HTT := Aside0.mk (show ktk.M (w1.alloc (.cells (B57 t) 57)) w.heap.size (fun _ => False) t (B57 t).toList from rfl)
            have HWB := Aside0.mk (show Below w.heap.size w (w1.alloc (.cells (B57 t) 57)) from below_alloc HB1.out _)
            have HRB := Aside0.mk (Kd.R_below HR1.out (below_alloc (Below.refl w1.heap.size w1) (.cells (B57 t) 57)))
            have hlen : (acc.length + 1) * 64 ≤ 140737488355328 := by have := HM.out; omega
            obtain ⟨c, bb, i, f, ss, n, g⟩ := t
            simp only [B57] at HTT HWB HRB ⊢
            simp only at hbig
            clear hk HST hle hst hstr
            go_wp2_with (at_builtin; refine Kd.R_append (w0 := w) (W := w1.alloc (.cells #[.int .i64 c, .bool bb, .int .i64 i, .int .u64 f, .string ss, .int .u32 n, .int .i64 g] 57)) ktk w.heap.size rfl (.tmp 36) (.tmp 38) 48 57 _ 64 rfl Try.underlying48 info57 rfl (by show 0 < 7; decide) (by decide) (.slice A1 acc.length c1) acc ⟨c, bb, i, f, ss, n, g⟩ [.int .i64 c, .bool bb, .int .i64 i, .int .u64 f, .string ss, .int .u32 n, .int .i64 g] (fun q => w.heap.size ≤ q) (fun _ => False) (by simp [Act.eval]) (by simp [Act.eval]) HTT.out (fun _ h => h.elim) (fun q hq => Nat.le_trans HWB.out.size hq) HRB.out HWB.out HWB.out.size hlen ?_; intro v1 w3 hr1 hb1 hg1 hat1; obtain ⟨A3, n3, c3, rfl⟩ : ∃ A3 n3 c3, v1 = .slice A3 n3 c3 := (by obtain ⟨A, c, h⟩ := Kd.R_slice hr1; exact ⟨A, _, c, h⟩); have HR3 := Aside0.mk hr1; have HB3 := Aside0.mk hb1; clear hr1 hb1 hg1 hat1)
            go_roundg (most - (acc.length + 1))
            case measure => have := HJ.out.1; omega
            case rel =>
              refine ⟨str, acc ++ [⟨c, bb, i, f, ss, n, g⟩], _, rfl, rfl, ⟨by simp, by simp; omega, ?_, HLE.out⟩, ⟨HB3.out, HR3.out⟩⟩
              rw [HSTR.out, List.length_append, List.length_singleton, show most - (acc.length + 1) = q by have := HQ.out; omega]
              exact HST2.out
      · have hlti : ¬ (acc.length : Int) < (most : Int) := by omega
        have hRR : R = .ok acc := by
          have := HJ.out.2.2.1
          rw [show most - acc.length = 0 by omega] at this
          rw [← this]
          rfl
        subst hRR
        clear hz hlt
        go_wp2_with fail
        refine bodyPost_ret (results_tmp3 rfl _ _ _) rfl ?_
        exact ⟨HV.out.1, _, rfl, HV.out.2⟩
end Go.Proofs.Ytjnookhdiolhgaa

namespace Go.Proofs.Ytjnookhdiolhgaa
set_option linter.unusedVariables false
set_option linter.unusedSimpArgs false
open Go.RowKit Go.Proofs.YtjnookhdiolhgaaW.PrintWords

theorem idle59 (a b : Value) (w : World) :
    CallsD Try.prog 59 #[a, b] .returning w fun e u' w' => e = .returned (.tuple #[]) ∧ u' = .returning ∧ w' = w := by
  refine callsD_of_wpS Try.func59 rfl fun c₀ cs hu => ?_
  apply wpS_seq
  apply wpS_region
  simp [wpOpsS, go_sem, recoverD, hu, Try.ntmps59, Exit.thenS]
  refine wpS_cond (t := false) (by simp [Act.eval, Array.replicate]) ?_
  simp only [Bool.false_eq_true, if_false]
  refine wpS_of_wp (wp_skip ?_)
  cases c₀
  simp_all [bodyPostS, results, Try.results59]
theorem res28 (tmps : Array Value) (w : World) (g g1 : Nat) (v : Value) (x : Int) (h2 : tmps.getD 4 undef = .pointer (some ⟨g, 0, none⟩)) (h3 : tmps.getD 5 undef = .pointer (some ⟨g1, 0, none⟩))
    (hg : w.heap[g]? = some (.cells #[v] 51 (0, 0))) (hx : w.heap[g1]? = some (.cells #[.int .i64 x] 3 (0, 0))) (hv : ∃ A n c, v = .slice A n c) :
    (results Try.f28 tmps).run Try.prog w = .ok (.tuple #[v, .int .i64 x]) w := by
  obtain ⟨A, n, c, rfl⟩ := hv
  have h2' : tmps[4]?.getD undef = .pointer (some ⟨g, 0, none⟩) := by simpa using h2
  have h3' : tmps[5]?.getD undef = .pointer (some ⟨g1, 0, none⟩) := by simpa using h3
  have c1 : w.cell? ⟨g1, 0, none⟩ = some (.int .i64 x) := blk_cell hx 0
  have c2 : w.cell? ⟨g, 0, none⟩ = some (.slice A n c) := blk_cell hg 0
  simp [results, Try.results28, h2', h3', asAddr, go_sem, c1, c2]
def c51o : Obj := .cells #[.slice none 0 0] 51
/-- Tokens' world behind its variables. -/
def TW (w : World) (s : ByteArray) : World := Lib.bytesWorld (((w.alloc c51o).alloc i0o).alloc u0o) 5 s
theorem TW_heap (w : World) (s : ByteArray) (g : Nat) (hg : g < w.heap.size + 3) : (TW w s).heap[g]? = (((w.alloc c51o).alloc i0o).alloc u0o).heap[g]? :=
  (bytes_below (Below.refl _ (((w.alloc c51o).alloc i0o).alloc u0o)) (Nat.le_refl _) 5 s).block g (by simp; omega)
theorem TW_boxes (w : World) (s : ByteArray) : (TW w s).heap[w.heap.size]? = some c51o ∧ (TW w s).heap[w.heap.size + 1]? = some i0o ∧ (TW w s).heap[w.heap.size + 1 + 1]? = some u0o := by
  refine ⟨?_, ?_, ?_⟩
  · rw [TW_heap w s _ (by omega), Below.heap_alloc _ _ _ (by simp; omega), Below.heap_alloc _ _ _ (by simp)]
    exact heap_alloc_new w _
  · rw [TW_heap w s _ (by omega), Below.heap_alloc _ _ _ (by simp)]
    have h := heap_alloc_new (w.alloc c51o) i0o
    rw [World.size_alloc] at h
    exact h
  · rw [TW_heap w s _ (by omega)]
    have h := heap_alloc_new ((w.alloc c51o).alloc i0o) u0o
    rw [World.size_alloc, World.size_alloc] at h
    exact h
theorem TW_below (w : World) (s : ByteArray) : Below w.heap.size w (TW w s) := bytes_below (below_alloc (below_alloc (below_alloc (Below.refl _ _) _) _) _) (by simp; omega) 5 s
theorem TW_size (w : World) (s : ByteArray) : w.heap.size + 3 < (TW w s).heap.size := by
  unfold TW
  rw [Lib.bytesWorld_size]
  simp
theorem TW_reset (w : World) (s : ByteArray) (hs : s.size ≤ 2147483647) : ∃ cap, cap = grownCap (((w.alloc c51o).alloc i0o).alloc u0o) s.size 0 5 ∧
    Calls Try.prog 60 #[.pointer (some ⟨w.heap.size + 1 + 1, 0, none⟩), .slice (some ⟨w.heap.size + 1 + 1 + 1, 0, none⟩) s.size cap] (TW w s) fun e w' => e = .returned (.tuple #[]) ∧
      UB w' (w.heap.size + 1 + 1) (some ⟨w.heap.size + 1 + 1 + 1, 0, none⟩) cap (bytesOf s) 0 0 0 0 .nilIface 0 ∧ (TW w s).grownBy w' (some (w.heap.size + 1 + 1)) := by
  refine ⟨_, rfl, ?_⟩
  have hr := bytes_reads (((w.alloc c51o).alloc i0o).alloc u0o) 5 s (by omega)
  rw [World.size_alloc, World.size_alloc, World.size_alloc, ← bytesOf_length s] at hr
  have hb := (TW_boxes w s).2.2
  have h := reset_any (xs := bytesOf s) (cap := grownCap (((w.alloc c51o).alloc i0o).alloc u0o) s.size 0 5) (TW w s) hb hr (by rw [bytesOf_length]; exact grownCap_ge _ _ _ _) (fun ad e => by injection e with e; subst e; show w.heap.size + 1 + 1 + 1 ≠ w.heap.size + 1 + 1; omega)
    (by rw [bytesOf_length]; exact hs) (bytesOf_bytes s)
  rw [bytesOf_length] at h
  exact h
/-- What the loop holds. -/
structure UT (w wr : World) (cap : Nat) (xs : List Int) (acc : List TKN) (v : Value) (off : Nat) (t s lo : Int) (ev : Value) (c : Int) : Prop where
  bel : Below w.heap.size w wr
  b0 : wr.heap[w.heap.size]? = some (.cells #[v] 51 (0, 0))
  b1 : wr.heap[w.heap.size + 1]? = some (.cells #[.int .i64 0] 3 (0, 0))
  un : UB wr (w.heap.size + 1 + 1) (some ⟨w.heap.size + 1 + 1 + 1, 0, none⟩) cap xs off t s lo ev c
  row : ktk.R 56 wr (w.heap.size + 4) (fun q => w.heap.size + 4 ≤ q) v acc
  size : w.heap.size + 4 ≤ wr.heap.size
section
variable {w wr w2 : World} {cap : Nat} {xs : List Int} {acc : List TKN} {v : Value} {off off2 : Nat} {t s lo c t2 s2 lo2 c2 : Int} {ev ev2 : Value}
theorem UT.drewN (h : UT w wr cap xs acc v off t s lo ev c) (n : Nat) : UT w (wr.drewN n) cap xs acc v off t s lo ev c :=
  ⟨pw_below_drewN h.bel n, h.b0, h.b1, h.un.drewN n, Kd.R_drewN h.row n, h.size⟩
theorem UT.next (h : UT w wr cap xs acc v off t s lo ev c) (hg : wr.grownBy w2 (some (w.heap.size + 1 + 1))) (hu : UB w2 (w.heap.size + 1 + 1) (some ⟨w.heap.size + 1 + 1 + 1, 0, none⟩) cap xs off2 t2 s2 lo2 ev2 c2) :
    UT w w2 cap xs acc v off2 t2 s2 lo2 ev2 c2 :=
  ⟨h.bel.grown hg h.bel.size (by rintro k hk; injection hk with hk; omega), blk_grown h.b0 hg (by intro he; injection he with he; omega), blk_grown h.b1 hg (by intro he; injection he with he; omega), hu, Kd.R_grown h.row hg (fun q hq he => by injection he with he; omega), Nat.le_trans h.size hg.size⟩
theorem UT.below (h : UT w wr cap xs acc v off t s lo ev c) (hb : Below wr.heap.size wr w2) : UT w w2 cap xs acc v off t s lo ev c :=
  ⟨h.bel.trans (hb.mono h.bel.size), blk_below h.b0 hb, blk_below h.b1 hb, h.un.move hb, Kd.R_below h.row hb, Nat.le_trans h.size hb.size⟩
/-- A token's box is written. -/
theorem UT.box (h : UT w wr cap xs acc v off t s lo ev c) {tb : Nat} (htb : w.heap.size + 4 ≤ tb) (hv : ∀ q, v.ownBlock = some q → q ≠ tb) (j : Nat) (u : Value) : UT w (wr.setCell ⟨tb, j, none⟩ u) cap xs acc v off t s lo ev c :=
  ⟨below_set h.bel (by omega), (Below.heap_setCell wr ⟨tb, j, none⟩ u _ (by show w.heap.size ≠ tb; omega)).trans h.b0, (Below.heap_setCell wr ⟨tb, j, none⟩ u _ (by show w.heap.size + 1 ≠ tb; omega)).trans h.b1,
    h.un.grown (row := some tb) (grown_set (World.grownBy.refl wr _) j u) (by intro he; injection he with he; omega) (fun ad ha he => by injection ha with ha; subst ha; injection he with he; simp at he; omega),
    Kd.R_mono (Kd.R_far (Kd.R_far1 h.row rfl (g := tb) (fun he => hv tb he.symm rfl)) (p := ⟨tb, j, none⟩) (fun k hk => hk.2) u) (fun _ hq => hq.1), by simpa [World.setCell] using h.size⟩
/-- Ahead of the switch: a token's box, its kind told. -/
structure ST (w wz : World) (cap : Nat) (xs : List Int) (acc : List TKN) (v : Value) (off : Nat) (t s lo : Int) (ev : Value) (c : Int) (tb : Nat) (tk : TKN) : Prop where
  ut : UT w wz cap xs acc v off t s lo ev c
  box : wz.heap[tb]? = some (.cells (B57 tk) 56 (0, 0))
  lo : w.heap.size + 4 ≤ tb
  own : ∀ q, v.ownBlock = some q → q ≠ tb
theorem ST.next {tb : Nat} {tk : TKN} (h : ST w wr cap xs acc v off t s lo ev c tb tk) (hg : wr.grownBy w2 (some (w.heap.size + 1 + 1))) (hu : UB w2 (w.heap.size + 1 + 1) (some ⟨w.heap.size + 1 + 1 + 1, 0, none⟩) cap xs off2 t2 s2 lo2 ev2 c2) :
    ST w w2 cap xs acc v off2 t2 s2 lo2 ev2 c2 tb tk := ⟨h.ut.next hg hu, blk_grown h.box hg (by intro he; injection he with he; have := h.lo; omega), h.lo, h.own⟩
theorem ST.put {tb : Nat} {tk : TKN} (h : ST w wr cap xs acc v off t s lo ev c tb tk) (j : Nat) (u : Value) (tk2 : TKN) (e : (B57 tk).setIfInBounds j u = B57 tk2) : ST w (wr.setCell ⟨tb, j, none⟩ u) cap xs acc v off t s lo ev c tb tk2 :=
  ⟨h.ut.box h.lo h.own j u, blk_put h.box j u e, h.lo, h.own⟩
theorem ST.start (h : UT w wr cap xs acc v off t s lo ev c) (tk : TKN) : ST w (wr.alloc (.cells (B57 tk) 56)) cap xs acc v off t s lo ev c wr.heap.size tk :=
  ⟨h.below (below_alloc (Below.refl _ _) _), heap_alloc_new wr _, h.size, fun q hq => by have := Kd.R_lt h.row q hq; omega⟩
theorem UT.end_ (h : UT w wr cap xs acc v off t s lo ev c) (x : Int) : ((wr.setCell ⟨w.heap.size, 0, none⟩ v).setCell ⟨w.heap.size + 1, 0, none⟩ (.int .i64 x)).heap[w.heap.size]? = some (.cells #[v] 51 (0, 0)) ∧ ((wr.setCell ⟨w.heap.size, 0, none⟩ v).setCell ⟨w.heap.size + 1, 0, none⟩ (.int .i64 x)).heap[w.heap.size + 1]? = some (.cells #[.int .i64 x] 3 (0, 0)) ∧
    Below w.heap.size w ((wr.setCell ⟨w.heap.size, 0, none⟩ v).setCell ⟨w.heap.size + 1, 0, none⟩ (.int .i64 x)) ∧ ktk.R 56 ((wr.setCell ⟨w.heap.size, 0, none⟩ v).setCell ⟨w.heap.size + 1, 0, none⟩ (.int .i64 x)) w.heap.size (fun q => w.heap.size ≤ q) v acc := by
  refine ⟨blk_far (p := ⟨w.heap.size + 1, 0, none⟩) (blk_put h.b0 0 v rfl) (by show w.heap.size ≠ w.heap.size + 1; omega) _, blk_put (blk_far (p := ⟨w.heap.size, 0, none⟩) h.b1 (by show w.heap.size + 1 ≠ w.heap.size; omega) _) 0 _ rfl, below_set (below_set h.bel (Nat.le_refl _)) (by omega), ?_⟩
  exact Kd.R_lower (Kd.R_mono (Kd.R_far (Kd.R_far h.row (p := ⟨w.heap.size, 0, none⟩) (fun q hq => by show q ≠ w.heap.size; omega) _) (p := ⟨w.heap.size + 1, 0, none⟩) (fun q hq => by show q ≠ w.heap.size + 1; omega) _) (fun q (hq : w.heap.size + 4 ≤ q) => by show w.heap.size ≤ q; omega)) (by omega)
/-- The list has one more. -/
theorem UT.more {v1 : Value} {tk : TKN} {w3 : World} (h : UT w wr cap xs acc v off t s lo ev c) (hr : ktk.R 56 w3 (w.heap.size + 4) (fun q => w.heap.size + 4 ≤ q) v1 (acc ++ [tk])) (hg : wr.grownBy w3 v.ownBlock) :
    UT w (w3.setCell ⟨w.heap.size, 0, none⟩ v1) cap xs (acc ++ [tk]) v1 off t s lo ev c := by
  have hb := fun q hq => Kd.R_base h.row q hq
  have hs := hg.size
  have hs0 := h.size
  refine ⟨below_set (h.bel.grown hg h.bel.size (fun q hq => by have := hb q hq; omega)) (Nat.le_refl _), blk_put (blk_grown h.b0 hg (fun he => by have := hb _ he.symm; omega)) 0 _ rfl, blk_far (p := ⟨w.heap.size, 0, none⟩) (blk_grown h.b1 hg (fun he => by have := hb _ he.symm; omega)) (by show w.heap.size + 1 ≠ w.heap.size; omega) _, ?_, ?_, ?_⟩
  · exact (h.un.grown hg (fun he => by have := hb _ he.symm; omega) (fun ad ha he => by injection ha with ha; subst ha; have h3 := hb _ he.symm; have h4 : w.heap.size + 4 ≤ w.heap.size + 1 + 1 + 1 := h3; omega)).grown (row := some w.heap.size) (grown_set (World.grownBy.refl w3 _) 0 _) (by intro he; injection he with he; omega) (fun ad ha he => by injection ha with ha; subst ha; injection he with he; have h4 : w.heap.size + 1 + 1 + 1 = w.heap.size := he; omega)
  · exact Kd.R_far hr (p := ⟨w.heap.size, 0, none⟩) (fun q hq => by show q ≠ w.heap.size; omega) _
  · show w.heap.size + 4 ≤ (w3.setCell _ _).heap.size
    have : w.heap.size + 4 ≤ w3.heap.size := by omega
    simpa [World.setCell] using this
end
/-- Behind the switch. -/
structure HT (w wc : World) (cap : Nat) (xs : List Int) (acc : List TKN) (v : Value) (off : Nat) (t s lo : Int) (ev : Value) (c : Int) (tb : Nat) (tk : TKN) (T : TS) : Prop where
  st : ST w wc cap xs acc v off t s lo ev c tb tk
  bad : T = .bad → IsErr ev
  ok : ∀ t' r, T = .ok t' r → ev = .nilIface ∧ t' = tk ∧ xs.drop off = r ∧ off ≤ xs.length
theorem HT.of {w wc : World} {cap : Nat} {xs : List Int} {acc : List TKN} {v : Value} {off : Nat} {t s lo : Int} {ev : Value} {c : Int} {tb : Nat} {tn : TKN} (h : ST w wc cap xs acc v off t s lo ev c tb tn) (t1 : Int) (tk : Tk)
    (bad : tk = .bad → IsErr ev) (val : ∀ x r, tk = .val x r → ev = .nilIface ∧ (⟨t1, x.f1, x.f2, x.f3, x.f4, 0, 0⟩ : TKN) = tn ∧ xs.drop off = r ∧ off ≤ xs.length)
    (opn : ∀ k g n r, tk = .opn k g n r → ev = .nilIface ∧ (⟨t1, false, 0, 0, ⟨#[]⟩, n, g⟩ : TKN) = tn ∧ xs.drop off = r ∧ off ≤ xs.length) : HT w wc cap xs acc v off t s lo ev c tb tn (tkv t1 tk) := by
  refine ⟨h, fun hT => ?_, fun t' r hT => ?_⟩
  · cases tk with
    | bad => exact bad rfl
    | wild => cases hT
    | val x r => cases hT
    | opn k g n r => cases hT
  · cases tk with
    | bad => cases hT
    | wild => cases hT
    | val x r2 =>
      injection hT with h1 h2
      obtain ⟨a, b, d, e⟩ := val x r2 rfl
      exact ⟨a, h1.symm.trans b, d.trans h2, e⟩
    | opn k g n r2 =>
      injection hT with h1 h2
      obtain ⟨a, b, d, e⟩ := opn k g n r2 rfl
      exact ⟨a, h1.symm.trans b, d.trans h2, e⟩
theorem ST.cells {w wc : World} {cap : Nat} {xs : List Int} {acc : List TKN} {v : Value} {off : Nat} {t s lo : Int} {ev : Value} {c : Int} {tb : Nat} {tn : TKN} (h : ST w wc cap xs acc v off t s lo ev c tb tn) :
    (∀ j, wc.frozen? ⟨tb, j, none⟩ = false) ∧ wc.cell? ⟨tb, 0, none⟩ = some (.int .i64 tn.c) ∧ wc.cell? ⟨tb, 1, none⟩ = some (.bool tn.b) ∧ wc.cell? ⟨tb, 2, none⟩ = some (.int .i64 tn.i) ∧ wc.cell? ⟨tb, 3, none⟩ = some (.int .u64 tn.f) ∧ wc.cell? ⟨tb, 4, none⟩ = some (.string tn.s) ∧ wc.cell? ⟨tb, 5, none⟩ = some (.int .u32 tn.n) ∧ wc.cell? ⟨tb, 6, none⟩ = some (.int .i64 tn.g) :=
  ⟨fun j => blk_frozen h.box j, blk_cell h.box 0, blk_cell h.box 1, blk_cell h.box 2, blk_cell h.box 3, blk_cell h.box 4, blk_cell h.box 5, blk_cell h.box 6⟩
theorem info56 : (Try.prog.info? 56).map (fun i => (i.zero, i.size, i.bytes)) = some (some (.agg #[.int .i64 0, .bool false, .int .i64 0, .int .u64 0, .string ⟨#[]⟩, .int .u32 0, .int .i64 0]), 7, 64) := by kernel_rfl
/-- What Tokens answers. -/
def TiR (R : TL) (w : World) (e : Ending) (w' : World) : Prop :=
  Below w.heap.size w w' ∧ match R with
  | .wide => True
  | .cut l => ∃ v, e = .returned (.tuple #[v, .int .i64 1]) ∧ ktk.R 56 w' w.heap.size (fun k => w.heap.size ≤ k) v l
  | .ok l => ∃ v, e = .returned (.tuple #[v, .int .i64 0]) ∧ ktk.R 56 w' w.heap.size (fun k => w.heap.size ≤ k) v l
end Go.Proofs.Ytjnookhdiolhgaa

namespace Go.Proofs.Ytjnookhdiolhgaa
set_option linter.unusedVariables false
set_option linter.unusedSimpArgs false
open Go.RowKit Go.Proofs.YtjnookhdiolhgaaW.PrintWords

set_option maxHeartbeats 20000000 in
set_option maxRecDepth 100000 in
theorem implTokens_any (s : ByteArray) (most : Nat) (w : World) (hs : s.size ≤ 100000) (hm : most ≤ 1000) (R : TL) (hR : tkA most [] (bytesOf s) = R) (hw : R ≠ .wide) :
    Calls Try.prog 28 #[.string s, .int .i64 (most : Int)] w fun e w' => TiR R w e w' := by
  have hmf : ∀ (fn : Fn) (first cap : Array Value) (w : World), (Instr.makeFunc fn first cap).run Try.prog w = .ok (.func fn first cap) w := fun _ _ _ _ => rfl
  have hbs := fun w => print_bytes (P := Try.prog) 9 69 5 Try.underlying9 Try.underlying69 Try.underlying5 s w
  have HR := Aside0.mk hR
  have HM := Aside0.mk hm
  have HS0 := Aside0.mk hs
  have HW := Aside0.mk hw
  obtain ⟨cap, hcap, hrs⟩ := TW_reset w s (by omega)
  subst hcap
  have HRS := Aside0.mk hrs
  clear hR hm hs hw hrs
  go_enter_defers Try.func28, Try.ntmps28
  go_wp2_with fail
  refine HRS.out.mono ?_
  rintro e w1 ⟨rfl, hu, hg⟩
  obtain ⟨x0, x1, x2⟩ := TW_boxes w s
  have hz := TW_size w s
  have HUA := Aside0.mk (show UT w w1 _ (bytesOf s) [] (.slice none 0 0) 0 0 0 0 .nilIface 0 from ⟨(TW_below w s).grown hg (TW_below w s).size (by rintro k hk; injection hk with hk; omega), blk_grown x0 hg (by intro he; injection he with he; omega), blk_grown x1 hg (by intro he; injection he with he; omega), hu, Kd.R_nil _ _ _ _ _, Nat.le_trans hz hg.size⟩)
  have HLEN : Aside0 ((bytesOf s).length ≤ 2147483647) := ⟨by rw [bytesOf_length]; have := HS0.out; omega⟩
  clear hu hg x0 x1 x2 HRS hz HS0
  generalize bytesOf s = xs at *
  generalize grownCap (((w.alloc c51o).alloc i0o).alloc u0o) s.size 0 5 = cap at *
  go_wp2_with fail
  go_loopg [] most (fun gk wr => ∃ (acc : List TKN) (A : Option Addr) (cp : Nat) (off : Nat) (t s' lo c : Int), Aside0 (gk = most - acc.length ∧ acc.length ≤ most ∧ tkA (most - acc.length) acc (xs.drop off) = R ∧ off ≤ xs.length) ∧ Aside0 (UT w wr cap xs acc (.slice A acc.length cp) off t s' lo .nilIface c))
  case atStart => exact ⟨[], none, 0, 0, 0, 0, 0, 0, ⟨by simp, Nat.zero_le _, by simpa using HR.out, Nat.zero_le _⟩, ⟨HUA.out⟩⟩
  case round =>
    clear HUA HR
    obtain ⟨acc, A, cp, off, t, s', lo, c, HJ, HV⟩ := hrel
    have q0 : wr.cell? ⟨w.heap.size, 0, none⟩ = some (.slice A acc.length cp) := blk_cell HV.out.b0 0
    have q1 := blk_frozen HV.out.b0 0
    have q2 : wr.cell? ⟨w.heap.size + 1, 0, none⟩ = some (.int .i64 0) := blk_cell HV.out.b1 0
    have q3 := blk_frozen HV.out.b1 0
    by_cases hlt : acc.length < most
    · have hlti : (acc.length : Int) < (most : Int) := by omega
      have HL := Aside0.mk (left_any _ HV.out.un HJ.out.2.2.2)
      by_cases ho : off < xs.length
      · have h0 : decide (((xs.length : Int) - off) > 0) = true := decide_eq_true (by omega)
        have HO := Aside0.mk ho
        go_wp2_with fail
        refine HL.out.mono ?_
        rintro e w2 ⟨rfl, ⟨nd, rfl⟩⟩
        have HV2 := Aside0.mk (HV.out.drewN nd)
        have HN := Aside0.mk (next_ok _ HV2.out.un HO.out)
        clear HL HV q0 q1 q2 q3
        obtain ⟨t1, s1, l1, hm⟩ : ∃ t1 s1 l1, mark (rd xs off) = (t1, s1, l1) := ⟨_, _, _, rfl⟩
        rw [hm] at HN
        have hmk : MK t1 s1 l1 := by obtain ⟨a, b, d, h1, h2, -, -⟩ := mark_all _ (HV2.out.un.rdb HO.out).1 (HV2.out.un.rdb HO.out).2; rw [hm] at h1; injection h1 with e1 e2; injection e2 with e2 e3; subst e1; subst e2; subst e3; exact h2
        have HMK := Aside0.mk hmk
        have hst := HJ.out.2.2.1
        obtain ⟨q, hq⟩ : ∃ q, most - acc.length = q + 1 := ⟨most - acc.length - 1, by omega⟩
        have hdr : xs.drop off = rd xs off :: xs.drop (off + 1) := by
          rw [List.drop_eq_getElem_cons HO.out]
          unfold rd
          rw [Int.toNat_natCast, List.getD_eq_getElem?_getD, List.getElem?_eq_getElem HO.out]
          rfl
        obtain ⟨T, hT⟩ : ∃ T, tksM t1 s1 l1 (xs.drop (off + 1)) = T := ⟨_, rfl⟩
        rw [hq, hdr] at hst
        simp only [tkA, reduceCtorEq, if_false, tks, hm, hT] at hst
        have HST := Aside0.mk hst
        have HQ := Aside0.mk hq
        have HT0 := Aside0.mk hT
        have hnw : T ≠ .wild := fun he => by rw [he] at hst; exact HW.out hst.symm
        have HNW := Aside0.mk hnw
        clear hst hq hdr hT hnw hmk hm
        go_wp2_with fail
        refine HN.out.mono ?_
        rintro e w3 ⟨rfl, hu, hg⟩
        have HV3 := Aside0.mk (HV2.out.next hg hu)
        obtain ⟨c0, c1, c2, c3, c4, c5, c6, c7⟩ := hu.cells
        have hlt3 : w.heap.size + 1 + 1 < w3.heap.size := blk_lt hu.box
        clear hu hg HN HV2
        go_upto_block 2 with (fail)
        refine wp_gen (F := fun wz => ST w wz cap xs acc (.slice A acc.length cp) (off + 1) t1 s1 l1 .nilIface t1 w3.heap.size ⟨t1, false, 0, 0, ⟨#[]⟩, 0, 0⟩) (ST.start HV3.out ⟨t1, false, 0, 0, ⟨#[]⟩, 0, 0⟩) ?_
        intro wz HZ
        obtain ⟨tb, htb⟩ : ∃ tb, w3.heap.size = tb := ⟨_, rfl⟩
        rw [htb] at HZ ⊢
        clear c0 c1 c2 c3 c4 c5 c6 c7 HV3 htb
        have HS := Aside0.mk HZ
        have hoff : off + 1 ≤ xs.length := HO.out
        obtain ⟨c0, c1, c2, c3, c4, c5, c6, c7⟩ := HZ.ut.un.cells
        clear HZ
        go_cut [] from 35 to 78 (fun wc => ∃ (tk : TKN) (off' : Nat) (t s l c : Int) (ev : Value), Aside0 (HT w wc cap xs acc (.slice A acc.length cp) off' t s l ev c tb tk T))
        case first =>
          have hfb := fun (b : Nat) (w : World) => run_bits b w
          have HTT := HT0
          obtain ⟨f0, b0, b1, b2, b3, b4, b5, b6⟩ := HS.out.cells
          rcases MK_cases HMK.out with ⟨rfl, hm⟩ | ⟨rfl, rfl, rfl⟩ | ⟨rfl, hk⟩ | ⟨rfl, rfl, hk⟩ | ⟨rfl, rfl, kk, rfl, hk⟩ | ⟨rfl, hk⟩ | ⟨rfl, hk⟩ | ⟨rfl, rfl, rfl⟩ | ⟨rfl, rfl, rfl⟩ | ⟨rfl, rfl, rfl⟩ | ⟨rfl, rfl, rfl⟩
          · have HC := Aside0.mk (int_tok wz hm HS.out.ut.un hoff)
            clear hm
            go_wp2_with fail
            refine HC.out.mono ?_
            rintro e w2 ⟨n, off', ev', rfl, hu, hg, hq⟩
            have HS2 := Aside0.mk (HS.out.next hg hu)
            clear b0 b1 b2 b3 b4 b5 b6 f0 c0 c1 c2 c3 c4 c5 c6 c7
            obtain ⟨f0, b0, b1, b2, b3, b4, b5, b6⟩ := HS2.out.cells
            have HQ0 := Aside0.mk hq
            clear hu hg hq HC
            go_wp2_with fail
            go_meet
            case rel =>
              exact ⟨⟨1, false, n, 0, ⟨#[]⟩, 0, 0⟩, off', _, _, _, _, ev', ⟨by
                rw [← HT0.out]
                exact HT.of (HS2.out.put 2 (.int .i64 n) ⟨1, false, n, 0, ⟨#[]⟩, 0, 0⟩ rfl) 1 (intM l1 s1 (xs.drop (off + 1))) HQ0.out.bad
                  (fun x r hx => by obtain ⟨h1, h2, h3, h4⟩ := HQ0.out.ok x r hx; subst h1; exact ⟨h4, rfl, h2, h3⟩) (fun a b m r hx => (intM_no_opn hx).elim)⟩⟩
          · have HC := Aside0.mk (float_any wz HS.out.ut.un hoff)
            go_wp2_with fail
            refine HC.out.mono ?_
            rintro e w2 ⟨fb, off', ev', rfl, hu, hg, hq⟩
            have HS2 := Aside0.mk (HS.out.next hg hu)
            clear b0 b1 b2 b3 b4 b5 b6 f0 c0 c1 c2 c3 c4 c5 c6 c7
            obtain ⟨f0, b0, b1, b2, b3, b4, b5, b6⟩ := HS2.out.cells
            have HQ0 := Aside0.mk hq
            clear hu hg hq HC
            go_wp2_with fail
            go_meet
            case rel =>
              exact ⟨⟨2, false, 0, fb, ⟨#[]⟩, 0, 0⟩, off', _, _, _, _, ev', ⟨by
                rw [← HT0.out]
                exact HT.of (HS2.out.put 3 (.int .u64 fb) ⟨2, false, 0, fb, ⟨#[]⟩, 0, 0⟩ rfl) 2 (tkFloat (sizedN 8 (xs.drop (off + 1))))
                  (fun hb => HQ0.out.bad (by cases e : sizedN 8 (xs.drop (off + 1)) with | none => rfl | some p => rw [e] at hb; cases hb))
                  (fun x r hx => by
                    cases e : sizedN 8 (xs.drop (off + 1)) with
                    | none => rw [e] at hx; cases hx
                    | some p =>
                      rw [e] at hx
                      injection hx with h1 h2
                      obtain ⟨h3, h4, h5, h6⟩ := HQ0.out.ok p.1 p.2 e
                      exact ⟨h6, by rw [← h1, h3]; rfl, by rw [← h2]; exact h4, h5⟩)
                  (fun a b m r hx => by cases e : sizedN 8 (xs.drop (off + 1)) <;> rw [e] at hx <;> cases hx)⟩⟩
          · have hnw : tkStr 4 (lenQ l1 s1 (xs.drop (off + 1))) ≠ .wild := fun he => HNW.out (by rw [← HT0.out]; show tkv 3 (tkStr 4 (lenQ l1 s1 (xs.drop (off + 1)))) = .wild; rw [he]; rfl)
            have HC := Aside0.mk (str_tok wz hk HS.out.ut.un hoff hnw)
            clear hk hnw
            go_wp2_with fail
            refine HC.out.mono ?_
            rintro e w2 ⟨str, off', ev', rfl, hu, hg, hq⟩
            have HS2 := Aside0.mk (HS.out.next hg hu)
            clear b0 b1 b2 b3 b4 b5 b6 f0 c0 c1 c2 c3 c4 c5 c6 c7
            obtain ⟨f0, b0, b1, b2, b3, b4, b5, b6⟩ := HS2.out.cells
            have HQ0 := Aside0.mk hq
            clear hu hg hq HC
            go_wp2_with fail
            go_meet
            case rel =>
              exact ⟨⟨3, false, 0, 0, str, 0, 0⟩, off', _, _, _, _, ev', ⟨by
                rw [← HT0.out]
                exact HT.of (HS2.out.put 4 (.string str) ⟨3, false, 0, 0, str, 0, 0⟩ rfl) 3 (tkStr 4 (lenQ l1 s1 (xs.drop (off + 1)))) HQ0.out.bad
                  (fun x r hx => by obtain ⟨h1, h2, h3, h4⟩ := HQ0.out.ok x r hx; exact ⟨h4, by rw [sp_val hx, ← h1]; rfl, h2, h3⟩) (fun a b m r hx => (str_no_opn hx).elim)⟩⟩
          · have HC := Aside0.mk (len_tok wz (.inl ⟨rfl, hk.1, hk.2⟩) HS.out.ut.un hoff)
            clear hk
            go_wp2_with fail
            refine HC.out.mono ?_
            rintro e w2 ⟨n, off', ev', rfl, hu, hg, hq, h0, h1⟩
            obtain ⟨rfl, h3, h4, rfl⟩ := hq.ok s1 _ (lenQ_zero s1 _)
            have hoo : off' = off + 1 := by
              have e1 := congrArg List.length h3
              rw [List.length_drop, List.length_drop] at e1
              omega
            subst hoo
            have HN0 := Aside0.mk (And.intro h0 h1)
            have HS2 := Aside0.mk (HS.out.next hg hu)
            clear b0 b1 b2 b3 b4 b5 b6 f0 c0 c1 c2 c3 c4 c5 c6 c7 hq h3 h4 HC
            obtain ⟨f0, b0, b1, b2, b3, b4, b5, b6⟩ := HS2.out.cells
            have HS3 := Aside0.mk (HS2.out.put 5 (.int .u32 n) ⟨4, false, 0, 0, ⟨#[]⟩, n, 0⟩ rfl)
            by_cases hlt2 : off + 1 < xs.length
            · have HC2 := Aside0.mk (tag_ok _ HS3.out.ut.un hlt2)
              have hby := hu.rdb hlt2
              have htg : tagM n (xs.drop (off + 1)) = .opn 8 (rd xs (off + 1 : Nat)) n.toNat (xs.drop (off + 1 + 1)) := by
                rw [List.drop_eq_getElem_cons hlt2]
                unfold rd
                rw [Int.toNat_natCast, List.getD_eq_getElem?_getD, List.getElem?_eq_getElem hlt2]
                rfl
              obtain ⟨tg, htgg⟩ : ∃ tg, rd xs (off + 1 : Nat) = tg := ⟨_, rfl⟩
              rw [htgg] at HC2 hby htg
              have HTG := Aside0.mk htg
              have HLT2 := Aside0.mk hlt2
              clear hu hg htgg htg hlt2 h0 h1
              go_wp2_with fail
              refine HC2.out.mono ?_
              rintro e w4 ⟨rfl, hu, hg⟩
              have HS4 := Aside0.mk (HS3.out.next hg hu)
              clear b0 b1 b2 b3 b4 b5 b6 f0 hu hg HC2
              obtain ⟨f0, b0, b1, b2, b3, b4, b5, b6⟩ := HS4.out.cells
              go_wp2_with fail
              go_meet
              case rel =>
                exact ⟨⟨4, false, 0, 0, ⟨#[]⟩, n, tg⟩, off + 1 + 1, _, _, _, _, _, ⟨by
                  rw [← HT0.out]
                  exact HT.of (HS4.out.put 6 (.int .i64 tg) ⟨4, false, 0, 0, ⟨#[]⟩, n, tg⟩ rfl) 4 (tagM n (xs.drop (off + 1))) (fun hx => by rw [HTG.out] at hx; cases hx)
                    (fun x r hx => by rw [HTG.out] at hx; cases hx) (fun a b m r hx => by rw [HTG.out] at hx; injection hx with p1 p2 p3 p4; have hn : (m : Int) = n := (by have := HN0.out; omega); exact ⟨rfl, by rw [p2, hn], p4, HLT2.out⟩)⟩⟩
            · have HC2 := Aside0.mk (tag_end _ HS3.out.ut.un (by omega) (by have := hu.len; omega))
              have htg : tagM n (xs.drop (off + 1)) = .bad := by rw [List.drop_of_length_le (by omega)]; rfl
              have HTG := Aside0.mk htg
              clear hu hg htg hlt2 h0 h1
              go_wp2_with fail
              refine HC2.out.mono ?_
              rintro e w4 ⟨rfl, ⟨ev', hu, he⟩, hg⟩
              have HS4 := Aside0.mk (HS3.out.next hg hu)
              have HE := Aside0.mk he
              clear b0 b1 b2 b3 b4 b5 b6 f0 hu hg HC2 he
              obtain ⟨f0, b0, b1, b2, b3, b4, b5, b6⟩ := HS4.out.cells
              go_wp2_with fail
              go_meet
              case rel =>
                exact ⟨⟨4, false, 0, 0, ⟨#[]⟩, n, 0⟩, off + 1, _, _, _, _, ev', ⟨by
                  rw [← HT0.out]
                  exact HT.of (HS4.out.put 6 (.int .i64 0) ⟨4, false, 0, 0, ⟨#[]⟩, n, 0⟩ rfl) 4 (tagM n (xs.drop (off + 1))) (fun _ => HE.out) (fun x r hx => by rw [HTG.out] at hx; cases hx) (fun a b m r hx => by rw [HTG.out] at hx; cases hx)⟩⟩
          · have hlq := lenQ_nat kk hk 0 (xs.drop (off + 1))
            have hnw : tkStr 5 (sizedN kk (xs.drop (off + 1))) ≠ .wild := fun he => HNW.out (by rw [← HT0.out]; show tkv 5 (tkStr 5 (lenQ (kk : Int) 0 (xs.drop (off + 1)))) = .wild; rw [hlq, he]; rfl)
            have HC := Aside0.mk (bytes_any kk hk wz HS.out.ut.un hoff hnw)
            have HLQ := Aside0.mk hlq
            clear hk hnw hlq
            go_wp2_with fail
            refine HC.out.mono ?_
            rintro e w2 ⟨B, m, c', ys, off', ev', rfl, hr, hu, hg, hq⟩
            have hcv := string_of_reads (P := Try.prog) (c := c') Try.underlying69 Try.underlying5 Try.underlying9 hr
            clear hr
            have HS2 := Aside0.mk (HS.out.next hg hu)
            clear b0 b1 b2 b3 b4 b5 b6 f0 c0 c1 c2 c3 c4 c5 c6 c7
            obtain ⟨f0, b0, b1, b2, b3, b4, b5, b6⟩ := HS2.out.cells
            have HQ0 := Aside0.mk hq
            clear hu hg hq HC
            go_wp2_with fail
            go_meet
            case rel =>
              exact ⟨⟨5, false, 0, 0, strOfNums ys, 0, 0⟩, off', _, _, _, _, ev', ⟨by
                rw [← HT0.out]
                show HT w _ cap xs acc _ off' _ _ _ ev' _ tb _ (tkv 5 (tkStr 5 (lenQ (kk : Int) 0 (xs.drop (off + 1)))))
                rw [HLQ.out]
                exact HT.of (HS2.out.put 4 (.string (strOfNums ys)) ⟨5, false, 0, 0, strOfNums ys, 0, 0⟩ rfl) 5 (tkStr 5 (sizedN kk (xs.drop (off + 1)))) HQ0.out.bad
                  (fun x r hx => by obtain ⟨h1, h2, h3, h4⟩ := HQ0.out.ok x r hx; exact ⟨h4, by rw [sp_val hx, ← h1]; rfl, h2, h3⟩) (fun a b m r hx => (str_no_opn hx).elim)⟩⟩
          · have HC := Aside0.mk (len_tok wz hk HS.out.ut.un hoff)
            clear hk
            go_wp2_with fail
            refine HC.out.mono ?_
            rintro e w2 ⟨n, off', ev', rfl, hu, hg, hq, h0, h1⟩
            clear h1
            have HN0 := Aside0.mk h0
            clear h0
            have HS2 := Aside0.mk (HS.out.next hg hu)
            clear b0 b1 b2 b3 b4 b5 b6 f0 c0 c1 c2 c3 c4 c5 c6 c7
            obtain ⟨f0, b0, b1, b2, b3, b4, b5, b6⟩ := HS2.out.cells
            have HQ0 := Aside0.mk hq
            clear hu hg hq HC
            go_wp2_with fail
            go_meet
            case rel =>
              exact ⟨⟨6, false, 0, 0, ⟨#[]⟩, n, 0⟩, off', _, _, _, _, ev', ⟨by
                rw [← HT0.out]
                obtain ⟨o1, o2, o3⟩ := opn_of (kk := 6) HQ0.out HN0.out
                exact HT.of (HS2.out.put 5 (.int .u32 n) ⟨6, false, 0, 0, ⟨#[]⟩, n, 0⟩ rfl) 6 (tkOpn 6 (lenQ l1 s1 (xs.drop (off + 1)))) o1
                  (fun x r hx => (o2 x r hx).elim) (fun a b m r hx => by obtain ⟨p1, p2, p3, p4, p5, p6⟩ := o3 a b m r hx; exact ⟨p1, by rw [p2, p4], p5, p6⟩)⟩⟩
          · have HC := Aside0.mk (len_tok wz hk HS.out.ut.un hoff)
            clear hk
            go_wp2_with fail
            refine HC.out.mono ?_
            rintro e w2 ⟨n, off', ev', rfl, hu, hg, hq, h0, h1⟩
            clear h1
            have HN0 := Aside0.mk h0
            clear h0
            have HS2 := Aside0.mk (HS.out.next hg hu)
            clear b0 b1 b2 b3 b4 b5 b6 f0 c0 c1 c2 c3 c4 c5 c6 c7
            obtain ⟨f0, b0, b1, b2, b3, b4, b5, b6⟩ := HS2.out.cells
            have HQ0 := Aside0.mk hq
            clear hu hg hq HC
            go_wp2_with fail
            go_meet
            case rel =>
              exact ⟨⟨7, false, 0, 0, ⟨#[]⟩, n, 0⟩, off', _, _, _, _, ev', ⟨by
                rw [← HT0.out]
                obtain ⟨o1, o2, o3⟩ := opn_of (kk := 7) HQ0.out HN0.out
                exact HT.of (HS2.out.put 5 (.int .u32 n) ⟨7, false, 0, 0, ⟨#[]⟩, n, 0⟩ rfl) 7 (tkOpn 7 (lenQ l1 s1 (xs.drop (off + 1)))) o1
                  (fun x r hx => (o2 x r hx).elim) (fun a b m r hx => by obtain ⟨p1, p2, p3, p4, p5, p6⟩ := o3 a b m r hx; exact ⟨p1, by rw [p2, p4], p5, p6⟩)⟩⟩
          · go_wp2_with fail
            go_meet
            case rel =>
              exact ⟨⟨8, false, 0, 0, ⟨#[]⟩, 0, 0⟩, off + 1, _, _, _, _, _, ⟨by
                rw [← HT0.out]
                exact HT.of HS.out 8 (.val vN (xs.drop (off + 1))) (fun hx => by cases hx) (fun x r hx => by injection hx with h1 h2; subst h1; exact ⟨rfl, rfl, h2, hoff⟩) (fun a b m r hx => by cases hx)⟩⟩
          · have HC := Aside0.mk (bool_any true wz HS.out.ut.un)
            go_wp2_with fail
            refine HC.out.mono ?_
            rintro e w2 ⟨rfl, rfl⟩
            clear HC
            go_wp2_with fail
            go_meet
            case rel =>
              exact ⟨⟨9, true, 0, 0, ⟨#[]⟩, 0, 0⟩, off + 1, _, _, _, _, _, ⟨by
                rw [← HT0.out]
                exact HT.of (HS.out.put 1 (.bool true) ⟨9, true, 0, 0, ⟨#[]⟩, 0, 0⟩ rfl) 9 (.val (vB true) (xs.drop (off + 1))) (fun hx => by cases hx) (fun x r hx => by injection hx with h1 h2; subst h1; exact ⟨rfl, rfl, h2, hoff⟩) (fun a b m r hx => by cases hx)⟩⟩
          · have HC := Aside0.mk (bool_any false wz HS.out.ut.un)
            go_wp2_with fail
            refine HC.out.mono ?_
            rintro e w2 ⟨rfl, rfl⟩
            clear HC
            go_wp2_with fail
            go_meet
            case rel =>
              exact ⟨⟨10, false, 0, 0, ⟨#[]⟩, 0, 0⟩, off + 1, _, _, _, _, _, ⟨by
                rw [← HT0.out]
                exact HT.of (HS.out.put 1 (.bool false) ⟨10, false, 0, 0, ⟨#[]⟩, 0, 0⟩ rfl) 10 (.val (vB false) (xs.drop (off + 1))) (fun hx => by cases hx) (fun x r hx => by injection hx with h1 h2; subst h1; exact ⟨rfl, rfl, h2, hoff⟩) (fun a b m r hx => by cases hx)⟩⟩
          · go_wp2_with fail
            go_meet
            case rel =>
              exact ⟨⟨0, false, 0, 0, ⟨#[]⟩, 0, 0⟩, off + 1, _, _, _, _, _, ⟨by
                rw [← HT0.out]
                exact ⟨HS.out, (fun hx => by cases hx), (fun t' r hx => by injection hx with h1 h2; exact ⟨rfl, h1.symm, h2, hoff⟩)⟩⟩⟩
        case rest =>
          clear c0 c1 c2 c3 c4 c5 c6 c7 HS hoff
          obtain ⟨tk, off', t', s2, l2, c', ev, HH⟩ := hcut
          obtain ⟨c0, c1, c2, c3, c4, c5, c6, c7⟩ := HH.out.st.ut.un.cells
          have q0 : wc.cell? ⟨w.heap.size, 0, none⟩ = some (.slice A acc.length cp) := blk_cell HH.out.st.ut.b0 0
          have q1 := blk_frozen HH.out.st.ut.b0 0
          have q2 : wc.cell? ⟨w.heap.size + 1, 0, none⟩ = some (.int .i64 0) := blk_cell HH.out.st.ut.b1 0
          have q3 := blk_frozen HH.out.st.ut.b1 0
          cases T with
          | wild => exact (HNW.out rfl).elim
          | bad =>
            have hRR : R = .cut acc := HST.out.symm
            subst hRR
            obtain ⟨ET, EU, rfl⟩ := HH.out.bad rfl
            have HE := Aside0.mk (HH.out.st.ut.end_ 1)
            go_wp2_with fail
            refine leaves_cons (f := 59) (args := #[.pointer (some ⟨w.heap.size, 0, none⟩), .pointer (some ⟨w.heap.size + 1, 0, none⟩)]) (by simp) (by simp [go_sem]) ?_
            refine (idle59 _ _ _).mono ?_
            rintro e u' w'' ⟨rfl, rfl, rfl⟩
            exact ⟨_, res28 _ _ w.heap.size (w.heap.size + 1) (.slice A acc.length cp) 1 rfl rfl HE.out.1 HE.out.2.1 ⟨_, _, _, rfl⟩, HE.out.2.2.1, _, rfl, HE.out.2.2.2⟩
          | ok tk' r =>
            obtain ⟨rfl, rfl, hdr, hoo⟩ := HH.out.ok tk' r rfl
            have hst := HST.out
            simp only at hst
            have hbig : ¬ 1000 < tk'.n := fun hb => by rw [if_pos hb] at hst; exact HW.out hst.symm
            rw [if_neg hbig, ← hdr] at hst
            have HST2 := Aside0.mk (And.intro hst hoo)
            clear hst hdr hoo hbig HST
            obtain ⟨f0, b0, b1, b2, b3, b4, b5, b6⟩ := HH.out.st.cells
            have HTT := Aside0.mk (show ktk.M wc (w.heap.size + 4) (fun _ => False) tk' (B57 tk').toList from rfl)
            have hlen : (acc.length + 1) * 64 ≤ 140737488355328 := by have := HM.out; omega
            go_wp2_with (at_builtin; refine Kd.R_append (w0 := wc) (W := wc) ktk (w.heap.size + 4) rfl (.tmp 84) (.tmp 86) 51 56 _ 64 rfl Try.underlying51 info56 rfl (by show 0 < 7; decide) (by decide) (.slice A acc.length cp) acc tk' (B57 tk').toList (fun q => w.heap.size + 4 ≤ q) (fun _ => False) (by simp [Act.eval]) (by simp [Act.eval]) HTT.out (fun _ h => h.elim) (fun q hq => Nat.le_trans HH.out.st.ut.size hq) HH.out.st.ut.row (Below.refl _ _) HH.out.st.ut.size hlen ?_; intro v1 w3 hr1 hb1 hg1 hat1; obtain ⟨A3, n3, c3', rfl⟩ : ∃ A3 n3 c3, v1 = .slice A3 n3 c3 := (by obtain ⟨A, c, h⟩ := Kd.R_slice hr1; exact ⟨A, _, c, h⟩); have hbb := blk_grown HH.out.st.ut.b0 hg1 (fun he => by have := Kd.R_base HH.out.st.ut.row _ he.symm; omega); have y0 := blk_cell hbb 0; have y1 := blk_frozen hbb 0; have hn3 : n3 = (acc ++ [tk']).length := (by obtain ⟨A, c, h⟩ := Kd.R_slice hr1; injection h); have HR3 := Aside0.mk (And.intro hr1 (And.intro hg1 hn3)); clear hr1 hb1 hg1 hat1 hbb hn3)
            go_roundg (most - (acc.length + 1))
            case measure => have := HJ.out.1; omega
            case rel =>
              obtain ⟨hr1, hg1, rfl⟩ := HR3.out
              refine ⟨acc ++ [tk'], A3, c3', off', _, _, _, _, ⟨by simp, by simp; omega, ?_, HST2.out.2⟩, ⟨HH.out.st.ut.more hr1 hg1⟩⟩
              rw [List.length_append, List.length_singleton, show most - (acc.length + 1) = q by have := HQ.out; omega]
              exact HST2.out.1
      · have h0 : (xs.length : Int) - off = 0 := by have := HJ.out.2.2.2; omega
        rw [h0] at HL
        clear h0
        have hRR : R = .ok acc := by
          have := HJ.out.2.2.1
          rw [List.drop_of_length_le (by omega)] at this
          rw [← this]
          cases most - acc.length <;> rfl
        subst hRR
        clear ho
        go_wp2_with fail
        refine HL.out.mono ?_
        rintro e w2 ⟨rfl, ⟨nd, rfl⟩⟩
        have HV2 := Aside0.mk (HV.out.drewN nd)
        clear HL HV q0 q1 q2 q3
        have q0 : (wr.drewN nd).cell? ⟨w.heap.size, 0, none⟩ = some (.slice A acc.length cp) := blk_cell HV2.out.b0 0
        have q1 := blk_frozen HV2.out.b0 0
        have q2 : (wr.drewN nd).cell? ⟨w.heap.size + 1, 0, none⟩ = some (.int .i64 0) := blk_cell HV2.out.b1 0
        have q3 := blk_frozen HV2.out.b1 0
        have HE := Aside0.mk (HV2.out.end_ 0)
        go_wp2_with fail
        refine leaves_cons (f := 59) (args := #[.pointer (some ⟨w.heap.size, 0, none⟩), .pointer (some ⟨w.heap.size + 1, 0, none⟩)]) (by simp) (by simp [go_sem]) ?_
        refine (idle59 _ _ _).mono ?_
        rintro e u' w'' ⟨rfl, rfl, rfl⟩
        exact ⟨_, res28 _ _ w.heap.size (w.heap.size + 1) (.slice A acc.length cp) 0 rfl rfl HE.out.1 HE.out.2.1 ⟨_, _, _, rfl⟩, HE.out.2.2.1, _, rfl, HE.out.2.2.2⟩
    · have hlti : ¬ (acc.length : Int) < (most : Int) := by omega
      have hRR : R = .ok acc := by
        have := HJ.out.2.2.1
        rw [show most - acc.length = 0 by omega] at this
        rw [← this]
        rfl
      subst hRR
      have HE := Aside0.mk (HV.out.end_ 0)
      go_wp2_with fail
      refine leaves_cons (f := 59) (args := #[.pointer (some ⟨w.heap.size, 0, none⟩), .pointer (some ⟨w.heap.size + 1, 0, none⟩)]) (by simp) (by simp [go_sem]) ?_
      refine (idle59 _ _ _).mono ?_
      rintro e u' w'' ⟨rfl, rfl, rfl⟩
      exact ⟨_, res28 _ _ w.heap.size (w.heap.size + 1) (.slice A acc.length cp) 0 rfl rfl HE.out.1 HE.out.2.1 ⟨_, _, _, rfl⟩, HE.out.2.2.1, _, rfl, HE.out.2.2.2⟩
end Go.Proofs.Ytjnookhdiolhgaa

namespace Go.Proofs.Ytjnookhdiolhgaa
set_option linter.unusedVariables false
set_option linter.unusedSimpArgs false
open Go.RowKit Go.Proofs.YtjnookhdiolhgaaW.PrintWords

/-- It returns. -/
def ShR (w : World) (e : Ending) (w' : World) : Prop := ∃ b : Bool, e = .returned (.bool b) ∧ w' = w
set_option maxHeartbeats 8000000 in
set_option maxRecDepth 100000 in
theorem short_any (s : ByteArray) (w : World) (hs : s.size ≤ 2000) :
    Calls Try.prog 26 #[.string s] w fun e w' => ShR w e w' := by
  go_enter Try.func26, Try.ntmps26
  go_wp2_with fail
  go_loopg [6] s.size (fun gk v6 wr => ∃ (j : Nat), v6 = .int .i64 j ∧ Aside0 (j ≤ s.size ∧ gk = s.size - j) ∧ wr = w)
  case atStart => exact ⟨0, rfl, ⟨by omega⟩, rfl⟩
  case round =>
    obtain ⟨j, rfl, HJ, rfl⟩ := hrel
    by_cases hj : j < s.size
    · obtain ⟨bb, hbb⟩ : ∃ bb : Int, ((s[j].toNat : Nat) : Int) = bb := ⟨_, rfl⟩
      have hc : (bb = 206 ∨ bb = 210 ∨ bb = 214 ∨ bb = 218) ∨ (bb ≠ 206 ∧ bb ≠ 210 ∧ bb ≠ 214 ∧ bb ≠ 218) := by omega
      rcases hc with hc | ⟨h1, h2, h3, h4⟩
      · by_cases g1 : j + 2 < s.size
        · by_cases g2 : j + 4 < s.size
          · obtain ⟨b1, hb1⟩ : ∃ bb : Int, ((s[j + 1].toNat : Nat) : Int) = bb := ⟨_, rfl⟩
            obtain ⟨b2, hb2⟩ : ∃ bb : Int, ((s[j + 2].toNat : Nat) : Int) = bb := ⟨_, rfl⟩
            obtain ⟨b3, hb3⟩ : ∃ bb : Int, ((s[j + 3].toNat : Nat) : Int) = bb := ⟨_, rfl⟩
            obtain ⟨b4, hb4⟩ : ∃ bb : Int, ((s[j + 4].toNat : Nat) : Int) = bb := ⟨_, rfl⟩
            rcases hc with rfl | rfl | rfl | rfl
            all_goals
              go_wp2_with fail
              all_goals first
                | (go_roundg (s.size - (j + 1)); (case measure => have := HJ.out.2; omega); (case rel => exact ⟨j + 1, by go_num, ⟨by omega⟩, rfl⟩))
                | (go_ret; exact ⟨_, rfl, rfl⟩)
          · obtain ⟨b1, hb1⟩ : ∃ bb : Int, ((s[j + 1].toNat : Nat) : Int) = bb := ⟨_, rfl⟩
            obtain ⟨b2, hb2⟩ : ∃ bb : Int, ((s[j + 2].toNat : Nat) : Int) = bb := ⟨_, rfl⟩
            rcases hc with rfl | rfl | rfl | rfl
            all_goals
              go_wp2_with fail
              all_goals first
                | (go_roundg (s.size - (j + 1)); (case measure => have := HJ.out.2; omega); (case rel => exact ⟨j + 1, by go_num, ⟨by omega⟩, rfl⟩))
                | (go_ret; exact ⟨_, rfl, rfl⟩)
        · rcases hc with rfl | rfl | rfl | rfl
          all_goals
            go_wp2_with fail
            all_goals first
              | (go_roundg (s.size - (j + 1)); (case measure => have := HJ.out.2; omega); (case rel => exact ⟨j + 1, by go_num, ⟨by omega⟩, rfl⟩))
              | (go_ret; exact ⟨_, rfl, rfl⟩)
      · go_wp2_with fail
        go_roundg (s.size - (j + 1))
        case measure => have := HJ.out.2; omega
        case rel => exact ⟨j + 1, by go_num, ⟨by omega⟩, rfl⟩
    · go_wp2_with fail
      go_ret
      exact ⟨_, rfl, rfl⟩
end Go.Proofs.Ytjnookhdiolhgaa
