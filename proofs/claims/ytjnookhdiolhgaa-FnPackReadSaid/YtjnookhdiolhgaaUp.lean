/- impl.unpack: the value that comes next. impl.unpack's loop: what it holds. impl.unpack: the whole. impl.unpack, whole. impl.Unpack, impl.UnpackAll. -/
import Derived.Test.YtjnookhdiolhgaaRd
import Derived.Test.YtjnookhdiolhgaaRd
import Derived.Test.YtjnookhdiolhgaaPack
import Derived.Deep.DeepCutAuto
import Derived.Deep.CutBlock
import Derived.Deep.LoopGhost
import Derived.Laws.Rows
import Derived.Defers
import Derived.Recover
import Derived.RegionTactic
import Derived.ChangeAlike
namespace Go.Proofs.Ytjnookhdiolhgaa
set_option linter.unusedVariables false
set_option linter.unusedSimpArgs false
open Go.RowKit Go.Proofs.YtjnookhdiolhgaaW.PrintWords
open Go.Proofs.YtjnookhdiolhgaaW.PrintLast (goes_)
open PAll (S26 k26)

section
variable {ub : Nat} {A : Option Addr} {cap : Nat} {xs : List Int} {off : Nat} {t s l c : Int} {ev : Value}

/-- What Int leaves. -/
structure IP (tk : Tk) (xs : List Int) (n : Int) (off' : Nat) (ev' : Value) : Prop where
  ok : ∀ x r, tk = .val x r → x = vI n ∧ xs.drop off' = r ∧ off' ≤ xs.length ∧ ev' = .nilIface
  bad : tk = .bad → IsErr ev'
theorem intM_ok {l s : Int} {r : List Int} (h : MK 1 s l) : (l = 0 ∧ intM l s r = .val (vI s) r) ∨ ∃ (k : Nat) (g : IntKind), l = k ∧ ((k = 1 ∧ g = .i8) ∨ (k = 2 ∧ g = .i16) ∨ (k = 4 ∧ g = .i32) ∨ (k = 8 ∧ g = .i64)) ∧ intM l s r = tkInt g (sizedN k r) := by
  cases h with
  | int0 _ h0 h1 => exact .inl ⟨rfl, rfl⟩
  | int k g hk =>
    refine .inr ⟨k, g, rfl, hk, ?_⟩
    rcases hk with ⟨rfl, rfl⟩ | ⟨rfl, rfl⟩ | ⟨rfl, rfl⟩ | ⟨rfl, rfl⟩ <;> rfl
theorem int_tok (w : World) (hm : MK 1 s l) (h : UB w ub A cap xs off t s l .nilIface c) (h2 : off ≤ xs.length) :
    Calls Try.prog 64 #[.pointer (some ⟨ub, 0, none⟩)] w fun e w' => ∃ n off' ev', e = .returned (.int .i64 n) ∧ UB w' ub A cap xs off' t s l ev' c ∧ w.grownBy w' (some ub) ∧ IP (intM l s (xs.drop off)) xs n off' ev' := by
  rcases intM_ok (r := xs.drop off) hm with ⟨rfl, hi⟩ | ⟨k, g, rfl, hk, hi⟩
  · rw [hi]
    have hs : -128 ≤ s ∧ s ≤ 127 := by
      cases hm with
      | int0 _ h0 h1 => exact ⟨h0, h1⟩
      | int k g hk => omega
    exact (int_zero w h hs.1 hs.2).mono fun e w' ⟨he, hw⟩ => ⟨s, off, .nilIface, he, hw ▸ h, hw ▸ World.grownBy.refl w _, ⟨fun x r hx => by injection hx with h1 h3; exact ⟨h1.symm, h3, h2, rfl⟩, fun hb => by cases hb⟩⟩
  · rw [hi]
    refine (int_any k g hk w h h2).mono fun e w' ⟨n, off', ev', he, hu, hg, hq⟩ => ⟨n, off', ev', he, hu, hg, ?_⟩
    cases e : sizedN k (xs.drop off) with
    | none =>
      have := hq.bad (by unfold intQ; rw [e]; rfl)
      exact ⟨fun x r hx => (by cases hx), fun _ => this.2.2⟩
    | some p =>
      obtain ⟨h3, h4, h5, h6⟩ := hq.ok (g.wrap p.1) p.2 (by unfold intQ; rw [e]; rfl)
      exact ⟨fun x r hx => (by injection hx with h7 h8; exact ⟨by rw [← h7, h3], by rw [← h8]; exact h4, h5, h6⟩), fun hb => (by cases hb)⟩

theorem lenQ_zero (s : Int) (r : List Int) : lenQ 0 s r = some (s, r) := rfl
theorem lenQ_nat (k : Nat) (hk : k = 1 ∨ k = 2 ∨ k = 4) (s : Int) (r : List Int) : lenQ k s r = sizedN k r := by
  rcases hk with rfl | rfl | rfl <;> rfl
/-- A length in the marker, or behind it. -/
def LK (s l : Int) : Prop := (l = 0 ∧ 0 ≤ s ∧ s ≤ 15) ∨ ∃ k : Nat, l = k ∧ (k = 1 ∨ k = 2 ∨ k = 4)
theorem qp_zero (s : Int) (r : List Int) (hr : xs.drop off = r) (h2 : off ≤ xs.length) {ev : Value} : QP (some (s, r)) xs off s off ev ev :=
  ⟨fun m r' hq => by injection hq with hq; simp only [Prod.mk.injEq] at hq; exact ⟨hq.1, by rw [← hq.2]; exact hr, h2, rfl⟩, fun hq => by cases hq⟩
theorem len_tok (w : World) (hk : LK s l) (h : UB w ub A cap xs off t s l .nilIface c) (h2 : off ≤ xs.length) :
    Calls Try.prog 69 #[.pointer (some ⟨ub, 0, none⟩)] w fun e w' => ∃ n off' ev', e = .returned (.int .u32 n) ∧ UB w' ub A cap xs off' t s l ev' c ∧ w.grownBy w' (some ub) ∧ QP (lenQ l s (xs.drop off)) xs off n off' .nilIface ev' ∧ 0 ≤ n ∧ n ≤ 4294967295 := by
  rcases hk with ⟨rfl, h0, h1⟩ | ⟨k, rfl, hk⟩
  · exact (len_zero w h h0 (by omega)).mono fun e w' ⟨he, hw⟩ => ⟨s, off, .nilIface, he, hw ▸ h, hw ▸ World.grownBy.refl w _, qp_zero s _ rfl h2, h0, by omega⟩
  · rw [lenQ_nat k hk]
    refine (len_any k hk w h h2).mono fun e w' ⟨n, off', ev', he, hu, hg, hq⟩ => ⟨n, off', ev', he, hu, hg, hq, qp_nonneg h.byte hq, ?_⟩
    cases e : sizedN k (xs.drop off) with
    | none => have := (hq.bad e).1; omega
    | some p =>
      have h3 := (hq.ok p.1 p.2 e).1
      unfold sizedN at e
      split at e
      · cases e
      · injection e with e
        have hr := (be_range ((xs.drop off).take k) (fun x hx => h.byte x (List.mem_of_mem_drop (List.mem_of_mem_take hx)))).2
        rw [← e] at h3
        simp only at h3
        rw [h3]
        have hl : ((xs.drop off).take k).length ≤ 4 := by rw [List.length_take]; omega
        have hp : (256 : Int) ^ ((xs.drop off).take k).length ≤ 4294967296 := by
          generalize ((xs.drop off).take k).length = m at hl
          match m, hl with
          | 0, _ | 1, _ | 2, _ | 3, _ | 4, _ => decide
        omega
theorem str_tok (w : World) (hk : LK s l) (h : UB w ub A cap xs off t s l .nilIface c) (h2 : off ≤ xs.length) (hw : tkStr 4 (lenQ l s (xs.drop off)) ≠ .wild) :
    Calls Try.prog 67 #[.pointer (some ⟨ub, 0, none⟩)] w fun e w' => ∃ str off' ev', e = .returned (.string str) ∧ UB w' ub A cap xs off' t s l ev' c ∧ w.grownBy w' (some ub) ∧ SP (tkStr 4 (lenQ l s (xs.drop off))) xs str off' ev' := by
  rcases hk with ⟨rfl, h0, h1⟩ | ⟨k, rfl, hk⟩
  · exact str_zero w h h2 h0 (by omega)
  · rw [lenQ_nat k hk] at hw ⊢
    exact str_any k hk w h h2 hw

/-- What unpack's head leaves in the variables. -/
structure HeadP (w wc : World) (ub : Nat) (A : Option Addr) (cap : Nat) (xs : List Int) (tk : Tk) (n k : Int) (b : Bool) (i g : Int) (str : ByteArray) (off' : Nat) (t s l c : Int) (ev' : Value) : Prop where
  box : wc.heap[w.heap.size]? = some (.cells #[.int .i64 k, .bool b, .int .i64 i, .int .u64 g, .string str, .slice none 0 0, .slice none 0 0] 26 (0, 0))
  un : UB wc ub A cap xs off' t s l ev' c
  gr : w.grownBy wc (some ub)
  n0 : 0 ≤ n
  n1 : n ≤ 4294967295
  bad : tk = .bad → IsErr ev'
  val : ∀ x r, tk = .val x r → ev' = .nilIface ∧ n = 0 ∧ x = ⟨k, b, i, g, str, [], []⟩ ∧ xs.drop off' = r ∧ off' ≤ xs.length
  opn : ∀ kk tag m r, tk = .opn kk tag m r → ev' = .nilIface ∧ n = m ∧ k = kk ∧ b = false ∧ i = tag ∧ g = 0 ∧ str = ⟨#[]⟩ ∧ xs.drop off' = r ∧ off' ≤ xs.length

/-- What unpack answers. -/
def UnpR (w : World) (ub : Nat) (A : Option Addr) (cap : Nat) (xs : List Int) (p : PR) (e : Ending) (w' : World) : Prop :=
  w.grownBy w' (some ub) ∧ match p with
  | .wild => False
  | .bad c => e = .returned (.tuple #[.agg #[.int .i64 0, .bool false, .int .i64 0, .int .u64 0, .string ⟨#[]⟩, .slice none 0 0, .slice none 0 0], .int .i64 c])
  | .ok x r => ∃ v5 v6 off' t s l c, e = .returned (.tuple #[.agg #[.int .i64 x.f0, .bool x.f1, .int .i64 x.f2, .int .u64 x.f3, .string x.f4, v5, v6], .int .i64 0]) ∧
      Kd.string.R 9 w' w.heap.size (fun k => w.heap.size ≤ k) v5 x.f5 ∧ k26.R 26 w' w.heap.size (fun k => w.heap.size ≤ k) v6 x.f6 ∧ UB w' ub A cap xs off' t s l .nilIface c ∧ xs.drop off' = r ∧ off' ≤ xs.length

def UnpSaid (f : Nat) : Prop :=
  ∀ (ub : Nat) (A : Option Addr) (cap : Nat) (xs : List Int) (deep : Int) (off : Nat) (t s l c : Int) (w : World), 0 ≤ deep → deep ≤ 1001 → UB w ub A cap xs off t s l .nilIface c → off ≤ xs.length → (∀ ad, A = some ad → ad.block < w.heap.size) →
    parse f deep (xs.drop off) ≠ .wild →
    Calls Try.prog 72 #[.pointer (some ⟨ub, 0, none⟩), .int .i64 deep] w fun e w' => UnpR w ub A cap xs (parse f deep (xs.drop off)) e w'

/-- The zero value in the box. -/
theorem zero_box {w : World} {g : Nat} {k : Int} {b : Bool} {i f : Int} {str : ByteArray} {v5 v6 : Value} (h : w.heap[g]? = some (.cells #[.int .i64 k, .bool b, .int .i64 i, .int .u64 f, .string str, v5, v6] 26 (0, 0))) :
    (((((((w.setCell ⟨g, 0, none⟩ (.int .i64 0)).setCell ⟨g, 1, none⟩ (.bool false)).setCell ⟨g, 2, none⟩ (.int .i64 0)).setCell ⟨g, 3, none⟩ (.int .u64 0)).setCell ⟨g, 4, none⟩ (.string ⟨#[]⟩)).setCell ⟨g, 5, none⟩ (.slice none 0 0)).setCell ⟨g, 6, none⟩ (.slice none 0 0)).heap[g]? =
      some (.cells #[.int .i64 0, .bool false, .int .i64 0, .int .u64 0, .string ⟨#[]⟩, .slice none 0 0, .slice none 0 0] 26 (0, 0)) :=
  blk_put (blk_put (blk_put (blk_put (blk_put (blk_put (blk_put (cs' := #[.int .i64 0, .bool b, .int .i64 i, .int .u64 f, .string str, v5, v6]) h 0 _ rfl) (cs' := #[.int .i64 0, .bool false, .int .i64 i, .int .u64 f, .string str, v5, v6]) 1 _ rfl) (cs' := #[.int .i64 0, .bool false, .int .i64 0, .int .u64 f, .string str, v5, v6]) 2 _ rfl)
    (cs' := #[.int .i64 0, .bool false, .int .i64 0, .int .u64 0, .string str, v5, v6]) 3 _ rfl) (cs' := #[.int .i64 0, .bool false, .int .i64 0, .int .u64 0, .string ⟨#[]⟩, v5, v6]) 4 _ rfl) (cs' := #[.int .i64 0, .bool false, .int .i64 0, .int .u64 0, .string ⟨#[]⟩, .slice none 0 0, v6]) 5 _ rfl) 6 _ rfl
theorem grown_new7 {w w1 : World} {row : Option Nat} (h : w.grownBy w1 row) (a b c d e f g : Value) :
    w.grownBy (((((((w1.setCell ⟨w.heap.size, 0, none⟩ a).setCell ⟨w.heap.size, 1, none⟩ b).setCell ⟨w.heap.size, 2, none⟩ c).setCell ⟨w.heap.size, 3, none⟩ d).setCell ⟨w.heap.size, 4, none⟩ e).setCell ⟨w.heap.size, 5, none⟩ f).setCell ⟨w.heap.size, 6, none⟩ g) row := by
  have hs : ∀ (W : World) (j : Nat) (u : Value), w.grownBy W row → w.grownBy (W.setCell ⟨w.heap.size, j, none⟩ u) row := fun W j u hW =>
    ⟨hW.os, hW.tape, hW.output, by simpa [World.setCell] using hW.size, fun i hi hne => (Below.heap_setCell W _ u i (by show i ≠ w.heap.size; omega)).trans (hW.block i hi hne)⟩
  exact hs _ _ _ (hs _ _ _ (hs _ _ _ (hs _ _ _ (hs _ _ _ (hs _ _ _ (hs _ _ _ h))))))

set_option maxHeartbeats 2000000 in
set_option maxRecDepth 100000 in
theorem unp_deep (w : World) (deep : Int) (hd : 1000 < deep) (hlt : ub < w.heap.size) :
    Calls Try.prog 72 #[.pointer (some ⟨ub, 0, none⟩), .int .i64 deep] w fun e w' => UnpR w ub A cap xs (.bad 3) e w' := by
  go_enter Try.func72, Try.ntmps72
  go_wp2_with fail
  refine bodyPost_ret (results_ct rfl _ _ w.heap.size 26 #[.int .i64 0, .bool false, .int .i64 0, .int .u64 0, .string ⟨#[]⟩, .slice none 0 0, .slice none 0 0] (0, 0) _ rfl (heap_alloc_new w _) Try.underlying26 rfl (by kernel_rfl)) rfl ?_
  exact ⟨World.grownBy_alloc w _ _, rfl⟩

set_option maxHeartbeats 2000000 in
set_option maxRecDepth 100000 in
theorem unp_end (w : World) (deep : Int) (hd : deep ≤ 1000) (h : UB w ub A cap xs off t s l .nilIface c) (ho : xs.length ≤ off) (h2 : off ≤ 2147483647) :
    Calls Try.prog 72 #[.pointer (some ⟨ub, 0, none⟩), .int .i64 deep] w fun e w' => UnpR w ub A cap xs (.bad 1) e w' := by
  have hlt := h.lt
  have HN := Lib.hid (next_end _ (h.alloc (.cells #[.int .i64 0, .bool false, .int .i64 0, .int .u64 0, .string ⟨#[]⟩, .slice none 0 0, .slice none 0 0] 26)) ho h2)
  clear h
  go_enter Try.func72, Try.ntmps72
  go_wp2_with fail
  refine HN.out.mono ?_
  rintro e w1 ⟨rfl, ⟨ev', hu, ⟨T, u, rfl⟩⟩, hg⟩
  obtain ⟨c0, c1, c2, c3, c4, c5, c6, c7⟩ := hu.cells
  have hbx := blk_grown (heap_alloc_new w _) hg (by intro he; injection he with he; omega)
  obtain ⟨b0, b1, b2, b3, b4, b5, b6⟩ := box7 hbx
  have f0 := blk_frozen hbx 0
  have f1 := blk_frozen hbx 1
  have f2 := blk_frozen hbx 2
  have f3 := blk_frozen hbx 3
  have f4 := blk_frozen hbx 4
  have f5 := blk_frozen hbx 5
  have f6 := blk_frozen hbx 6
  have HBX := Lib.hid hbx
  have HG := Lib.hid (grown_trans' (World.grownBy_alloc w _ _) hg)
  clear hu hg hbx c0 c1 c2 c3 c4 c5 c7
  go_wp2_with fail
  refine bodyPost_ret (results_ct rfl _ _ w.heap.size 26 #[.int .i64 0, .bool false, .int .i64 0, .int .u64 0, .string ⟨#[]⟩, .slice none 0 0, .slice none 0 0] (0, 0) _ rfl (zero_box HBX.out) Try.underlying26 rfl (by kernel_rfl)) rfl ?_
  exact ⟨grown_new7 HG.out _ _ _ _ _ _ _, rfl⟩

/-- The boxes' cells and that they may be written. -/
structure Box7 (w : World) (g : Nat) (a b c d e f k : Value) : Prop where
  c0 : w.cell? ⟨g, 0, none⟩ = some a
  c1 : w.cell? ⟨g, 1, none⟩ = some b
  c2 : w.cell? ⟨g, 2, none⟩ = some c
  c3 : w.cell? ⟨g, 3, none⟩ = some d
  c4 : w.cell? ⟨g, 4, none⟩ = some e
  c5 : w.cell? ⟨g, 5, none⟩ = some f
  c6 : w.cell? ⟨g, 6, none⟩ = some k
  f0 : w.frozen? ⟨g, 0, none⟩ = false
  f1 : w.frozen? ⟨g, 1, none⟩ = false
  f2 : w.frozen? ⟨g, 2, none⟩ = false
  f3 : w.frozen? ⟨g, 3, none⟩ = false
  f4 : w.frozen? ⟨g, 4, none⟩ = false
  f5 : w.frozen? ⟨g, 5, none⟩ = false
  f6 : w.frozen? ⟨g, 6, none⟩ = false
theorem box7f {w : World} {g : Nat} {t : TypeId} {a b c d e f k : Value} (h : w.heap[g]? = some (.cells #[a, b, c, d, e, f, k] t (0, 0))) : Box7 w g a b c d e f k := by
  obtain ⟨c0, c1, c2, c3, c4, c5, c6⟩ := box7 h
  exact ⟨c0, c1, c2, c3, c4, c5, c6, blk_frozen h 0, blk_frozen h 1, blk_frozen h 2, blk_frozen h 3, blk_frozen h 4, blk_frozen h 5, blk_frozen h 6⟩
/-- A value stored whole into the box. -/
theorem fill_box {w : World} {g : Nat} {a b c d e f h : Value} {a' b' c' d' e' f' h' : Value} (hb : w.heap[g]? = some (.cells #[a, b, c, d, e, f, h] 26 (0, 0))) :
    (((((((w.setCell ⟨g, 0, none⟩ a').setCell ⟨g, 1, none⟩ b').setCell ⟨g, 2, none⟩ c').setCell ⟨g, 3, none⟩ d').setCell ⟨g, 4, none⟩ e').setCell ⟨g, 5, none⟩ f').setCell ⟨g, 6, none⟩ h').heap[g]? =
      some (.cells #[a', b', c', d', e', f', h'] 26 (0, 0)) :=
  blk_put (blk_put (blk_put (blk_put (blk_put (blk_put (blk_put (cs' := #[a', b, c, d, e, f, h]) hb 0 _ rfl) (cs' := #[a', b', c, d, e, f, h]) 1 _ rfl) (cs' := #[a', b', c', d, e, f, h]) 2 _ rfl)
    (cs' := #[a', b', c', d', e, f, h]) 3 _ rfl) (cs' := #[a', b', c', d', e', f, h]) 4 _ rfl) (cs' := #[a', b', c', d', e', f', h]) 5 _ rfl) 6 _ rfl
theorem UB.far7 {w : World} (hu : UB w ub A cap xs off t s l ev c) {g : Nat} (hg : g ≠ ub) (hA : ∀ ad, A = some ad → ad.block ≠ g) (a b c' d e f k : Value) :
    UB (((((((w.setCell ⟨g, 0, none⟩ a).setCell ⟨g, 1, none⟩ b).setCell ⟨g, 2, none⟩ c').setCell ⟨g, 3, none⟩ d).setCell ⟨g, 4, none⟩ e).setCell ⟨g, 5, none⟩ f).setCell ⟨g, 6, none⟩ k) ub A cap xs off t s l ev c := by
  have hs : ∀ (W : World) (j : Nat) (u : Value), UB W ub A cap xs off t s l ev c → UB (W.setCell ⟨g, j, none⟩ u) ub A cap xs off t s l ev c := fun W j u hW =>
    hW.grown (row := some g) (grown_set (World.grownBy.refl W _) j u) (by intro he; injection he with he; exact hg he.symm) (fun ad ha he => by injection he with he; exact hA ad ha he)
  exact hs _ _ _ (hs _ _ _ (hs _ _ _ (hs _ _ _ (hs _ _ _ (hs _ _ _ (hs _ _ _ hu))))))


theorem MK_cases {t s l : Int} (h : MK t s l) : (t = 1 ∧ MK 1 s l) ∨ (t = 2 ∧ s = 0 ∧ l = 8) ∨ (t = 3 ∧ LK s l) ∨ (t = 4 ∧ l = 0 ∧ 0 ≤ s ∧ s ≤ 15) ∨ (t = 5 ∧ s = 0 ∧ ∃ k : Nat, l = k ∧ (k = 1 ∨ k = 2 ∨ k = 4)) ∨ (t = 6 ∧ LK s l) ∨ (t = 7 ∧ LK s l) ∨
    (t = 8 ∧ s = 0 ∧ l = 0) ∨ (t = 9 ∧ s = 0 ∧ l = 0) ∨ (t = 10 ∧ s = 0 ∧ l = 0) ∨ (t = 0 ∧ s = 0 ∧ l = 0) := by
  cases h with
  | int0 _ a b => exact .inl ⟨rfl, .int0 _ a b⟩
  | int k g hk => exact .inl ⟨rfl, .int k g hk⟩
  | float => exact .inr (.inl ⟨rfl, rfl, rfl⟩)
  | str0 _ a b => exact .inr (.inr (.inl ⟨rfl, .inl ⟨rfl, a, b⟩⟩))
  | str k hk => exact .inr (.inr (.inl ⟨rfl, .inr ⟨k, rfl, hk⟩⟩))
  | tag _ a b => exact .inr (.inr (.inr (.inl ⟨rfl, rfl, a, b⟩)))
  | bytes k hk => exact .inr (.inr (.inr (.inr (.inl ⟨rfl, rfl, k, rfl, hk⟩))))
  | list0 _ a b => exact .inr (.inr (.inr (.inr (.inr (.inl ⟨rfl, .inl ⟨rfl, a, b⟩⟩)))))
  | list k hk => exact .inr (.inr (.inr (.inr (.inr (.inl ⟨rfl, .inr ⟨k, rfl, hk⟩⟩)))))
  | map0 _ a b => exact .inr (.inr (.inr (.inr (.inr (.inr (.inl ⟨rfl, .inl ⟨rfl, a, b⟩⟩))))))
  | map k hk => exact .inr (.inr (.inr (.inr (.inr (.inr (.inl ⟨rfl, .inr ⟨k, rfl, hk⟩⟩))))))
  | nil => exact .inr (.inr (.inr (.inr (.inr (.inr (.inr (.inl ⟨rfl, rfl, rfl⟩)))))))
  | yes => exact .inr (.inr (.inr (.inr (.inr (.inr (.inr (.inr (.inl ⟨rfl, rfl, rfl⟩))))))))
  | no => exact .inr (.inr (.inr (.inr (.inr (.inr (.inr (.inr (.inr (.inl ⟨rfl, rfl, rfl⟩)))))))))
  | none => exact .inr (.inr (.inr (.inr (.inr (.inr (.inr (.inr (.inr (.inr ⟨rfl, rfl, rfl⟩)))))))))
theorem head_of {w w2 : World} {tk : Tk} {off' : Nat} {t s l c : Int} {ev' : Value} (hb : w2.heap[w.heap.size]? = some (.cells #[.int .i64 0, .bool false, .int .i64 0, .int .u64 0, .string ⟨#[]⟩, .slice none 0 0, .slice none 0 0] 26 (0, 0)))
    (hu : UB w2 ub A cap xs off' t s l ev' c) (hg : w.grownBy w2 (some ub)) (hlt : ub < w.heap.size) (hfar : ∀ ad, A = some ad → ad.block ≠ w.heap.size) (n k : Int) (b : Bool) (i g : Int) (str : ByteArray) (n0 : 0 ≤ n) (n1 : n ≤ 4294967295)
    (bad : tk = .bad → IsErr ev') (val : ∀ x r, tk = .val x r → ev' = .nilIface ∧ n = 0 ∧ x = ⟨k, b, i, g, str, [], []⟩ ∧ xs.drop off' = r ∧ off' ≤ xs.length)
    (opn : ∀ kk tag m r, tk = .opn kk tag m r → ev' = .nilIface ∧ n = m ∧ k = kk ∧ b = false ∧ i = tag ∧ g = 0 ∧ str = ⟨#[]⟩ ∧ xs.drop off' = r ∧ off' ≤ xs.length) :
    HeadP w (((((((w2.setCell ⟨w.heap.size, 0, none⟩ (.int .i64 k)).setCell ⟨w.heap.size, 1, none⟩ (.bool b)).setCell ⟨w.heap.size, 2, none⟩ (.int .i64 i)).setCell ⟨w.heap.size, 3, none⟩ (.int .u64 g)).setCell ⟨w.heap.size, 4, none⟩ (.string str)).setCell ⟨w.heap.size, 5, none⟩ (.slice none 0 0)).setCell ⟨w.heap.size, 6, none⟩ (.slice none 0 0))
      ub A cap xs tk n k b i g str off' t s l c ev' :=
  ⟨fill_box hb, hu.far7 (by omega) hfar _ _ _ _ _ _ _, grown_new7 hg _ _ _ _ _ _ _, n0, n1, bad, val, opn⟩
theorem sp_val {k : Int} {q : Option (Int × List Int)} {x : S26} {r : List Int} (h : tkStr k q = .val x r) : x = vS k x.f4 := by
  cases q with
  | none => cases h
  | some p =>
    simp only [tkStr] at h
    split at h
    · cases h
    · split at h
      · cases h
      · injection h with h _; subst h; rfl
theorem str_no_opn {k : Int} {q : Option (Int × List Int)} {a b : Int} {m : Nat} {r : List Int} (h : tkStr k q = .opn a b m r) : False := by
  cases q with
  | none => cases h
  | some p =>
    simp only [tkStr] at h
    split at h
    · cases h
    · split at h <;> cases h
theorem intM_no_opn {l s : Int} {q : List Int} {a b : Int} {m : Nat} {r : List Int} (h : intM l s q = .opn a b m r) : False := by
  have hk : ∀ g p, tkInt g p = .opn a b m r → False := fun g p h => by cases p <;> cases h
  unfold intM at h
  split at h
  · cases h
  · split at h
    · exact hk _ _ h
    · split at h
      · exact hk _ _ h
      · split at h
        · exact hk _ _ h
        · exact hk _ _ h
theorem opn_of {kk : Int} {q : Option (Int × List Int)} {n : Int} {off off' : Nat} {ev' : Value} (hq : QP q xs off n off' .nilIface ev') (h0 : 0 ≤ n) :
    (tkOpn kk q = .bad → IsErr ev') ∧ (∀ x r, tkOpn kk q = .val x r → False) ∧ ∀ k tag m r, tkOpn kk q = .opn k tag m r → ev' = .nilIface ∧ n = m ∧ kk = k ∧ tag = 0 ∧ xs.drop off' = r ∧ off' ≤ xs.length := by
  cases q with
  | none => exact ⟨fun _ => (hq.bad rfl).2.2, fun x r h => (by cases h), fun k tag m r h => (by cases h)⟩
  | some p =>
    obtain ⟨h1, h2, h3, h4⟩ := hq.ok p.1 p.2 rfl
    refine ⟨fun h => (by cases h), fun x r h => (by cases h), fun k tag m r h => ?_⟩
    simp only [tkOpn, Tk.opn.injEq] at h
    obtain ⟨e1, e2, e3, e4⟩ := h
    exact ⟨h4, by omega, e1, e2.symm, by rw [h2, e4], h3⟩

end
end Go.Proofs.Ytjnookhdiolhgaa

namespace Go.Proofs.Ytjnookhdiolhgaa
set_option linter.unusedVariables false
set_option linter.unusedSimpArgs false
open Go.RowKit Go.Proofs.YtjnookhdiolhgaaW.PrintWords
open PAll (S26 k26)

theorem pres_bad (ks : List ByteArray) (xs : List S26) {R : PRs} {c : Int} (h : R = .bad c) : R.pres ks xs = .bad c := by rw [h]; rfl
theorem pres_wild (ks : List ByteArray) (xs : List S26) {R : PRs} (h : R = .wild) : R.pres ks xs = .wild := by rw [h]; rfl
/-- One round of parts without keys. -/
theorem round_list {p : List Int → PR} {m : Nat} {r : List Int} (ks : List ByteArray) (xs : List S26) :
    (p r = .wild → (rows p false (m + 1) r).pres ks xs = .wild) ∧ (∀ c, p r = .bad c → (rows p false (m + 1) r).pres ks xs = .bad c) ∧
      ∀ x r2, p r = .ok x r2 → (rows p false (m + 1) r).pres ks xs = (rows p false m r2).pres ks (xs ++ [x]) := by
  simp only [rows, Bool.false_eq_true, if_false]
  refine ⟨fun h => by rw [h]; rfl, fun c h => by rw [h]; rfl, fun x r2 h => ?_⟩
  rw [h]
  simp only
  rw [pres_pre, List.append_nil]
/-- One round of parts with keys. -/
theorem round_key {p : List Int → PR} {m : Nat} {r : List Int} (ks : List ByteArray) (xs : List S26) :
    (key r = .wild → (rows p true (m + 1) r).pres ks xs = .wild) ∧ (∀ c, key r = .bad c → (rows p true (m + 1) r).pres ks xs = .bad c) ∧
    ∀ s r1, key r = .ok s r1 → (p r1 = .wild → (rows p true (m + 1) r).pres ks xs = .wild) ∧ (∀ c, p r1 = .bad c → (rows p true (m + 1) r).pres ks xs = .bad c) ∧
      ∀ x r2, p r1 = .ok x r2 → (rows p true (m + 1) r).pres ks xs = (rows p true m r2).pres (ks ++ [s]) (xs ++ [x]) := by
  simp only [rows, if_true]
  refine ⟨fun h => by rw [h]; rfl, fun c h => by rw [h]; rfl, fun s r1 h => ?_⟩
  rw [h]
  simp only
  refine ⟨fun h => by rw [h]; rfl, fun c h => by rw [h]; rfl, fun x r2 h => ?_⟩
  rw [h]
  simp only
  rw [pres_pre]
/-- The key at a place. -/
theorem key_end {xs : List Int} {off : Nat} (h : xs.length ≤ off) : key (xs.drop off) = .bad 1 := by rw [List.drop_of_length_le h]; rfl
theorem key_no {xs : List Int} {off : Nat} (h : off < xs.length) (hs : isStr (rd xs off) = false) : key (xs.drop off) = .bad 3 := by
  have e : rd xs off = xs[off] := by unfold rd; rw [Int.toNat_natCast, List.getD_eq_getElem?_getD, List.getElem?_eq_getElem h]; rfl
  rw [List.drop_eq_getElem_cons h, ← e]
  simp only [key]
  rw [if_neg (by rw [hs]; decide)]
def keyOf : Tk → KR
  | .val x r' => .ok x.f4 r'
  | .wild => .wild
  | .bad => .bad 1
  | .opn _ _ _ _ => .bad 1
theorem key_yes {xs : List Int} {off : Nat} (h : off < xs.length) (hs : isStr (rd xs off) = true) {tk : Tk} (ht : tok (rd xs off :: xs.drop (off + 1)) = tk) :
    key (xs.drop off) = keyOf tk := by
  have e : rd xs off = xs[off] := by unfold rd; rw [Int.toNat_natCast, List.getD_eq_getElem?_getD, List.getElem?_eq_getElem h]; rfl
  rw [List.drop_eq_getElem_cons h, ← e]
  simp only [key]
  rw [if_pos hs, ht]
  cases tk <;> rfl
theorem tok_at {xs : List Int} {off : Nat} (h : off < xs.length) : tok (xs.drop off) = tok (rd xs off :: xs.drop (off + 1)) := by
  have e : rd xs off = xs[off] := by unfold rd; rw [Int.toNat_natCast, List.getD_eq_getElem?_getD, List.getElem?_eq_getElem h]; rfl
  rw [List.drop_eq_getElem_cons h, ← e]

/-- What the loop holds. -/
structure LoopP (w wr : World) (ub : Nat) (A : Option Addr) (cap : Nat) (xs : List Int) (n : Nat) (k tag : Int) (p : List Int → PR) (r0 : List Int) (j : Nat) (keys : List ByteArray) (kids : List S26) (v5 v6 : Value) (off : Nat) (t s l c : Int) : Prop where
  hj : j ≤ n
  box : wr.heap[w.heap.size]? = some (.cells #[.int .i64 k, .bool false, .int .i64 tag, .int .u64 0, .string ⟨#[]⟩, v5, v6] 26 (0, 0))
  un : UB wr ub A cap xs off t s l .nilIface c
  gr : w.grownBy wr (some ub)
  r5 : Kd.string.R 9 wr (w.heap.size + 1) (fun q => w.heap.size + 1 ≤ q) v5 keys
  r6 : k26.R 26 wr (w.heap.size + 1) (fun q => w.heap.size + 1 ≤ q ∧ some q ≠ v5.ownBlock) v6 kids
  lk : kids.length = j
  l5 : keys.length ≤ j
  lo : j ≤ off
  oo : off ≤ xs.length
  eq : rows p (k == 7) n r0 = (rows p (k == 7) (n - j) (xs.drop off)).pres keys kids
theorem LoopP.start {w wr : World} {ub : Nat} {A : Option Addr} {cap : Nat} {xs : List Int} {n : Nat} {k tag : Int} {p : List Int → PR} {off : Nat} {t s l c : Int}
    (box : wr.heap[w.heap.size]? = some (.cells #[.int .i64 k, .bool false, .int .i64 tag, .int .u64 0, .string ⟨#[]⟩, .slice none 0 0, .slice none 0 0] 26 (0, 0))) (un : UB wr ub A cap xs off t s l .nilIface c) (gr : w.grownBy wr (some ub)) (oo : off ≤ xs.length) :
    LoopP w wr ub A cap xs n k tag p (xs.drop off) 0 [] [] (.slice none 0 0) (.slice none 0 0) off t s l c :=
  ⟨Nat.zero_le _, box, un, gr, Kd.R_nil _ _ _ _ _, Kd.R_nil _ _ _ _ _, rfl, Nat.le_refl _, Nat.zero_le _, oo, by rw [pres_nil]; rfl⟩
section
variable {w wr : World} {ub : Nat} {A : Option Addr} {cap : Nat} {xs : List Int} {n : Nat} {k tag : Int} {p : List Int → PR} {r0 : List Int} {j : Nat} {keys : List ByteArray} {kids : List S26} {v5 v6 : Value} {off : Nat} {t s l c : Int}
theorem LoopP.ok6 {W : World} (h : LoopP w wr ub A cap xs n k tag p r0 j keys kids v5 v6 off t s l c) (hs : wr.heap.size ≤ W.heap.size) (hlt : w.heap.size < wr.heap.size) :
    (∀ q, wr.heap.size ≤ q → (w.heap.size + 1 ≤ q ∧ some q ≠ v5.ownBlock) ∧ some q ≠ v6.ownBlock) ∧ (∀ q, W.heap.size ≤ q → w.heap.size + 1 ≤ q ∧ some q ≠ v5.ownBlock) :=
  ⟨fun q hq => ⟨⟨by omega, fun he => by have := Kd.R_lt h.r5 q he.symm; omega⟩, fun he => by have := Kd.R_lt h.r6 q he.symm; omega⟩, fun q hq => ⟨by omega, fun he => by have := Kd.R_lt h.r5 q he.symm; omega⟩⟩
theorem LoopP.far5 (h : LoopP w wr ub A cap xs n k tag p r0 j keys kids v5 v6 off t s l c) : ∀ q, v5.ownBlock = some q → w.heap.size + 1 ≤ q ∧ q < wr.heap.size := fun q hq => ⟨Kd.R_base h.r5 q hq, Kd.R_lt h.r5 q hq⟩
theorem LoopP.far6 (h : LoopP w wr ub A cap xs n k tag p r0 j keys kids v5 v6 off t s l c) : ∀ q, v6.ownBlock = some q → w.heap.size + 1 ≤ q ∧ q < wr.heap.size := fun q hq => ⟨Kd.R_base h.r6 q hq, Kd.R_lt h.r6 q hq⟩
/-- The reader alone went on (its block was written, blocks are new). -/
theorem LoopP.step {w2 : World} (h : LoopP w wr ub A cap xs n k tag p r0 j keys kids v5 v6 off t s l c) (hlt : ub < w.heap.size) (hg : wr.grownBy w2 (some ub)) :
    w2.heap[w.heap.size]? = some (.cells #[.int .i64 k, .bool false, .int .i64 tag, .int .u64 0, .string ⟨#[]⟩, v5, v6] 26 (0, 0)) ∧ w.grownBy w2 (some ub) ∧
      Kd.string.R 9 w2 (w.heap.size + 1) (fun q => w.heap.size + 1 ≤ q) v5 keys ∧ k26.R 26 w2 (w.heap.size + 1) (fun q => w.heap.size + 1 ≤ q ∧ some q ≠ v5.ownBlock) v6 kids :=
  ⟨blk_grown h.box hg (by intro he; injection he with he; omega), grown_trans' h.gr hg, Kd.R_grown h.r5 hg (fun q hq he => by injection he with he; omega), Kd.R_grown h.r6 hg (fun q hq he => by injection he with he; have := hq.1; omega)⟩
/-- A kid more. -/
theorem LoopP.kid {W w1 : World} {x : S26} {v1 : Value} {off2 : Nat} {t2 s2 l2 c2 : Int} (keys2 : List ByteArray) (u5 : Value) (hlt : ub < w.heap.size) (hA : ∀ ad, A = some ad → ad.block < w.heap.size) (hj : j < n) (hlk : kids.length = j) (hl5 : keys2.length ≤ j + 1) (hoo : off2 ≤ xs.length) (hlo : j + 1 ≤ off2)
    (box : W.heap[w.heap.size]? = some (.cells #[.int .i64 k, .bool false, .int .i64 tag, .int .u64 0, .string ⟨#[]⟩, u5, v6] 26 (0, 0))) (un : UB W ub A cap xs off2 t2 s2 l2 .nilIface c2) (gr : w.grownBy W (some ub))
    (r5 : Kd.string.R 9 W (w.heap.size + 1) (fun q => w.heap.size + 1 ≤ q) u5 keys2) (r6 : k26.R 26 W (w.heap.size + 1) (fun q => w.heap.size + 1 ≤ q ∧ some q ≠ u5.ownBlock) v6 kids)
    (hr1 : k26.R 26 w1 (w.heap.size + 1) (fun q => w.heap.size + 1 ≤ q ∧ some q ≠ u5.ownBlock) v1 (kids ++ [x])) (hg1 : W.grownBy w1 v6.ownBlock)
    (eq : rows p (k == 7) n r0 = (rows p (k == 7) (n - (j + 1)) (xs.drop off2)).pres keys2 (kids ++ [x])) :
    LoopP w (w1.setCell ⟨w.heap.size, 6, none⟩ v1) ub A cap xs n k tag p r0 (j + 1) keys2 (kids ++ [x]) u5 v1 off2 t2 s2 l2 c2 := by
  have h6 : ∀ q, v6.ownBlock = some q → w.heap.size + 1 ≤ q := fun q hq => Kd.R_base r6 q hq
  have hne : some w.heap.size ≠ v6.ownBlock := fun he => by have := h6 _ he.symm; omega
  have hbx1 := blk_grown box hg1 hne
  have hsz := blk_lt box
  have hu1 : UB w1 ub A cap xs off2 t2 s2 l2 .nilIface c2 := un.grown hg1 (fun he => by have := h6 _ he.symm; omega) (fun ad ha he => by have := h6 _ he.symm; have := hA ad ha; omega)
  have hgg : w.grownBy w1 (some ub) := ⟨hg1.os.trans gr.os, hg1.tape.trans gr.tape, hg1.output.trans gr.output, Nat.le_trans gr.size hg1.size, fun i hi hne => (hg1.block i (Nat.lt_of_lt_of_le hi gr.size) (fun he => by have := h6 _ he.symm; omega)).trans (gr.block i hi hne)⟩
  refine ⟨by omega, blk_put hbx1 6 v1 rfl, ?_, ?_, ?_, ?_, by rw [List.length_append, hlk]; rfl, hl5, hlo, hoo, eq⟩
  · exact hu1.grown (row := some w.heap.size) (grown_set (World.grownBy.refl w1 _) 6 v1) (fun he => by injection he with he; omega) (fun ad ha he => by injection he with he; have := hA ad ha; omega)
  · exact ⟨hgg.os, hgg.tape, hgg.output, by simpa [World.setCell] using hgg.size, fun i hi hne => (Below.heap_setCell w1 _ v1 i (by show i ≠ w.heap.size; omega)).trans (hgg.block i hi hne)⟩
  · exact Kd.R_far (Kd.R_over r5 r6 (by decide) hg1) (p := ⟨w.heap.size, 6, none⟩) (fun q hq => by show q ≠ w.heap.size; omega) v1
  · exact Kd.R_far hr1 (p := ⟨w.heap.size, 6, none⟩) (fun q hq => by show q ≠ w.heap.size; have := hq.1; omega) v1
end
/-- What unpack's variables hold in the middle of a round. -/
structure MidP (w wr : World) (ub : Nat) (A : Option Addr) (cap : Nat) (xs : List Int) (k tag : Int) (keys : List ByteArray) (kids : List S26) (v5 v6 : Value) (off : Nat) (t s l : Int) (ev : Value) (c : Int) : Prop where
  box : wr.heap[w.heap.size]? = some (.cells #[.int .i64 k, .bool false, .int .i64 tag, .int .u64 0, .string ⟨#[]⟩, v5, v6] 26 (0, 0))
  un : UB wr ub A cap xs off t s l ev c
  gr : w.grownBy wr (some ub)
  r5 : Kd.string.R 9 wr (w.heap.size + 1) (fun q => w.heap.size + 1 ≤ q) v5 keys
  r6 : k26.R 26 wr (w.heap.size + 1) (fun q => w.heap.size + 1 ≤ q ∧ some q ≠ v5.ownBlock) v6 kids
section
variable {w wr : World} {ub : Nat} {A : Option Addr} {cap : Nat} {xs : List Int} {k tag : Int} {keys : List ByteArray} {kids : List S26} {v5 v6 : Value} {off : Nat} {t s l c : Int} {ev : Value}
theorem LoopP.mid {n : Nat} {p : List Int → PR} {r0 : List Int} {j : Nat} (h : LoopP w wr ub A cap xs n k tag p r0 j keys kids v5 v6 off t s l c) : MidP w wr ub A cap xs k tag keys kids v5 v6 off t s l .nilIface c := ⟨h.box, h.un, h.gr, h.r5, h.r6⟩
theorem MidP.step {w2 : World} (h : MidP w wr ub A cap xs k tag keys kids v5 v6 off t s l ev c) (hlt : ub < w.heap.size) (hg : wr.grownBy w2 (some ub)) :
    w2.heap[w.heap.size]? = some (.cells #[.int .i64 k, .bool false, .int .i64 tag, .int .u64 0, .string ⟨#[]⟩, v5, v6] 26 (0, 0)) ∧ w.grownBy w2 (some ub) ∧
      Kd.string.R 9 w2 (w.heap.size + 1) (fun q => w.heap.size + 1 ≤ q) v5 keys ∧ k26.R 26 w2 (w.heap.size + 1) (fun q => w.heap.size + 1 ≤ q ∧ some q ≠ v5.ownBlock) v6 kids :=
  ⟨blk_grown h.box hg (by intro he; injection he with he; omega), grown_trans' h.gr hg, Kd.R_grown h.r5 hg (fun q hq he => by injection he with he; omega), Kd.R_grown h.r6 hg (fun q hq he => by injection he with he; have := hq.1; omega)⟩
theorem MidP.next {w2 : World} {off2 : Nat} {t2 s2 l2 c2 : Int} {ev2 : Value} (h : MidP w wr ub A cap xs k tag keys kids v5 v6 off t s l ev c) (hlt : ub < w.heap.size) (hg : wr.grownBy w2 (some ub)) (hu : UB w2 ub A cap xs off2 t2 s2 l2 ev2 c2) :
    MidP w w2 ub A cap xs k tag keys kids v5 v6 off2 t2 s2 l2 ev2 c2 := by
  obtain ⟨a, b, c, d⟩ := h.step hlt hg
  exact ⟨a, hu, b, c, d⟩
theorem MidP.drew (h : MidP w wr ub A cap xs k tag keys kids v5 v6 off t s l ev c) : MidP w wr.drew ub A cap xs k tag keys kids v5 v6 off t s l ev c :=
  ⟨h.box, h.un.drew, grown_trans' h.gr (grown_of_below (below_drew (Below.refl _ _)) _), Kd.R_drew h.r5, Kd.R_drew h.r6⟩
theorem MidP.ok6 {W : World} (h : MidP w wr ub A cap xs k tag keys kids v5 v6 off t s l ev c) (hs : wr.heap.size ≤ W.heap.size) (hlt : w.heap.size < wr.heap.size) :
    (∀ q, wr.heap.size ≤ q → (w.heap.size + 1 ≤ q ∧ some q ≠ v5.ownBlock) ∧ some q ≠ v6.ownBlock) ∧ (∀ q, W.heap.size ≤ q → w.heap.size + 1 ≤ q ∧ some q ≠ v5.ownBlock) :=
  ⟨fun q hq => ⟨⟨by omega, fun he => by have := Kd.R_lt h.r5 q he.symm; omega⟩, fun he => by have := Kd.R_lt h.r6 q he.symm; omega⟩, fun q hq => ⟨by omega, fun he => by have := Kd.R_lt h.r5 q he.symm; omega⟩⟩
/-- A key more. -/
theorem MidP.key {w1 : World} {s0 : ByteArray} {v1 : Value} (h : MidP w wr ub A cap xs k tag keys kids v5 v6 off t s l ev c) (hlt : ub < w.heap.size) (hA : ∀ ad, A = some ad → ad.block < w.heap.size)
    (hr1 : Kd.string.R 9 w1 (w.heap.size + 1) (fun q => w.heap.size + 1 ≤ q) v1 (keys ++ [s0])) (hg1 : wr.grownBy w1 v5.ownBlock) (hat : v1.ownBlock = v5.ownBlock ∨ ∃ b, v1.ownBlock = some b ∧ wr.heap.size ≤ b) :
    MidP w (w1.setCell ⟨w.heap.size, 5, none⟩ v1) ub A cap xs k tag (keys ++ [s0]) kids v1 v6 off t s l ev c := by
  have h5 : ∀ q, v5.ownBlock = some q → w.heap.size + 1 ≤ q := fun q hq => Kd.R_base h.r5 q hq
  have hne : some w.heap.size ≠ v5.ownBlock := fun he => by have := h5 _ he.symm; omega
  have hbx1 := blk_grown h.box hg1 hne
  have hsz := blk_lt h.box
  have hu1 : UB w1 ub A cap xs off t s l ev c := h.un.grown hg1 (fun he => by have := h5 _ he.symm; omega) (fun ad ha he => by have := h5 _ he.symm; have := hA ad ha; omega)
  have gr := h.gr
  have hgg : w.grownBy w1 (some ub) := ⟨hg1.os.trans gr.os, hg1.tape.trans gr.tape, hg1.output.trans gr.output, Nat.le_trans gr.size hg1.size, fun i hi hne => (hg1.block i (Nat.lt_of_lt_of_le hi gr.size) (fun he => by have := h5 _ he.symm; omega)).trans (gr.block i hi hne)⟩
  refine ⟨blk_put hbx1 5 v1 rfl, ?_, ?_, ?_, ?_⟩
  · exact hu1.grown (row := some w.heap.size) (grown_set (World.grownBy.refl w1 _) 5 v1) (fun he => by injection he with he; omega) (fun ad ha he => by injection he with he; have := hA ad ha; omega)
  · exact ⟨hgg.os, hgg.tape, hgg.output, by simpa [World.setCell] using hgg.size, fun i hi hne => (Below.heap_setCell w1 _ v1 i (by show i ≠ w.heap.size; omega)).trans (hgg.block i hi hne)⟩
  · exact Kd.R_far hr1 (p := ⟨w.heap.size, 5, none⟩) (fun q hq => by show q ≠ w.heap.size; omega) v1
  · exact Kd.R_far (Kd.R_after h.r6 hg1 hat) (p := ⟨w.heap.size, 5, none⟩) (fun q hq => by show q ≠ w.heap.size; have := hq.1; omega) v1
end
end Go.Proofs.Ytjnookhdiolhgaa

namespace Go.Proofs.Ytjnookhdiolhgaa
set_option linter.unusedVariables false
set_option linter.unusedSimpArgs false
open Go.RowKit Go.Proofs.YtjnookhdiolhgaaW.PrintWords
open Go.Proofs.YtjnookhdiolhgaaW.PrintLast (goes_)
open PAll (S26 k26)
theorem info26 : (Try.prog.info? 26).map (fun i => (i.zero, i.size, i.bytes)) = some (some (.agg #[.int .i64 0, .bool false, .int .i64 0, .int .u64 0, .string ⟨#[]⟩, .slice none 0 0, .slice none 0 0]), 7, 96) := by kernel_rfl
theorem info9 : (Try.prog.info? 9).map (fun i => (i.zero, i.size, i.bytes)) = some (some (.string ⟨#[]⟩), 1, 16) := by kernel_rfl
theorem MK_str {s l : Int} (h : MK 3 s l) : LK s l := by
  rcases MK_cases h with ⟨e, _⟩ | ⟨e, _⟩ | ⟨_, h⟩ | ⟨e, _⟩ | ⟨e, _⟩ | ⟨e, _⟩ | ⟨e, _⟩ | ⟨e, _⟩ | ⟨e, _⟩ | ⟨e, _⟩ | ⟨e, _⟩
  all_goals first | exact h | (exfalso; revert e; decide)
theorem far7R {α : Type} {d : Kd α} {e : Nat} {w : World} {base : Nat} {ok : Nat → Prop} {v : Value} {xs : List α} (h : d.R e w base ok v xs) {g : Nat} (hok : ∀ k, ok k → k ≠ g) (a b c dd ee ff gg : Value) :
    d.R e (((((((w.setCell ⟨g, 0, none⟩ a).setCell ⟨g, 1, none⟩ b).setCell ⟨g, 2, none⟩ c).setCell ⟨g, 3, none⟩ dd).setCell ⟨g, 4, none⟩ ee).setCell ⟨g, 5, none⟩ ff).setCell ⟨g, 6, none⟩ gg) base ok v xs :=
  Kd.R_far (Kd.R_far (Kd.R_far (Kd.R_far (Kd.R_far (Kd.R_far (Kd.R_far h (p := ⟨g, 0, none⟩) hok _) (p := ⟨g, 1, none⟩) hok _) (p := ⟨g, 2, none⟩) hok _) (p := ⟨g, 3, none⟩) hok _) (p := ⟨g, 4, none⟩) hok _) (p := ⟨g, 5, none⟩) hok _) (p := ⟨g, 6, none⟩) hok _
section
variable {ub : Nat} {A : Option Addr} {cap : Nat} {xs : List Int} {off : Nat} {t s l c : Int} {ev : Value}
set_option maxHeartbeats 20000000 in
set_option maxRecDepth 100000 in
theorem unp_main (f : Nat) (ih : UnpSaid f) (t1 s1 l1 : Int) (hmk : MK t1 s1 l1) (w : World) (deep : Int) (hd0 : 0 ≤ deep) (hd : deep ≤ 1000) (h : UB w ub A cap xs off t s l .nilIface c) (ho : off < xs.length)
    (hA : ∀ ad, A = some ad → ad.block < w.heap.size) (hm : mark (rd xs off) = (t1, s1, l1)) (tk : Tk) (htk : tokM t1 s1 l1 (xs.drop (off + 1)) = tk) (hw : fin f deep tk ≠ .wild) :
    Calls Try.prog 72 #[.pointer (some ⟨ub, 0, none⟩), .int .i64 deep] w fun e w' => UnpR w ub A cap xs (fin f deep tk) e w' := by
  have hlt := h.lt
  have HN := Lib.hid (next_ok _ (h.alloc (.cells #[.int .i64 0, .bool false, .int .i64 0, .int .u64 0, .string ⟨#[]⟩, .slice none 0 0, .slice none 0 0] 26)) ho)
  rw [hm] at HN
  have HA := Lib.hid hA
  have HMK := Lib.hid hmk
  have HTK := Lib.hid htk
  have HW := Lib.hid hw
  have hnw : tk ≠ .wild := fun e => by rw [e] at hw; exact hw rfl
  have HNW := Lib.hid hnw
  clear h hA hmk htk hw hm hnw
  generalize hR : fin f deep tk = R at *
  have HR := Lib.hid hR
  clear hR
  go_enter Try.func72, Try.ntmps72
  go_wp2_with fail
  refine HN.out.mono ?_
  rintro e w1 ⟨rfl, hu, hg⟩
  have hbx := blk_grown (heap_alloc_new w _) hg (by intro he; injection he with he; omega)
  have HBX := Lib.hid hbx
  have HU := Lib.hid hu
  have HG := Lib.hid (grown_trans' (World.grownBy_alloc w _ _) hg)
  have hoff : off + 1 ≤ xs.length := by omega
  have hfar : ∀ ad, A = some ad → ad.block ≠ w.heap.size := fun ad ha => by have := HA.out ad ha; omega
  have HF := Lib.hid hfar
  clear hu hg hbx HN hfar
  go_upto_block 0 with (fail)
  go_cut [6] (fun v wc => ∃ (n k : Int) (b : Bool) (i g : Int) (str : ByteArray) (off' : Nat) (t s l c : Int) (ev' : Value), v = .int .u32 n ∧ Aside0 (HeadP w wc ub A cap xs tk n k b i g str off' t s l c ev'))
  case first =>
    obtain ⟨c0, c1, c2, c3, c4, c5, c6, c7⟩ := HU.out.cells
    obtain ⟨b0, b1, b2, b3, b4, b5, b6, f0, f1, f2, f3, f4, f5, f6⟩ := box7f HBX.out
    clear c0 c1 c2 c3 c4 c5
    have hfb := fun (b : Nat) (w : World) => run_bits b w
    rcases MK_cases HMK.out with ⟨rfl, hm⟩ | ⟨rfl, rfl, rfl⟩ | ⟨rfl, hk⟩ | ⟨rfl, rfl, hk⟩ | ⟨rfl, rfl, kk, rfl, hk⟩ | ⟨rfl, hk⟩ | ⟨rfl, hk⟩ | ⟨rfl, rfl, rfl⟩ | ⟨rfl, rfl, rfl⟩ | ⟨rfl, rfl, rfl⟩ | ⟨rfl, rfl, rfl⟩
    · have HC := Lib.hid (int_tok w1 hm HU.out hoff)
      clear hm
      go_wp2_with fail
      refine HC.out.mono ?_
      rintro e w2 ⟨n, off', ev', rfl, hu, hg, hq⟩
      have hbx := blk_grown HBX.out hg (by intro he; injection he with he; omega)
      clear b0 b1 b2 b3 b4 b5 b6 f0 f1 f2 f3 f4 f5 f6 c6 c7
      obtain ⟨b0, b1, b2, b3, b4, b5, b6, f0, f1, f2, f3, f4, f5, f6⟩ := box7f hbx
      have HH := Lib.hid (head_of hbx hu (grown_trans' HG.out hg) hlt HF.out 0 2 false n 0 ⟨#[]⟩ (by decide) (by decide) hq.bad
        (fun x r hx => by obtain ⟨h1, h2, h3, h4⟩ := hq.ok x r hx; exact ⟨h4, rfl, h1, h2, h3⟩) (fun a b m r hx => (intM_no_opn hx).elim))
      clear hu hg hq hbx HC
      go_wp2_with fail
      go_meet
      case rel => exact ⟨0, 2, false, n, 0, ⟨#[]⟩, off', _, _, _, _, ev', rfl, ⟨by rw [← HTK.out]; exact HH.out⟩⟩
    · have HC := Lib.hid (float_any w1 HU.out hoff)
      go_wp2_with fail
      refine HC.out.mono ?_
      rintro e w2 ⟨fb, off', ev', rfl, hu, hg, hq⟩
      have hbx := blk_grown HBX.out hg (by intro he; injection he with he; omega)
      clear b0 b1 b2 b3 b4 b5 b6 f0 f1 f2 f3 f4 f5 f6 c6 c7
      obtain ⟨b0, b1, b2, b3, b4, b5, b6, f0, f1, f2, f3, f4, f5, f6⟩ := box7f hbx
      have HH := Lib.hid (head_of (tk := tkFloat (sizedN 8 (xs.drop (off + 1)))) hbx hu (grown_trans' HG.out hg) hlt HF.out 0 3 false 0 fb ⟨#[]⟩ (by decide) (by decide)
        (fun hb => hq.bad (by cases e : sizedN 8 (xs.drop (off + 1)) with | none => rfl | some p => rw [e] at hb; cases hb))
        (fun x r hx => by
          cases e : sizedN 8 (xs.drop (off + 1)) with
          | none => rw [e] at hx; cases hx
          | some p =>
            rw [e] at hx
            injection hx with h1 h2
            obtain ⟨h3, h4, h5, h6⟩ := hq.ok p.1 p.2 e
            exact ⟨h6, rfl, by rw [← h1, h3]; rfl, by rw [← h2]; exact h4, h5⟩)
        (fun a b m r hx => by cases e : sizedN 8 (xs.drop (off + 1)) <;> rw [e] at hx <;> cases hx))
      clear hu hg hq hbx HC
      go_wp2_with fail
      go_meet
      case rel => exact ⟨0, 3, false, 0, fb, ⟨#[]⟩, off', _, _, _, _, ev', rfl, ⟨by rw [← HTK.out]; exact HH.out⟩⟩
    · have hnw : tkStr 4 (lenQ l1 s1 (xs.drop (off + 1))) ≠ .wild := fun he => HNW.out (HTK.out.symm.trans he)
      have HC := Lib.hid (str_tok w1 hk HU.out hoff hnw)
      clear hk hnw
      go_wp2_with fail
      refine HC.out.mono ?_
      rintro e w2 ⟨str, off', ev', rfl, hu, hg, hq⟩
      have hbx := blk_grown HBX.out hg (by intro he; injection he with he; omega)
      clear b0 b1 b2 b3 b4 b5 b6 f0 f1 f2 f3 f4 f5 f6 c6 c7
      obtain ⟨b0, b1, b2, b3, b4, b5, b6, f0, f1, f2, f3, f4, f5, f6⟩ := box7f hbx
      have HH := Lib.hid (head_of (tk := tkStr 4 (lenQ l1 s1 (xs.drop (off + 1)))) hbx hu (grown_trans' HG.out hg) hlt HF.out 0 4 false 0 0 str (by decide) (by decide) hq.bad
        (fun x r hx => by obtain ⟨h1, h2, h3, h4⟩ := hq.ok x r hx; exact ⟨h4, rfl, by rw [sp_val hx, ← h1]; rfl, h2, h3⟩) (fun a b m r hx => (str_no_opn hx).elim))
      clear hu hg hq hbx HC
      go_wp2_with fail
      go_meet
      case rel => exact ⟨0, 4, false, 0, 0, str, off', _, _, _, _, ev', rfl, ⟨by rw [← HTK.out]; exact HH.out⟩⟩
    · have HC := Lib.hid (len_tok w1 (.inl ⟨rfl, hk.1, hk.2⟩) HU.out hoff)
      clear hk
      go_wp2_with fail
      refine HC.out.mono ?_
      rintro e w2 ⟨n, off', ev', rfl, hu, hg, hq, h0, h1⟩
      obtain ⟨rfl, h3, h4, rfl⟩ := hq.ok s1 _ (lenQ_zero s1 _)
      have hoo : off' = off + 1 := by
        have e1 := congrArg List.length h3
        rw [List.length_drop, List.length_drop] at e1
        omega
      subst hoo
      by_cases hlt2 : off + 1 < xs.length
      · have HC2 := Lib.hid (tag_ok w2 hu hlt2)
        have HG2 := Lib.hid (grown_trans' HG.out hg)
        have HBX2 := Lib.hid (blk_grown HBX.out hg (by intro he; injection he with he; omega))
        have hby := hu.rdb hlt2
        have htg : tagM n (xs.drop (off + 1)) = .opn 8 (rd xs (off + 1 : Nat)) n.toNat (xs.drop (off + 1 + 1)) := by
          rw [List.drop_eq_getElem_cons hlt2]
          unfold rd
          rw [Int.toNat_natCast, List.getD_eq_getElem?_getD, List.getElem?_eq_getElem hlt2]
          rfl
        obtain ⟨tg, htgg⟩ : ∃ tg, rd xs (off + 1 : Nat) = tg := ⟨_, rfl⟩
        rw [htgg] at HC2 hby htg
        have HTG := Lib.hid htg
        clear hu hg hq h3 h4 HC htgg htg
        go_wp2_with fail
        refine HC2.out.mono ?_
        rintro e w3 ⟨rfl, hu, hg⟩
        have hbx := blk_grown HBX2.out hg (by intro he; injection he with he; omega)
        clear b0 b1 b2 b3 b4 b5 b6 f0 f1 f2 f3 f4 f5 f6 c6 c7
        obtain ⟨b0, b1, b2, b3, b4, b5, b6, f0, f1, f2, f3, f4, f5, f6⟩ := box7f hbx
        have htg := HTG.out
        have HH := Lib.hid (head_of (tk := tagM n (xs.drop (off + 1))) hbx hu (grown_trans' HG2.out hg) hlt HF.out n 8 false tg 0 ⟨#[]⟩ h0 h1 (fun hx => by rw [htg] at hx; cases hx)
          (fun x r hx => by rw [htg] at hx; cases hx) (fun a b m r hx => by rw [htg] at hx; injection hx with p1 p2 p3 p4; exact ⟨rfl, by omega, p1.symm ▸ rfl, rfl, p2, rfl, rfl, p4, by omega⟩))
        clear hu hg hbx HC2 htg
        go_wp2_with fail
        go_meet
        case rel => exact ⟨n, 8, false, tg, 0, ⟨#[]⟩, off + 1 + 1, _, _, _, _, _, rfl, ⟨by rw [← HTK.out]; exact HH.out⟩⟩
      · have HC2 := Lib.hid (tag_end w2 hu (by omega) (by have := hu.len; omega))
        have HG2 := Lib.hid (grown_trans' HG.out hg)
        have HBX2 := Lib.hid (blk_grown HBX.out hg (by intro he; injection he with he; omega))
        have htg : tagM n (xs.drop (off + 1)) = .bad := by rw [List.drop_of_length_le (by omega)]; rfl
        have HTG := Lib.hid htg
        clear hu hg hq h3 h4 HC htg
        go_wp2_with fail
        refine HC2.out.mono ?_
        rintro e w3 ⟨rfl, ⟨ev', hu, he⟩, hg⟩
        have hbx := blk_grown HBX2.out hg (by intro he; injection he with he; omega)
        clear b0 b1 b2 b3 b4 b5 b6 f0 f1 f2 f3 f4 f5 f6 c6 c7
        obtain ⟨b0, b1, b2, b3, b4, b5, b6, f0, f1, f2, f3, f4, f5, f6⟩ := box7f hbx
        have htg := HTG.out
        have HH := Lib.hid (head_of (tk := tagM n (xs.drop (off + 1))) hbx hu (grown_trans' HG2.out hg) hlt HF.out n 8 false 0 0 ⟨#[]⟩ h0 h1 (fun _ => he)
          (fun x r hx => by rw [htg] at hx; cases hx) (fun a b m r hx => by rw [htg] at hx; cases hx))
        clear hu hg hbx HC2 htg he
        go_wp2_with fail
        go_meet
        case rel => exact ⟨n, 8, false, 0, 0, ⟨#[]⟩, off + 1, _, _, _, _, ev', rfl, ⟨by rw [← HTK.out]; exact HH.out⟩⟩
    · have hnw : tkStr 5 (lenQ (kk : Int) 0 (xs.drop (off + 1))) ≠ .wild := fun he => HNW.out (HTK.out.symm.trans he)
      have HTK2 := HTK.out
      have hlq := lenQ_nat kk hk 0 (xs.drop (off + 1))
      rw [hlq] at hnw
      have HC := Lib.hid (bytes_any kk hk w1 HU.out hoff hnw)
      have HLQ := Lib.hid hlq
      clear hk hnw hlq HTK2
      go_wp2_with fail
      refine HC.out.mono ?_
      rintro e w2 ⟨B, m, c', ys, off', ev', rfl, hr, hu, hg, hq⟩
      have hcv := string_of_reads (P := Try.prog) (c := c') Try.underlying69 Try.underlying5 Try.underlying9 hr
      have hbx := blk_grown HBX.out hg (by intro he; injection he with he; omega)
      clear b0 b1 b2 b3 b4 b5 b6 f0 f1 f2 f3 f4 f5 f6 c6 c7
      obtain ⟨b0, b1, b2, b3, b4, b5, b6, f0, f1, f2, f3, f4, f5, f6⟩ := box7f hbx
      have HH := Lib.hid (head_of (tk := tkStr 5 (sizedN kk (xs.drop (off + 1)))) hbx hu (grown_trans' HG.out hg) hlt HF.out 0 5 false 0 0 (strOfNums ys) (by decide) (by decide) hq.bad
        (fun x r hx => by obtain ⟨h1, h2, h3, h4⟩ := hq.ok x r hx; exact ⟨h4, rfl, by rw [sp_val hx, ← h1]; rfl, h2, h3⟩) (fun a b m r hx => (str_no_opn hx).elim))
      clear hu hg hq hbx HC hr
      go_wp2_with fail
      go_meet
      case rel => exact ⟨0, 5, false, 0, 0, strOfNums ys, off', _, _, _, _, ev', rfl, ⟨by rw [← HTK.out]; have h := HH.out; rw [← HLQ.out] at h; exact h⟩⟩
    · have HC := Lib.hid (len_tok w1 hk HU.out hoff)
      clear hk
      go_wp2_with fail
      refine HC.out.mono ?_
      rintro e w2 ⟨n, off', ev', rfl, hu, hg, hq, h0, h1⟩
      have hbx := blk_grown HBX.out hg (by intro he; injection he with he; omega)
      clear b0 b1 b2 b3 b4 b5 b6 f0 f1 f2 f3 f4 f5 f6 c6 c7
      obtain ⟨b0, b1, b2, b3, b4, b5, b6, f0, f1, f2, f3, f4, f5, f6⟩ := box7f hbx
      obtain ⟨o1, o2, o3⟩ := opn_of (kk := 6) hq h0
      have HH := Lib.hid (head_of (tk := tkOpn 6 (lenQ l1 s1 (xs.drop (off + 1)))) hbx hu (grown_trans' HG.out hg) hlt HF.out n 6 false 0 0 ⟨#[]⟩ h0 h1 o1
        (fun x r hx => (o2 x r hx).elim) (fun a b m r hx => by obtain ⟨p1, p2, p3, p4, p5, p6⟩ := o3 a b m r hx; exact ⟨p1, p2, p3, rfl, p4.symm, rfl, rfl, p5, p6⟩))
      clear hu hg hq hbx HC o1 o2 o3
      go_wp2_with fail
      go_meet
      case rel => exact ⟨n, 6, false, 0, 0, ⟨#[]⟩, off', _, _, _, _, ev', rfl, ⟨by rw [← HTK.out]; exact HH.out⟩⟩
    · have HC := Lib.hid (len_tok w1 hk HU.out hoff)
      clear hk
      go_wp2_with fail
      refine HC.out.mono ?_
      rintro e w2 ⟨n, off', ev', rfl, hu, hg, hq, h0, h1⟩
      have hbx := blk_grown HBX.out hg (by intro he; injection he with he; omega)
      clear b0 b1 b2 b3 b4 b5 b6 f0 f1 f2 f3 f4 f5 f6 c6 c7
      obtain ⟨b0, b1, b2, b3, b4, b5, b6, f0, f1, f2, f3, f4, f5, f6⟩ := box7f hbx
      obtain ⟨o1, o2, o3⟩ := opn_of (kk := 7) hq h0
      have HH := Lib.hid (head_of (tk := tkOpn 7 (lenQ l1 s1 (xs.drop (off + 1)))) hbx hu (grown_trans' HG.out hg) hlt HF.out n 7 false 0 0 ⟨#[]⟩ h0 h1 o1
        (fun x r hx => (o2 x r hx).elim) (fun a b m r hx => by obtain ⟨p1, p2, p3, p4, p5, p6⟩ := o3 a b m r hx; exact ⟨p1, p2, p3, rfl, p4.symm, rfl, rfl, p5, p6⟩))
      clear hu hg hq hbx HC o1 o2 o3
      go_wp2_with fail
      go_meet
      case rel => exact ⟨n, 7, false, 0, 0, ⟨#[]⟩, off', _, _, _, _, ev', rfl, ⟨by rw [← HTK.out]; exact HH.out⟩⟩
    · have hR : R = .ok vN (xs.drop (off + 1)) := by rw [← HR.out, ← HTK.out]; rfl
      subst hR
      go_wp2_with fail
      refine bodyPost_ret (results_ct rfl _ _ w.heap.size 26 #[.int .i64 0, .bool false, .int .i64 0, .int .u64 0, .string ⟨#[]⟩, .slice none 0 0, .slice none 0 0] (0, 0) _ rfl (zero_box HBX.out) Try.underlying26 rfl (by kernel_rfl)) rfl ?_
      exact ⟨grown_new7 HG.out _ _ _ _ _ _ _, .slice none 0 0, .slice none 0 0, off + 1, _, _, _, _, rfl, Kd.R_nil _ _ _ _ _, Kd.R_nil _ _ _ _ _, HU.out.far7 (by omega) HF.out _ _ _ _ _ _ _, rfl, hoff⟩
    · have HC := Lib.hid (bool_any true w1 HU.out)
      go_wp2_with fail
      refine HC.out.mono ?_
      rintro e w2 ⟨rfl, rfl⟩
      have HH := Lib.hid (head_of (tk := .val (vB true) (xs.drop (off + 1))) HBX.out HU.out HG.out hlt HF.out 0 1 true 0 0 ⟨#[]⟩ (by decide) (by decide) (fun hx => by cases hx)
        (fun x r hx => by injection hx with h1 h2; exact ⟨rfl, rfl, by rw [← h1]; rfl, h2, hoff⟩) (fun a b m r hx => by cases hx))
      clear HC
      go_wp2_with fail
      go_meet
      case rel => exact ⟨0, 1, true, 0, 0, ⟨#[]⟩, off + 1, _, _, _, _, _, rfl, ⟨by rw [← HTK.out]; exact HH.out⟩⟩
    · have HC := Lib.hid (bool_any false w1 HU.out)
      go_wp2_with fail
      refine HC.out.mono ?_
      rintro e w2 ⟨rfl, rfl⟩
      have HH := Lib.hid (head_of (tk := .val (vB false) (xs.drop (off + 1))) HBX.out HU.out HG.out hlt HF.out 0 1 false 0 0 ⟨#[]⟩ (by decide) (by decide) (fun hx => by cases hx)
        (fun x r hx => by injection hx with h1 h2; exact ⟨rfl, rfl, by rw [← h1]; rfl, h2, hoff⟩) (fun a b m r hx => by cases hx))
      clear HC
      go_wp2_with fail
      go_meet
      case rel => exact ⟨0, 1, false, 0, 0, ⟨#[]⟩, off + 1, _, _, _, _, _, rfl, ⟨by rw [← HTK.out]; exact HH.out⟩⟩
    · have hR : R = .bad 1 := by rw [← HR.out, ← HTK.out]; rfl
      subst hR
      go_wp2_with fail
      refine bodyPost_ret (results_ct rfl _ _ w.heap.size 26 #[.int .i64 0, .bool false, .int .i64 0, .int .u64 0, .string ⟨#[]⟩, .slice none 0 0, .slice none 0 0] (0, 0) _ rfl (zero_box HBX.out) Try.underlying26 rfl (by kernel_rfl)) rfl ?_
      exact ⟨grown_new7 HG.out _ _ _ _ _ _ _, rfl⟩
  case rest =>
    obtain ⟨n, k, b, i, g, str, off', t, s, l, c, ev', rfl, HP⟩ := hcut
    clear HBX HU HG hoff HTK HMK
    obtain ⟨c0, c1, c2, c3, c4, c5, c6, c7⟩ := HP.out.un.cells
    obtain ⟨b0, b1, b2, b3, b4, b5, b6, f0, f1, f2, f3, f4, f5, f6⟩ := box7f HP.out.box
    clear c0 c1 c2 c3 c4 c5 c7
    cases tk with
    | wild => exact absurd rfl HNW.out
    | bad =>
      obtain ⟨T, u, rfl⟩ := HP.out.bad rfl
      obtain rfl : PR.bad 1 = R := HR.out
      go_wp2_with fail
      refine bodyPost_ret (results_ct rfl _ _ w.heap.size 26 #[.int .i64 0, .bool false, .int .i64 0, .int .u64 0, .string ⟨#[]⟩, .slice none 0 0, .slice none 0 0] (0, 0) _ rfl (zero_box HP.out.box) Try.underlying26 rfl (by kernel_rfl)) rfl ?_
      exact ⟨grown_new7 HP.out.gr _ _ _ _ _ _ _, rfl⟩
    | val x r =>
      obtain ⟨rfl, rfl, rfl, rfl, hoo⟩ := HP.out.val x r rfl
      obtain rfl : PR.ok _ _ = R := HR.out
      go_wp2_with fail
      go_loopg [120] 0 (fun gk v120 wr => v120 = .int .u32 0 ∧ wr = wc)
      case atStart => exact ⟨rfl, rfl⟩
      case round =>
        obtain ⟨rfl, rfl⟩ := hrel
        go_wp2_with fail
        refine bodyPost_ret (results_ct rfl _ _ w.heap.size 26 #[.int .i64 k, .bool b, .int .i64 i, .int .u64 g, .string str, .slice none 0 0, .slice none 0 0] (0, 0) _ rfl (fill_box HP.out.box) Try.underlying26 rfl (by kernel_rfl)) rfl ?_
        exact ⟨grown_new7 HP.out.gr _ _ _ _ _ _ _, .slice none 0 0, .slice none 0 0, off', _, _, _, _, rfl, Kd.R_nil _ _ _ _ _, Kd.R_nil _ _ _ _ _, HP.out.un.far7 (by omega) HF.out _ _ _ _ _ _ _, rfl, hoo⟩
    | opn kk tag m r =>
      obtain ⟨rfl, rfl, rfl, rfl, rfl, rfl, rfl, rfl, hoo⟩ := HP.out.opn kk tag m r rfl
      have hm1 := HP.out.n1
      have HLS := Lib.hid (LoopP.start (n := m) (p := parse f (deep + 1)) HP.out.box HP.out.un HP.out.gr hoo)
      clear HP
      go_wp2_with fail
      clear b0 b1 b2 b3 b4 b5 b6 f0 f1 f2 f3 f4 f5 f6 c6
      go_loopg [120] m (fun gk v120 wr => ∃ (j : Nat) (keys : List ByteArray) (kids : List S26) (v5 v6 : Value) (offj : Nat) (t s l c : Int), v120 = .int .u32 j ∧ Aside0 (gk = m - j) ∧ Aside0 (LoopP w wr ub A cap xs m k i (parse f (deep + 1)) (xs.drop off') j keys kids v5 v6 offj t s l c))
      case atStart => exact ⟨0, [], [], _, _, off', _, _, _, _, rfl, ⟨rfl⟩, ⟨HLS.out⟩⟩
      case round =>
        clear HLS
        obtain ⟨j, keys, kids, v5, v6, offj, t, s, l, c, rfl, HJ, HL⟩ := hrel
        obtain ⟨A5, n5, d5, rfl⟩ : ∃ A5 n5 d5, v5 = .slice A5 n5 d5 := by obtain ⟨A, c, h⟩ := Kd.R_slice HL.out.r5; exact ⟨A, _, c, h⟩
        obtain ⟨A6, n6, d6, rfl⟩ : ∃ A6 n6 d6, v6 = .slice A6 n6 d6 := by obtain ⟨A, c, h⟩ := Kd.R_slice HL.out.r6; exact ⟨A, _, c, h⟩
        have hszr : w.heap.size < wr.heap.size := blk_lt HL.out.box
        obtain ⟨b0, b1, b2, b3, b4, b5, b6, f0, f1, f2, f3, f4, f5, f6⟩ := box7f HL.out.box
        have hjm := HL.out.hj
        have hlen := HL.out.un.len
        by_cases hj : j < m
        · have hlo := HL.out.lo
          have hoo2 := HL.out.oo
          obtain ⟨q, hq⟩ : ∃ q, m - j = q + 1 := ⟨m - j - 1, by omega⟩
          have hq2 : m - (j + 1) = q := by omega
          have HQ2 := Lib.hid hq2
          have heq := HL.out.eq
          rw [hq] at heq
          have HEQ := Lib.hid heq
          clear heq hq hq2
          by_cases hk7 : k = 7
          · subst hk7
            have heq := HEQ.out
            have e7 : ((7 : Int) == 7) = true := rfl
            rw [e7] at heq
            have hrk := round_key (p := parse f (deep + 1)) (m := q) (r := xs.drop offj) keys kids
            rw [← heq] at hrk
            have HRK := Lib.hid hrk
            clear heq HEQ e7 hrk
            by_cases hend : offj < xs.length
            · have hbyr := HL.out.un.rdb hend
              obtain ⟨t1, s1, l1, hmk, hMK, hstr, htok⟩ := mark_all (rd xs offj) hbyr.1 hbyr.2
              have HN := Lib.hid (next_ok wr HL.out.un hend)
              rw [hmk] at HN
              have HMK := Lib.hid hMK
              have HST := Lib.hid hstr
              have HTK := Lib.hid (htok (xs.drop (offj + 1)))
              clear hmk hMK hstr htok hbyr
              go_wp2_with fail
              refine HN.out.mono ?_
              rintro e w2 ⟨rfl, hu, hg⟩
              have HM2 := Lib.hid (HL.out.mid.next hlt hg hu)
              have hszr2 : wr.heap.size ≤ w2.heap.size := hg.size
              obtain ⟨c0, c1, c2, c3, c4, c5, c6, c7⟩ := hu.cells
              clear b0 b1 b2 b3 b4 b5 b6 f0 f1 f2 f3 f4 f5 f6 hu hg c0 c1 c2 c3 c4 c5 HN
              obtain ⟨b0, b1, b2, b3, b4, b5, b6, f0, f1, f2, f3, f4, f5, f6⟩ := box7f HM2.out.box
              by_cases h3 : t1 = 3
              · subst h3
                have hk3 : LK s1 l1 := MK_str HMK.out
                have hkey : key (xs.drop offj) = keyOf (tkStr 4 (lenQ l1 s1 (xs.drop (offj + 1)))) := key_yes hend (by rw [HST.out]; rfl) (by rw [HTK.out]; rfl)
                have hnw : tkStr 4 (lenQ l1 s1 (xs.drop (offj + 1))) ≠ .wild := by
                  intro he
                  rw [he] at hkey
                  apply HW.out
                  rw [← HR.out]
                  simp only [fin]
                  rw [show ((7 : Int) == 7) = true from rfl, HRK.out.1 hkey]
                have HS := Lib.hid (str_tok w2.drew hk3 HM2.out.un.drew (by omega) hnw)
                have HKEY := Lib.hid hkey
                have HNWS := Lib.hid hnw
                have hs2 : w.heap.size + 1 ≤ w2.drew.heap.size := by show w.heap.size + 1 ≤ w2.heap.size; omega
                have hl16 : (keys.length + 1) * 16 ≤ 140737488355328 := by have := HL.out.l5; omega
                clear hk3 hkey hnw
                go_wp2_with fail
                go_region_law (first
                  | (refine goes_ Try.func67 (by kernel_rfl) rfl #[.pointer (some ⟨ub, 0, none⟩)] (by rfl) rfl rfl (by simp only [List.map_toArray, List.map_cons, List.map_nil]; rfl) ?_
                     refine HS.out.mono ?_
                     rintro e w3 ⟨str, off3, ev3, rfl, hu3, hg3, hsp⟩
                     refine ⟨_, rfl, ?_⟩
                     have hm3 := HM2.out.drew.next hlt hg3 hu3
                     have b5w : w3.cell? ⟨w.heap.size, 5, none⟩ = some (.slice A5 n5 d5) := blk_cell hm3.box 5
                     have hs3 : w.heap.size + 1 ≤ w3.heap.size := Nat.le_trans hs2 hg3.size
                     have hlt3 : w.heap.size < w3.heap.size := hs3
                     have HM3 := Lib.hid hm3
                     have HSP := Lib.hid hsp
                     clear hm3 hu3 hg3 hsp)
                  | (refine Kd.R_append_step (W := w3) (w0 := w3) Kd.string (w.heap.size + 1) (by rfl) (.tmp 140) (.tmp 143) 23 9 _ 16 rfl Try.underlying23 info9 rfl (by show 0 < 1; decide) (by decide) (.slice A5 n5 d5) keys str [.string str] (fun q => w.heap.size + 1 ≤ q) (fun _ => False) (by simp [Act.eval]) (by simp [Act.eval]) rfl (fun _ h => h.elim) (fun q hq => Nat.le_trans hs3 hq) HM3.out.r5 (Below.refl _ _) hs3 hl16 ?_
                     intro v1 wk hr1 hb1 hg1 hat1
                     obtain ⟨Ak, nk, ck, rfl⟩ : ∃ A1 n1 c1, v1 = .slice A1 n1 c1 := by obtain ⟨A, c, h⟩ := Kd.R_slice hr1; exact ⟨A, _, c, h⟩
                     have hbx3 := blk_grown HM3.out.box hg1 (fun he => by have := Kd.R_base HM3.out.r5 _ he.symm; omega)
                     have b5k := blk_cell hbx3 5
                     have f5k := blk_frozen hbx3 5))
                all_goals
                  have HM4 := Lib.hid (HM3.out.key hlt HA.out hr1 hg1 hat1)
                  have hszr2 : w.heap.size < (wk.setCell ⟨w.heap.size, 5, none⟩ (.slice Ak nk ck)).heap.size := blk_lt HM4.out.box
                  clear hr1 hb1 hg1 hat1 hbx3 b5k f5k b5w HS b0 b1 b2 b3 b4 b5 b6 f0 f1 f2 f3 f4 f5 f6 c6 c7
                  obtain ⟨c0, c1, c2, c3, c4, c5, c6, c7⟩ := HM4.out.un.cells
                  obtain ⟨b0, b1, b2, b3, b4, b5, b6, f0, f1, f2, f3, f4, f5, f6⟩ := box7f HM4.out.box
                  clear c0 c1 c2 c3 c4 c5 c7
                  cases htk : tkStr 4 (lenQ l1 s1 (xs.drop (offj + 1))) with
                  | wild => exact absurd htk HNWS.out
                  | opn a b c d => exact (str_no_opn htk).elim
                  | bad =>
                    obtain ⟨T, u, rfl⟩ := HSP.out.bad htk
                    have hkey := HKEY.out
                    rw [htk] at hkey
                    have hR : fin f deep (Tk.opn 7 i m (xs.drop off')) = .bad 1 := by
                      simp only [fin]
                      rw [show ((7 : Int) == 7) = true from rfl, HRK.out.2.1 1 hkey]
                    have hR2 := hR.symm.trans HR.out
                    subst hR2
                    clear htk hkey hR
                    go_wp2_with fail
                    refine bodyPost_ret (results_ct rfl _ _ w.heap.size 26 #[.int .i64 0, .bool false, .int .i64 0, .int .u64 0, .string ⟨#[]⟩, .slice none 0 0, .slice none 0 0] (0, 0) _ rfl (zero_box HM4.out.box) Try.underlying26 rfl (by kernel_rfl)) rfl ?_
                    exact ⟨grown_new7 HM4.out.gr _ _ _ _ _ _ _, rfl⟩
                  | val x0 r0 =>
                    obtain ⟨hst0, hdr3, hoo3, rfl⟩ := HSP.out.ok x0 r0 htk
                    have hkey := HKEY.out
                    rw [htk] at hkey
                    simp only [keyOf] at hkey
                    rw [← hst0, ← hdr3] at hkey
                    obtain ⟨k1, k2, k3⟩ := HRK.out.2.2 _ _ hkey
                    have hkl := (key_len (Bytes.drop HL.out.un.byte offj) hkey).1
                    rw [List.length_drop, List.length_drop] at hkl
                    have hnw : parse f (deep + 1) (xs.drop off3) ≠ .wild := by
                      intro he
                      apply HW.out
                      rw [← HR.out]
                      simp only [fin]
                      rw [show ((7 : Int) == 7) = true from rfl, k1 he]
                    have HIH := Lib.hid (ih ub A cap xs (deep + 1) off3 3 s1 l1 3 (wk.setCell ⟨w.heap.size, 5, none⟩ (.slice Ak nk ck)) (by omega) (by omega) HM4.out.un hoo3 (fun ad ha => by have := HA.out ad ha; omega) hnw)
                    have HB2 : Hid (∀ cc, parse f (deep + 1) (xs.drop off3) = .bad cc → PR.bad cc = R) := fun cc hc => by rw [← HR.out]; simp only [fin]; rw [show ((7 : Int) == 7) = true from rfl, k2 cc hc]
                    have HO2 : Hid (∀ x r', parse f (deep + 1) (xs.drop off3) = .ok x r' → rows (parse f (deep + 1)) ((7 : Int) == 7) m (xs.drop off') = (rows (parse f (deep + 1)) ((7 : Int) == 7) (m - (j + 1)) r').pres (keys ++ [str]) (kids ++ [x])) := fun x r' hc => by rw [HQ2.out]; exact k3 x r' hc
                    have HMID := Lib.hid HM4.out
                    have HLK := Lib.hid HL.out.lk
                    have hl5 : (keys ++ [str]).length ≤ j + 1 := by have := HL.out.l5; rw [List.length_append, List.length_singleton]; omega
                    clear htk hst0 hdr3 hkey k1 k2 k3 hnw HSP HM3 HKEY HNWS HRK
                    go_wp2_with fail
                    refine HIH.out.mono ?_
                    rintro e w2 ⟨hg, hres⟩
                    have hst := HMID.out.step hlt hg
                    have hsz2 := hg.size
                    clear b0 b1 b2 b3 b4 b5 b6 f0 f1 f2 f3 f4 f5 f6
                    cases hp : parse f (deep + 1) (xs.drop off3) with
                    | wild => rw [hp] at hres; exact hres.elim
                    | bad cc =>
                      rw [hp] at hres
                      simp only at hres
                      subst hres
                      have hc13 := parse_bad _ _ _ _ hp
                      have hR2 := HB2.out cc hp
                      subst hR2
                      have hbx := (Below.heap_alloc w2 (.cells #[.int .i64 0, .bool false, .int .i64 0, .int .u64 0, .string ⟨#[]⟩, .slice none 0 0, .slice none 0 0] 26) _ (blk_lt hst.1)).trans hst.1
                      obtain ⟨b0, b1, b2, b3, b4, b5, b6, f0, f1, f2, f3, f4, f5, f6⟩ := box7f hbx
                      have HBX := Lib.hid hbx
                      have HGR := Lib.hid (grown_trans' hst.2.1 (World.grownBy_alloc w2 (.cells #[.int .i64 0, .bool false, .int .i64 0, .int .u64 0, .string ⟨#[]⟩, .slice none 0 0, .slice none 0 0] 26) (some ub)))
                      clear hst hg hbx hp HIH HB2 HO2
                      rcases hc13 with rfl | rfl
                      all_goals
                        go_wp2_with fail
                        refine bodyPost_ret (results_ct rfl _ _ w.heap.size 26 #[.int .i64 0, .bool false, .int .i64 0, .int .u64 0, .string ⟨#[]⟩, .slice none 0 0, .slice none 0 0] (0, 0) _ rfl (zero_box HBX.out) Try.underlying26 rfl (by kernel_rfl)) rfl ?_
                        exact ⟨grown_new7 HGR.out _ _ _ _ _ _ _, rfl⟩
                    | ok x r2 =>
                      rw [hp] at hres
                      obtain ⟨v5x, v6x, offx, t', s', l', c', rfl, hr5, hr6, hux, hdr, hox⟩ := hres
                      obtain ⟨A5x, n5x, d5x, rfl⟩ : ∃ A5 n5 d5, v5x = .slice A5 n5 d5 := by obtain ⟨A, c, h⟩ := Kd.R_slice hr5; exact ⟨A, _, c, h⟩
                      obtain ⟨A6x, n6x, d6x, rfl⟩ : ∃ A6 n6 d6, v6x = .slice A6 n6 d6 := by obtain ⟨A, c, h⟩ := Kd.R_slice hr6; exact ⟨A, _, c, h⟩
                      have hcons := (parse_len _ _ _ _ _ (Bytes.drop HL.out.un.byte off3) hp).1
                      rw [← hdr, List.length_drop, List.length_drop] at hcons
                      have heq3 := HO2.out x r2 hp
                      rw [← hdr] at heq3
                      obtain ⟨hok1, hok2⟩ := HMID.out.ok6 (W := w2.alloc (.cells #[.int .i64 x.f0, .bool x.f1, .int .i64 x.f2, .int .u64 x.f3, .string x.f4, .slice A5x n5x d5x, .slice A6x n6x d6x] 26)) (by rw [World.size_alloc]; omega) hszr2
                      have HM := Lib.hid (PAll.k26_mkM (w2.alloc (.cells #[.int .i64 x.f0, .bool x.f1, .int .i64 x.f2, .int .u64 x.f3, .string x.f4, .slice A5x n5x d5x, .slice A6x n6x d6x] 26)) (w.heap.size + 1) (fun q => (wk.setCell ⟨w.heap.size, 5, none⟩ (.slice Ak nk ck)).heap.size ≤ q) x (Kd.R_alloc (Kd.R_lower hr5 (by omega)) _) (Kd.R_alloc (Kd.R_lower hr6 (by omega)) _))
                      have HOK1 := Lib.hid hok1
                      have HOK2 := Lib.hid hok2
                      have hbx := (Below.heap_alloc w2 (.cells #[.int .i64 x.f0, .bool x.f1, .int .i64 x.f2, .int .u64 x.f3, .string x.f4, .slice A5x n5x d5x, .slice A6x n6x d6x] 26) _ (blk_lt hst.1)).trans hst.1
                      have HBX := Lib.hid hbx
                      have HR5 := Lib.hid (Kd.R_alloc hst.2.2.1 (.cells #[.int .i64 x.f0, .bool x.f1, .int .i64 x.f2, .int .u64 x.f3, .string x.f4, .slice A5x n5x d5x, .slice A6x n6x d6x] 26))
                      have HR6 := Lib.hid (Kd.R_alloc hst.2.2.2 (.cells #[.int .i64 x.f0, .bool x.f1, .int .i64 x.f2, .int .u64 x.f3, .string x.f4, .slice A5x n5x d5x, .slice A6x n6x d6x] 26))
                      have HUX := Lib.hid (hux.alloc (.cells #[.int .i64 x.f0, .bool x.f1, .int .i64 x.f2, .int .u64 x.f3, .string x.f4, .slice A5x n5x d5x, .slice A6x n6x d6x] 26))
                      have HGR := Lib.hid (grown_trans' hst.2.1 (World.grownBy_alloc w2 (.cells #[.int .i64 x.f0, .bool x.f1, .int .i64 x.f2, .int .u64 x.f3, .string x.f4, .slice A5x n5x d5x, .slice A6x n6x d6x] 26) (some ub)))
                      have hlk := HLK.out
                      have hl96 : (kids.length + 1) * 96 ≤ 140737488355328 := by omega
                      have HE3 := Lib.hid heq3
                      obtain ⟨b0, b1, b2, b3, b4, b5, b6, f0, f1, f2, f3, f4, f5, f6⟩ := box7f hbx
                      clear hst hg hbx hp HIH HB2 HO2 hr5 hr6 hux hdr heq3 hok1 hok2 hlk b0 b1 b2 b3 b4 b5 f0 f1 f2 f3 f4 f5
                      go_wp2_with (at_builtin; refine Kd.R_append (w0 := w2.alloc (.cells #[.int .i64 x.f0, .bool x.f1, .int .i64 x.f2, .int .u64 x.f3, .string x.f4, .slice A5x n5x d5x, .slice A6x n6x d6x] 26)) k26 (w.heap.size + 1) rfl (.tmp 164) (.tmp 166) 24 26 _ 96 rfl Try.underlying24 info26 rfl (by show 0 < 7; decide) (by decide) (.slice A6 n6 d6) kids x [.int .i64 x.f0, .bool x.f1, .int .i64 x.f2, .int .u64 x.f3, .string x.f4, .slice A5x n5x d5x, .slice A6x n6x d6x] (fun q => w.heap.size + 1 ≤ q ∧ some q ≠ (Value.slice Ak nk ck).ownBlock) (fun q => (wk.setCell ⟨w.heap.size, 5, none⟩ (.slice Ak nk ck)).heap.size ≤ q) (by simp [Act.eval]) (by simp [Act.eval]) HM.out HOK1.out HOK2.out HR6.out (Below.refl _ _) (by simp; omega) hl96 ?_; intro v1 w3 hr1 hb1 hg1 hat1; obtain ⟨A1, n1, c1, rfl⟩ : ∃ A1 n1 c1, v1 = .slice A1 n1 c1 := (by obtain ⟨A, c, h⟩ := Kd.R_slice hr1; exact ⟨A, _, c, h⟩); have hbx3 := blk_grown HBX.out hg1 (fun he => by have := Kd.R_base HR6.out _ he.symm; omega); have hc63 := blk_cell hbx3 6; have hf63 := blk_frozen hbx3 6)
                      have HN := Lib.hid (LoopP.kid (n := m) (p := parse f (deep + 1)) (r0 := xs.drop off') (keys ++ [str]) (.slice Ak nk ck) hlt HA.out hj HLK.out hl5 hox (by omega) HBX.out HUX.out HGR.out HR5.out HR6.out hr1 hg1 HE3.out)
                      clear hr1 hb1 hg1 hat1 hbx3 hc63 hf63
                      go_roundg (m - (j + 1))
                      case measure => have := HJ.out; omega
                      case rel => exact ⟨j + 1, keys ++ [str], kids ++ [x], _, _, offx, _, _, _, _, by go_num, ⟨rfl⟩, ⟨HN.out⟩⟩
              · have h3a : (t1 == 3) = false := by simpa using h3
                have h3b : (t1 != 3) = true := by simpa using h3
                have hks := HST.out
                rw [h3a] at hks
                have hR : fin f deep (Tk.opn 7 i m (xs.drop off')) = .bad 3 := by
                  simp only [fin]
                  rw [show ((7 : Int) == 7) = true from rfl, HRK.out.2.1 3 (key_no hend hks)]
                have hR2 := hR.symm.trans HR.out
                subst hR2
                clear hks
                go_wp2_with fail
                refine bodyPost_ret (results_ct rfl _ _ w.heap.size 26 #[.int .i64 0, .bool false, .int .i64 0, .int .u64 0, .string ⟨#[]⟩, .slice none 0 0, .slice none 0 0] (0, 0) _ rfl (zero_box HM2.out.box) Try.underlying26 rfl (by kernel_rfl)) rfl ?_
                exact ⟨grown_new7 HM2.out.gr _ _ _ _ _ _ _, rfl⟩
            · have HN := Lib.hid (next_end wr HL.out.un (by omega) (by omega))
              have hR : fin f deep (Tk.opn 7 i m (xs.drop off')) = .bad 1 := by
                simp only [fin]
                rw [show ((7 : Int) == 7) = true from rfl, HRK.out.2.1 1 (key_end (by omega))]
              have hR2 := hR.symm.trans HR.out
              subst hR2
              go_wp2_with fail
              refine HN.out.mono ?_
              rintro e w2 ⟨rfl, ⟨ev', hu, ⟨T, u, rfl⟩⟩, hg⟩
              have HM2 := Lib.hid (HL.out.mid.next hlt hg hu)
              obtain ⟨c0, c1, c2, c3, c4, c5, c6, c7⟩ := hu.cells
              clear b0 b1 b2 b3 b4 b5 b6 f0 f1 f2 f3 f4 f5 f6 hu hg c0 c1 c2 c3 c4 c5 c7 HN
              obtain ⟨b0, b1, b2, b3, b4, b5, b6, f0, f1, f2, f3, f4, f5, f6⟩ := box7f HM2.out.box
              go_wp2_with fail
              refine bodyPost_ret (results_ct rfl _ _ w.heap.size 26 #[.int .i64 0, .bool false, .int .i64 0, .int .u64 0, .string ⟨#[]⟩, .slice none 0 0, .slice none 0 0] (0, 0) _ rfl (zero_box HM2.out.box) Try.underlying26 rfl (by kernel_rfl)) rfl ?_
              exact ⟨grown_new7 HM2.out.gr _ _ _ _ _ _ _, rfl⟩
          · have hk7b : (k == 7) = false := by simpa using hk7
            have heq := HEQ.out
            rw [hk7b] at heq
            obtain ⟨r1, r2, r3⟩ := round_list (p := parse f (deep + 1)) (m := q) (r := xs.drop offj) keys kids
            have hnw : parse f (deep + 1) (xs.drop offj) ≠ .wild := by
              intro he
              apply HW.out
              rw [← HR.out]
              simp only [fin, hk7b]
              rw [heq, r1 he]
            have HIH := Lib.hid (ih ub A cap xs (deep + 1) offj t s l c wr (by omega) (by omega) HL.out.un HL.out.oo (fun ad ha => by have := HA.out ad ha; omega) hnw)
            have HB2 : Hid (∀ cc, parse f (deep + 1) (xs.drop offj) = .bad cc → PR.bad cc = R) := fun cc hc => by rw [← HR.out]; simp only [fin, hk7b]; rw [heq, r2 cc hc]
            have HO2 : Hid (∀ x r', parse f (deep + 1) (xs.drop offj) = .ok x r' → rows (parse f (deep + 1)) (k == 7) m (xs.drop off') = (rows (parse f (deep + 1)) (k == 7) (m - (j + 1)) r').pres keys (kids ++ [x])) := fun x r' hc => by rw [hk7b, HQ2.out]; exact heq.trans (r3 x r' hc)
            have HMID := Lib.hid HL.out.mid
            have HLK := Lib.hid HL.out.lk
            have hl5 : keys.length ≤ j + 1 := by have := HL.out.l5; omega
            clear heq r1 r2 r3 hnw HEQ
            go_wp2_with fail
            refine HIH.out.mono ?_
            rintro e w2 ⟨hg, hres⟩
            have hst := HMID.out.step hlt hg
            have hsz2 := hg.size
            clear b0 b1 b2 b3 b4 b5 b6 f0 f1 f2 f3 f4 f5 f6
            cases hp : parse f (deep + 1) (xs.drop offj) with
            | wild => rw [hp] at hres; exact hres.elim
            | bad cc =>
              rw [hp] at hres
              simp only at hres
              subst hres
              have hc13 := parse_bad _ _ _ _ hp
              have hR2 := HB2.out cc hp
              subst hR2
              have hbx := (Below.heap_alloc w2 (.cells #[.int .i64 0, .bool false, .int .i64 0, .int .u64 0, .string ⟨#[]⟩, .slice none 0 0, .slice none 0 0] 26) _ (blk_lt hst.1)).trans hst.1
              obtain ⟨b0, b1, b2, b3, b4, b5, b6, f0, f1, f2, f3, f4, f5, f6⟩ := box7f hbx
              have HBX := Lib.hid hbx
              have HGR := Lib.hid (grown_trans' hst.2.1 (World.grownBy_alloc w2 (.cells #[.int .i64 0, .bool false, .int .i64 0, .int .u64 0, .string ⟨#[]⟩, .slice none 0 0, .slice none 0 0] 26) (some ub)))
              clear hst hg hbx hp HIH HB2 HO2
              rcases hc13 with rfl | rfl
              all_goals
                go_wp2_with fail
                refine bodyPost_ret (results_ct rfl _ _ w.heap.size 26 #[.int .i64 0, .bool false, .int .i64 0, .int .u64 0, .string ⟨#[]⟩, .slice none 0 0, .slice none 0 0] (0, 0) _ rfl (zero_box HBX.out) Try.underlying26 rfl (by kernel_rfl)) rfl ?_
                exact ⟨grown_new7 HGR.out _ _ _ _ _ _ _, rfl⟩
            | ok x r2 =>
              rw [hp] at hres
              obtain ⟨v5x, v6x, offx, t', s', l', c', rfl, hr5, hr6, hux, hdr, hox⟩ := hres
              obtain ⟨A5x, n5x, d5x, rfl⟩ : ∃ A5 n5 d5, v5x = .slice A5 n5 d5 := by obtain ⟨A, c, h⟩ := Kd.R_slice hr5; exact ⟨A, _, c, h⟩
              obtain ⟨A6x, n6x, d6x, rfl⟩ : ∃ A6 n6 d6, v6x = .slice A6 n6 d6 := by obtain ⟨A, c, h⟩ := Kd.R_slice hr6; exact ⟨A, _, c, h⟩
              have hcons := (parse_len _ _ _ _ _ (Bytes.drop HL.out.un.byte offj) hp).1
              rw [← hdr, List.length_drop, List.length_drop] at hcons
              have heq3 := HO2.out x r2 hp
              rw [← hdr] at heq3
              obtain ⟨hok1, hok2⟩ := HMID.out.ok6 (W := w2.alloc (.cells #[.int .i64 x.f0, .bool x.f1, .int .i64 x.f2, .int .u64 x.f3, .string x.f4, .slice A5x n5x d5x, .slice A6x n6x d6x] 26)) (by rw [World.size_alloc]; omega) hszr
              have HM := Lib.hid (PAll.k26_mkM (w2.alloc (.cells #[.int .i64 x.f0, .bool x.f1, .int .i64 x.f2, .int .u64 x.f3, .string x.f4, .slice A5x n5x d5x, .slice A6x n6x d6x] 26)) (w.heap.size + 1) (fun q => wr.heap.size ≤ q) x (Kd.R_alloc (Kd.R_lower hr5 (by omega)) _) (Kd.R_alloc (Kd.R_lower hr6 (by omega)) _))
              have HOK1 := Lib.hid hok1
              have HOK2 := Lib.hid hok2
              have hbx := (Below.heap_alloc w2 (.cells #[.int .i64 x.f0, .bool x.f1, .int .i64 x.f2, .int .u64 x.f3, .string x.f4, .slice A5x n5x d5x, .slice A6x n6x d6x] 26) _ (blk_lt hst.1)).trans hst.1
              have HBX := Lib.hid hbx
              have HR5 := Lib.hid (Kd.R_alloc hst.2.2.1 (.cells #[.int .i64 x.f0, .bool x.f1, .int .i64 x.f2, .int .u64 x.f3, .string x.f4, .slice A5x n5x d5x, .slice A6x n6x d6x] 26))
              have HR6 := Lib.hid (Kd.R_alloc hst.2.2.2 (.cells #[.int .i64 x.f0, .bool x.f1, .int .i64 x.f2, .int .u64 x.f3, .string x.f4, .slice A5x n5x d5x, .slice A6x n6x d6x] 26))
              have HUX := Lib.hid (hux.alloc (.cells #[.int .i64 x.f0, .bool x.f1, .int .i64 x.f2, .int .u64 x.f3, .string x.f4, .slice A5x n5x d5x, .slice A6x n6x d6x] 26))
              have HGR := Lib.hid (grown_trans' hst.2.1 (World.grownBy_alloc w2 (.cells #[.int .i64 x.f0, .bool x.f1, .int .i64 x.f2, .int .u64 x.f3, .string x.f4, .slice A5x n5x d5x, .slice A6x n6x d6x] 26) (some ub)))
              have hlk := HLK.out
              have hl96 : (kids.length + 1) * 96 ≤ 140737488355328 := by omega
              have HE3 := Lib.hid heq3
              obtain ⟨b0, b1, b2, b3, b4, b5, b6, f0, f1, f2, f3, f4, f5, f6⟩ := box7f hbx
              clear hst hg hbx hp HIH HB2 HO2 hr5 hr6 hux hdr heq3 hok1 hok2 hlk b0 b1 b2 b3 b4 b5 f0 f1 f2 f3 f4 f5
              go_wp2_with (at_builtin; refine Kd.R_append (w0 := w2.alloc (.cells #[.int .i64 x.f0, .bool x.f1, .int .i64 x.f2, .int .u64 x.f3, .string x.f4, .slice A5x n5x d5x, .slice A6x n6x d6x] 26)) k26 (w.heap.size + 1) rfl (.tmp 164) (.tmp 166) 24 26 _ 96 rfl Try.underlying24 info26 rfl (by show 0 < 7; decide) (by decide) (.slice A6 n6 d6) kids x [.int .i64 x.f0, .bool x.f1, .int .i64 x.f2, .int .u64 x.f3, .string x.f4, .slice A5x n5x d5x, .slice A6x n6x d6x] (fun q => w.heap.size + 1 ≤ q ∧ some q ≠ (Value.slice A5 n5 d5).ownBlock) (fun q => wr.heap.size ≤ q) (by simp [Act.eval]) (by simp [Act.eval]) HM.out HOK1.out HOK2.out HR6.out (Below.refl _ _) (by simp; omega) hl96 ?_; intro v1 w3 hr1 hb1 hg1 hat1; obtain ⟨A1, n1, c1, rfl⟩ : ∃ A1 n1 c1, v1 = .slice A1 n1 c1 := (by obtain ⟨A, c, h⟩ := Kd.R_slice hr1; exact ⟨A, _, c, h⟩); have hbx3 := blk_grown HBX.out hg1 (fun he => by have := Kd.R_base HR6.out _ he.symm; omega); have hc63 := blk_cell hbx3 6; have hf63 := blk_frozen hbx3 6)
              have HN := Lib.hid (LoopP.kid (n := m) (p := parse f (deep + 1)) (r0 := xs.drop off') (keys) (.slice A5 n5 d5) hlt HA.out hj HLK.out hl5 hox (by omega) HBX.out HUX.out HGR.out HR5.out HR6.out hr1 hg1 HE3.out)
              clear hr1 hb1 hg1 hat1 hbx3 hc63 hf63
              go_roundg (m - (j + 1))
              case measure => have := HJ.out; omega
              case rel => exact ⟨j + 1, keys, kids ++ [x], _, _, offx, _, _, _, _, by go_num, ⟨rfl⟩, ⟨HN.out⟩⟩
        · obtain rfl : j = m := by omega
          have hR : fin f deep (Tk.opn k i j (xs.drop off')) = .ok ⟨k, false, i, 0, ⟨#[]⟩, keys, kids⟩ (xs.drop offj) := by
            have heq := HL.out.eq
            rw [Nat.sub_self] at heq
            simp only [fin]
            rw [heq]
            simp [rows, PRs.pres]
          have hR2 := hR.symm.trans HR.out
          subst hR2
          go_wp2_with fail
          refine bodyPost_ret (results_ct rfl _ _ w.heap.size 26 #[.int .i64 k, .bool false, .int .i64 i, .int .u64 0, .string ⟨#[]⟩, .slice A5 n5 d5, .slice A6 n6 d6] (0, 0) _ rfl (fill_box HL.out.box) Try.underlying26 rfl (by kernel_rfl)) rfl ?_
          refine ⟨grown_new7 HL.out.gr _ _ _ _ _ _ _, .slice A5 n5 d5, .slice A6 n6 d6, offj, _, _, _, _, rfl, ?_, ?_, HL.out.un.far7 (by omega) HF.out _ _ _ _ _ _ _, rfl, HL.out.oo⟩
          · exact Kd.R_lower (Kd.R_mono (far7R HL.out.r5 (fun q hq => by omega) _ _ _ _ _ _ _) (fun q hq => by omega)) (by omega)
          · exact Kd.R_lower (Kd.R_mono (far7R HL.out.r6 (fun q hq => by have := hq.1; omega) _ _ _ _ _ _ _) (fun q hq => by have := hq.1; omega)) (by omega)
end
end Go.Proofs.Ytjnookhdiolhgaa

namespace Go.Proofs.Ytjnookhdiolhgaa
set_option linter.unusedVariables false
open Go.RowKit Go.Proofs.YtjnookhdiolhgaaW.PrintWords
open PAll (S26 k26)

theorem unpack_any : ∀ f, UnpSaid f := by
  intro f
  induction f with
  | zero =>
    intro ub A cap xs deep off t s l c w hd0 hd hu ho hA hw
    exact absurd rfl hw
  | succ f ih =>
    intro ub A cap xs deep off t s l c w hd0 hd hu ho hA hw
    by_cases hdeep : 1000 < deep
    · have hp : parse (f + 1) deep (xs.drop off) = .bad 3 := by simp only [parse]; rw [if_pos hdeep]
      rw [hp]
      exact unp_deep w deep hdeep hu.lt
    · by_cases hend : off < xs.length
      · have hb := hu.rdb hend
        obtain ⟨t1, s1, l1, hm, hmk, _, htok⟩ := mark_all (rd xs off) hb.1 hb.2
        have htk := tok_at hend
        rw [htok] at htk
        have hpf : parse (f + 1) deep (xs.drop off) = fin f deep (tokM t1 s1 l1 (xs.drop (off + 1))) := by rw [parse_fin (by omega), htk]
        rw [hpf] at hw ⊢
        exact unp_main f ih t1 s1 l1 hmk w deep hd0 (by omega) hu hend hA hm _ rfl hw
      · have hp : parse (f + 1) deep (xs.drop off) = .bad 1 := by
          rw [List.drop_of_length_le (by omega)]
          simp only [parse]
          rw [if_neg hdeep]
          rfl
        rw [hp]
        exact unp_end w deep (by omega) hu (by omega) (by have := hu.len; omega)
end Go.Proofs.Ytjnookhdiolhgaa

namespace Go.Proofs.Ytjnookhdiolhgaa
set_option linter.unusedVariables false
set_option linter.unusedSimpArgs false
open Go.RowKit Go.Proofs.YtjnookhdiolhgaaW.PrintWords
open PAll (S26 k26)

theorem idle71 (a b c : Value) (w : World) :
    CallsD Try.prog 71 #[a, b, c] .returning w fun e u' w' => e = .returned (.tuple #[]) ∧ u' = .returning ∧ w' = w := by
  refine callsD_of_wpS Try.func71 rfl fun c₀ cs hu => ?_
  apply wpS_seq
  apply wpS_region
  simp [wpOpsS, go_sem, recoverD, hu, Try.ntmps71, Exit.thenS]
  refine wpS_cond (t := false) (by simp [Act.eval, Array.replicate]) ?_
  simp only [Bool.false_eq_true, if_false]
  refine wpS_of_wp (wp_skip ?_)
  cases c₀
  simp_all [bodyPostS, results, Try.results71]
theorem idle75 (a b : Value) (w : World) :
    CallsD Try.prog 75 #[a, b] .returning w fun e u' w' => e = .returned (.tuple #[]) ∧ u' = .returning ∧ w' = w := by
  refine callsD_of_wpS Try.func75 rfl fun c₀ cs hu => ?_
  apply wpS_seq
  apply wpS_region
  simp [wpOpsS, go_sem, recoverD, hu, Try.ntmps75, Exit.thenS]
  refine wpS_cond (t := false) (by simp [Act.eval, Array.replicate]) ?_
  simp only [Bool.false_eq_true, if_false]
  refine wpS_of_wp (wp_skip ?_)
  cases c₀
  simp_all [bodyPostS, results, Try.results75]

theorem res29 (tmps : Array Value) (w : World) (g g1 g2 : Nat) (a b c d e f k : Value) (x y : Int) (h2 : tmps.getD 2 undef = .pointer (some ⟨g, 0, none⟩)) (h3 : tmps.getD 3 undef = .pointer (some ⟨g1, 0, none⟩)) (h4 : tmps.getD 4 undef = .pointer (some ⟨g2, 0, none⟩))
    (hg : w.heap[g]? = some (.cells #[a, b, c, d, e, f, k] 26 (0, 0))) (hx : w.heap[g1]? = some (.cells #[.int .i64 x] 3 (0, 0))) (hy : w.heap[g2]? = some (.cells #[.int .i64 y] 3 (0, 0))) :
    (results Try.f29 tmps).run Try.prog w = .ok (.tuple #[.agg #[a, b, c, d, e, f, k], .int .i64 x, .int .i64 y]) w := by
  have h2' : tmps[2]?.getD undef = .pointer (some ⟨g, 0, none⟩) := by simpa using h2
  have h3' : tmps[3]?.getD undef = .pointer (some ⟨g1, 0, none⟩) := by simpa using h3
  have h4' : tmps[4]?.getD undef = .pointer (some ⟨g2, 0, none⟩) := by simpa using h4
  have c1 : w.cell? ⟨g1, 0, none⟩ = some (.int .i64 x) := blk_cell hx 0
  have c2 : w.cell? ⟨g2, 0, none⟩ = some (.int .i64 y) := blk_cell hy 0
  obtain ⟨b0, b1, b2, b3, b4, b5, b6⟩ := box7 hg
  simp [results, Try.results29, h2', h3', h4', asAddr, go_sem, c1, c2, b0, b1, b2, b3, b4, b5, b6]

def z26o : Obj := .cells #[.int .i64 0, .bool false, .int .i64 0, .int .u64 0, .string ⟨#[]⟩, .slice none 0 0, .slice none 0 0] 26
def i0o : Obj := .cells #[.int .i64 0] 3
def u0o : Obj := .cells #[.slice none 0 0, .int .u32 0, .int .u32 0, .int .i64 0, .int .i8 0, .int .u8 0, .nilIface, .int .i64 0] 117
/-- Unpack's world behind its variables. -/
def SW (w : World) (s : ByteArray) : World := Lib.bytesWorld ((((w.alloc z26o).alloc i0o).alloc i0o).alloc u0o) 5 s
theorem SW_heap (w : World) (s : ByteArray) (g : Nat) (hg : g < w.heap.size + 4) : (SW w s).heap[g]? = ((((w.alloc z26o).alloc i0o).alloc i0o).alloc u0o).heap[g]? :=
  (bytes_below (Below.refl _ ((((w.alloc z26o).alloc i0o).alloc i0o).alloc u0o)) (Nat.le_refl _) 5 s).block g (by simp; omega)
theorem SW_boxes (w : World) (s : ByteArray) : (SW w s).heap[w.heap.size]? = some z26o ∧ (SW w s).heap[w.heap.size + 1]? = some i0o ∧ (SW w s).heap[w.heap.size + 1 + 1]? = some i0o ∧ (SW w s).heap[w.heap.size + 1 + 1 + 1]? = some u0o := by
  refine ⟨?_, ?_, ?_, ?_⟩
  · rw [SW_heap w s _ (by omega), Below.heap_alloc _ _ _ (by simp; omega), Below.heap_alloc _ _ _ (by simp; omega), Below.heap_alloc _ _ _ (by simp)]
    exact heap_alloc_new w _
  · rw [SW_heap w s _ (by omega), Below.heap_alloc _ _ _ (by simp), Below.heap_alloc _ _ _ (by simp)]
    have h := heap_alloc_new (w.alloc z26o) i0o
    rw [World.size_alloc] at h
    exact h
  · rw [SW_heap w s _ (by omega), Below.heap_alloc _ _ _ (by simp)]
    have h := heap_alloc_new ((w.alloc z26o).alloc i0o) i0o
    rw [World.size_alloc, World.size_alloc] at h
    exact h
  · rw [SW_heap w s _ (by omega)]
    have h := heap_alloc_new (((w.alloc z26o).alloc i0o).alloc i0o) u0o
    rw [World.size_alloc, World.size_alloc, World.size_alloc] at h
    exact h
theorem SW_below (w : World) (s : ByteArray) : Below w.heap.size w (SW w s) := bytes_below (below_alloc (below_alloc (below_alloc (below_alloc (Below.refl _ _) _) _) _) _) (by simp; omega) 5 s
theorem SW_size (w : World) (s : ByteArray) : w.heap.size + 4 < (SW w s).heap.size := by
  unfold SW
  rw [Lib.bytesWorld_size]
  simp
theorem SW_reset (w : World) (s : ByteArray) (hs : s.size ≤ 2147483647) : ∃ cap, ((((w.alloc z26o).alloc i0o).alloc i0o).alloc u0o) = ((((w.alloc z26o).alloc i0o).alloc i0o).alloc u0o) ∧ cap = grownCap ((((w.alloc z26o).alloc i0o).alloc i0o).alloc u0o) s.size 0 5 ∧
    Calls Try.prog 60 #[.pointer (some ⟨w.heap.size + 1 + 1 + 1, 0, none⟩), .slice (some ⟨w.heap.size + 1 + 1 + 1 + 1, 0, none⟩) s.size cap] (SW w s) fun e w' => e = .returned (.tuple #[]) ∧
      UB w' (w.heap.size + 1 + 1 + 1) (some ⟨w.heap.size + 1 + 1 + 1 + 1, 0, none⟩) cap (bytesOf s) 0 0 0 0 .nilIface 0 ∧ (SW w s).grownBy w' (some (w.heap.size + 1 + 1 + 1)) := by
  refine ⟨_, rfl, rfl, ?_⟩
  have hr := bytes_reads ((((w.alloc z26o).alloc i0o).alloc i0o).alloc u0o) 5 s (by omega)
  rw [World.size_alloc, World.size_alloc, World.size_alloc, World.size_alloc, ← bytesOf_length s] at hr
  have hb := (SW_boxes w s).2.2.2
  have h := reset_any (xs := bytesOf s) (cap := grownCap ((((w.alloc z26o).alloc i0o).alloc i0o).alloc u0o) s.size 0 5) (SW w s) hb hr (by rw [bytesOf_length]; exact grownCap_ge _ _ _ _) (fun ad e => by injection e with e; subst e; show w.heap.size + 1 + 1 + 1 + 1 ≠ w.heap.size + 1 + 1 + 1; omega)
    (by rw [bytesOf_length]; exact hs) (bytesOf_bytes s)
  rw [bytesOf_length] at h
  exact h

theorem far7b {w : World} {g g' : Nat} {cs : Array Value} {t : TypeId} (h : w.heap[g']? = some (.cells cs t (0, 0))) (hne : g' ≠ g) (a b c d e f k : Value) :
    (((((((w.setCell ⟨g, 0, none⟩ a).setCell ⟨g, 1, none⟩ b).setCell ⟨g, 2, none⟩ c).setCell ⟨g, 3, none⟩ d).setCell ⟨g, 4, none⟩ e).setCell ⟨g, 5, none⟩ f).setCell ⟨g, 6, none⟩ k).heap[g']? = some (.cells cs t (0, 0)) :=
  blk_far (blk_far (blk_far (blk_far (blk_far (blk_far (blk_far h (p := ⟨g, 0, none⟩) hne _) (p := ⟨g, 1, none⟩) hne _) (p := ⟨g, 2, none⟩) hne _) (p := ⟨g, 3, none⟩) hne _) (p := ⟨g, 4, none⟩) hne _) (p := ⟨g, 5, none⟩) hne _) (p := ⟨g, 6, none⟩) hne _
theorem below7 {w w1 : World} (h : Below w.heap.size w w1) {g : Nat} (hg : w.heap.size ≤ g) (a b c d e f k : Value) :
    Below w.heap.size w (((((((w1.setCell ⟨g, 0, none⟩ a).setCell ⟨g, 1, none⟩ b).setCell ⟨g, 2, none⟩ c).setCell ⟨g, 3, none⟩ d).setCell ⟨g, 4, none⟩ e).setCell ⟨g, 5, none⟩ f).setCell ⟨g, 6, none⟩ k) :=
  below_set (below_set (below_set (below_set (below_set (below_set (below_set h hg) hg) hg) hg) hg) hg) hg

def set7 (w : World) (g : Nat) (a b c d e f k : Value) : World := ((((((w.setCell ⟨g, 0, none⟩ a).setCell ⟨g, 1, none⟩ b).setCell ⟨g, 2, none⟩ c).setCell ⟨g, 3, none⟩ d).setCell ⟨g, 4, none⟩ e).setCell ⟨g, 5, none⟩ f).setCell ⟨g, 6, none⟩ k
theorem set7_far {w : World} {g q : Nat} (hq : q ≠ g) (a b c d e f k : Value) : (set7 w g a b c d e f k).heap[q]? = w.heap[q]? := by
  have hs : ∀ (W : World) (j : Nat) (u : Value), (W.setCell ⟨g, j, none⟩ u).heap[q]? = W.heap[q]? := fun W j u => Below.heap_setCell W _ u q hq
  exact (hs _ _ _).trans ((hs _ _ _).trans ((hs _ _ _).trans ((hs _ _ _).trans ((hs _ _ _).trans ((hs _ _ _).trans (hs _ _ _))))))
theorem drewN_heap (w : World) (n : Nat) : (w.drewN n).heap = w.heap := rfl
theorem drew_heap (w : World) : w.drew.heap = w.heap := rfl
set_option maxHeartbeats 2000000 in
/-- The end of Unpack: the value, the code, the value again, what is left, the code. -/
theorem un_end {w w2 : World} (a b c d e f k k0' k1' m6' k3' k4' k5' k6' m0 m1 m2 m3 m4 m5 m6 : Value) (p qv r : Int) (y0 : w2.heap[w.heap.size]? = some (.cells #[a, b, c, d, e, f, k] 26 (0, 0))) (y1 : w2.heap[w.heap.size + 1]? = some (.cells #[.int .i64 0] 3 (0, 0))) (y2 : w2.heap[w.heap.size + 1 + 1]? = some (.cells #[.int .i64 0] 3 (0, 0)))
    (hb : Below w.heap.size w w2) (W : World) (hW : W = (((set7 ((set7 w2 w.heap.size k0' k1' m6' k3' k4' k5' k6').setCell ⟨w.heap.size + 1 + 1, 0, none⟩ (.int .i64 p)) w.heap.size m0 m1 m2 m3 m4 m5 m6).setCell ⟨w.heap.size + 1, 0, none⟩ (.int .i64 qv)).setCell ⟨w.heap.size + 1 + 1, 0, none⟩ (.int .i64 r)).drew) :
    W.heap[w.heap.size]? = some (.cells #[m0, m1, m2, m3, m4, m5, m6] 26 (0, 0)) ∧ W.heap[w.heap.size + 1]? = some (.cells #[.int .i64 qv] 3 (0, 0)) ∧ W.heap[w.heap.size + 1 + 1]? = some (.cells #[.int .i64 r] 3 (0, 0)) ∧ Below w.heap.size w W := by
  subst hW
  have n1 : w.heap.size ≠ w.heap.size + 1 := by omega
  have n2 : w.heap.size ≠ w.heap.size + 1 + 1 := by omega
  have n3 : w.heap.size + 1 ≠ w.heap.size + 1 + 1 := by omega
  have s1 : (set7 w2 w.heap.size k0' k1' m6' k3' k4' k5' k6').heap[w.heap.size]? = some (.cells #[k0', k1', m6', k3', k4', k5', k6'] 26 (0, 0)) := fill_box y0
  have s2 := blk_far s1 (p := ⟨w.heap.size + 1 + 1, 0, none⟩) n2 (.int .i64 p)
  have s3 : (set7 ((set7 w2 w.heap.size k0' k1' m6' k3' k4' k5' k6').setCell ⟨w.heap.size + 1 + 1, 0, none⟩ (.int .i64 p)) w.heap.size m0 m1 m2 m3 m4 m5 m6).heap[w.heap.size]? = some (.cells #[m0, m1, m2, m3, m4, m5, m6] 26 (0, 0)) := fill_box s2
  have s4 := blk_far s3 (p := ⟨w.heap.size + 1, 0, none⟩) n1 (.int .i64 qv)
  have s5 := blk_far s4 (p := ⟨w.heap.size + 1 + 1, 0, none⟩) n2 (.int .i64 r)
  have t1 : (set7 w2 w.heap.size k0' k1' m6' k3' k4' k5' k6').heap[w.heap.size + 1]? = some (.cells #[.int .i64 0] 3 (0, 0)) := far7b y1 n1.symm _ _ _ _ _ _ _
  have t2 := blk_far t1 (p := ⟨w.heap.size + 1 + 1, 0, none⟩) n3 (.int .i64 p)
  have t3 : (set7 ((set7 w2 w.heap.size k0' k1' m6' k3' k4' k5' k6').setCell ⟨w.heap.size + 1 + 1, 0, none⟩ (.int .i64 p)) w.heap.size m0 m1 m2 m3 m4 m5 m6).heap[w.heap.size + 1]? = some (.cells #[.int .i64 0] 3 (0, 0)) := far7b t2 n1.symm _ _ _ _ _ _ _
  have t4 := blk_put (cs' := #[.int .i64 qv]) t3 0 (.int .i64 qv) rfl
  have t5 := blk_far t4 (p := ⟨w.heap.size + 1 + 1, 0, none⟩) n3 (.int .i64 r)
  have u1 : (set7 w2 w.heap.size k0' k1' m6' k3' k4' k5' k6').heap[w.heap.size + 1 + 1]? = some (.cells #[.int .i64 0] 3 (0, 0)) := far7b y2 n2.symm _ _ _ _ _ _ _
  have u2 := blk_put (cs' := #[.int .i64 p]) u1 0 (.int .i64 p) rfl
  have u3 : (set7 ((set7 w2 w.heap.size k0' k1' m6' k3' k4' k5' k6').setCell ⟨w.heap.size + 1 + 1, 0, none⟩ (.int .i64 p)) w.heap.size m0 m1 m2 m3 m4 m5 m6).heap[w.heap.size + 1 + 1]? = some (.cells #[.int .i64 p] 3 (0, 0)) := far7b u2 n2.symm _ _ _ _ _ _ _
  have u4 := blk_far u3 (p := ⟨w.heap.size + 1, 0, none⟩) n3.symm (.int .i64 qv)
  have u5 := blk_put (cs' := #[.int .i64 r]) u4 0 (.int .i64 r) rfl
  have b1 : Below w.heap.size w (set7 w2 w.heap.size k0' k1' m6' k3' k4' k5' k6') := below7 hb (Nat.le_refl _) _ _ _ _ _ _ _
  have b2 := below_set (g := w.heap.size + 1 + 1) (j := 0) (v := .int .i64 p) b1 (by omega)
  have b3 : Below w.heap.size w (set7 ((set7 w2 w.heap.size k0' k1' m6' k3' k4' k5' k6').setCell ⟨w.heap.size + 1 + 1, 0, none⟩ (.int .i64 p)) w.heap.size m0 m1 m2 m3 m4 m5 m6) := below7 b2 (Nat.le_refl _) _ _ _ _ _ _ _
  have b4 := below_set (g := w.heap.size + 1) (j := 0) (v := .int .i64 qv) b3 (by omega)
  have b5 := below_set (g := w.heap.size + 1 + 1) (j := 0) (v := .int .i64 r) b4 (by omega)
  rw [drew_heap]
  exact ⟨s5, t5, u5, b5.drew⟩

set_option maxHeartbeats 2000000 in
/-- The end of Unpack behind draws: the value, the code, the value again, what is left, the code. -/
theorem un_end2 {w w2 : World} (nd : Nat) (a b c d e f k k0' k1' m6' k3' k4' k5' k6' m0 m1 m2 m3 m4 m5 m6 : Value) (p qv r : Int) (y0 : w2.heap[w.heap.size]? = some (.cells #[a, b, c, d, e, f, k] 26 (0, 0))) (y1 : w2.heap[w.heap.size + 1]? = some (.cells #[.int .i64 0] 3 (0, 0))) (y2 : w2.heap[w.heap.size + 1 + 1]? = some (.cells #[.int .i64 0] 3 (0, 0)))
    (hb : Below w.heap.size w w2) (W : World) (hW : W = (((set7 (((set7 w2 w.heap.size k0' k1' m6' k3' k4' k5' k6').setCell ⟨w.heap.size + 1 + 1, 0, none⟩ (.int .i64 p)).drewN nd) w.heap.size m0 m1 m2 m3 m4 m5 m6).setCell ⟨w.heap.size + 1, 0, none⟩ (.int .i64 qv)).setCell ⟨w.heap.size + 1 + 1, 0, none⟩ (.int .i64 r))) :
    W.heap[w.heap.size]? = some (.cells #[m0, m1, m2, m3, m4, m5, m6] 26 (0, 0)) ∧ W.heap[w.heap.size + 1]? = some (.cells #[.int .i64 qv] 3 (0, 0)) ∧ W.heap[w.heap.size + 1 + 1]? = some (.cells #[.int .i64 r] 3 (0, 0)) ∧ Below w.heap.size w W ∧ ∀ q, q < w2.heap.size → q ≠ w.heap.size → q ≠ w.heap.size + 1 → q ≠ w.heap.size + 1 + 1 → W.heap[q]? = w2.heap[q]? := by
  subst hW
  have n1 : w.heap.size ≠ w.heap.size + 1 := by omega
  have n2 : w.heap.size ≠ w.heap.size + 1 + 1 := by omega
  have n3 : w.heap.size + 1 ≠ w.heap.size + 1 + 1 := by omega
  have s1 : (set7 w2 w.heap.size k0' k1' m6' k3' k4' k5' k6').heap[w.heap.size]? = some (.cells #[k0', k1', m6', k3', k4', k5', k6'] 26 (0, 0)) := fill_box y0
  have s2 := blk_far s1 (p := ⟨w.heap.size + 1 + 1, 0, none⟩) n2 (.int .i64 p)
  have s2d : (((set7 w2 w.heap.size k0' k1' m6' k3' k4' k5' k6').setCell ⟨w.heap.size + 1 + 1, 0, none⟩ (.int .i64 p)).drewN nd).heap[w.heap.size]? = some (.cells #[k0', k1', m6', k3', k4', k5', k6'] 26 (0, 0)) := by rw [drewN_heap]; exact s2
  have s3 : (set7 (((set7 w2 w.heap.size k0' k1' m6' k3' k4' k5' k6').setCell ⟨w.heap.size + 1 + 1, 0, none⟩ (.int .i64 p)).drewN nd) w.heap.size m0 m1 m2 m3 m4 m5 m6).heap[w.heap.size]? = some (.cells #[m0, m1, m2, m3, m4, m5, m6] 26 (0, 0)) := fill_box (w := _) s2d
  have s4 := blk_far s3 (p := ⟨w.heap.size + 1, 0, none⟩) n1 (.int .i64 qv)
  have s5 := blk_far s4 (p := ⟨w.heap.size + 1 + 1, 0, none⟩) n2 (.int .i64 r)
  have t1 : (set7 w2 w.heap.size k0' k1' m6' k3' k4' k5' k6').heap[w.heap.size + 1]? = some (.cells #[.int .i64 0] 3 (0, 0)) := far7b y1 n1.symm _ _ _ _ _ _ _
  have t2 := blk_far t1 (p := ⟨w.heap.size + 1 + 1, 0, none⟩) n3 (.int .i64 p)
  have t2d : (((set7 w2 w.heap.size k0' k1' m6' k3' k4' k5' k6').setCell ⟨w.heap.size + 1 + 1, 0, none⟩ (.int .i64 p)).drewN nd).heap[w.heap.size + 1]? = some (.cells #[.int .i64 0] 3 (0, 0)) := by rw [drewN_heap]; exact t2
  have t3 : (set7 (((set7 w2 w.heap.size k0' k1' m6' k3' k4' k5' k6').setCell ⟨w.heap.size + 1 + 1, 0, none⟩ (.int .i64 p)).drewN nd) w.heap.size m0 m1 m2 m3 m4 m5 m6).heap[w.heap.size + 1]? = some (.cells #[.int .i64 0] 3 (0, 0)) := far7b t2d n1.symm _ _ _ _ _ _ _
  have t4 := blk_put (cs' := #[.int .i64 qv]) t3 0 (.int .i64 qv) rfl
  have t5 := blk_far t4 (p := ⟨w.heap.size + 1 + 1, 0, none⟩) n3 (.int .i64 r)
  have u1 : (set7 w2 w.heap.size k0' k1' m6' k3' k4' k5' k6').heap[w.heap.size + 1 + 1]? = some (.cells #[.int .i64 0] 3 (0, 0)) := far7b y2 n2.symm _ _ _ _ _ _ _
  have u2 := blk_put (cs' := #[.int .i64 p]) u1 0 (.int .i64 p) rfl
  have u2d : (((set7 w2 w.heap.size k0' k1' m6' k3' k4' k5' k6').setCell ⟨w.heap.size + 1 + 1, 0, none⟩ (.int .i64 p)).drewN nd).heap[w.heap.size + 1 + 1]? = some (.cells #[.int .i64 p] 3 (0, 0)) := by rw [drewN_heap]; exact u2
  have u3 : (set7 (((set7 w2 w.heap.size k0' k1' m6' k3' k4' k5' k6').setCell ⟨w.heap.size + 1 + 1, 0, none⟩ (.int .i64 p)).drewN nd) w.heap.size m0 m1 m2 m3 m4 m5 m6).heap[w.heap.size + 1 + 1]? = some (.cells #[.int .i64 p] 3 (0, 0)) := far7b u2d n2.symm _ _ _ _ _ _ _
  have u4 := blk_far u3 (p := ⟨w.heap.size + 1, 0, none⟩) n3.symm (.int .i64 qv)
  have u5 := blk_put (cs' := #[.int .i64 r]) u4 0 (.int .i64 r) rfl
  have b1 : Below w.heap.size w (set7 w2 w.heap.size k0' k1' m6' k3' k4' k5' k6') := below7 hb (Nat.le_refl _) _ _ _ _ _ _ _
  have b2 := below_set (g := w.heap.size + 1 + 1) (j := 0) (v := .int .i64 p) b1 (by omega)
  have b3 : Below w.heap.size w (set7 (((set7 w2 w.heap.size k0' k1' m6' k3' k4' k5' k6').setCell ⟨w.heap.size + 1 + 1, 0, none⟩ (.int .i64 p)).drewN nd) w.heap.size m0 m1 m2 m3 m4 m5 m6) := below7 (pw_below_drewN b2 nd) (Nat.le_refl _) _ _ _ _ _ _ _
  have b4 := below_set (g := w.heap.size + 1) (j := 0) (v := .int .i64 qv) b3 (by omega)
  have b5 := below_set (g := w.heap.size + 1 + 1) (j := 0) (v := .int .i64 r) b4 (by omega)
  refine ⟨s5, t5, u5, b5, fun q _ q0 q1 q2 => ?_⟩
  have z1 : (set7 w2 w.heap.size k0' k1' m6' k3' k4' k5' k6').heap[q]? = w2.heap[q]? := set7_far q0 _ _ _ _ _ _ _
  have z2 := (Below.heap_setCell (set7 w2 w.heap.size k0' k1' m6' k3' k4' k5' k6') ⟨w.heap.size + 1 + 1, 0, none⟩ (.int .i64 p) q q2).trans z1
  have z2d : (((set7 w2 w.heap.size k0' k1' m6' k3' k4' k5' k6').setCell ⟨w.heap.size + 1 + 1, 0, none⟩ (.int .i64 p)).drewN nd).heap[q]? = w2.heap[q]? := by rw [drewN_heap]; exact z2
  have z3 : (set7 (((set7 w2 w.heap.size k0' k1' m6' k3' k4' k5' k6').setCell ⟨w.heap.size + 1 + 1, 0, none⟩ (.int .i64 p)).drewN nd) w.heap.size m0 m1 m2 m3 m4 m5 m6).heap[q]? = w2.heap[q]? := (set7_far q0 m0 m1 m2 m3 m4 m5 m6).trans z2d
  have z4 := (Below.heap_setCell _ ⟨w.heap.size + 1, 0, none⟩ (.int .i64 qv) q q1).trans z3
  exact (Below.heap_setCell _ ⟨w.heap.size + 1 + 1, 0, none⟩ (.int .i64 r) q q2).trans z4

/-- A region that draws, in a function that defers: nothing but its normal end matters. -/
def NormalOnly (K : Act → World → Prop) : Exit → Act → World → Prop := fun e a w => match e with
  | .normal => K a w
  | _ => False
theorem wp_only {P : Program} {c : Code} {Q : Exit → Act → World → Prop} {a : Act} {w : World} (h : c.wp P (NormalOnly (Q .normal)) a w) : c.wp P Q a w :=
  Code.wp_mono (fun e a w h => by cases e <;> first | exact h | exact h.elim) h

/-- What Unpack answers. -/
def UnAR (w : World) (n : Int) (p : PR) (e : Ending) (w' : World) : Prop :=
  Below w.heap.size w w' ∧ match p with
  | .wild => False
  | .bad c => e = .returned (.tuple #[.agg #[.int .i64 0, .bool false, .int .i64 0, .int .u64 0, .string ⟨#[]⟩, .slice none 0 0, .slice none 0 0], .int .i64 0, .int .i64 c])
  | .ok x r => ∃ v5 v6, e = .returned (.tuple #[.agg #[.int .i64 x.f0, .bool x.f1, .int .i64 x.f2, .int .u64 x.f3, .string x.f4, v5, v6], .int .i64 r.length, .int .i64 0]) ∧
      Kd.string.R 9 w' w.heap.size (fun k => w.heap.size ≤ k) v5 x.f5 ∧ k26.R 26 w' w.heap.size (fun k => w.heap.size ≤ k) v6 x.f6

set_option maxHeartbeats 4000000 in
set_option maxRecDepth 100000 in
theorem Unpack_any (f : Nat) (s : ByteArray) (w : World) (hs : s.size ≤ 2147483647) (hw : parse f 0 (bytesOf s) ≠ .wild) :
    Calls Try.prog 29 #[.string s] w fun e w' => UnAR w s.size (parse f 0 (bytesOf s)) e w' := by
  have hmf : ∀ (fn : Fn) (first cap : Array Value) (w : World), (Instr.makeFunc fn first cap).run Try.prog w = .ok (.func fn first cap) w := fun _ _ _ _ => rfl
  have hbs := fun w => print_bytes (P := Try.prog) 9 69 5 Try.underlying9 Try.underlying69 Try.underlying5 s w
  have HW := Lib.hid hw
  clear hw
  go_enter_defers Try.func29, Try.ntmps29
  go_wp2_with fail
  obtain ⟨cap, _, hcap, hrs⟩ := SW_reset w s hs
  subst hcap
  have hz := SW_size w s
  have HRS := Lib.hid hrs
  clear hrs
  refine HRS.out.mono ?_
  rintro e w1 ⟨rfl, hu, hg⟩
  have hdz : (bytesOf s).drop 0 = bytesOf s := rfl
  have hsz1 := hg.size
  have HU := Lib.hid (unpack_any f _ _ _ (bytesOf s) 0 0 0 0 0 0 w1 (by omega) (by omega) hu (Nat.zero_le _) (fun ad e => by injection e with e; subst e; show w.heap.size + 1 + 1 + 1 + 1 < _; omega) HW.out)
  rw [hdz] at HU
  obtain ⟨x0, x1, x2, x3⟩ := SW_boxes w s
  have y0 := blk_grown x0 hg (by intro he; injection he with he; omega)
  have y1 := blk_grown x1 hg (by intro he; injection he with he; omega)
  have y2 := blk_grown x2 hg (by intro he; injection he with he; omega)
  have HG := Lib.hid hg
  have HY := Lib.hid (And.intro y0 (And.intro y1 y2))
  clear hu hg x0 x1 x2 x3 y0 y1 y2 hdz HRS
  go_wp2_with fail
  refine HU.out.mono ?_
  rintro e w2 ⟨hg, hres⟩
  have y0 := blk_grown HY.out.1 hg (by intro he; injection he with he; omega)
  have y1 := blk_grown HY.out.2.1 hg (by intro he; injection he with he; omega)
  have y2 := blk_grown HY.out.2.2 hg (by intro he; injection he with he; omega)
  have hsz2 := hg.size
  obtain ⟨b0, b1, b2, b3, b4, b5, b6, f0, f1, f2, f3, f4, f5, f6⟩ := box7f y0
  have l0 : w2.cell? ⟨w.heap.size + 1, 0, none⟩ = some (.int .i64 0) := blk_cell y1 0
  have l1 := blk_frozen y1 0
  have d0 : w2.cell? ⟨w.heap.size + 1 + 1, 0, none⟩ = some (.int .i64 0) := blk_cell y2 0
  have d1 := blk_frozen y2 0
  have HB2 := Lib.hid (And.intro y0 (And.intro y1 y2))
  have HBEL : Hid (Below w.heap.size w w2) := (SW_below w s).grown (grown_trans' HG.out hg) (SW_below w s).size (by rintro k hk; injection hk with hk; omega)
  clear y0 y1 y2 HU HY HG HW
  cases hp : parse f 0 (bytesOf s) with
  | wild => rw [hp] at hres; exact hres.elim
  | bad cc =>
    rw [hp] at hres
    simp only at hres
    subst hres
    have hc13 := parse_bad _ _ _ _ hp
    have HP := Lib.hid hp
    clear hg hp
    have hcc : (cc != 0) = true := by rcases hc13 with rfl | rfl <;> rfl
    have hce : (cc == 0) = false := by rcases hc13 with rfl | rfl <;> rfl
    clear hc13
    obtain ⟨y0, y1, y2⟩ := HB2.out
    have HE := Lib.hid (un_end (w := w) (w2 := w2) (.int .i64 0) (.bool false) (.int .i64 0) (.int .u64 0) (.string ⟨#[]⟩) (.slice none 0 0) (.slice none 0 0) (.int .i64 0) (.bool false) (.int .i64 0) (.int .u64 0) (.string ⟨#[]⟩) (.slice none 0 0) (.slice none 0 0) (.int .i64 0) (.bool false) (.int .i64 0) (.int .u64 0) (.string ⟨#[]⟩) (.slice none 0 0) (.slice none 0 0) cc 0 cc y0 y1 y2 HBEL.out _ rfl)
    clear y0 y1 y2
    unfold set7 at HE
    go_wp2_with fail
    go_region
    go_wp2
    refine leaves_cons (f := 71) (args := #[.pointer (some ⟨w.heap.size, 0, none⟩), .pointer (some ⟨w.heap.size + 1, 0, none⟩), .pointer (some ⟨w.heap.size + 1 + 1, 0, none⟩)]) (by simp) (by simp [go_sem]) ?_
    refine (idle71 _ _ _ _).mono ?_
    rintro e u' w'' ⟨rfl, rfl, rfl⟩
    refine ⟨_, res29 _ _ w.heap.size (w.heap.size + 1) (w.heap.size + 1 + 1) (.int .i64 0) (.bool false) (.int .i64 0) (.int .u64 0) (.string ⟨#[]⟩) (.slice none 0 0) (.slice none 0 0) 0 cc rfl rfl rfl HE.out.1 HE.out.2.1 HE.out.2.2.1, HE.out.2.2.2, ?_⟩
    rw [HP.out]
  | ok x r2 =>
    rw [hp] at hres
    obtain ⟨v5, v6, off', t', s', l', c', rfl, hr5, hr6, hux, hdr, hox⟩ := hres
    obtain ⟨A5, n5, d5, rfl⟩ : ∃ A5 n5 d5, v5 = .slice A5 n5 d5 := by obtain ⟨A, c, h⟩ := Kd.R_slice hr5; exact ⟨A, _, c, h⟩
    obtain ⟨A6, n6, d6, rfl⟩ : ∃ A6 n6 d6, v6 = .slice A6 n6 d6 := by obtain ⟨A, c, h⟩ := Kd.R_slice hr6; exact ⟨A, _, c, h⟩
    have HP := Lib.hid hp
    have HR5 := Lib.hid hr5
    have HR6 := Lib.hid hr6
    have hrl : (r2.length : Int) = ((bytesOf s).length : Int) - off' := by rw [← hdr, List.length_drop]; omega
    have HL := Lib.hid (left_any _ ((hux.far7 (g := w.heap.size) (by omega) (fun ad e => by injection e with e; subst e; show w.heap.size + 1 + 1 + 1 + 1 ≠ w.heap.size; omega) (.int .i64 x.f0) (.bool x.f1) (.int .i64 x.f2) (.int .u64 x.f3) (.string x.f4) (.slice A5 n5 d5) (.slice A6 n6 d6)).grown (row := some (w.heap.size + 1 + 1)) (grown_set (World.grownBy.refl _ _) 0 (.int .i64 0)) (by intro e; injection e with e; omega) (fun ad e he => by injection e with e; subst e; injection he with he; have : w.heap.size + 1 + 1 + 1 + 1 = w.heap.size + 1 + 1 := he; omega)).drew hox)
    rw [← hrl] at HL
    clear hg hp hr5 hr6 hux hdr hox hrl
    go_wp2_with fail
    refine wp_only ?_
    go_region_with (go_at_call 61; refine HL.out.mono ?_; rintro e w3 ⟨rfl, ⟨nd, rfl⟩⟩)
    all_goals
      simp only [NormalOnly]
      go_wp2
      refine leaves_cons (f := 71) (args := #[.pointer (some ⟨w.heap.size, 0, none⟩), .pointer (some ⟨w.heap.size + 1, 0, none⟩), .pointer (some ⟨w.heap.size + 1 + 1, 0, none⟩)]) (by simp) (by simp [go_sem]) ?_
      refine (idle71 _ _ _ _).mono ?_
      rintro e u' w'' ⟨rfl, rfl, rfl⟩
      have hE := un_end2 (w := w) (w2 := w2) (1 + nd) (.int .i64 0) (.bool false) (.int .i64 0) (.int .u64 0) (.string ⟨#[]⟩) (.slice none 0 0) (.slice none 0 0) (.int .i64 x.f0) (.bool x.f1) (.int .i64 x.f2) (.int .u64 x.f3) (.string x.f4) (.slice A5 n5 d5) (.slice A6 n6 d6) (.int .i64 x.f0) (.bool x.f1) (.int .i64 x.f2) (.int .u64 x.f3) (.string x.f4) (.slice A5 n5 d5) (.slice A6 n6 d6) 0 r2.length 0 HB2.out.1 HB2.out.2.1 HB2.out.2.2 HBEL.out _ rfl
      unfold set7 at hE
      refine ⟨_, res29 _ _ w.heap.size (w.heap.size + 1) (w.heap.size + 1 + 1) (.int .i64 x.f0) (.bool x.f1) (.int .i64 x.f2) (.int .u64 x.f3) (.string x.f4) (.slice A5 n5 d5) (.slice A6 n6 d6) r2.length 0 rfl rfl rfl hE.1 hE.2.1 hE.2.2.1, hE.2.2.2.1, ?_⟩
      rw [HP.out]
      have hq : ∀ q, w1.heap.size ≤ q → q < w2.heap.size → _ := fun q h1 h2 => hE.2.2.2.2 q h2 (by omega) (by omega) (by omega)
      refine ⟨.slice A5 n5 d5, .slice A6 n6 d6, rfl, ?_, ?_⟩
      · exact Kd.R_lower (Kd.R_mono (Kd.R_step HR5.out hq) (fun q (h : w1.heap.size ≤ q) => by show w.heap.size ≤ q; omega)) (by omega)
      · exact Kd.R_lower (Kd.R_mono (Kd.R_step HR6.out hq) (fun q (h : w1.heap.size ≤ q) => by show w.heap.size ≤ q; omega)) (by omega)
end Go.Proofs.Ytjnookhdiolhgaa
