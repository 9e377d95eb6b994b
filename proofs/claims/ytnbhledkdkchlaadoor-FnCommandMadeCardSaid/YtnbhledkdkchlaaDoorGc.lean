/- impl.Made: what its ways have in common. (seat r2.D) MPUB: lengths in four bytes; spec.sized. (seat r2.D) spec.Made: what its ways have in common. (seat r2.D) spec.Made: for the ways with two texts. (seat r2.D) spec.Made: what the loop over bodies holds. (seat r2.D) -/
import Derived.Test.YtnbhledkdkchlaaDoorGa
import Derived.Test.YtnbhledkdkchlaaDoorGb
import Derived.Test.YtnbhledkdkchlaaDoorPspecbytesOf
import Derived.BigQuiet
import Derived.Deep.QuietTactic
import Derived.Deep.DeepCutAuto
import Derived.Deep.CutBlock
namespace Go.Proofs.YtnbhledkdkchlaaDoor
set_option linter.unusedVariables false
set_option linter.unusedSimpArgs false
open Go.RowKit Go.Proofs.YtnbhledkdkchlaaDoorW.PrintWords

theorem command_any (cp : Nat) (name : ByteArray) (ps : List ByteArray) (body : Option ByteArray) (w : World) (hl : ps.length ≤ 8) (h : CR w cp name ps body) :
    Calls Tryd.prog 29 #[.pointer (some ⟨cp, 0, none⟩)] w fun e w' => CmR w name ps (body.getD ⟨#[]⟩) body.isSome e w' := by
  obtain ⟨nb, nc, Ap, cc, vb, h1, h2, h3, h4⟩ := h
  cases body with
  | none => subst h4; exact command_none cp nb nc cc Ap name ps w hl h1 h2 h3
  | some s => obtain ⟨bb, bc, rfl, h5⟩ := h4; exact command_some cp nb nc cc Ap name ps bb bc s w hl h1 h2 h3 h5
/-- Made's variables: what came in, the result's box. -/
structure MB (w wi : World) (A : Option Addr) (n c : Nat) : Prop where
  bel : Below w.heap.size w wi
  b5 : wi.heap[w.heap.size]? = some (.cells #[.slice A n c] 22 (0, 0))
  b8 : wi.heap[w.heap.size + 1]? = some (.cells #[.string ⟨#[]⟩, .slice none 0 0, .string ⟨#[]⟩, .bool false] 30 (0, 0))
theorem MB.below {w wi wj : World} {A : Option Addr} {n c : Nat} (h : MB w wi A n c) (hb : Below wi.heap.size wi wj) : MB w wj A n c :=
  ⟨h.bel.trans (hb.mono h.bel.size), blk_below h.b5 hb, blk_below h.b8 hb⟩
theorem MB.start (w : World) (A : Option Addr) (n c : Nat) : MB w ((w.alloc (.cells #[.slice A n c] 22)).alloc (.cells #[.string ⟨#[]⟩, .slice none 0 0, .string ⟨#[]⟩, .bool false] 30)) A n c :=
  ⟨below_alloc (below_alloc (Below.refl _ _) _) _, (Below.heap_alloc _ _ _ (by simp)).trans (heap_alloc_new w _), alloc_new_at (by simp)⟩
/-- What Made answers. -/
def MiR (w : World) (name : ByteArray) (ps : List ByteArray) (body : Option ByteArray) (e : Ending) (w' : World) : Prop :=
  ∃ v1, e = .returned (.tuple #[.agg #[.string name, v1, .string (body.getD ⟨#[]⟩), .bool body.isSome], .int .i64 0]) ∧ Below w.heap.size w w' ∧ Kd.string.R 9 w' w.heap.size (fun q => w.heap.size ≤ q) v1 ps
theorem MB.fin {w w4 : World} {A : Option Addr} {n c : Nat} (h : MB w w4 A n c) {a b d : Value} {has : Value} :
    ((((w4.setCell ⟨w.heap.size + 1, 0, none⟩ a).setCell ⟨w.heap.size + 1, 1, none⟩ b).setCell ⟨w.heap.size + 1, 2, none⟩ d).setCell ⟨w.heap.size + 1, 3, none⟩ has).heap[w.heap.size + 1]? = some (.cells #[a, b, d, has] 30 (0, 0)) ∧
    Below w.heap.size w ((((w4.setCell ⟨w.heap.size + 1, 0, none⟩ a).setCell ⟨w.heap.size + 1, 1, none⟩ b).setCell ⟨w.heap.size + 1, 2, none⟩ d).setCell ⟨w.heap.size + 1, 3, none⟩ has) := by
  have hl : w.heap.size ≤ w.heap.size + 1 := by omega
  exact ⟨blk_put (blk_put (blk_put (blk_put (cs' := #[a, .slice none 0 0, .string ⟨#[]⟩, .bool false]) h.b8 0 a rfl) (cs' := #[a, b, .string ⟨#[]⟩, .bool false]) 1 b rfl) (cs' := #[a, b, d, .bool false]) 2 d rfl) 3 has rfl,
    below_set (below_set (below_set (below_set h.bel hl) hl) hl) hl⟩
theorem MB.row {w w3 w4 : World} {A : Option Addr} {n c : Nat} (h3 : MB w w3 A n c) {v1 : Value} {ps : List ByteArray} (hr : Kd.string.R 9 w4 w3.heap.size (fun q => w3.heap.size ≤ q) v1 ps) (a b d has : Value) :
    Kd.string.R 9 ((((w4.setCell ⟨w.heap.size + 1, 0, none⟩ a).setCell ⟨w.heap.size + 1, 1, none⟩ b).setCell ⟨w.heap.size + 1, 2, none⟩ d).setCell ⟨w.heap.size + 1, 3, none⟩ has) w.heap.size (fun q => w.heap.size ≤ q) v1 ps := by
  have hl := blk_lt h3.b8
  have hq : ∀ q, w3.heap.size ≤ q → q ≠ w.heap.size + 1 := fun q h => by omega
  exact Kd.R_lower (Kd.R_mono (Kd.R_far (Kd.R_far (Kd.R_far (Kd.R_far hr (p := ⟨w.heap.size + 1, 0, none⟩) hq _) (p := ⟨w.heap.size + 1, 1, none⟩) hq _) (p := ⟨w.heap.size + 1, 2, none⟩) hq _) (p := ⟨w.heap.size + 1, 3, none⟩) hq _) (fun q (h : w3.heap.size ≤ q) => by show w.heap.size ≤ q; omega)) (by omega)
end Go.Proofs.YtnbhledkdkchlaaDoor

namespace Go.Proofs.YtnbhledkdkchlaaDoor
set_option linter.unusedVariables false
set_option linter.unusedSimpArgs false
open Go.RowKit Go.Proofs.YtnbhledkdkchlaaDoorW.PrintWords

/-- A number in four bytes, the highest first. -/
def be4 (n : Int) : List Int := [n / 16777216 % 256, n / 65536 % 256, n / 256 % 256, n % 256]
theorem shr_at (n : Int) (j : Nat) (hj : j < 8) : shr .u64 n (8 * (j : Int)) = n / 2 ^ (8 * j) := by
  unfold shr
  have e : min (8 * (j : Int)).toNat IntKind.u64.bits = 8 * j := by
    have : IntKind.u64.bits = 64 := rfl
    omega
  rw [e]
theorem w64 {n : Int} (h : -9223372036854775808 ≤ n ∧ n ≤ 9223372036854775807) : wrap64 n = n := by unfold wrap64; omega
theorem bytesOf4 (n : Int) : PAll.spec_bytesOf.f 6 n 4 = some (strOfNums (be4 n)) := by
  have s0 := shr_at n 0 (by decide)
  have s1 := shr_at n 1 (by decide)
  have s2 := shr_at n 2 (by decide)
  have s3 := shr_at n 3 (by decide)
  have e0 : wrap64 (8 * (0 : Int)) = 8 * ((0 : Nat) : Int) := by unfold wrap64; omega
  have e1 : wrap64 (8 * (1 : Int)) = 8 * ((1 : Nat) : Int) := by unfold wrap64; omega
  have e2 : wrap64 (8 * (2 : Int)) = 8 * ((2 : Nat) : Int) := by unfold wrap64; omega
  have e3 : wrap64 (8 * (3 : Int)) = 8 * ((3 : Nat) : Int) := by unfold wrap64; omega
  have f0 : wrap64 (wrap64 ((4 : Int) - 1) - 0) = 3 := by simp only [wrap64]; omega
  have f1 : wrap64 (wrap64 ((4 : Int) - 1) - 1) = 2 := by simp only [wrap64]; omega
  have f2 : wrap64 (wrap64 ((4 : Int) - 1) - 2) = 1 := by simp only [wrap64]; omega
  have f3 : wrap64 (wrap64 ((4 : Int) - 1) - 3) = 0 := by simp only [wrap64]; omega
  have g0 : wrap64 ((0 : Int) + 1) = 1 := by unfold wrap64; omega
  have g1 : wrap64 ((1 : Int) + 1) = 2 := by unfold wrap64; omega
  have g2 : wrap64 ((2 : Int) + 1) = 3 := by unfold wrap64; omega
  have g3 : wrap64 ((3 : Int) + 1) = 4 := by unfold wrap64; omega
  have hr : List.replicate ((4 : Int)).toNat (0 : Int) = [0, 0, 0, 0] := rfl
  unfold PAll.spec_bytesOf.f
  rw [if_pos (by decide), if_pos (by decide), hr]
  simp only [PAll.spec_bytesOf.l0]
  rw [e0, f0, g0, e1, f1, g1, e2, f2, g2, e3, f3, g3, s0, s1, s2, s3]
  simp [be4]
theorem be4_size (n : Int) : (strOfNums (be4 n)).size = 4 := rfl
theorem bytesOf4_any (n : Int) (w : World) : Calls Tryd.prog 11 #[.int .u64 n, .int .i64 4] w fun e w' => e = .returned (.string (strOfNums (be4 n))) ∧ Below w.heap.size w w' :=
  PAll.spec_bytesOf.calls 6 n 4 _ w (bytesOf4 n)
def szd (s : ByteArray) : ByteArray := strOfNums (be4 (s.size : Int)) ++ s
theorem szd_size (s : ByteArray) : (szd s).size = 4 + s.size := by unfold szd; rw [ByteArray.size_append, be4_size]
set_option maxRecDepth 100000 in
theorem sized_any (s : ByteArray) (w : World) (hs : s.size ≤ 100) : Calls Tryd.prog 12 #[.string s] w fun e w' => e = .returned (.string (szd s)) ∧ Below w.heap.size w w' := by
  have HB := Aside0.mk (fun wi => bytesOf4_any (s.size : Int) wi)
  have hz : (strOfNums (be4 (s.size : Int))).size = 4 := be4_size _
  have hu : IntKind.u64.wrap ((s.size : Nat) : Int) = (s.size : Int) := by rw [IntKind.wrap_u64]; omega
  unfold szd
  generalize strOfNums (be4 (s.size : Int)) = T at *
  go_enter Tryd.func12, Tryd.ntmps12
  go_wp2_with fail
  refine (HB.out _).mono ?_
  rintro e w1 ⟨rfl, hb⟩
  have HB1 := Aside0.mk hb
  clear hb HB
  go_wp2_with fail
  go_ret
  exact ⟨rfl, HB1.out⟩
end Go.Proofs.YtnbhledkdkchlaaDoor

namespace Go.Proofs.YtnbhledkdkchlaaDoor
set_option linter.unusedVariables false
set_option linter.unusedSimpArgs false
open Go.RowKit Go.Proofs.YtnbhledkdkchlaaDoorW.PrintWords

/-- spec.Made's variables: what came in, the result's box. -/
structure SM (w wi : World) (A : Option Addr) (n c : Nat) : Prop where
  bel : Below w.heap.size w wi
  b5 : wi.heap[w.heap.size]? = some (.cells #[.slice A n c] 22 (0, 0))
  b8 : wi.heap[w.heap.size + 1]? = some (.cells #[.string ⟨#[]⟩, .slice none 0 0, .string ⟨#[]⟩, .bool false] 27 (0, 0))
theorem SM.below {w wi wj : World} {A : Option Addr} {n c : Nat} (h : SM w wi A n c) (hb : Below wi.heap.size wi wj) : SM w wj A n c :=
  ⟨h.bel.trans (hb.mono h.bel.size), blk_below h.b5 hb, blk_below h.b8 hb⟩
theorem SM.start (w : World) (A : Option Addr) (n c : Nat) : SM w ((w.alloc (.cells #[.slice A n c] 22)).alloc (.cells #[.string ⟨#[]⟩, .slice none 0 0, .string ⟨#[]⟩, .bool false] 27)) A n c :=
  ⟨below_alloc (below_alloc (Below.refl _ _) _) _, (Below.heap_alloc _ _ _ (by simp)).trans (heap_alloc_new w _), alloc_new_at (by simp)⟩
theorem SM.fin {w w4 : World} {A : Option Addr} {n c : Nat} (h : SM w w4 A n c) {a b d : Value} {has : Value} :
    ((((w4.setCell ⟨w.heap.size + 1, 0, none⟩ a).setCell ⟨w.heap.size + 1, 1, none⟩ b).setCell ⟨w.heap.size + 1, 2, none⟩ d).setCell ⟨w.heap.size + 1, 3, none⟩ has).heap[w.heap.size + 1]? = some (.cells #[a, b, d, has] 27 (0, 0)) ∧
    Below w.heap.size w ((((w4.setCell ⟨w.heap.size + 1, 0, none⟩ a).setCell ⟨w.heap.size + 1, 1, none⟩ b).setCell ⟨w.heap.size + 1, 2, none⟩ d).setCell ⟨w.heap.size + 1, 3, none⟩ has) := by
  have hl : w.heap.size ≤ w.heap.size + 1 := by omega
  exact ⟨blk_put (blk_put (blk_put (blk_put (cs' := #[a, .slice none 0 0, .string ⟨#[]⟩, .bool false]) h.b8 0 a rfl) (cs' := #[a, b, .string ⟨#[]⟩, .bool false]) 1 b rfl) (cs' := #[a, b, d, .bool false]) 2 d rfl) 3 has rfl,
    below_set (below_set (below_set (below_set h.bel hl) hl) hl) hl⟩
theorem SM.far {w wi : World} {A : Option Addr} {n c : Nat} {p : Addr} {v : Value} (h : SM w wi A n c) (hp : w.heap.size + 2 ≤ p.block) : SM w (wi.setCell p v) A n c :=
  ⟨h.bel.setCell (by omega) _, (Below.heap_setCell wi p v _ (by omega)).trans h.b5, (Below.heap_setCell wi p v _ (by omega)).trans h.b8⟩
/-- What spec.Made answers. -/
def SmR (w : World) (name : ByteArray) (ps : List ByteArray) (bs : ByteArray) (has : Bool) (ok : Prop) (e : Ending) (w' : World) : Prop :=
  Below w.heap.size w w' ∧ (e = .returned (.tuple #[.agg #[.string ⟨#[]⟩, .slice none 0 0, .string ⟨#[]⟩, .bool false], .int .i64 2]) ∨ (ok ∧ ∃ v1, e = .returned (.tuple #[.agg #[.string name, v1, .string bs, .bool has], .int .i64 1]) ∧ Kd.string.R 9 w' w.heap.size (fun q => w.heap.size ≤ q) v1 ps))
theorem wp_gen {P : Program} {c : Code} {Q : Exit → Act → World → Prop} {a : Act} {W : World} (F : World → Prop) (hF : F W) (h : ∀ wz, F wz → c.wp P Q a wz) : c.wp P Q a W := h W hF
theorem post_gen {Q : Exit → Act → World → Prop} {x : Exit} {a : Act} {W : World} (F : World → Prop) (hF : F W) (h : ∀ wz, F wz → Q x a wz) : Q x a W := h W hF
theorem str_row (W : World) (base : Nat) (l : List ByteArray) (hb : base ≤ W.heap.size) (hl : l.length ≤ 9223372036854775807) : Kd.string.R 9 (W.alloc (.cells (l.map Value.string).toArray 9)) base (fun q => base ≤ q) (.slice (some ⟨W.heap.size, 0, none⟩) l.length l.length) l := by
  have h := World.ownsRow_lit (base := base) (e := 9) (size := 1) W (l.map Value.string).toArray l.length hb (by simpa [maxLen] using hl) (by simp)
  refine Kd.R_of_own (by simpa [encs] using h) ?_
  intro k hk
  have h : W.heap.size = k := by simpa [Value.ownBlock] using hk
  show base ≤ k
  omega
theorem str_row_at {W : World} {base g n : Nat} {l : List ByteArray} (hg : g = W.heap.size) (hn : n = l.length) (hb : base ≤ W.heap.size) (hl : l.length ≤ 9223372036854775807) : Kd.string.R 9 (W.alloc (.cells (l.map Value.string).toArray 9)) base (fun q => base ≤ q) (.slice (some ⟨g, 0, none⟩) n n) l := by
  subst hg
  subst hn
  exact str_row W base l hb hl
end Go.Proofs.YtnbhledkdkchlaaDoor

namespace Go.Proofs.YtnbhledkdkchlaaDoor
set_option linter.unusedVariables false
set_option linter.unusedSimpArgs false
open Go.RowKit Go.Proofs.YtnbhledkdkchlaaDoorW.PrintWords

theorem SM.belowB {w wi wj : World} {A : Option Addr} {n c B : Nat} (h : SM w wi A n c) (hB : w.heap.size + 2 ≤ B) (hb : Below B wi wj) : SM w wj A n c :=
  ⟨h.bel.trans (hb.mono (by omega)), (hb.block _ (by omega)).trans h.b5, (hb.block _ (by omega)).trans h.b8⟩
section
open Go.Proofs.YtnbhledkdkchlaaDoorW.PrintLast
variable {P : Program} {ops : Array Oper} {Q : Exit → Act → World → Prop}
theorem goes_cl {oi : Oper} {N : Option Tmp} {a : Act} {w : World} {K : Act → World → Prop} {f : FuncId} {fn : Func} {os : Array Operand} {ts : Array TypeId} {x : Operand} {cap : Array Value} (hf : P.funcs[f]? = some fn) (hname : (fn.name == "runtime.NumGoroutine") = false) (hb : fn.body.isSome = true) (args : Array Value)
    (hw : Region.wanted oi (yielded ops a.tmps) = true) (hN : oi.dst = N) (hx : a.eval x = .func (.func f) #[] cap) (hop : oi.op = .call { callee := .value x, args := os, argTypes := ts }) (hargs : os.map a.eval ++ cap = args)
    (h : Calls P f args w fun e w' => ∃ v, e = .returned v ∧ K (a.put N v) w') : if Region.wanted oi (yielded ops a.tmps) = true then Oper.wp P oi a w K Q else K (a.put N undef) w := by
  refine call_ f args hw hN ?_ h
  have he := enters_ hf hname hb args w
  unfold execOp
  simp [hop, resolve, Deferred.ofValue, invoke, hx, hargs, he]
end
theorem calls_gen {P : Program} {f : Nat} {args : Array Value} {W : World} {Q : Ending → World → Prop} (F : World → Prop) (hF : F W) (h : ∀ wz, F wz → Calls P f args wz Q) : Calls P f args W Q := h W hF
theorem ba_empty {s : ByteArray} (h : s.size = 0) : s = ⟨#[]⟩ := by
  obtain ⟨⟨l⟩⟩ := s
  have : l = [] := List.length_eq_zero_iff.1 h
  subst this
  rfl
theorem reg_row {w w4 : World} {B : Nat} {v1 : Value} {ps : List ByteArray} (hB : w.heap.size + 2 ≤ B) (hr : Kd.string.R 9 w4 B (fun q => B ≤ q) v1 ps) {a b d has : Value} :
    Kd.string.R 9 ((((w4.setCell ⟨w.heap.size + 1, 0, none⟩ a).setCell ⟨w.heap.size + 1, 1, none⟩ b).setCell ⟨w.heap.size + 1, 2, none⟩ d).setCell ⟨w.heap.size + 1, 3, none⟩ has) w.heap.size (fun q => w.heap.size ≤ q) v1 ps := by
  have hq : ∀ q, B ≤ q → q ≠ w.heap.size + 1 := fun q h => by omega
  exact Kd.R_lower (Kd.R_mono (Kd.R_far (Kd.R_far (Kd.R_far (Kd.R_far hr (p := ⟨w.heap.size + 1, 0, none⟩) hq _) (p := ⟨w.heap.size + 1, 1, none⟩) hq _) (p := ⟨w.heap.size + 1, 2, none⟩) hq _) (p := ⟨w.heap.size + 1, 3, none⟩) hq _) (fun q (h : B ≤ q) => by show w.heap.size ≤ q; omega)) (by omega)
end Go.Proofs.YtnbhledkdkchlaaDoor

namespace Go.Proofs.YtnbhledkdkchlaaDoor
set_option linter.unusedVariables false
set_option linter.unusedSimpArgs false
open Go.RowKit Go.Proofs.YtnbhledkdkchlaaDoorW.PrintWords

/-- Bodies, each behind its length. -/
def mpB (l : List ByteArray) (acc : ByteArray) : ByteArray := l.foldl (fun a b => a ++ szd b) acc
theorem mpB_take {l : List ByteArray} {j : Nat} {x : ByteArray} (h : l[j]? = some x) (acc : ByteArray) : mpB (l.take (j + 1)) acc = mpB (l.take j) acc ++ szd x := by
  unfold mpB
  rw [List.take_add_one, h, Option.toList_some, List.foldl_append]
  rfl
theorem mpB_size (l : List ByteArray) (h : ∀ s ∈ l, s.size ≤ 100) (acc : ByteArray) : (mpB l acc).size ≤ acc.size + 104 * l.length := by
  induction l generalizing acc with
  | nil => exact Nat.le_refl _
  | cons a r ih =>
    have h1 := ih (fun s hs => h s (by simp [hs])) (acc ++ szd a)
    have h2 := h a (by simp)
    rw [ByteArray.size_append, szd_size] at h1
    show (mpB r (acc ++ szd a)).size ≤ _
    rw [List.length_cons]
    omega
structure MS (w wr : World) (A : Option Addr) (n c g : Nat) (name : ByteArray) (v1 : Value) (bs : ByteArray) (ps : List ByteArray) : Prop where
  sm : SM w wr A n c
  b14 : wr.heap[g]? = some (.cells #[.string name, v1, .string bs, .bool true] 27 (0, 0))
  row : Kd.string.R 9 wr (w.heap.size + 2) (fun q => w.heap.size + 2 ≤ q ∧ q ≠ g) v1 ps
  lo : w.heap.size + 2 ≤ g
theorem MS.below {w wr wj : World} {A : Option Addr} {n c g : Nat} {name : ByteArray} {v1 : Value} {bs : ByteArray} {ps : List ByteArray} (h : MS w wr A n c g name v1 bs ps) (hb : Below wr.heap.size wr wj) : MS w wj A n c g name v1 bs ps :=
  ⟨h.sm.below hb, blk_below h.b14 hb, Kd.R_below h.row hb, h.lo⟩
theorem MS.put {w wr : World} {A : Option Addr} {n c g : Nat} {name : ByteArray} {v1 : Value} {bs : ByteArray} {ps : List ByteArray} (h : MS w wr A n c g name v1 bs ps) (b2 : ByteArray) : MS w (wr.setCell ⟨g, 2, none⟩ (.string b2)) A n c g name v1 b2 ps :=
  ⟨h.sm.far h.lo, blk_put h.b14 2 (.string b2) rfl, Kd.R_far h.row (p := ⟨g, 2, none⟩) (fun q hq => hq.2) _, h.lo⟩
theorem MS.fin {w wr : World} {A : Option Addr} {n c g : Nat} {name : ByteArray} {v1 : Value} {bs : ByteArray} {ps : List ByteArray} (h : MS w wr A n c g name v1 bs ps) {a b d has : Value} :
    Kd.string.R 9 ((((wr.setCell ⟨w.heap.size + 1, 0, none⟩ a).setCell ⟨w.heap.size + 1, 1, none⟩ b).setCell ⟨w.heap.size + 1, 2, none⟩ d).setCell ⟨w.heap.size + 1, 3, none⟩ has) w.heap.size (fun q => w.heap.size ≤ q) v1 ps :=
  reg_row (Nat.le_refl _) (Kd.R_mono h.row (fun q hq => hq.1))
end Go.Proofs.YtnbhledkdkchlaaDoor
