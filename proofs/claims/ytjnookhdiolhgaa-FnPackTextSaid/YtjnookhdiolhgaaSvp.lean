/- The reference's packing: what it answers are the bytes that the package packs. The reference's headers, texts and bytes: what they come to. spec.packVal: what the reference packs. -/
import Derived.Test.YtjnookhdiolhgaaSpecVal
import Derived.Test.YtjnookhdiolhgaaPspecpackInt
import Derived.Test.YtjnookhdiolhgaaPspecpackFloat
import Derived.Test.YtjnookhdiolhgaaPspecpackText
import Derived.Test.YtjnookhdiolhgaaRd
import Derived.Test.YtjnookhdiolhgaaPackA
import Derived.Deep.RegionHeld3
namespace Go.Proofs.Ytjnookhdiolhgaa
open Go.RowKit Go.Proofs.YtjnookhdiolhgaaW.PrintWords
open PAll (S26 k26 S35 k35)

theorem shr64 (n : Int) (k : Nat) (hk : k < 64) : shr .u64 n (k : Int) = n / 2 ^ k := by
  unfold shr
  have e : min ((k : Int).toNat) IntKind.u64.bits = k := by
    rw [Int.toNat_natCast]
    have : IntKind.u64.bits = 64 := rfl
    omega
  rw [e]
theorem bytesOf1 (n : Int) (k : Nat) : PAll.spec_bytesOf.f (k + 2) n 1 = some (strOfNums [n % 256]) := by
  have e0 : shr .u64 n 0 = n := by have := shr64 n 0 (by decide); simpa using this
  simp [PAll.spec_bytesOf.f, PAll.spec_bytesOf.l0, wrap64, e0]
theorem bytesOf2 (n : Int) (k : Nat) : PAll.spec_bytesOf.f (k + 3) n 2 = some (strOfNums [n / 256 % 256, n % 256]) := by
  have e0 : shr .u64 n 0 = n := by have := shr64 n 0 (by decide); simpa using this
  have e1 : shr .u64 n 8 = n / 256 := by have := shr64 n 8 (by decide); simpa using this
  simp [PAll.spec_bytesOf.f, PAll.spec_bytesOf.l0, wrap64, e0, e1, List.replicate]
theorem bytesOf4 (n : Int) (k : Nat) : PAll.spec_bytesOf.f (k + 5) n 4 = some (strOfNums [n / 16777216 % 256, n / 65536 % 256, n / 256 % 256, n % 256]) := by
  have e0 : shr .u64 n 0 = n := by have := shr64 n 0 (by decide); simpa using this
  have e1 : shr .u64 n 8 = n / 256 := by have := shr64 n 8 (by decide); simpa using this
  have e2 : shr .u64 n 16 = n / 65536 := by have := shr64 n 16 (by decide); simpa using this
  have e3 : shr .u64 n 24 = n / 16777216 := by have := shr64 n 24 (by decide); simpa using this
  simp [PAll.spec_bytesOf.f, PAll.spec_bytesOf.l0, wrap64, e0, e1, e2, e3, List.replicate]
theorem bytesOf8 (n : Int) (k : Nat) : PAll.spec_bytesOf.f (k + 9) n 8 = some (strOfNums [n / 72057594037927936 % 256, n / 281474976710656 % 256, n / 1099511627776 % 256, n / 4294967296 % 256, n / 16777216 % 256, n / 65536 % 256, n / 256 % 256, n % 256]) := by
  have e0 : shr .u64 n 0 = n := by have := shr64 n 0 (by decide); simpa using this
  have e1 : shr .u64 n 8 = n / 256 := by have := shr64 n 8 (by decide); simpa using this
  have e2 : shr .u64 n 16 = n / 65536 := by have := shr64 n 16 (by decide); simpa using this
  have e3 : shr .u64 n 24 = n / 16777216 := by have := shr64 n 24 (by decide); simpa using this
  have e4 : shr .u64 n 32 = n / 4294967296 := by have := shr64 n 32 (by decide); simpa using this
  have e5 : shr .u64 n 40 = n / 1099511627776 := by have := shr64 n 40 (by decide); simpa using this
  have e6 : shr .u64 n 48 = n / 281474976710656 := by have := shr64 n 48 (by decide); simpa using this
  have e7 : shr .u64 n 56 = n / 72057594037927936 := by have := shr64 n 56 (by decide); simpa using this
  simp [PAll.spec_bytesOf.f, PAll.spec_bytesOf.l0, wrap64, e0, e1, e2, e3, e4, e5, e6, e7, List.replicate]
theorem spec_append (a b : List Int) : strOfNums (a ++ b) = strOfNums a ++ strOfNums b := by
  have ofData : ∀ {a b : ByteArray}, a.data.toList = b.data.toList → a = b := by
    intro a b h
    cases a; cases b
    simp at h
    rw [h]
  apply ofData
  unfold strOfNums
  simp
theorem spec_size (l : List Int) : (strOfNums l).size = l.length := by
  unfold strOfNums
  show (List.map _ l).toArray.size = _
  simp

theorem packFloat_spec (f : Int) (h0 : 0 ≤ f) (h1 : f < 18446744073709551616) (k : Nat) : PAll.spec_packFloat.f (k + 9) f = some (strOfNums (encFloat f.toNat)) := by
  unfold PAll.spec_packFloat.f
  rw [bytesOf8]
  simp only [Option.bind_some]
  rw [if_pos (by rw [spec_size]; simp)]
  have e : (⟨#[193]⟩ : ByteArray) = strOfNums [193] := rfl
  rw [e, ← spec_append]
  congr 2
  unfold encFloat
  have ef : (f.toNat : Int) = f := by omega
  rw [ef]
  simp only [List.cons_append, List.nil_append, List.cons.injEq, true_and, and_true]
  omega
theorem marked (m : UInt8) (l : List Int) (hl : l.length ≤ 8) : (if 1 + (strOfNums l).size ≤ 9223372036854775807 then some ((⟨#[m]⟩ : ByteArray) ++ strOfNums l) else none) = some (strOfNums ((m.toNat : Int) :: l)) := by
  rw [if_pos (by rw [spec_size]; omega)]
  have e : (⟨#[m]⟩ : ByteArray) = strOfNums [(m.toNat : Int)] := by unfold strOfNums; simp
  rw [e, ← spec_append]
  rfl

set_option maxRecDepth 10000 in
theorem packInt_spec (i : Int) (h0 : -9223372036854775808 ≤ i) (h1 : i < 9223372036854775808) (k : Nat) : PAll.spec_packInt.f (k + 13) i = some (strOfNums (encInt i)) := by
  have hw : IntKind.u64.wrap i = i % 18446744073709551616 := IntKind.wrap_u64 i
  unfold PAll.spec_packInt.f encInt
  by_cases a1 : -16 ≤ i ∧ i < 128
  · rw [if_pos a1.1, decide_eq_true (by omega), PAll.spec_packInt.j0, if_pos rfl, if_pos a1]
  · rw [if_neg a1]
    have e0 : (if i ≥ -16 then PAll.spec_packInt.j0 (k + 13) i (decide (i ≤ 127)) else PAll.spec_packInt.j0 (k + 13) i false) = PAll.spec_packInt.j0 (k + 13) i false := by
      split
      · rw [decide_eq_false (by omega)]
      · rfl
    rw [e0, PAll.spec_packInt.j0, if_neg (by decide)]
    by_cases a2 : -128 ≤ i ∧ i < -16
    · rw [if_pos a2, if_pos a2.1, decide_eq_true (by omega), PAll.spec_packInt.j1, if_pos rfl, bytesOf1, hw]
      simp only [Option.bind_some]
      rw [marked 200 _ (by simp)]
      congr 2
      simp only [List.cons.injEq, and_true]
      exact ⟨rfl, by omega⟩
    · rw [if_neg a2]
      have e1 : (if i ≥ -128 then PAll.spec_packInt.j1 (k + 12) i (decide (i ≤ 127)) else PAll.spec_packInt.j1 (k + 12) i false) = PAll.spec_packInt.j1 (k + 12) i false := by
        split
        · rw [decide_eq_false (by omega)]
        · rfl
      rw [e1, PAll.spec_packInt.j1, if_neg (by decide)]
      by_cases a3 : -32768 ≤ i ∧ i < 32768
      · rw [if_pos a3, if_pos a3.1, decide_eq_true (by omega), PAll.spec_packInt.j2, if_pos rfl, bytesOf2, hw]
        simp only [Option.bind_some]
        rw [marked 201 _ (by simp)]
        congr 2
        simp only [List.cons.injEq, and_true]
        exact ⟨rfl, by omega, by omega⟩
      · rw [if_neg a3]
        have e2 : (if i ≥ -32768 then PAll.spec_packInt.j2 (k + 11) i (decide (i ≤ 32767)) else PAll.spec_packInt.j2 (k + 11) i false) = PAll.spec_packInt.j2 (k + 11) i false := by
          split
          · rw [decide_eq_false (by omega)]
          · rfl
        rw [e2, PAll.spec_packInt.j2, if_neg (by decide)]
        by_cases a4 : -2147483648 ≤ i ∧ i < 2147483648
        · rw [if_pos a4, if_pos a4.1, decide_eq_true (by omega), PAll.spec_packInt.j3, if_pos rfl, bytesOf4, hw]
          simp only [Option.bind_some]
          rw [marked 202 _ (by simp)]
          congr 2
          simp only [List.cons.injEq, and_true]
          exact ⟨rfl, by omega, by omega, by omega, by omega⟩
        · rw [if_neg a4]
          have e3 : (if i ≥ -2147483648 then PAll.spec_packInt.j3 (k + 10) i (decide (i ≤ 2147483647)) else PAll.spec_packInt.j3 (k + 10) i false) = PAll.spec_packInt.j3 (k + 10) i false := by
            split
            · rw [decide_eq_false (by omega)]
            · rfl
          rw [e3, PAll.spec_packInt.j3, if_neg (by decide), bytesOf8, hw]
          simp only [Option.bind_some]
          rw [marked 203 _ (by simp)]
          congr 2
          simp only [List.cons.injEq, and_true]
          refine ⟨rfl, ?_⟩
          repeat' apply And.intro
          all_goals first | omega | trivial
end Go.Proofs.Ytjnookhdiolhgaa

namespace Go.Proofs.Ytjnookhdiolhgaa
set_option linter.unusedVariables false
set_option linter.unusedSimpArgs false
open Go.RowKit Go.Proofs.YtjnookhdiolhgaaW.PrintWords
open PAll (S26 k26 S35 k35)

theorem packHead_j0 (t l n : Int) (hl0 : 0 ≤ l) (hl1 : l ≤ 253) (hn0 : 0 ≤ n) (hn1 : n < 4294967296) (k : Nat) :
    PAll.spec_packHead.j0 (k + 8) t l n false = some (strOfNums (if n < 256 then [l, n] else if n < 65536 then [l + 1, n / 256, n % 256] else [l + 2, n / 16777216, n / 65536 % 256, n / 256 % 256, n % 256])) := by
  have hw : IntKind.u64.wrap n = n := by rw [IntKind.wrap_u64]; omega
  simp only [PAll.spec_packHead.j0]
  rw [if_neg (by simp), hw]
  split
  · congr 2
    simp only [List.cons.injEq, true_and, and_true]
    omega
  · split
    · rw [bytesOf2]
      simp only [Option.bind_some]
      rw [if_pos (by rw [spec_size, spec_size]; simp), ← spec_append]
      congr 2
      simp only [List.cons_append, List.nil_append, List.cons.injEq, and_true]
      refine ⟨by omega, by omega⟩
    · rw [bytesOf4]
      simp only [Option.bind_some]
      rw [if_pos (by rw [spec_size, spec_size]; simp), ← spec_append]
      congr 2
      simp only [List.cons_append, List.nil_append, List.cons.injEq, and_true, true_and]
      refine ⟨by omega, by omega⟩
theorem packHead_spec (t l n : Int) (ht0 : 0 < t) (ht1 : t ≤ 160) (hl0 : 0 ≤ l) (hl1 : l ≤ 253) (hn0 : 0 ≤ n) (hn1 : n < 4294967296) (k : Nat) :
    PAll.spec_packHead.f (k + 8) t l n = some (strOfNums (encHead t l n)) := by
  unfold PAll.spec_packHead.f encHead
  have hb : (t != 0) = true := by simp; omega
  by_cases h : n < 16
  · rw [if_pos h, if_pos h, hb]
    simp only [PAll.spec_packHead.j0]
    rw [if_pos trivial]
    congr 2
    simp only [List.cons.injEq, and_true]
    omega
  · rw [if_neg h, if_neg h]
    exact packHead_j0 t l n hl0 hl1 hn0 hn1 k
theorem packHead_bytes (n : Int) (hn0 : 0 ≤ n) (hn1 : n < 65536) (k : Nat) : PAll.spec_packHead.f (k + 8) 0 204 n = some (strOfNums (encByteHead n)) := by
  unfold PAll.spec_packHead.f encByteHead
  have e : (if n < 16 then PAll.spec_packHead.j0 (k + 8) 0 204 n ((0 : Int) != 0) else PAll.spec_packHead.j0 (k + 8) 0 204 n false) = PAll.spec_packHead.j0 (k + 8) 0 204 n false := by
    split <;> rfl
  rw [e, packHead_j0 0 204 n (by omega) (by omega) hn0 (by omega)]
  rw [if_pos hn1]
  rfl
theorem packText_spec (s : ByteArray) (hs : s.size ≤ 300) (k : Nat) : PAll.spec_packText.f (k + 8) s = some (strOfNums (encText s)) := by
  unfold PAll.spec_packText.f encText
  rw [packHead_spec 128 208 s.size (by omega) (by omega) (by omega) (by omega) (by omega) (by omega)]
  simp only [Option.bind_some]
  have h3 := encHead_len 128 208 s.size
  rw [if_pos (by rw [spec_size]; omega), spec_append, strOfNums_bytesOf]

/-- packVal's contract for values of at most N parts. -/
def SPV (N : Nat) : Prop :=
  ∀ (x : S26) (A5 : Option Addr) (c5 : Nat) (A6 : Option Addr) (c6 : Nat) (w0 w : World), nodes x ≤ N → okV x → wfV x → nodes x ≤ 1000 → x.f5.length ≤ c5 → x.f6.length ≤ c6 → Kd.C Kd.string w0 A5 x.f5.length x.f5 → Kd.C k35 w0 A6 x.f6.length (convAll x.f6) →
    Below w0.heap.size w0 w →
    Calls Try.prog 44 #[valOf x A5 c5 A6 c6] w fun e w' => e = .returned (.string (strOfNums (enc x))) ∧ Below w.heap.size w w'
end Go.Proofs.Ytjnookhdiolhgaa

namespace Go.Proofs.Ytjnookhdiolhgaa
set_option linter.unusedVariables false
set_option linter.unusedSimpArgs false
open Go.RowKit Go.Proofs.YtjnookhdiolhgaaW.PrintWords
open Go.Proofs.YtjnookhdiolhgaaW.PrintLast (goes_)
open PAll (S26 k26 S35 k35 rd_T35)

theorem convAll_nth {l : List S26} {j : Nat} {x : S26} (h : l[j]? = some x) : (convAll l)[j]? = some (conv x) := by
  induction l generalizing j with
  | nil => simp at h
  | cons y r ih =>
    cases j with
    | zero => simp at h; subst h; simp [convAll]
    | succ j => simp at h; simp only [convAll, List.getElem?_cons_succ]; exact ih h

/-- The box of packVal, and all that is older. -/
structure PV (w wr : World) (k : Int) (b : Bool) (i f : Int) (s : ByteArray) (A5 : Option Addr) (n5 c5 : Nat) (A6 : Option Addr) (n6 c6 : Nat) : Prop where
  bel : Below w.heap.size w wr
  box : wr.heap[w.heap.size]? = some (.cells #[.int .i64 k, .bool b, .int .i64 i, .int .u64 f, .string s, .slice A5 n5 c5, .slice A6 n6 c6] 35 (0, 0))
theorem PV.start (w : World) (k : Int) (b : Bool) (i f : Int) (s : ByteArray) (A5 : Option Addr) (n5 c5 : Nat) (A6 : Option Addr) (n6 c6 : Nat) :
    PV w (w.alloc (.cells #[.int .i64 k, .bool b, .int .i64 i, .int .u64 f, .string s, .slice A5 n5 c5, .slice A6 n6 c6] 35)) k b i f s A5 n5 c5 A6 n6 c6 := ⟨below_alloc (Below.refl _ _) _, heap_alloc_new w _⟩
theorem PV.step {w wi wj : World} {k : Int} {b : Bool} {i f : Int} {s : ByteArray} {A5 : Option Addr} {n5 c5 : Nat} {A6 : Option Addr} {n6 c6 : Nat} (h : PV w wi k b i f s A5 n5 c5 A6 n6 c6) (hb : Below wi.heap.size wi wj) : PV w wj k b i f s A5 n5 c5 A6 n6 c6 :=
  ⟨h.bel.trans (hb.mono h.bel.size), (hb.block _ (blk_lt h.box)).trans h.box⟩
theorem PV.alloc {w wi : World} {k : Int} {b : Bool} {i f : Int} {s : ByteArray} {A5 : Option Addr} {n5 c5 : Nat} {A6 : Option Addr} {n6 c6 : Nat} (h : PV w wi k b i f s A5 n5 c5 A6 n6 c6) (o : Obj) : PV w (wi.alloc o) k b i f s A5 n5 c5 A6 n6 c6 :=
  h.step (below_alloc (Below.refl _ _) _)

set_option maxHeartbeats 2000000 in
set_option maxRecDepth 100000 in
theorem svp_leaf (k : Int) (hk : 0 ≤ k ∧ k ≤ 5) (b : Bool) (i f : Int) (s : ByteArray) (hs : s.size ≤ 300) (hi0 : -9223372036854775808 ≤ i) (hi1 : i < 9223372036854775808) (hf0 : 0 ≤ f) (hf1 : f < 18446744073709551616)
    (A5 : Option Addr) (n5 c5 : Nat) (A6 : Option Addr) (n6 c6 : Nat) (w : World) :
    Calls Try.prog 44 #[.agg #[.int .i64 k, .bool b, .int .i64 i, .int .u64 f, .string s, .slice A5 n5 c5, .slice A6 n6 c6]] w fun e w' => e = .returned (.string (strOfNums (encTop k b i f s 0))) ∧ Below w.heap.size w w' := by
  have HT := Aside0.mk (PV.start w k b i f s A5 n5 c5 A6 n6 c6)
  have HI := Aside0.mk (fun wi : World => PAll.spec_packInt.calls 13 i (strOfNums (encInt i)) wi (packInt_spec i hi0 hi1 0))
  have HF := Aside0.mk (fun wi : World => PAll.spec_packFloat.calls 9 f (strOfNums (encFloat f.toNat)) wi (packFloat_spec f hf0 hf1 0))
  have HX := Aside0.mk (fun wi : World => PAll.spec_packText.calls 8 s (strOfNums (encText s)) wi (packText_spec s hs 0))
  have HH := Aside0.mk (fun wi : World => PAll.spec_packHead.calls 8 0 204 s.size (strOfNums (encByteHead s.size)) wi (packHead_bytes s.size (by omega) (by omega) 0))
  have HE := Aside0.mk (show strOfNums (encByteHead s.size ++ bytesOf s) = strOfNums (encByteHead s.size) ++ s by rw [spec_append, strOfNums_bytesOf])
  have hz : (strOfNums (encByteHead s.size)).size ≤ 3 := by rw [spec_size]; unfold encByteHead; split <;> simp
  clear hi0 hi1 hf0 hf1
  obtain ⟨hk0, hk5⟩ := hk
  rcases (show k = 0 ∨ k = 1 ∨ k = 2 ∨ k = 3 ∨ k = 4 ∨ k = 5 by omega) with rfl | rfl | rfl | rfl | rfl | rfl
  · go_enter Try.func44, Try.ntmps44
    go_wp2_with fail
    go_ret
    exact ⟨rfl, HT.out.bel⟩
  · cases b
    all_goals
      go_enter Try.func44, Try.ntmps44
      go_wp2_with fail
      go_ret
      exact ⟨rfl, HT.out.bel⟩
  · go_enter Try.func44, Try.ntmps44
    go_wp2_with fail
    refine (HI.out _).mono ?_
    rintro e w1 ⟨rfl, hb⟩
    have HT1 := Aside0.mk (HT.out.step hb)
    clear hb
    go_wp2_with fail
    go_ret
    exact ⟨rfl, HT1.out.bel⟩
  · go_enter Try.func44, Try.ntmps44
    go_wp2_with fail
    refine (HF.out _).mono ?_
    rintro e w1 ⟨rfl, hb⟩
    have HT1 := Aside0.mk (HT.out.step hb)
    clear hb
    go_wp2_with fail
    go_ret
    exact ⟨rfl, HT1.out.bel⟩
  · go_enter Try.func44, Try.ntmps44
    go_wp2_with fail
    refine (HX.out _).mono ?_
    rintro e w1 ⟨rfl, hb⟩
    have HT1 := Aside0.mk (HT.out.step hb)
    clear hb
    go_wp2_with fail
    go_ret
    exact ⟨rfl, HT1.out.bel⟩
  · go_enter Try.func44, Try.ntmps44
    clear HI HF HX
    have HET := Aside0.mk (show encTop 5 b i f s 0 = encByteHead s.size ++ bytesOf s from rfl)
    rw [HET.out, HE.out]
    clear HET HE
    generalize strOfNums (encByteHead s.size) = sh at *
    have hss : sh.size + s.size ≤ 9223372036854775807 := by omega
    go_wp2_with fail
    obtain ⟨wz, hwz⟩ : ∃ wz, w.alloc (.cells #[.int .i64 5, .bool b, .int .i64 i, .int .u64 f, .string s, .slice A5 n5 c5, .slice A6 n6 c6] 35) = wz := ⟨_, rfl⟩
    rw [hwz] at HT ⊢
    obtain ⟨p0, p1, p2, p3, p4, p5, p6⟩ := box7 HT.out.box
    clear p0 p1 p2 p3 p5 p6 hwz
    go_region_with (first | (go_at_call 102; refine (HH.out _).mono ?_; rintro e w5 ⟨rfl, hb5⟩; have p4' := pw_cell_below ((below_drew (Below.refl _ _)).trans hb5) p4))
    all_goals
      go_wp2_with fail
      go_ret
      exact ⟨rfl, HT.out.bel.trans (((below_drew (Below.refl _ _)).trans hb5).mono HT.out.bel.size)⟩

set_option maxHeartbeats 4000000 in
set_option maxRecDepth 100000 in
theorem svp_k6 (N : Nat) (ih : SPV N) (b : Bool) (i f : Int) (s : ByteArray) (keys : List ByteArray) (kids : List S26) (A5 : Option Addr) (c5 : Nat) (A6 : Option Addr) (c6 : Nat) (w0 w : World)
    (hN : nodesAll kids ≤ N) (hn : nodesAll kids + 1 ≤ 1000) (hoa : okAll kids) (hwa : wfAll kids) (hlen : 310 + (encKids false keys kids).length ≤ 700000)
    (hc5 : keys.length ≤ c5) (hc6 : kids.length ≤ c6) (hk5 : Kd.C Kd.string w0 A5 keys.length keys) (hk6 : Kd.C k35 w0 A6 kids.length (convAll kids)) (hw : Below w0.heap.size w0 w) :
    Calls Try.prog 44 #[.agg #[.int .i64 6, .bool b, .int .i64 i, .int .u64 f, .string s, .slice A5 keys.length c5, .slice A6 kids.length c6]] w fun e w' => e = .returned (.string (strOfNums (encHead 144 212 kids.length ++ encKids false keys kids))) ∧ Below w.heap.size w w' := by
  have hkn := nodesAll_len kids
  have hkn2 : kids.length ≤ 1000 := by omega
  have HT := Aside0.mk (PV.start w 6 b i f s A5 keys.length c5 A6 kids.length c6)
  have HH := Aside0.mk (fun wi : World => PAll.spec_packHead.calls 8 144 212 kids.length (strOfNums (encHead 144 212 kids.length)) wi (packHead_spec 144 212 kids.length (by omega) (by omega) (by omega) (by omega) (by omega) (by omega) 0))
  have HK5 := Aside0.mk hk5
  have HK6 := Aside0.mk hk6
  have HW := Aside0.mk hw
  have HN := Aside0.mk (And.intro hN hn)
  have HOA := Aside0.mk hoa
  have HWA := Aside0.mk hwa
  have HC5 := Aside0.mk hc5
  have HC6 := Aside0.mk hc6
  have HLEN := Aside0.mk hlen
  have HTL := Aside0.mk (show (encHead 144 212 kids.length).length ≤ 310 by first | (have := encHead_len 144 212 kids.length; omega) | simp)
  clear hk5 hk6 hw hN hn hoa hwa hc5 hc6 hlen hkn
  generalize htop : encHead 144 212 kids.length = top at *
  have HTOP := Aside0.mk htop
  have hts : (strOfNums top).size ≤ 700000 := by rw [spec_size]; have := HTL.out; omega
  clear htop
  go_enter Try.func44, Try.ntmps44
  go_wp2_with fail
  refine (HH.out _).mono ?_
  rintro e w1 ⟨rfl, hb⟩
  have HT1 := Aside0.mk (HT.out.step hb)
  obtain ⟨hc0, hc1, hc2, hc3, hc4, hc5, hc6⟩ := box7 HT1.out.box
  clear hb HT HH
  go_wp2_with fail
  go_loopg [3, 65] kids.length (fun gk v3 v65 wr => ∃ (j : Nat) (so : ByteArray), v3 = .string so ∧ v65 = .int .i64 j ∧ so.size ≤ 700000 ∧ Aside0 (so = strOfNums (top ++ encKids false keys (kids.take j))) ∧ Aside0 (j ≤ kids.length ∧ gk = kids.length - j) ∧
    Aside0 (PV w wr 6 b i f s A5 keys.length c5 A6 kids.length c6))
  case atStart => exact ⟨0, _, rfl, rfl, hts, ⟨by simp [encKids]⟩, ⟨by omega⟩, ⟨HT1.out⟩⟩
  case round =>
    clear HT1 hts
    obtain ⟨j, so, rfl, rfl, hso, HS, HJ, HV⟩ := hrel
    obtain ⟨hc0, hc1, hc2, hc3, hc4, hc5, hc6⟩ := box7 HV.out.box
    have hszr : w.heap.size ≤ wr.heap.size := HV.out.bel.size
    have hszb : w.heap.size < wr.heap.size := blk_lt HV.out.box
    clear hc1 hc2 hc3 hc4 hc6
    by_cases hj : j < kids.length
    · obtain ⟨y, hy⟩ : ∃ y, kids[j]? = some y := ⟨_, List.getElem?_eq_getElem hj⟩
      have hbr : Below w0.heap.size w0 wr := HW.out.trans (HV.out.bel.mono HW.out.size)
      obtain ⟨ad, B5, d5, B6, d6, hA, g0, g1, g2, g3, g4, g5, g6, l5, q5, l6, q6⟩ := PAll.at_T35 HK6.out (j : Int) (by omega) (by omega)
      have hry : rd_T35 (convAll kids) (j : Int) = conv y := by unfold Go.Proofs.Ytjnookhdiolhgaa.PAll.rd_T35; rw [Int.toNat_natCast, List.getD_eq_getElem?_getD, convAll_nth hy]; rfl
      rw [hry, conv_eq] at g0 g1 g2 g3 g4 g5 g6 l5 q5 l6 q6
      rw [Int.toNat_natCast] at g0 g1 g2 g3 g4 g5 g6
      dsimp only at g0 g1 g2 g3 g4 g5 g6 l5 q5 l6 q6
      rw [convAll_length] at g6 l6 q6
      have h0 := pw_cell_below hbr g0
      have h1 := pw_cell_below hbr g1
      have h2 := pw_cell_below hbr g2
      have h3 := pw_cell_below hbr g3
      have h4 := pw_cell_below hbr g4
      have h5 := pw_cell_below hbr g5
      have h6 := pw_cell_below hbr g6
      subst hA
      have HY := Aside0.mk hy
      have HQ := Aside0.mk (And.intro l5 (And.intro q5 (And.intro l6 q6)))
      have HBR := Aside0.mk hbr
      clear g0 g1 g2 g3 g4 g5 g6 l5 q5 l6 q6 hry hy hbr
      have hle := enc_le false keys kids HY.out
      rw [List.length_append] at hle
      have HLE := Aside0.mk hle
      have HNY := Aside0.mk (nodes_at HY.out)
      clear hle
      have HXY := Aside0.mk (fun (wi : World) (hb : Below wr.heap.size wr wi) => ih y B5 d5 B6 d6 w0 wi (by have := HNY.out; have := HN.out.1; omega) (okAll_at HOA.out HY.out) (wfAll_at HWA.out HY.out) (by have := HNY.out; have := HN.out.2; omega) HQ.out.1 HQ.out.2.2.1 HQ.out.2.1 HQ.out.2.2.2 (HBR.out.trans (hb.mono HBR.out.size)))
      unfold valOf at HXY
      have hye : (strOfNums (enc y)).size ≤ 700000 := by
        rw [spec_size]; have h1 := HLE.out; have h2 := HLEN.out; omega
      have HSN := Aside0.mk (show strOfNums (top ++ encKids false keys (kids.take (j + 1))) = so ++ strOfNums (enc y) by
        rw [encKids_snoc false keys kids j y HY.out, HS.out]
        simp only [spec_append, Bool.false_eq_true, if_false, List.nil_append, ByteArray.append_assoc])
      have HSZ := Aside0.mk (show (so ++ strOfNums (enc y)).size ≤ 700000 by
        rw [← HSN.out, spec_size]
        have h1 := encKids_prefix false keys kids (j + 1)
        have h2 := HLEN.out
        have h3 := HTL.out
        simp only [List.length_append]
        omega)
      generalize strOfNums (enc y) = sy at *
      go_wp2_with fail
      refine (HXY.out _ (below_alloc (Below.refl _ _) _)).mono ?_
      rintro e w2 ⟨rfl, hb⟩
      have HV2 := Aside0.mk ((HV.out.alloc (.cells #[.int .i64 y.f0, .bool y.f1, .int .i64 y.f2, .int .u64 y.f3, .string y.f4, .slice B5 y.f5.length d5, .slice B6 y.f6.length d6] 35)).step hb)
      clear hb HXY h0 h1 h2 h3 h4 h5 h6 hc0 hc5
      go_wp2_with fail
      go_roundg (kids.length - (j + 1))
      case measure => have := HJ.out.2; omega
      case rel =>
        exact ⟨j + 1, _, rfl, by go_num, HSZ.out, ⟨HSN.out.symm⟩, ⟨by omega⟩, ⟨HV2.out⟩⟩
    · have hje : j = kids.length := by have := HJ.out.1; omega
      subst hje
      have HS2 := Aside0.mk (show so = strOfNums (top ++ encKids false keys kids) by have := HS.out; rwa [List.take_length] at this)
      clear HS
      go_wp2_with fail
      go_ret
      exact ⟨by rw [HS2.out]; rfl, HV.out.bel⟩

set_option maxHeartbeats 4000000 in
set_option maxRecDepth 100000 in
theorem svp_k7 (N : Nat) (ih : SPV N) (b : Bool) (i f : Int) (s : ByteArray) (keys : List ByteArray) (kids : List S26) (A5 : Option Addr) (c5 : Nat) (A6 : Option Addr) (c6 : Nat) (w0 w : World)
    (hN : nodesAll kids ≤ N) (hn : nodesAll kids + 1 ≤ 1000) (hoa : okAll kids) (hwa : wfAll kids) (hlen : 310 + (encKids true keys kids).length ≤ 700000) (hkl : keys.length = kids.length) (hks : ∀ t ∈ keys, t.size ≤ 300)
    (hc5 : keys.length ≤ c5) (hc6 : kids.length ≤ c6) (hk5 : Kd.C Kd.string w0 A5 keys.length keys) (hk6 : Kd.C k35 w0 A6 kids.length (convAll kids)) (hw : Below w0.heap.size w0 w) :
    Calls Try.prog 44 #[.agg #[.int .i64 7, .bool b, .int .i64 i, .int .u64 f, .string s, .slice A5 keys.length c5, .slice A6 kids.length c6]] w fun e w' => e = .returned (.string (strOfNums (encHead 160 216 kids.length ++ encKids true keys kids))) ∧ Below w.heap.size w w' := by
  have hkn := nodesAll_len kids
  have hkn2 : kids.length ≤ 1000 := by omega
  have HT := Aside0.mk (PV.start w 7 b i f s A5 keys.length c5 A6 kids.length c6)
  have HH := Aside0.mk (fun wi : World => PAll.spec_packHead.calls 8 160 216 kids.length (strOfNums (encHead 160 216 kids.length)) wi (packHead_spec 160 216 kids.length (by omega) (by omega) (by omega) (by omega) (by omega) (by omega) 0))
  have HK5 := Aside0.mk hk5
  have HK6 := Aside0.mk hk6
  have HW := Aside0.mk hw
  have HN := Aside0.mk (And.intro hN hn)
  have HOA := Aside0.mk hoa
  have HWA := Aside0.mk hwa
  have HC5 := Aside0.mk hc5
  have HC6 := Aside0.mk hc6
  have HLEN := Aside0.mk hlen
  have HTL := Aside0.mk (show (encHead 160 216 kids.length).length ≤ 310 by first | (have := encHead_len 160 216 kids.length; omega) | simp)
  have HKL := Aside0.mk hkl
  have HKS := Aside0.mk hks
  clear hkl hks
  clear hk5 hk6 hw hN hn hoa hwa hc5 hc6 hlen hkn
  generalize htop : encHead 160 216 kids.length = top at *
  have HTOP := Aside0.mk htop
  have hts : (strOfNums top).size ≤ 700000 := by rw [spec_size]; have := HTL.out; omega
  clear htop
  go_enter Try.func44, Try.ntmps44
  go_wp2_with fail
  refine (HH.out _).mono ?_
  rintro e w1 ⟨rfl, hb⟩
  have HT1 := Aside0.mk (HT.out.step hb)
  obtain ⟨hc0, hc1, hc2, hc3, hc4, hc5, hc6⟩ := box7 HT1.out.box
  clear hb HT HH
  go_wp2_with fail
  go_loopg [3, 65] kids.length (fun gk v3 v65 wr => ∃ (j : Nat) (so : ByteArray), v3 = .string so ∧ v65 = .int .i64 j ∧ so.size ≤ 700000 ∧ Aside0 (so = strOfNums (top ++ encKids true keys (kids.take j))) ∧ Aside0 (j ≤ kids.length ∧ gk = kids.length - j) ∧
    Aside0 (PV w wr 7 b i f s A5 keys.length c5 A6 kids.length c6))
  case atStart => exact ⟨0, _, rfl, rfl, hts, ⟨by simp [encKids]⟩, ⟨by omega⟩, ⟨HT1.out⟩⟩
  case round =>
    clear HT1 hts
    obtain ⟨j, so, rfl, rfl, hso, HS, HJ, HV⟩ := hrel
    obtain ⟨hc0, hc1, hc2, hc3, hc4, hc5, hc6⟩ := box7 HV.out.box
    have hszr : w.heap.size ≤ wr.heap.size := HV.out.bel.size
    have hszb : w.heap.size < wr.heap.size := blk_lt HV.out.box
    clear hc1 hc2 hc3 hc4 hc6
    by_cases hj : j < kids.length
    · obtain ⟨y, hy⟩ : ∃ y, kids[j]? = some y := ⟨_, List.getElem?_eq_getElem hj⟩
      have hbr : Below w0.heap.size w0 wr := HW.out.trans (HV.out.bel.mono HW.out.size)
      obtain ⟨ad, B5, d5, B6, d6, hA, g0, g1, g2, g3, g4, g5, g6, l5, q5, l6, q6⟩ := PAll.at_T35 HK6.out (j : Int) (by omega) (by omega)
      have hry : rd_T35 (convAll kids) (j : Int) = conv y := by unfold Go.Proofs.Ytjnookhdiolhgaa.PAll.rd_T35; rw [Int.toNat_natCast, List.getD_eq_getElem?_getD, convAll_nth hy]; rfl
      rw [hry, conv_eq] at g0 g1 g2 g3 g4 g5 g6 l5 q5 l6 q6
      rw [Int.toNat_natCast] at g0 g1 g2 g3 g4 g5 g6
      dsimp only at g0 g1 g2 g3 g4 g5 g6 l5 q5 l6 q6
      rw [convAll_length] at g6 l6 q6
      have h0 := pw_cell_below hbr g0
      have h1 := pw_cell_below hbr g1
      have h2 := pw_cell_below hbr g2
      have h3 := pw_cell_below hbr g3
      have h4 := pw_cell_below hbr g4
      have h5 := pw_cell_below hbr g5
      have h6 := pw_cell_below hbr g6
      subst hA
      have HY := Aside0.mk hy
      have HQ := Aside0.mk (And.intro l5 (And.intro q5 (And.intro l6 q6)))
      have HBR := Aside0.mk hbr
      clear g0 g1 g2 g3 g4 g5 g6 l5 q5 l6 q6 hry hy hbr
      have hle := enc_le true keys kids HY.out
      rw [List.length_append] at hle
      have HLE := Aside0.mk hle
      have HNY := Aside0.mk (nodes_at HY.out)
      clear hle
      have HXY := Aside0.mk (fun (wi : World) (hb : Below wr.heap.size wr wi) => ih y B5 d5 B6 d6 w0 wi (by have := HNY.out; have := HN.out.1; omega) (okAll_at HOA.out HY.out) (wfAll_at HWA.out HY.out) (by have := HNY.out; have := HN.out.2; omega) HQ.out.1 HQ.out.2.2.1 HQ.out.2.1 HQ.out.2.2.2 (HBR.out.trans (hb.mono HBR.out.size)))
      unfold valOf at HXY
      have hye : (strOfNums (enc y)).size ≤ 700000 := by
        rw [spec_size]; have h1 := HLE.out; have h2 := HLEN.out; omega
      obtain ⟨adk, hA5, gk⟩ := Kd.at_string HK5.out (j : Int) (by omega) (by have := HKL.out; omega)
      have gk2 := pw_cell_below HBR.out gk
      rw [Int.toNat_natCast] at gk2
      have hkm : rdOf ByteArray.empty keys (j : Int) = keys.getD j ByteArray.empty := by unfold Go.Proofs.YtjnookhdiolhgaaW.PrintWords.rdOf; rw [Int.toNat_natCast]
      have hks : (keys.getD j ByteArray.empty).size ≤ 300 := by
        have hjk : j < keys.length := by have := HKL.out; omega
        rw [List.getD_eq_getElem?_getD, List.getElem?_eq_getElem hjk]
        exact HKS.out _ (List.getElem_mem hjk)
      rw [hkm] at gk2
      obtain ⟨kk, hkk⟩ : ∃ kk, keys.getD j ByteArray.empty = kk := ⟨_, rfl⟩
      rw [hkk] at gk2 hks
      have HKK := Aside0.mk hkk
      have HTK := Aside0.mk (fun wi : World => PAll.spec_packText.calls 8 kk (strOfNums (encText kk)) wi (packText_spec kk hks 0))
      have hkz : (strOfNums (encText kk)).size ≤ 700000 := by rw [spec_size]; unfold encText; have := encHead_len 128 208 kk.size; rw [List.length_append, bytesOf_length]; omega
      subst hA5
      clear gk hkm hkk
      have hjl : j < keys.length := by have := HKL.out; omega
      have gk3 : (wr.alloc (.cells #[.int .i64 y.f0, .bool y.f1, .int .i64 y.f2, .int .u64 y.f3, .string y.f4, .slice B5 y.f5.length d5, .slice B6 y.f6.length d6] 35)).cell? (adk.add j) = some (.string kk) := pw_cell_below (below_alloc (Below.refl _ _) _) gk2
      clear gk2
      have HSN := Aside0.mk (show strOfNums (top ++ encKids true keys (kids.take (j + 1))) = so ++ strOfNums (encText kk) ++ strOfNums (enc y) by
        rw [encKids_snoc true keys kids j y HY.out, HS.out]
        rw [HKK.out]
        simp only [spec_append, if_true, ByteArray.append_assoc])
      have HSZ := Aside0.mk (show (so ++ strOfNums (encText kk) ++ strOfNums (enc y)).size ≤ 700000 by
        rw [← HSN.out, spec_size]
        have h1 := encKids_prefix true keys kids (j + 1)
        have h2 := HLEN.out
        have h3 := HTL.out
        simp only [List.length_append]
        omega)
      generalize strOfNums (enc y) = sy at *
      generalize strOfNums (encText kk) = sk at *
      have HAS := Aside0.mk (show so ++ sk ++ sy = so ++ (sk ++ sy) from ByteArray.append_assoc)
      have HS3 := Aside0.mk (show (so ++ sk).size ≤ 700000 by have := HSZ.out; simp only [ByteArray.size_append] at this ⊢; omega)
      go_wp2_with fail
      refine (HTK.out _).mono ?_
      rintro e w3 ⟨rfl, hb⟩
      have HB3 := Aside0.mk ((below_alloc (Below.refl wr.heap.size wr) (.cells #[.int .i64 y.f0, .bool y.f1, .int .i64 y.f2, .int .u64 y.f3, .string y.f4, .slice B5 y.f5.length d5, .slice B6 y.f6.length d6] 35)).trans (hb.mono (by rw [World.size_alloc]; omega)))
      obtain ⟨e0, e1, e2, e3, e4, e5, e6⟩ := box7 ((hb.block _ (by rw [World.size_alloc]; omega)).trans (heap_alloc_new wr (.cells #[.int .i64 y.f0, .bool y.f1, .int .i64 y.f2, .int .u64 y.f3, .string y.f4, .slice B5 y.f5.length d5, .slice B6 y.f6.length d6] 35)))
      obtain ⟨hc0, hc1, hc2, hc3, hc4, hc5, hc6⟩ := box7 (HV.out.step HB3.out).box
      have hs3 := HS3.out
      clear hb HTK gk3 hc1 hc2 hc3 hc4 hc6
      go_wp2_with fail
      refine (HXY.out _ HB3.out).mono ?_
      rintro e w2 ⟨rfl, hb⟩
      have HV2 := Aside0.mk (HV.out.step (HB3.out.trans (hb.mono HB3.out.size)))
      clear hb HXY h0 h1 h2 h3 h4 h5 h6 hc0 hc5
      go_wp2_with fail
      go_roundg (kids.length - (j + 1))
      case measure => have := HJ.out.2; omega
      case rel =>
        exact ⟨j + 1, _, rfl, by go_num, HSZ.out, ⟨HSN.out.symm⟩, ⟨by omega⟩, ⟨HV2.out⟩⟩
    · have hje : j = kids.length := by have := HJ.out.1; omega
      subst hje
      have HS2 := Aside0.mk (show so = strOfNums (top ++ encKids true keys kids) by have := HS.out; rwa [List.take_length] at this)
      clear HS
      go_wp2_with fail
      go_ret
      exact ⟨by rw [HS2.out]; rfl, HV.out.bel⟩

set_option maxHeartbeats 4000000 in
set_option maxRecDepth 100000 in
theorem svp_k8 (N : Nat) (ih : SPV N) (b : Bool) (i f : Int) (s : ByteArray) (keys : List ByteArray) (kids : List S26) (A5 : Option Addr) (c5 : Nat) (A6 : Option Addr) (c6 : Nat) (w0 w : World)
    (hN : nodesAll kids ≤ N) (hn : nodesAll kids + 1 ≤ 1000) (hoa : okAll kids) (hwa : wfAll kids) (hlen : 310 + (encKids false keys kids).length ≤ 700000) (hi : 0 ≤ i ∧ i ≤ 255 ∧ kids.length ≤ 15)
    (hc5 : keys.length ≤ c5) (hc6 : kids.length ≤ c6) (hk5 : Kd.C Kd.string w0 A5 keys.length keys) (hk6 : Kd.C k35 w0 A6 kids.length (convAll kids)) (hw : Below w0.heap.size w0 w) :
    Calls Try.prog 44 #[.agg #[.int .i64 8, .bool b, .int .i64 i, .int .u64 f, .string s, .slice A5 keys.length c5, .slice A6 kids.length c6]] w fun e w' => e = .returned (.string (strOfNums ([176 + (kids.length : Int), i] ++ encKids false keys kids))) ∧ Below w.heap.size w w' := by
  have hkn := nodesAll_len kids
  have hkn2 : kids.length ≤ 1000 := by omega
  have HT := Aside0.mk (PV.start w 8 b i f s A5 keys.length c5 A6 kids.length c6)
  have HK5 := Aside0.mk hk5
  have HK6 := Aside0.mk hk6
  have HW := Aside0.mk hw
  have HN := Aside0.mk (And.intro hN hn)
  have HOA := Aside0.mk hoa
  have HWA := Aside0.mk hwa
  have HC5 := Aside0.mk hc5
  have HC6 := Aside0.mk hc6
  have HLEN := Aside0.mk hlen
  have HTL := Aside0.mk (show ([176 + (kids.length : Int), i]).length ≤ 310 by first | (have := encHead_len 144 212 kids.length; omega) | simp)
  obtain ⟨hi0, hi1, hk15⟩ := hi
  clear hk5 hk6 hw hN hn hoa hwa hc5 hc6 hlen hkn
  generalize htop : [176 + (kids.length : Int), i] = top at *
  have HTOP := Aside0.mk htop
  have hts : (strOfNums top).size ≤ 700000 := by rw [spec_size]; have := HTL.out; omega
  clear htop
  go_enter Try.func44, Try.ntmps44
  go_wp2_with (first | ((with_reducible refine gate_dst (N := 60) rfl ?_); refine Kd.R_lit (Kd.int .u8) _ 5 ?hg (N := 60) ?hd (xs := ([176 + (kids.length : Int), i] : List Int)) (inner := [.int .u8 (176 + (kids.length : Int)), .int .u8 i]) (ok := fun _ => True) (okp := fun _ => True) ?hr ?hp (fun _ hk => hk) trivial (Below.refl _ _) (Nat.le_refl _) (by simp) ?_; (case hd => rfl); (case hg => rfl); (case hr => first | (go_simp; done) | (go_simp; rfl)); (case hp => exact (Reps.one (show Kd.M (Kd.int .u8) _ _ _ (176 + (kids.length : Int)) [.int .u8 (176 + (kids.length : Int))] from rfl) (Reps.one (show Kd.M (Kd.int .u8) _ _ _ i [.int .u8 i] from rfl) (Reps.none _ _)))); intro v1 w1 ho hb hg_ hnew_; clear hg_ hnew_; have hcv := own_string (P := Try.prog) Try.underlying69 Try.underlying5 Try.underlying9 (Kd.own_of_R ho); have HT1 := Aside0.mk (HT.out.step hb); obtain ⟨hc0, hc1, hc2, hc3, hc4, hc5, hc6⟩ := box7 HT1.out.box; clear hb HT ho))
  go_loopg [3, 65] kids.length (fun gk v3 v65 wr => ∃ (j : Nat) (so : ByteArray), v3 = .string so ∧ v65 = .int .i64 j ∧ so.size ≤ 700000 ∧ Aside0 (so = strOfNums (top ++ encKids false keys (kids.take j))) ∧ Aside0 (j ≤ kids.length ∧ gk = kids.length - j) ∧
    Aside0 (PV w wr 8 b i f s A5 keys.length c5 A6 kids.length c6))
  case atStart => exact ⟨0, _, rfl, rfl, (by rw [HTOP.out]; exact hts), ⟨by rw [HTOP.out]; simp [encKids]⟩, ⟨by omega⟩, ⟨HT1.out⟩⟩
  case round =>
    clear HT1 hts
    obtain ⟨j, so, rfl, rfl, hso, HS, HJ, HV⟩ := hrel
    obtain ⟨hc0, hc1, hc2, hc3, hc4, hc5, hc6⟩ := box7 HV.out.box
    have hszr : w.heap.size ≤ wr.heap.size := HV.out.bel.size
    have hszb : w.heap.size < wr.heap.size := blk_lt HV.out.box
    clear hc1 hc2 hc3 hc4 hc6
    by_cases hj : j < kids.length
    · obtain ⟨y, hy⟩ : ∃ y, kids[j]? = some y := ⟨_, List.getElem?_eq_getElem hj⟩
      have hbr : Below w0.heap.size w0 wr := HW.out.trans (HV.out.bel.mono HW.out.size)
      obtain ⟨ad, B5, d5, B6, d6, hA, g0, g1, g2, g3, g4, g5, g6, l5, q5, l6, q6⟩ := PAll.at_T35 HK6.out (j : Int) (by omega) (by omega)
      have hry : rd_T35 (convAll kids) (j : Int) = conv y := by unfold Go.Proofs.Ytjnookhdiolhgaa.PAll.rd_T35; rw [Int.toNat_natCast, List.getD_eq_getElem?_getD, convAll_nth hy]; rfl
      rw [hry, conv_eq] at g0 g1 g2 g3 g4 g5 g6 l5 q5 l6 q6
      rw [Int.toNat_natCast] at g0 g1 g2 g3 g4 g5 g6
      dsimp only at g0 g1 g2 g3 g4 g5 g6 l5 q5 l6 q6
      rw [convAll_length] at g6 l6 q6
      have h0 := pw_cell_below hbr g0
      have h1 := pw_cell_below hbr g1
      have h2 := pw_cell_below hbr g2
      have h3 := pw_cell_below hbr g3
      have h4 := pw_cell_below hbr g4
      have h5 := pw_cell_below hbr g5
      have h6 := pw_cell_below hbr g6
      subst hA
      have HY := Aside0.mk hy
      have HQ := Aside0.mk (And.intro l5 (And.intro q5 (And.intro l6 q6)))
      have HBR := Aside0.mk hbr
      clear g0 g1 g2 g3 g4 g5 g6 l5 q5 l6 q6 hry hy hbr
      have hle := enc_le false keys kids HY.out
      rw [List.length_append] at hle
      have HLE := Aside0.mk hle
      have HNY := Aside0.mk (nodes_at HY.out)
      clear hle
      have HXY := Aside0.mk (fun (wi : World) (hb : Below wr.heap.size wr wi) => ih y B5 d5 B6 d6 w0 wi (by have := HNY.out; have := HN.out.1; omega) (okAll_at HOA.out HY.out) (wfAll_at HWA.out HY.out) (by have := HNY.out; have := HN.out.2; omega) HQ.out.1 HQ.out.2.2.1 HQ.out.2.1 HQ.out.2.2.2 (HBR.out.trans (hb.mono HBR.out.size)))
      unfold valOf at HXY
      have hye : (strOfNums (enc y)).size ≤ 700000 := by
        rw [spec_size]; have h1 := HLE.out; have h2 := HLEN.out; omega
      have HSN := Aside0.mk (show strOfNums (top ++ encKids false keys (kids.take (j + 1))) = so ++ strOfNums (enc y) by
        rw [encKids_snoc false keys kids j y HY.out, HS.out]
        simp only [spec_append, Bool.false_eq_true, if_false, List.nil_append, ByteArray.append_assoc])
      have HSZ := Aside0.mk (show (so ++ strOfNums (enc y)).size ≤ 700000 by
        rw [← HSN.out, spec_size]
        have h1 := encKids_prefix false keys kids (j + 1)
        have h2 := HLEN.out
        have h3 := HTL.out
        simp only [List.length_append]
        omega)
      generalize strOfNums (enc y) = sy at *
      go_wp2_with fail
      refine (HXY.out _ (below_alloc (Below.refl _ _) _)).mono ?_
      rintro e w2 ⟨rfl, hb⟩
      have HV2 := Aside0.mk ((HV.out.alloc (.cells #[.int .i64 y.f0, .bool y.f1, .int .i64 y.f2, .int .u64 y.f3, .string y.f4, .slice B5 y.f5.length d5, .slice B6 y.f6.length d6] 35)).step hb)
      clear hb HXY h0 h1 h2 h3 h4 h5 h6 hc0 hc5
      go_wp2_with fail
      go_roundg (kids.length - (j + 1))
      case measure => have := HJ.out.2; omega
      case rel =>
        exact ⟨j + 1, _, rfl, by go_num, HSZ.out, ⟨HSN.out.symm⟩, ⟨by omega⟩, ⟨HV2.out⟩⟩
    · have hje : j = kids.length := by have := HJ.out.1; omega
      subst hje
      have HS2 := Aside0.mk (show so = strOfNums (top ++ encKids false keys kids) by have := HS.out; rwa [List.take_length] at this)
      clear HS
      go_wp2_with fail
      go_ret
      exact ⟨by rw [HS2.out]; rfl, HV.out.bel⟩

set_option maxRecDepth 100000 in
theorem packVal_any : ∀ N, SPV N := by
  intro N
  induction N with
  | zero =>
    intro x A5 c5 A6 c6 w0 w hn
    have := nodes_pos x
    omega
  | succ N ih =>
    intro x A5 c5 A6 c6 w0 w hn hok hwf hn1 h5 h6 hk5 hk6 hw
    have hel := enc_len x hok
    obtain ⟨k, b, i, f, s, keys, kids⟩ := x
    simp only [nodes] at hn hn1 hel
    simp only [okV] at hok
    simp only [wfV] at hwf
    obtain ⟨⟨hk0, hk8, hs, hb, hi, hg, hs0, hkeys, hkids, h8, h7, hks⟩, hoa⟩ := hok
    obtain ⟨⟨hi0, hi1, hf0, hf1⟩, hwa⟩ := hwf
    have hxs := encKids_len kids (k == 7) keys hoa hks
    by_cases hk : k ≤ 5
    · have hkd : kids = [] := hkids (by omega)
      subst hkd
      have h := svp_leaf k ⟨hk0, hk⟩ b i f s hs hi0 hi1 hf0 hf1 A5 keys.length c5 A6 0 c6 w
      have e : enc ⟨k, b, i, f, s, keys, []⟩ = encTop k b i f s 0 := by simp [enc, encKids]
      rw [e]
      exact h
    · rcases (show k = 6 ∨ k = 7 ∨ k = 8 by omega) with rfl | rfl | rfl
      · exact svp_k6 N ih b i f s keys kids A5 c5 A6 c6 w0 w (by omega) hn1 hoa hwa (by have : ((6 : Int) == 7) = false := rfl; rw [this] at hxs; omega) h5 h6 hk5 hk6 hw
      · exact svp_k7 N ih b i f s keys kids A5 c5 A6 c6 w0 w (by omega) hn1 hoa hwa (by have : ((7 : Int) == 7) = true := rfl; rw [this] at hxs; omega) (h7 rfl) hks h5 h6 hk5 hk6 hw
      · exact svp_k8 N ih b i f s keys kids A5 c5 A6 c6 w0 w (by omega) hn1 hoa hwa (by have : ((8 : Int) == 7) = false := rfl; rw [this] at hxs; omega) (h8 rfl) h5 h6 hk5 hk6 hw
end Go.Proofs.Ytjnookhdiolhgaa
