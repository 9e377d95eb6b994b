/- laws.good: what it lets in is a value of at most 400 parts. -/
import Derived.Test.YtjnookhdiolhgaaValid
namespace Go.Proofs.Ytjnookhdiolhgaa
open Go.RowKit Go.Proofs.YtjnookhdiolhgaaW.PrintWords
open PAll (S26 k26)

theorem good_aux (N : Nat) (hN : N = 400) (x : S26) (A5 : Option Addr) (c5 : Nat) (A6 : Option Addr) (c6 : Nat) (lb : Nat) (w0 w : World) (hwf : wfV x) (h5 : x.f5.length ≤ c5) (h6 : x.f6.length ≤ c6) (hk5 : Kd.C Kd.string w0 A5 x.f5.length x.f5) (hk6 : Kd.C k26 w0 A6 x.f6.length x.f6)
    (hb : Below w0.heap.size w0 w) (h0 : w0.heap.size ≤ lb) (hc : w.heap[lb]? = some (.cells #[.int .i64 400] 3 (0, 0))) :
    Calls Try.prog 39 #[valOf x A5 c5 A6 c6, .pointer (some ⟨lb, 0, none⟩)] w fun e w' => VR w lb 400 (nodes x) (okV x) e w' :=
  valid_any N x A5 c5 A6 c6 lb 400 w0 w (by omega) (by omega) (by omega) hwf h5 h6 hk5 hk6 hb h0 hc

set_option maxHeartbeats 2000000 in
set_option maxRecDepth 100000 in
/-- good: what it lets in is a value of at most 400 parts. -/
theorem good_any (x : S26) (A5 : Option Addr) (c5 : Nat) (A6 : Option Addr) (c6 : Nat) (w : World) (hwf : wfV x) (h5 : x.f5.length ≤ c5) (h6 : x.f6.length ≤ c6) (hk5 : Kd.C Kd.string w A5 x.f5.length x.f5) (hk6 : Kd.C k26 w A6 x.f6.length x.f6) :
    Calls Try.prog 16 #[valOf x A5 c5 A6 c6] w fun e w' => ∃ r : Bool, e = .returned (.bool r) ∧ Below w.heap.size w w' ∧ (r = true → okV x ∧ nodes x ≤ 400) := by
  have hb : Below w.heap.size w ((w.alloc (.cells #[.int .i64 x.f0, .bool x.f1, .int .i64 x.f2, .int .u64 x.f3, .string x.f4, .slice A5 x.f5.length c5, .slice A6 x.f6.length c6] 26)).alloc (.cells #[.int .i64 400] 3)) := below_alloc (below_alloc (Below.refl _ _) _) _
  have hn : ((w.alloc (.cells #[.int .i64 x.f0, .bool x.f1, .int .i64 x.f2, .int .u64 x.f3, .string x.f4, .slice A5 x.f5.length c5, .slice A6 x.f6.length c6] 26)).alloc (.cells #[.int .i64 400] 3)).heap[w.heap.size + 1]? = some (.cells #[.int .i64 400] 3 (0, 0)) := by
    have h := heap_alloc_new (w.alloc (.cells #[.int .i64 x.f0, .bool x.f1, .int .i64 x.f2, .int .u64 x.f3, .string x.f4, .slice A5 x.f5.length c5, .slice A6 x.f6.length c6] 26)) (.cells #[.int .i64 400] 3)
    rw [World.size_alloc] at h
    exact h
  have HV := good_aux 400 rfl x A5 c5 A6 c6 (w.heap.size + 1) w _ hwf h5 h6 hk5 hk6 hb (by omega) hn
  unfold valOf at HV ⊢
  have HX := Aside0.mk HV
  clear HV hwf h5 h6 hk5 hk6 hb hn
  go_enter Try.func16, Try.ntmps16
  go_wp2_with fail
  refine (HX.out).mono ?_
  rintro e w2 ⟨r, l', rfl, hl', hr, hg⟩
  have HR := Aside0.mk hr
  have HG := Aside0.mk hg
  clear hr hg hl'
  go_wp2_with fail
  go_ret
  exact ⟨r, rfl, (below_alloc (below_alloc (Below.refl _ _) _) _).grown HG.out (by simp; omega) (by rintro q hq; injection hq with hq; omega), fun h => ⟨(HR.out h).1, by have := (HR.out h).2.1; have := (HR.out h).2.2; omega⟩⟩
end Go.Proofs.Ytjnookhdiolhgaa
