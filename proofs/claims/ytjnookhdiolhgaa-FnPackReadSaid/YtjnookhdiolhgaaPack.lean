/- impl.pack: a value is packed as its bytes. -/
import Derived.Test.YtjnookhdiolhgaaEnc
namespace Go.Proofs.Ytjnookhdiolhgaa
open Go.RowKit Go.Proofs.YtjnookhdiolhgaaW.PrintWords
open PAll (info5 S26 k26)

/-- The value of a Val, by its fields and the places of its rows. -/
def valOf (x : S26) (A5 : Option Addr) (c5 : Nat) (A6 : Option Addr) (c6 : Nat) : Value :=
  .agg #[.int .i64 x.f0, .bool x.f1, .int .i64 x.f2, .int .u64 x.f3, .string x.f4, .slice A5 x.f5.length c5, .slice A6 x.f6.length c6]

/-- pack's contract for values of at most N parts. -/
def PackSaid (N : Nat) : Prop :=
  ∀ (x : S26) (A5 : Option Addr) (c5 : Nat) (A6 : Option Addr) (c6 : Nat) (deep : Int) (B bp : Nat) (xs : List Int) (w0 w : World),
    nodes x ≤ N → okV x → wfV x → 0 ≤ deep → deep + nodes x ≤ 1001 → x.f5.length ≤ c5 → x.f6.length ≤ c6 →
    Kd.C Kd.string w0 A5 x.f5.length x.f5 → Kd.C k26 w0 A6 x.f6.length x.f6 → Below w0.heap.size w0 w → w0.heap.size ≤ B → B ≤ bp → B ≤ w.heap.size →
    PB w B bp xs → xs.length + (enc x).length ≤ 1099511626776 →
    Calls Try.prog 41 #[.pointer (some ⟨bp, 0, none⟩), valOf x A5 c5 A6 c6, .int .i64 deep] w fun e w' => e = .returned (.bool true) ∧ PB w' B bp (xs ++ enc x) ∧ Fr B bp w w'

/-- The box of a Val: its seven cells. -/
theorem box7 {w : World} {g : Nat} {t : TypeId} {a b c d e f k : Value} (h : w.heap[g]? = some (.cells #[a, b, c, d, e, f, k] t (0, 0))) :
    w.cell? ⟨g, 0, none⟩ = some a ∧ w.cell? ⟨g, 1, none⟩ = some b ∧ w.cell? ⟨g, 2, none⟩ = some c ∧ w.cell? ⟨g, 3, none⟩ = some d ∧ w.cell? ⟨g, 4, none⟩ = some e ∧ w.cell? ⟨g, 5, none⟩ = some f ∧ w.cell? ⟨g, 6, none⟩ = some k :=
  ⟨blk_cell h 0, blk_cell h 1, blk_cell h 2, blk_cell h 3, blk_cell h 4, blk_cell h 5, blk_cell h 6⟩

set_option maxHeartbeats 2000000 in
set_option maxRecDepth 100000 in
theorem pack_k0 (b : Bool) (i f : Int) (s : ByteArray) (A5 : Option Addr) (c5 n5 : Nat) (A6 : Option Addr) (c6 : Nat) (deep : Int) (B bp : Nat) (xs : List Int) (w : World)
    (hB : B ≤ w.heap.size) (hpb : PB w B bp xs) (hl : xs.length ≤ 1099511626776)  :
    Calls Try.prog 41 #[.pointer (some ⟨bp, 0, none⟩), .agg #[.int .i64 0, .bool b, .int .i64 i, .int .u64 f, .string s, .slice A5 n5 c5, .slice A6 0 c6], .int .i64 deep] w fun e w' =>
      e = .returned (.bool true) ∧ PB w' B bp (xs ++ encTop 0 b i f s 0) ∧ Fr B bp w w' := by
  have HP := Lib.hid hpb
  have hlt := hpb.lt
  clear hpb
  go_enter Try.func41, Try.ntmps41
  go_wp2_with fail
  refine (pk_nil _ (HP.out.alloc _) (by simp; omega) (by omega)).mono ?_
  rintro e w1 ⟨rfl, hp1, hf1⟩
  have hk := hf1.keep (heap_alloc_new w _) (by omega) (by decide)
  obtain ⟨hc0, hc1, hc2, hc3, hc4, hc5, hc6⟩ := box7 hk
  have HP1 := Lib.hid hp1
  have HF1 := Lib.hid hf1
  clear hp1 hf1 hk hc1 hc2 hc3 hc4 hc5
  go_wp2_with fail
  go_ret
  exact ⟨rfl, HP1.out, ((Fr.refl B bp w).alloc _).trans HF1.out⟩

set_option maxHeartbeats 2000000 in
set_option maxRecDepth 100000 in
theorem pack_k1 (b : Bool) (i f : Int) (s : ByteArray) (A5 : Option Addr) (c5 n5 : Nat) (A6 : Option Addr) (c6 : Nat) (deep : Int) (B bp : Nat) (xs : List Int) (w : World)
    (hB : B ≤ w.heap.size) (hpb : PB w B bp xs) (hl : xs.length ≤ 1099511626776)  :
    Calls Try.prog 41 #[.pointer (some ⟨bp, 0, none⟩), .agg #[.int .i64 1, .bool b, .int .i64 i, .int .u64 f, .string s, .slice A5 n5 c5, .slice A6 0 c6], .int .i64 deep] w fun e w' =>
      e = .returned (.bool true) ∧ PB w' B bp (xs ++ encTop 1 b i f s 0) ∧ Fr B bp w w' := by
  have HP := Lib.hid hpb
  have hlt := hpb.lt
  clear hpb
  go_enter Try.func41, Try.ntmps41
  go_wp2_with fail
  refine (pk_bool b _ (HP.out.alloc _) (by simp; omega) (by omega)).mono ?_
  rintro e w1 ⟨rfl, hp1, hf1⟩
  have hk := hf1.keep (heap_alloc_new w _) (by omega) (by decide)
  obtain ⟨hc0, hc1, hc2, hc3, hc4, hc5, hc6⟩ := box7 hk
  have HP1 := Lib.hid hp1
  have HF1 := Lib.hid hf1
  clear hp1 hf1 hk hc1 hc2 hc3 hc4 hc5
  go_wp2_with fail
  go_ret
  exact ⟨rfl, HP1.out, ((Fr.refl B bp w).alloc _).trans HF1.out⟩

set_option maxHeartbeats 2000000 in
set_option maxRecDepth 100000 in
theorem pack_k2 (b : Bool) (i f : Int) (s : ByteArray) (A5 : Option Addr) (c5 n5 : Nat) (A6 : Option Addr) (c6 : Nat) (deep : Int) (B bp : Nat) (xs : List Int) (w : World)
    (hB : B ≤ w.heap.size) (hpb : PB w B bp xs) (hl : xs.length ≤ 1099511626776) (hi0 : -9223372036854775808 ≤ i) (hi1 : i < 9223372036854775808) :
    Calls Try.prog 41 #[.pointer (some ⟨bp, 0, none⟩), .agg #[.int .i64 2, .bool b, .int .i64 i, .int .u64 f, .string s, .slice A5 n5 c5, .slice A6 0 c6], .int .i64 deep] w fun e w' =>
      e = .returned (.bool true) ∧ PB w' B bp (xs ++ encTop 2 b i f s 0) ∧ Fr B bp w w' := by
  have HP := Lib.hid hpb
  have hlt := hpb.lt
  clear hpb
  have HI := Lib.hid (And.intro hi0 hi1)
  clear hi0 hi1
  go_enter Try.func41, Try.ntmps41
  go_wp2_with fail
  refine (pk_int i _ (HP.out.alloc _) (by simp; omega) (by omega) HI.out.1 HI.out.2).mono ?_
  rintro e w1 ⟨rfl, hp1, hf1⟩
  have hk := hf1.keep (heap_alloc_new w _) (by omega) (by decide)
  obtain ⟨hc0, hc1, hc2, hc3, hc4, hc5, hc6⟩ := box7 hk
  have HP1 := Lib.hid hp1
  have HF1 := Lib.hid hf1
  clear hp1 hf1 hk hc1 hc2 hc3 hc4 hc5
  go_wp2_with fail
  go_ret
  exact ⟨rfl, HP1.out, ((Fr.refl B bp w).alloc _).trans HF1.out⟩

set_option maxHeartbeats 2000000 in
set_option maxRecDepth 100000 in
theorem pack_k3 (b : Bool) (i f : Int) (s : ByteArray) (A5 : Option Addr) (c5 n5 : Nat) (A6 : Option Addr) (c6 : Nat) (deep : Int) (B bp : Nat) (xs : List Int) (w : World)
    (hB : B ≤ w.heap.size) (hpb : PB w B bp xs) (hl : xs.length ≤ 1099511626776) (hf0 : 0 ≤ f) (hf1 : f < 18446744073709551616) :
    Calls Try.prog 41 #[.pointer (some ⟨bp, 0, none⟩), .agg #[.int .i64 3, .bool b, .int .i64 i, .int .u64 f, .string s, .slice A5 n5 c5, .slice A6 0 c6], .int .i64 deep] w fun e w' =>
      e = .returned (.bool true) ∧ PB w' B bp (xs ++ encTop 3 b i f s 0) ∧ Fr B bp w w' := by
  have HP := Lib.hid hpb
  have hlt := hpb.lt
  clear hpb
  have hi : f.toNat < 18446744073709551616 := by omega
  have HI := Lib.hid hi
  clear hi hf0 hf1
  have hbits := fun w => run_frombits f w
  go_enter Try.func41, Try.ntmps41
  go_wp2_with fail
  refine (pk_float f.toNat _ (HP.out.alloc _) (by simp; omega) (by omega) HI.out).mono ?_
  rintro e w1 ⟨rfl, hp1, hf1⟩
  have hk := hf1.keep (heap_alloc_new w _) (by omega) (by decide)
  obtain ⟨hc0, hc1, hc2, hc3, hc4, hc5, hc6⟩ := box7 hk
  have HP1 := Lib.hid hp1
  have HF1 := Lib.hid hf1
  clear hp1 hf1 hk hc1 hc2 hc3 hc4 hc5
  go_wp2_with fail
  go_ret
  exact ⟨rfl, HP1.out, ((Fr.refl B bp w).alloc _).trans HF1.out⟩

set_option maxHeartbeats 2000000 in
set_option maxRecDepth 100000 in
theorem pack_k4 (b : Bool) (i f : Int) (s : ByteArray) (A5 : Option Addr) (c5 n5 : Nat) (A6 : Option Addr) (c6 : Nat) (deep : Int) (B bp : Nat) (xs : List Int) (w : World)
    (hB : B ≤ w.heap.size) (hpb : PB w B bp xs) (hl : xs.length ≤ 1099511626776) (hs : s.size ≤ 300) :
    Calls Try.prog 41 #[.pointer (some ⟨bp, 0, none⟩), .agg #[.int .i64 4, .bool b, .int .i64 i, .int .u64 f, .string s, .slice A5 n5 c5, .slice A6 0 c6], .int .i64 deep] w fun e w' =>
      e = .returned (.bool true) ∧ PB w' B bp (xs ++ encTop 4 b i f s 0) ∧ Fr B bp w w' := by
  have HP := Lib.hid hpb
  have hlt := hpb.lt
  clear hpb
  go_enter Try.func41, Try.ntmps41
  go_wp2_with fail
  refine (pk_string s _ (HP.out.alloc _) (by simp; omega) (by omega) (by omega)).mono ?_
  rintro e w1 ⟨rfl, hp1, hf1⟩
  have hk := hf1.keep (heap_alloc_new w _) (by omega) (by decide)
  obtain ⟨hc0, hc1, hc2, hc3, hc4, hc5, hc6⟩ := box7 hk
  have HP1 := Lib.hid hp1
  have HF1 := Lib.hid hf1
  clear hp1 hf1 hk hc1 hc2 hc3 hc4 hc5
  go_wp2_with fail
  go_ret
  exact ⟨rfl, HP1.out, ((Fr.refl B bp w).alloc _).trans HF1.out⟩

theorem pk_bytes {B bp : Nat} {xs ys : List Int} {A : Option Addr} {n c : Nat} (w : World) (h : PB w B bp xs) (hB : B ≤ w.heap.size) (hl : xs.length + n ≤ 1099511627776) (hr : ReadsInt w .u8 A n ys) (hA : Apart w bp A) (hn : n < 65536) :
    Calls Try.prog 93 #[.pointer (some ⟨bp, 0, none⟩), .slice A n c] w fun e w' => e = .returned (.tuple #[]) ∧ PB w' B bp (xs ++ (encByteHead n ++ ys)) ∧ Fr B bp w w' := by
  rw [← List.append_assoc]
  unfold encByteHead
  split
  · exact by1 w h hB hl hr hA (by omega)
  · exact by2 w h hB hl hr hA _ rfl (by omega) hn
theorem apart_new {w : World} {B bp : Nat} {xs : List Int} (h : PB w B bp xs) (s : ByteArray) : Apart (Lib.bytesWorld w 5 s) bp (some ⟨w.heap.size, 0, none⟩) := by
  obtain ⟨v, hb, ho⟩ := h
  intro ad e
  injection e with e
  subst e
  have hlt := blk_lt hb
  refine ⟨by show w.heap.size ≠ bp; omega, fun v' hv' => ?_⟩
  have hb' := ((bytes_below (Below.refl w.heap.size w) (Nat.le_refl _) 5 s).block bp hlt).trans hb
  rw [hb'] at hv'
  injection hv' with hv'
  injection hv' with hv' _
  have e2 : v = v' := by
    have := congrArg (fun a : Array Value => a[0]?) hv'
    simpa using this
  subst e2
  intro hc
  have := own_lt ho _ hc
  simp at this
set_option maxHeartbeats 2000000 in
set_option maxRecDepth 100000 in
theorem pack_k5 (b : Bool) (i f : Int) (s : ByteArray) (A5 : Option Addr) (c5 n5 : Nat) (A6 : Option Addr) (c6 : Nat) (deep : Int) (B bp : Nat) (xs : List Int) (w : World)
    (hB : B ≤ w.heap.size) (hpb : PB w B bp xs) (hl : xs.length ≤ 1099511626776) (hs : s.size ≤ 300) :
    Calls Try.prog 41 #[.pointer (some ⟨bp, 0, none⟩), .agg #[.int .i64 5, .bool b, .int .i64 i, .int .u64 f, .string s, .slice A5 n5 c5, .slice A6 0 c6], .int .i64 deep] w fun e w' =>
      e = .returned (.bool true) ∧ PB w' B bp (xs ++ encTop 5 b i f s 0) ∧ Fr B bp w w' := by
  have HP := Lib.hid hpb
  have hlt := hpb.lt
  clear hpb
  have hbs := fun w => print_bytes (P := Try.prog) 9 69 5 Try.underlying9 Try.underlying69 Try.underlying5 s w
  have HKK : Hid (∀ o, (Lib.bytesWorld (w.alloc o) 5 s).heap[w.heap.size]? = some o) := fun o => ((bytes_below (Below.refl (w.alloc o).heap.size (w.alloc o)) (Nat.le_refl _) 5 s).block w.heap.size (by simp)).trans (heap_alloc_new w o)
  have HFF : Hid (∀ o, Fr B bp w (Lib.bytesWorld (w.alloc o) 5 s)) := fun o => ((Fr.refl B bp w).alloc o).trans (Fr.of_below (bytes_below (Below.refl (w.alloc o).heap.size (w.alloc o)) (Nat.le_refl _) 5 s))
  have HPP : Hid (∀ o, PB (Lib.bytesWorld (w.alloc o) 5 s) B bp xs) := fun o => (HP.out.alloc o).move (bytes_below (Below.refl (w.alloc o).heap.size (w.alloc o)) (Nat.le_refl _) 5 s)
  have HSZ : Hid (∀ o, B ≤ (Lib.bytesWorld (w.alloc o) 5 s).heap.size) := fun o => by rw [Lib.bytesWorld_size]; simp; omega
  have HRD : Hid (∀ o, ReadsInt (Lib.bytesWorld (w.alloc o) 5 s) .u8 (some ⟨w.heap.size + 1, 0, none⟩) s.size (bytesOf s)) := fun o => by
    have h := bytes_reads (w.alloc o) 5 s (by omega)
    rw [World.size_alloc] at h
    exact h
  have HAP : Hid (∀ o, Apart (Lib.bytesWorld (w.alloc o) 5 s) bp (some ⟨w.heap.size + 1, 0, none⟩)) := fun o => by
    have h := apart_new (HP.out.alloc o) s
    rw [World.size_alloc] at h
    exact h
  go_enter Try.func41, Try.ntmps41
  go_wp2_with fail
  refine (pk_bytes _ (HPP.out _) (by have := HSZ.out; exact this _) (by omega) (HRD.out _) (HAP.out _) (by omega)).mono ?_
  rintro e w1 ⟨rfl, hp1, hf1⟩
  have hk := hf1.keep (HKK.out _) (by omega) (by decide)
  obtain ⟨hc0, hc1, hc2, hc3, hc4, hc5, hc6⟩ := box7 hk
  have HP1 := Lib.hid hp1
  have HF1 := Lib.hid hf1
  clear hp1 hf1 hk hc1 hc2 hc3 hc4 hc5
  go_wp2_with fail
  go_ret
  exact ⟨rfl, HP1.out, (HFF.out _).trans HF1.out⟩

end Go.Proofs.Ytjnookhdiolhgaa
