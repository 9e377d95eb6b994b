/- Floats: fmtEFG without an exponent. (seat r3.ZD; printed by gen_rf6.py) -/
import Derived.Test.YtkogipaaioibaaaGreatDoorFa
namespace Go.Proofs.YtkogipaaioibaaaGreatDoor
set_option linter.unusedVariables false
set_option linter.unusedSimpArgs false
open Go.RowKit Go.Proofs.YtkogipaaioibaaaGreatDoorW.PrintWords Go.Proofs.YtkogipaaioibaaaGreatDoorW.PrintLast Go.Proofs.YtkogipaaioibaaaGreatDoorW.PrintMore
attribute [local go_sem] max2_int min2_int max_two min_two max_three min_three max_four min_four
open PAll (info5)
set_option maxHeartbeats 4000000 in
set_option maxRecDepth 100000 in
theorem fm_ff1 (w0 w : World) (B sb : Nat) (A0 : Option Addr) (n0 c0 : Nat) (ds : List Int) (D : DS w0 w B sb 0 (.slice A0 n0 c0) ds) (hds : ds.length ≤ 20) (q nz : Nat) (hq1 : 1 ≤ q) (hq2 : q ≤ 6) (hnz : nz ≤ ds.length) (hqn : nz < q) :
    Calls Tryz.prog 111 #[.slice A0 n0 c0, .bool false, .slice (some ⟨sb, 0, none⟩) 32 32, .int .i64 q, .int .i64 nz, .int .i64 nz, .int .u8 103, .bool true] w fun e w' => FmR w0 B e w' := by
  have D0 := Lib.hid D
  clear D
  have i1 : (1 : Int) ≤ (q : Int) := by omega
  have i2 : (q : Int) ≤ 6 := by omega
  have i3 : (nz : Int) ≤ 20 := by omega
  have i5 : nz ≤ 32 := by omega
  have i6 : q ≤ 32 := by omega
  have pq0 : 0 < q := by omega
  have pq1 : decide (0 < q) = true := decide_eq_true pq0
  have pq2 : decide ((0 : Int) < (q : Int)) = true := decide_eq_true (by omega)
  obtain ⟨Z, hZ⟩ : ∃ Z : Nat, q - nz = Z := ⟨_, rfl⟩
  have e1 : (q : Int) - (nz : Int) = (Z : Int) := by omega
  have i4 : (nz : Int) < (q : Int) := by omega
  have i9 : (1 : Int) ≤ (Z : Int) := by omega
  have b9 : decide (q < nz) = false := decide_eq_false (by omega)
  have e3 : min (nz : Int) (q : Int) = (nz : Int) := by omega
  have hZ6 : Z ≤ 6 := by omega
  clear hZ
  have pZ0 : 0 < Z := by omega
  have pZ1 : decide (0 < Z) = true := decide_eq_true pZ0
  have pZ2 : decide ((0 : Int) < (Z : Int)) = true := decide_eq_true (by omega)
  go_enter Tryz.func111, Tryz.ntmps111
  go_wp2_with fail
  go_loopg [0, 191] nz (fun gk v0 vc wr => ∃ k : Nat, vc = .int .i64 k ∧ Aside0 (k ≤ nz ∧ gk = nz - k) ∧ Aside0 (DS w0 wr B sb (0 + k) v0 ds))
  case atStart => exact ⟨0, rfl, ⟨by omega⟩, ⟨D0.out⟩⟩
  case round =>
    clear D0
    obtain ⟨k, rfl, HK, HD1⟩ := hrel
    obtain ⟨Aa, ma, ca, rfl⟩ := HD1.out.slice
    have D90 := Lib.hid HD1.out
    clear HD1
    by_cases hk : k < nz
    · obtain ⟨x, hx⟩ : ∃ x, ds.getD (k) 0 = x := ⟨_, rfl⟩
      have hxm : x ∈ ds := by rw [← hx, List.getD_eq_getElem?_getD, List.getElem?_eq_getElem (by omega)]; exact List.getElem_mem _
      obtain ⟨hxa, hxb⟩ := D90.out.buf.1 x hxm
      have cz : wr.cell? ⟨sb, k, none⟩ = some (.int .u8 x) := by rw [← hx]; exact D90.out.buf.2 (k) (by omega)
      have hki : (k : Int) < (nz : Int) := by omega
      clear hx hxm
      go_wp2_with (first | ((with_reducible refine gate_builtin (b := .append) (xs := #[.tmp 195, .tmp 197]) rfl ?_); at_builtin; refine DS.app (D90.out.alloc _) rfl (.tmp 195) (.tmp 197) rfl _ 1 _ _ rfl rfl (readsN1 _ _) (by intro x h; simp only [List.mem_cons, List.not_mem_nil, or_false] at h; first | omega | (rw [IntKind.wrap_u8] at h; omega) | (simp only [IntKind.wrap_u8] at h; omega)) (by first | decide | omega) ?_; intro A91 m91 c91 w91 hd; have D91 := Lib.hid hd; clear hd D90))
      go_roundg (nz - (k + 1))
      case measure => have := HK.out.2; omega
      case rel => exact ⟨k + 1, by go_num, ⟨by omega⟩, ⟨D91.out⟩⟩
    · have hke : nz = k := by have := HK.out.1; omega
      subst hke
      go_wp2_with fail
      go_loopg [0, 203] Z (fun gk v0 vc wr => ∃ k : Nat, vc = .int .i64 k ∧ Aside0 (k ≤ Z ∧ gk = Z - k) ∧ Aside0 (DS w0 wr B sb ((0 + nz) + k) v0 ds))
      case atStart => exact ⟨0, rfl, ⟨by omega⟩, ⟨D90.out⟩⟩
      case round =>
        clear D90
        obtain ⟨k, rfl, HK, HD2⟩ := hrel
        obtain ⟨Aa, ma, ca, rfl⟩ := HD2.out.slice
        have D92 := Lib.hid HD2.out
        clear HD2
        by_cases hk : k < Z
        · have hki : (k : Int) < (Z : Int) := by omega
          go_wp2_with (first | ((with_reducible refine gate_builtin (b := .append) (xs := #[.tmp 205, .tmp 206]) rfl ?_); at_builtin; refine DS.app (D92.out.alloc _) rfl (.tmp 205) (.tmp 206) rfl _ 1 _ _ rfl rfl (readsN1 _ _) (by decide) (by first | decide | omega) ?_; intro A93 m93 c93 w93 hd; have D93 := Lib.hid hd; clear hd D92))
          go_roundg (Z - (k + 1))
          case measure => have := HK.out.2; omega
          case rel => exact ⟨k + 1, by go_num, ⟨by omega⟩, ⟨D93.out⟩⟩
        · have hke : Z = k := by have := HK.out.1; omega
          subst hke
          go_wp2_with fail
          go_ret
          exact D92.out.fm
set_option maxHeartbeats 4000000 in
set_option maxRecDepth 100000 in
theorem fm_ff2 (w0 w : World) (B sb : Nat) (A0 : Option Addr) (n0 c0 : Nat) (ds : List Int) (D : DS w0 w B sb 0 (.slice A0 n0 c0) ds) (hds : ds.length ≤ 20) (q nz : Nat) (hq1 : 1 ≤ q) (hq2 : q ≤ 6) (hnz : nz ≤ ds.length) (hqn : q < nz) :
    Calls Tryz.prog 111 #[.slice A0 n0 c0, .bool false, .slice (some ⟨sb, 0, none⟩) 32 32, .int .i64 q, .int .i64 nz, .int .i64 nz, .int .u8 103, .bool true] w fun e w' => FmR w0 B e w' := by
  have D0 := Lib.hid D
  clear D
  have i1 : (1 : Int) ≤ (q : Int) := by omega
  have i2 : (q : Int) ≤ 6 := by omega
  have i3 : (nz : Int) ≤ 20 := by omega
  have i5 : nz ≤ 32 := by omega
  have i6 : q ≤ 32 := by omega
  have pq0 : 0 < q := by omega
  have pq1 : decide (0 < q) = true := decide_eq_true pq0
  have pq2 : decide ((0 : Int) < (q : Int)) = true := decide_eq_true (by omega)
  obtain ⟨P, hP⟩ : ∃ P : Nat, nz - q = P := ⟨_, rfl⟩
  have hPn : q + P = nz := by omega
  have i4 : (q : Int) < (nz : Int) := by omega
  have e1 : (nz : Int) - (q : Int) = (P : Int) := by omega
  have i7 : (1 : Int) ≤ (P : Int) := by omega
  have i8 : (P : Int) ≤ 20 := by omega
  have e2 : max (P : Int) 0 = (P : Int) := by omega
  have e3 : min (nz : Int) (q : Int) = (q : Int) := by omega
  have e4 : max 0 (-(q : Int)) = 0 := by omega
  have e5 : min (P : Int) 0 = 0 := by omega
  have e6 : max 0 (P : Int) = (P : Int) := by omega
  have HPN := Lib.hid hPn
  clear hP hPn
  have pP0 : 0 < P := by omega
  have pP1 : decide (0 < P) = true := decide_eq_true pP0
  have pP2 : decide ((0 : Int) < (P : Int)) = true := decide_eq_true (by omega)
  go_enter Tryz.func111, Tryz.ntmps111
  go_wp2_with fail
  go_loopg [0, 191] q (fun gk v0 vc wr => ∃ k : Nat, vc = .int .i64 k ∧ Aside0 (k ≤ q ∧ gk = q - k) ∧ Aside0 (DS w0 wr B sb (0 + k) v0 ds))
  case atStart => exact ⟨0, rfl, ⟨by omega⟩, ⟨D0.out⟩⟩
  case round =>
    clear D0
    obtain ⟨k, rfl, HK, HD3⟩ := hrel
    obtain ⟨Aa, ma, ca, rfl⟩ := HD3.out.slice
    have D94 := Lib.hid HD3.out
    clear HD3
    by_cases hk : k < q
    · obtain ⟨x, hx⟩ : ∃ x, ds.getD (k) 0 = x := ⟨_, rfl⟩
      have hxm : x ∈ ds := by rw [← hx, List.getD_eq_getElem?_getD, List.getElem?_eq_getElem (by omega)]; exact List.getElem_mem _
      obtain ⟨hxa, hxb⟩ := D94.out.buf.1 x hxm
      have cz : wr.cell? ⟨sb, k, none⟩ = some (.int .u8 x) := by rw [← hx]; exact D94.out.buf.2 (k) (by omega)
      have hki : (k : Int) < (q : Int) := by omega
      clear hx hxm
      go_wp2_with (first | ((with_reducible refine gate_builtin (b := .append) (xs := #[.tmp 195, .tmp 197]) rfl ?_); at_builtin; refine DS.app (D94.out.alloc _) rfl (.tmp 195) (.tmp 197) rfl _ 1 _ _ rfl rfl (readsN1 _ _) (by intro x h; simp only [List.mem_cons, List.not_mem_nil, or_false] at h; first | omega | (rw [IntKind.wrap_u8] at h; omega) | (simp only [IntKind.wrap_u8] at h; omega)) (by first | decide | omega) ?_; intro A95 m95 c95 w95 hd; have D95 := Lib.hid hd; clear hd D94))
      go_roundg (q - (k + 1))
      case measure => have := HK.out.2; omega
      case rel => exact ⟨k + 1, by go_num, ⟨by omega⟩, ⟨D95.out⟩⟩
    · have hke : q = k := by have := HK.out.1; omega
      subst hke
      go_wp2_with fail
      refine wp_loop_rounds 1 ?_
      rw [rounds_succ]
      go_wp2_with (first | ((with_reducible refine gate_builtin (b := .append) (xs := #[.tmp 214, .tmp 215]) rfl ?_); at_builtin; refine DS.app (D94.out.alloc _) rfl (.tmp 214) (.tmp 215) rfl _ 1 _ _ rfl rfl (readsN1 _ _) (by decide) (by first | decide | omega) ?_; intro A96 m96 c96 w96 hd; have D96 := Lib.hid hd; clear hd D94))
      refine wp_loop_rounds 1 ?_
      rw [rounds_succ]
      go_wp2_with fail
      have hqp := HPN.out
      go_loopg [0, 247] P (fun gk v0 vc wr => ∃ k : Nat, vc = .int .i64 k ∧ Aside0 (k ≤ P ∧ gk = P - k) ∧ Aside0 (DS w0 wr B sb (((0 + q) + 1) + k) v0 ds))
      case atStart => exact ⟨0, rfl, ⟨by omega⟩, ⟨D96.out⟩⟩
      case round =>
        clear D96
        obtain ⟨k, rfl, HK, HD4⟩ := hrel
        obtain ⟨Aa, ma, ca, rfl⟩ := HD4.out.slice
        have D97 := Lib.hid HD4.out
        clear HD4
        by_cases hk : k < P
        · obtain ⟨x, hx⟩ : ∃ x, ds.getD (q + k) 0 = x := ⟨_, rfl⟩
          have hxm : x ∈ ds := by rw [← hx, List.getD_eq_getElem?_getD, List.getElem?_eq_getElem (by omega)]; exact List.getElem_mem _
          obtain ⟨hxa, hxb⟩ := D97.out.buf.1 x hxm
          have cz : wr.cell? ⟨sb, q + k, none⟩ = some (.int .u8 x) := by rw [← hx]; exact D97.out.buf.2 (q + k) (by omega)
          have hki : (k : Int) < (P : Int) := by omega
          clear hx hxm
          go_wp2_with (first | ((with_reducible refine gate_builtin (b := .append) (xs := #[.tmp 250, .tmp 257]) rfl ?_); at_builtin; refine DS.app (D97.out.alloc _) rfl (.tmp 250) (.tmp 257) rfl _ 1 _ _ rfl rfl (readsN1 _ _) (by intro x h; simp only [List.mem_cons, List.not_mem_nil, or_false] at h; first | omega | (rw [IntKind.wrap_u8] at h; omega) | (simp only [IntKind.wrap_u8] at h; omega)) (by first | decide | omega) ?_; intro A98 m98 c98 w98 hd; have D98 := Lib.hid hd; clear hd D97))
          go_roundg (P - (k + 1))
          case measure => have := HK.out.2; omega
          case rel => exact ⟨k + 1, by go_num, ⟨by omega⟩, ⟨D98.out⟩⟩
        · have hke : P = k := by have := HK.out.1; omega
          subst hke
          go_wp2_with fail
          refine wp_loop_rounds 1 ?_
          rw [rounds_succ]
          go_wp2_with fail
          go_ret
          exact D97.out.fm
set_option maxHeartbeats 4000000 in
set_option maxRecDepth 100000 in
theorem fm_ff3 (w0 w : World) (B sb : Nat) (A0 : Option Addr) (n0 c0 : Nat) (ds : List Int) (D : DS w0 w B sb 0 (.slice A0 n0 c0) ds) (hds : ds.length ≤ 20) (q nz : Nat) (hq1 : 1 ≤ q) (hq2 : q ≤ 3) (hnz : nz ≤ ds.length) (hn1 : 1 ≤ nz) :
    Calls Tryz.prog 111 #[.slice A0 n0 c0, .bool false, .slice (some ⟨sb, 0, none⟩) 32 32, .int .i64 (-(q : Int)), .int .i64 nz, .int .i64 nz, .int .u8 103, .bool true] w fun e w' => FmR w0 B e w' := by
  have D0 := Lib.hid D
  clear D
  obtain ⟨R, hR⟩ : ∃ R : Nat, nz + q = R := ⟨_, rfl⟩
  have i2 : (q : Int) ≤ 3 := by omega
  have i3 : (nz : Int) ≤ 20 := by omega
  have i4 : (1 : Int) ≤ (nz : Int) := by omega
  have i5 : (R : Int) ≤ 23 := by omega
  have i6 : (1 : Int) ≤ (R : Int) := by omega
  have e0 : (nz : Int) - -(q : Int) = (R : Int) := by omega
  have e1 : (nz : Int) + (q : Int) = (R : Int) := by omega
  have e2 : max (R : Int) 0 = (R : Int) := by omega
  have e3 : max 0 (q : Int) = (q : Int) := by omega
  have e4 : min (R : Int) (q : Int) = (q : Int) := by omega
  have e5 : (R : Int) - (q : Int) = (nz : Int) := by omega
  have e6 : max 0 (nz : Int) = (nz : Int) := by omega
  have e7 : -(q : Int) + (q : Int) = 0 := by omega
  have i7 : (1 : Int) ≤ (q : Int) := by omega
  clear hR
  have pq0 : 0 < q := by omega
  have pq1 : decide (0 < q) = true := decide_eq_true pq0
  have pq2 : decide ((0 : Int) < (q : Int)) = true := decide_eq_true (by omega)
  have pnz0 : 0 < nz := by omega
  have pnz1 : decide (0 < nz) = true := decide_eq_true pnz0
  have pnz2 : decide ((0 : Int) < (nz : Int)) = true := decide_eq_true (by omega)
  go_enter Tryz.func111, Tryz.ntmps111
  go_wp2_with (first | ((with_reducible refine gate_builtin (b := .append) (xs := #[.tmp 209, .tmp 210]) rfl ?_); at_builtin; refine DS.app (D0.out.alloc _) rfl (.tmp 209) (.tmp 210) rfl _ 1 _ _ rfl rfl (readsN1 _ _) (by decide) (by first | decide | omega) ?_; intro A99 m99 c99 w99 hd; have D99 := Lib.hid hd; clear hd D0) | ((with_reducible refine gate_builtin (b := .append) (xs := #[.tmp 214, .tmp 215]) rfl ?_); at_builtin; refine DS.app (D99.out.alloc _) rfl (.tmp 214) (.tmp 215) rfl _ 1 _ _ rfl rfl (readsN1 _ _) (by decide) (by first | decide | omega) ?_; intro A100 m100 c100 w100 hd; have D100 := Lib.hid hd; clear hd D99))
  go_loopg [0, 240] q (fun gk v0 vc wr => ∃ k : Nat, vc = .int .i64 k ∧ Aside0 (k ≤ q ∧ gk = q - k) ∧ Aside0 (DS w0 wr B sb (((0 + 1) + 1) + k) v0 ds))
  case atStart => exact ⟨0, rfl, ⟨by omega⟩, ⟨D100.out⟩⟩
  case round =>
    clear D100
    obtain ⟨k, rfl, HK, HD5⟩ := hrel
    obtain ⟨Aa, ma, ca, rfl⟩ := HD5.out.slice
    have D101 := Lib.hid HD5.out
    clear HD5
    by_cases hk : k < q
    · have hki : (k : Int) < (q : Int) := by omega
      go_wp2_with (first | ((with_reducible refine gate_builtin (b := .append) (xs := #[.tmp 242, .tmp 243]) rfl ?_); at_builtin; refine DS.app (D101.out.alloc _) rfl (.tmp 242) (.tmp 243) rfl _ 1 _ _ rfl rfl (readsN1 _ _) (by decide) (by first | decide | omega) ?_; intro A102 m102 c102 w102 hd; have D102 := Lib.hid hd; clear hd D101))
      go_roundg (q - (k + 1))
      case measure => have := HK.out.2; omega
      case rel => exact ⟨k + 1, by go_num, ⟨by omega⟩, ⟨D102.out⟩⟩
    · have hke : q = k := by have := HK.out.1; omega
      subst hke
      go_wp2_with fail
      go_loopg [0, 247] nz (fun gk v0 vc wr => ∃ k : Nat, vc = .int .i64 k ∧ Aside0 (k ≤ nz ∧ gk = nz - k) ∧ Aside0 (DS w0 wr B sb ((((0 + 1) + 1) + q) + k) v0 ds))
      case atStart => exact ⟨0, rfl, ⟨by omega⟩, ⟨D101.out⟩⟩
      case round =>
        clear D101
        obtain ⟨k, rfl, HK, HD6⟩ := hrel
        obtain ⟨Aa, ma, ca, rfl⟩ := HD6.out.slice
        have D103 := Lib.hid HD6.out
        clear HD6
        by_cases hk : k < nz
        · obtain ⟨x, hx⟩ : ∃ x, ds.getD (k) 0 = x := ⟨_, rfl⟩
          have hxm : x ∈ ds := by rw [← hx, List.getD_eq_getElem?_getD, List.getElem?_eq_getElem (by omega)]; exact List.getElem_mem _
          obtain ⟨hxa, hxb⟩ := D103.out.buf.1 x hxm
          have cz : wr.cell? ⟨sb, k, none⟩ = some (.int .u8 x) := by rw [← hx]; exact D103.out.buf.2 (k) (by omega)
          have hki : (k : Int) < (nz : Int) := by omega
          clear hx hxm
          go_wp2_with (first | ((with_reducible refine gate_builtin (b := .append) (xs := #[.tmp 250, .tmp 257]) rfl ?_); at_builtin; refine DS.app (D103.out.alloc _) rfl (.tmp 250) (.tmp 257) rfl _ 1 _ _ rfl rfl (readsN1 _ _) (by intro x h; simp only [List.mem_cons, List.not_mem_nil, or_false] at h; first | omega | (rw [IntKind.wrap_u8] at h; omega) | (simp only [IntKind.wrap_u8] at h; omega)) (by first | decide | omega) ?_; intro A104 m104 c104 w104 hd; have D104 := Lib.hid hd; clear hd D103))
          go_roundg (nz - (k + 1))
          case measure => have := HK.out.2; omega
          case rel => exact ⟨k + 1, by go_num, ⟨by omega⟩, ⟨D104.out⟩⟩
        · have hke : nz = k := by have := HK.out.1; omega
          subst hke
          go_wp2_with fail
          refine wp_loop_rounds 1 ?_
          rw [rounds_succ]
          go_wp2_with fail
          go_ret
          exact D103.out.fm
set_option maxHeartbeats 4000000 in
set_option maxRecDepth 100000 in
theorem fm_ff4 (w0 w : World) (B sb : Nat) (A0 : Option Addr) (n0 c0 : Nat) (ds : List Int) (D : DS w0 w B sb 0 (.slice A0 n0 c0) ds) (hds : ds.length ≤ 20) (q : Nat) (hq2 : q ≤ 3) (hq1 : 1 ≤ q) :
    Calls Tryz.prog 111 #[.slice A0 n0 c0, .bool false, .slice (some ⟨sb, 0, none⟩) 32 32, .int .i64 (-(q : Int)), .int .i64 0, .int .i64 0, .int .u8 103, .bool true] w fun e w' => FmR w0 B e w' := by
  have D0 := Lib.hid D
  clear D
  have i2 : (q : Int) ≤ 3 := by omega
  have i4 : (1 : Int) ≤ (q : Int) := by omega
  have e2 : max (q : Int) 0 = (q : Int) := by omega
  have e3 : max 0 (q : Int) = (q : Int) := by omega
  have e7 : -(q : Int) + (q : Int) = 0 := by omega
  have pq0 : 0 < q := by omega
  have pq1 : decide (0 < q) = true := decide_eq_true pq0
  have pq2 : decide ((0 : Int) < (q : Int)) = true := decide_eq_true (by omega)
  go_enter Tryz.func111, Tryz.ntmps111
  go_wp2_with (first | ((with_reducible refine gate_builtin (b := .append) (xs := #[.tmp 209, .tmp 210]) rfl ?_); at_builtin; refine DS.app (D0.out.alloc _) rfl (.tmp 209) (.tmp 210) rfl _ 1 _ _ rfl rfl (readsN1 _ _) (by decide) (by first | decide | omega) ?_; intro A105 m105 c105 w105 hd; have D105 := Lib.hid hd; clear hd D0) | ((with_reducible refine gate_builtin (b := .append) (xs := #[.tmp 214, .tmp 215]) rfl ?_); at_builtin; refine DS.app (D105.out.alloc _) rfl (.tmp 214) (.tmp 215) rfl _ 1 _ _ rfl rfl (readsN1 _ _) (by decide) (by first | decide | omega) ?_; intro A106 m106 c106 w106 hd; have D106 := Lib.hid hd; clear hd D105))
  go_loopg [0, 240] q (fun gk v0 vc wr => ∃ k : Nat, vc = .int .i64 k ∧ Aside0 (k ≤ q ∧ gk = q - k) ∧ Aside0 (DS w0 wr B sb (((0 + 1) + 1) + k) v0 ds))
  case atStart => exact ⟨0, rfl, ⟨by omega⟩, ⟨D106.out⟩⟩
  case round =>
    clear D106
    obtain ⟨k, rfl, HK, HD7⟩ := hrel
    obtain ⟨Aa, ma, ca, rfl⟩ := HD7.out.slice
    have D107 := Lib.hid HD7.out
    clear HD7
    by_cases hk : k < q
    · have hki : (k : Int) < (q : Int) := by omega
      go_wp2_with (first | ((with_reducible refine gate_builtin (b := .append) (xs := #[.tmp 242, .tmp 243]) rfl ?_); at_builtin; refine DS.app (D107.out.alloc _) rfl (.tmp 242) (.tmp 243) rfl _ 1 _ _ rfl rfl (readsN1 _ _) (by decide) (by first | decide | omega) ?_; intro A108 m108 c108 w108 hd; have D108 := Lib.hid hd; clear hd D107))
      go_roundg (q - (k + 1))
      case measure => have := HK.out.2; omega
      case rel => exact ⟨k + 1, by go_num, ⟨by omega⟩, ⟨D108.out⟩⟩
    · have hke : q = k := by have := HK.out.1; omega
      subst hke
      go_wp2_with fail
      refine wp_loop_rounds 1 ?_
      rw [rounds_succ]
      go_wp2_with fail
      refine wp_loop_rounds 1 ?_
      rw [rounds_succ]
      go_wp2_with fail
      go_ret
      exact D107.out.fm
set_option maxHeartbeats 4000000 in
set_option maxRecDepth 100000 in
theorem fm_ff5 (w0 w : World) (B sb : Nat) (A0 : Option Addr) (n0 c0 : Nat) (ds : List Int) (D : DS w0 w B sb 0 (.slice A0 n0 c0) ds) (hds : ds.length ≤ 20) :
    Calls Tryz.prog 111 #[.slice A0 n0 c0, .bool false, .slice (some ⟨sb, 0, none⟩) 32 32, .int .i64 0, .int .i64 0, .int .i64 0, .int .u8 103, .bool true] w fun e w' => FmR w0 B e w' := by
  have D0 := Lib.hid D
  clear D
  go_enter Tryz.func111, Tryz.ntmps111
  go_wp2_with (first | ((with_reducible refine gate_builtin (b := .append) (xs := #[.tmp 209, .tmp 210]) rfl ?_); at_builtin; refine DS.app (D0.out.alloc _) rfl (.tmp 209) (.tmp 210) rfl _ 1 _ _ rfl rfl (readsN1 _ _) (by decide) (by first | decide | omega) ?_; intro A109 m109 c109 w109 hd; have D109 := Lib.hid hd; clear hd D0))
  go_ret
  exact D109.out.fm
set_option maxHeartbeats 4000000 in
set_option maxRecDepth 100000 in
theorem fm_ff6 (w0 w : World) (B sb : Nat) (A0 : Option Addr) (n0 c0 : Nat) (ds : List Int) (D : DS w0 w B sb 0 (.slice A0 n0 c0) ds) (hds : ds.length ≤ 20) (q : Nat) (hq1 : 1 ≤ q) (hq2 : q ≤ 6) (hnz : q ≤ ds.length) :
    Calls Tryz.prog 111 #[.slice A0 n0 c0, .bool false, .slice (some ⟨sb, 0, none⟩) 32 32, .int .i64 q, .int .i64 q, .int .i64 q, .int .u8 103, .bool true] w fun e w' => FmR w0 B e w' := by
  have D0 := Lib.hid D
  clear D
  have i1 : (1 : Int) ≤ (q : Int) := by omega
  have i2 : (q : Int) ≤ 6 := by omega
  have i6 : q ≤ 32 := by omega
  have pq0 : 0 < q := by omega
  have pq1 : decide (0 < q) = true := decide_eq_true pq0
  have pq2 : decide ((0 : Int) < (q : Int)) = true := decide_eq_true (by omega)
  go_enter Tryz.func111, Tryz.ntmps111
  go_wp2_with fail
  go_loopg [0, 191] q (fun gk v0 vc wr => ∃ k : Nat, vc = .int .i64 k ∧ Aside0 (k ≤ q ∧ gk = q - k) ∧ Aside0 (DS w0 wr B sb (0 + k) v0 ds))
  case atStart => exact ⟨0, rfl, ⟨by omega⟩, ⟨D0.out⟩⟩
  case round =>
    clear D0
    obtain ⟨k, rfl, HK, HD8⟩ := hrel
    obtain ⟨Aa, ma, ca, rfl⟩ := HD8.out.slice
    have D110 := Lib.hid HD8.out
    clear HD8
    by_cases hk : k < q
    · obtain ⟨x, hx⟩ : ∃ x, ds.getD (k) 0 = x := ⟨_, rfl⟩
      have hxm : x ∈ ds := by rw [← hx, List.getD_eq_getElem?_getD, List.getElem?_eq_getElem (by omega)]; exact List.getElem_mem _
      obtain ⟨hxa, hxb⟩ := D110.out.buf.1 x hxm
      have cz : wr.cell? ⟨sb, k, none⟩ = some (.int .u8 x) := by rw [← hx]; exact D110.out.buf.2 (k) (by omega)
      have hki : (k : Int) < (q : Int) := by omega
      clear hx hxm
      go_wp2_with (first | ((with_reducible refine gate_builtin (b := .append) (xs := #[.tmp 195, .tmp 197]) rfl ?_); at_builtin; refine DS.app (D110.out.alloc _) rfl (.tmp 195) (.tmp 197) rfl _ 1 _ _ rfl rfl (readsN1 _ _) (by intro x h; simp only [List.mem_cons, List.not_mem_nil, or_false] at h; first | omega | (rw [IntKind.wrap_u8] at h; omega) | (simp only [IntKind.wrap_u8] at h; omega)) (by first | decide | omega) ?_; intro A111 m111 c111 w111 hd; have D111 := Lib.hid hd; clear hd D110))
      go_roundg (q - (k + 1))
      case measure => have := HK.out.2; omega
      case rel => exact ⟨k + 1, by go_num, ⟨by omega⟩, ⟨D111.out⟩⟩
    · have hke : q = k := by have := HK.out.1; omega
      subst hke
      go_wp2_with fail
      refine wp_loop_rounds 1 ?_
      rw [rounds_succ]
      go_wp2_with fail
      go_ret
      exact D110.out.fm
set_option maxHeartbeats 4000000 in
set_option maxRecDepth 100000 in
theorem fm_ff7 (w0 w : World) (B sb : Nat) (A0 : Option Addr) (n0 c0 : Nat) (ds : List Int) (D : DS w0 w B sb 0 (.slice A0 n0 c0) ds) (hds : ds.length ≤ 20) (nz : Nat) (hnz : nz ≤ ds.length) (hn1 : 1 ≤ nz) :
    Calls Tryz.prog 111 #[.slice A0 n0 c0, .bool false, .slice (some ⟨sb, 0, none⟩) 32 32, .int .i64 0, .int .i64 nz, .int .i64 nz, .int .u8 103, .bool true] w fun e w' => FmR w0 B e w' := by
  have D0 := Lib.hid D
  clear D
  have i3 : (nz : Int) ≤ 20 := by omega
  have i4 : (1 : Int) ≤ (nz : Int) := by omega
  have pnz0 : 0 < nz := by omega
  have pnz1 : decide (0 < nz) = true := decide_eq_true pnz0
  have pnz2 : decide ((0 : Int) < (nz : Int)) = true := decide_eq_true (by omega)
  go_enter Tryz.func111, Tryz.ntmps111
  go_wp2_with (first | ((with_reducible refine gate_builtin (b := .append) (xs := #[.tmp 209, .tmp 210]) rfl ?_); at_builtin; refine DS.app (D0.out.alloc _) rfl (.tmp 209) (.tmp 210) rfl _ 1 _ _ rfl rfl (readsN1 _ _) (by decide) (by first | decide | omega) ?_; intro A112 m112 c112 w112 hd; have D112 := Lib.hid hd; clear hd D0) | ((with_reducible refine gate_builtin (b := .append) (xs := #[.tmp 214, .tmp 215]) rfl ?_); at_builtin; refine DS.app (D112.out.alloc _) rfl (.tmp 214) (.tmp 215) rfl _ 1 _ _ rfl rfl (readsN1 _ _) (by decide) (by first | decide | omega) ?_; intro A113 m113 c113 w113 hd; have D113 := Lib.hid hd; clear hd D112))
  refine wp_loop_rounds 1 ?_
  rw [rounds_succ]
  go_wp2_with fail
  go_loopg [0, 247] nz (fun gk v0 vc wr => ∃ k : Nat, vc = .int .i64 k ∧ Aside0 (k ≤ nz ∧ gk = nz - k) ∧ Aside0 (DS w0 wr B sb (((0 + 1) + 1) + k) v0 ds))
  case atStart => exact ⟨0, rfl, ⟨by omega⟩, ⟨D113.out⟩⟩
  case round =>
    clear D113
    obtain ⟨k, rfl, HK, HD9⟩ := hrel
    obtain ⟨Aa, ma, ca, rfl⟩ := HD9.out.slice
    have D114 := Lib.hid HD9.out
    clear HD9
    by_cases hk : k < nz
    · obtain ⟨x, hx⟩ : ∃ x, ds.getD (k) 0 = x := ⟨_, rfl⟩
      have hxm : x ∈ ds := by rw [← hx, List.getD_eq_getElem?_getD, List.getElem?_eq_getElem (by omega)]; exact List.getElem_mem _
      obtain ⟨hxa, hxb⟩ := D114.out.buf.1 x hxm
      have cz : wr.cell? ⟨sb, k, none⟩ = some (.int .u8 x) := by rw [← hx]; exact D114.out.buf.2 (k) (by omega)
      have hki : (k : Int) < (nz : Int) := by omega
      clear hx hxm
      go_wp2_with (first | ((with_reducible refine gate_builtin (b := .append) (xs := #[.tmp 250, .tmp 257]) rfl ?_); at_builtin; refine DS.app (D114.out.alloc _) rfl (.tmp 250) (.tmp 257) rfl _ 1 _ _ rfl rfl (readsN1 _ _) (by intro x h; simp only [List.mem_cons, List.not_mem_nil, or_false] at h; first | omega | (rw [IntKind.wrap_u8] at h; omega) | (simp only [IntKind.wrap_u8] at h; omega)) (by first | decide | omega) ?_; intro A115 m115 c115 w115 hd; have D115 := Lib.hid hd; clear hd D114))
      go_roundg (nz - (k + 1))
      case measure => have := HK.out.2; omega
      case rel => exact ⟨k + 1, by go_num, ⟨by omega⟩, ⟨D115.out⟩⟩
    · have hke : nz = k := by have := HK.out.1; omega
      subst hke
      go_wp2_with fail
      refine wp_loop_rounds 1 ?_
      rw [rounds_succ]
      go_wp2_with fail
      go_ret
      exact D114.out.fm
set_option maxHeartbeats 4000000 in
set_option maxRecDepth 100000 in
theorem fm_ft1 (w0 w : World) (B sb : Nat) (A0 : Option Addr) (n0 c0 : Nat) (ds : List Int) (D : DS w0 w B sb 0 (.slice A0 n0 c0) ds) (hds : ds.length ≤ 20) (q nz : Nat) (hq1 : 1 ≤ q) (hq2 : q ≤ 6) (hnz : nz ≤ ds.length) (hqn : nz < q) :
    Calls Tryz.prog 111 #[.slice A0 n0 c0, .bool true, .slice (some ⟨sb, 0, none⟩) 32 32, .int .i64 q, .int .i64 nz, .int .i64 nz, .int .u8 103, .bool true] w fun e w' => FmR w0 B e w' := by
  have D0 := Lib.hid D
  clear D
  have i1 : (1 : Int) ≤ (q : Int) := by omega
  have i2 : (q : Int) ≤ 6 := by omega
  have i3 : (nz : Int) ≤ 20 := by omega
  have i5 : nz ≤ 32 := by omega
  have i6 : q ≤ 32 := by omega
  have pq0 : 0 < q := by omega
  have pq1 : decide (0 < q) = true := decide_eq_true pq0
  have pq2 : decide ((0 : Int) < (q : Int)) = true := decide_eq_true (by omega)
  obtain ⟨Z, hZ⟩ : ∃ Z : Nat, q - nz = Z := ⟨_, rfl⟩
  have e1 : (q : Int) - (nz : Int) = (Z : Int) := by omega
  have i4 : (nz : Int) < (q : Int) := by omega
  have i9 : (1 : Int) ≤ (Z : Int) := by omega
  have b9 : decide (q < nz) = false := decide_eq_false (by omega)
  have e3 : min (nz : Int) (q : Int) = (nz : Int) := by omega
  have hZ6 : Z ≤ 6 := by omega
  clear hZ
  have pZ0 : 0 < Z := by omega
  have pZ1 : decide (0 < Z) = true := decide_eq_true pZ0
  have pZ2 : decide ((0 : Int) < (Z : Int)) = true := decide_eq_true (by omega)
  go_enter Tryz.func111, Tryz.ntmps111
  go_wp2_with (first | ((with_reducible refine gate_builtin (b := .append) (xs := #[.tmp 179, .tmp 180]) rfl ?_); at_builtin; refine DS.app (D0.out.alloc _) rfl (.tmp 179) (.tmp 180) rfl _ 1 _ _ rfl rfl (readsN1 _ _) (by decide) (by first | decide | omega) ?_; intro A116 m116 c116 w116 hd; have D116 := Lib.hid hd; clear hd D0))
  go_loopg [0, 191] nz (fun gk v0 vc wr => ∃ k : Nat, vc = .int .i64 k ∧ Aside0 (k ≤ nz ∧ gk = nz - k) ∧ Aside0 (DS w0 wr B sb ((0 + 1) + k) v0 ds))
  case atStart => exact ⟨0, rfl, ⟨by omega⟩, ⟨D116.out⟩⟩
  case round =>
    clear D116
    obtain ⟨k, rfl, HK, HD10⟩ := hrel
    obtain ⟨Aa, ma, ca, rfl⟩ := HD10.out.slice
    have D117 := Lib.hid HD10.out
    clear HD10
    by_cases hk : k < nz
    · obtain ⟨x, hx⟩ : ∃ x, ds.getD (k) 0 = x := ⟨_, rfl⟩
      have hxm : x ∈ ds := by rw [← hx, List.getD_eq_getElem?_getD, List.getElem?_eq_getElem (by omega)]; exact List.getElem_mem _
      obtain ⟨hxa, hxb⟩ := D117.out.buf.1 x hxm
      have cz : wr.cell? ⟨sb, k, none⟩ = some (.int .u8 x) := by rw [← hx]; exact D117.out.buf.2 (k) (by omega)
      have hki : (k : Int) < (nz : Int) := by omega
      clear hx hxm
      go_wp2_with (first | ((with_reducible refine gate_builtin (b := .append) (xs := #[.tmp 195, .tmp 197]) rfl ?_); at_builtin; refine DS.app (D117.out.alloc _) rfl (.tmp 195) (.tmp 197) rfl _ 1 _ _ rfl rfl (readsN1 _ _) (by intro x h; simp only [List.mem_cons, List.not_mem_nil, or_false] at h; first | omega | (rw [IntKind.wrap_u8] at h; omega) | (simp only [IntKind.wrap_u8] at h; omega)) (by first | decide | omega) ?_; intro A118 m118 c118 w118 hd; have D118 := Lib.hid hd; clear hd D117))
      go_roundg (nz - (k + 1))
      case measure => have := HK.out.2; omega
      case rel => exact ⟨k + 1, by go_num, ⟨by omega⟩, ⟨D118.out⟩⟩
    · have hke : nz = k := by have := HK.out.1; omega
      subst hke
      go_wp2_with fail
      go_loopg [0, 203] Z (fun gk v0 vc wr => ∃ k : Nat, vc = .int .i64 k ∧ Aside0 (k ≤ Z ∧ gk = Z - k) ∧ Aside0 (DS w0 wr B sb (((0 + 1) + nz) + k) v0 ds))
      case atStart => exact ⟨0, rfl, ⟨by omega⟩, ⟨D117.out⟩⟩
      case round =>
        clear D117
        obtain ⟨k, rfl, HK, HD11⟩ := hrel
        obtain ⟨Aa, ma, ca, rfl⟩ := HD11.out.slice
        have D119 := Lib.hid HD11.out
        clear HD11
        by_cases hk : k < Z
        · have hki : (k : Int) < (Z : Int) := by omega
          go_wp2_with (first | ((with_reducible refine gate_builtin (b := .append) (xs := #[.tmp 205, .tmp 206]) rfl ?_); at_builtin; refine DS.app (D119.out.alloc _) rfl (.tmp 205) (.tmp 206) rfl _ 1 _ _ rfl rfl (readsN1 _ _) (by decide) (by first | decide | omega) ?_; intro A120 m120 c120 w120 hd; have D120 := Lib.hid hd; clear hd D119))
          go_roundg (Z - (k + 1))
          case measure => have := HK.out.2; omega
          case rel => exact ⟨k + 1, by go_num, ⟨by omega⟩, ⟨D120.out⟩⟩
        · have hke : Z = k := by have := HK.out.1; omega
          subst hke
          go_wp2_with fail
          go_ret
          exact D119.out.fm
set_option maxHeartbeats 4000000 in
set_option maxRecDepth 100000 in
theorem fm_ft2 (w0 w : World) (B sb : Nat) (A0 : Option Addr) (n0 c0 : Nat) (ds : List Int) (D : DS w0 w B sb 0 (.slice A0 n0 c0) ds) (hds : ds.length ≤ 20) (q nz : Nat) (hq1 : 1 ≤ q) (hq2 : q ≤ 6) (hnz : nz ≤ ds.length) (hqn : q < nz) :
    Calls Tryz.prog 111 #[.slice A0 n0 c0, .bool true, .slice (some ⟨sb, 0, none⟩) 32 32, .int .i64 q, .int .i64 nz, .int .i64 nz, .int .u8 103, .bool true] w fun e w' => FmR w0 B e w' := by
  have D0 := Lib.hid D
  clear D
  have i1 : (1 : Int) ≤ (q : Int) := by omega
  have i2 : (q : Int) ≤ 6 := by omega
  have i3 : (nz : Int) ≤ 20 := by omega
  have i5 : nz ≤ 32 := by omega
  have i6 : q ≤ 32 := by omega
  have pq0 : 0 < q := by omega
  have pq1 : decide (0 < q) = true := decide_eq_true pq0
  have pq2 : decide ((0 : Int) < (q : Int)) = true := decide_eq_true (by omega)
  obtain ⟨P, hP⟩ : ∃ P : Nat, nz - q = P := ⟨_, rfl⟩
  have hPn : q + P = nz := by omega
  have i4 : (q : Int) < (nz : Int) := by omega
  have e1 : (nz : Int) - (q : Int) = (P : Int) := by omega
  have i7 : (1 : Int) ≤ (P : Int) := by omega
  have i8 : (P : Int) ≤ 20 := by omega
  have e2 : max (P : Int) 0 = (P : Int) := by omega
  have e3 : min (nz : Int) (q : Int) = (q : Int) := by omega
  have e4 : max 0 (-(q : Int)) = 0 := by omega
  have e5 : min (P : Int) 0 = 0 := by omega
  have e6 : max 0 (P : Int) = (P : Int) := by omega
  have HPN := Lib.hid hPn
  clear hP hPn
  have pP0 : 0 < P := by omega
  have pP1 : decide (0 < P) = true := decide_eq_true pP0
  have pP2 : decide ((0 : Int) < (P : Int)) = true := decide_eq_true (by omega)
  go_enter Tryz.func111, Tryz.ntmps111
  go_wp2_with (first | ((with_reducible refine gate_builtin (b := .append) (xs := #[.tmp 179, .tmp 180]) rfl ?_); at_builtin; refine DS.app (D0.out.alloc _) rfl (.tmp 179) (.tmp 180) rfl _ 1 _ _ rfl rfl (readsN1 _ _) (by decide) (by first | decide | omega) ?_; intro A121 m121 c121 w121 hd; have D121 := Lib.hid hd; clear hd D0))
  go_loopg [0, 191] q (fun gk v0 vc wr => ∃ k : Nat, vc = .int .i64 k ∧ Aside0 (k ≤ q ∧ gk = q - k) ∧ Aside0 (DS w0 wr B sb ((0 + 1) + k) v0 ds))
  case atStart => exact ⟨0, rfl, ⟨by omega⟩, ⟨D121.out⟩⟩
  case round =>
    clear D121
    obtain ⟨k, rfl, HK, HD12⟩ := hrel
    obtain ⟨Aa, ma, ca, rfl⟩ := HD12.out.slice
    have D122 := Lib.hid HD12.out
    clear HD12
    by_cases hk : k < q
    · obtain ⟨x, hx⟩ : ∃ x, ds.getD (k) 0 = x := ⟨_, rfl⟩
      have hxm : x ∈ ds := by rw [← hx, List.getD_eq_getElem?_getD, List.getElem?_eq_getElem (by omega)]; exact List.getElem_mem _
      obtain ⟨hxa, hxb⟩ := D122.out.buf.1 x hxm
      have cz : wr.cell? ⟨sb, k, none⟩ = some (.int .u8 x) := by rw [← hx]; exact D122.out.buf.2 (k) (by omega)
      have hki : (k : Int) < (q : Int) := by omega
      clear hx hxm
      go_wp2_with (first | ((with_reducible refine gate_builtin (b := .append) (xs := #[.tmp 195, .tmp 197]) rfl ?_); at_builtin; refine DS.app (D122.out.alloc _) rfl (.tmp 195) (.tmp 197) rfl _ 1 _ _ rfl rfl (readsN1 _ _) (by intro x h; simp only [List.mem_cons, List.not_mem_nil, or_false] at h; first | omega | (rw [IntKind.wrap_u8] at h; omega) | (simp only [IntKind.wrap_u8] at h; omega)) (by first | decide | omega) ?_; intro A123 m123 c123 w123 hd; have D123 := Lib.hid hd; clear hd D122))
      go_roundg (q - (k + 1))
      case measure => have := HK.out.2; omega
      case rel => exact ⟨k + 1, by go_num, ⟨by omega⟩, ⟨D123.out⟩⟩
    · have hke : q = k := by have := HK.out.1; omega
      subst hke
      go_wp2_with fail
      refine wp_loop_rounds 1 ?_
      rw [rounds_succ]
      go_wp2_with (first | ((with_reducible refine gate_builtin (b := .append) (xs := #[.tmp 214, .tmp 215]) rfl ?_); at_builtin; refine DS.app (D122.out.alloc _) rfl (.tmp 214) (.tmp 215) rfl _ 1 _ _ rfl rfl (readsN1 _ _) (by decide) (by first | decide | omega) ?_; intro A124 m124 c124 w124 hd; have D124 := Lib.hid hd; clear hd D122))
      refine wp_loop_rounds 1 ?_
      rw [rounds_succ]
      go_wp2_with fail
      have hqp := HPN.out
      go_loopg [0, 247] P (fun gk v0 vc wr => ∃ k : Nat, vc = .int .i64 k ∧ Aside0 (k ≤ P ∧ gk = P - k) ∧ Aside0 (DS w0 wr B sb ((((0 + 1) + q) + 1) + k) v0 ds))
      case atStart => exact ⟨0, rfl, ⟨by omega⟩, ⟨D124.out⟩⟩
      case round =>
        clear D124
        obtain ⟨k, rfl, HK, HD13⟩ := hrel
        obtain ⟨Aa, ma, ca, rfl⟩ := HD13.out.slice
        have D125 := Lib.hid HD13.out
        clear HD13
        by_cases hk : k < P
        · obtain ⟨x, hx⟩ : ∃ x, ds.getD (q + k) 0 = x := ⟨_, rfl⟩
          have hxm : x ∈ ds := by rw [← hx, List.getD_eq_getElem?_getD, List.getElem?_eq_getElem (by omega)]; exact List.getElem_mem _
          obtain ⟨hxa, hxb⟩ := D125.out.buf.1 x hxm
          have cz : wr.cell? ⟨sb, q + k, none⟩ = some (.int .u8 x) := by rw [← hx]; exact D125.out.buf.2 (q + k) (by omega)
          have hki : (k : Int) < (P : Int) := by omega
          clear hx hxm
          go_wp2_with (first | ((with_reducible refine gate_builtin (b := .append) (xs := #[.tmp 250, .tmp 257]) rfl ?_); at_builtin; refine DS.app (D125.out.alloc _) rfl (.tmp 250) (.tmp 257) rfl _ 1 _ _ rfl rfl (readsN1 _ _) (by intro x h; simp only [List.mem_cons, List.not_mem_nil, or_false] at h; first | omega | (rw [IntKind.wrap_u8] at h; omega) | (simp only [IntKind.wrap_u8] at h; omega)) (by first | decide | omega) ?_; intro A126 m126 c126 w126 hd; have D126 := Lib.hid hd; clear hd D125))
          go_roundg (P - (k + 1))
          case measure => have := HK.out.2; omega
          case rel => exact ⟨k + 1, by go_num, ⟨by omega⟩, ⟨D126.out⟩⟩
        · have hke : P = k := by have := HK.out.1; omega
          subst hke
          go_wp2_with fail
          refine wp_loop_rounds 1 ?_
          rw [rounds_succ]
          go_wp2_with fail
          go_ret
          exact D125.out.fm
set_option maxHeartbeats 4000000 in
set_option maxRecDepth 100000 in
theorem fm_ft3 (w0 w : World) (B sb : Nat) (A0 : Option Addr) (n0 c0 : Nat) (ds : List Int) (D : DS w0 w B sb 0 (.slice A0 n0 c0) ds) (hds : ds.length ≤ 20) (q nz : Nat) (hq1 : 1 ≤ q) (hq2 : q ≤ 3) (hnz : nz ≤ ds.length) (hn1 : 1 ≤ nz) :
    Calls Tryz.prog 111 #[.slice A0 n0 c0, .bool true, .slice (some ⟨sb, 0, none⟩) 32 32, .int .i64 (-(q : Int)), .int .i64 nz, .int .i64 nz, .int .u8 103, .bool true] w fun e w' => FmR w0 B e w' := by
  have D0 := Lib.hid D
  clear D
  obtain ⟨R, hR⟩ : ∃ R : Nat, nz + q = R := ⟨_, rfl⟩
  have i2 : (q : Int) ≤ 3 := by omega
  have i3 : (nz : Int) ≤ 20 := by omega
  have i4 : (1 : Int) ≤ (nz : Int) := by omega
  have i5 : (R : Int) ≤ 23 := by omega
  have i6 : (1 : Int) ≤ (R : Int) := by omega
  have e0 : (nz : Int) - -(q : Int) = (R : Int) := by omega
  have e1 : (nz : Int) + (q : Int) = (R : Int) := by omega
  have e2 : max (R : Int) 0 = (R : Int) := by omega
  have e3 : max 0 (q : Int) = (q : Int) := by omega
  have e4 : min (R : Int) (q : Int) = (q : Int) := by omega
  have e5 : (R : Int) - (q : Int) = (nz : Int) := by omega
  have e6 : max 0 (nz : Int) = (nz : Int) := by omega
  have e7 : -(q : Int) + (q : Int) = 0 := by omega
  have i7 : (1 : Int) ≤ (q : Int) := by omega
  clear hR
  have pq0 : 0 < q := by omega
  have pq1 : decide (0 < q) = true := decide_eq_true pq0
  have pq2 : decide ((0 : Int) < (q : Int)) = true := decide_eq_true (by omega)
  have pnz0 : 0 < nz := by omega
  have pnz1 : decide (0 < nz) = true := decide_eq_true pnz0
  have pnz2 : decide ((0 : Int) < (nz : Int)) = true := decide_eq_true (by omega)
  go_enter Tryz.func111, Tryz.ntmps111
  go_wp2_with (first | ((with_reducible refine gate_builtin (b := .append) (xs := #[.tmp 179, .tmp 180]) rfl ?_); at_builtin; refine DS.app (D0.out.alloc _) rfl (.tmp 179) (.tmp 180) rfl _ 1 _ _ rfl rfl (readsN1 _ _) (by decide) (by first | decide | omega) ?_; intro A127 m127 c127 w127 hd; have D127 := Lib.hid hd; clear hd D0) | ((with_reducible refine gate_builtin (b := .append) (xs := #[.tmp 209, .tmp 210]) rfl ?_); at_builtin; refine DS.app (D127.out.alloc _) rfl (.tmp 209) (.tmp 210) rfl _ 1 _ _ rfl rfl (readsN1 _ _) (by decide) (by first | decide | omega) ?_; intro A128 m128 c128 w128 hd; have D128 := Lib.hid hd; clear hd D127) | ((with_reducible refine gate_builtin (b := .append) (xs := #[.tmp 214, .tmp 215]) rfl ?_); at_builtin; refine DS.app (D128.out.alloc _) rfl (.tmp 214) (.tmp 215) rfl _ 1 _ _ rfl rfl (readsN1 _ _) (by decide) (by first | decide | omega) ?_; intro A129 m129 c129 w129 hd; have D129 := Lib.hid hd; clear hd D128))
  go_loopg [0, 240] q (fun gk v0 vc wr => ∃ k : Nat, vc = .int .i64 k ∧ Aside0 (k ≤ q ∧ gk = q - k) ∧ Aside0 (DS w0 wr B sb ((((0 + 1) + 1) + 1) + k) v0 ds))
  case atStart => exact ⟨0, rfl, ⟨by omega⟩, ⟨D129.out⟩⟩
  case round =>
    clear D129
    obtain ⟨k, rfl, HK, HD14⟩ := hrel
    obtain ⟨Aa, ma, ca, rfl⟩ := HD14.out.slice
    have D130 := Lib.hid HD14.out
    clear HD14
    by_cases hk : k < q
    · have hki : (k : Int) < (q : Int) := by omega
      go_wp2_with (first | ((with_reducible refine gate_builtin (b := .append) (xs := #[.tmp 242, .tmp 243]) rfl ?_); at_builtin; refine DS.app (D130.out.alloc _) rfl (.tmp 242) (.tmp 243) rfl _ 1 _ _ rfl rfl (readsN1 _ _) (by decide) (by first | decide | omega) ?_; intro A131 m131 c131 w131 hd; have D131 := Lib.hid hd; clear hd D130))
      go_roundg (q - (k + 1))
      case measure => have := HK.out.2; omega
      case rel => exact ⟨k + 1, by go_num, ⟨by omega⟩, ⟨D131.out⟩⟩
    · have hke : q = k := by have := HK.out.1; omega
      subst hke
      go_wp2_with fail
      go_loopg [0, 247] nz (fun gk v0 vc wr => ∃ k : Nat, vc = .int .i64 k ∧ Aside0 (k ≤ nz ∧ gk = nz - k) ∧ Aside0 (DS w0 wr B sb (((((0 + 1) + 1) + 1) + q) + k) v0 ds))
      case atStart => exact ⟨0, rfl, ⟨by omega⟩, ⟨D130.out⟩⟩
      case round =>
        clear D130
        obtain ⟨k, rfl, HK, HD15⟩ := hrel
        obtain ⟨Aa, ma, ca, rfl⟩ := HD15.out.slice
        have D132 := Lib.hid HD15.out
        clear HD15
        by_cases hk : k < nz
        · obtain ⟨x, hx⟩ : ∃ x, ds.getD (k) 0 = x := ⟨_, rfl⟩
          have hxm : x ∈ ds := by rw [← hx, List.getD_eq_getElem?_getD, List.getElem?_eq_getElem (by omega)]; exact List.getElem_mem _
          obtain ⟨hxa, hxb⟩ := D132.out.buf.1 x hxm
          have cz : wr.cell? ⟨sb, k, none⟩ = some (.int .u8 x) := by rw [← hx]; exact D132.out.buf.2 (k) (by omega)
          have hki : (k : Int) < (nz : Int) := by omega
          clear hx hxm
          go_wp2_with (first | ((with_reducible refine gate_builtin (b := .append) (xs := #[.tmp 250, .tmp 257]) rfl ?_); at_builtin; refine DS.app (D132.out.alloc _) rfl (.tmp 250) (.tmp 257) rfl _ 1 _ _ rfl rfl (readsN1 _ _) (by intro x h; simp only [List.mem_cons, List.not_mem_nil, or_false] at h; first | omega | (rw [IntKind.wrap_u8] at h; omega) | (simp only [IntKind.wrap_u8] at h; omega)) (by first | decide | omega) ?_; intro A133 m133 c133 w133 hd; have D133 := Lib.hid hd; clear hd D132))
          go_roundg (nz - (k + 1))
          case measure => have := HK.out.2; omega
          case rel => exact ⟨k + 1, by go_num, ⟨by omega⟩, ⟨D133.out⟩⟩
        · have hke : nz = k := by have := HK.out.1; omega
          subst hke
          go_wp2_with fail
          refine wp_loop_rounds 1 ?_
          rw [rounds_succ]
          go_wp2_with fail
          go_ret
          exact D132.out.fm
set_option maxHeartbeats 4000000 in
set_option maxRecDepth 100000 in
theorem fm_ft4 (w0 w : World) (B sb : Nat) (A0 : Option Addr) (n0 c0 : Nat) (ds : List Int) (D : DS w0 w B sb 0 (.slice A0 n0 c0) ds) (hds : ds.length ≤ 20) (q : Nat) (hq2 : q ≤ 3) (hq1 : 1 ≤ q) :
    Calls Tryz.prog 111 #[.slice A0 n0 c0, .bool true, .slice (some ⟨sb, 0, none⟩) 32 32, .int .i64 (-(q : Int)), .int .i64 0, .int .i64 0, .int .u8 103, .bool true] w fun e w' => FmR w0 B e w' := by
  have D0 := Lib.hid D
  clear D
  have i2 : (q : Int) ≤ 3 := by omega
  have i4 : (1 : Int) ≤ (q : Int) := by omega
  have e2 : max (q : Int) 0 = (q : Int) := by omega
  have e3 : max 0 (q : Int) = (q : Int) := by omega
  have e7 : -(q : Int) + (q : Int) = 0 := by omega
  have pq0 : 0 < q := by omega
  have pq1 : decide (0 < q) = true := decide_eq_true pq0
  have pq2 : decide ((0 : Int) < (q : Int)) = true := decide_eq_true (by omega)
  go_enter Tryz.func111, Tryz.ntmps111
  go_wp2_with (first | ((with_reducible refine gate_builtin (b := .append) (xs := #[.tmp 179, .tmp 180]) rfl ?_); at_builtin; refine DS.app (D0.out.alloc _) rfl (.tmp 179) (.tmp 180) rfl _ 1 _ _ rfl rfl (readsN1 _ _) (by decide) (by first | decide | omega) ?_; intro A134 m134 c134 w134 hd; have D134 := Lib.hid hd; clear hd D0) | ((with_reducible refine gate_builtin (b := .append) (xs := #[.tmp 209, .tmp 210]) rfl ?_); at_builtin; refine DS.app (D134.out.alloc _) rfl (.tmp 209) (.tmp 210) rfl _ 1 _ _ rfl rfl (readsN1 _ _) (by decide) (by first | decide | omega) ?_; intro A135 m135 c135 w135 hd; have D135 := Lib.hid hd; clear hd D134) | ((with_reducible refine gate_builtin (b := .append) (xs := #[.tmp 214, .tmp 215]) rfl ?_); at_builtin; refine DS.app (D135.out.alloc _) rfl (.tmp 214) (.tmp 215) rfl _ 1 _ _ rfl rfl (readsN1 _ _) (by decide) (by first | decide | omega) ?_; intro A136 m136 c136 w136 hd; have D136 := Lib.hid hd; clear hd D135))
  go_loopg [0, 240] q (fun gk v0 vc wr => ∃ k : Nat, vc = .int .i64 k ∧ Aside0 (k ≤ q ∧ gk = q - k) ∧ Aside0 (DS w0 wr B sb ((((0 + 1) + 1) + 1) + k) v0 ds))
  case atStart => exact ⟨0, rfl, ⟨by omega⟩, ⟨D136.out⟩⟩
  case round =>
    clear D136
    obtain ⟨k, rfl, HK, HD16⟩ := hrel
    obtain ⟨Aa, ma, ca, rfl⟩ := HD16.out.slice
    have D137 := Lib.hid HD16.out
    clear HD16
    by_cases hk : k < q
    · have hki : (k : Int) < (q : Int) := by omega
      go_wp2_with (first | ((with_reducible refine gate_builtin (b := .append) (xs := #[.tmp 242, .tmp 243]) rfl ?_); at_builtin; refine DS.app (D137.out.alloc _) rfl (.tmp 242) (.tmp 243) rfl _ 1 _ _ rfl rfl (readsN1 _ _) (by decide) (by first | decide | omega) ?_; intro A138 m138 c138 w138 hd; have D138 := Lib.hid hd; clear hd D137))
      go_roundg (q - (k + 1))
      case measure => have := HK.out.2; omega
      case rel => exact ⟨k + 1, by go_num, ⟨by omega⟩, ⟨D138.out⟩⟩
    · have hke : q = k := by have := HK.out.1; omega
      subst hke
      go_wp2_with fail
      refine wp_loop_rounds 1 ?_
      rw [rounds_succ]
      go_wp2_with fail
      refine wp_loop_rounds 1 ?_
      rw [rounds_succ]
      go_wp2_with fail
      go_ret
      exact D137.out.fm
set_option maxHeartbeats 4000000 in
set_option maxRecDepth 100000 in
theorem fm_ft5 (w0 w : World) (B sb : Nat) (A0 : Option Addr) (n0 c0 : Nat) (ds : List Int) (D : DS w0 w B sb 0 (.slice A0 n0 c0) ds) (hds : ds.length ≤ 20) :
    Calls Tryz.prog 111 #[.slice A0 n0 c0, .bool true, .slice (some ⟨sb, 0, none⟩) 32 32, .int .i64 0, .int .i64 0, .int .i64 0, .int .u8 103, .bool true] w fun e w' => FmR w0 B e w' := by
  have D0 := Lib.hid D
  clear D
  go_enter Tryz.func111, Tryz.ntmps111
  go_wp2_with (first | ((with_reducible refine gate_builtin (b := .append) (xs := #[.tmp 179, .tmp 180]) rfl ?_); at_builtin; refine DS.app (D0.out.alloc _) rfl (.tmp 179) (.tmp 180) rfl _ 1 _ _ rfl rfl (readsN1 _ _) (by decide) (by first | decide | omega) ?_; intro A139 m139 c139 w139 hd; have D139 := Lib.hid hd; clear hd D0) | ((with_reducible refine gate_builtin (b := .append) (xs := #[.tmp 209, .tmp 210]) rfl ?_); at_builtin; refine DS.app (D139.out.alloc _) rfl (.tmp 209) (.tmp 210) rfl _ 1 _ _ rfl rfl (readsN1 _ _) (by decide) (by first | decide | omega) ?_; intro A140 m140 c140 w140 hd; have D140 := Lib.hid hd; clear hd D139))
  go_ret
  exact D140.out.fm
set_option maxHeartbeats 4000000 in
set_option maxRecDepth 100000 in
theorem fm_ft6 (w0 w : World) (B sb : Nat) (A0 : Option Addr) (n0 c0 : Nat) (ds : List Int) (D : DS w0 w B sb 0 (.slice A0 n0 c0) ds) (hds : ds.length ≤ 20) (q : Nat) (hq1 : 1 ≤ q) (hq2 : q ≤ 6) (hnz : q ≤ ds.length) :
    Calls Tryz.prog 111 #[.slice A0 n0 c0, .bool true, .slice (some ⟨sb, 0, none⟩) 32 32, .int .i64 q, .int .i64 q, .int .i64 q, .int .u8 103, .bool true] w fun e w' => FmR w0 B e w' := by
  have D0 := Lib.hid D
  clear D
  have i1 : (1 : Int) ≤ (q : Int) := by omega
  have i2 : (q : Int) ≤ 6 := by omega
  have i6 : q ≤ 32 := by omega
  have pq0 : 0 < q := by omega
  have pq1 : decide (0 < q) = true := decide_eq_true pq0
  have pq2 : decide ((0 : Int) < (q : Int)) = true := decide_eq_true (by omega)
  go_enter Tryz.func111, Tryz.ntmps111
  go_wp2_with (first | ((with_reducible refine gate_builtin (b := .append) (xs := #[.tmp 179, .tmp 180]) rfl ?_); at_builtin; refine DS.app (D0.out.alloc _) rfl (.tmp 179) (.tmp 180) rfl _ 1 _ _ rfl rfl (readsN1 _ _) (by decide) (by first | decide | omega) ?_; intro A141 m141 c141 w141 hd; have D141 := Lib.hid hd; clear hd D0))
  go_loopg [0, 191] q (fun gk v0 vc wr => ∃ k : Nat, vc = .int .i64 k ∧ Aside0 (k ≤ q ∧ gk = q - k) ∧ Aside0 (DS w0 wr B sb ((0 + 1) + k) v0 ds))
  case atStart => exact ⟨0, rfl, ⟨by omega⟩, ⟨D141.out⟩⟩
  case round =>
    clear D141
    obtain ⟨k, rfl, HK, HD17⟩ := hrel
    obtain ⟨Aa, ma, ca, rfl⟩ := HD17.out.slice
    have D142 := Lib.hid HD17.out
    clear HD17
    by_cases hk : k < q
    · obtain ⟨x, hx⟩ : ∃ x, ds.getD (k) 0 = x := ⟨_, rfl⟩
      have hxm : x ∈ ds := by rw [← hx, List.getD_eq_getElem?_getD, List.getElem?_eq_getElem (by omega)]; exact List.getElem_mem _
      obtain ⟨hxa, hxb⟩ := D142.out.buf.1 x hxm
      have cz : wr.cell? ⟨sb, k, none⟩ = some (.int .u8 x) := by rw [← hx]; exact D142.out.buf.2 (k) (by omega)
      have hki : (k : Int) < (q : Int) := by omega
      clear hx hxm
      go_wp2_with (first | ((with_reducible refine gate_builtin (b := .append) (xs := #[.tmp 195, .tmp 197]) rfl ?_); at_builtin; refine DS.app (D142.out.alloc _) rfl (.tmp 195) (.tmp 197) rfl _ 1 _ _ rfl rfl (readsN1 _ _) (by intro x h; simp only [List.mem_cons, List.not_mem_nil, or_false] at h; first | omega | (rw [IntKind.wrap_u8] at h; omega) | (simp only [IntKind.wrap_u8] at h; omega)) (by first | decide | omega) ?_; intro A143 m143 c143 w143 hd; have D143 := Lib.hid hd; clear hd D142))
      go_roundg (q - (k + 1))
      case measure => have := HK.out.2; omega
      case rel => exact ⟨k + 1, by go_num, ⟨by omega⟩, ⟨D143.out⟩⟩
    · have hke : q = k := by have := HK.out.1; omega
      subst hke
      go_wp2_with fail
      refine wp_loop_rounds 1 ?_
      rw [rounds_succ]
      go_wp2_with fail
      go_ret
      exact D142.out.fm
set_option maxHeartbeats 4000000 in
set_option maxRecDepth 100000 in
theorem fm_ft7 (w0 w : World) (B sb : Nat) (A0 : Option Addr) (n0 c0 : Nat) (ds : List Int) (D : DS w0 w B sb 0 (.slice A0 n0 c0) ds) (hds : ds.length ≤ 20) (nz : Nat) (hnz : nz ≤ ds.length) (hn1 : 1 ≤ nz) :
    Calls Tryz.prog 111 #[.slice A0 n0 c0, .bool true, .slice (some ⟨sb, 0, none⟩) 32 32, .int .i64 0, .int .i64 nz, .int .i64 nz, .int .u8 103, .bool true] w fun e w' => FmR w0 B e w' := by
  have D0 := Lib.hid D
  clear D
  have i3 : (nz : Int) ≤ 20 := by omega
  have i4 : (1 : Int) ≤ (nz : Int) := by omega
  have pnz0 : 0 < nz := by omega
  have pnz1 : decide (0 < nz) = true := decide_eq_true pnz0
  have pnz2 : decide ((0 : Int) < (nz : Int)) = true := decide_eq_true (by omega)
  go_enter Tryz.func111, Tryz.ntmps111
  go_wp2_with (first | ((with_reducible refine gate_builtin (b := .append) (xs := #[.tmp 179, .tmp 180]) rfl ?_); at_builtin; refine DS.app (D0.out.alloc _) rfl (.tmp 179) (.tmp 180) rfl _ 1 _ _ rfl rfl (readsN1 _ _) (by decide) (by first | decide | omega) ?_; intro A144 m144 c144 w144 hd; have D144 := Lib.hid hd; clear hd D0) | ((with_reducible refine gate_builtin (b := .append) (xs := #[.tmp 209, .tmp 210]) rfl ?_); at_builtin; refine DS.app (D144.out.alloc _) rfl (.tmp 209) (.tmp 210) rfl _ 1 _ _ rfl rfl (readsN1 _ _) (by decide) (by first | decide | omega) ?_; intro A145 m145 c145 w145 hd; have D145 := Lib.hid hd; clear hd D144) | ((with_reducible refine gate_builtin (b := .append) (xs := #[.tmp 214, .tmp 215]) rfl ?_); at_builtin; refine DS.app (D145.out.alloc _) rfl (.tmp 214) (.tmp 215) rfl _ 1 _ _ rfl rfl (readsN1 _ _) (by decide) (by first | decide | omega) ?_; intro A146 m146 c146 w146 hd; have D146 := Lib.hid hd; clear hd D145))
  refine wp_loop_rounds 1 ?_
  rw [rounds_succ]
  go_wp2_with fail
  go_loopg [0, 247] nz (fun gk v0 vc wr => ∃ k : Nat, vc = .int .i64 k ∧ Aside0 (k ≤ nz ∧ gk = nz - k) ∧ Aside0 (DS w0 wr B sb ((((0 + 1) + 1) + 1) + k) v0 ds))
  case atStart => exact ⟨0, rfl, ⟨by omega⟩, ⟨D146.out⟩⟩
  case round =>
    clear D146
    obtain ⟨k, rfl, HK, HD18⟩ := hrel
    obtain ⟨Aa, ma, ca, rfl⟩ := HD18.out.slice
    have D147 := Lib.hid HD18.out
    clear HD18
    by_cases hk : k < nz
    · obtain ⟨x, hx⟩ : ∃ x, ds.getD (k) 0 = x := ⟨_, rfl⟩
      have hxm : x ∈ ds := by rw [← hx, List.getD_eq_getElem?_getD, List.getElem?_eq_getElem (by omega)]; exact List.getElem_mem _
      obtain ⟨hxa, hxb⟩ := D147.out.buf.1 x hxm
      have cz : wr.cell? ⟨sb, k, none⟩ = some (.int .u8 x) := by rw [← hx]; exact D147.out.buf.2 (k) (by omega)
      have hki : (k : Int) < (nz : Int) := by omega
      clear hx hxm
      go_wp2_with (first | ((with_reducible refine gate_builtin (b := .append) (xs := #[.tmp 250, .tmp 257]) rfl ?_); at_builtin; refine DS.app (D147.out.alloc _) rfl (.tmp 250) (.tmp 257) rfl _ 1 _ _ rfl rfl (readsN1 _ _) (by intro x h; simp only [List.mem_cons, List.not_mem_nil, or_false] at h; first | omega | (rw [IntKind.wrap_u8] at h; omega) | (simp only [IntKind.wrap_u8] at h; omega)) (by first | decide | omega) ?_; intro A148 m148 c148 w148 hd; have D148 := Lib.hid hd; clear hd D147))
      go_roundg (nz - (k + 1))
      case measure => have := HK.out.2; omega
      case rel => exact ⟨k + 1, by go_num, ⟨by omega⟩, ⟨D148.out⟩⟩
    · have hke : nz = k := by have := HK.out.1; omega
      subst hke
      go_wp2_with fail
      refine wp_loop_rounds 1 ?_
      rw [rounds_succ]
      go_wp2_with fail
      go_ret
      exact D147.out.fm
end Go.Proofs.YtkogipaaioibaaaGreatDoor
