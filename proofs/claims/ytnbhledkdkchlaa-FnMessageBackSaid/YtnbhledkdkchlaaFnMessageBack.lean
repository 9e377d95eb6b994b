/- FnMessageBack: the walk. (seat r2; printed by gen_fmsg.py) -/
import Derived.Test.YtnbhledkdkchlaaMsg
import Derived.Test.YtnbhledkdkchlaaPlawszzFits3
namespace Go.Proofs.Ytnbhledkdkchlaa
set_option linter.unusedVariables false
set_option linter.unusedSimpArgs false
open Go.RowKit Go.Proofs.YtnbhledkdkchlaaW.PrintWords
open PAll (info5)

theorem fits3_any (tm att : Int) (id body : ByteArray) (w : World) :
    Calls Try.prog 29 #[.agg #[.int .i64 tm, .int .i64 att, .string id, .string body]] w fun e w' => ∃ r : Bool, e = .returned (.bool r) ∧ Below w.heap.size w w' := by
  obtain ⟨q, hq⟩ : ∃ q, PAll.laws_zzFits3.f tm att id body = some q := by
    unfold PAll.laws_zzFits3.f
    repeat' split
    all_goals exact ⟨_, rfl⟩
  exact (PAll.laws_zzFits3.calls tm att id body q w hq).mono fun e w' h => ⟨q, h⟩
/-- The argument in its box. -/
structure BM (w wx : World) (arg : Array Value) : Prop where
  bel : Below w.heap.size w wx
  box : wx.heap[w.heap.size]? = some (.cells arg 28 (0, 0))
theorem BM.new (w : World) (arg : Array Value) : BM w (w.alloc (.cells arg 28)) arg := ⟨below_alloc (Below.refl _ _) _, heap_alloc_new w _⟩
theorem BM.step {w wx w1 : World} {arg : Array Value} (h : BM w wx arg) (hb : Below wx.heap.size wx w1) : BM w w1 arg := ⟨h.bel.trans (hb.mono h.bel.size), blk_below h.box hb⟩

set_option maxHeartbeats 4000000 in
set_option maxRecDepth 100000 in
theorem FnMessageBack_walk (tm att : Int) (id body : ByteArray) (w : World) (ht0 : -9223372036854775808 ≤ tm) (ht1 : tm < 9223372036854775808) :
    Calls Try.prog 9 #[.agg #[.int .i64 tm, .int .i64 att, .string id, .string body]] w fun e w' => e = .returned (.bool true) ∧ Below w.heap.size w w' := by
  have HX0 := Aside0.mk (BM.new w #[.int .i64 tm, .int .i64 att, .string id, .string body])
  have HF := Aside0.mk (fits3_any tm att id body (w.alloc (.cells #[.int .i64 tm, .int .i64 att, .string id, .string body] 28)))
  go_enter Try.func9, Try.ntmps9
  go_wp2_with fail
  refine (HF.out).mono ?_
  rintro e w1 ⟨r, rfl, hbel⟩
  have HX := Aside0.mk (HX0.out.step hbel)
  clear HX0 HF hbel
  cases r
  case false =>
    go_wp2_with fail
    go_ret
    exact ⟨rfl, HX.out.bel⟩
  have e0 := blk_cell HX.out.box 0
  have e1 := blk_cell HX.out.box 1
  have e2 := blk_cell HX.out.box 2
  have e3 := blk_cell HX.out.box 3
  by_cases h1 : (id.size : Int) = 16
  rotate_left
  · go_wp2_with fail
    go_ret
    exact ⟨rfl, HX.out.bel⟩
  by_cases h2 : (body.size : Int) > 300
  · go_wp2_with fail
    go_ret
    exact ⟨rfl, HX.out.bel⟩
  by_cases h3 : att < 0
  · go_wp2_with fail
    go_ret
    exact ⟨rfl, HX.out.bel⟩
  by_cases h4 : att > 65535
  · go_wp2_with fail
    go_ret
    exact ⟨rfl, HX.out.bel⟩
  have hid : id.size = 16 := by omega
  have hbz : body.size ≤ 300 := by omega
  have ha0 : 0 ≤ att := by omega
  have ha1 : att ≤ 65535 := by omega
  obtain ⟨U, hU⟩ : ∃ U, U = IntKind.u64.wrap tm := ⟨_, rfl⟩
  have hU0 : 0 ≤ U := by rw [hU, IntKind.wrap_u64]; omega
  have hU1 : U < 18446744073709551616 := by rw [hU, IntKind.wrap_u64]; omega
  have hau : IntKind.u64.wrap att = att := by rw [IntKind.wrap_u64]; omega
  have HG8 : Aside0 (∀ wi : World, Calls Try.prog 27 #[.int .u64 U, .int .i64 8] wi fun e w' => e = .returned (.string (strOfNums (bigL U 8))) ∧ Below wi.heap.size wi w') := ⟨fun wi => big_any U 8 (by omega) wi⟩
  have HG2 : Aside0 (∀ wi : World, Calls Try.prog 27 #[.int .u64 att, .int .i64 2] wi fun e w' => e = .returned (.string (strOfNums (bigL att 2))) ∧ Below wi.heap.size wi w') := ⟨fun wi => big_any att 2 (by omega) wi⟩
  have HWR := Aside0.mk (fun (wi : World) => messageWrite_any tm att id body wi hid ha0 ha1 (by omega))
  have HS := Aside0.mk (show strOfNums (msgL (IntKind.u64.wrap tm) att id body) = msgS U att id body by rw [← hU, msgS_str])
  have HRD := Aside0.mk (fun (wi : World) => show Calls Try.prog 20 #[.string (msgS U att id body)] wi fun e w' => MrR tm att id body wi e w' by
    have h := messageRead_any (msgS U att id body) wi (by rw [msgS_size U att id body hid]; omega) (by rw [msgS_size U att id body hid]; omega)
    obtain ⟨q1, q2, q3, q4⟩ := msgL_parts U att id body hid
    rw [msgS_bytes, q1, q2, q3, q4, be_bigL8 U hU0 hU1, be_bigL2 att ha0 (by omega), fr_str_bytesOf, fr_str_bytesOf, hU, msg_back tm ht0 ht1] at h
    rw [hU]
    exact h)
  have hs8 : (strOfNums (bigL U 8)).size = 8 := by rw [fr_size, bigL_length]
  have hs2 : (strOfNums (bigL att 2)).size = 2 := by rw [fr_size, bigL_length]
  have HDEF := Aside0.mk (show msgS U att id body = ((strOfNums (bigL U 8) ++ strOfNums (bigL att 2)) ++ id) ++ body from rfl)
  obtain ⟨B8, hB8⟩ : ∃ B8, B8 = strOfNums (bigL U 8) := ⟨_, rfl⟩
  obtain ⟨B2, hB2⟩ : ∃ B2, B2 = strOfNums (bigL att 2) := ⟨_, rfl⟩
  rw [← hB8] at HG8 HDEF hs8
  rw [← hB2] at HG2 HDEF hs2
  have hz1 : ¬ 9223372036854775807 < B8.size + B2.size := by omega
  have hz2 : ¬ 9223372036854775807 < B8.size + B2.size + id.size := by omega
  have hz3 : ¬ 9223372036854775807 < B8.size + B2.size + id.size + body.size := by omega
  have hUs := hU.symm
  have HK := Aside0.mk (fun (wi : World) (h : BM w wi #[.int .i64 tm, .int .i64 att, .string id, .string body]) => show wi.cell? ⟨w.heap.size, 0, none⟩ = some (.int .i64 tm) ∧ wi.cell? ⟨w.heap.size, 1, none⟩ = some (.int .i64 att) ∧ wi.cell? ⟨w.heap.size, 2, none⟩ = some (.string id) ∧ wi.cell? ⟨w.heap.size, 3, none⟩ = some (.string body) ∧ Below w.heap.size w wi ∧ wi.heap[w.heap.size]? = some (.cells #[.int .i64 tm, .int .i64 att, .string id, .string body] 28 (0, 0)) from ⟨blk_cell h.box 0, blk_cell h.box 1, blk_cell h.box 2, blk_cell h.box 3, h.bel, h.box⟩)
  clear hB8 hB2 hU
  go_upto_region 5 with fail
  go_cut [3] (fun v3 wc => v3 = .string (((B8 ++ B2) ++ id) ++ body) ∧ Aside0 (BM w wc #[.int .i64 tm, .int .i64 att, .string id, .string body]))
  case first =>
    refine wp_region_held_drew (S := fun wi : World => wi.cell? ⟨w.heap.size, 0, none⟩ = some (.int .i64 tm) ∧ wi.cell? ⟨w.heap.size, 1, none⟩ = some (.int .i64 att) ∧ wi.cell? ⟨w.heap.size, 2, none⟩ = some (.string id) ∧ wi.cell? ⟨w.heap.size, 3, none⟩ = some (.string body) ∧ Below w.heap.size w wi ∧ wi.heap[w.heap.size]? = some (.cells #[.int .i64 tm, .int .i64 att, .string id, .string body] 28 (0, 0))) (by kernel_rfl) (HK.out _ (HX.out.step (below_drew (Below.refl _ _)))) (fun hH => ?_)
    refine wpAnyH_take (i := 0) (oi := { dst := some 31, op := Go.Op.fieldAddr 28 (Go.Operand.tmp 1) 0, type := 0, pos := "nsq.go:158", after := #[], guard := none }) (v := .pointer (some ⟨w.heap.size, 0, none⟩)) rfl (by kernel_rfl) (by kernel_rfl) (by kernel_rfl) (fun _ _ _ h => h) (Or.inl ⟨by rfl, ?_⟩) (by assumption) ?_
    · intro wi hSw
      obtain ⟨hs0, hs1, hs2, hs3, -, -⟩ := hSw
      go_simp
    try simp only [Act.put, List.setIfInBounds_toArray, List.set_cons_zero, List.set_cons_succ]
    refine wpAnyH_take (i := 1) (oi := { dst := some 32, op := Go.Op.load 2 (Go.Operand.tmp 31), type := 2, pos := "nsq.go:158", after := #[{ on := 0, ground := Go.Ground.data }], guard := none }) (v := .int .i64 tm) rfl (by kernel_rfl) (by kernel_rfl) (by kernel_rfl) (fun _ _ _ h => h) (Or.inl ⟨by rfl, ?_⟩) (by assumption) ?_
    · intro wi hSw
      obtain ⟨hs0, hs1, hs2, hs3, -, -⟩ := hSw
      go_simp
    try simp only [Act.put, List.setIfInBounds_toArray, List.set_cons_zero, List.set_cons_succ]
    refine wpAnyH_take (i := 2) (oi := { dst := some 33, op := Go.Op.convert 2 39 (Go.Operand.tmp 32), type := 39, pos := "nsq.go:158", after := #[{ on := 1, ground := Go.Ground.data }], guard := none }) (v := .int .u64 U) rfl (by kernel_rfl) (by kernel_rfl) (by kernel_rfl) (fun _ _ _ h => h) (Or.inl ⟨by rfl, ?_⟩) (by assumption) ?_
    · intro wi hSw
      obtain ⟨hs0, hs1, hs2, hs3, -, -⟩ := hSw
      go_simp
    try simp only [Act.put, List.setIfInBounds_toArray, List.set_cons_zero, List.set_cons_succ]
    refine wpAnyH_take (i := 4) (oi := { dst := some 35, op := Go.Op.fieldAddr 28 (Go.Operand.tmp 1) 1, type := 0, pos := "nsq.go:158", after := #[], guard := none }) (v := .pointer (some ⟨w.heap.size, 1, none⟩)) rfl (by kernel_rfl) (by kernel_rfl) (by kernel_rfl) (fun _ _ _ h => h) (Or.inl ⟨by rfl, ?_⟩) (by assumption) ?_
    · intro wi hSw
      obtain ⟨hs0, hs1, hs2, hs3, -, -⟩ := hSw
      go_simp
    try simp only [Act.put, List.setIfInBounds_toArray, List.set_cons_zero, List.set_cons_succ]
    refine wpAnyH_take (i := 5) (oi := { dst := some 36, op := Go.Op.load 3 (Go.Operand.tmp 35), type := 3, pos := "nsq.go:158", after := #[{ on := 4, ground := Go.Ground.data }], guard := none }) (v := .int .i64 att) rfl (by kernel_rfl) (by kernel_rfl) (by kernel_rfl) (fun _ _ _ h => h) (Or.inl ⟨by rfl, ?_⟩) (by assumption) ?_
    · intro wi hSw
      obtain ⟨hs0, hs1, hs2, hs3, -, -⟩ := hSw
      go_simp
    try simp only [Act.put, List.setIfInBounds_toArray, List.set_cons_zero, List.set_cons_succ]
    refine wpAnyH_take (i := 6) (oi := { dst := some 37, op := Go.Op.convert 3 39 (Go.Operand.tmp 36), type := 39, pos := "nsq.go:158", after := #[{ on := 5, ground := Go.Ground.data }], guard := none }) (v := .int .u64 att) rfl (by kernel_rfl) (by kernel_rfl) (by kernel_rfl) (fun _ _ _ h => h) (Or.inl ⟨by rfl, ?_⟩) (by assumption) ?_
    · intro wi hSw
      obtain ⟨hs0, hs1, hs2, hs3, -, -⟩ := hSw
      go_simp
    try simp only [Act.put, List.setIfInBounds_toArray, List.set_cons_zero, List.set_cons_succ]
    refine wpAnyH_take (i := 9) (oi := { dst := some 40, op := Go.Op.fieldAddr 28 (Go.Operand.tmp 1) 2, type := 0, pos := "nsq.go:158", after := #[], guard := none }) (v := .pointer (some ⟨w.heap.size, 2, none⟩)) rfl (by kernel_rfl) (by kernel_rfl) (by kernel_rfl) (fun _ _ _ h => h) (Or.inl ⟨by rfl, ?_⟩) (by assumption) ?_
    · intro wi hSw
      obtain ⟨hs0, hs1, hs2, hs3, -, -⟩ := hSw
      go_simp
    try simp only [Act.put, List.setIfInBounds_toArray, List.set_cons_zero, List.set_cons_succ]
    refine wpAnyH_take (i := 10) (oi := { dst := some 41, op := Go.Op.load 9 (Go.Operand.tmp 40), type := 9, pos := "nsq.go:158", after := #[{ on := 9, ground := Go.Ground.data }], guard := none }) (v := .string id) rfl (by kernel_rfl) (by kernel_rfl) (by kernel_rfl) (fun _ _ _ h => h) (Or.inl ⟨by rfl, ?_⟩) (by assumption) ?_
    · intro wi hSw
      obtain ⟨hs0, hs1, hs2, hs3, -, -⟩ := hSw
      go_simp
    try simp only [Act.put, List.setIfInBounds_toArray, List.set_cons_zero, List.set_cons_succ]
    refine wpAnyH_take (i := 12) (oi := { dst := some 43, op := Go.Op.fieldAddr 28 (Go.Operand.tmp 1) 3, type := 0, pos := "nsq.go:158", after := #[], guard := none }) (v := .pointer (some ⟨w.heap.size, 3, none⟩)) rfl (by kernel_rfl) (by kernel_rfl) (by kernel_rfl) (fun _ _ _ h => h) (Or.inl ⟨by rfl, ?_⟩) (by assumption) ?_
    · intro wi hSw
      obtain ⟨hs0, hs1, hs2, hs3, -, -⟩ := hSw
      go_simp
    try simp only [Act.put, List.setIfInBounds_toArray, List.set_cons_zero, List.set_cons_succ]
    refine wpAnyH_take (i := 13) (oi := { dst := some 44, op := Go.Op.load 9 (Go.Operand.tmp 43), type := 9, pos := "nsq.go:158", after := #[{ on := 12, ground := Go.Ground.data }], guard := none }) (v := .string body) rfl (by kernel_rfl) (by kernel_rfl) (by kernel_rfl) (fun _ _ _ h => h) (Or.inl ⟨by rfl, ?_⟩) (by assumption) ?_
    · intro wi hSw
      obtain ⟨hs0, hs1, hs2, hs3, -, -⟩ := hSw
      go_simp
    try simp only [Act.put, List.setIfInBounds_toArray, List.set_cons_zero, List.set_cons_succ]
    refine wpAnyH_ready (rs := [3]) (by kernel_rfl) (by simp) ?_
    refine AllReadyH.cons (o := { dst := some 34, op := Go.Op.call { callee := Go.Callee.value (Go.Operand.func 27), args := #[Go.Operand.tmp 33, Go.Operand.const (Go.Value.int Go.IntKind.i64 8)], argTypes := #[39, 3] }, type := 9, pos := "nsq.go:158", after := #[{ on := 2, ground := Go.Ground.data }], guard := none }) rfl (fun K hK => ?_) AllReadyH.nil
    go_simp
    go_wp2_with fail
    refine (HG8.out _).mono ?_
    rintro e w2 ⟨rfl, hbn⟩
    have HX2 := Aside0.mk ((HX.out.step (below_drew (Below.refl _ _))).step hbn)
    clear hbn
    go_wp2_with fail
    refine hK.out _ _ (HK.out _ HX2.out) (fun hHn => ?_)
    clear hK K hH
    try simp only [Act.put, List.setIfInBounds_toArray, List.set_cons_zero, List.set_cons_succ]
    refine wpAnyH_ready (rs := [7]) (by kernel_rfl) (by simp) ?_
    refine AllReadyH.cons (o := { dst := some 38, op := Go.Op.call { callee := Go.Callee.value (Go.Operand.func 27), args := #[Go.Operand.tmp 37, Go.Operand.const (Go.Value.int Go.IntKind.i64 2)], argTypes := #[39, 3] }, type := 9, pos := "nsq.go:158", after := #[{ on := 6, ground := Go.Ground.data }, { on := 3, ground := Go.Ground.chain }], guard := none }) rfl (fun K hK => ?_) AllReadyH.nil
    go_simp
    go_wp2_with fail
    refine (HG2.out _).mono ?_
    rintro e w3 ⟨rfl, hbn⟩
    have HX3 := Aside0.mk (HX2.out.step hbn)
    clear hbn
    go_wp2_with fail
    refine hK.out _ _ (HK.out _ HX3.out) (fun hHm => ?_)
    clear hK K hHn
    try simp only [Act.put, List.setIfInBounds_toArray, List.set_cons_zero, List.set_cons_succ]
    refine wpAnyH_take (i := 8) (oi := { dst := some 39, op := Go.Op.binOp Go.BinOp.add 9 (Go.Operand.tmp 34) (Go.Operand.tmp 38) 9, type := 9, pos := "nsq.go:158", after := #[{ on := 3, ground := Go.Ground.data }, { on := 7, ground := Go.Ground.data }], guard := none }) (v := .string (B8 ++ B2)) rfl (by kernel_rfl) (by kernel_rfl) (by kernel_rfl) (fun _ _ _ h => h) (Or.inl ⟨by rfl, ?_⟩) (by assumption) ?_
    · intro wi hSw
      obtain ⟨hs0, hs1, hs2, hs3, -, -⟩ := hSw
      go_simp
    try simp only [Act.put, List.setIfInBounds_toArray, List.set_cons_zero, List.set_cons_succ]
    refine wpAnyH_take (i := 11) (oi := { dst := some 42, op := Go.Op.binOp Go.BinOp.add 9 (Go.Operand.tmp 39) (Go.Operand.tmp 41) 9, type := 9, pos := "nsq.go:158", after := #[{ on := 8, ground := Go.Ground.data }, { on := 10, ground := Go.Ground.data }], guard := none }) (v := .string ((B8 ++ B2) ++ id)) rfl (by kernel_rfl) (by kernel_rfl) (by kernel_rfl) (fun _ _ _ h => h) (Or.inl ⟨by rfl, ?_⟩) (by assumption) ?_
    · intro wi hSw
      obtain ⟨hs0, hs1, hs2, hs3, -, -⟩ := hSw
      go_simp
    try simp only [Act.put, List.setIfInBounds_toArray, List.set_cons_zero, List.set_cons_succ]
    refine wpAnyH_take (i := 14) (oi := { dst := some 45, op := Go.Op.binOp Go.BinOp.add 9 (Go.Operand.tmp 42) (Go.Operand.tmp 44) 9, type := 9, pos := "nsq.go:158", after := #[{ on := 11, ground := Go.Ground.data }, { on := 13, ground := Go.Ground.data }], guard := none }) (v := .string (((B8 ++ B2) ++ id) ++ body)) rfl (by kernel_rfl) (by kernel_rfl) (by kernel_rfl) (fun _ _ _ h => h) (Or.inl ⟨by rfl, ?_⟩) (by assumption) ?_
    · intro wi hSw
      obtain ⟨hs0, hs1, hs2, hs3, -, -⟩ := hSw
      go_simp
      omega
    try simp only [Act.put, List.setIfInBounds_toArray, List.set_cons_zero, List.set_cons_succ]
    refine wpAnyH_take (i := 15) (oi := { dst := some 3, op := Go.Op.assign (Go.Operand.tmp 45), type := 9, pos := "nsq.go:158", after := #[{ on := 14, ground := Go.Ground.data }, { on := 7, ground := Go.Ground.chain }, { on := 0, ground := Go.Ground.phase }, { on := 1, ground := Go.Ground.phase }, { on := 2, ground := Go.Ground.phase }, { on := 3, ground := Go.Ground.phase }, { on := 4, ground := Go.Ground.phase }, { on := 5, ground := Go.Ground.phase }, { on := 6, ground := Go.Ground.phase }, { on := 7, ground := Go.Ground.phase }, { on := 8, ground := Go.Ground.phase }, { on := 9, ground := Go.Ground.phase }, { on := 10, ground := Go.Ground.phase }, { on := 11, ground := Go.Ground.phase }, { on := 12, ground := Go.Ground.phase }, { on := 13, ground := Go.Ground.phase }, { on := 14, ground := Go.Ground.phase }], guard := none }) (v := .string (((B8 ++ B2) ++ id) ++ body)) rfl (by kernel_rfl) (by kernel_rfl) (by kernel_rfl) (fun _ _ _ h => h) (Or.inl ⟨by rfl, ?_⟩) (by assumption) ?_
    · intro wi hSw
      obtain ⟨hs0, hs1, hs2, hs3, -, -⟩ := hSw
      go_simp
    try simp only [Act.put, List.setIfInBounds_toArray, List.set_cons_zero, List.set_cons_succ]
    refine wpAnyH_done (by kernel_rfl) ?_ _
    go_wp2_with fail
    go_meet
    exact ⟨rfl, HX3⟩
  case rest =>
    obtain ⟨rfl, HX3⟩ := hcut
    rw [← HDEF.out]
    have f0 := blk_cell HX3.out.box 0
    have f1 := blk_cell HX3.out.box 1
    have f2 := blk_cell HX3.out.box 2
    have f3 := blk_cell HX3.out.box 3
    rw [HS.out] at HWR
    have heq := eql28 tm att id body
    generalize msgS U att id body = MS at *
    clear HDEF HS HK HX e0 e1 e2 e3 HG8 HG2
    go_wp2_with fail
    refine (HWR.out _).mono ?_
    rintro e w4 ⟨rfl, hb4⟩
    have HX4 := Aside0.mk (HX3.out.step hb4)
    clear hb4 HWR HX3 f0 f1 f2 f3
    go_wp2_with fail
    refine (HRD.out _).mono ?_
    rintro e w5 ⟨rfl, hb5⟩
    have HX5 := Aside0.mk (HX4.out.step hb5)
    have g0 := blk_cell (blk_alloc HX5.out.box (.cells #[.int .i64 tm, .int .i64 att, .string id, .string body] 28)) 0
    have g1 := blk_cell (blk_alloc HX5.out.box (.cells #[.int .i64 tm, .int .i64 att, .string id, .string body] 28)) 1
    have g2 := blk_cell (blk_alloc HX5.out.box (.cells #[.int .i64 tm, .int .i64 att, .string id, .string body] 28)) 2
    have g3 := blk_cell (blk_alloc HX5.out.box (.cells #[.int .i64 tm, .int .i64 att, .string id, .string body] 28)) 3
    clear hb5 HRD HX4
    go_wp2_with fail
    refine (alive_any _).mono ?_
    rintro e w6 ⟨rfl, hb⟩
    have HB6 := Aside0.mk ((below_alloc HX5.out.bel _).trans (hb.mono (below_alloc HX5.out.bel _).size))
    clear hb
    go_wp2_with fail
    go_ret
    exact ⟨rfl, HB6.out⟩
theorem FnMessageBack_row (tm att : Int) (id body : ByteArray) (w : World) (ht : (Lit.int .i64 tm).wf = true) :
    Calls Try.prog 9 #[.agg #[.int .i64 tm, .int .i64 att, .string id, .string body]] w fun e w' => e = .returned (.bool true) ∧ Below w.heap.size w w' := by
  have h := Go.bounds_i64 ht
  exact FnMessageBack_walk tm att id body w (by omega) (by omega)
end Go.Proofs.Ytnbhledkdkchlaa
