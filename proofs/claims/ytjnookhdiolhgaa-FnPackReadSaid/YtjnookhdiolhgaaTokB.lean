/- spec.token. (seat r1) -/
import Derived.Test.YtjnookhdiolhgaaTk
import Derived.Test.YtjnookhdiolhgaaUp
import Derived.RegionTactic
import Derived.BigRegion
import Derived.Laws.EntriesVeiled
namespace Go.Proofs.Ytjnookhdiolhgaa
set_option linter.unusedVariables false
set_option linter.unusedSimpArgs false
open Go.RowKit Go.Proofs.YtjnookhdiolhgaaW.PrintWords

theorem wp_gen {P : Program} {c : Code} {Q : Exit → Act → World → Prop} {a : Act} {W : World} (F : World → Prop) (hF : F W) (h : ∀ wz, F wz → c.wp P Q a wz) : c.wp P Q a W := h W hF
theorem results_cttt {P : Program} {fn : Func} {p u v x : Tmp} {ty : TypeId} (h : fn.results = #[.cell p ty, .tmp u, .tmp v, .tmp x]) (tmps : Array Value) (w : World) (g : Nat) (t : TypeId) (cs : Array Value) (fr : Nat × Nat) (d : TypeDesc)
  (hp : tmps.getD p undef = .pointer (some ⟨g, 0, none⟩)) (hg : w.heap[g]? = some (.cells cs t fr))
  (hu : P.underlying ty = some d) (hd : (match d with | .struct _ | .array _ _ => true | _ => false) = true) (hi : (P.info? ty).map (·.size) = some cs.size) :
  (results fn tmps).run P w = .ok (.tuple #[.agg cs, tmps.getD u undef, tmps.getD v undef, tmps.getD x undef]) w := by
 have hp' : tmps[p]?.getD undef = .pointer (some ⟨g, 0, none⟩) := by simpa using hp
 simp only [results, h]
 simp [Sem.run_bind, Result.andThen, hp', asAddr, run_loadVar_row w g t ty cs fr d hg hu hd hi]
theorem and15 (m : Int) (h0 : 0 ≤ m) (h1 : m ≤ 255) : bits BinOp.and IntKind.u8 m 15 = m % 16 := by
 have h : ∀ k : Fin 256, bits BinOp.and IntKind.u8 ((k.val : Nat) : Int) 15 = ((k.val : Nat) : Int) % 16 := by decide +kernel
 have := h ⟨m.toNat, by omega⟩
 simpa [Int.toNat_of_nonneg h0] using this
set_option maxHeartbeats 4000000 in
set_option maxRecDepth 100000 in
theorem token_nil (w : World) : Calls Try.prog 58 #[.string ⟨#[]⟩] w fun e w' => TokR .bad w e w' := by
 go_enter Try.func58, Try.ntmps58
 go_wp2_with fail
 have hb : ((w.alloc (.cells #[.string ⟨#[]⟩] 9)).alloc (.cells (B57 tk0) 57)).heap[w.heap.size + 1]? = some (.cells (B57 tk0) 57 (0, 0)) := by
  have := heap_alloc_new (w.alloc (.cells #[.string ⟨#[]⟩] 9)) (.cells (B57 tk0) 57)
  rwa [World.size_alloc] at this
 refine bodyPost_ret (results_cttt rfl _ _ (w.heap.size + 1) 57 (B57 tk0) (0, 0) _ rfl hb Try.underlying57 rfl (by kernel_rfl)) rfl ?_
 exact ⟨below_alloc (below_alloc (Below.refl _ _) _) _, tk0, ⟨#[]⟩, rfl, rfl⟩
theorem six_boxes (w : World) (a b c d e f : Obj) : ((((((w.alloc a).alloc b).alloc c).alloc d).alloc e).alloc f).heap[w.heap.size]? = some a ∧ ((((((w.alloc a).alloc b).alloc c).alloc d).alloc e).alloc f).heap[w.heap.size + 1]? = some b ∧
  ((((((w.alloc a).alloc b).alloc c).alloc d).alloc e).alloc f).heap[w.heap.size + 1 + 1]? = some c ∧ ((((((w.alloc a).alloc b).alloc c).alloc d).alloc e).alloc f).heap[w.heap.size + 1 + 1 + 1]? = some d ∧
  ((((((w.alloc a).alloc b).alloc c).alloc d).alloc e).alloc f).heap[w.heap.size + 1 + 1 + 1 + 1]? = some e ∧ ((((((w.alloc a).alloc b).alloc c).alloc d).alloc e).alloc f).heap[w.heap.size + 1 + 1 + 1 + 1 + 1]? = some f := by
 have z1 : (w.alloc a).heap.size = w.heap.size + 1 := World.size_alloc ..
 have z2 : ((w.alloc a).alloc b).heap.size = w.heap.size + 1 + 1 := by rw [World.size_alloc, z1]
 have z3 : (((w.alloc a).alloc b).alloc c).heap.size = w.heap.size + 1 + 1 + 1 := by rw [World.size_alloc, z2]
 have z4 : ((((w.alloc a).alloc b).alloc c).alloc d).heap.size = w.heap.size + 1 + 1 + 1 + 1 := by rw [World.size_alloc, z3]
 have z5 : (((((w.alloc a).alloc b).alloc c).alloc d).alloc e).heap.size = w.heap.size + 1 + 1 + 1 + 1 + 1 := by rw [World.size_alloc, z4]
 refine ⟨?_, ?_, ?_, ?_, ?_, ?_⟩
 ·rw [Below.heap_alloc _ _ _ (by omega), Below.heap_alloc _ _ _ (by omega), Below.heap_alloc _ _ _ (by omega), Below.heap_alloc _ _ _ (by omega), Below.heap_alloc _ _ _ (by omega)]
  exact heap_alloc_new w _
 ·rw [Below.heap_alloc _ _ _ (by omega), Below.heap_alloc _ _ _ (by omega), Below.heap_alloc _ _ _ (by omega), Below.heap_alloc _ _ _ (by omega), ← z1]
  exact heap_alloc_new _ _
 ·rw [Below.heap_alloc _ _ _ (by omega), Below.heap_alloc _ _ _ (by omega), Below.heap_alloc _ _ _ (by omega), ← z2]
  exact heap_alloc_new _ _
 ·rw [Below.heap_alloc _ _ _ (by omega), Below.heap_alloc _ _ _ (by omega), ← z3]
  exact heap_alloc_new _ _
 ·rw [Below.heap_alloc _ _ _ (by omega), ← z4]
  exact heap_alloc_new _ _
 ·rw [← z5]
  exact heap_alloc_new _ _
theorem six_below (w : World) (a b c d e f : Obj) : Below w.heap.size w ((((((w.alloc a).alloc b).alloc c).alloc d).alloc e).alloc f) := below_alloc (below_alloc (below_alloc (below_alloc (below_alloc (below_alloc (Below.refl _ _) _) _) _) _) _) _
theorem fill57 {w : World} {g : Nat} {t t2 : TKN} (h : w.heap[g]? = some (.cells (B57 t) 57 (0, 0))) :
  ((((((((w.setCell ⟨g, 0, none⟩ (.int .i64 t2.c)).setCell ⟨g, 1, none⟩ (.bool t2.b)).setCell ⟨g, 2, none⟩ (.int .i64 t2.i)).setCell ⟨g, 3, none⟩ (.int .u64 t2.f)).setCell ⟨g, 4, none⟩ (.string t2.s)).setCell ⟨g, 5, none⟩ (.int .u32 t2.n)).setCell ⟨g, 6, none⟩ (.int .i64 t2.g)).drew).heap[g]? = some (.cells (B57 t2) 57 (0, 0)) := by
 unfold B57 at h ⊢
 have p0 := blk_put (cs' := #[.int .i64 t2.c, .bool t.b, .int .i64 t.i, .int .u64 t.f, .string t.s, .int .u32 t.n, .int .i64 t.g]) h 0 (.int .i64 t2.c) rfl
 have p1 := blk_put (cs' := #[.int .i64 t2.c, .bool t2.b, .int .i64 t.i, .int .u64 t.f, .string t.s, .int .u32 t.n, .int .i64 t.g]) p0 1 (.bool t2.b) rfl
 have p2 := blk_put (cs' := #[.int .i64 t2.c, .bool t2.b, .int .i64 t2.i, .int .u64 t.f, .string t.s, .int .u32 t.n, .int .i64 t.g]) p1 2 (.int .i64 t2.i) rfl
 have p3 := blk_put (cs' := #[.int .i64 t2.c, .bool t2.b, .int .i64 t2.i, .int .u64 t2.f, .string t.s, .int .u32 t.n, .int .i64 t.g]) p2 3 (.int .u64 t2.f) rfl
 have p4 := blk_put (cs' := #[.int .i64 t2.c, .bool t2.b, .int .i64 t2.i, .int .u64 t2.f, .string t2.s, .int .u32 t.n, .int .i64 t.g]) p3 4 (.string t2.s) rfl
 have p5 := blk_put (cs' := #[.int .i64 t2.c, .bool t2.b, .int .i64 t2.i, .int .u64 t2.f, .string t2.s, .int .u32 t2.n, .int .i64 t.g]) p4 5 (.int .u32 t2.n) rfl
 have p6 := blk_put (cs' := #[.int .i64 t2.c, .bool t2.b, .int .i64 t2.i, .int .u64 t2.f, .string t2.s, .int .u32 t2.n, .int .i64 t2.g]) p5 6 (.int .i64 t2.g) rfl
 rw [drew_heap]
 exact p6
theorem fill57n {w : World} {g : Nat} {t t2 : TKN} (h : w.heap[g]? = some (.cells (B57 t) 57 (0, 0))) :
  (((((((w.setCell ⟨g, 0, none⟩ (.int .i64 t2.c)).setCell ⟨g, 1, none⟩ (.bool t2.b)).setCell ⟨g, 2, none⟩ (.int .i64 t2.i)).setCell ⟨g, 3, none⟩ (.int .u64 t2.f)).setCell ⟨g, 4, none⟩ (.string t2.s)).setCell ⟨g, 5, none⟩ (.int .u32 t2.n)).setCell ⟨g, 6, none⟩ (.int .i64 t2.g)).heap[g]? = some (.cells (B57 t2) 57 (0, 0)) := by
 have := fill57 (t2 := t2) h
 rwa [drew_heap] at this
theorem bytes_first (s : ByteArray) (h : 0 < s.size) : bytesOf s = ((s[0]'h).toNat : Int) :: (bytesOf s).drop 1 := by
 obtain ⟨⟨l⟩⟩ := s
 cases l with
 | nil => exact absurd h (by decide)
 | cons a r => rfl
theorem sized_range {k : Nat} {l : List Int} {n : Int} {r : List Int} (h : sizedN k l = some (n, r)) (hb : Bytes l) : 0 ≤ n ∧ n < 256 ^ k := by
 unfold sizedN at h
 split at h
 ·cases h
 ·rename_i hk
  injection h with h
  have e := congrArg Prod.fst h
  simp only at e
  have hr := be_range (l.take k) (fun x hx => hb x (List.mem_of_mem_take hx))
  rw [List.length_take, Nat.min_eq_left (by omega)] at hr
  rw [← e]
  exact hr
theorem shift1 (n : Int) (h0 : 0 ≤ n) (h1 : n < 256 ^ 1) : wrap64 (IntKind.u64.wrap (n * 72057594037927936)) / 72057594037927936 = IntKind.i8.wrap n := by
 rw [IntKind.wrap_u64, wrap_i8']
 unfold wrap64
 omega
theorem shift2 (n : Int) (h0 : 0 ≤ n) (h1 : n < 256 ^ 2) : wrap64 (IntKind.u64.wrap (n * 281474976710656)) / 281474976710656 = IntKind.i16.wrap n := by
 rw [IntKind.wrap_u64, wrap_i16']
 unfold wrap64
 omega
theorem shift4 (n : Int) (h0 : 0 ≤ n) (h1 : n < 256 ^ 4) : wrap64 (IntKind.u64.wrap (n * 4294967296)) / 4294967296 = IntKind.i32.wrap n := by
 rw [IntKind.wrap_u64, IntKind.wrap_i32]
 unfold wrap64
 omega
theorem shift8 (n : Int) (h0 : 0 ≤ n) (h1 : n < 256 ^ 8) : IntKind.u64.wrap n = n := by
 rw [IntKind.wrap_u64]
 omega
theorem wrap_i64_64 (n : Int) : IntKind.i64.wrap n = wrap64 n := by
 rw [IntKind.wrap_i64]
 unfold wrap64
 omega
theorem str_bytes (s : ByteArray) : strOfNums (bytesOf s) = s := strOfNums_bytesOf s
theorem wrap_i32_32 (n : Int) : IntKind.i32.wrap n = wrap32 n := by
 rw [IntKind.wrap_i32]
 unfold wrap32
 omega
theorem toList_len (s : ByteArray) : s.toList.length = s.size := by
 rw [ByteArray.toList_eq]
 rfl
end Go.Proofs.Ytjnookhdiolhgaa
