/- MPUB: a length laid into an array of four bytes. (seat r2.D) MPUB: a row of rows of bytes. (seat r2.D) -/
import Derived.Test.YtnbhledkdkchlaaDoorGc
import Derived.Test.YtnbhledkdkchlaaDoorGb
import Derived.Test.YtnbhledkdkchlaaDoorPsourcePutUint32
namespace Go.Proofs.YtnbhledkdkchlaaDoor
set_option linter.unusedVariables false
set_option linter.unusedSimpArgs false
open Go.RowKit Go.Proofs.YtnbhledkdkchlaaDoorW.PrintWords

/-- Bodies, each behind its length, as numbers. -/
def mpL (l : List ByteArray) (acc : List Int) : List Int := l.foldl (fun a b => a ++ (be4 (b.size : Int) ++ bytesOf b)) acc
theorem strn_append (a b : List Int) : strOfNums (a ++ b) = strOfNums a ++ strOfNums b := by
  unfold strOfNums
  rw [List.map_append]
  exact (ba_append _ _).symm
theorem mpL_str (l : List ByteArray) (acc : List Int) : strOfNums (mpL l acc) = mpB l (strOfNums acc) := by
  induction l generalizing acc with
  | nil => rfl
  | cons a r ih =>
    show strOfNums (mpL r (acc ++ (be4 (a.size : Int) ++ bytesOf a))) = mpB r (strOfNums acc ++ szd a)
    rw [ih, strn_append, strn_append, str_bytes]
    rfl
theorem mpL_take {l : List ByteArray} {j : Nat} {x : ByteArray} (h : l[j]? = some x) (acc : List Int) : mpL (l.take (j + 1)) acc = mpL (l.take j) acc ++ be4 (x.size : Int) ++ bytesOf x := by
  unfold mpL
  rw [List.take_add_one, h, Option.toList_some, List.foldl_append, List.append_assoc]
  rfl
theorem mpL_length (l : List ByteArray) (h : ∀ s ∈ l, s.size ≤ 100) (acc : List Int) : (mpL l acc).length ≤ acc.length + 104 * l.length := by
  induction l generalizing acc with
  | nil => exact Nat.le_refl _
  | cons a r ih =>
    have h1 := ih (fun s hs => h s (by simp [hs])) (acc ++ (be4 (a.size : Int) ++ bytesOf a))
    have h2 := h a (by simp)
    rw [List.length_append, List.length_append, bytesOf_length] at h1
    have e : mpL (a :: r) acc = mpL r (acc ++ (be4 (a.size : Int) ++ bytesOf a)) := rfl
    rw [e]
    have h3 : (be4 (a.size : Int)).length = 4 := rfl
    rw [List.length_cons]
    omega
set_option maxHeartbeats 4000000 in
set_option maxRecDepth 100000 in
theorem putU_any (g c t : Nat) (a0 a1 a2 a3 : Value) (n : Int) (w : World) (hb : w.heap[g]? = some (.cells #[a0, a1, a2, a3] t (0, 0))) (h0 : 0 ≤ n) (h1 : n < 4294967296) :
    Calls Tryd.prog 34 #[.slice (some ⟨g, 0, none⟩) 4 c, .int .u32 n] w fun e w' => e = .returned (.tuple #[]) ∧ w' = (((w.setCell ⟨g, 0, none⟩ (.int .u8 (n / 16777216 % 256))).setCell ⟨g, 1, none⟩ (.int .u8 (n / 65536 % 256))).setCell ⟨g, 2, none⟩ (.int .u8 (n / 256 % 256))).setCell ⟨g, 3, none⟩ (.int .u8 (n % 256)) := by
  obtain ⟨c0, c1, c2, c3⟩ := And.intro (blk_cell hb 0) (And.intro (blk_cell hb 1) (And.intro (blk_cell hb 2) (blk_cell hb 3)))
  have f0 := blk_frozen hb 0
  have f1 := blk_frozen hb 1
  have f2 := blk_frozen hb 2
  have f3 := blk_frozen hb 3
  clear hb
  go_enter Tryd.func34, Tryd.ntmps34
  go_wp2_with fail
  go_end0
  exact ⟨rfl, by rw [show n / 16777216 % 256 = n / 16777216 by omega]⟩

/-- make([]byte, 4, t). -/
theorem mk_buf (W : World) (t : Nat) (h4 : 4 ≤ t) (ht : t ≤ 100000) : ∃ C : Array Value, (Instr.makeSlice 42 (.int .i64 4) (.int .i64 (t : Int))).run Tryd.prog W = .ok (.slice (some ⟨W.heap.size, 0, none⟩) 4 t) (W.alloc (.cells C 5)) ∧
    (W.alloc (.cells C 5)).ownsRow W.heap.size 5 1 (.slice (some ⟨W.heap.size, 0, none⟩) 4 t) 4 (nums .u8 [0, 0, 0, 0]) := by
  obtain ⟨i0, hi, hzz⟩ := Option.map_eq_some_iff.1 PAll.info5
  simp only [Prod.mk.injEq] at hzz
  obtain ⟨hz0, hz1, hz2⟩ := hzz
  have hr := run_make (P := Tryd.prog) W 42 5 i0 (.int .u8 0) Tryd.underlying42 hi hz0 .i64 .i64 4 (t : Int) (by omega) (by omega) (by rw [hz2]; omega) (by omega)
  refine ⟨_, hr, ?_⟩
  have hcs : madeCells (Value.int .u8 0).cells ((t : Int).toNat * i0.size) = (List.replicate t (Value.int .u8 0)).toArray := by
    rw [hz1, Int.toNat_natCast, Nat.mul_one]
    unfold madeCells
    apply Array.ext
    · simp
    · intro i h1 h2
      simp [Value.cells, Nat.mod_one]
  rw [hcs]
  have h1 := World.ownsRow_lit (base := W.heap.size) (e := 5) (size := 1) W (List.replicate t (Value.int .u8 0)).toArray t (Nat.le_refl _) (by simp [maxLen]; omega) (by simp)
  have h2 := own_take (m := 4) h1 h4
  have h3 : ((List.replicate t (Value.int .u8 0)).toArray.toList.take (4 * 1)) = nums .u8 [0, 0, 0, 0] := by
    obtain ⟨k, rfl⟩ : ∃ k, t = k + 1 + 1 + 1 + 1 := ⟨t - 4, by omega⟩
    simp [nums, List.replicate_succ]
  rw [h3] at h2
  exact h2
/-- What the loop over bodies holds. -/
structure ML (WW wr : World) (v : Value) (xs : List Int) : Prop where
  bw : Below WW.heap.size WW wr
  buf : wr.ownsRow WW.heap.size 5 1 v xs.length (nums .u8 xs)
theorem ML.below {WW wr wj : World} {v : Value} {xs : List Int} (h : ML WW wr v xs) (hb : Below wr.heap.size wr wj) : ML WW wj v xs :=
  ⟨h.bw.trans (hb.mono h.bw.size), pw_own_below h.buf hb⟩
theorem ML.more {WW wr wj : World} {v v2 : Value} {xs ys zs : List Int} (h : ML WW wr v xs) (he : xs ++ ys = zs) (ho : wj.ownsRow WW.heap.size 5 1 v2 (xs ++ ys).length (nums .u8 (xs ++ ys))) (hb : Below WW.heap.size wr wj) : ML WW wj v2 zs := by
  subst he
  exact ⟨h.bw.trans hb, ho⟩
theorem own_old {w : World} {B b : Nat} {v : Value} {xs : List Int} (h : w.ownsRow B 5 1 v xs.length (nums .u8 xs)) (hb : b < B) : some b ≠ v.ownBlock := by
  rcases h.2 with ⟨rfl, _⟩ | ⟨g, cap, cur, rfl, hg, _⟩
  · simp [Value.ownBlock]
  · intro he
    have : b = g := by simpa [Value.ownBlock] using he
    omega
theorem quad_reads {w : World} {g : Nat} {n : Int} (hb : w.heap[g]? = some (.cells #[.int .u8 (n / 16777216 % 256), .int .u8 (n / 65536 % 256), .int .u8 (n / 256 % 256), .int .u8 (n % 256)] 73 (0, 0))) : ReadsInt w .u8 (some ⟨g, 0, none⟩) 4 (be4 n) := by
  refine ⟨rfl, by decide, fun _ => ⟨_, rfl, fun j hj => ?_⟩⟩
  rw [add_plain]
  refine (blk_cell hb j).trans ?_
  match j, hj with
  | 0, _ => rfl
  | 1, _ => rfl
  | 2, _ => rfl
  | 3, _ => rfl
theorem putN_any (wr : World) (n : Int) (h0 : 0 ≤ n) (h1 : n < 4294967296) :
    Calls Tryd.prog 34 #[.slice (some ⟨wr.heap.size, 0, none⟩) 4 4, .int .u32 n] (wr.alloc (.cells #[.int .u8 0, .int .u8 0, .int .u8 0, .int .u8 0] 73)) fun e w' => e = .returned (.tuple #[]) ∧ Below wr.heap.size wr w' ∧ w'.heap[wr.heap.size]? = some (.cells #[.int .u8 (n / 16777216 % 256), .int .u8 (n / 65536 % 256), .int .u8 (n / 256 % 256), .int .u8 (n % 256)] 73 (0, 0)) := by
  refine (putU_any wr.heap.size 4 73 _ _ _ _ n _ (heap_alloc_new wr _) h0 h1).mono ?_
  rintro e w' ⟨rfl, rfl⟩
  have hl := Nat.le_refl wr.heap.size
  refine ⟨rfl, below_set (below_set (below_set (below_set (below_alloc (Below.refl _ _) _) hl) hl) hl) hl, ?_⟩
  exact blk_put (blk_put (blk_put (blk_put (cs' := #[.int .u8 (n / 16777216 % 256), .int .u8 0, .int .u8 0, .int .u8 0]) (heap_alloc_new wr _) 0 _ rfl) (cs' := #[.int .u8 (n / 16777216 % 256), .int .u8 (n / 65536 % 256), .int .u8 0, .int .u8 0]) 1 _ rfl) (cs' := #[.int .u8 (n / 16777216 % 256), .int .u8 (n / 65536 % 256), .int .u8 (n / 256 % 256), .int .u8 0]) 2 _ rfl) 3 _ rfl
theorem strn_size (l : List Int) : (strOfNums l).size = l.length := by
  unfold strOfNums
  show (List.map _ l).toArray.size = _
  simp
theorem bytes_str (xs : List Int) (h : ∀ y ∈ xs, 0 ≤ y ∧ y < 256) : bytesOf (strOfNums xs) = xs := by
  induction xs with
  | nil => rfl
  | cons a r ih =>
    have h1 := h a (by simp)
    have e : bytesOf (strOfNums (a :: r)) = ((a.toNat.toUInt8.toNat : Nat) : Int) :: bytesOf (strOfNums r) := rfl
    have e2 : ((a.toNat.toUInt8.toNat : Nat) : Int) = a := by
      have : a.toNat.toUInt8.toNat = a.toNat % 256 := by simp [Nat.toUInt8]
      omega
    rw [e, e2, ih (fun y hy => h y (by simp [hy]))]
theorem be4_rng (n : Int) : ∀ y ∈ be4 n, 0 ≤ y ∧ y < 256 := by
  intro y hy
  simp only [be4, List.mem_cons, List.not_mem_nil, or_false] at hy
  omega
theorem mpL_rng (l : List ByteArray) (acc : List Int) (h : ∀ y ∈ acc, 0 ≤ y ∧ y < 256) : ∀ y ∈ mpL l acc, 0 ≤ y ∧ y < 256 := by
  induction l generalizing acc with
  | nil => exact h
  | cons a r ih =>
    refine ih (acc ++ (be4 (a.size : Int) ++ bytesOf a)) ?_
    intro y hy
    rcases List.mem_append.1 hy with hy | hy
    · exact h y hy
    · rcases List.mem_append.1 hy with hy | hy
      · exact be4_rng _ y hy
      · unfold bytesOf at hy
        obtain ⟨b, _, rfl⟩ := List.mem_map.1 hy
        have := b.toNat_lt
        omega
theorem mpL_pos (l : List ByteArray) (acc : List Int) (h : 0 < acc.length) : 0 < (mpL l acc).length := by
  induction l generalizing acc with
  | nil => exact h
  | cons a r ih => exact ih (acc ++ (be4 (a.size : Int) ++ bytesOf a)) (by rw [List.length_append]; omega)
theorem buf_text {w : World} {B n c : Nat} {A : Option Addr} {xs : List Int} (h : w.ownsRow B 5 1 (.slice A n c) xs.length (nums .u8 xs)) (hp : 0 < xs.length) (hr : ∀ y ∈ xs, 0 ≤ y ∧ y < 256) : ∃ g, A = some ⟨g, 0, none⟩ ∧ TA w g (strOfNums xs) := by
  obtain ⟨A', c', he, hrd⟩ := own_reads h
  injection he with e1 e2 e3
  subst e1
  rcases h.2 with ⟨_, h0⟩ | ⟨g, cap, cur, he, hg, hh, _⟩
  · omega
  · injection he with e1
    subst e1
    refine ⟨g, rfl, ?_, (Array.getElem?_eq_some_iff.1 hh).1⟩
    rw [bytes_str xs hr, strn_size]
    exact hrd
theorem MkC.lit2 {w P : World} {cp nb n nc m cc : Nat} {Ap : Option Addr} {vb : Value} {C : Array Value} {fr : Nat × Nat} {name : ByteArray} {ps : List ByteArray} {body : Option ByteArray} (hb : Below w.heap.size w P) (hcp : cp = P.heap.size + 1) (hnb : nb = P.heap.size)
    (hC : C = litC name) (hn : n = name.size) (hnz : name.size ≤ 1000000) (hm : m = ps.length) (hp : PsAt P Ap ps)
    (hbd : match body with
    | none => vb = .slice none 0 0
    | some s => ∃ bb bc, vb = .slice (some ⟨bb, 0, none⟩) s.size bc ∧ TA P bb s) :
    ∃ cp', (Ending.returned (.tuple #[.pointer (some ⟨cp, 0, none⟩), .nilIface])) = .returned (.tuple #[.pointer (some ⟨cp', 0, none⟩), .nilIface]) ∧ Below w.heap.size w ((P.alloc (.cells C 5 fr)).alloc (.cells #[.slice (some ⟨nb, 0, none⟩) n nc, .slice Ap m cc, vb] 70)) ∧
      CR ((P.alloc (.cells C 5 fr)).alloc (.cells #[.slice (some ⟨nb, 0, none⟩) n nc, .slice Ap m cc, vb] 70)) cp' name ps body := by
  obtain ⟨cp', he, h1, h2⟩ := MkC.lit (nc := nc) (cc := cc) (fr := fr) hb hcp hnb hC hn hnz hm hp hbd
  injection he with he
  injection he with he
  injection he with he
  injection he with he
  subst he
  exact ⟨cp, rfl, h1, h2⟩
set_option maxHeartbeats 4000000 in
set_option maxRecDepth 100000 in
theorem multi_any (topic : ByteArray) (Ab : Option Addr) (cb : Nat) (bodies : List ByteArray) (w : World) (hz : topic.size ≤ 100) (hl : bodies.length ≤ 8) (hall : ∀ s ∈ bodies, s.size ≤ 100) (hp : PsAt w Ab bodies) :
    Calls Tryd.prog 19 #[.string topic, .slice Ab bodies.length cb] w fun e w' => ∃ cp, e = .returned (.tuple #[.pointer (some ⟨cp, 0, none⟩), .nilIface]) ∧ Below w.heap.size w w' ∧ CR w' cp ⟨#[77, 80, 85, 66]⟩ [topic] (some (mpB bodies (strOfNums (be4 bodies.length)))) := by
  have hbs := fun w s => print_bytes (P := Tryd.prog) 9 42 5 Tryd.underlying9 Tryd.underlying42 Tryd.underlying5 s w
  have hcv := fun (w : World) (C : Array Value) (n c g : Nat) (hg : g = w.heap.size) => Joins.run_convert_bytes_const_at (P := Tryd.prog) w 42 5 C n c g hg Tryd.underlying42 Tryd.underlying5
  have HP := Aside0.mk hp
  have HALL := Aside0.mk hall
  have hlb : (bodies.length : Int) ≤ 8 := by omega
  obtain ⟨TB, hTB⟩ : ∃ TB, mpB bodies (strOfNums (be4 bodies.length)) = TB := ⟨_, rfl⟩
  rw [hTB]
  have HTB := Aside0.mk hTB
  have hb1 : Below w.heap.size w (Lib.bytesWorld w 5 topic) := bytes_below (Below.refl _ _) (Nat.le_refl _) 5 topic
  have HB1 := Aside0.mk hb1
  have HPS := Aside0.mk (PsAt.one (heap_alloc_new (Lib.bytesWorld w 5 topic) (.cells #[.slice (some ⟨w.heap.size, 0, none⟩) topic.size (grownCap w topic.size 0 5)] 42)) ((TA.new w topic (by omega)).below (below_alloc (Below.refl _ _) _)))
  clear hp hall hTB hb1
  go_enter Tryd.func19, Tryd.ntmps19
  go_wp2_with fail
  go_loopg [8, 10, 23] bodies.length (fun gk v8 v10 v23 wr => ∃ (j t : Nat) (vs : Value), v8 = .int .i64 t ∧ v10 = vs ∧ v23 = .int .i64 j ∧ Aside0 (j ≤ bodies.length ∧ gk = bodies.length - j) ∧ Aside0 (4 ≤ t ∧ t ≤ 4 + 104 * j) ∧ wr = (Lib.bytesWorld w 5 topic).alloc (.cells #[.slice (some ⟨w.heap.size, 0, none⟩) topic.size (grownCap w topic.size 0 5)] 42))
  case atStart => exact ⟨0, 4, _, rfl, rfl, rfl, ⟨by omega⟩, ⟨by omega⟩, rfl⟩
  case round =>
    obtain ⟨j, t, vs, rfl, rfl, rfl, HJ, HT, rfl⟩ := hrel
    have hlt := HT.out
    by_cases hj : j < bodies.length
    · obtain ⟨x, hx⟩ : ∃ x, bodies[j]? = some x := ⟨_, List.getElem?_eq_getElem hj⟩
      obtain ⟨pb, sb, sc, hA, hpb, hcx, hta⟩ := HP.out j x hx
      obtain ⟨ad, had⟩ : ∃ ad : Addr, ad = ⟨pb, 0, none⟩ := ⟨_, rfl⟩
      have hcx2 : ((Lib.bytesWorld w 5 topic).alloc (.cells #[.slice (some ⟨w.heap.size, 0, none⟩) topic.size (grownCap w topic.size 0 5)] 42)).cell? (ad.add j) = some (.slice (some ⟨sb, 0, none⟩) x.size sc) := by
        rw [had, add_plain]
        exact pw_cell_below (below_alloc HB1.out _) hcx
      rw [← had] at hA
      subst hA
      have hxz := HALL.out x (List.mem_of_getElem? hx)
      have hw := (nat_i64 (t + (x.size + 4)) (by omega)).2
      clear hx hcx hta had
      generalize hWW : (Lib.bytesWorld w 5 topic).alloc (.cells #[.slice (some ⟨w.heap.size, 0, none⟩) topic.size (grownCap w topic.size 0 5)] 42) = WW at *
      have HWW := Aside0.mk hWW
      clear hWW
      go_wp2_with fail
      go_roundg (bodies.length - (j + 1))
      case measure => have := HJ.out.2; omega
      case rel => exact ⟨j + 1, t + (x.size + 4), _, by go_num, rfl, by go_num, ⟨by omega⟩, ⟨by omega⟩, rfl⟩
    · have hje : j = bodies.length := by have := HJ.out.1; omega
      subst hje
      obtain ⟨WW, hWW⟩ : ∃ WW, ((Lib.bytesWorld w 5 topic).alloc (.cells #[.slice (some ⟨w.heap.size, 0, none⟩) topic.size (grownCap w topic.size 0 5)] 42)) = WW := ⟨_, rfl⟩
      have hwz : (Lib.bytesWorld w 5 topic).heap.size + 1 = WW.heap.size := by rw [← hWW, World.size_alloc]
      have hps : PsAt WW (some ⟨(Lib.bytesWorld w 5 topic).heap.size, 0, none⟩) [topic] := by rw [← hWW]; exact HPS.out
      have hbw : Below w.heap.size w WW := by rw [← hWW]; exact below_alloc HB1.out _
      obtain ⟨C, hmk, hown⟩ := mk_buf WW t (by omega) (by omega)
      have hRb : (Kd.int .u8).R 5 (WW.alloc (.cells C 5)) WW.heap.size (fun q => WW.heap.size ≤ q) (.slice (some ⟨WW.heap.size, 0, none⟩) 4 t) [0, 0, 0, 0] := by
        refine Kd.R_of_own hown ?_
        intro k hk
        have h : WW.heap.size = k := by simpa [Value.ownBlock] using hk
        exact Nat.le_of_eq h
      have hpu := PAll.source_PutUint32.calls (fun q => WW.heap.size ≤ q) (.slice (some ⟨WW.heap.size, 0, none⟩) 4 t) [0, 0, 0, 0] (bodies.length : Int) (be4 (bodies.length : Int)) WW (WW.alloc (.cells C 5)) (below_alloc (Below.refl _ _) _) hRb rfl
      have HPU := Aside0.mk hpu
      have HW := Aside0.mk (And.intro hps (And.intro hbw hwz))
      have hu32 : IntKind.u32.wrap ((bodies.length : Nat) : Int) = (bodies.length : Int) := by rw [IntKind.wrap_u32]; omega
      rw [hWW]
      clear hps hbw hwz hpu hown
      go_wp2_with fail
      refine HPU.out.mono ?_
      rintro e w2 ⟨rfl, hR, hb2, hk2⟩
      have HML0 := Aside0.mk (show ML WW w2 (.slice (some ⟨WW.heap.size, 0, none⟩) 4 t) (be4 (bodies.length : Int)) from ⟨hb2, Kd.own_of_R hR⟩)
      clear hR hb2 hk2 HPU hlt hmk HT
      go_wp2_with fail
      go_loopg [11, 13, 14, 40] bodies.length (fun gk v11 v13 v14 v40 wr => ∃ (j : Nat) (vs vt v : Value), v11 = v ∧ v13 = vs ∧ v14 = vt ∧ v40 = .int .i64 j ∧ Aside0 (j ≤ bodies.length ∧ gk = bodies.length - j) ∧ Aside0 (ML WW wr v (mpL (bodies.take j) (be4 (bodies.length : Int)))))
      case atStart => exact ⟨0, _, _, _, rfl, rfl, rfl, rfl, ⟨by omega⟩, ⟨by simpa [mpL] using HML0.out⟩⟩
      case round =>
        clear HML0
        obtain ⟨j, vs, vt, v, rfl, rfl, rfl, rfl, HJ2, HM⟩ := hrel
        obtain ⟨A1, c1, rfl⟩ := own_slice HM.out.buf
        by_cases hj2 : j < bodies.length
        · obtain ⟨x, hx⟩ : ∃ x, bodies[j]? = some x := ⟨_, List.getElem?_eq_getElem hj2⟩
          obtain ⟨qb, sb, sc, hA, hqb, hcx, hta⟩ := HP.out j x hx
          have hbel := HW.out.2.1.trans (HM.out.bw.mono HW.out.2.1.size)
          obtain ⟨ad, had⟩ : ∃ ad : Addr, ad = ⟨qb, 0, none⟩ := ⟨_, rfl⟩
          have hcx2 : wr.cell? (ad.add j) = some (.slice (some ⟨sb, 0, none⟩) x.size sc) := by
            rw [had, add_plain]
            exact pw_cell_below hbel hcx
          rw [← had] at hA
          subst hA
          have hxz := HALL.out x (List.mem_of_getElem? hx)
          have hxi : (x.size : Int) ≤ 100 := by omega
          have HTA := Aside0.mk (And.intro (hta.below hbel) hta.2)
          have HTK := Aside0.mk (mpL_take hx (be4 (bodies.length : Int)))
          have hlen := mpL_length (bodies.take j) (fun s hs => HALL.out s (List.mem_of_mem_take hs)) (be4 (bodies.length : Int))
          rw [List.length_take] at hlen
          have hb4 : (be4 (bodies.length : Int)).length = 4 := rfl
          have HPX := Aside0.mk (putN_any wr (x.size : Int) (by omega) (by omega))
          generalize mpL (bodies.take j) (be4 (bodies.length : Int)) = xs at *
          have hxl : xs.length ≤ 2000 := by omega
          have hbl : (bytesOf x).length = x.size := bytesOf_length x
          have hszr := HM.out.bw.size
          clear hx hcx hta had hlen hb4 hbel
          have hw1 : IntKind.i32.wrap ((x.size : Nat) : Int) = (x.size : Int) := by rw [IntKind.wrap_i32]; omega
          have hw2 : IntKind.u32.wrap ((x.size : Nat) : Int) = (x.size : Int) := by rw [IntKind.wrap_u32]; omega
          go_wp2_with fail
          refine HPX.out.mono ?_
          rintro e w3 ⟨rfl, hb3, hbx3⟩
          have HM3 := Aside0.mk (HM.out.below hb3)
          have HTA3 := Aside0.mk (HTA.out.1.below hb3)
          have HRD3 := Aside0.mk (quad_reads hbx3)
          have hs3 := hb3.size
          have hbase3 : WW.heap.size ≤ w3.heap.size := by omega
          have hl1 : (xs.length + 4) * 1 ≤ 140737488355328 := by omega
          clear hb3 hbx3 HPX
          go_wp2_with (first
            | (at_builtin; refine print_append_row (w0 := w3) WW.heap.size rfl (.tmp 50) (.tmp 51) 42 5 .u8 1 rfl Tryd.underlying42 PAll.info5 (by decide) (.slice A1 xs.length c1) xs (be4 (x.size : Int)) (some ⟨wr.heap.size, 0, none⟩) 4 4 rfl rfl HM3.out.buf HRD3.out (Below.refl WW.heap.size _) hbase3 hl1 ?_; intro v1 w4 hown1 hb1 hg1 hat1; obtain ⟨ys, hys⟩ : ∃ ys, xs ++ be4 (x.size : Int) = ys := ⟨_, rfl⟩; have hm4 := HM3.out.more hys hown1 hb1; have hyl : ys.length = xs.length + 4 := (by rw [← hys, List.length_append]; rfl); have HYS := Aside0.mk hys; obtain ⟨A4, c4, hv1⟩ := own_slice hm4.buf; subst hv1; have HM4 := Aside0.mk hm4; have HTA4 := Aside0.mk (HTA3.out.grown hg1 (own_old HM3.out.buf (Nat.lt_of_lt_of_le HTA.out.2 HW.out.2.1.size))); have hbase4 : WW.heap.size ≤ w4.heap.size := Nat.le_trans hbase3 hg1.size; have hl2 : (ys.length + x.size) * 1 ≤ 140737488355328 := (by omega); clear hown1 hb1 hg1 hat1 hys hm4 hyl)
            | (at_builtin; refine print_append_row (w0 := w4) WW.heap.size rfl (.tmp 53) (.tmp 54) 42 5 .u8 1 rfl Tryd.underlying42 PAll.info5 (by decide) (.slice A4 ys.length c4) ys (bytesOf x) (some ⟨sb, 0, none⟩) x.size sc rfl rfl HM4.out.buf HTA4.out.1 (Below.refl WW.heap.size _) hbase4 hl2 ?_; intro v5 w5 hown5 hb5 hg5 hat5; have HM5 := Aside0.mk (HM4.out.more rfl hown5 hb5); clear hown5 hb5 hg5 hat5))
          go_roundg (bodies.length - (j + 1))
          case measure => have := HJ2.out.2; omega
          case rel => exact ⟨j + 1, _, _, _, rfl, rfl, rfl, by go_num, ⟨by omega⟩, ⟨by rw [HTK.out, HYS.out]; exact HM5.out⟩⟩
        · have hje : j = bodies.length := by have := HJ2.out.1; omega
          subst hje
          rw [List.take_length] at HM
          have hrg := mpL_rng bodies (be4 (bodies.length : Int)) (be4_rng _)
          have hst := mpL_str bodies (be4 (bodies.length : Int))
          rw [HTB.out] at hst
          have hpos : 0 < (mpL bodies (be4 (bodies.length : Int))).length := mpL_pos _ _ (by show 0 < 4; decide)
          obtain ⟨XS, hxs⟩ : ∃ XS, mpL bodies (be4 (bodies.length : Int)) = XS := ⟨_, rfl⟩
          rw [hxs] at hrg hst hpos HM
          have HXS := Aside0.mk hxs
          clear hxs
          obtain ⟨g, hA, hta⟩ := buf_text HM.out.buf hpos hrg
          rw [hst] at hta
          subst hA
          have hsz : XS.length = TB.size := by rw [← hst]; exact (strn_size XS).symm
          have HTA := Aside0.mk hta
          have HSZ := Aside0.mk hsz
          have HPP := Aside0.mk (HW.out.1.below HM.out.bw)
          have HBB := Aside0.mk (HW.out.2.1.trans (HM.out.bw.mono HW.out.2.1.size))
          clear hrg hst hpos hta hsz
          go_wp2_with fail
          refine bodyPost_ret (results_tmp2 rfl _ _ _) rfl ?_
          exact MkC.lit2 HBB.out (by simp) (by simp) rfl rfl (by decide) rfl HPP.out ⟨g, c1, by rw [HXS.out, HSZ.out], HTA.out⟩
end Go.Proofs.YtnbhledkdkchlaaDoor

namespace Go.Proofs.YtnbhledkdkchlaaDoor
set_option linter.unusedVariables false
set_option linter.unusedSimpArgs false
open Go.RowKit Go.Proofs.YtnbhledkdkchlaaDoorW.PrintWords

theorem ksl_keep {e : Nat} {W w1 : World} {base : Nat} {ok : Nat → Prop} {v : Value} {ps : List (Nat × Nat × Nat)} (hR : ksl.R e W base ok v ps) (hg : W.grownBy w1 v.ownBlock) {k t : Nat} {cs : Array Value} {fr : Nat × Nat}
    (hb : W.heap[k]? = some (.cells cs t fr)) (ht : t ≠ e) : w1.heap[k]? = W.heap[k]? := by
  have hlt : k < W.heap.size := (Array.getElem?_eq_some_iff.1 hb).1
  refine hg.block k hlt (fun he => ?_)
  obtain ⟨_, _, ho, _⟩ := hR
  obtain ⟨cells, hc⟩ := own_typed ho k he.symm
  rw [hb] at hc
  injection hc with hc
  injection hc with _ hc
  exact ht hc
/-- A row of bytes, by its block's type. -/
def TT (w : World) (b : Nat) (s : ByteArray) : Prop := TA w b s ∧ ∃ cs fr, w.heap[b]? = some (.cells cs 5 fr)
theorem TT.move {w w' : World} {b : Nat} {s : ByteArray} (h : TT w b s) (hk : w'.heap[b]? = w.heap[b]?) : TT w' b s := by
  obtain ⟨h1, cs, fr, h2⟩ := h
  have h3 := hk.trans h2
  exact ⟨⟨reads_keep h1.1 (fun ad he hl => by injection he with he; subst he; exact hk), (Array.getElem?_eq_some_iff.1 h3).1⟩, cs, fr, h3⟩
structure LL (w W0 wr : World) (A : Option Addr) (n c : Nat) (v1 : Value) (ps : List (Nat × Nat × Nat)) (ls : List ByteArray) : Prop where
  mb : MB w wr A n c
  ge : W0.heap.size ≤ wr.heap.size
  lo : w.heap.size + 2 ≤ W0.heap.size
  row : ksl.R 42 wr W0.heap.size (fun q => W0.heap.size ≤ q) v1 ps
  len : ps.length = ls.length
  els : ∀ (j : Nat) p s, ps[j]? = some p → ls[j]? = some s → p.2.1 = s.size ∧ TT wr p.1 s
theorem LL.next {w W0 wr w3 : World} {A : Option Addr} {n c cap : Nat} {v1 v2 : Value} {ps : List (Nat × Nat × Nat)} {ls : List ByteArray} {x : ByteArray} (h : LL w W0 wr A n c v1 ps ls) (hx : x.size ≤ 100)
    (hr : ksl.R 42 w3 W0.heap.size (fun q => W0.heap.size ≤ q) v2 (ps ++ [(wr.heap.size, x.size, cap)])) (hb : Below W0.heap.size (Lib.bytesWorld wr 5 x) w3) (hg : (Lib.bytesWorld wr 5 x).grownBy w3 v1.ownBlock) : LL w W0 w3 A n c v2 (ps ++ [(wr.heap.size, x.size, cap)]) (ls ++ [x]) := by
  have hge := h.ge
  have hlo := h.lo
  have hWB : Below wr.heap.size wr (Lib.bytesWorld wr 5 x) := bytes_below (Below.refl _ _) (Nat.le_refl _) 5 x
  have hR := Kd.R_below h.row hWB
  have hm := h.mb.below hWB
  refine ⟨⟨hm.bel.trans (hb.mono (by omega)), (hb.block _ (by omega)).trans hm.b5, (hb.block _ (by omega)).trans hm.b8⟩, Nat.le_trans (by rw [Lib.bytesWorld_size]; omega) hb.size, hlo, hr, by rw [List.length_append, List.length_append, h.len]; rfl, ?_⟩
  intro j p s hp hs
  by_cases hj : j < ps.length
  · rw [List.getElem?_append_left hj] at hp
    rw [List.getElem?_append_left (by rw [← h.len]; exact hj)] at hs
    obtain ⟨e1, e2⟩ := h.els j p s hp hs
    have e3 : TT (Lib.bytesWorld wr 5 x) p.1 s := TT.move e2 (hWB.block _ e2.1.2)
    have e4 := e3.2
    obtain ⟨cs3, fr3, hbk3⟩ := e4
    exact ⟨e1, TT.move e3 (ksl_keep hR hg hbk3 (by decide))⟩
  · rw [List.getElem?_append_right (by omega)] at hp
    rw [List.getElem?_append_right (by rw [← h.len]; omega)] at hs
    have e : j - ps.length = 0 := by
      have := (List.getElem?_eq_some_iff.1 hp).1
      simp at this
      omega
    rw [e] at hp
    rw [← h.len, e] at hs
    simp at hp hs
    subst hp
    subst hs
    have hn := Lib.bytesWorld_at_new wr 5 x
    exact ⟨rfl, TT.move ⟨TA.new wr x (by omega), _, _, hn⟩ (ksl_keep hR hg hn (by decide))⟩
theorem LL.ps {w W0 wr : World} {A : Option Addr} {n c : Nat} {v1 : Value} {ps : List (Nat × Nat × Nat)} {ls : List ByteArray} (h : LL w W0 wr A n c v1 ps ls) : ∃ Ab cb, v1 = .slice Ab ls.length cb ∧ PsAt wr Ab ls := by
  cases ls with
  | nil =>
    obtain ⟨A1, c1, h1⟩ := Kd.R_slice h.row
    rw [h.len] at h1
    exact ⟨A1, c1, h1, PsAt.nil _ _⟩
  | cons a r =>
    obtain ⟨g, cc, h1, h2⟩ := ksl_at h.row h.len (by rw [h.len]; simp) (fun j p s hp hs => ⟨(h.els j p s hp hs).1, (h.els j p s hp hs).2.1⟩)
    exact ⟨_, cc, h1, h2⟩
end Go.Proofs.YtnbhledkdkchlaaDoor
