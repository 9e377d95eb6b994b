/- Frames: what a frame's bytes are read as. (seat r2) -/
import Derived.Test.YtnbhledkdkchlaaFr5
namespace Go.Proofs.Ytnbhledkdkchlaa
set_option linter.unusedVariables false
set_option linter.unusedSimpArgs false
open Go.RowKit Go.Proofs.YtnbhledkdkchlaaW.PrintWords
open PAll (info5)

theorem fr_str_bytesOf (s : ByteArray) : strOfNums (bytesOf s) = s := by
  obtain ⟨⟨l⟩⟩ := s
  unfold strOfNums bytesOf
  simp [Function.comp_def]
theorem fr_bytes_append (a b : ByteArray) : bytesOf (a ++ b) = bytesOf a ++ bytesOf b := by
  unfold bytesOf
  simp
theorem fr_bytes_str {l : List Int} (h : ∀ x ∈ l, 0 ≤ x ∧ x ≤ 255) : bytesOf (strOfNums l) = l := by
  unfold bytesOf strOfNums
  simp only [List.map_map]
  induction l with
  | nil => rfl
  | cons a l ih =>
    have h0 := h a (by simp)
    have e : (((fun b : UInt8 => (b.toNat : Int)) ∘ fun n : Int => UInt8.ofNat n.toNat) a) = a := by
      show ((UInt8.ofNat a.toNat).toNat : Int) = a
      rw [UInt8.toNat_ofNat']
      omega
    simp only [List.map_cons]
    rw [e, ih (fun x hx => h x (by simp [hx]))]
theorem fr_bytes_extract (s : ByteArray) (n : Nat) : bytesOf (s.extract 0 n) = (bytesOf s).take n := by
  unfold bytesOf
  rw [← List.map_take]
  congr 1
  simp [ByteArray.extract, ByteArray.copySlice]
theorem bigL_rng (n : Int) (m : Nat) : ∀ x ∈ bigL n m, 0 ≤ x ∧ x ≤ 255 := by
  induction m with
  | zero => intro a ha; cases ha
  | succ m ih =>
    intro a ha
    rcases List.mem_cons.1 ha with rfl | ha
    · omega
    · exact ih a ha
theorem be_bigL4 (n : Int) (h0 : 0 ≤ n) (h1 : n < 4294967296) : be (bigL n 4) = n := by
  simp only [bigL, be4]
  simp
  omega
theorem frameL_rng (kind n : Int) : ∀ x ∈ frameL kind n, 0 ≤ x ∧ x ≤ 255 := by
  intro x hx
  rcases List.mem_append.1 hx with hx | hx
  · exact bigL_rng _ _ x hx
  · exact bigL_rng _ _ x hx
theorem wrap_kind (kind : Int) (h0 : -2147483648 ≤ kind) (h1 : kind ≤ 2147483647) : wrap32 (kind % 4294967296) = kind := by
  unfold wrap32
  omega

/-- A frame's text. -/
def frameS (kind : Int) (data : ByteArray) : ByteArray := strOfNums (frameL kind data.size) ++ data
theorem frameS_bytes (kind : Int) (data : ByteArray) : bytesOf (frameS kind data) = frameL kind data.size ++ bytesOf data := by
  unfold frameS
  rw [fr_bytes_append, fr_bytes_str (frameL_rng _ _)]
theorem frameS_size (kind : Int) (data : ByteArray) : (frameS kind data).size = 8 + data.size := by
  unfold frameS
  rw [ByteArray.size_append, fr_size, frameL_length]
theorem fr_take4 (kind : Int) (data : ByteArray) (tl : List Int) : (frameL kind data.size ++ (bytesOf data ++ tl)).take 4 = bigL ((data.size : Int) + 4) 4 := by
  unfold frameL
  rw [List.append_assoc, List.take_append_of_le_length (by rw [bigL_length]; omega), List.take_of_length_le (by rw [bigL_length]; omega)]
theorem fr_drop4 (kind : Int) (data : ByteArray) (tl : List Int) : (frameL kind data.size ++ (bytesOf data ++ tl)).drop 4 = bigL (kind % 4294967296) 4 ++ (bytesOf data ++ tl) := by
  unfold frameL
  rw [List.append_assoc, List.drop_append_of_le_length (by rw [bigL_length]; omega), List.drop_of_length_le (by rw [bigL_length]; omega), List.nil_append]
theorem fr_drop8 (kind : Int) (data : ByteArray) (tl : List Int) : (frameL kind data.size ++ (bytesOf data ++ tl)).drop 8 = bytesOf data ++ tl := by
  rw [List.drop_append_of_le_length (by rw [frameL_length]; omega), List.drop_of_length_le (by rw [frameL_length]; omega), List.nil_append]
theorem fr_takeD (data : ByteArray) (tl : List Int) : (bytesOf data ++ tl).take data.size = bytesOf data := by
  rw [List.take_append_of_le_length (by rw [bytesOf_length]; omega), List.take_of_length_le (by rw [bytesOf_length]; omega)]
theorem fr_be (kind : Int) (data : ByteArray) (tl : List Int) (hd : data.size ≤ 1000) : be ((frameL kind data.size ++ (bytesOf data ++ tl)).take 4) = (data.size : Int) + 4 := by
  rw [fr_take4, be_bigL4 _ (by omega) (by omega)]
theorem fr_len (kind : Int) (data : ByteArray) (tl : List Int) : (frameL kind data.size ++ (bytesOf data ++ tl)).length = 8 + data.size + tl.length := by
  rw [List.length_append, List.length_append, frameL_length, bytesOf_length]
  omega

/-- A frame with something behind it, read. -/
theorem fr_frame (kind : Int) (data behind : ByteArray) (w : World) (hk0 : -2147483648 ≤ kind) (hk1 : kind ≤ 2147483647) (hd : data.size ≤ 300) (hb : behind.size ≤ 100000) :
    Calls Try.prog 32 #[.string (frameS kind data ++ behind)] w fun e w' => e = .returned (.tuple #[.int .i64 kind, .string data, .int .i64 behind.size, .int .i64 0]) ∧ Below w.heap.size w w' := by
  have hx : bytesOf (frameS kind data ++ behind) = frameL kind data.size ++ (bytesOf data ++ bytesOf behind) := by rw [fr_bytes_append, frameS_bytes, List.append_assoc]
  have hlen := fr_len kind data (bytesOf behind)
  have hbe := fr_be kind data (bytesOf behind) (by omega)
  rw [bytesOf_length] at hlen
  refine (frame_any (frameS kind data ++ behind) w (by rw [ByteArray.size_append, frameS_size]; omega) (by rw [hx, hbe]; intro _; omega)).mono ?_
  rintro e w' ⟨h1, -, h2⟩
  rw [hx] at h2
  have h3 := h2 (by omega) (by rw [hbe]; omega) (by rw [hbe]; omega)
  rw [h3]
  refine ⟨?_, h1⟩
  have e1 : (((data.size : Int) + 4).toNat - 4) = data.size := by omega
  rw [hbe, fr_drop4, List.take_append_of_le_length (by rw [bigL_length]; omega), List.take_of_length_le (by rw [bigL_length]; omega), be_bigL4 _ (by omega) (by omega), wrap_kind kind hk0 hk1, fr_drop8, e1, fr_takeD, fr_str_bytesOf]
  have e2 : (((frameL kind data.size ++ (bytesOf data ++ bytesOf behind)).length : Int) - 4 - ((data.size : Int) + 4)) = behind.size := by omega
  rw [e2]
theorem fr_resp (kind : Int) (data behind : ByteArray) (w : World) (hd : data.size ≤ 300) (hb : behind.size ≤ 100000) :
    Calls Try.prog 35 #[.string (frameS kind data ++ behind)] w fun e w' => e = .returned (.tuple #[.string (strOfNums (bigL (kind % 4294967296) 4) ++ data), .int .i64 behind.size, .int .i64 0]) ∧ Below w.heap.size w w' := by
  have hx : bytesOf (frameS kind data ++ behind) = frameL kind data.size ++ (bytesOf data ++ bytesOf behind) := by rw [fr_bytes_append, frameS_bytes, List.append_assoc]
  have hlen := fr_len kind data (bytesOf behind)
  have hbe := fr_be kind data (bytesOf behind) (by omega)
  rw [bytesOf_length] at hlen
  refine (response_any (frameS kind data ++ behind) w (by rw [ByteArray.size_append, frameS_size]; omega) (by rw [hx, hbe]; intro _; omega)).mono ?_
  rintro e w' ⟨h1, -, h2⟩
  rw [hx] at h2
  have h3 := h2 (by omega) (by rw [hbe]; omega)
  rw [h3]
  refine ⟨?_, h1⟩
  have e1 : ((data.size : Int) + 4).toNat = (bigL (kind % 4294967296) 4 ++ bytesOf data).length := by rw [List.length_append, bigL_length, bytesOf_length]; omega
  have e2 : (((frameL kind data.size ++ (bytesOf data ++ bytesOf behind)).length : Int) - 4 - ((data.size : Int) + 4)) = behind.size := by omega
  rw [hbe, e2, fr_drop4, e1, ← List.append_assoc, List.take_left, fr_append, fr_str_bytesOf]
theorem fr_unpack (kind : Int) (data : ByteArray) (w : World) (hk0 : -2147483648 ≤ kind) (hk1 : kind ≤ 2147483647) (hd : data.size ≤ 300) :
    Calls Try.prog 36 #[.string (strOfNums (bigL (kind % 4294967296) 4) ++ data)] w fun e w' => e = .returned (.tuple #[.int .i64 kind, .string data, .int .i64 0]) ∧ Below w.heap.size w w' := by
  have hx : bytesOf (strOfNums (bigL (kind % 4294967296) 4) ++ data) = bigL (kind % 4294967296) 4 ++ bytesOf data := by rw [fr_bytes_append, fr_bytes_str (bigL_rng _ _)]
  have h4 : 4 ≤ (bytesOf (strOfNums (bigL (kind % 4294967296) 4) ++ data)).length := by rw [hx, List.length_append, bigL_length]; omega
  refine (unpackFrame_any (strOfNums (bigL (kind % 4294967296) 4) ++ data) w (by rw [ByteArray.size_append, fr_size, bigL_length]; omega) h4).mono ?_
  rintro e w' ⟨h1, h2⟩
  rw [h2 h4, hx]
  refine ⟨?_, h1⟩
  rw [List.take_append_of_le_length (by rw [bigL_length]; omega), List.take_of_length_le (by rw [bigL_length]; omega), be_bigL4 _ (by omega) (by omega), wrap_kind kind hk0 hk1,
    List.drop_append_of_le_length (by rw [bigL_length]; omega), List.drop_of_length_le (by rw [bigL_length]; omega), List.nil_append, fr_str_bytesOf]
theorem fr_cut (kind : Int) (data : ByteArray) (n : Nat) (hd : data.size ≤ 300) (hn : n < (frameS kind data).size) :
    (bytesOf ((frameS kind data).extract 0 n)).length = n ∧ (4 ≤ n → be ((bytesOf ((frameS kind data).extract 0 n)).take 4) = (data.size : Int) + 4) := by
  rw [fr_bytes_extract, frameS_bytes]
  rw [frameS_size] at hn
  have hl := fr_len kind data []
  rw [List.append_nil] at hl
  refine ⟨by rw [List.length_take, hl]; simp; omega, fun h4 => ?_⟩
  rw [List.take_take, Nat.min_eq_left h4]
  have h := fr_be kind data [] (by omega)
  rwa [List.append_nil] at h
theorem fr_cutF (kind : Int) (data : ByteArray) (n : Nat) (w : World) (hd : data.size ≤ 300) (hn : n < (frameS kind data).size) :
    Calls Try.prog 32 #[.string ((frameS kind data).extract 0 n)] w fun e w' => (∃ k left, e = .returned (.tuple #[.int .i64 k, .string ⟨#[]⟩, .int .i64 left, .int .i64 1])) ∧ Below w.heap.size w w' := by
  obtain ⟨h1, h2⟩ := fr_cut kind data n hd hn
  have hz := frameS_size kind data
  have hs : ((frameS kind data).extract 0 n).size ≤ 1000 := by rw [← bytesOf_length, h1]; omega
  refine (frame_any _ w (by omega) (by rw [h1]; intro h4; rw [h2 h4]; omega)).mono ?_
  rintro e w' ⟨h3, h4, -⟩
  refine ⟨h4 ?_, h3⟩
  rw [h1]
  rcases Nat.lt_or_ge n 4 with h | h
  · exact .inl h
  · exact .inr (.inl (by rw [h2 h]; omega))
theorem fr_cutR (kind : Int) (data : ByteArray) (n : Nat) (w : World) (hd : data.size ≤ 300) (hn : n < (frameS kind data).size) :
    Calls Try.prog 35 #[.string ((frameS kind data).extract 0 n)] w fun e w' => (∃ left, e = .returned (.tuple #[.string ⟨#[]⟩, .int .i64 left, .int .i64 1])) ∧ Below w.heap.size w w' := by
  obtain ⟨h1, h2⟩ := fr_cut kind data n hd hn
  have hz := frameS_size kind data
  have hs : ((frameS kind data).extract 0 n).size ≤ 1000 := by rw [← bytesOf_length, h1]; omega
  refine (response_any _ w (by omega) (by rw [h1]; intro h4; rw [h2 h4]; omega)).mono ?_
  rintro e w' ⟨h3, h4, -⟩
  refine ⟨h4 ?_, h3⟩
  rw [h1]
  rcases Nat.lt_or_ge n 4 with h | h
  · exact .inl h
  · exact .inr (by rw [h2 h]; omega)
end Go.Proofs.Ytnbhledkdkchlaa
