/- source.Uint16, Uint32, Uint64: the number that bytes say. The reader's plain law: what stands in bytes, as values; what is packed is read again. The reader's plain law: what is read of bytes is read of the same bytes with more behind them. The reader of packed bytes in memory: what its block holds. The reader's small methods: a byte, so many bytes, a number's bytes. The reader's methods: what is next, lengths and numbers. A marker, and what it says of the bytes behind it. The reader's plain law: each value takes a byte at least; parts one behind the other. The reader's methods: lengths, texts, bytes, numbers, floats, tags. The reader's methods: whole numbers and floats; the reader made new. What is packed are bytes. -/
import Derived.Test.YtjnookhdiolhgaaCore
import Derived.Test.YtjnookhdiolhgaaPsourceUint16
import Derived.Test.YtjnookhdiolhgaaPsourceUint32
import Derived.Deep.QuietTactic
import Derived.BigQuiet
import Derived.Lib.Hide
import Derived.Test.YtjnookhdiolhgaaEnc
import Derived.Test.YtjnookhdiolhgaaPut
import Derived.Deep.RegionLaw
import Derived.Deep.RegionWith
import Derived.Test.YtjnookhdiolhgaaPpackstreammarkerOf
import Derived.Test.YtjnookhdiolhgaaPk
import Derived.Laws.CopyOwn
namespace Go.Proofs.Ytjnookhdiolhgaa
set_option linter.unusedVariables false
set_option linter.unusedSimpArgs false
open Go.RowKit Go.Proofs.YtjnookhdiolhgaaW.PrintWords

/-- The number that bytes say, the greatest first. -/
def be (l : List Int) : Int := l.foldl (fun a b => a * 256 + b) 0
theorem be1 (a : Int) : be [a] = a := by simp [be]
theorem be2 (a b : Int) : be [a, b] = a * 256 + b := by simp [be]
theorem be4 (a b c d : Int) : be [a, b, c, d] = ((a * 256 + b) * 256 + c) * 256 + d := by simp [be]
theorem be8 (a b c d e f g h : Int) : be [a, b, c, d, e, f, g, h] = ((((((a * 256 + b) * 256 + c) * 256 + d) * 256 + e) * 256 + f) * 256 + g) * 256 + h := by simp [be]

theorem or_comm' (k : IntKind) (x y : Int) : Go.bits .or k x y = Go.bits .or k y x := by
  simp only [Go.bits, BitVec.or_comm]
theorem or16 (a b : Int) (ha : 0 ≤ a) (ha1 : a < 256) (hb : 0 ≤ b) (hb1 : b < 256) : Go.bits .or .u16 b (a * 256) = a * 256 + b := by
  rw [or_comm']
  exact bits_join .u16 16 (by decide) (fun n h0 h1 => by rw [IntKind.wrap_u16]; omega) 8 _ _ (by omega) (by omega) (by omega) hb (by omega) (by omega)
theorem or32 (i : Nat) (hi : i ≤ 32) (a b : Int) (ha : 0 ≤ a) (ha1 : a < 2 ^ 32) (hd : a % 2 ^ i = 0) (hb : 0 ≤ b) (hb1 : b < 2 ^ i) (hb2 : b < 2 ^ 32) : Go.bits .or .u32 b a = a + b := by
  rw [or_comm']
  exact bits_join .u32 32 (by decide) (fun n h0 h1 => by rw [IntKind.wrap_u32]; omega) i _ _ ha hd ha1 hb hb1 hb2
theorem or64 (a b : Int) (ha : 0 ≤ a) (ha1 : a < 4294967296) (hb : 0 ≤ b) (hb1 : b < 4294967296) : Go.bits .or .u64 (a * 4294967296) b = a * 4294967296 + b :=
  bits_join .u64 64 (by decide) (fun n h0 h1 => by rw [IntKind.wrap_u64]; omega) 32 _ _ (by omega) (by omega) (by omega) hb (by omega) (by omega)

theorem uint16_f (a b : Int) (r : List Int) (ha : 0 ≤ a ∧ a ≤ 255) (hb : 0 ≤ b ∧ b ≤ 255) : PAll.source_Uint16.f (a :: b :: r) = some (a * 256 + b) := by
  have e0 : rd (a :: b :: r) 0 = a := rfl
  have e1 : rd (a :: b :: r) 1 = b := rfl
  unfold PAll.source_Uint16.f
  rw [if_pos (by simp only [List.length_cons]; omega), if_pos (by simp only [List.length_cons]; omega), e0, e1]
  have w0 : IntKind.u16.wrap a = a := by rw [IntKind.wrap_u16]; omega
  have w1 : IntKind.u16.wrap b = b := by rw [IntKind.wrap_u16]; omega
  have w2 : IntKind.u16.wrap (a * 256) = a * 256 := by rw [IntKind.wrap_u16]; omega
  rw [w0, w1, w2, or16 a b ha.1 (by omega) hb.1 (by omega)]
theorem uint32_f (a b c d : Int) (r : List Int) (ha : 0 ≤ a ∧ a ≤ 255) (hb : 0 ≤ b ∧ b ≤ 255) (hc : 0 ≤ c ∧ c ≤ 255) (hd : 0 ≤ d ∧ d ≤ 255) :
    PAll.source_Uint32.f (a :: b :: c :: d :: r) = some (((a * 256 + b) * 256 + c) * 256 + d) := by
  have e0 : rd (a :: b :: c :: d :: r) 0 = a := rfl
  have e1 : rd (a :: b :: c :: d :: r) 1 = b := rfl
  have e2 : rd (a :: b :: c :: d :: r) 2 = c := rfl
  have e3 : rd (a :: b :: c :: d :: r) 3 = d := rfl
  unfold PAll.source_Uint32.f
  rw [if_pos (by simp only [List.length_cons]; omega), if_pos (by simp only [List.length_cons]; omega), if_pos (by simp only [List.length_cons]; omega), if_pos (by simp only [List.length_cons]; omega), e0, e1, e2, e3]
  have w0 : a % 4294967296 * 16777216 % 4294967296 = a * 16777216 := by omega
  have w1 : b % 4294967296 * 65536 % 4294967296 = b * 65536 := by omega
  have w2 : c % 4294967296 * 256 % 4294967296 = c * 256 := by omega
  have w3 : d % 4294967296 = d := by omega
  rw [w0, w1, w2, w3, or32 8 (by decide) (c * 256) d (by omega) (by omega) (by omega) hd.1 (by omega) (by omega), or32 16 (by decide) (b * 65536) (c * 256 + d) (by omega) (by omega) (by omega) (by omega) (by omega) (by omega),
    or32 24 (by decide) (a * 16777216) _ (by omega) (by omega) (by omega) (by omega) (by omega) (by omega)]
  congr 1
  omega
/-- Four bytes at least, all of them bytes. -/
theorem four (l : List Int) (h : 4 ≤ l.length) : ∃ a b c d r, l = a :: b :: c :: d :: r := by
  match l, h with
  | a :: b :: c :: d :: r, _ => exact ⟨a, b, c, d, r, rfl⟩
theorem two (l : List Int) (h : 2 ≤ l.length) : ∃ a b r, l = a :: b :: r := by
  match l, h with
  | a :: b :: r, _ => exact ⟨a, b, r, rfl⟩
theorem uint16_be (l : List Int) (h : 2 ≤ l.length) (hb : ∀ x ∈ l, 0 ≤ x ∧ x ≤ 255) : PAll.source_Uint16.f l = some (be (l.take 2)) := by
  obtain ⟨a, b, r, rfl⟩ := two l h
  rw [uint16_f a b r (hb _ (by simp)) (hb _ (by simp))]
  simp [be2]
theorem uint32_be (l : List Int) (h : 4 ≤ l.length) (hb : ∀ x ∈ l, 0 ≤ x ∧ x ≤ 255) : PAll.source_Uint32.f l = some (be (l.take 4)) := by
  obtain ⟨a, b, c, d, r, rfl⟩ := four l h
  rw [uint32_f a b c d r (hb _ (by simp)) (hb _ (by simp)) (hb _ (by simp)) (hb _ (by simp))]
  simp [be4]
theorem be_range (l : List Int) (hb : ∀ x ∈ l, 0 ≤ x ∧ x ≤ 255) : 0 ≤ be l ∧ be l < 256 ^ l.length := by
  unfold be
  have h : ∀ (l : List Int) (a : Int) (n : Nat), (∀ x ∈ l, 0 ≤ x ∧ x ≤ 255) → 0 ≤ a → a < 256 ^ n → 0 ≤ l.foldl (fun a b => a * 256 + b) a ∧ l.foldl (fun a b => a * 256 + b) a < 256 ^ (n + l.length) := by
    intro l
    induction l with
    | nil => intro a n _ h0 h1; exact ⟨h0, h1⟩
    | cons x r ih =>
      intro a n hx h0 h1
      have hx0 := hx x (by simp)
      have h2 := ih (a * 256 + x) (n + 1) (fun y hy => hx y (by simp [hy])) (by omega) (by rw [Int.pow_succ]; omega)
      rw [List.length_cons]
      have e : n + (r.length + 1) = n + 1 + r.length := by omega
      rw [e]
      exact h2
  have := h l 0 0 hb (by omega) (by decide)
  simpa using this
theorem uint16_any {A : Option Addr} {c : Nat} {l : List Int} (w : World) (hr : ReadsInt w .u8 A l.length l) (hc : l.length ≤ c) (h : 2 ≤ l.length) (hb : ∀ x ∈ l, 0 ≤ x ∧ x ≤ 255) :
    Calls Try.prog 113 #[.slice A l.length c] w fun e w' => e = .returned (.int .u16 (be (l.take 2))) ∧ Drawn0 w w' :=
  PAll.source_Uint16.calls A c l _ w (Kd.C_of_reads (d := (0 : Int)) hr) hc (uint16_be l h hb)
theorem uint32_any {A : Option Addr} {c : Nat} {l : List Int} (w : World) (hr : ReadsInt w .u8 A l.length l) (hc : l.length ≤ c) (h : 4 ≤ l.length) (hb : ∀ x ∈ l, 0 ≤ x ∧ x ≤ 255) :
    Calls Try.prog 114 #[.slice A l.length c] w fun e w' => e = .returned (.int .u32 (be (l.take 4))) ∧ Drawn0 w w' :=
  PAll.source_Uint32.calls A c l _ w (Kd.C_of_reads (d := (0 : Int)) hr) hc (uint32_be l h hb)
end Go.Proofs.Ytjnookhdiolhgaa

namespace Go.Proofs.Ytjnookhdiolhgaa
set_option linter.unusedVariables false
set_option linter.unusedSimpArgs false
open Go.RowKit Go.Proofs.YtjnookhdiolhgaaW.PrintWords
open PAll (S26)

def vN : S26 := ⟨0, false, 0, 0, ⟨#[]⟩, [], []⟩
def vB (b : Bool) : S26 := ⟨1, b, 0, 0, ⟨#[]⟩, [], []⟩
def vI (i : Int) : S26 := ⟨2, false, i, 0, ⟨#[]⟩, [], []⟩
def vF (f : Int) : S26 := ⟨3, false, 0, f, ⟨#[]⟩, [], []⟩
def vS (k : Int) (s : ByteArray) : S26 := ⟨k, false, 0, 0, s, [], []⟩

/-- A number of k bytes, and what is behind it. -/
def sizedN (k : Nat) (r : List Int) : Option (Int × List Int) := if r.length < k then none else some (be (r.take k), r.drop k)

/-- What stands next: none (or too few bytes), a length that no text here has, a value, or the head of one that has parts. -/
inductive Tk where
  | bad : Tk
  | wild : Tk
  | val : S26 → List Int → Tk
  | opn : Int → Int → Nat → List Int → Tk

def tkStr (k : Int) : Option (Int × List Int) → Tk
  | none => .bad
  | some (n, r) => if 65536 < n then .wild else if (r.length : Int) < n then .bad else .val (vS k (strOfNums (r.take n.toNat))) (r.drop n.toNat)
def tkOpn (k : Int) : Option (Int × List Int) → Tk
  | none => .bad
  | some (n, r) => .opn k 0 n.toNat r
def tkInt (g : IntKind) : Option (Int × List Int) → Tk
  | none => .bad
  | some (n, r) => .val (vI (g.wrap n)) r
def tkFloat : Option (Int × List Int) → Tk
  | none => .bad
  | some (n, r) => .val (vF n) r

/-- What stands next in bytes. -/
def tok : List Int → Tk
  | [] => .bad
  | m :: r =>
    if m < 128 then .val (vI m) r
    else if m < 144 then tkStr 4 (some (m - 128, r))
    else if m < 160 then .opn 6 0 (m - 144).toNat r
    else if m < 176 then .opn 7 0 (m - 160).toNat r
    else if m < 192 then (match r with | [] => .bad | t :: r' => .opn 8 t (m - 176).toNat r')
    else if 240 ≤ m then .val (vI (m - 256)) r
    else if m = 192 then .val vN r
    else if m = 193 then tkFloat (sizedN 8 r)
    else if m = 194 then .val (vB false) r
    else if m = 195 then .val (vB true) r
    else if m = 200 then tkInt .i8 (sizedN 1 r)
    else if m = 201 then tkInt .i16 (sizedN 2 r)
    else if m = 202 then tkInt .i32 (sizedN 4 r)
    else if m = 203 then tkInt .i64 (sizedN 8 r)
    else if m = 204 then tkStr 5 (sizedN 1 r)
    else if m = 205 then tkStr 5 (sizedN 2 r)
    else if m = 206 then tkStr 5 (sizedN 4 r)
    else if m = 208 then tkStr 4 (sizedN 1 r)
    else if m = 209 then tkStr 4 (sizedN 2 r)
    else if m = 210 then tkStr 4 (sizedN 4 r)
    else if m = 212 then tkOpn 6 (sizedN 1 r)
    else if m = 213 then tkOpn 6 (sizedN 2 r)
    else if m = 214 then tkOpn 6 (sizedN 4 r)
    else if m = 216 then tkOpn 7 (sizedN 1 r)
    else if m = 217 then tkOpn 7 (sizedN 2 r)
    else if m = 218 then tkOpn 7 (sizedN 4 r)
    else .bad

/-- A marker of a text. -/
def isStr (m : Int) : Bool := (decide (128 ≤ m) && decide (m < 144)) || m == 208 || m == 209 || m == 210

inductive KR where
  | wild : KR
  | bad : Int → KR
  | ok : ByteArray → List Int → KR
/-- A key of a map. -/
def key : List Int → KR
  | [] => .bad 1
  | m :: r => if isStr m = true then (match tok (m :: r) with | .val x r' => .ok x.f4 r' | .wild => .wild | _ => .bad 1) else .bad 3

inductive PR where
  | wild : PR
  | bad : Int → PR
  | ok : S26 → List Int → PR
inductive PRs where
  | wild : PRs
  | bad : Int → PRs
  | ok : List ByteArray → List S26 → List Int → PRs
/-- One part ahead of the others. -/
def PRs.pre (ks : List ByteArray) (x : S26) : PRs → PRs
  | .wild => .wild
  | .bad c => .bad c
  | .ok keys kids r => .ok (ks ++ keys) (x :: kids) r

/-- So many parts, with their keys where they are a map's. -/
def rows (p : List Int → PR) (m : Bool) : Nat → List Int → PRs
  | 0, r => .ok [] [] r
  | n + 1, r =>
    if m then
      match key r with
      | .wild => .wild
      | .bad c => .bad c
      | .ok s r1 => match p r1 with
        | .wild => .wild
        | .bad c => .bad c
        | .ok x r2 => (rows p m n r2).pre [s] x
    else
      match p r with
      | .wild => .wild
      | .bad c => .bad c
      | .ok x r2 => (rows p m n r2).pre [] x

/-- A value: 1 an error, 3 a key that is no text, or too deep. -/
def parse : Nat → Int → List Int → PR
  | 0, _, _ => .wild
  | f + 1, deep, r =>
    if 1000 < deep then .bad 3 else
    match tok r with
    | .bad => .bad 1
    | .wild => .wild
    | .val x r' => .ok x r'
    | .opn k tag n r' =>
      match rows (parse f (deep + 1)) (k == 7) n r' with
      | .wild => .wild
      | .bad c => .bad c
      | .ok keys kids r2 => .ok ⟨k, false, tag, 0, ⟨#[]⟩, keys, kids⟩ r2

/-! ### What is packed is read again -/
theorem strOfNums_bytesOf (s : ByteArray) : strOfNums (bytesOf s) = s := by
  obtain ⟨⟨l⟩⟩ := s
  unfold strOfNums bytesOf
  simp [Function.comp_def]
theorem wrap_i8' (n : Int) : IntKind.i8.wrap n = (n + 128) % 256 - 128 := by
  simp only [IntKind.wrap, IntKind.bits, IntKind.signed]
  simp
  omega
theorem wrap_i16' (n : Int) : IntKind.i16.wrap n = (n + 32768) % 65536 - 32768 := by
  simp only [IntKind.wrap, IntKind.bits, IntKind.signed]
  simp
  omega
theorem sized1 (a : Int) (r : List Int) : sizedN 1 (a :: r) = some (a, r) := by simp [sizedN, be1]
theorem sized2 (a b : Int) (r : List Int) : sizedN 2 (a :: b :: r) = some (a * 256 + b, r) := by simp [sizedN, be2]
theorem sized4 (a b c d : Int) (r : List Int) : sizedN 4 (a :: b :: c :: d :: r) = some (((a * 256 + b) * 256 + c) * 256 + d, r) := by simp [sizedN, be4]
theorem sized8 (a b c d e f g h : Int) (r : List Int) : sizedN 8 (a :: b :: c :: d :: e :: f :: g :: h :: r) = some (((((((a * 256 + b) * 256 + c) * 256 + d) * 256 + e) * 256 + f) * 256 + g) * 256 + h, r) := by simp [sizedN, be8]

theorem tok_int (i : Int) (h0 : -9223372036854775808 ≤ i) (h1 : i < 9223372036854775808) (r : List Int) : tok (encInt i ++ r) = .val (vI i) r := by
  unfold encInt
  split
  · rename_i h
    by_cases hn : 0 ≤ i
    · have e : i % 256 = i := by omega
      simp only [List.cons_append, List.nil_append, e, tok]
      rw [if_pos h.2]
    · have e : i % 256 = i + 256 := by omega
      simp only [List.cons_append, List.nil_append, e, tok]
      rw [if_neg (by omega), if_neg (by omega), if_neg (by omega), if_neg (by omega), if_neg (by omega), if_pos (by omega)]
      congr 2
      omega
  · split
    · simp only [List.cons_append, List.nil_append, tok, sized1]
      simp [tkInt, wrap_i8']
      congr 1
      omega
    · split
      · simp only [List.cons_append, List.nil_append, tok, sized2]
        simp [tkInt, wrap_i16']
        congr 1
        omega
      · split
        · simp only [List.cons_append, List.nil_append, tok, sized4]
          simp [tkInt, IntKind.wrap_i32, wrap32]
          congr 1
          omega
        · simp only [List.cons_append, List.nil_append, tok, sized8]
          simp [tkInt, IntKind.wrap_i64, wrap64]
          congr 1
          omega
theorem tok_float (f : Int) (h0 : 0 ≤ f) (h1 : f < 18446744073709551616) (r : List Int) : tok (encFloat f.toNat ++ r) = .val (vF f) r := by
  have e : (f.toNat : Int) = f := by omega
  unfold encFloat
  rw [e]
  simp only [List.cons_append, List.nil_append, tok, sized8]
  simp [tkFloat]
  congr 1
  omega
theorem take_bytes (s : ByteArray) (r : List Int) : (bytesOf s ++ r).take s.size = bytesOf s := by
  rw [List.take_append_of_le_length (by rw [bytesOf_length]; omega), List.take_of_length_le (by rw [bytesOf_length]; omega)]
theorem drop_bytes (s : ByteArray) (r : List Int) : (bytesOf s ++ r).drop s.size = r := by
  rw [List.drop_append_of_le_length (by rw [bytesOf_length]; omega), List.drop_of_length_le (by rw [bytesOf_length]; omega), List.nil_append]
theorem tkStr_bytes (k n : Int) (s : ByteArray) (hn : n = s.size) (hs : s.size ≤ 65536) (r : List Int) : tkStr k (some (n, bytesOf s ++ r)) = .val (vS k s) r := by
  subst hn
  have hl : (bytesOf s ++ r).length = s.size + r.length := by rw [List.length_append, bytesOf_length]
  simp only [tkStr]
  rw [if_neg (by omega), if_neg (by rw [hl]; push_cast; omega), Int.toNat_natCast, take_bytes, drop_bytes, strOfNums_bytesOf]
theorem tok_text (s : ByteArray) (hs : s.size ≤ 65535) (r : List Int) : tok (encText s ++ r) = .val (vS 4 s) r := by
  unfold encText encHead
  split
  · simp only [List.cons_append, List.nil_append, tok]
    rw [if_neg (by omega), if_pos (by omega)]
    exact tkStr_bytes 4 _ s (by omega) (by omega) r
  · split
    · simp only [List.cons_append, List.nil_append, tok, sized1]
      simp
      exact tkStr_bytes 4 _ s (by omega) (by omega) r
    · split
      · simp only [List.cons_append, List.nil_append, tok, sized2]
        simp
        exact tkStr_bytes 4 _ s (by omega) (by omega) r
      · omega
theorem tok_bytes (s : ByteArray) (hs : s.size ≤ 65535) (r : List Int) : tok (encByteHead s.size ++ bytesOf s ++ r) = .val (vS 5 s) r := by
  unfold encByteHead
  split
  · simp only [List.cons_append, List.nil_append, tok, sized1]
    simp
    exact tkStr_bytes 5 _ s (by omega) (by omega) r
  · simp only [List.cons_append, List.nil_append, tok, sized2]
    simp
    exact tkStr_bytes 5 _ s (by omega) (by omega) r
theorem tok_list (n : Nat) (hn : n < 65536) (r : List Int) : tok (encHead 144 212 n ++ r) = .opn 6 0 n r := by
  unfold encHead
  split
  · simp only [List.cons_append, List.nil_append, tok]
    rw [if_neg (by omega), if_neg (by omega), if_pos (by omega)]
    congr 1
    omega
  · split
    · simp only [List.cons_append, List.nil_append, tok, sized1]
      simp [tkOpn]
    · split
      · simp only [List.cons_append, List.nil_append, tok, sized2]
        simp [tkOpn]
        congr 1
        omega
      · omega
theorem tok_map (n : Nat) (hn : n < 65536) (r : List Int) : tok (encHead 160 216 n ++ r) = .opn 7 0 n r := by
  unfold encHead
  split
  · simp only [List.cons_append, List.nil_append, tok]
    rw [if_neg (by omega), if_neg (by omega), if_neg (by omega), if_pos (by omega)]
    congr 1
    omega
  · split
    · simp only [List.cons_append, List.nil_append, tok, sized1]
      simp [tkOpn]
    · split
      · simp only [List.cons_append, List.nil_append, tok, sized2]
        simp [tkOpn]
        congr 1
        omega
      · omega
theorem tok_struct (n : Nat) (hn : n ≤ 15) (i : Int) (r : List Int) : tok ((176 + (n : Int)) :: i :: r) = .opn 8 i n r := by
  simp only [tok]
  rw [if_neg (by omega), if_neg (by omega), if_neg (by omega), if_neg (by omega), if_pos (by omega)]
  congr 1
  omega
theorem key_text (s : ByteArray) (hs : s.size ≤ 65535) (r : List Int) : key (encText s ++ r) = .ok s r := by
  have h := tok_text s hs r
  have hh : ∃ m t, encText s ++ r = m :: t ∧ isStr m = true := by
    unfold encText encHead
    split
    · exact ⟨_, _, rfl, by simp [isStr]; omega⟩
    · split
      · exact ⟨_, _, rfl, by simp [isStr]⟩
      · split
        · exact ⟨_, _, rfl, by simp [isStr]⟩
        · exact ⟨_, _, rfl, by simp [isStr]⟩
  obtain ⟨m, t, e, hm⟩ := hh
  rw [e] at h ⊢
  simp only [key]
  rw [if_pos hm, h]
  rfl
theorem size_zero {s : ByteArray} (h : s.size = 0) : s = ⟨#[]⟩ := by
  obtain ⟨⟨l⟩⟩ := s
  cases l with
  | nil => rfl
  | cons a t => simp [ByteArray.size] at h

mutual
/-- What a value is packed as is read as the value. -/
theorem parse_enc : ∀ (x : S26) (f : Nat) (deep : Int) (r : List Int), okV x → wfV x → nodes x ≤ f → nodes x ≤ 60000 → deep + nodes x ≤ 1001 → parse f deep (enc x ++ r) = .ok x r
  | ⟨k, b, i, g, s, keys, kids⟩, f, deep, r, hok, hwf, hf, h6, hd => by
    simp only [okV] at hok
    simp only [wfV] at hwf
    simp only [nodes] at hf hd h6
    obtain ⟨⟨hk0, hk8, hs, hb, hi, hg, hs0, hkeys, hkids, h8, h7, hks⟩, hoa⟩ := hok
    obtain ⟨⟨hi0, hi1, hf0, hf1⟩, hwa⟩ := hwf
    obtain ⟨f, rfl⟩ : ∃ m, f = m + 1 := ⟨f - 1, by omega⟩
    have hlen := nodesAll_len kids
    have hrow : ∀ m : Bool, (m = true → keys.length = kids.length) → rows (parse f (deep + 1)) m kids.length (encKids m keys kids ++ r) = .ok (if m then keys else []) kids r :=
      fun m hm => rows_enc kids m keys f (deep + 1) r hoa hwa hm hks (by omega) (by omega) (by omega)
    simp only [enc, List.append_assoc, parse]
    rw [if_neg (by omega)]
    have hc : k = 0 ∨ k = 1 ∨ k = 2 ∨ k = 3 ∨ k = 4 ∨ k = 5 ∨ k = 6 ∨ k = 7 ∨ k = 8 := by omega
    rcases hc with rfl | rfl | rfl | rfl | rfl | rfl | rfl | rfl | rfl
    · obtain rfl := hb (by decide)
      obtain rfl := hi (by decide) (by decide)
      obtain rfl := hg (by decide)
      obtain rfl := size_zero (hs0 (by decide) (by decide))
      obtain rfl := hkeys (by decide)
      obtain rfl := hkids (by decide)
      simp [encTop, encKids, tok, vN]
    · obtain rfl := hi (by decide) (by decide)
      obtain rfl := hg (by decide)
      obtain rfl := size_zero (hs0 (by decide) (by decide))
      obtain rfl := hkeys (by decide)
      obtain rfl := hkids (by decide)
      cases b <;> simp [encTop, encKids, tok, vB]
    · obtain rfl := hb (by decide)
      obtain rfl := hg (by decide)
      obtain rfl := size_zero (hs0 (by decide) (by decide))
      obtain rfl := hkeys (by decide)
      obtain rfl := hkids (by decide)
      have h := tok_int i hi0 hi1 r
      simp only [encTop, encKids, List.nil_append]
      simp only [show ¬ (2 : Int) = 0 from by decide, show ¬ (2 : Int) = 1 from by decide, if_false, if_true]
      rw [h]
      rfl
    · obtain rfl := hb (by decide)
      obtain rfl := hi (by decide) (by decide)
      obtain rfl := size_zero (hs0 (by decide) (by decide))
      obtain rfl := hkeys (by decide)
      obtain rfl := hkids (by decide)
      have h := tok_float g hf0 hf1 r
      simp only [encTop, encKids, List.nil_append]
      simp only [show ¬ (3 : Int) = 0 from by decide, show ¬ (3 : Int) = 1 from by decide, show ¬ (3 : Int) = 2 from by decide, if_false, if_true]
      rw [h]
      rfl
    · obtain rfl := hb (by decide)
      obtain rfl := hi (by decide) (by decide)
      obtain rfl := hg (by decide)
      obtain rfl := hkeys (by decide)
      obtain rfl := hkids (by decide)
      have h := tok_text s (by omega) r
      simp only [encTop, encKids, List.nil_append]
      simp only [show ¬ (4 : Int) = 0 from by decide, show ¬ (4 : Int) = 1 from by decide, show ¬ (4 : Int) = 2 from by decide, show ¬ (4 : Int) = 3 from by decide, if_false, if_true]
      rw [h]
      rfl
    · obtain rfl := hb (by decide)
      obtain rfl := hi (by decide) (by decide)
      obtain rfl := hg (by decide)
      obtain rfl := hkeys (by decide)
      obtain rfl := hkids (by decide)
      have h := tok_bytes s (by omega) r
      simp only [encTop, encKids, List.nil_append]
      simp only [show ¬ (5 : Int) = 0 from by decide, show ¬ (5 : Int) = 1 from by decide, show ¬ (5 : Int) = 2 from by decide, show ¬ (5 : Int) = 3 from by decide, show ¬ (5 : Int) = 4 from by decide, if_false, if_true]
      rw [h]
      rfl
    · obtain rfl := hb (by decide)
      obtain rfl := hi (by decide) (by decide)
      obtain rfl := hg (by decide)
      obtain rfl := size_zero (hs0 (by decide) (by decide))
      obtain rfl := hkeys (by decide)
      have h := tok_list kids.length (by omega) (encKids false [] kids ++ r)
      have h2 := hrow false (fun h => by cases h)
      simp only [encTop]
      simp only [show ¬ (6 : Int) = 0 from by decide, show ¬ (6 : Int) = 1 from by decide, show ¬ (6 : Int) = 2 from by decide, show ¬ (6 : Int) = 3 from by decide, show ¬ (6 : Int) = 4 from by decide, show ¬ (6 : Int) = 5 from by decide, if_false, if_true]
      have e7 : ((6 : Int) == 7) = false := rfl
      rw [e7, h]
      simp only [e7]
      rw [h2]
      simp
    · obtain rfl := hb (by decide)
      obtain rfl := hi (by decide) (by decide)
      obtain rfl := hg (by decide)
      obtain rfl := size_zero (hs0 (by decide) (by decide))
      have h := tok_map kids.length (by omega) (encKids true keys kids ++ r)
      have h2 := hrow true (fun _ => h7 rfl)
      simp only [encTop]
      simp only [show ¬ (7 : Int) = 0 from by decide, show ¬ (7 : Int) = 1 from by decide, show ¬ (7 : Int) = 2 from by decide, show ¬ (7 : Int) = 3 from by decide, show ¬ (7 : Int) = 4 from by decide, show ¬ (7 : Int) = 5 from by decide, show ¬ (7 : Int) = 6 from by decide, if_false, if_true]
      have e7 : ((7 : Int) == 7) = true := rfl
      rw [e7, h]
      simp only [e7]
      rw [h2]
      simp
    · obtain rfl := hb (by decide)
      obtain rfl := hg (by decide)
      obtain rfl := size_zero (hs0 (by decide) (by decide))
      obtain rfl := hkeys (by decide)
      have h := tok_struct kids.length (h8 rfl).2.2 i (encKids false [] kids ++ r)
      have h2 := hrow false (fun h => by cases h)
      simp only [encTop, List.cons_append, List.nil_append]
      simp only [show ¬ (8 : Int) = 0 from by decide, show ¬ (8 : Int) = 1 from by decide, show ¬ (8 : Int) = 2 from by decide, show ¬ (8 : Int) = 3 from by decide, show ¬ (8 : Int) = 4 from by decide, show ¬ (8 : Int) = 5 from by decide, show ¬ (8 : Int) = 6 from by decide, show ¬ (8 : Int) = 7 from by decide, if_false, List.cons_append, List.nil_append]
      have e7 : ((8 : Int) == 7) = false := rfl
      rw [e7, h]
      simp only [e7]
      rw [h2]
      simp
theorem rows_enc : ∀ (kids : List S26) (m : Bool) (keys : List ByteArray) (f : Nat) (deep : Int) (r : List Int), okAll kids → wfAll kids → (m = true → keys.length = kids.length) → (∀ t ∈ keys, t.size ≤ 300) → nodesAll kids ≤ f → nodesAll kids ≤ 60000 → deep + nodesAll kids ≤ 1001 →
    rows (parse f deep) m kids.length (encKids m keys kids ++ r) = .ok (if m then keys else []) kids r
  | [], m, keys, f, deep, r, _, _, hm, _, _, _, _ => by
    cases m
    · simp [encKids, rows]
    · have := hm rfl
      cases keys with
      | nil => simp [encKids, rows]
      | cons a t => simp at this
  | x :: l, m, keys, f, deep, r, hok, hwf, hm, hks, hf, h6, hd => by
    simp only [okAll] at hok
    simp only [wfAll] at hwf
    simp only [nodesAll] at hf hd h6
    have hp := nodes_pos x
    have h1 : ∀ r', parse f deep (enc x ++ r') = .ok x r' := fun r' => parse_enc x f deep r' hok.1 hwf.1 (by omega) (by omega) (by omega)
    have h2 := rows_enc l m keys.tail f deep r hok.2 hwf.2 (fun h => by have := hm h; rw [List.length_tail, this]; simp) (fun t ht => hks t (List.mem_of_mem_tail ht)) (by omega) (by omega) (by omega)
    cases m
    · simp only [encKids, List.length_cons, rows, List.append_assoc, List.nil_append, if_false, Bool.false_eq_true]
      rw [h1]
      simp only [h2, PRs.pre]
      simp
    · have hl := hm rfl
      cases keys with
      | nil => simp at hl
      | cons a t =>
        have hk : a.size ≤ 300 := hks a (by simp)
        simp only [encKids, List.length_cons, rows, List.append_assoc, if_true, List.headD_cons, List.tail_cons] at h2 ⊢
        rw [key_text a (by omega)]
        simp only
        rw [h1]
        simp only [h2, PRs.pre]
        simp
end
end Go.Proofs.Ytjnookhdiolhgaa

namespace Go.Proofs.Ytjnookhdiolhgaa
set_option linter.unusedVariables false
set_option linter.unusedSimpArgs false
open Go.RowKit Go.Proofs.YtjnookhdiolhgaaW.PrintWords
open PAll (S26)

theorem sizedN_more {k : Nat} {r : List Int} {q : Int × List Int} (t : List Int) (h : sizedN k r = some q) : sizedN k (r ++ t) = some (q.1, q.2 ++ t) := by
  unfold sizedN at h ⊢
  split at h
  · cases h
  · rename_i hl
    injection h with h
    subst h
    rw [if_neg (by rw [List.length_append]; omega), List.take_append_of_le_length (by omega), List.drop_append_of_le_length (by omega)]

/-- More behind: only what was bad may turn. -/
def Tk.more (t : List Int) : Tk → Tk → Prop
  | .bad, _ => True
  | .wild, u => u = .wild
  | .val x r, u => u = .val x (r ++ t)
  | .opn k g n r, u => u = .opn k g n (r ++ t)
theorem tkStr_more (k : Int) (t : List Int) {q q' : Option (Int × List Int)} (h : ∀ p, q = some p → q' = some (p.1, p.2 ++ t)) : (tkStr k q).more t (tkStr k q') := by
  cases q with
  | none => trivial
  | some p =>
    rw [h p rfl]
    simp only [tkStr]
    split
    · simp [Tk.more]
    · split
      · trivial
      · rename_i h1 h2
        rw [if_neg (by rw [List.length_append]; push_cast; omega)]
        simp only [Tk.more]
        rw [List.take_append_of_le_length (by omega), List.drop_append_of_le_length (by omega)]
theorem tkOpn_more (k : Int) (t : List Int) {q q' : Option (Int × List Int)} (h : ∀ p, q = some p → q' = some (p.1, p.2 ++ t)) : (tkOpn k q).more t (tkOpn k q') := by
  cases q with
  | none => trivial
  | some p => rw [h p rfl]; simp [tkOpn, Tk.more]
theorem tkInt_more (k : IntKind) (t : List Int) {q q' : Option (Int × List Int)} (h : ∀ p, q = some p → q' = some (p.1, p.2 ++ t)) : (tkInt k q).more t (tkInt k q') := by
  cases q with
  | none => trivial
  | some p => rw [h p rfl]; simp [tkInt, Tk.more]
theorem tkFloat_more (t : List Int) {q q' : Option (Int × List Int)} (h : ∀ p, q = some p → q' = some (p.1, p.2 ++ t)) : (tkFloat q).more t (tkFloat q') := by
  cases q with
  | none => trivial
  | some p => rw [h p rfl]; simp [tkFloat, Tk.more]
theorem tok_more (r t : List Int) : (tok r).more t (tok (r ++ t)) := by
  cases r with
  | nil => trivial
  | cons m r =>
    have hs : ∀ k, ∀ p, sizedN k r = some p → sizedN k (r ++ t) = some (p.1, p.2 ++ t) := fun k p h => sizedN_more t h
    simp only [List.cons_append, tok]
    by_cases hc : m < 128
    · rw [if_pos hc, if_pos hc]; rfl
    rw [if_neg hc, if_neg hc]; clear hc
    by_cases hc : m < 144
    · rw [if_pos hc, if_pos hc]; exact tkStr_more _ t (fun p h => by injection h with h; subst h; rfl)
    rw [if_neg hc, if_neg hc]; clear hc
    by_cases hc : m < 160
    · rw [if_pos hc, if_pos hc]; rfl
    rw [if_neg hc, if_neg hc]; clear hc
    by_cases hc : m < 176
    · rw [if_pos hc, if_pos hc]; rfl
    rw [if_neg hc, if_neg hc]; clear hc
    by_cases hc : m < 192
    · rw [if_pos hc, if_pos hc]; cases r <;> first | trivial | rfl
    rw [if_neg hc, if_neg hc]; clear hc
    by_cases hc : 240 ≤ m
    · rw [if_pos hc, if_pos hc]; rfl
    rw [if_neg hc, if_neg hc]; clear hc
    by_cases hc : m = 192
    · rw [if_pos hc, if_pos hc]; rfl
    rw [if_neg hc, if_neg hc]; clear hc
    by_cases hc : m = 193
    · rw [if_pos hc, if_pos hc]; exact tkFloat_more t (hs _)
    rw [if_neg hc, if_neg hc]; clear hc
    by_cases hc : m = 194
    · rw [if_pos hc, if_pos hc]; rfl
    rw [if_neg hc, if_neg hc]; clear hc
    by_cases hc : m = 195
    · rw [if_pos hc, if_pos hc]; rfl
    rw [if_neg hc, if_neg hc]; clear hc
    by_cases hc : m = 200
    · rw [if_pos hc, if_pos hc]; exact tkInt_more _ t (hs _)
    rw [if_neg hc, if_neg hc]; clear hc
    by_cases hc : m = 201
    · rw [if_pos hc, if_pos hc]; exact tkInt_more _ t (hs _)
    rw [if_neg hc, if_neg hc]; clear hc
    by_cases hc : m = 202
    · rw [if_pos hc, if_pos hc]; exact tkInt_more _ t (hs _)
    rw [if_neg hc, if_neg hc]; clear hc
    by_cases hc : m = 203
    · rw [if_pos hc, if_pos hc]; exact tkInt_more _ t (hs _)
    rw [if_neg hc, if_neg hc]; clear hc
    by_cases hc : m = 204
    · rw [if_pos hc, if_pos hc]; exact tkStr_more _ t (hs _)
    rw [if_neg hc, if_neg hc]; clear hc
    by_cases hc : m = 205
    · rw [if_pos hc, if_pos hc]; exact tkStr_more _ t (hs _)
    rw [if_neg hc, if_neg hc]; clear hc
    by_cases hc : m = 206
    · rw [if_pos hc, if_pos hc]; exact tkStr_more _ t (hs _)
    rw [if_neg hc, if_neg hc]; clear hc
    by_cases hc : m = 208
    · rw [if_pos hc, if_pos hc]; exact tkStr_more _ t (hs _)
    rw [if_neg hc, if_neg hc]; clear hc
    by_cases hc : m = 209
    · rw [if_pos hc, if_pos hc]; exact tkStr_more _ t (hs _)
    rw [if_neg hc, if_neg hc]; clear hc
    by_cases hc : m = 210
    · rw [if_pos hc, if_pos hc]; exact tkStr_more _ t (hs _)
    rw [if_neg hc, if_neg hc]; clear hc
    by_cases hc : m = 212
    · rw [if_pos hc, if_pos hc]; exact tkOpn_more _ t (hs _)
    rw [if_neg hc, if_neg hc]; clear hc
    by_cases hc : m = 213
    · rw [if_pos hc, if_pos hc]; exact tkOpn_more _ t (hs _)
    rw [if_neg hc, if_neg hc]; clear hc
    by_cases hc : m = 214
    · rw [if_pos hc, if_pos hc]; exact tkOpn_more _ t (hs _)
    rw [if_neg hc, if_neg hc]; clear hc
    by_cases hc : m = 216
    · rw [if_pos hc, if_pos hc]; exact tkOpn_more _ t (hs _)
    rw [if_neg hc, if_neg hc]; clear hc
    by_cases hc : m = 217
    · rw [if_pos hc, if_pos hc]; exact tkOpn_more _ t (hs _)
    rw [if_neg hc, if_neg hc]; clear hc
    by_cases hc : m = 218
    · rw [if_pos hc, if_pos hc]; exact tkOpn_more _ t (hs _)
    rw [if_neg hc, if_neg hc]; clear hc
    trivial
theorem isStr_tok {m : Int} {r : List Int} (h : isStr m = true) : tok (m :: r) = .bad ∨ tok (m :: r) = .wild ∨ ∃ x r', tok (m :: r) = .val x r' := by
  have hk : ∀ q, tkStr 4 q = .bad ∨ tkStr 4 q = .wild ∨ ∃ x r', tkStr 4 q = .val x r' := by
    intro q
    cases q with
    | none => exact .inl rfl
    | some p =>
      simp only [tkStr]
      split
      · exact .inr (.inl rfl)
      · split
        · exact .inl rfl
        · exact .inr (.inr ⟨_, _, rfl⟩)
  simp only [isStr, Bool.or_eq_true, Bool.and_eq_true, decide_eq_true_eq, beq_iff_eq] at h
  rcases h with ((⟨h1, h2⟩ | h) | h) | h
  · simp only [tok]
    rw [if_neg (by omega), if_pos h2]
    exact hk _
  all_goals
    subst h
    simp only [tok]
    simp
    exact hk _
/-- A key with more behind it. -/
theorem key_more (r t : List Int) : match key r with
    | .wild => key (r ++ t) = .wild
    | .bad c => c = 1 ∨ key (r ++ t) = .bad c
    | .ok s r' => key (r ++ t) = .ok s (r' ++ t) := by
  cases r with
  | nil => simp [key]
  | cons m r =>
    have h := tok_more (m :: r) t
    simp only [List.cons_append] at h ⊢
    simp only [key]
    by_cases hm : isStr m = true
    · rw [if_pos hm, if_pos hm]
      rcases isStr_tok (r := r) hm with e | e | ⟨x, r', e⟩
      · rw [e]; simp
      · rw [e] at h ⊢
        simp only [Tk.more] at h
        rw [h]
      · rw [e] at h ⊢
        simp only [Tk.more] at h
        rw [h]
    · rw [if_neg hm, if_neg hm]
      simp
/-- More behind a value. -/
def PR.more (t : List Int) : PR → PR → Prop
  | .wild, u => u = .wild
  | .bad c, u => c = 1 ∨ u = .bad c
  | .ok x r, u => u = .ok x (r ++ t)
def PRs.more (t : List Int) : PRs → PRs → Prop
  | .wild, u => u = .wild
  | .bad c, u => c = 1 ∨ u = .bad c
  | .ok ks xs r, u => u = .ok ks xs (r ++ t)
theorem pre_more (t : List Int) (ks : List ByteArray) (x : S26) {a b : PRs} (h : a.more t b) : (a.pre ks x).more t (b.pre ks x) := by
  cases a with
  | wild => simp only [PRs.more] at h; subst h; rfl
  | bad c =>
    simp only [PRs.more] at h
    rcases h with h | h
    · exact .inl h
    · subst h; exact .inr rfl
  | ok a b c => simp only [PRs.more] at h; subst h; rfl
theorem rows_more {p : List Int → PR} (t : List Int) (hp : ∀ r, (p r).more t (p (r ++ t))) (m : Bool) (n : Nat) : ∀ r, (rows p m n r).more t (rows p m n (r ++ t)) := by
  induction n with
  | zero => intro r; rfl
  | succ n ih =>
    intro r
    cases m
    · simp only [rows, Bool.false_eq_true, if_false]
      have h := hp r
      cases e : p r with
      | wild => rw [e] at h; simp only [PR.more] at h; rw [h]; rfl
      | bad c =>
        rw [e] at h
        simp only [PR.more] at h
        rcases h with h | h
        · exact .inl h
        · rw [h]; exact .inr rfl
      | ok x r2 =>
        rw [e] at h
        simp only [PR.more] at h
        rw [h]
        exact pre_more t _ _ (ih r2)
    · simp only [rows, if_true]
      have hk := key_more r t
      cases ek : key r with
      | wild => rw [ek] at hk; simp only at hk; rw [hk]; rfl
      | bad c =>
        rw [ek] at hk
        simp only at hk
        rcases hk with h | h
        · exact .inl h
        · rw [h]; exact .inr rfl
      | ok s r1 =>
        rw [ek] at hk
        simp only at hk
        rw [hk]
        have h := hp r1
        simp only
        cases e : p r1 with
        | wild => rw [e] at h; simp only [PR.more] at h; rw [h]; rfl
        | bad c =>
          rw [e] at h
          simp only [PR.more] at h
          rcases h with h | h
          · exact .inl h
          · rw [h]; exact .inr rfl
        | ok x r2 =>
          rw [e] at h
          simp only [PR.more] at h
          rw [h]
          exact pre_more t _ _ (ih r2)
theorem parse_more (t : List Int) (f : Nat) : ∀ (deep : Int) (r : List Int), (parse f deep r).more t (parse f deep (r ++ t)) := by
  induction f with
  | zero => intro deep r; rfl
  | succ f ih =>
    intro deep r
    simp only [parse]
    split
    · exact .inr rfl
    · have h := tok_more r t
      cases e : tok r with
      | bad => exact .inl rfl
      | wild => rw [e] at h; simp only [Tk.more] at h; rw [h]; rfl
      | val x r' => rw [e] at h; simp only [Tk.more] at h; rw [h]; rfl
      | opn k g n r' =>
        rw [e] at h
        simp only [Tk.more] at h
        rw [h]
        have h2 := rows_more t (ih (deep + 1)) (k == 7) n r'
        simp only
        cases e2 : rows (parse f (deep + 1)) (k == 7) n r' with
        | wild => rw [e2] at h2; simp only [PRs.more] at h2; rw [h2]; rfl
        | bad c =>
          rw [e2] at h2
          simp only [PRs.more] at h2
          rcases h2 with h2 | h2
          · exact .inl h2
          · rw [h2]; exact .inr rfl
        | ok ks xs r2 => rw [e2] at h2; simp only [PRs.more] at h2; rw [h2]; rfl
/-- A true beginning of a packed value is no value. -/
theorem parse_cut {f : Nat} {deep : Int} {p t : List Int} {x : S26} (ht : t ≠ []) (h : parse f deep (p ++ t) = .ok x []) : parse f deep p = .bad 1 := by
  have hm := parse_more t f deep p
  rw [h] at hm
  cases e : parse f deep p with
  | wild => rw [e] at hm; simp [PR.more] at hm
  | bad c =>
    rw [e] at hm
    simp [PR.more] at hm
    rw [hm]
  | ok y r =>
    rw [e] at hm
    simp only [PR.more, PR.ok.injEq] at hm
    have := hm.2
    simp at this
    exact absurd this.2 ht
end Go.Proofs.Ytjnookhdiolhgaa

namespace Go.Proofs.Ytjnookhdiolhgaa
set_option linter.unusedVariables false
set_option linter.unusedSimpArgs false
open Go.RowKit Go.Proofs.YtjnookhdiolhgaaW.PrintWords

/-- An error that is there. -/
def IsErr (v : Value) : Prop := ∃ (T : TypeId) (u : Value), v = .iface T u

/-- Block ub is a reader of the bytes xs (at A), of which off are read; its marker is t, s, l; ev is its error; c the kind of what is next. -/
structure UB (w : World) (ub : Nat) (A : Option Addr) (cap : Nat) (xs : List Int) (off : Nat) (t s l : Int) (ev : Value) (c : Int) : Prop where
  box : w.heap[ub]? = some (.cells #[.slice A xs.length cap, .int .u32 off, .int .u32 xs.length, .int .i64 t, .int .i8 s, .int .u8 l, ev, .int .i64 c] 117 (0, 0))
  row : ReadsInt w .u8 A xs.length xs
  cap : xs.length ≤ cap
  far : ∀ ad, A = some ad → ad.block ≠ ub
  len : xs.length ≤ 2147483647
  byte : ∀ x ∈ xs, 0 ≤ x ∧ x ≤ 255

section
variable {w w' : World} {ub : Nat} {A : Option Addr} {cap : Nat} {xs : List Int} {off off' : Nat} {t s l t' s' l' c c' : Int} {ev ev' : Value}
theorem UB.lt (h : UB w ub A cap xs off t s l ev c) : ub < w.heap.size := blk_lt h.box
theorem UB.move (h : UB w ub A cap xs off t s l ev c) (hb : Below w.heap.size w w') : UB w' ub A cap xs off t s l ev c :=
  ⟨(hb.block ub h.lt).trans h.box, h.row.below hb, h.cap, h.far, h.len, h.byte⟩
theorem UB.alloc (h : UB w ub A cap xs off t s l ev c) (o : Obj) : UB (w.alloc o) ub A cap xs off t s l ev c := h.move (below_alloc (Below.refl _ _) o)
theorem UB.drew (h : UB w ub A cap xs off t s l ev c) : UB w.drew ub A cap xs off t s l ev c := h.move (below_drew (Below.refl _ _))
theorem UB.drewN (h : UB w ub A cap xs off t s l ev c) (n : Nat) : UB (w.drewN n) ub A cap xs off t s l ev c := h.move (pw_below_drewN (Below.refl _ _) n)
/-- Another block was written. -/
theorem UB.grown (h : UB w ub A cap xs off t s l ev c) {row : Option Nat} (hg : w.grownBy w' row) (h1 : some ub ≠ row) (h2 : ∀ ad, A = some ad → some ad.block ≠ row) : UB w' ub A cap xs off t s l ev c :=
  ⟨blk_grown h.box hg h1, reads_keep h.row (fun ad e hl => hg.block _ hl (h2 ad e)), h.cap, h.far, h.len, h.byte⟩
/-- Its own block was written. -/
theorem UB.put (h : UB w ub A cap xs off t s l ev c) (j : Nat) (u : Value)
    (e : (#[.slice A xs.length cap, .int .u32 off, .int .u32 xs.length, .int .i64 t, .int .i8 s, .int .u8 l, ev, .int .i64 c] : Array Value).setIfInBounds j u = #[.slice A xs.length cap, .int .u32 off', .int .u32 xs.length, .int .i64 t', .int .i8 s', .int .u8 l', ev', .int .i64 c']) :
    UB (w.setCell ⟨ub, j, none⟩ u) ub A cap xs off' t' s' l' ev' c' :=
  ⟨blk_put h.box j u e, reads_keep h.row (fun ad ea hl => Below.heap_setCell w _ u _ (h.far ad ea)), h.cap, h.far, h.len, h.byte⟩
theorem UB.moved (h : UB w ub A cap xs off t s l ev c) (o : Nat) : UB (w.setCell ⟨ub, 1, none⟩ (.int .u32 o)) ub A cap xs o t s l ev c := h.put 1 _ rfl
theorem UB.err (h : UB w ub A cap xs off t s l ev c) (v : Value) : UB (w.setCell ⟨ub, 6, none⟩ v) ub A cap xs off t s l v c := h.put 6 _ rfl
/-- Its cells. -/
theorem UB.cells (h : UB w ub A cap xs off t s l ev c) : w.cell? ⟨ub, 0, none⟩ = some (.slice A xs.length cap) ∧ w.cell? ⟨ub, 1, none⟩ = some (.int .u32 off) ∧ w.cell? ⟨ub, 2, none⟩ = some (.int .u32 xs.length) ∧
    w.cell? ⟨ub, 3, none⟩ = some (.int .i64 t) ∧ w.cell? ⟨ub, 4, none⟩ = some (.int .i8 s) ∧ w.cell? ⟨ub, 5, none⟩ = some (.int .u8 l) ∧ w.cell? ⟨ub, 6, none⟩ = some ev ∧ w.cell? ⟨ub, 7, none⟩ = some (.int .i64 c) :=
  ⟨blk_cell h.box 0, blk_cell h.box 1, blk_cell h.box 2, blk_cell h.box 3, blk_cell h.box 4, blk_cell h.box 5, blk_cell h.box 6, blk_cell h.box 7⟩
theorem UB.frozen (h : UB w ub A cap xs off t s l ev c) (j : Nat) : w.frozen? ⟨ub, j, none⟩ = false := blk_frozen h.box j
theorem rd_mem {xs : List Int} {i : Nat} (h : i < xs.length) : rd xs (i : Int) ∈ xs := by
  unfold rd
  rw [Int.toNat_natCast, List.getD_eq_getElem?_getD, List.getElem?_eq_getElem h]
  exact List.getElem_mem h
theorem UB.rdb (h : UB w ub A cap xs off t s l ev c) {i : Nat} (hi : i < xs.length) : 0 ≤ rd xs (i : Int) ∧ rd xs (i : Int) ≤ 255 := h.byte _ (rd_mem hi)
end
end Go.Proofs.Ytjnookhdiolhgaa

namespace Go.Proofs.Ytjnookhdiolhgaa
set_option linter.unusedVariables false
set_option linter.unusedSimpArgs false
open Go.RowKit Go.Proofs.YtjnookhdiolhgaaW.PrintWords

section
variable {ub : Nat} {A : Option Addr} {cap : Nat} {xs : List Int} {off : Nat} {t s l c : Int} {ev : Value}
theorem grown_drewN (w : World) (n : Nat) (row : Option Nat) : w.grownBy (w.drewN n) row := grown_of_below (pw_below_drewN (Below.refl _ _) n) row

set_option maxHeartbeats 1000000 in
set_option maxRecDepth 100000 in
theorem setErr_nil (T : TypeId) (u : Value) (w : World) (h : UB w ub A cap xs off t s l .nilIface c) :
    Calls Try.prog 112 #[.pointer (some ⟨ub, 0, none⟩), .iface T u] w fun e w' => e = .returned (.tuple #[]) ∧ UB w' ub A cap xs off t s l (.iface T u) c ∧ w.grownBy w' (some ub) := by
  obtain ⟨-, -, -, -, -, -, c6, -⟩ := h.cells
  have f6 := h.frozen 6
  have H := Lib.hid h
  clear h
  go_enter Try.func112, Try.ntmps112
  go_wp2
  go_end0
  exact ⟨rfl, H.out.err _, grown_set (World.grownBy.refl w _) 6 _⟩

set_option maxHeartbeats 1000000 in
set_option maxRecDepth 100000 in
theorem pop_ok (w : World) (h : UB w ub A cap xs off t s l ev c) (ho : off < xs.length) :
    Calls Try.prog 110 #[.pointer (some ⟨ub, 0, none⟩)] w fun e w' => e = .returned (.int .u8 (rd xs off)) ∧ UB w' ub A cap xs (off + 1) t s l ev c ∧ w.grownBy w' (some ub) := by
  obtain ⟨c0, c1, c2, -⟩ := h.cells
  have f1 := h.frozen 1
  obtain ⟨ad, hA, hr⟩ := h.row.at_ (off : Int) (by omega) (by omega)
  rw [Int.toNat_natCast] at hr
  subst hA
  have hn := h.len
  have H := Lib.hid h
  clear h
  go_enter Try.func110, Try.ntmps110
  go_wp2
  go_quiet (fail)
  go_wp2
  go_quiet (fail)
  go_wp2
  go_ret
  exact ⟨rfl, (H.out.drewN _).moved (off + 1), grown_set (grown_drewN w _ _) 1 _⟩

set_option maxHeartbeats 1000000 in
set_option maxRecDepth 100000 in
theorem pop_end (w : World) (h : UB w ub A cap xs off t s l .nilIface c) (ho : xs.length ≤ off) (h2 : off ≤ 2147483647) :
    Calls Try.prog 110 #[.pointer (some ⟨ub, 0, none⟩)] w fun e w' => e = .returned (.int .u8 0) ∧ (∃ ev', UB w' ub A cap xs off t s l ev' c ∧ IsErr ev') ∧ w.grownBy w' (some ub) := by
  obtain ⟨c0, c1, c2, -⟩ := h.cells
  have hn := h.len
  have H := Lib.hid h
  clear h
  go_enter Try.func110, Try.ntmps110
  go_wp2
  go_quiet (fail)
  go_wp2_with fail
  refine (setErr_nil _ _ _ ((H.out.drewN _).alloc _)).mono ?_
  rintro e w1 ⟨rfl, h1, hg⟩
  have H1 := Lib.hid h1
  have HG := Lib.hid hg
  clear h1 hg
  go_wp2_with fail
  go_ret
  exact ⟨rfl, ⟨_, H1.out, _, _, rfl⟩, grown_trans' (grown_trans' (grown_drewN w _ _) (World.grownBy_alloc _ _ _)) HG.out⟩

set_option maxHeartbeats 1000000 in
set_option maxRecDepth 100000 in
/-- read: so many bytes are there. -/
theorem read_ok (n : Nat) (w : World) (h : UB w ub A cap xs off t s l ev c) (ho : off + n ≤ xs.length) :
    Calls Try.prog 116 #[.pointer (some ⟨ub, 0, none⟩), .int .u32 n] w fun e w' => (∃ A', e = .returned (.slice A' n (cap - off)) ∧ ReadsInt w' .u8 A' n ((xs.drop off).take n)) ∧ UB w' ub A cap xs (off + n) t s l ev c ∧ w.grownBy w' (some ub) := by
  obtain ⟨c0, c1, c2, -⟩ := h.cells
  have f1 := h.frozen 1
  have hn := h.len
  have hsl : ∀ W : World, (Instr.slice 69 (.slice A xs.length cap) (some (.int .u32 (off : Int))) (some (.int .u32 ((off : Int) + (n : Int)))) none).run Try.prog W = .ok (.slice (if cap = off then A else A.map (·.add (off * 1))) n (cap - off)) W := by
    obtain ⟨i, hi, hz⟩ := Option.map_eq_some_iff.1 (PAll.info5)
    simp only [Prod.mk.injEq] at hz
    intro W
    have h3 := cut_mid (P := Try.prog) 69 5 .u32 .u32 Try.underlying69 hi 1 hz.2.1 A xs.length cap (off : Int) ((off : Int) + (n : Int)) (by omega) (by omega) (by omega) h.cap W
    have e1 : ((off : Int) + (n : Int)).toNat - (off : Int).toNat = n := by omega
    rw [e1, Int.toNat_natCast] at h3
    exact h3
  have hrd : ReadsInt w .u8 (if cap = off then A else A.map (·.add (off * 1))) n ((xs.drop off).take n) := by
    have h3 := (h.row.drop_ off (by omega) h.cap).take_ n (by omega)
    simpa using h3
  have HR := Lib.hid hrd
  have H := Lib.hid h
  clear h hrd
  generalize hA' : (if cap = off then A else A.map (·.add (off * 1))) = A' at hsl HR
  have HAA := Lib.hid hA'
  clear hA'
  have hle : decide (((off : Int) + (n : Int)) > (xs.length : Int)) = false := decide_eq_false (by omega)
  go_enter Try.func116, Try.ntmps116
  go_wp2
  go_ret
  have hput := H.out.moved (off + n)
  refine ⟨⟨A', rfl, ?_⟩, hput, grown_set (World.grownBy.refl w _) 1 _⟩
  refine reads_keep HR.out (fun ad ea hl => Below.heap_setCell w _ _ _ ?_)
  have hf := H.out.far
  have hb := HAA.out
  show ad.block ≠ ub
  split at hb
  · exact hf ad (by rw [hb]; exact ea)
  · cases hA0 : A with
    | none => rw [hA0, ea] at hb; simp at hb
    | some a0 =>
      rw [hA0, ea] at hb
      simp only [Option.map_some, Option.some.injEq] at hb
      rw [← hb, addr_block]
      exact hf a0 hA0

set_option maxHeartbeats 1000000 in
set_option maxRecDepth 100000 in
/-- read: so many bytes are not there. -/
theorem read_end (n : Nat) (w : World) (h : UB w ub A cap xs off t s l .nilIface c) (ho : xs.length < off + n) (h2 : off + n ≤ 4294967295) :
    Calls Try.prog 116 #[.pointer (some ⟨ub, 0, none⟩), .int .u32 n] w fun e w' => (∃ A' c', e = .returned (.slice A' 0 c') ∧ ReadsInt w' .u8 A' 0 []) ∧ (∃ ev', UB w' ub A cap xs off t s l ev' c ∧ IsErr ev') ∧ w.grownBy w' (some ub) := by
  obtain ⟨c0, c1, c2, -⟩ := h.cells
  have hn := h.len
  have H := Lib.hid h
  clear h
  have hle : decide (((off : Int) + (n : Int)) > (xs.length : Int)) = true := decide_eq_true (by omega)
  go_enter Try.func116, Try.ntmps116
  go_wp2_with fail
  refine (setErr_nil _ _ _ (H.out.alloc _)).mono ?_
  rintro e w1 ⟨rfl, h1, hg⟩
  have H1 := Lib.hid h1
  have HG := Lib.hid hg
  clear h1 hg
  go_wp2_with fail
  go_ret
  exact ⟨⟨_, _, rfl, ⟨rfl, by decide, fun h => absurd h (by decide)⟩⟩, ⟨_, H1.out.alloc _, _, _, rfl⟩, grown_trans' (grown_trans' (World.grownBy_alloc w _ _) HG.out) (World.grownBy_alloc _ _ _)⟩
end
end Go.Proofs.Ytjnookhdiolhgaa

namespace Go.Proofs.Ytjnookhdiolhgaa
set_option linter.unusedVariables false
set_option linter.unusedSimpArgs false
open Go.RowKit Go.Proofs.YtjnookhdiolhgaaW.PrintWords

/-- What a method that reads a number of some bytes leaves. -/
structure QP (q : Option (Int × List Int)) (xs : List Int) (off : Nat) (n : Int) (off' : Nat) (ev ev' : Value) : Prop where
  ok : ∀ m r, q = some (m, r) → n = m ∧ xs.drop off' = r ∧ off' ≤ xs.length ∧ ev' = ev
  bad : q = none → n = 0 ∧ off' = off ∧ IsErr ev'

theorem wrap_u64_i64 (n : Int) : IntKind.i64.wrap (IntKind.u64.wrap n) = IntKind.i64.wrap n := by
  rw [IntKind.wrap_i64, IntKind.wrap_i64, IntKind.wrap_u64]
  omega
section
variable {ub : Nat} {A : Option Addr} {cap : Nat} {xs : List Int} {off : Nat} {t s l c : Int} {ev : Value}

/-- The rest of the bytes, cut off. -/
theorem UB.cut {w : World} (h : UB w ub A cap xs off t s l ev c) (ho : off ≤ xs.length) :
    ∃ A', (∀ W : World, (Instr.slice 69 (.slice A xs.length cap) (some (.int .u32 (off : Int))) none none).run Try.prog W = .ok (.slice A' (xs.drop off).length (cap - off)) W) ∧
      (∀ W : World, ReadsInt W .u8 A xs.length xs → ReadsInt W .u8 A' (xs.drop off).length (xs.drop off)) ∧ (xs.drop off).length ≤ cap - off ∧ ∀ x ∈ xs.drop off, 0 ≤ x ∧ x ≤ 255 := by
  obtain ⟨i, hi, hz⟩ := Option.map_eq_some_iff.1 (PAll.info5)
  simp only [Prod.mk.injEq] at hz
  obtain ⟨A', h1, h2⟩ := print_cut (P := Try.prog) 69 5 .u32 Try.underlying69 hi hz.2.1 A xs.length cap off ho
  have hl : (xs.drop off).length = xs.length - off := List.length_drop
  have hc := h.cap
  exact ⟨A', fun W => by rw [hl]; exact h1 W, fun W hr => by rw [hl]; exact h2 W _ xs h.cap hr, by omega, fun x hx => h.byte x (List.mem_of_mem_drop hx)⟩

theorem quiet16 {W : World} {A' : Option Addr} {c' : Nat} {ys : List Int} (hr : ReadsInt W .u8 A' ys.length ys) (hc : ys.length ≤ c') (h2 : 2 ≤ ys.length) (hb : ∀ x ∈ ys, 0 ≤ x ∧ x ≤ 255) (n : Nat) :
    Calls Try.prog 113 #[.slice A' ys.length c'] (W.drewN n) fun e w' => e = .returned (.int .u16 (be (ys.take 2))) ∧ ∃ m, w' = W.drewN m :=
  Calls.quiet_of ((uint16_any (W.drewN n) (hr.drewN n) hc h2 hb).mono fun _ _ ⟨he, hd⟩ => ⟨he, hd.out⟩)
theorem quiet32 {W : World} {A' : Option Addr} {c' : Nat} {ys : List Int} (hr : ReadsInt W .u8 A' ys.length ys) (hc : ys.length ≤ c') (h2 : 4 ≤ ys.length) (hb : ∀ x ∈ ys, 0 ≤ x ∧ x ≤ 255) (n : Nat) :
    Calls Try.prog 114 #[.slice A' ys.length c'] (W.drewN n) fun e w' => e = .returned (.int .u32 (be (ys.take 4))) ∧ ∃ m, w' = W.drewN m :=
  Calls.quiet_of ((uint32_any (W.drewN n) (hr.drewN n) hc h2 hb).mono fun _ _ ⟨he, hd⟩ => ⟨he, hd.out⟩)

set_option maxHeartbeats 1000000 in
set_option maxRecDepth 100000 in
theorem readlen_end (k : Nat) (hk : k ≤ 8) (w : World) (h : UB w ub A cap xs off t s l .nilIface c) (ho : xs.length < off + k) (h2 : off ≤ 2147483647) :
    Calls Try.prog 118 #[.pointer (some ⟨ub, 0, none⟩), .int .u32 k] w fun e w' => e = .returned (.int .u32 0) ∧ (∃ ev', UB w' ub A cap xs off t s l ev' c ∧ IsErr ev') ∧ w.grownBy w' (some ub) := by
  obtain ⟨c0, c1, c2, -⟩ := h.cells
  have hn := h.len
  have H := Lib.hid h
  clear h
  have hle : decide (((off : Int) + (k : Int)) > (xs.length : Int)) = true := decide_eq_true (by omega)
  go_enter Try.func118, Try.ntmps118
  go_wp2_with fail
  refine (setErr_nil _ _ _ (H.out.alloc _)).mono ?_
  rintro e w1 ⟨rfl, h1, hg⟩
  have H1 := Lib.hid h1
  have HG := Lib.hid hg
  clear h1 hg
  go_wp2_with fail
  go_ret
  exact ⟨rfl, ⟨_, H1.out, _, _, rfl⟩, grown_trans' (World.grownBy_alloc w _ _) HG.out⟩

theorem qp_bad {k : Nat} {ev ev' : Value} (ho : xs.length < off + k) (h2 : off ≤ xs.length) (hi : IsErr ev') : QP (sizedN k (xs.drop off)) xs off 0 off ev ev' := by
  have e : sizedN k (xs.drop off) = none := by
    unfold sizedN
    rw [if_pos (by rw [List.length_drop]; omega)]
  exact ⟨fun m r hq => (by rw [e] at hq; cases hq), fun _ => ⟨rfl, rfl, hi⟩⟩
theorem readlen_bad (k : Nat) (hk : k ≤ 8) (w : World) (h : UB w ub A cap xs off t s l .nilIface c) (ho : xs.length < off + k) (h2 : off ≤ xs.length) :
    Calls Try.prog 118 #[.pointer (some ⟨ub, 0, none⟩), .int .u32 k] w fun e w' => ∃ n off' ev', e = .returned (.int .u32 n) ∧ UB w' ub A cap xs off' t s l ev' c ∧ w.grownBy w' (some ub) ∧ QP (sizedN k (xs.drop off)) xs off n off' .nilIface ev' :=
  (readlen_end k hk w h ho (by have := h.len; omega)).mono fun e w' ⟨he, ⟨ev', hu, hi⟩, hg⟩ => ⟨0, off, ev', he, hu, hg, qp_bad ho h2 hi⟩
theorem qp_ok {k : Nat} {ev : Value} (hk : off + k ≤ xs.length) : QP (sizedN k (xs.drop off)) xs off (be ((xs.drop off).take k)) (off + k) ev ev := by
  constructor
  · intro m r hq
    unfold sizedN at hq
    rw [if_neg (by rw [List.length_drop]; omega)] at hq
    injection hq with hq
    simp only [Prod.mk.injEq] at hq
    refine ⟨hq.1, ?_, hk, rfl⟩
    rw [← hq.2, List.drop_drop]
  · intro hq
    unfold sizedN at hq
    rw [if_neg (by rw [List.length_drop]; omega)] at hq
    cases hq

set_option maxHeartbeats 1000000 in
set_option maxRecDepth 100000 in
theorem readlen1 (w : World) (h : UB w ub A cap xs off t s l ev c) (ho : off + 1 ≤ xs.length) :
    Calls Try.prog 118 #[.pointer (some ⟨ub, 0, none⟩), .int .u32 1] w fun e w' => e = .returned (.int .u32 (rd xs off)) ∧ UB w' ub A cap xs (off + 1) t s l ev c ∧ w.grownBy w' (some ub) := by
  obtain ⟨c0, c1, c2, -⟩ := h.cells
  have f1 := h.frozen 1
  obtain ⟨ad, hA, hr⟩ := h.row.at_ (off : Int) (by omega) (by omega)
  rw [Int.toNat_natCast] at hr
  subst hA
  have hb := h.rdb (i := off) (by omega)
  have hn := h.len
  have H := Lib.hid h
  clear h
  have hle : decide (((off : Int) + 1) > (xs.length : Int)) = false := decide_eq_false (by omega)
  go_enter Try.func118, Try.ntmps118
  go_wp2
  go_quiet (fail)
  go_wp2
  go_ret
  exact ⟨rfl, (H.out.drewN _).moved (off + 1), grown_set (grown_drewN w _ _) 1 _⟩

set_option maxHeartbeats 1000000 in
set_option maxRecDepth 100000 in
theorem readlen2 (w : World) (h : UB w ub A cap xs off t s l ev c) (ho : off + 2 ≤ xs.length) :
    Calls Try.prog 118 #[.pointer (some ⟨ub, 0, none⟩), .int .u32 2] w fun e w' => e = .returned (.int .u32 (be ((xs.drop off).take 2))) ∧ UB w' ub A cap xs (off + 2) t s l ev c ∧ w.grownBy w' (some ub) := by
  obtain ⟨c0, c1, c2, -⟩ := h.cells
  have f1 := h.frozen 1
  obtain ⟨A', hsl, hrd, hcp, hby⟩ := h.cut (by omega)
  have HQ := Lib.hid (fun n => quiet16 (W := w) (hrd w h.row) hcp (by rw [List.length_drop]; omega) hby n)
  have hn := h.len
  obtain ⟨ys, hys⟩ : ∃ ys, xs.drop off = ys := ⟨_, rfl⟩
  have hyl : ys.length = xs.length - off := by rw [← hys, List.length_drop]
  rw [hys] at hsl hrd hcp hby HQ ⊢
  have HY := Lib.hid hys
  clear hys
  have hr := be_range (ys.take 2) (fun x hx => hby x (List.mem_of_mem_take hx))
  have hl2 : (ys.take 2).length = 2 := by rw [List.length_take]; omega
  rw [hl2] at hr
  have hr0 : 0 ≤ be (ys.take 2) := hr.1
  have hr1 : be (ys.take 2) < 65536 := hr.2
  generalize be (ys.take 2) = m at *
  have H := Lib.hid h
  clear h hrd hcp hby hr hl2 hyl
  have hle : decide (((off : Int) + 2) > (xs.length : Int)) = false := decide_eq_false (by omega)
  go_enter Try.func118, Try.ntmps118
  go_wp2
  go_quiet ((go_at_call 113; exact HQ.out _))
  go_wp2
  go_ret
  exact ⟨rfl, (H.out.drewN _).moved (off + 2), grown_set (grown_drewN w _ _) 1 _⟩

set_option maxHeartbeats 1000000 in
set_option maxRecDepth 100000 in
theorem readlen4 (w : World) (h : UB w ub A cap xs off t s l ev c) (ho : off + 4 ≤ xs.length) :
    Calls Try.prog 118 #[.pointer (some ⟨ub, 0, none⟩), .int .u32 4] w fun e w' => e = .returned (.int .u32 (be ((xs.drop off).take 4))) ∧ UB w' ub A cap xs (off + 4) t s l ev c ∧ w.grownBy w' (some ub) := by
  obtain ⟨c0, c1, c2, -⟩ := h.cells
  have f1 := h.frozen 1
  obtain ⟨A', hsl, hrd, hcp, hby⟩ := h.cut (by omega)
  have HQ := Lib.hid (fun n => quiet32 (W := w) (hrd w h.row) hcp (by rw [List.length_drop]; omega) hby n)
  have hn := h.len
  obtain ⟨ys, hys⟩ : ∃ ys, xs.drop off = ys := ⟨_, rfl⟩
  rw [hys] at hsl hrd hcp hby HQ ⊢
  have HY := Lib.hid hys
  clear hys
  generalize be (ys.take 4) = m at *
  have H := Lib.hid h
  clear h hrd hcp hby
  have hle : decide (((off : Int) + 4) > (xs.length : Int)) = false := decide_eq_false (by omega)
  go_enter Try.func118, Try.ntmps118
  go_wp2
  go_quiet ((go_at_call 114; exact HQ.out _))
  go_wp2
  go_ret
  exact ⟨rfl, (H.out.drewN _).moved (off + 4), grown_set (grown_drewN w _ _) 1 _⟩

theorem rd_take1 {xs : List Int} {off : Nat} (h : off < xs.length) : rd xs (off : Int) = be ((xs.drop off).take 1) := by
  unfold rd
  rw [Int.toNat_natCast, List.getD_eq_getElem?_getD, List.getElem?_eq_getElem h, List.drop_eq_getElem_cons h, List.take_succ_cons, List.take_zero, be1]
  rfl
theorem readlen_any (k : Nat) (hk : k = 1 ∨ k = 2 ∨ k = 4) (w : World) (h : UB w ub A cap xs off t s l .nilIface c) (h2 : off ≤ xs.length) :
    Calls Try.prog 118 #[.pointer (some ⟨ub, 0, none⟩), .int .u32 k] w fun e w' => ∃ n off' ev', e = .returned (.int .u32 n) ∧ UB w' ub A cap xs off' t s l ev' c ∧ w.grownBy w' (some ub) ∧ QP (sizedN k (xs.drop off)) xs off n off' .nilIface ev' := by
  by_cases hb : xs.length < off + k
  · exact readlen_bad k (by omega) w h hb h2
  · rcases hk with rfl | rfl | rfl
    · exact (readlen1 w h (by omega)).mono fun e w' ⟨he, hu, hg⟩ => ⟨_, off + 1, _, he, hu, hg, by rw [rd_take1 (by omega)]; exact qp_ok (by omega)⟩
    · exact (readlen2 w h (by omega)).mono fun e w' ⟨he, hu, hg⟩ => ⟨_, off + 2, _, he, hu, hg, qp_ok (by omega)⟩
    · exact (readlen4 w h (by omega)).mono fun e w' ⟨he, hu, hg⟩ => ⟨_, off + 4, _, he, hu, hg, qp_ok (by omega)⟩

/-- A byte's marker. -/
def mark (m : Int) : Int × Int × Int := (PAll.packstream_markerOf.f m).getD (0, 0, 0)
theorem mark_some (m : Int) : PAll.packstream_markerOf.f m = some (mark m) := by
  have h : ∃ r, PAll.packstream_markerOf.f m = some r := by
    unfold PAll.packstream_markerOf.f
    by_cases hc : m < 128
    · rw [if_pos hc]; exact ⟨_, rfl⟩
    rw [if_neg hc]; clear hc
    by_cases hc : m < 144
    · rw [if_pos hc]; exact ⟨_, rfl⟩
    rw [if_neg hc]; clear hc
    by_cases hc : m < 160
    · rw [if_pos hc]; exact ⟨_, rfl⟩
    rw [if_neg hc]; clear hc
    by_cases hc : m < 176
    · rw [if_pos hc]; exact ⟨_, rfl⟩
    rw [if_neg hc]; clear hc
    by_cases hc : m < 192
    · rw [if_pos hc]; exact ⟨_, rfl⟩
    rw [if_neg hc]; clear hc
    by_cases hc : m ≥ 240
    · rw [if_pos hc]; exact ⟨_, rfl⟩
    rw [if_neg hc]; clear hc
    by_cases hc : m = 192
    · rw [if_pos hc]; exact ⟨_, rfl⟩
    rw [if_neg hc]; clear hc
    by_cases hc : m = 193
    · rw [if_pos hc]; exact ⟨_, rfl⟩
    rw [if_neg hc]; clear hc
    by_cases hc : m = 194
    · rw [if_pos hc]; exact ⟨_, rfl⟩
    rw [if_neg hc]; clear hc
    by_cases hc : m = 195
    · rw [if_pos hc]; exact ⟨_, rfl⟩
    rw [if_neg hc]; clear hc
    by_cases hc : m = 200
    · rw [if_pos hc]; exact ⟨_, rfl⟩
    rw [if_neg hc]; clear hc
    by_cases hc : m = 201
    · rw [if_pos hc]; exact ⟨_, rfl⟩
    rw [if_neg hc]; clear hc
    by_cases hc : m = 202
    · rw [if_pos hc]; exact ⟨_, rfl⟩
    rw [if_neg hc]; clear hc
    by_cases hc : m = 203
    · rw [if_pos hc]; exact ⟨_, rfl⟩
    rw [if_neg hc]; clear hc
    by_cases hc : m = 204
    · rw [if_pos hc]; exact ⟨_, rfl⟩
    rw [if_neg hc]; clear hc
    by_cases hc : m = 205
    · rw [if_pos hc]; exact ⟨_, rfl⟩
    rw [if_neg hc]; clear hc
    by_cases hc : m = 206
    · rw [if_pos hc]; exact ⟨_, rfl⟩
    rw [if_neg hc]; clear hc
    by_cases hc : m = 208
    · rw [if_pos hc]; exact ⟨_, rfl⟩
    rw [if_neg hc]; clear hc
    by_cases hc : m = 209
    · rw [if_pos hc]; exact ⟨_, rfl⟩
    rw [if_neg hc]; clear hc
    by_cases hc : m = 210
    · rw [if_pos hc]; exact ⟨_, rfl⟩
    rw [if_neg hc]; clear hc
    by_cases hc : m = 212
    · rw [if_pos hc]; exact ⟨_, rfl⟩
    rw [if_neg hc]; clear hc
    by_cases hc : m = 213
    · rw [if_pos hc]; exact ⟨_, rfl⟩
    rw [if_neg hc]; clear hc
    by_cases hc : m = 214
    · rw [if_pos hc]; exact ⟨_, rfl⟩
    rw [if_neg hc]; clear hc
    by_cases hc : m = 216
    · rw [if_pos hc]; exact ⟨_, rfl⟩
    rw [if_neg hc]; clear hc
    by_cases hc : m = 217
    · rw [if_pos hc]; exact ⟨_, rfl⟩
    rw [if_neg hc]; clear hc
    by_cases hc : m = 218
    · rw [if_pos hc]; exact ⟨_, rfl⟩
    rw [if_neg hc]; clear hc
    exact ⟨_, rfl⟩
  obtain ⟨r, hr⟩ := h
  unfold mark
  rw [hr]
  rfl

set_option maxHeartbeats 1000000 in
set_option maxRecDepth 100000 in
theorem next_ok (w : World) (h : UB w ub A cap xs off t s l ev c) (ho : off < xs.length) :
    Calls Try.prog 62 #[.pointer (some ⟨ub, 0, none⟩)] w fun e w' => e = .returned (.tuple #[]) ∧ UB w' ub A cap xs (off + 1) (mark (rd xs off)).1 (mark (rd xs off)).2.1 (mark (rd xs off)).2.2 ev (mark (rd xs off)).1 ∧ w.grownBy w' (some ub) := by
  have HP := Lib.hid (pop_ok w h ho)
  have HM := Lib.hid (fun w => PAll.packstream_markerOf.calls (rd xs off) (mark (rd xs off)).1 (mark (rd xs off)).2.1 (mark (rd xs off)).2.2 w (mark_some _))
  generalize (mark (rd xs off)).1 = t1 at *
  generalize (mark (rd xs off)).2.1 = s1 at *
  generalize (mark (rd xs off)).2.2 = l1 at *
  generalize rd xs off = m at *
  clear h
  go_enter Try.func62, Try.ntmps62
  go_wp2_with fail
  refine HP.out.mono ?_
  rintro e w1 ⟨rfl, h1, hg⟩
  have H1 := Lib.hid h1
  have HG := Lib.hid hg
  clear h1 hg
  go_wp2_with fail
  refine (HM.out _).mono ?_
  rintro e w2 ⟨rfl, hb⟩
  have h2 := H1.out.move hb
  obtain ⟨c0, c1, c2, c3, c4, c5, c6, c7⟩ := h2.cells
  have f3 := h2.frozen 3
  have f4 := h2.frozen 4
  have f5 := h2.frozen 5
  have f7 := h2.frozen 7
  have H2 := Lib.hid h2
  have HG2 := Lib.hid (grown_trans' HG.out (grown_of_below hb _))
  clear h2 hb c0 c1 c2 c6
  go_wp2_with fail
  go_end0
  refine ⟨rfl, (((H2.out.put (t' := t1) 3 _ rfl).put (s' := s1) 4 _ rfl).put (l' := l1) 5 _ rfl).put 7 _ rfl, grown_set (grown_set (grown_set (grown_set HG2.out 3 _) 4 _) 5 _) 7 _⟩

set_option maxHeartbeats 1000000 in
set_option maxRecDepth 100000 in
theorem next_end (w : World) (h : UB w ub A cap xs off t s l .nilIface c) (ho : xs.length ≤ off) (h2 : off ≤ 2147483647) :
    Calls Try.prog 62 #[.pointer (some ⟨ub, 0, none⟩)] w fun e w' => e = .returned (.tuple #[]) ∧ (∃ ev', UB w' ub A cap xs off 1 0 0 ev' 1 ∧ IsErr ev') ∧ w.grownBy w' (some ub) := by
  have HP := Lib.hid (pop_end w h ho h2)
  have HM := Lib.hid (fun w => PAll.packstream_markerOf.calls 0 1 0 0 w (by decide))
  clear h
  go_enter Try.func62, Try.ntmps62
  go_wp2_with fail
  refine HP.out.mono ?_
  rintro e w1 ⟨rfl, ⟨ev', h1, he⟩, hg⟩
  have H1 := Lib.hid h1
  have HE := Lib.hid he
  have HG := Lib.hid hg
  clear h1 hg he
  go_wp2_with fail
  refine (HM.out _).mono ?_
  rintro e w2 ⟨rfl, hb⟩
  have h2 := H1.out.move hb
  obtain ⟨c0, c1, c2, c3, c4, c5, c6, c7⟩ := h2.cells
  have f3 := h2.frozen 3
  have f4 := h2.frozen 4
  have f5 := h2.frozen 5
  have f7 := h2.frozen 7
  have H2 := Lib.hid h2
  have HG2 := Lib.hid (grown_trans' HG.out (grown_of_below hb _))
  clear h2 hb c0 c1 c2 c6
  go_wp2_with fail
  go_end0
  refine ⟨rfl, ⟨ev', (((H2.out.put (t' := 1) 3 _ rfl).put (s' := 0) 4 _ rfl).put (l' := 0) 5 _ rfl).put 7 _ rfl, HE.out⟩, grown_set (grown_set (grown_set (grown_set HG2.out 3 _) 4 _) 5 _) 7 _⟩
end
end Go.Proofs.Ytjnookhdiolhgaa

namespace Go.Proofs.Ytjnookhdiolhgaa
set_option linter.unusedVariables false
set_option linter.unusedSimpArgs false
open Go.RowKit Go.Proofs.YtjnookhdiolhgaaW.PrintWords

/-- A length: in the marker, or behind it. -/
def lenQ (l s : Int) (r : List Int) : Option (Int × List Int) := if l = 0 then some (s, r) else sizedN l.toNat r
def intM (l s : Int) (r : List Int) : Tk :=
  if l = 0 then .val (vI s) r else if l = 1 then tkInt .i8 (sizedN 1 r) else if l = 2 then tkInt .i16 (sizedN 2 r) else if l = 4 then tkInt .i32 (sizedN 4 r) else tkInt .i64 (sizedN 8 r)
def tagM (s : Int) : List Int → Tk
  | [] => .bad
  | g :: r' => .opn 8 g s.toNat r'
/-- What stands next, by the marker. -/
def tokM (t s l : Int) (r : List Int) : Tk :=
  if t = 1 then intM l s r
  else if t = 2 then tkFloat (sizedN 8 r)
  else if t = 3 then tkStr 4 (lenQ l s r)
  else if t = 4 then tagM s r
  else if t = 5 then tkStr 5 (lenQ l s r)
  else if t = 6 then tkOpn 6 (lenQ l s r)
  else if t = 7 then tkOpn 7 (lenQ l s r)
  else if t = 8 then .val vN r
  else if t = 9 then .val (vB true) r
  else if t = 10 then .val (vB false) r
  else .bad
/-- The kinds of markers. -/
inductive MK : Int → Int → Int → Prop where
  | int0 (s : Int) : -128 ≤ s → s ≤ 127 → MK 1 s 0
  | int (k : Nat) (g : IntKind) : (k = 1 ∧ g = .i8) ∨ (k = 2 ∧ g = .i16) ∨ (k = 4 ∧ g = .i32) ∨ (k = 8 ∧ g = .i64) → MK 1 0 k
  | float : MK 2 0 8
  | str0 (s : Int) : 0 ≤ s → s ≤ 15 → MK 3 s 0
  | str (k : Nat) : k = 1 ∨ k = 2 ∨ k = 4 → MK 3 0 k
  | tag (s : Int) : 0 ≤ s → s ≤ 15 → MK 4 s 0
  | bytes (k : Nat) : k = 1 ∨ k = 2 ∨ k = 4 → MK 5 0 k
  | list0 (s : Int) : 0 ≤ s → s ≤ 15 → MK 6 s 0
  | list (k : Nat) : k = 1 ∨ k = 2 ∨ k = 4 → MK 6 0 k
  | map0 (s : Int) : 0 ≤ s → s ≤ 15 → MK 7 s 0
  | map (k : Nat) : k = 1 ∨ k = 2 ∨ k = 4 → MK 7 0 k
  | nil : MK 8 0 0
  | yes : MK 9 0 0
  | no : MK 10 0 0
  | none : MK 0 0 0

theorem mark_of {m t s l : Int} (h : PAll.packstream_markerOf.f m = some (t, s, l)) : mark m = (t, s, l) := by unfold mark; rw [h]; rfl
def MarkSays (m : Int) : Prop := ∃ t s l, mark m = (t, s, l) ∧ MK t s l ∧ isStr m = (t == 3) ∧ ∀ r, tok (m :: r) = tokM t s l r
theorem mark_c0 (m : Int) (h0 : 0 ≤ m) (h1 : m ≤ 255)  (g0 : m < 128) : MarkSays m := by
  refine ⟨1, m, 0, mark_of ?_, MK.int0 _ (by omega) (by omega), ?_, fun r => ?_⟩
  · unfold PAll.packstream_markerOf.f
    rw [if_pos g0]
    have hw : IntKind.i8.wrap (m) = m := by rw [wrap_i8']; omega
    rw [hw]
  · simp only [isStr]; simp; omega
  · simp only [tok]
    rw [if_pos g0]
    rfl
theorem mark_c1 (m : Int) (h0 : 0 ≤ m) (h1 : m ≤ 255) (g0 : ¬ (m < 128)) (g1 : m < 144) : MarkSays m := by
  refine ⟨3, m - 128, 0, mark_of ?_, MK.str0 _ (by omega) (by omega), ?_, fun r => ?_⟩
  · unfold PAll.packstream_markerOf.f
    rw [if_neg g0, if_pos g1]
    have hw : IntKind.i8.wrap ((m - 128) % 256) = m - 128 := by rw [wrap_i8']; omega
    rw [hw]
  · simp only [isStr]; simp; omega
  · simp only [tok]
    rw [if_neg g0, if_pos g1]
    simp [tokM, lenQ]
theorem mark_c2 (m : Int) (h0 : 0 ≤ m) (h1 : m ≤ 255) (g0 : ¬ (m < 128)) (g1 : ¬ (m < 144)) (g2 : m < 160) : MarkSays m := by
  refine ⟨6, m - 144, 0, mark_of ?_, MK.list0 _ (by omega) (by omega), ?_, fun r => ?_⟩
  · unfold PAll.packstream_markerOf.f
    rw [if_neg g0, if_neg g1, if_pos g2]
    have hw : IntKind.i8.wrap ((m - 144) % 256) = m - 144 := by rw [wrap_i8']; omega
    rw [hw]
  · simp only [isStr]; simp; omega
  · simp only [tok]
    rw [if_neg g0, if_neg g1, if_pos g2]
    rfl
theorem mark_c3 (m : Int) (h0 : 0 ≤ m) (h1 : m ≤ 255) (g0 : ¬ (m < 128)) (g1 : ¬ (m < 144)) (g2 : ¬ (m < 160)) (g3 : m < 176) : MarkSays m := by
  refine ⟨7, m - 160, 0, mark_of ?_, MK.map0 _ (by omega) (by omega), ?_, fun r => ?_⟩
  · unfold PAll.packstream_markerOf.f
    rw [if_neg g0, if_neg g1, if_neg g2, if_pos g3]
    have hw : IntKind.i8.wrap ((m - 160) % 256) = m - 160 := by rw [wrap_i8']; omega
    rw [hw]
  · simp only [isStr]; simp; omega
  · simp only [tok]
    rw [if_neg g0, if_neg g1, if_neg g2, if_pos g3]
    rfl
theorem mark_c4 (m : Int) (h0 : 0 ≤ m) (h1 : m ≤ 255) (g0 : ¬ (m < 128)) (g1 : ¬ (m < 144)) (g2 : ¬ (m < 160)) (g3 : ¬ (m < 176)) (g4 : m < 192) : MarkSays m := by
  refine ⟨4, m - 176, 0, mark_of ?_, MK.tag _ (by omega) (by omega), ?_, fun r => ?_⟩
  · unfold PAll.packstream_markerOf.f
    rw [if_neg g0, if_neg g1, if_neg g2, if_neg g3, if_pos g4]
    have hw : IntKind.i8.wrap ((m - 176) % 256) = m - 176 := by rw [wrap_i8']; omega
    rw [hw]
  · simp only [isStr]; simp; omega
  · simp only [tok]
    rw [if_neg g0, if_neg g1, if_neg g2, if_neg g3, if_pos g4]
    cases r <;> rfl
theorem mark_c5 (m : Int) (h0 : 0 ≤ m) (h1 : m ≤ 255) (g0 : ¬ (m < 128)) (g1 : ¬ (m < 144)) (g2 : ¬ (m < 160)) (g3 : ¬ (m < 176)) (g4 : ¬ (m < 192)) (g5 : 240 ≤ m) : MarkSays m := by
  refine ⟨1, m - 256, 0, mark_of ?_, MK.int0 _ (by omega) (by omega), ?_, fun r => ?_⟩
  · unfold PAll.packstream_markerOf.f
    rw [if_neg g0, if_neg g1, if_neg g2, if_neg g3, if_neg g4, if_pos g5]
    have hw : IntKind.i8.wrap (wrap64 (wrap64 m - 256)) = m - 256 := by rw [wrap_i8']; unfold wrap64; omega
    rw [hw]
  · simp only [isStr]; simp; omega
  · simp only [tok]
    rw [if_neg g0, if_neg g1, if_neg g2, if_neg g3, if_neg g4, if_pos g5]
    rfl
theorem mark_c6 (m : Int) (h0 : 0 ≤ m) (h1 : m ≤ 255) (g0 : ¬ (m < 128)) (g1 : ¬ (m < 144)) (g2 : ¬ (m < 160)) (g3 : ¬ (m < 176)) (g4 : ¬ (m < 192)) (g5 : ¬ (240 ≤ m)) (g6 : m = 192) : MarkSays m := by
  refine ⟨8, 0, 0, mark_of ?_, MK.nil, ?_, fun r => ?_⟩
  · unfold PAll.packstream_markerOf.f
    rw [if_neg g0, if_neg g1, if_neg g2, if_neg g3, if_neg g4, if_neg g5, if_pos g6]
  · subst g6; rfl
  · simp only [tok]
    rw [if_neg g0, if_neg g1, if_neg g2, if_neg g3, if_neg g4, if_neg g5, if_pos g6]
    rfl
theorem mark_c7 (m : Int) (h0 : 0 ≤ m) (h1 : m ≤ 255) (g0 : ¬ (m < 128)) (g1 : ¬ (m < 144)) (g2 : ¬ (m < 160)) (g3 : ¬ (m < 176)) (g4 : ¬ (m < 192)) (g5 : ¬ (240 ≤ m)) (g6 : ¬ (m = 192)) (g7 : m = 193) : MarkSays m := by
  refine ⟨2, 0, 8, mark_of ?_, MK.float, ?_, fun r => ?_⟩
  · unfold PAll.packstream_markerOf.f
    rw [if_neg g0, if_neg g1, if_neg g2, if_neg g3, if_neg g4, if_neg g5, if_neg g6, if_pos g7]
  · subst g7; rfl
  · simp only [tok]
    rw [if_neg g0, if_neg g1, if_neg g2, if_neg g3, if_neg g4, if_neg g5, if_neg g6, if_pos g7]
    rfl
theorem mark_c8 (m : Int) (h0 : 0 ≤ m) (h1 : m ≤ 255) (g0 : ¬ (m < 128)) (g1 : ¬ (m < 144)) (g2 : ¬ (m < 160)) (g3 : ¬ (m < 176)) (g4 : ¬ (m < 192)) (g5 : ¬ (240 ≤ m)) (g6 : ¬ (m = 192)) (g7 : ¬ (m = 193)) (g8 : m = 194) : MarkSays m := by
  refine ⟨10, 0, 0, mark_of ?_, MK.no, ?_, fun r => ?_⟩
  · unfold PAll.packstream_markerOf.f
    rw [if_neg g0, if_neg g1, if_neg g2, if_neg g3, if_neg g4, if_neg g5, if_neg g6, if_neg g7, if_pos g8]
  · subst g8; rfl
  · simp only [tok]
    rw [if_neg g0, if_neg g1, if_neg g2, if_neg g3, if_neg g4, if_neg g5, if_neg g6, if_neg g7, if_pos g8]
    rfl
theorem mark_c9 (m : Int) (h0 : 0 ≤ m) (h1 : m ≤ 255) (g0 : ¬ (m < 128)) (g1 : ¬ (m < 144)) (g2 : ¬ (m < 160)) (g3 : ¬ (m < 176)) (g4 : ¬ (m < 192)) (g5 : ¬ (240 ≤ m)) (g6 : ¬ (m = 192)) (g7 : ¬ (m = 193)) (g8 : ¬ (m = 194)) (g9 : m = 195) : MarkSays m := by
  refine ⟨9, 0, 0, mark_of ?_, MK.yes, ?_, fun r => ?_⟩
  · unfold PAll.packstream_markerOf.f
    rw [if_neg g0, if_neg g1, if_neg g2, if_neg g3, if_neg g4, if_neg g5, if_neg g6, if_neg g7, if_neg g8, if_pos g9]
  · subst g9; rfl
  · simp only [tok]
    rw [if_neg g0, if_neg g1, if_neg g2, if_neg g3, if_neg g4, if_neg g5, if_neg g6, if_neg g7, if_neg g8, if_pos g9]
    rfl
theorem mark_c10 (m : Int) (h0 : 0 ≤ m) (h1 : m ≤ 255) (g0 : ¬ (m < 128)) (g1 : ¬ (m < 144)) (g2 : ¬ (m < 160)) (g3 : ¬ (m < 176)) (g4 : ¬ (m < 192)) (g5 : ¬ (240 ≤ m)) (g6 : ¬ (m = 192)) (g7 : ¬ (m = 193)) (g8 : ¬ (m = 194)) (g9 : ¬ (m = 195)) (g10 : m = 200) : MarkSays m := by
  refine ⟨1, 0, 1, mark_of ?_, MK.int 1 .i8 (by decide), ?_, fun r => ?_⟩
  · unfold PAll.packstream_markerOf.f
    rw [if_neg g0, if_neg g1, if_neg g2, if_neg g3, if_neg g4, if_neg g5, if_neg g6, if_neg g7, if_neg g8, if_neg g9, if_pos g10]
  · subst g10; rfl
  · simp only [tok]
    rw [if_neg g0, if_neg g1, if_neg g2, if_neg g3, if_neg g4, if_neg g5, if_neg g6, if_neg g7, if_neg g8, if_neg g9, if_pos g10]
    rfl
theorem mark_c11 (m : Int) (h0 : 0 ≤ m) (h1 : m ≤ 255) (g0 : ¬ (m < 128)) (g1 : ¬ (m < 144)) (g2 : ¬ (m < 160)) (g3 : ¬ (m < 176)) (g4 : ¬ (m < 192)) (g5 : ¬ (240 ≤ m)) (g6 : ¬ (m = 192)) (g7 : ¬ (m = 193)) (g8 : ¬ (m = 194)) (g9 : ¬ (m = 195)) (g10 : ¬ (m = 200)) (g11 : m = 201) : MarkSays m := by
  refine ⟨1, 0, 2, mark_of ?_, MK.int 2 .i16 (by decide), ?_, fun r => ?_⟩
  · unfold PAll.packstream_markerOf.f
    rw [if_neg g0, if_neg g1, if_neg g2, if_neg g3, if_neg g4, if_neg g5, if_neg g6, if_neg g7, if_neg g8, if_neg g9, if_neg g10, if_pos g11]
  · subst g11; rfl
  · simp only [tok]
    rw [if_neg g0, if_neg g1, if_neg g2, if_neg g3, if_neg g4, if_neg g5, if_neg g6, if_neg g7, if_neg g8, if_neg g9, if_neg g10, if_pos g11]
    rfl
theorem mark_c12 (m : Int) (h0 : 0 ≤ m) (h1 : m ≤ 255) (g0 : ¬ (m < 128)) (g1 : ¬ (m < 144)) (g2 : ¬ (m < 160)) (g3 : ¬ (m < 176)) (g4 : ¬ (m < 192)) (g5 : ¬ (240 ≤ m)) (g6 : ¬ (m = 192)) (g7 : ¬ (m = 193)) (g8 : ¬ (m = 194)) (g9 : ¬ (m = 195)) (g10 : ¬ (m = 200)) (g11 : ¬ (m = 201)) (g12 : m = 202) : MarkSays m := by
  refine ⟨1, 0, 4, mark_of ?_, MK.int 4 .i32 (by decide), ?_, fun r => ?_⟩
  · unfold PAll.packstream_markerOf.f
    rw [if_neg g0, if_neg g1, if_neg g2, if_neg g3, if_neg g4, if_neg g5, if_neg g6, if_neg g7, if_neg g8, if_neg g9, if_neg g10, if_neg g11, if_pos g12]
  · subst g12; rfl
  · simp only [tok]
    rw [if_neg g0, if_neg g1, if_neg g2, if_neg g3, if_neg g4, if_neg g5, if_neg g6, if_neg g7, if_neg g8, if_neg g9, if_neg g10, if_neg g11, if_pos g12]
    rfl
theorem mark_c13 (m : Int) (h0 : 0 ≤ m) (h1 : m ≤ 255) (g0 : ¬ (m < 128)) (g1 : ¬ (m < 144)) (g2 : ¬ (m < 160)) (g3 : ¬ (m < 176)) (g4 : ¬ (m < 192)) (g5 : ¬ (240 ≤ m)) (g6 : ¬ (m = 192)) (g7 : ¬ (m = 193)) (g8 : ¬ (m = 194)) (g9 : ¬ (m = 195)) (g10 : ¬ (m = 200)) (g11 : ¬ (m = 201)) (g12 : ¬ (m = 202)) (g13 : m = 203) : MarkSays m := by
  refine ⟨1, 0, 8, mark_of ?_, MK.int 8 .i64 (by decide), ?_, fun r => ?_⟩
  · unfold PAll.packstream_markerOf.f
    rw [if_neg g0, if_neg g1, if_neg g2, if_neg g3, if_neg g4, if_neg g5, if_neg g6, if_neg g7, if_neg g8, if_neg g9, if_neg g10, if_neg g11, if_neg g12, if_pos g13]
  · subst g13; rfl
  · simp only [tok]
    rw [if_neg g0, if_neg g1, if_neg g2, if_neg g3, if_neg g4, if_neg g5, if_neg g6, if_neg g7, if_neg g8, if_neg g9, if_neg g10, if_neg g11, if_neg g12, if_pos g13]
    rfl
theorem mark_c14 (m : Int) (h0 : 0 ≤ m) (h1 : m ≤ 255) (g0 : ¬ (m < 128)) (g1 : ¬ (m < 144)) (g2 : ¬ (m < 160)) (g3 : ¬ (m < 176)) (g4 : ¬ (m < 192)) (g5 : ¬ (240 ≤ m)) (g6 : ¬ (m = 192)) (g7 : ¬ (m = 193)) (g8 : ¬ (m = 194)) (g9 : ¬ (m = 195)) (g10 : ¬ (m = 200)) (g11 : ¬ (m = 201)) (g12 : ¬ (m = 202)) (g13 : ¬ (m = 203)) (g14 : m = 204) : MarkSays m := by
  refine ⟨5, 0, 1, mark_of ?_, MK.bytes 1 (by decide), ?_, fun r => ?_⟩
  · unfold PAll.packstream_markerOf.f
    rw [if_neg g0, if_neg g1, if_neg g2, if_neg g3, if_neg g4, if_neg g5, if_neg g6, if_neg g7, if_neg g8, if_neg g9, if_neg g10, if_neg g11, if_neg g12, if_neg g13, if_pos g14]
  · subst g14; rfl
  · simp only [tok]
    rw [if_neg g0, if_neg g1, if_neg g2, if_neg g3, if_neg g4, if_neg g5, if_neg g6, if_neg g7, if_neg g8, if_neg g9, if_neg g10, if_neg g11, if_neg g12, if_neg g13, if_pos g14]
    rfl
theorem mark_c15 (m : Int) (h0 : 0 ≤ m) (h1 : m ≤ 255) (g0 : ¬ (m < 128)) (g1 : ¬ (m < 144)) (g2 : ¬ (m < 160)) (g3 : ¬ (m < 176)) (g4 : ¬ (m < 192)) (g5 : ¬ (240 ≤ m)) (g6 : ¬ (m = 192)) (g7 : ¬ (m = 193)) (g8 : ¬ (m = 194)) (g9 : ¬ (m = 195)) (g10 : ¬ (m = 200)) (g11 : ¬ (m = 201)) (g12 : ¬ (m = 202)) (g13 : ¬ (m = 203)) (g14 : ¬ (m = 204)) (g15 : m = 205) : MarkSays m := by
  refine ⟨5, 0, 2, mark_of ?_, MK.bytes 2 (by decide), ?_, fun r => ?_⟩
  · unfold PAll.packstream_markerOf.f
    rw [if_neg g0, if_neg g1, if_neg g2, if_neg g3, if_neg g4, if_neg g5, if_neg g6, if_neg g7, if_neg g8, if_neg g9, if_neg g10, if_neg g11, if_neg g12, if_neg g13, if_neg g14, if_pos g15]
  · subst g15; rfl
  · simp only [tok]
    rw [if_neg g0, if_neg g1, if_neg g2, if_neg g3, if_neg g4, if_neg g5, if_neg g6, if_neg g7, if_neg g8, if_neg g9, if_neg g10, if_neg g11, if_neg g12, if_neg g13, if_neg g14, if_pos g15]
    rfl
theorem mark_c16 (m : Int) (h0 : 0 ≤ m) (h1 : m ≤ 255) (g0 : ¬ (m < 128)) (g1 : ¬ (m < 144)) (g2 : ¬ (m < 160)) (g3 : ¬ (m < 176)) (g4 : ¬ (m < 192)) (g5 : ¬ (240 ≤ m)) (g6 : ¬ (m = 192)) (g7 : ¬ (m = 193)) (g8 : ¬ (m = 194)) (g9 : ¬ (m = 195)) (g10 : ¬ (m = 200)) (g11 : ¬ (m = 201)) (g12 : ¬ (m = 202)) (g13 : ¬ (m = 203)) (g14 : ¬ (m = 204)) (g15 : ¬ (m = 205)) (g16 : m = 206) : MarkSays m := by
  refine ⟨5, 0, 4, mark_of ?_, MK.bytes 4 (by decide), ?_, fun r => ?_⟩
  · unfold PAll.packstream_markerOf.f
    rw [if_neg g0, if_neg g1, if_neg g2, if_neg g3, if_neg g4, if_neg g5, if_neg g6, if_neg g7, if_neg g8, if_neg g9, if_neg g10, if_neg g11, if_neg g12, if_neg g13, if_neg g14, if_neg g15, if_pos g16]
  · subst g16; rfl
  · simp only [tok]
    rw [if_neg g0, if_neg g1, if_neg g2, if_neg g3, if_neg g4, if_neg g5, if_neg g6, if_neg g7, if_neg g8, if_neg g9, if_neg g10, if_neg g11, if_neg g12, if_neg g13, if_neg g14, if_neg g15, if_pos g16]
    rfl
theorem mark_c17 (m : Int) (h0 : 0 ≤ m) (h1 : m ≤ 255) (g0 : ¬ (m < 128)) (g1 : ¬ (m < 144)) (g2 : ¬ (m < 160)) (g3 : ¬ (m < 176)) (g4 : ¬ (m < 192)) (g5 : ¬ (240 ≤ m)) (g6 : ¬ (m = 192)) (g7 : ¬ (m = 193)) (g8 : ¬ (m = 194)) (g9 : ¬ (m = 195)) (g10 : ¬ (m = 200)) (g11 : ¬ (m = 201)) (g12 : ¬ (m = 202)) (g13 : ¬ (m = 203)) (g14 : ¬ (m = 204)) (g15 : ¬ (m = 205)) (g16 : ¬ (m = 206)) (g17 : m = 208) : MarkSays m := by
  refine ⟨3, 0, 1, mark_of ?_, MK.str 1 (by decide), ?_, fun r => ?_⟩
  · unfold PAll.packstream_markerOf.f
    rw [if_neg g0, if_neg g1, if_neg g2, if_neg g3, if_neg g4, if_neg g5, if_neg g6, if_neg g7, if_neg g8, if_neg g9, if_neg g10, if_neg g11, if_neg g12, if_neg g13, if_neg g14, if_neg g15, if_neg g16, if_pos g17]
  · subst g17; rfl
  · simp only [tok]
    rw [if_neg g0, if_neg g1, if_neg g2, if_neg g3, if_neg g4, if_neg g5, if_neg g6, if_neg g7, if_neg g8, if_neg g9, if_neg g10, if_neg g11, if_neg g12, if_neg g13, if_neg g14, if_neg g15, if_neg g16, if_pos g17]
    rfl
theorem mark_c18 (m : Int) (h0 : 0 ≤ m) (h1 : m ≤ 255) (g0 : ¬ (m < 128)) (g1 : ¬ (m < 144)) (g2 : ¬ (m < 160)) (g3 : ¬ (m < 176)) (g4 : ¬ (m < 192)) (g5 : ¬ (240 ≤ m)) (g6 : ¬ (m = 192)) (g7 : ¬ (m = 193)) (g8 : ¬ (m = 194)) (g9 : ¬ (m = 195)) (g10 : ¬ (m = 200)) (g11 : ¬ (m = 201)) (g12 : ¬ (m = 202)) (g13 : ¬ (m = 203)) (g14 : ¬ (m = 204)) (g15 : ¬ (m = 205)) (g16 : ¬ (m = 206)) (g17 : ¬ (m = 208)) (g18 : m = 209) : MarkSays m := by
  refine ⟨3, 0, 2, mark_of ?_, MK.str 2 (by decide), ?_, fun r => ?_⟩
  · unfold PAll.packstream_markerOf.f
    rw [if_neg g0, if_neg g1, if_neg g2, if_neg g3, if_neg g4, if_neg g5, if_neg g6, if_neg g7, if_neg g8, if_neg g9, if_neg g10, if_neg g11, if_neg g12, if_neg g13, if_neg g14, if_neg g15, if_neg g16, if_neg g17, if_pos g18]
  · subst g18; rfl
  · simp only [tok]
    rw [if_neg g0, if_neg g1, if_neg g2, if_neg g3, if_neg g4, if_neg g5, if_neg g6, if_neg g7, if_neg g8, if_neg g9, if_neg g10, if_neg g11, if_neg g12, if_neg g13, if_neg g14, if_neg g15, if_neg g16, if_neg g17, if_pos g18]
    rfl
theorem mark_c19 (m : Int) (h0 : 0 ≤ m) (h1 : m ≤ 255) (g0 : ¬ (m < 128)) (g1 : ¬ (m < 144)) (g2 : ¬ (m < 160)) (g3 : ¬ (m < 176)) (g4 : ¬ (m < 192)) (g5 : ¬ (240 ≤ m)) (g6 : ¬ (m = 192)) (g7 : ¬ (m = 193)) (g8 : ¬ (m = 194)) (g9 : ¬ (m = 195)) (g10 : ¬ (m = 200)) (g11 : ¬ (m = 201)) (g12 : ¬ (m = 202)) (g13 : ¬ (m = 203)) (g14 : ¬ (m = 204)) (g15 : ¬ (m = 205)) (g16 : ¬ (m = 206)) (g17 : ¬ (m = 208)) (g18 : ¬ (m = 209)) (g19 : m = 210) : MarkSays m := by
  refine ⟨3, 0, 4, mark_of ?_, MK.str 4 (by decide), ?_, fun r => ?_⟩
  · unfold PAll.packstream_markerOf.f
    rw [if_neg g0, if_neg g1, if_neg g2, if_neg g3, if_neg g4, if_neg g5, if_neg g6, if_neg g7, if_neg g8, if_neg g9, if_neg g10, if_neg g11, if_neg g12, if_neg g13, if_neg g14, if_neg g15, if_neg g16, if_neg g17, if_neg g18, if_pos g19]
  · subst g19; rfl
  · simp only [tok]
    rw [if_neg g0, if_neg g1, if_neg g2, if_neg g3, if_neg g4, if_neg g5, if_neg g6, if_neg g7, if_neg g8, if_neg g9, if_neg g10, if_neg g11, if_neg g12, if_neg g13, if_neg g14, if_neg g15, if_neg g16, if_neg g17, if_neg g18, if_pos g19]
    rfl
theorem mark_c20 (m : Int) (h0 : 0 ≤ m) (h1 : m ≤ 255) (g0 : ¬ (m < 128)) (g1 : ¬ (m < 144)) (g2 : ¬ (m < 160)) (g3 : ¬ (m < 176)) (g4 : ¬ (m < 192)) (g5 : ¬ (240 ≤ m)) (g6 : ¬ (m = 192)) (g7 : ¬ (m = 193)) (g8 : ¬ (m = 194)) (g9 : ¬ (m = 195)) (g10 : ¬ (m = 200)) (g11 : ¬ (m = 201)) (g12 : ¬ (m = 202)) (g13 : ¬ (m = 203)) (g14 : ¬ (m = 204)) (g15 : ¬ (m = 205)) (g16 : ¬ (m = 206)) (g17 : ¬ (m = 208)) (g18 : ¬ (m = 209)) (g19 : ¬ (m = 210)) (g20 : m = 212) : MarkSays m := by
  refine ⟨6, 0, 1, mark_of ?_, MK.list 1 (by decide), ?_, fun r => ?_⟩
  · unfold PAll.packstream_markerOf.f
    rw [if_neg g0, if_neg g1, if_neg g2, if_neg g3, if_neg g4, if_neg g5, if_neg g6, if_neg g7, if_neg g8, if_neg g9, if_neg g10, if_neg g11, if_neg g12, if_neg g13, if_neg g14, if_neg g15, if_neg g16, if_neg g17, if_neg g18, if_neg g19, if_pos g20]
  · subst g20; rfl
  · simp only [tok]
    rw [if_neg g0, if_neg g1, if_neg g2, if_neg g3, if_neg g4, if_neg g5, if_neg g6, if_neg g7, if_neg g8, if_neg g9, if_neg g10, if_neg g11, if_neg g12, if_neg g13, if_neg g14, if_neg g15, if_neg g16, if_neg g17, if_neg g18, if_neg g19, if_pos g20]
    rfl
theorem mark_c21 (m : Int) (h0 : 0 ≤ m) (h1 : m ≤ 255) (g0 : ¬ (m < 128)) (g1 : ¬ (m < 144)) (g2 : ¬ (m < 160)) (g3 : ¬ (m < 176)) (g4 : ¬ (m < 192)) (g5 : ¬ (240 ≤ m)) (g6 : ¬ (m = 192)) (g7 : ¬ (m = 193)) (g8 : ¬ (m = 194)) (g9 : ¬ (m = 195)) (g10 : ¬ (m = 200)) (g11 : ¬ (m = 201)) (g12 : ¬ (m = 202)) (g13 : ¬ (m = 203)) (g14 : ¬ (m = 204)) (g15 : ¬ (m = 205)) (g16 : ¬ (m = 206)) (g17 : ¬ (m = 208)) (g18 : ¬ (m = 209)) (g19 : ¬ (m = 210)) (g20 : ¬ (m = 212)) (g21 : m = 213) : MarkSays m := by
  refine ⟨6, 0, 2, mark_of ?_, MK.list 2 (by decide), ?_, fun r => ?_⟩
  · unfold PAll.packstream_markerOf.f
    rw [if_neg g0, if_neg g1, if_neg g2, if_neg g3, if_neg g4, if_neg g5, if_neg g6, if_neg g7, if_neg g8, if_neg g9, if_neg g10, if_neg g11, if_neg g12, if_neg g13, if_neg g14, if_neg g15, if_neg g16, if_neg g17, if_neg g18, if_neg g19, if_neg g20, if_pos g21]
  · subst g21; rfl
  · simp only [tok]
    rw [if_neg g0, if_neg g1, if_neg g2, if_neg g3, if_neg g4, if_neg g5, if_neg g6, if_neg g7, if_neg g8, if_neg g9, if_neg g10, if_neg g11, if_neg g12, if_neg g13, if_neg g14, if_neg g15, if_neg g16, if_neg g17, if_neg g18, if_neg g19, if_neg g20, if_pos g21]
    rfl
theorem mark_c22 (m : Int) (h0 : 0 ≤ m) (h1 : m ≤ 255) (g0 : ¬ (m < 128)) (g1 : ¬ (m < 144)) (g2 : ¬ (m < 160)) (g3 : ¬ (m < 176)) (g4 : ¬ (m < 192)) (g5 : ¬ (240 ≤ m)) (g6 : ¬ (m = 192)) (g7 : ¬ (m = 193)) (g8 : ¬ (m = 194)) (g9 : ¬ (m = 195)) (g10 : ¬ (m = 200)) (g11 : ¬ (m = 201)) (g12 : ¬ (m = 202)) (g13 : ¬ (m = 203)) (g14 : ¬ (m = 204)) (g15 : ¬ (m = 205)) (g16 : ¬ (m = 206)) (g17 : ¬ (m = 208)) (g18 : ¬ (m = 209)) (g19 : ¬ (m = 210)) (g20 : ¬ (m = 212)) (g21 : ¬ (m = 213)) (g22 : m = 214) : MarkSays m := by
  refine ⟨6, 0, 4, mark_of ?_, MK.list 4 (by decide), ?_, fun r => ?_⟩
  · unfold PAll.packstream_markerOf.f
    rw [if_neg g0, if_neg g1, if_neg g2, if_neg g3, if_neg g4, if_neg g5, if_neg g6, if_neg g7, if_neg g8, if_neg g9, if_neg g10, if_neg g11, if_neg g12, if_neg g13, if_neg g14, if_neg g15, if_neg g16, if_neg g17, if_neg g18, if_neg g19, if_neg g20, if_neg g21, if_pos g22]
  · subst g22; rfl
  · simp only [tok]
    rw [if_neg g0, if_neg g1, if_neg g2, if_neg g3, if_neg g4, if_neg g5, if_neg g6, if_neg g7, if_neg g8, if_neg g9, if_neg g10, if_neg g11, if_neg g12, if_neg g13, if_neg g14, if_neg g15, if_neg g16, if_neg g17, if_neg g18, if_neg g19, if_neg g20, if_neg g21, if_pos g22]
    rfl
theorem mark_c23 (m : Int) (h0 : 0 ≤ m) (h1 : m ≤ 255) (g0 : ¬ (m < 128)) (g1 : ¬ (m < 144)) (g2 : ¬ (m < 160)) (g3 : ¬ (m < 176)) (g4 : ¬ (m < 192)) (g5 : ¬ (240 ≤ m)) (g6 : ¬ (m = 192)) (g7 : ¬ (m = 193)) (g8 : ¬ (m = 194)) (g9 : ¬ (m = 195)) (g10 : ¬ (m = 200)) (g11 : ¬ (m = 201)) (g12 : ¬ (m = 202)) (g13 : ¬ (m = 203)) (g14 : ¬ (m = 204)) (g15 : ¬ (m = 205)) (g16 : ¬ (m = 206)) (g17 : ¬ (m = 208)) (g18 : ¬ (m = 209)) (g19 : ¬ (m = 210)) (g20 : ¬ (m = 212)) (g21 : ¬ (m = 213)) (g22 : ¬ (m = 214)) (g23 : m = 216) : MarkSays m := by
  refine ⟨7, 0, 1, mark_of ?_, MK.map 1 (by decide), ?_, fun r => ?_⟩
  · unfold PAll.packstream_markerOf.f
    rw [if_neg g0, if_neg g1, if_neg g2, if_neg g3, if_neg g4, if_neg g5, if_neg g6, if_neg g7, if_neg g8, if_neg g9, if_neg g10, if_neg g11, if_neg g12, if_neg g13, if_neg g14, if_neg g15, if_neg g16, if_neg g17, if_neg g18, if_neg g19, if_neg g20, if_neg g21, if_neg g22, if_pos g23]
  · subst g23; rfl
  · simp only [tok]
    rw [if_neg g0, if_neg g1, if_neg g2, if_neg g3, if_neg g4, if_neg g5, if_neg g6, if_neg g7, if_neg g8, if_neg g9, if_neg g10, if_neg g11, if_neg g12, if_neg g13, if_neg g14, if_neg g15, if_neg g16, if_neg g17, if_neg g18, if_neg g19, if_neg g20, if_neg g21, if_neg g22, if_pos g23]
    rfl
theorem mark_c24 (m : Int) (h0 : 0 ≤ m) (h1 : m ≤ 255) (g0 : ¬ (m < 128)) (g1 : ¬ (m < 144)) (g2 : ¬ (m < 160)) (g3 : ¬ (m < 176)) (g4 : ¬ (m < 192)) (g5 : ¬ (240 ≤ m)) (g6 : ¬ (m = 192)) (g7 : ¬ (m = 193)) (g8 : ¬ (m = 194)) (g9 : ¬ (m = 195)) (g10 : ¬ (m = 200)) (g11 : ¬ (m = 201)) (g12 : ¬ (m = 202)) (g13 : ¬ (m = 203)) (g14 : ¬ (m = 204)) (g15 : ¬ (m = 205)) (g16 : ¬ (m = 206)) (g17 : ¬ (m = 208)) (g18 : ¬ (m = 209)) (g19 : ¬ (m = 210)) (g20 : ¬ (m = 212)) (g21 : ¬ (m = 213)) (g22 : ¬ (m = 214)) (g23 : ¬ (m = 216)) (g24 : m = 217) : MarkSays m := by
  refine ⟨7, 0, 2, mark_of ?_, MK.map 2 (by decide), ?_, fun r => ?_⟩
  · unfold PAll.packstream_markerOf.f
    rw [if_neg g0, if_neg g1, if_neg g2, if_neg g3, if_neg g4, if_neg g5, if_neg g6, if_neg g7, if_neg g8, if_neg g9, if_neg g10, if_neg g11, if_neg g12, if_neg g13, if_neg g14, if_neg g15, if_neg g16, if_neg g17, if_neg g18, if_neg g19, if_neg g20, if_neg g21, if_neg g22, if_neg g23, if_pos g24]
  · subst g24; rfl
  · simp only [tok]
    rw [if_neg g0, if_neg g1, if_neg g2, if_neg g3, if_neg g4, if_neg g5, if_neg g6, if_neg g7, if_neg g8, if_neg g9, if_neg g10, if_neg g11, if_neg g12, if_neg g13, if_neg g14, if_neg g15, if_neg g16, if_neg g17, if_neg g18, if_neg g19, if_neg g20, if_neg g21, if_neg g22, if_neg g23, if_pos g24]
    rfl
theorem mark_c25 (m : Int) (h0 : 0 ≤ m) (h1 : m ≤ 255) (g0 : ¬ (m < 128)) (g1 : ¬ (m < 144)) (g2 : ¬ (m < 160)) (g3 : ¬ (m < 176)) (g4 : ¬ (m < 192)) (g5 : ¬ (240 ≤ m)) (g6 : ¬ (m = 192)) (g7 : ¬ (m = 193)) (g8 : ¬ (m = 194)) (g9 : ¬ (m = 195)) (g10 : ¬ (m = 200)) (g11 : ¬ (m = 201)) (g12 : ¬ (m = 202)) (g13 : ¬ (m = 203)) (g14 : ¬ (m = 204)) (g15 : ¬ (m = 205)) (g16 : ¬ (m = 206)) (g17 : ¬ (m = 208)) (g18 : ¬ (m = 209)) (g19 : ¬ (m = 210)) (g20 : ¬ (m = 212)) (g21 : ¬ (m = 213)) (g22 : ¬ (m = 214)) (g23 : ¬ (m = 216)) (g24 : ¬ (m = 217)) (g25 : m = 218) : MarkSays m := by
  refine ⟨7, 0, 4, mark_of ?_, MK.map 4 (by decide), ?_, fun r => ?_⟩
  · unfold PAll.packstream_markerOf.f
    rw [if_neg g0, if_neg g1, if_neg g2, if_neg g3, if_neg g4, if_neg g5, if_neg g6, if_neg g7, if_neg g8, if_neg g9, if_neg g10, if_neg g11, if_neg g12, if_neg g13, if_neg g14, if_neg g15, if_neg g16, if_neg g17, if_neg g18, if_neg g19, if_neg g20, if_neg g21, if_neg g22, if_neg g23, if_neg g24, if_pos g25]
  · subst g25; rfl
  · simp only [tok]
    rw [if_neg g0, if_neg g1, if_neg g2, if_neg g3, if_neg g4, if_neg g5, if_neg g6, if_neg g7, if_neg g8, if_neg g9, if_neg g10, if_neg g11, if_neg g12, if_neg g13, if_neg g14, if_neg g15, if_neg g16, if_neg g17, if_neg g18, if_neg g19, if_neg g20, if_neg g21, if_neg g22, if_neg g23, if_neg g24, if_pos g25]
    rfl
theorem mark_c26 (m : Int) (h0 : 0 ≤ m) (h1 : m ≤ 255) (g0 : ¬ (m < 128)) (g1 : ¬ (m < 144)) (g2 : ¬ (m < 160)) (g3 : ¬ (m < 176)) (g4 : ¬ (m < 192)) (g5 : ¬ (240 ≤ m)) (g6 : ¬ (m = 192)) (g7 : ¬ (m = 193)) (g8 : ¬ (m = 194)) (g9 : ¬ (m = 195)) (g10 : ¬ (m = 200)) (g11 : ¬ (m = 201)) (g12 : ¬ (m = 202)) (g13 : ¬ (m = 203)) (g14 : ¬ (m = 204)) (g15 : ¬ (m = 205)) (g16 : ¬ (m = 206)) (g17 : ¬ (m = 208)) (g18 : ¬ (m = 209)) (g19 : ¬ (m = 210)) (g20 : ¬ (m = 212)) (g21 : ¬ (m = 213)) (g22 : ¬ (m = 214)) (g23 : ¬ (m = 216)) (g24 : ¬ (m = 217)) (g25 : ¬ (m = 218)) : MarkSays m := by
  refine ⟨0, 0, 0, mark_of ?_, MK.none, ?_, fun r => ?_⟩
  · unfold PAll.packstream_markerOf.f
    rw [if_neg g0, if_neg g1, if_neg g2, if_neg g3, if_neg g4, if_neg g5, if_neg g6, if_neg g7, if_neg g8, if_neg g9, if_neg g10, if_neg g11, if_neg g12, if_neg g13, if_neg g14, if_neg g15, if_neg g16, if_neg g17, if_neg g18, if_neg g19, if_neg g20, if_neg g21, if_neg g22, if_neg g23, if_neg g24, if_neg g25]
  · simp only [isStr]; simp; omega
  · simp only [tok]
    rw [if_neg g0, if_neg g1, if_neg g2, if_neg g3, if_neg g4, if_neg g5, if_neg g6, if_neg g7, if_neg g8, if_neg g9, if_neg g10, if_neg g11, if_neg g12, if_neg g13, if_neg g14, if_neg g15, if_neg g16, if_neg g17, if_neg g18, if_neg g19, if_neg g20, if_neg g21, if_neg g22, if_neg g23, if_neg g24, if_neg g25]
    rfl
theorem mark_all (m : Int) (h0 : 0 ≤ m) (h1 : m ≤ 255) : MarkSays m := by
  by_cases g0 : m < 128
  · exact mark_c0 m h0 h1 g0
  by_cases g1 : m < 144
  · exact mark_c1 m h0 h1 g0 g1
  by_cases g2 : m < 160
  · exact mark_c2 m h0 h1 g0 g1 g2
  by_cases g3 : m < 176
  · exact mark_c3 m h0 h1 g0 g1 g2 g3
  by_cases g4 : m < 192
  · exact mark_c4 m h0 h1 g0 g1 g2 g3 g4
  by_cases g5 : 240 ≤ m
  · exact mark_c5 m h0 h1 g0 g1 g2 g3 g4 g5
  by_cases g6 : m = 192
  · exact mark_c6 m h0 h1 g0 g1 g2 g3 g4 g5 g6
  by_cases g7 : m = 193
  · exact mark_c7 m h0 h1 g0 g1 g2 g3 g4 g5 g6 g7
  by_cases g8 : m = 194
  · exact mark_c8 m h0 h1 g0 g1 g2 g3 g4 g5 g6 g7 g8
  by_cases g9 : m = 195
  · exact mark_c9 m h0 h1 g0 g1 g2 g3 g4 g5 g6 g7 g8 g9
  by_cases g10 : m = 200
  · exact mark_c10 m h0 h1 g0 g1 g2 g3 g4 g5 g6 g7 g8 g9 g10
  by_cases g11 : m = 201
  · exact mark_c11 m h0 h1 g0 g1 g2 g3 g4 g5 g6 g7 g8 g9 g10 g11
  by_cases g12 : m = 202
  · exact mark_c12 m h0 h1 g0 g1 g2 g3 g4 g5 g6 g7 g8 g9 g10 g11 g12
  by_cases g13 : m = 203
  · exact mark_c13 m h0 h1 g0 g1 g2 g3 g4 g5 g6 g7 g8 g9 g10 g11 g12 g13
  by_cases g14 : m = 204
  · exact mark_c14 m h0 h1 g0 g1 g2 g3 g4 g5 g6 g7 g8 g9 g10 g11 g12 g13 g14
  by_cases g15 : m = 205
  · exact mark_c15 m h0 h1 g0 g1 g2 g3 g4 g5 g6 g7 g8 g9 g10 g11 g12 g13 g14 g15
  by_cases g16 : m = 206
  · exact mark_c16 m h0 h1 g0 g1 g2 g3 g4 g5 g6 g7 g8 g9 g10 g11 g12 g13 g14 g15 g16
  by_cases g17 : m = 208
  · exact mark_c17 m h0 h1 g0 g1 g2 g3 g4 g5 g6 g7 g8 g9 g10 g11 g12 g13 g14 g15 g16 g17
  by_cases g18 : m = 209
  · exact mark_c18 m h0 h1 g0 g1 g2 g3 g4 g5 g6 g7 g8 g9 g10 g11 g12 g13 g14 g15 g16 g17 g18
  by_cases g19 : m = 210
  · exact mark_c19 m h0 h1 g0 g1 g2 g3 g4 g5 g6 g7 g8 g9 g10 g11 g12 g13 g14 g15 g16 g17 g18 g19
  by_cases g20 : m = 212
  · exact mark_c20 m h0 h1 g0 g1 g2 g3 g4 g5 g6 g7 g8 g9 g10 g11 g12 g13 g14 g15 g16 g17 g18 g19 g20
  by_cases g21 : m = 213
  · exact mark_c21 m h0 h1 g0 g1 g2 g3 g4 g5 g6 g7 g8 g9 g10 g11 g12 g13 g14 g15 g16 g17 g18 g19 g20 g21
  by_cases g22 : m = 214
  · exact mark_c22 m h0 h1 g0 g1 g2 g3 g4 g5 g6 g7 g8 g9 g10 g11 g12 g13 g14 g15 g16 g17 g18 g19 g20 g21 g22
  by_cases g23 : m = 216
  · exact mark_c23 m h0 h1 g0 g1 g2 g3 g4 g5 g6 g7 g8 g9 g10 g11 g12 g13 g14 g15 g16 g17 g18 g19 g20 g21 g22 g23
  by_cases g24 : m = 217
  · exact mark_c24 m h0 h1 g0 g1 g2 g3 g4 g5 g6 g7 g8 g9 g10 g11 g12 g13 g14 g15 g16 g17 g18 g19 g20 g21 g22 g23 g24
  by_cases g25 : m = 218
  · exact mark_c25 m h0 h1 g0 g1 g2 g3 g4 g5 g6 g7 g8 g9 g10 g11 g12 g13 g14 g15 g16 g17 g18 g19 g20 g21 g22 g23 g24 g25
  exact mark_c26 m h0 h1 g0 g1 g2 g3 g4 g5 g6 g7 g8 g9 g10 g11 g12 g13 g14 g15 g16 g17 g18 g19 g20 g21 g22 g23 g24 g25
end Go.Proofs.Ytjnookhdiolhgaa

namespace Go.Proofs.Ytjnookhdiolhgaa
set_option linter.unusedVariables false
set_option linter.unusedSimpArgs false
open Go.RowKit Go.Proofs.YtjnookhdiolhgaaW.PrintWords
open PAll (S26)

theorem sizedN_len {k : Nat} {r : List Int} {q : Int × List Int} (h : sizedN k r = some q) : q.2.length + k = r.length := by
  unfold sizedN at h
  split at h
  · cases h
  · injection h with h
    subst h
    simp only [List.length_drop]
    omega
theorem lenQ_len {l s : Int} {r : List Int} {q : Int × List Int} (h : lenQ l s r = some q) : q.2.length ≤ r.length := by
  unfold lenQ at h
  split at h
  · injection h with h; subst h; exact Nat.le_refl _
  · have := sizedN_len h; omega
/-- What is left is no more than there was. -/
def Tk.le (n : Nat) : Tk → Prop
  | .bad => True
  | .wild => True
  | .val _ r => r.length ≤ n
  | .opn _ _ _ r => r.length ≤ n
theorem tkStr_le {k : Int} {q : Option (Int × List Int)} {n : Nat} (h : ∀ p, q = some p → p.2.length ≤ n) : (tkStr k q).le n := by
  cases q with
  | none => trivial
  | some p =>
    have := h p rfl
    simp only [tkStr]
    split
    · trivial
    · split
      · trivial
      · show (List.drop _ _).length ≤ n
        rw [List.length_drop]
        omega
theorem tkOpn_le {k : Int} {q : Option (Int × List Int)} {n : Nat} (h : ∀ p, q = some p → p.2.length ≤ n) : (tkOpn k q).le n := by
  cases q with
  | none => trivial
  | some p => exact h p rfl
theorem tkInt_le {g : IntKind} {q : Option (Int × List Int)} {n : Nat} (h : ∀ p, q = some p → p.2.length ≤ n) : (tkInt g q).le n := by
  cases q with
  | none => trivial
  | some p => exact h p rfl
theorem tkFloat_le {q : Option (Int × List Int)} {n : Nat} (h : ∀ p, q = some p → p.2.length ≤ n) : (tkFloat q).le n := by
  cases q with
  | none => trivial
  | some p => exact h p rfl
theorem tokM_le (t s l : Int) (r : List Int) : (tokM t s l r).le r.length := by
  have hs : ∀ k, ∀ p, sizedN k r = some p → p.2.length ≤ r.length := fun k p h => by have := sizedN_len h; omega
  have hl : ∀ p, lenQ l s r = some p → p.2.length ≤ r.length := fun p h => lenQ_len h
  unfold tokM
  split
  · unfold intM
    split
    · exact Nat.le_refl _
    · split
      · exact tkInt_le (hs _)
      · split
        · exact tkInt_le (hs _)
        · split
          · exact tkInt_le (hs _)
          · exact tkInt_le (hs _)
  · split
    · exact tkFloat_le (hs _)
    · split
      · exact tkStr_le hl
      · split
        · cases r with
          | nil => trivial
          | cons g r' => show r'.length ≤ _; simp
        · split
          · exact tkStr_le hl
          · split
            · exact tkOpn_le hl
            · split
              · exact tkOpn_le hl
              · split
                · exact Nat.le_refl _
                · split
                  · exact Nat.le_refl _
                  · split
                    · exact Nat.le_refl _
                    · trivial
/-- All are bytes. -/
def Bytes (l : List Int) : Prop := ∀ x ∈ l, 0 ≤ x ∧ x ≤ 255
theorem Bytes.drop {l : List Int} (h : Bytes l) (n : Nat) : Bytes (l.drop n) := fun x hx => h x (List.mem_of_mem_drop hx)
theorem Bytes.tail {m : Int} {l : List Int} (h : Bytes (m :: l)) : Bytes l := fun x hx => h x (by simp [hx])
theorem bytesOf_bytes (s : ByteArray) : Bytes (bytesOf s) := by
  intro x hx
  obtain ⟨b, _, rfl⟩ := List.mem_map.1 hx
  have := b.toNat_lt
  omega
/-- A token takes its marker at least. -/
theorem tok_val_len {l r : List Int} {x : S26} (hb : Bytes l) (h : tok l = .val x r) : r.length < l.length := by
  cases l with
  | nil => cases h
  | cons m l =>
    obtain ⟨t, s, q, _, _, _, he⟩ := mark_all m (hb m (by simp)).1 (hb m (by simp)).2
    rw [he] at h
    have := tokM_le t s q l
    rw [h] at this
    simp only [Tk.le] at this
    simp only [List.length_cons]
    omega
theorem tok_opn_len {l r : List Int} {k g : Int} {n : Nat} (hb : Bytes l) (h : tok l = .opn k g n r) : r.length < l.length := by
  cases l with
  | nil => cases h
  | cons m l =>
    obtain ⟨t, s, q, _, _, _, he⟩ := mark_all m (hb m (by simp)).1 (hb m (by simp)).2
    rw [he] at h
    have := tokM_le t s q l
    rw [h] at this
    simp only [Tk.le] at this
    simp only [List.length_cons]
    omega
/-- What is left ends what was there. -/
def Tk.suf (l : List Int) : Tk → Prop
  | .bad => True
  | .wild => True
  | .val _ r => ∃ n, r = l.drop n
  | .opn _ _ _ r => ∃ n, r = l.drop n
theorem sizedN_suf {k : Nat} {r : List Int} {q : Int × List Int} (h : sizedN k r = some q) : ∃ n, q.2 = r.drop n := by
  unfold sizedN at h
  split at h
  · cases h
  · injection h with h; subst h; exact ⟨k, rfl⟩
theorem lenQ_suf {l s : Int} {r : List Int} {q : Int × List Int} (h : lenQ l s r = some q) : ∃ n, q.2 = r.drop n := by
  unfold lenQ at h
  split at h
  · injection h with h; subst h; exact ⟨0, rfl⟩
  · exact sizedN_suf h
theorem tkStr_suf {k : Int} {q : Option (Int × List Int)} {l : List Int} (h : ∀ p, q = some p → ∃ n, p.2 = l.drop n) : (tkStr k q).suf l := by
  cases q with
  | none => trivial
  | some p =>
    obtain ⟨n, hn⟩ := h p rfl
    simp only [tkStr]
    split
    · trivial
    · split
      · trivial
      · exact ⟨n + p.1.toNat, by rw [hn, List.drop_drop]⟩
theorem tkOpn_suf {k : Int} {q : Option (Int × List Int)} {l : List Int} (h : ∀ p, q = some p → ∃ n, p.2 = l.drop n) : (tkOpn k q).suf l := by
  cases q with
  | none => trivial
  | some p => exact h p rfl
theorem tkInt_suf {g : IntKind} {q : Option (Int × List Int)} {l : List Int} (h : ∀ p, q = some p → ∃ n, p.2 = l.drop n) : (tkInt g q).suf l := by
  cases q with
  | none => trivial
  | some p => exact h p rfl
theorem tkFloat_suf {q : Option (Int × List Int)} {l : List Int} (h : ∀ p, q = some p → ∃ n, p.2 = l.drop n) : (tkFloat q).suf l := by
  cases q with
  | none => trivial
  | some p => exact h p rfl
theorem tokM_suf (t s l : Int) (r : List Int) : (tokM t s l r).suf r := by
  have hs : ∀ k, ∀ p, sizedN k r = some p → ∃ n, p.2 = r.drop n := fun k p h => sizedN_suf h
  have hl : ∀ p, lenQ l s r = some p → ∃ n, p.2 = r.drop n := fun p h => lenQ_suf h
  unfold tokM
  split
  · unfold intM
    split
    · exact ⟨0, rfl⟩
    · split
      · exact tkInt_suf (hs _)
      · split
        · exact tkInt_suf (hs _)
        · split
          · exact tkInt_suf (hs _)
          · exact tkInt_suf (hs _)
  · split
    · exact tkFloat_suf (hs _)
    · split
      · exact tkStr_suf hl
      · split
        · cases r with
          | nil => trivial
          | cons g r' => exact ⟨1, rfl⟩
        · split
          · exact tkStr_suf hl
          · split
            · exact tkOpn_suf hl
            · split
              · exact tkOpn_suf hl
              · split
                · exact ⟨0, rfl⟩
                · split
                  · exact ⟨0, rfl⟩
                  · split
                    · exact ⟨0, rfl⟩
                    · trivial
theorem tok_val_suf {l r : List Int} {x : S26} (hb : Bytes l) (h : tok l = .val x r) : ∃ n, r = l.drop n := by
  cases l with
  | nil => cases h
  | cons m l =>
    obtain ⟨t, s, q, _, _, _, he⟩ := mark_all m (hb m (by simp)).1 (hb m (by simp)).2
    rw [he] at h
    have := tokM_suf t s q l
    rw [h] at this
    obtain ⟨n, hn⟩ := this
    exact ⟨n + 1, by rw [hn]; rfl⟩
theorem tok_opn_suf {l r : List Int} {k g : Int} {n : Nat} (hb : Bytes l) (h : tok l = .opn k g n r) : ∃ n, r = l.drop n := by
  cases l with
  | nil => cases h
  | cons m l =>
    obtain ⟨t, s, q, _, _, _, he⟩ := mark_all m (hb m (by simp)).1 (hb m (by simp)).2
    rw [he] at h
    have := tokM_suf t s q l
    rw [h] at this
    obtain ⟨n, hn⟩ := this
    exact ⟨n + 1, by rw [hn]; rfl⟩
theorem key_len {l r : List Int} {s : ByteArray} (hb : Bytes l) (h : key l = .ok s r) : r.length < l.length ∧ ∃ n, r = l.drop n := by
  cases l with
  | nil => cases h
  | cons m l =>
    simp only [key] at h
    split at h
    · cases e : tok (m :: l) with
      | bad => rw [e] at h; cases h
      | wild => rw [e] at h; cases h
      | val x r' => rw [e] at h; injection h with _ h; subst h; exact ⟨tok_val_len hb e, tok_val_suf hb e⟩
      | opn a b c d => rw [e] at h; cases h
    · cases h
theorem rows_len {p : List Int → PR} (hp : ∀ l r x, Bytes l → p l = .ok x r → r.length < l.length ∧ ∃ n, r = l.drop n) (m : Bool) (n : Nat) : ∀ (l r : List Int) (ks : List ByteArray) (xs : List S26), Bytes l → rows p m n l = .ok ks xs r → r.length ≤ l.length ∧ ∃ n, r = l.drop n := by
  induction n with
  | zero => intro l r ks xs hb h; simp only [rows, PRs.ok.injEq] at h; rw [h.2.2]; exact ⟨Nat.le_refl _, 0, rfl⟩
  | succ n ih =>
    intro l r ks xs hb h
    have hpre : ∀ (l2 : List Int) (a : List ByteArray) (x : S26), Bytes l2 → (rows p m n l2).pre a x = .ok ks xs r → r.length ≤ l2.length ∧ ∃ n, r = l2.drop n := by
      intro l2 a x hb2 h2
      cases e : rows p m n l2 with
      | wild => rw [e] at h2; cases h2
      | bad c => rw [e] at h2; cases h2
      | ok k2 x2 r2 =>
        rw [e] at h2
        simp only [PRs.pre, PRs.ok.injEq] at h2
        rw [← h2.2.2]
        exact ih l2 r2 k2 x2 hb2 e
    cases m
    · simp only [rows, Bool.false_eq_true, if_false] at h
      cases e : p l with
      | wild => rw [e] at h; cases h
      | bad c => rw [e] at h; cases h
      | ok x r2 =>
        rw [e] at h
        obtain ⟨h1, n1, h2⟩ := hp l r2 x hb e
        obtain ⟨h3, n2, h4⟩ := hpre r2 _ _ (h2 ▸ hb.drop n1) h
        exact ⟨by omega, n1 + n2, by rw [h4, h2, List.drop_drop]⟩
    · simp only [rows, if_true] at h
      cases ek : key l with
      | wild => rw [ek] at h; cases h
      | bad c => rw [ek] at h; cases h
      | ok s r1 =>
        rw [ek] at h
        obtain ⟨k1, n0, k2⟩ := key_len hb ek
        have hb1 : Bytes r1 := k2 ▸ hb.drop n0
        simp only at h
        cases e : p r1 with
        | wild => rw [e] at h; cases h
        | bad c => rw [e] at h; cases h
        | ok x r2 =>
          rw [e] at h
          obtain ⟨h1, n1, h2⟩ := hp r1 r2 x hb1 e
          obtain ⟨h3, n2, h4⟩ := hpre r2 _ _ (h2 ▸ hb1.drop n1) h
          exact ⟨by omega, n0 + (n1 + n2), by rw [h4, h2, k2, List.drop_drop, List.drop_drop]⟩
theorem parse_len (f : Nat) : ∀ (d : Int) (l r : List Int) (x : S26), Bytes l → parse f d l = .ok x r → r.length < l.length ∧ ∃ n, r = l.drop n := by
  induction f with
  | zero => intro d l r x hb h; cases h
  | succ f ih =>
    intro d l r x hb h
    simp only [parse] at h
    split at h
    · cases h
    · cases e : tok l with
      | bad => rw [e] at h; cases h
      | wild => rw [e] at h; cases h
      | val y r' => rw [e] at h; injection h with _ h; subst h; exact ⟨tok_val_len hb e, tok_val_suf hb e⟩
      | opn k g n r' =>
        rw [e] at h
        have hl := tok_opn_len hb e
        obtain ⟨n0, hs⟩ := tok_opn_suf hb e
        simp only at h
        cases e2 : rows (parse f (d + 1)) (k == 7) n r' with
        | wild => rw [e2] at h; cases h
        | bad c => rw [e2] at h; cases h
        | ok ks xs r2 =>
          rw [e2] at h
          injection h with _ h
          subst h
          obtain ⟨h1, n1, h2⟩ := rows_len (fun l r x hb h => ih (d + 1) l r x hb h) _ _ r' r2 ks xs (hs ▸ hb.drop n0) e2
          exact ⟨by omega, n0 + n1, by rw [h2, hs, List.drop_drop]⟩
/-- The errors. -/
theorem rows_bad {p : List Int → PR} (hp : ∀ l c, p l = .bad c → c = 1 ∨ c = 3) (m : Bool) (n : Nat) : ∀ (l : List Int) (c : Int), rows p m n l = .bad c → c = 1 ∨ c = 3 := by
  induction n with
  | zero => intro l c h; cases h
  | succ n ih =>
    intro l c h
    have hpre : ∀ (l2 : List Int) (a : List ByteArray) (x : S26), (rows p m n l2).pre a x = .bad c → c = 1 ∨ c = 3 := by
      intro l2 a x h2
      cases e : rows p m n l2 with
      | wild => rw [e] at h2; cases h2
      | bad c' => rw [e] at h2; simp only [PRs.pre, PRs.bad.injEq] at h2; rw [← h2]; exact ih l2 c' e
      | ok k2 x2 r2 => rw [e] at h2; cases h2
    cases m
    · simp only [rows, Bool.false_eq_true, if_false] at h
      cases e : p l with
      | wild => rw [e] at h; cases h
      | bad c' => rw [e] at h; injection h with h; rw [← h]; exact hp l c' e
      | ok x r2 => rw [e] at h; exact hpre r2 _ _ h
    · simp only [rows, if_true] at h
      cases ek : key l with
      | wild => rw [ek] at h; cases h
      | bad c' =>
        rw [ek] at h
        injection h with h
        rw [← h]
        cases l with
        | nil => injection ek with ek; exact .inl ek.symm
        | cons a t =>
          simp only [key] at ek
          split at ek
          · cases e : tok (a :: t) <;> rw [e] at ek <;> first | (injection ek with ek; exact .inl ek.symm) | cases ek
          · injection ek with ek; exact .inr ek.symm
      | ok s r1 =>
        rw [ek] at h
        simp only at h
        cases e : p r1 with
        | wild => rw [e] at h; cases h
        | bad c' => rw [e] at h; injection h with h; rw [← h]; exact hp r1 c' e
        | ok x r2 => rw [e] at h; exact hpre r2 _ _ h
theorem parse_bad (f : Nat) : ∀ (d : Int) (l : List Int) (c : Int), parse f d l = .bad c → c = 1 ∨ c = 3 := by
  induction f with
  | zero => intro d l c h; cases h
  | succ f ih =>
    intro d l c h
    simp only [parse] at h
    split at h
    · injection h with h; exact .inr h.symm
    · cases e : tok l with
      | bad => rw [e] at h; injection h with h; exact .inl h.symm
      | wild => rw [e] at h; cases h
      | val y r' => rw [e] at h; cases h
      | opn k g n r' =>
        rw [e] at h
        simp only at h
        cases e2 : rows (parse f (d + 1)) (k == 7) n r' with
        | wild => rw [e2] at h; cases h
        | bad c' => rw [e2] at h; injection h with h; rw [← h]; exact rows_bad (fun l c h => ih (d + 1) l c h) _ _ _ _ e2
        | ok ks xs r2 => rw [e2] at h; cases h
/-- Parts ahead of the others. -/
def PRs.pres (ks : List ByteArray) (xs : List S26) : PRs → PRs
  | .wild => .wild
  | .bad c => .bad c
  | .ok keys kids r => .ok (ks ++ keys) (xs ++ kids) r
theorem pres_nil (R : PRs) : R.pres [] [] = R := by cases R <;> rfl
theorem pres_pre (ks : List ByteArray) (xs : List S26) (a : List ByteArray) (x : S26) (R : PRs) : (R.pre a x).pres ks xs = R.pres (ks ++ a) (xs ++ [x]) := by
  cases R <;> simp [PRs.pre, PRs.pres]
/-- What a value's head and its parts come to. -/
def fin (f : Nat) (deep : Int) : Tk → PR
  | .bad => .bad 1
  | .wild => .wild
  | .val x r => .ok x r
  | .opn k tag n r => match rows (parse f (deep + 1)) (k == 7) n r with
    | .wild => .wild
    | .bad c => .bad c
    | .ok keys kids r2 => .ok ⟨k, false, tag, 0, ⟨#[]⟩, keys, kids⟩ r2
theorem parse_fin {f : Nat} {deep : Int} (h : deep ≤ 1000) (r : List Int) : parse (f + 1) deep r = fin f deep (tok r) := by
  simp only [parse]
  rw [if_neg (by omega)]
  cases tok r <;> rfl
end Go.Proofs.Ytjnookhdiolhgaa

namespace Go.Proofs.Ytjnookhdiolhgaa
set_option linter.unusedVariables false
set_option linter.unusedSimpArgs false
open Go.RowKit Go.Proofs.YtjnookhdiolhgaaW.PrintWords

section
variable {ub : Nat} {A : Option Addr} {cap : Nat} {xs : List Int} {off : Nat} {t s l c : Int} {ev : Value}

set_option maxHeartbeats 1000000 in
theorem left_any (w : World) (h : UB w ub A cap xs off t s l ev c) (ho : off ≤ xs.length) :
    Calls Try.prog 61 #[.pointer (some ⟨ub, 0, none⟩)] w fun e w' => e = .returned (.int .i64 ((xs.length : Int) - off)) ∧ Drawn0 w w' := by
  obtain ⟨c0, c1, c2, -⟩ := h.cells
  have hn := h.len
  clear h
  go_enter Try.func61, Try.ntmps61
  go_wp2
  go_quiet (fail)
  go_wp2
  go_ret
  exact ⟨rfl, (Drawn0.refl w).step _⟩

set_option maxHeartbeats 1000000 in
theorem tag_ok (w : World) (h : UB w ub A cap xs off t s l ev c) (ho : off < xs.length) :
    Calls Try.prog 70 #[.pointer (some ⟨ub, 0, none⟩)] w fun e w' => e = .returned (.int .u8 (rd xs off)) ∧ UB w' ub A cap xs (off + 1) t s l ev c ∧ w.grownBy w' (some ub) := by
  have HP := Lib.hid (pop_ok w h ho)
  clear h
  go_enter Try.func70, Try.ntmps70
  go_wp2_with fail
  refine HP.out.mono ?_
  rintro e w1 ⟨rfl, h1, hg⟩
  have H1 := Lib.hid h1
  have HG := Lib.hid hg
  clear h1 hg
  go_wp2_with fail
  go_ret
  exact ⟨rfl, H1.out, HG.out⟩
set_option maxHeartbeats 1000000 in
theorem tag_end (w : World) (h : UB w ub A cap xs off t s l .nilIface c) (ho : xs.length ≤ off) (h2 : off ≤ 2147483647) :
    Calls Try.prog 70 #[.pointer (some ⟨ub, 0, none⟩)] w fun e w' => e = .returned (.int .u8 0) ∧ (∃ ev', UB w' ub A cap xs off t s l ev' c ∧ IsErr ev') ∧ w.grownBy w' (some ub) := by
  have HP := Lib.hid (pop_end w h ho h2)
  clear h
  go_enter Try.func70, Try.ntmps70
  go_wp2_with fail
  refine HP.out.mono ?_
  rintro e w1 ⟨rfl, h1, hg⟩
  have H1 := Lib.hid h1
  have HG := Lib.hid hg
  clear h1 hg
  go_wp2_with fail
  go_ret
  exact ⟨rfl, H1.out, HG.out⟩

set_option maxHeartbeats 1000000 in
theorem bool_any (b : Bool) (w : World) (h : UB w ub A cap xs off t s l ev (if b then 9 else 10)) :
    Calls Try.prog 63 #[.pointer (some ⟨ub, 0, none⟩)] w fun e w' => e = .returned (.bool b) ∧ w = w' := by
  obtain ⟨c0, c1, c2, c3, c4, c5, c6, c7⟩ := h.cells
  clear h
  cases b
  · simp only [Bool.false_eq_true, if_false] at c7
    go_enter Try.func63, Try.ntmps63
    go_wp2
    go_ret
    exact ⟨rfl, rfl⟩
  · simp only [if_true] at c7
    go_enter Try.func63, Try.ntmps63
    go_wp2
    go_ret
    exact ⟨rfl, rfl⟩

set_option maxHeartbeats 1000000 in
theorem len_zero (w : World) (h : UB w ub A cap xs off t s 0 ev c) (h0 : 0 ≤ s) (h1 : s ≤ 127) :
    Calls Try.prog 69 #[.pointer (some ⟨ub, 0, none⟩)] w fun e w' => e = .returned (.int .u32 s) ∧ w = w' := by
  obtain ⟨c0, c1, c2, c3, c4, c5, c6, c7⟩ := h.cells
  clear h
  go_enter Try.func69, Try.ntmps69
  go_wp2
  go_ret
  exact ⟨rfl, rfl⟩

set_option maxHeartbeats 1000000 in
theorem len_any (k : Nat) (hk : k = 1 ∨ k = 2 ∨ k = 4) (w : World) (h : UB w ub A cap xs off t s k .nilIface c) (h2 : off ≤ xs.length) :
    Calls Try.prog 69 #[.pointer (some ⟨ub, 0, none⟩)] w fun e w' => ∃ n off' ev', e = .returned (.int .u32 n) ∧ UB w' ub A cap xs off' t s k ev' c ∧ w.grownBy w' (some ub) ∧ QP (sizedN k (xs.drop off)) xs off n off' .nilIface ev' := by
  obtain ⟨c0, c1, c2, c3, c4, c5, c6, c7⟩ := h.cells
  have HR := Lib.hid (readlen_any k hk w h h2)
  clear h
  have hk0 : ((k : Int) == 0) = false := by rcases hk with rfl | rfl | rfl <;> rfl
  have hkk : (k : Int) ≤ 4 := by omega
  clear hk
  go_enter Try.func69, Try.ntmps69
  go_wp2_with fail
  refine HR.out.mono ?_
  rintro e w1 ⟨n, off', ev', rfl, h1, hg, hq⟩
  have H1 := Lib.hid h1
  have HG := Lib.hid hg
  have HQ := Lib.hid hq
  clear h1 hg hq
  go_wp2_with fail
  go_ret
  exact ⟨n, off', ev', rfl, H1.out, HG.out, HQ.out⟩

/-- What a read of n bytes leaves. -/
structure RP (xs : List Int) (off n : Nat) (ys : List Int) (off' : Nat) (ev ev' : Value) : Prop where
  ok : off + n ≤ xs.length → ys = (xs.drop off).take n ∧ off' = off + n ∧ ev' = ev
  bad : xs.length < off + n → ys = [] ∧ off' = off ∧ IsErr ev'
theorem read_any (n : Nat) (hn : n ≤ 65536) (w : World) (h : UB w ub A cap xs off t s l ev c) (ho : off ≤ xs.length) (he : ev = .nilIface ∨ off + n ≤ xs.length) :
    Calls Try.prog 116 #[.pointer (some ⟨ub, 0, none⟩), .int .u32 n] w fun e w' => ∃ A' m c' ys off' ev', e = .returned (.slice A' m c') ∧ m ≤ n ∧ ReadsInt w' .u8 A' m ys ∧ UB w' ub A cap xs off' t s l ev' c ∧ w.grownBy w' (some ub) ∧ RP xs off n ys off' ev ev' := by
  have hl := h.len
  by_cases hb : off + n ≤ xs.length
  · exact (read_ok n w h hb).mono fun e w' ⟨⟨A', he, hr⟩, hu, hg⟩ => ⟨A', n, _, _, off + n, ev, he, Nat.le_refl _, hr, hu, hg, ⟨fun _ => ⟨rfl, rfl, rfl⟩, fun h => by omega⟩⟩
  · obtain rfl : ev = .nilIface := by rcases he with he | he; exact he; omega
    exact (read_end n w h (by omega) (by omega)).mono fun e w' ⟨⟨A', c', he, hr⟩, ⟨ev', hu, hi⟩, hg⟩ => ⟨A', 0, c', [], off, ev', he, Nat.zero_le _, hr, hu, hg, ⟨fun h => by omega, fun _ => ⟨rfl, rfl, hi⟩⟩⟩

/-- What a text's read leaves. -/
structure SP (tk : Tk) (xs : List Int) (str : ByteArray) (off' : Nat) (ev' : Value) : Prop where
  ok : ∀ x r, tk = .val x r → str = x.f4 ∧ xs.drop off' = r ∧ off' ≤ xs.length ∧ ev' = .nilIface
  bad : tk = .bad → IsErr ev'
theorem notErr : ¬ IsErr .nilIface := by rintro ⟨T, u, h⟩; cases h
theorem SP.err {tk : Tk} {xs : List Int} {str str' : ByteArray} {off' : Nat} {ev' : Value} (h : SP tk xs str off' ev') (he : IsErr ev') : SP tk xs str' off' ev' :=
  ⟨fun x r hx => absurd ((h.ok x r hx).2.2.2 ▸ he) notErr, h.bad⟩
theorem sp_of {k : Int} {q : Option (Int × List Int)} {n : Int} {off1 off2 : Nat} {ys : List Int} {ev1 ev2 : Value} (h0 : 0 ≤ n) (ho1 : off1 ≤ xs.length) (hw : tkStr k q ≠ .wild) (hq : QP q xs off n off1 .nilIface ev1) (hr : RP xs off1 n.toNat ys off2 ev1 ev2) :
    SP (tkStr k q) xs (strOfNums ys) off2 ev2 := by
  cases q with
  | none =>
    obtain ⟨rfl, rfl, he⟩ := hq.bad rfl
    obtain ⟨_, _, h3⟩ := hr.ok (by simpa using ho1)
    exact ⟨fun x r h => (by cases h), fun _ => h3 ▸ he⟩
  | some p =>
    obtain ⟨m, r⟩ := p
    obtain ⟨rfl, h2, h3, rfl⟩ := hq.ok m r rfl
    have hl : r.length = xs.length - off1 := by rw [← h2, List.length_drop]
    simp only [tkStr] at hw ⊢
    by_cases hwild : 65536 < n
    · rw [if_pos hwild] at hw; exact absurd rfl hw
    · rw [if_neg hwild]
      by_cases hlt : (r.length : Int) < n
      · rw [if_pos hlt]
        exact ⟨fun x r h => (by cases h), fun _ => (hr.bad (by omega)).2.2⟩
      · rw [if_neg hlt]
        obtain ⟨h4, h5, h6⟩ := hr.ok (by omega)
        refine ⟨fun x r' h => ?_, fun h => by cases h⟩
        injection h with ha hb
        subst ha hb
        exact ⟨by rw [h4, h2]; rfl, by rw [h5, ← h2, List.drop_drop], by omega, h6⟩

set_option maxHeartbeats 1000000 in
/-- String, of a length in the marker. -/
theorem str_zero (w : World) (h : UB w ub A cap xs off t s 0 .nilIface c) (h2 : off ≤ xs.length) (h0 : 0 ≤ s) (h1 : s ≤ 127) :
    Calls Try.prog 67 #[.pointer (some ⟨ub, 0, none⟩)] w fun e w' => ∃ str off' ev', e = .returned (.string str) ∧ UB w' ub A cap xs off' t s 0 ev' c ∧ w.grownBy w' (some ub) ∧ SP (tkStr 4 (some (s, xs.drop off))) xs str off' ev' := by
  obtain ⟨c0, c1, c2, c3, c4, c5, c6, c7⟩ := h.cells
  have HR := Lib.hid (read_any s.toNat (by omega) w h h2 (.inl rfl))
  rw [Int.toNat_of_nonneg h0] at HR
  have hw : tkStr 4 (some (s, xs.drop off)) ≠ .wild := by
    simp only [tkStr]
    rw [if_neg (by omega)]
    split <;> simp
  have HW := Lib.hid hw
  clear h hw
  go_enter Try.func67, Try.ntmps67
  go_wp2_with fail
  refine HR.out.mono ?_
  rintro e w1 ⟨A', m, c', ys, off', ev', rfl, hmn, hr, hu, hg, hp⟩
  have hcv := string_of_reads (P := Try.prog) (c := c') Try.underlying69 Try.underlying5 Try.underlying9 hr
  have H1 := Lib.hid hu
  have HG := Lib.hid hg
  have HP := Lib.hid hp
  clear hu hg hp hr
  go_wp2_with fail
  go_ret
  exact ⟨_, off', ev', rfl, H1.out, HG.out, sp_of (off := off) h0 h2 HW.out ⟨fun m r h => (by injection h with h; simp only [Prod.mk.injEq] at h; exact ⟨h.1, h.2, h2, rfl⟩), fun h => (by cases h)⟩ HP.out⟩

theorem qp_state {q : Option (Int × List Int)} {n : Int} {off' : Nat} {ev' : Value} (hq : QP q xs off n off' .nilIface ev') (h2 : off ≤ xs.length) : off' ≤ xs.length ∧ (ev' = .nilIface ∨ off' + n.toNat ≤ xs.length) := by
  cases q with
  | none =>
    obtain ⟨rfl, rfl, _⟩ := hq.bad rfl
    exact ⟨h2, .inr (by simpa using h2)⟩
  | some p =>
    obtain ⟨_, _, h3, h4⟩ := hq.ok p.1 p.2 rfl
    exact ⟨h3, .inl h4⟩
theorem tk_small {k : Int} {q : Option (Int × List Int)} {n : Int} {off' : Nat} {ev' : Value} (hw : tkStr k q ≠ .wild) (hq : QP q xs off n off' .nilIface ev') : n ≤ 65536 := by
  cases q with
  | none => obtain ⟨rfl, _⟩ := hq.bad rfl; decide
  | some p =>
    obtain ⟨rfl, _⟩ := hq.ok p.1 p.2 rfl
    simp only [tkStr] at hw
    by_cases h : 65536 < p.1
    · rw [if_pos h] at hw; exact absurd rfl hw
    · omega
theorem qp_nonneg {k : Nat} {n : Int} {off' : Nat} {ev' : Value} (hb : ∀ x ∈ xs, 0 ≤ x ∧ x ≤ 255) (hq : QP (sizedN k (xs.drop off)) xs off n off' .nilIface ev') : 0 ≤ n := by
  cases e : sizedN k (xs.drop off) with
  | none => obtain ⟨rfl, _⟩ := hq.bad e; decide
  | some p =>
    obtain ⟨rfl, _⟩ := hq.ok p.1 p.2 e
    unfold sizedN at e
    split at e
    · cases e
    · injection e with e
      rw [← e]
      exact (be_range _ (fun x hx => hb x (List.mem_of_mem_drop (List.mem_of_mem_take hx)))).1

set_option maxHeartbeats 1000000 in
/-- String, of a length behind the marker. -/
theorem str_any (k : Nat) (hk : k = 1 ∨ k = 2 ∨ k = 4) (w : World) (h : UB w ub A cap xs off t s k .nilIface c) (h2 : off ≤ xs.length) (hw : tkStr 4 (sizedN k (xs.drop off)) ≠ .wild) :
    Calls Try.prog 67 #[.pointer (some ⟨ub, 0, none⟩)] w fun e w' => ∃ str off' ev', e = .returned (.string str) ∧ UB w' ub A cap xs off' t s k ev' c ∧ w.grownBy w' (some ub) ∧ SP (tkStr 4 (sizedN k (xs.drop off))) xs str off' ev' := by
  obtain ⟨c0, c1, c2, c3, c4, c5, c6, c7⟩ := h.cells
  have HR := Lib.hid (readlen_any k hk w h h2)
  have hby := h.byte
  have HB := Lib.hid hby
  have HW := Lib.hid hw
  clear h hw hby
  have hk0 : ((k : Int) == 0) = false := by rcases hk with rfl | rfl | rfl <;> rfl
  have hkk : (k : Int) ≤ 4 := by omega
  clear hk
  go_enter Try.func67, Try.ntmps67
  go_wp2_with fail
  refine HR.out.mono ?_
  rintro e w1 ⟨n, off1, ev1, rfl, h1, hg, hq⟩
  have hn0 := qp_nonneg HB.out hq
  have hn1 := tk_small HW.out hq
  have hst := qp_state hq h2
  have HR1 := Lib.hid (read_any n.toNat (by omega) w1 h1 hst.1 hst.2)
  rw [Int.toNat_of_nonneg hn0] at HR1
  have HG := Lib.hid hg
  have HQ := Lib.hid hq
  have HO := Lib.hid hst.1
  clear h1 hg hq hst
  go_wp2_with fail
  refine HR1.out.mono ?_
  rintro e w2 ⟨A', m, c', ys, off', ev', rfl, hmn, hr, hu, hg2, hp⟩
  have hcv := string_of_reads (P := Try.prog) (c := c') Try.underlying69 Try.underlying5 Try.underlying9 hr
  have H1 := Lib.hid hu
  have HG2 := Lib.hid hg2
  have HP := Lib.hid hp
  clear hu hg2 hp hr
  go_wp2_with fail
  go_ret
  exact ⟨_, off', ev', rfl, H1.out, grown_trans' HG.out HG2.out, sp_of hn0 HO.out HW.out HQ.out HP.out⟩

theorem made_u8 (m : Nat) : madeCells #[.int .u8 0] m = (nums .u8 (List.replicate m 0)).toArray := by
  have hl : (madeCells #[Value.int .u8 0] m).toList = nums .u8 (List.replicate m 0) := by
    apply List.ext_getElem
    · simp [nums, madeCells]
    · intro i h1 h2
      simp [nums, madeCells, Nat.mod_one]
  rw [← hl]
theorem splice_nums (xs : List Int) (ys : List Int) : splice (nums .u8 xs) 0 (nums .u8 ys) = nums .u8 (ys ++ xs.drop ys.length) := by
  simp [splice, nums]
theorem reads_made {w : World} {g m : Nat} {zs : List Int} {ty : TypeId} (hb : w.heap[g]? = some (.cells (nums .u8 zs).toArray ty (0, 0))) (hl : zs.length = m) (hm : m ≤ 65536) : ReadsInt w .u8 (some ⟨g, 0, none⟩) m zs :=
  reads_blk hb hl (by omega) (fun j hj => by
    rw [Nat.zero_add]
    simp only [List.getElem?_toArray, nums, List.getElem?_map, List.getD_eq_getElem?_getD]
    rw [List.getElem?_eq_getElem (by omega)]
    rfl)

set_option maxHeartbeats 2000000 in
/-- ByteArray. -/
theorem bytes_any (k : Nat) (hk : k = 1 ∨ k = 2 ∨ k = 4) (w : World) (h : UB w ub A cap xs off t s k .nilIface c) (h2 : off ≤ xs.length) (hw : tkStr 5 (sizedN k (xs.drop off)) ≠ .wild) :
    Calls Try.prog 68 #[.pointer (some ⟨ub, 0, none⟩)] w fun e w' => ∃ B m c' ys off' ev', e = .returned (.slice B m c') ∧ ReadsInt w' .u8 B m ys ∧ UB w' ub A cap xs off' t s k ev' c ∧ w.grownBy w' (some ub) ∧ SP (tkStr 5 (sizedN k (xs.drop off))) xs (strOfNums ys) off' ev' := by
  have HL := Lib.hid (len_any k hk w h h2)
  have HB := Lib.hid h.byte
  have HW := Lib.hid hw
  clear h hw hk
  go_enter Try.func68, Try.ntmps68
  go_wp2_with fail
  refine HL.out.mono ?_
  rintro e w1 ⟨n, off1, ev1, rfl, h1, hg, hq⟩
  have hn0 := qp_nonneg HB.out hq
  have hn1 := tk_small HW.out hq
  have hst := qp_state hq h2
  have HR1 := Lib.hid (read_any n.toNat (by omega) w1 h1 hst.1 hst.2)
  obtain ⟨nn, rfl⟩ : ∃ nn : Nat, n = nn := ⟨n.toNat, by omega⟩
  rw [Int.toNat_natCast] at HR1
  have HG := Lib.hid hg
  have HQ := Lib.hid hq
  have HO := Lib.hid hst.1
  clear h1 hg hq hst
  go_wp2_with fail
  refine HR1.out.mono ?_
  rintro e w2 ⟨A', m, c', ys, off', ev', rfl, hmn, hr, hu, hg2, hp⟩
  have hmk := run_make_row' (P := Try.prog) 69 5 (.int .u8 0) 1 Try.underlying69 PAll.info5 rfl .u32 .u32 nn (by omega) (by omega)
  rw [made_u8] at hmk
  have H2 := Lib.hid hu
  have HG2 := Lib.hid hg2
  have HP := Lib.hid hp
  have HR := Lib.hid hr
  clear hu hg2 hp hr
  obtain ⟨zs, hzs⟩ : ∃ zs : List Value, nums .u8 (List.replicate nn 0) = zs := ⟨_, rfl⟩
  obtain ⟨cs, hcs⟩ : ∃ cs : List Value, nums .u8 ys = cs := ⟨_, rfl⟩
  rw [hzs] at hmk
  have HZ := Lib.hid hzs
  have HC := Lib.hid hcs
  have hyl : cs.length = m := by rw [← hcs, nums_length]; exact HR.out.1
  have hzl : zs.length = nn := by rw [← hzs, nums_length, List.length_replicate]
  have HYL := Lib.hid hyl
  have HZL := Lib.hid hzl
  have hone : ∀ v ∈ cs, v.oneCell' = true := by
    intro v hv
    rw [← hcs] at hv
    obtain ⟨y, _, rfl⟩ := List.mem_map.1 hv
    rfl
  have HONE := Lib.hid hone
  have hsrc : ∀ W : World, Below w2.heap.size w2 W → 0 < cs.length → ∃ ad, A' = some ad ∧ ∀ j v, cs[j]? = some v → W.cell? (ad.add j) = some v := by
    intro W hW hpos
    obtain ⟨ad, hA, hc⟩ := (HR.out.below hW).2.2 (by omega)
    refine ⟨ad, hA, fun j v hv => ?_⟩
    have hj : j < cs.length := (List.getElem?_eq_some_iff.1 hv).1
    rw [hc j (by omega), ← hv, ← hcs]
    have hjy : j < ys.length := by have := HR.out.1; omega
    simp [nums, List.getElem?_eq_getElem hjy, List.getD_eq_getElem?_getD]
  have HS := Lib.hid hsrc
  clear hzs hcs hyl hzl hone hsrc
  have hsz5 : (Try.prog.info? 5).map (·.size) = some 1 := by obtain ⟨i, hi, hz⟩ := Option.map_eq_some_iff.1 (PAll.info5); simp only [Prod.mk.injEq] at hz; rw [hi]; simp [hz.2.1]
  have hzb : (w2.alloc (.cells zs.toArray 5)).heap[w2.heap.size]? = some (.cells zs.toArray 5 (0, 0)) := heap_alloc_new w2 _
  have HZB := Lib.hid hzb
  have HS2 := Lib.hid (HS.out _ (below_alloc (Below.refl _ w2) (.cells zs.toArray 5)))
  have hmin : cs.length = Nat.min m nn := by rw [HYL.out]; exact (Nat.min_eq_left hmn).symm
  have HMIN := Lib.hid hmin
  clear hzb hmin
  go_wp2_with (with_reducible refine wpList_copy_splice rfl (.tmp 13) (.tmp 14) 69 69 rfl 5 Try.underlying69 hsz5 (some ⟨w2.heap.size, 0, none⟩) A' nn nn m c' rfl rfl w2.heap.size 0 zs 5 HZB.out cs HMIN.out (fun hpos => ⟨rfl, HS2.out hpos⟩) (by rw [Nat.zero_add, HYL.out, HZL.out]; exact hmn) HONE.out w2.heap.size w2 (below_alloc (Below.refl _ w2) _) (Nat.le_refl _) ?_; intro w3 HG3 hB3)
  go_ret
  have hsp := splice_nums (List.replicate nn 0) ys
  have hb3 := HG3.out
  rw [← HZ.out, ← HC.out, hsp] at hb3
  have hfin := sp_of hn0 HO.out HW.out HQ.out (show RP xs off1 (nn : Int).toNat ys off' ev1 ev' from by rw [Int.toNat_natCast]; exact HP.out)
  have hyl : ys.length = m := HR.out.1
  have hgr := grown_trans' (grown_trans' HG.out HG2.out) (grown_of_below hB3 (some ub))
  refine ⟨_, nn, nn, ys ++ (List.replicate nn 0).drop ys.length, off', ev', rfl, reads_made hb3 (by rw [List.length_append, List.length_drop, List.length_replicate]; omega) (by omega), H2.out.move hB3, hgr, ?_⟩
  by_cases hle : off1 + nn ≤ xs.length
  · have h4 := (HP.out.ok hle).1
    have h5 : ys.length = nn := by rw [h4, List.length_take, List.length_drop]; omega
    have hd0 : (List.replicate nn (0 : Int)).drop ys.length = [] := List.drop_of_length_le (by rw [List.length_replicate]; omega)
    rw [hd0, List.append_nil]
    exact hfin
  · exact hfin.err (HP.out.bad (by omega)).2.2
end
end Go.Proofs.Ytjnookhdiolhgaa

namespace Go.Proofs.Ytjnookhdiolhgaa
set_option linter.unusedVariables false
set_option linter.unusedSimpArgs false
open Go.RowKit Go.Proofs.YtjnookhdiolhgaaW.PrintWords

theorem ret_int {k : IntKind} {a b : Int} (h : a = b) : Ending.returned (.int k a) = .returned (.int k b) := by rw [h]
section
variable {ub : Nat} {A : Option Addr} {cap : Nat} {xs : List Int} {off : Nat} {t s l c : Int} {ev : Value}

set_option maxHeartbeats 1000000 in
set_option maxRecDepth 100000 in
/-- source.Uint64. -/
theorem uint64_any {A : Option Addr} {c : Nat} {l : List Int} (w : World) (hr : ReadsInt w .u8 A l.length l) (hc : l.length ≤ c) (h : 8 ≤ l.length) (hb : ∀ x ∈ l, 0 ≤ x ∧ x ≤ 255) :
    Calls Try.prog 115 #[.slice A l.length c] w fun e w' => e = .returned (.int .u64 (be (l.take 8))) ∧ Drawn0 w w' := by
  obtain ⟨i, hi, hz⟩ := Option.map_eq_some_iff.1 (PAll.info5)
  simp only [Prod.mk.injEq] at hz
  obtain ⟨A', h1, h2⟩ := print_cut (P := Try.prog) 69 5 .i64 Try.underlying69 hi hz.2.1 A l.length c 4 (by omega)
  obtain ⟨ys, hys⟩ : ∃ ys, l.drop 4 = ys := ⟨_, rfl⟩
  have hyl : ys.length = l.length - 4 := by rw [← hys, List.length_drop]
  have hcut : ∀ W : World, (Instr.slice 69 (.slice A l.length c) (some (.int .i64 4)) none none).run Try.prog W = .ok (.slice A' ys.length (c - 4)) W := by rw [hyl]; exact h1
  have hrd := h2 w .u8 l hc hr
  rw [hys, ← hyl] at hrd
  have hby : ∀ x ∈ ys, 0 ≤ x ∧ x ≤ 255 := by intro x hx; rw [← hys] at hx; exact hb x (List.mem_of_mem_drop hx)
  have HQ1 := Lib.hid (fun n => quiet32 (W := w) hr hc (by omega) hb n)
  have HQ2 := Lib.hid (fun n => quiet32 (W := w) (c' := c - 4) hrd (by omega) (by omega) hby n)
  have b1 := be_range (l.take 4) (fun x hx => hb x (List.mem_of_mem_take hx))
  have b2 := be_range (ys.take 4) (fun x hx => hby x (List.mem_of_mem_take hx))
  rw [List.length_take, Nat.min_eq_left (by omega)] at b1 b2
  have hval : be (l.take 8) = be (l.take 4) * 4294967296 + be (ys.take 4) := by
    obtain ⟨a0, a1, a2, a3, r, rfl⟩ := four l (by omega)
    have hr4 : 4 ≤ r.length := by simp only [List.length_cons] at h; omega
    obtain ⟨a4, a5, a6, a7, r', rfl⟩ := four r hr4
    simp only [List.drop_succ_cons, List.drop_zero] at hys
    subst hys
    simp only [List.take_succ_cons, List.take_zero, be8, be4]
    omega
  have hor := or64 (be (l.take 4)) (be (ys.take 4)) b1.1 b1.2 b2.1 b2.2
  have c0 : 0 ≤ be (l.take 4) := b1.1
  have c1 : be (l.take 4) < 4294967296 := b1.2
  have c2 : 0 ≤ be (ys.take 4) := b2.1
  have c3 : be (ys.take 4) < 4294967296 := b2.2
  rw [hval]
  generalize be (l.take 4) = p at *
  generalize be (ys.take 4) = q at *
  clear hrd hby h1 h2 hr hb hval b1 b2 hys hyl hc h
  go_enter Try.func115, Try.ntmps115
  go_wp2
  go_quiet ((go_at_call 114; first | (with_reducible exact HQ1.out _) | (with_reducible exact HQ2.out _)))
  go_wp2
  go_ret
  exact ⟨rfl, (Drawn0.refl w).step _⟩
theorem quiet64 {W : World} {A' : Option Addr} {c' : Nat} {ys : List Int} (hr : ReadsInt W .u8 A' ys.length ys) (hc : ys.length ≤ c') (h2 : 8 ≤ ys.length) (hb : ∀ x ∈ ys, 0 ≤ x ∧ x ≤ 255) (n : Nat) :
    Calls Try.prog 115 #[.slice A' ys.length c'] (W.drewN n) fun e w' => e = .returned (.int .u64 (be (ys.take 8))) ∧ ∃ m, w' = W.drewN m :=
  Calls.quiet_of ((uint64_any (W.drewN n) (hr.drewN n) hc h2 hb).mono fun _ _ ⟨he, hd⟩ => ⟨he, hd.out⟩)

set_option maxHeartbeats 1000000 in
theorem int_zero (w : World) (h : UB w ub A cap xs off t s 0 ev c) (h0 : -128 ≤ s) (h1 : s ≤ 127) :
    Calls Try.prog 64 #[.pointer (some ⟨ub, 0, none⟩)] w fun e w' => e = .returned (.int .i64 s) ∧ w = w' := by
  obtain ⟨c0, c1, c2, c3, c4, c5, c6, c7⟩ := h.cells
  clear h
  go_enter Try.func64, Try.ntmps64
  go_wp2
  go_ret
  exact ⟨rfl, rfl⟩

set_option maxHeartbeats 1000000 in
theorem int_end (k : Nat) (hk : 1 ≤ k ∧ k ≤ 8) (w : World) (h : UB w ub A cap xs off t s k .nilIface c) (ho : xs.length < off + k) (h2 : off ≤ 2147483647) :
    Calls Try.prog 64 #[.pointer (some ⟨ub, 0, none⟩)] w fun e w' => e = .returned (.int .i64 0) ∧ (∃ ev', UB w' ub A cap xs off t s k ev' c ∧ IsErr ev') ∧ w.grownBy w' (some ub) := by
  obtain ⟨c0, c1, c2, c3, c4, c5, c6, c7⟩ := h.cells
  have hn := h.len
  have H := Lib.hid h
  clear h
  have hk0 : ((k : Int) == 0) = false := by simp; omega
  have hle : decide (((off : Int) + (k : Int)) > (xs.length : Int)) = true := decide_eq_true (by omega)
  go_enter Try.func64, Try.ntmps64
  go_wp2_with fail
  refine (setErr_nil _ _ _ (H.out.alloc _)).mono ?_
  rintro e w1 ⟨rfl, h1, hg⟩
  have H1 := Lib.hid h1
  have HG := Lib.hid hg
  clear h1 hg
  go_wp2_with fail
  go_ret
  exact ⟨rfl, ⟨_, H1.out, _, _, rfl⟩, grown_trans' (World.grownBy_alloc w _ _) HG.out⟩

set_option maxHeartbeats 1000000 in
set_option maxRecDepth 100000 in
theorem int1 (w : World) (h : UB w ub A cap xs off t s 1 ev c) (ho : off + 1 ≤ xs.length) :
    Calls Try.prog 64 #[.pointer (some ⟨ub, 0, none⟩)] w fun e w' => e = .returned (.int .i64 (IntKind.i8.wrap (rd xs off))) ∧ UB w' ub A cap xs (off + 1) t s 1 ev c ∧ w.grownBy w' (some ub) := by
  obtain ⟨c0, c1, c2, c3, c4, c5, c6, c7⟩ := h.cells
  have f1 := h.frozen 1
  obtain ⟨ad, hA, hr⟩ := h.row.at_ (off : Int) (by omega) (by omega)
  rw [Int.toNat_natCast] at hr
  subst hA
  have hb := h.rdb (i := off) (by omega)
  have hn := h.len
  have H := Lib.hid h
  clear h
  have hle : decide (((off : Int) + 1) > (xs.length : Int)) = false := decide_eq_false (by omega)
  go_enter Try.func64, Try.ntmps64
  go_wp2
  go_quiet (fail)
  go_wp2
  go_ret
  exact ⟨ret_int (by have := wrap_i8' (rd xs off); unfold wrap64; omega), (H.out.drewN _).moved (off + 1), grown_set (grown_drewN w _ _) 1 _⟩

set_option maxHeartbeats 1000000 in
set_option maxRecDepth 100000 in
theorem int2 (w : World) (h : UB w ub A cap xs off t s 2 ev c) (ho : off + 2 ≤ xs.length) :
    Calls Try.prog 64 #[.pointer (some ⟨ub, 0, none⟩)] w fun e w' => e = .returned (.int .i64 (IntKind.i16.wrap (be ((xs.drop off).take 2)))) ∧ UB w' ub A cap xs (off + 2) t s 2 ev c ∧ w.grownBy w' (some ub) := by
  obtain ⟨c0, c1, c2, c3, c4, c5, c6, c7⟩ := h.cells
  have f1 := h.frozen 1
  obtain ⟨A', hsl, hrd, hcp, hby⟩ := h.cut (by omega)
  have HQ := Lib.hid (fun n => quiet16 (W := w) (hrd w h.row) hcp (by rw [List.length_drop]; omega) hby n)
  have hn := h.len
  obtain ⟨ys, hys⟩ : ∃ ys, xs.drop off = ys := ⟨_, rfl⟩
  rw [hys] at hsl hrd hcp hby HQ ⊢
  have HY := Lib.hid hys
  clear hys
  generalize be (ys.take 2) = m at *
  have H := Lib.hid h
  clear h hrd hcp hby
  have hle : decide (((off : Int) + 2) > (xs.length : Int)) = false := decide_eq_false (by omega)
  go_enter Try.func64, Try.ntmps64
  go_wp2
  go_quiet ((go_at_call 113; exact HQ.out _))
  go_wp2
  go_ret
  exact ⟨ret_int (by have := wrap_i16' m; unfold wrap64; omega), (H.out.drewN _).moved (off + 2), grown_set (grown_drewN w _ _) 1 _⟩

set_option maxHeartbeats 1000000 in
set_option maxRecDepth 100000 in
theorem int4 (w : World) (h : UB w ub A cap xs off t s 4 ev c) (ho : off + 4 ≤ xs.length) :
    Calls Try.prog 64 #[.pointer (some ⟨ub, 0, none⟩)] w fun e w' => e = .returned (.int .i64 (IntKind.i32.wrap (be ((xs.drop off).take 4)))) ∧ UB w' ub A cap xs (off + 4) t s 4 ev c ∧ w.grownBy w' (some ub) := by
  obtain ⟨c0, c1, c2, c3, c4, c5, c6, c7⟩ := h.cells
  have f1 := h.frozen 1
  obtain ⟨A', hsl, hrd, hcp, hby⟩ := h.cut (by omega)
  have HQ := Lib.hid (fun n => quiet32 (W := w) (hrd w h.row) hcp (by rw [List.length_drop]; omega) hby n)
  have hn := h.len
  obtain ⟨ys, hys⟩ : ∃ ys, xs.drop off = ys := ⟨_, rfl⟩
  rw [hys] at hsl hrd hcp hby HQ ⊢
  have HY := Lib.hid hys
  clear hys
  generalize be (ys.take 4) = m at *
  have H := Lib.hid h
  clear h hrd hcp hby
  have hle : decide (((off : Int) + 4) > (xs.length : Int)) = false := decide_eq_false (by omega)
  go_enter Try.func64, Try.ntmps64
  go_wp2
  go_quiet ((go_at_call 114; exact HQ.out _))
  go_wp2
  go_ret
  exact ⟨ret_int (by rw [IntKind.wrap_i32]; unfold wrap64 wrap32; omega), (H.out.drewN _).moved (off + 4), grown_set (grown_drewN w _ _) 1 _⟩

set_option maxHeartbeats 1000000 in
set_option maxRecDepth 100000 in
theorem int8 (w : World) (h : UB w ub A cap xs off t s 8 ev c) (ho : off + 8 ≤ xs.length) :
    Calls Try.prog 64 #[.pointer (some ⟨ub, 0, none⟩)] w fun e w' => e = .returned (.int .i64 (IntKind.i64.wrap (be ((xs.drop off).take 8)))) ∧ UB w' ub A cap xs (off + 8) t s 8 ev c ∧ w.grownBy w' (some ub) := by
  obtain ⟨c0, c1, c2, c3, c4, c5, c6, c7⟩ := h.cells
  have f1 := h.frozen 1
  obtain ⟨A', hsl, hrd, hcp, hby⟩ := h.cut (by omega)
  have HQ := Lib.hid (fun n => quiet64 (W := w) (hrd w h.row) hcp (by rw [List.length_drop]; omega) hby n)
  have hn := h.len
  obtain ⟨ys, hys⟩ : ∃ ys, xs.drop off = ys := ⟨_, rfl⟩
  rw [hys] at hsl hrd hcp hby HQ ⊢
  have HY := Lib.hid hys
  clear hys
  generalize be (ys.take 8) = m at *
  have H := Lib.hid h
  clear h hrd hcp hby
  have hle : decide (((off : Int) + 8) > (xs.length : Int)) = false := decide_eq_false (by omega)
  go_enter Try.func64, Try.ntmps64
  go_wp2
  go_quiet ((go_at_call 115; exact HQ.out _))
  go_wp2
  go_ret
  exact ⟨ret_int (by rw [IntKind.wrap_i64]; unfold wrap64; omega), (H.out.drewN _).moved (off + 8), grown_set (grown_drewN w _ _) 1 _⟩

/-- A number's method: the length, and the kind as which its bytes are read. -/
def intQ (g : IntKind) (k : Nat) (r : List Int) : Option (Int × List Int) := (sizedN k r).map fun p => (g.wrap p.1, p.2)
theorem qi_ok {g : IntKind} {k : Nat} {ev : Value} (hk : off + k ≤ xs.length) : QP (intQ g k (xs.drop off)) xs off (g.wrap (be ((xs.drop off).take k))) (off + k) ev ev := by
  have h := qp_ok (ev := ev) hk
  constructor
  · intro m r hq
    unfold intQ at hq
    obtain ⟨p, hp, he⟩ := Option.map_eq_some_iff.1 hq
    simp only [Prod.mk.injEq] at he
    obtain ⟨h1, h2, h3, h4⟩ := h.ok p.1 p.2 hp
    exact ⟨by rw [← he.1, h1], by rw [← he.2]; exact h2, h3, h4⟩
  · intro hq
    unfold intQ at hq
    rw [Option.map_eq_none_iff] at hq
    have := h.bad hq
    unfold sizedN at hq
    rw [if_neg (by rw [List.length_drop]; omega)] at hq
    cases hq
theorem qi_bad {g : IntKind} {k : Nat} {ev ev' : Value} (ho : xs.length < off + k) (h2 : off ≤ xs.length) (hi : IsErr ev') : QP (intQ g k (xs.drop off)) xs off 0 off ev ev' := by
  have e : intQ g k (xs.drop off) = none := by
    unfold intQ sizedN
    rw [if_pos (by rw [List.length_drop]; omega)]
    rfl
  exact ⟨fun m r hq => (by rw [e] at hq; cases hq), fun _ => ⟨rfl, rfl, hi⟩⟩
theorem int_any (k : Nat) (g : IntKind) (hk : (k = 1 ∧ g = .i8) ∨ (k = 2 ∧ g = .i16) ∨ (k = 4 ∧ g = .i32) ∨ (k = 8 ∧ g = .i64)) (w : World) (h : UB w ub A cap xs off t s k .nilIface c) (h2 : off ≤ xs.length) :
    Calls Try.prog 64 #[.pointer (some ⟨ub, 0, none⟩)] w fun e w' => ∃ n off' ev', e = .returned (.int .i64 n) ∧ UB w' ub A cap xs off' t s k ev' c ∧ w.grownBy w' (some ub) ∧ QP (intQ g k (xs.drop off)) xs off n off' .nilIface ev' := by
  by_cases hb : xs.length < off + k
  · exact (int_end k (by omega) w h hb (by have := h.len; omega)).mono fun e w' ⟨he, ⟨ev', hu, hi⟩, hg⟩ => ⟨0, off, ev', he, hu, hg, qi_bad hb h2 hi⟩
  · rcases hk with ⟨rfl, rfl⟩ | ⟨rfl, rfl⟩ | ⟨rfl, rfl⟩ | ⟨rfl, rfl⟩
    · exact (int1 w h (by omega)).mono fun e w' ⟨he, hu, hg⟩ => ⟨_, off + 1, _, he, hu, hg, by rw [rd_take1 (by omega)]; exact qi_ok (by omega)⟩
    · exact (int2 w h (by omega)).mono fun e w' ⟨he, hu, hg⟩ => ⟨_, off + 2, _, he, hu, hg, qi_ok (by omega)⟩
    · exact (int4 w h (by omega)).mono fun e w' ⟨he, hu, hg⟩ => ⟨_, off + 4, _, he, hu, hg, qi_ok (by omega)⟩
    · exact (int8 w h (by omega)).mono fun e w' ⟨he, hu, hg⟩ => ⟨_, off + 8, _, he, hu, hg, qi_ok (by omega)⟩

/-- What Float leaves. -/
structure FP (q : Option (Int × List Int)) (xs : List Int) (f : Nat) (off' : Nat) (ev' : Value) : Prop where
  ok : ∀ m r, q = some (m, r) → (f : Int) = m ∧ xs.drop off' = r ∧ off' ≤ xs.length ∧ ev' = .nilIface
  bad : q = none → IsErr ev'
set_option maxHeartbeats 1000000 in
theorem float_any (w : World) (h : UB w ub A cap xs off t s l .nilIface c) (h2 : off ≤ xs.length) :
    Calls Try.prog 66 #[.pointer (some ⟨ub, 0, none⟩)] w fun e w' => ∃ f off' ev', e = .returned (.float .f64 f) ∧ UB w' ub A cap xs off' t s l ev' c ∧ w.grownBy w' (some ub) ∧ FP (sizedN 8 (xs.drop off)) xs f off' ev' := by
  have hby := h.byte
  by_cases hb : off + 8 ≤ xs.length
  · have HR := Lib.hid (read_ok 8 w h hb)
    clear h
    have hl8 : ((xs.drop off).take 8).length = 8 := by rw [List.length_take, List.length_drop]; omega
    have hb8 : ∀ x ∈ (xs.drop off).take 8, 0 ≤ x ∧ x ≤ 255 := fun x hx => hby x (List.mem_of_mem_drop (List.mem_of_mem_take hx))
    have hrg := be_range _ hb8
    have ht : ((xs.drop off).take 8).take 8 = (xs.drop off).take 8 := by rw [List.take_take]; rfl
    have hsz : sizedN 8 (xs.drop off) = some (be ((xs.drop off).take 8), xs.drop (off + 8)) := by
      unfold sizedN
      rw [if_neg (by rw [List.length_drop]; omega), List.drop_drop]
    rw [hsz]
    obtain ⟨ys, hys⟩ : ∃ ys, (xs.drop off).take 8 = ys := ⟨_, rfl⟩
    rw [hys] at HR hl8 hb8 hrg ht ⊢
    obtain ⟨m, hm⟩ : ∃ m, be ys = m := ⟨_, rfl⟩
    rw [hm]
    have HM := Lib.hid hm
    clear hm
    have HT := Lib.hid ht
    have HRG := Lib.hid hrg
    have HB8 := Lib.hid hb8
    have HL8 := Lib.hid hl8
    have HBN := Lib.hid hby
    clear hys ht hrg hb8 hsz hl8 hby
    have hfb := fun (n : Int) (w : World) => run_frombits n w
    go_enter Try.func66, Try.ntmps66
    go_wp2_with fail
    refine HR.out.mono ?_
    rintro e w1 ⟨⟨A', rfl, hr⟩, hu, hg⟩
    have hcp : ys.length ≤ cap - off := by have := hu.cap; have := HL8.out; omega
    have HU := Lib.hid (uint64_any (c := cap - off) w1 (by rw [HL8.out]; exact hr) hcp (by have := HL8.out; omega) HB8.out)
    rw [HL8.out, HT.out] at HU
    obtain ⟨c0, c1, c2, c3, c4, c5, c6, c7⟩ := hu.cells
    have H1 := Lib.hid hu
    have HG := Lib.hid hg
    clear hu hg hr hcp c0 c1 c2 c3 c4 c5 c7
    rw [HM.out] at HU HRG
    go_wp2_with fail
    refine HU.out.mono ?_
    rintro e w2 ⟨rfl, hd⟩
    have HD := Lib.hid hd
    clear hd
    go_wp2_with fail
    go_ret
    have hm0 := HRG.out.1
    refine ⟨m.toNat, off + 8, .nilIface, rfl, H1.out.move HD.out.below, grown_trans' HG.out (grown_of_below HD.out.below _), ⟨fun m' r hq => ?_, fun h => by cases h⟩⟩
    simp only [Option.some.injEq, Prod.mk.injEq] at hq
    exact ⟨by rw [← hq.1]; omega, hq.2, hb, rfl⟩
  · have HR := Lib.hid (read_end 8 w h (by omega) (by have := h.len; omega))
    clear h
    have hfb := fun (n : Int) (w : World) => run_frombits n w
    go_enter Try.func66, Try.ntmps66
    go_wp2_with fail
    refine HR.out.mono ?_
    rintro e w1 ⟨⟨A', c', rfl, hr⟩, ⟨ev', hu, ⟨T, u, rfl⟩⟩, hg⟩
    obtain ⟨c0, c1, c2, c3, c4, c5, c6, c7⟩ := hu.cells
    have H1 := Lib.hid hu
    have HG := Lib.hid hg
    clear hu hg hr c0 c1 c2 c3 c4 c5 c7
    go_wp2
    go_ret
    refine ⟨9221120237041090561, off, .iface T u, rfl, H1.out, HG.out, ⟨fun m' r hq => ?_, fun _ => ⟨T, u, rfl⟩⟩⟩
    unfold sizedN at hq
    rw [if_pos (by rw [List.length_drop]; omega)] at hq
    cases hq

set_option maxHeartbeats 1000000 in
theorem reset_any (w : World) (hb : w.heap[ub]? = some (.cells #[.slice none 0 0, .int .u32 0, .int .u32 0, .int .i64 0, .int .i8 0, .int .u8 0, .nilIface, .int .i64 0] 117 (0, 0))) (hr : ReadsInt w .u8 A xs.length xs) (hcap : xs.length ≤ cap)
    (hfar : ∀ ad, A = some ad → ad.block ≠ ub) (hlen : xs.length ≤ 2147483647) (hbyte : ∀ x ∈ xs, 0 ≤ x ∧ x ≤ 255) :
    Calls Try.prog 60 #[.pointer (some ⟨ub, 0, none⟩), .slice A xs.length cap] w fun e w' => e = .returned (.tuple #[]) ∧ UB w' ub A cap xs 0 0 0 0 .nilIface 0 ∧ w.grownBy w' (some ub) := by
  have f0 := blk_frozen hb 0
  have f1 := blk_frozen hb 1
  have f2 := blk_frozen hb 2
  have f3 := blk_frozen hb 3
  have f6 := blk_frozen hb 6
  have f7 := blk_frozen hb 7
  have c0 : w.cell? ⟨ub, 0, none⟩ = some (.slice none 0 0) := blk_cell hb 0
  have c1 : w.cell? ⟨ub, 1, none⟩ = some (.int .u32 0) := blk_cell hb 1
  have c2 : w.cell? ⟨ub, 2, none⟩ = some (.int .u32 0) := blk_cell hb 2
  have c3 : w.cell? ⟨ub, 3, none⟩ = some (.int .i64 0) := blk_cell hb 3
  have c6 : w.cell? ⟨ub, 6, none⟩ = some .nilIface := blk_cell hb 6
  have c7 : w.cell? ⟨ub, 7, none⟩ = some (.int .i64 0) := blk_cell hb 7
  have HB := Lib.hid hb
  have HR := Lib.hid hr
  have HF := Lib.hid hfar
  have HBY := Lib.hid hbyte
  clear hb hr hfar hbyte
  go_enter Try.func60, Try.ntmps60
  go_wp2
  go_end0
  have h0 := blk_put (cs' := #[.slice A xs.length cap, .int .u32 0, .int .u32 0, .int .i64 0, .int .i8 0, .int .u8 0, .nilIface, .int .i64 0]) HB.out 0 (.slice A xs.length cap) rfl
  have h1 := blk_put (cs' := #[.slice A xs.length cap, .int .u32 0, .int .u32 0, .int .i64 0, .int .i8 0, .int .u8 0, .nilIface, .int .i64 0]) h0 1 (.int .u32 0) rfl
  have h2 := blk_put (cs' := #[.slice A xs.length cap, .int .u32 0, .int .u32 xs.length, .int .i64 0, .int .i8 0, .int .u8 0, .nilIface, .int .i64 0]) h1 2 (.int .u32 xs.length) rfl
  have h3 := blk_put (cs' := #[.slice A xs.length cap, .int .u32 0, .int .u32 xs.length, .int .i64 0, .int .i8 0, .int .u8 0, .nilIface, .int .i64 0]) h2 6 .nilIface rfl
  have h4 := blk_put (cs' := #[.slice A xs.length cap, .int .u32 0, .int .u32 xs.length, .int .i64 0, .int .i8 0, .int .u8 0, .nilIface, .int .i64 0]) h3 3 (.int .i64 0) rfl
  have h5 := blk_put (cs' := #[.slice A xs.length cap, .int .u32 0, .int .u32 xs.length, .int .i64 0, .int .i8 0, .int .u8 0, .nilIface, .int .i64 0]) h4 7 (.int .i64 0) rfl
  have hg := grown_set (grown_set (grown_set (grown_set (grown_set (grown_set (World.grownBy.refl w (some ub)) 0 (.slice A xs.length cap)) 1 (.int .u32 0)) 2 (.int .u32 xs.length)) 6 .nilIface) 3 (.int .i64 0)) 7 (.int .i64 0)
  refine ⟨rfl, ⟨h5, reads_keep HR.out (fun ad ea hl => hg.block _ hl ?_), hcap, HF.out, hlen, HBY.out⟩, hg⟩
  intro he
  injection he with he
  exact HF.out ad ea he
end
end Go.Proofs.Ytjnookhdiolhgaa

namespace Go.Proofs.Ytjnookhdiolhgaa
set_option linter.unusedVariables false
set_option linter.unusedSimpArgs false
open Go.RowKit Go.Proofs.YtjnookhdiolhgaaW.PrintWords
open PAll (S26)

theorem Bytes.nil : Bytes [] := fun x h => by cases h
theorem Bytes.cons {a : Int} {l : List Int} (h : 0 ≤ a ∧ a ≤ 255) (hl : Bytes l) : Bytes (a :: l) := fun x hx => by
  rcases List.mem_cons.1 hx with rfl | hx
  · exact h
  · exact hl x hx
theorem Bytes.append {a b : List Int} (ha : Bytes a) (hb : Bytes b) : Bytes (a ++ b) := fun x hx => by
  rcases List.mem_append.1 hx with hx | hx
  · exact ha x hx
  · exact hb x hx
theorem bytesOf_strOfNums {l : List Int} (h : Bytes l) : bytesOf (strOfNums l) = l := by
  unfold bytesOf strOfNums
  simp only [List.map_map]
  induction l with
  | nil => rfl
  | cons a l ih =>
    have h0 := h a (by simp)
    simp only [List.map_cons, Function.comp]
    rw [ih (fun x hx => h x (by simp [hx]))]
    congr 1
    simp only [UInt8.toNat_ofNat']
    omega
theorem encInt_bytes (i : Int) : Bytes (encInt i) := by
  unfold encInt
  split
  · exact .cons (by omega) .nil
  · split
    · exact .cons (by omega) (.cons (by omega) .nil)
    · split
      · exact .cons (by omega) (.cons (by omega) (.cons (by omega) .nil))
      · split
        · exact .cons (by omega) (.cons (by omega) (.cons (by omega) (.cons (by omega) (.cons (by omega) .nil))))
        · exact .cons (by omega) (.cons (by omega) (.cons (by omega) (.cons (by omega) (.cons (by omega) (.cons (by omega) (.cons (by omega) (.cons (by omega) (.cons (by omega) .nil))))))))
theorem encFloat_bytes (f : Nat) (h : f < 18446744073709551616) : Bytes (encFloat f) := by
  unfold encFloat
  exact .cons (by omega) (.cons (by omega) (.cons (by omega) (.cons (by omega) (.cons (by omega) (.cons (by omega) (.cons (by omega) (.cons (by omega) (.cons (by omega) .nil))))))))
theorem encHead_bytes (s l n : Int) (hs : 0 ≤ s ∧ s ≤ 240) (hl : 0 ≤ l ∧ l ≤ 253) (hn : 0 ≤ n ∧ n < 4294967296) : Bytes (encHead s l n) := by
  unfold encHead
  split
  · exact .cons (by omega) .nil
  · split
    · exact .cons (by omega) (.cons (by omega) .nil)
    · split
      · exact .cons (by omega) (.cons (by omega) (.cons (by omega) .nil))
      · exact .cons (by omega) (.cons (by omega) (.cons (by omega) (.cons (by omega) (.cons (by omega) .nil))))
theorem encText_bytes (s : ByteArray) (h : s.size ≤ 300) : Bytes (encText s) := (encHead_bytes 128 208 s.size (by decide) (by decide) (by omega)).append (bytesOf_bytes s)
mutual
theorem enc_bytes : ∀ (x : S26), okV x → wfV x → nodes x ≤ 60000 → Bytes (enc x)
  | ⟨k, b, i, f, s, keys, kids⟩, hok, hwf, hn => by
    simp only [okV] at hok
    simp only [wfV] at hwf
    simp only [nodes] at hn
    have hlen := nodesAll_len kids
    obtain ⟨⟨hk0, hk8, hs, hb, hi, hg, hs0, hkeys, hkids, h8, h7, hks⟩, hoa⟩ := hok
    have hk := encKids_bytes kids (k == 7) keys hoa hwf.2 (by omega) hks
    simp only [enc]
    refine Bytes.append ?_ hk
    unfold encTop
    split
    · exact .cons (by omega) .nil
    · split
      · cases b <;> exact .cons (by decide) .nil
      · split
        · exact encInt_bytes i
        · split
          · exact encFloat_bytes _ (by omega)
          · split
            · exact encText_bytes s hs
            · split
              · refine Bytes.append ?_ (bytesOf_bytes s)
                unfold encByteHead
                split
                · exact .cons (by omega) (.cons (by omega) .nil)
                · exact .cons (by omega) (.cons (by omega) (.cons (by omega) .nil))
              · split
                · exact encHead_bytes _ _ _ (by decide) (by decide) (by omega)
                · split
                  · exact encHead_bytes _ _ _ (by decide) (by decide) (by omega)
                  · obtain ⟨h1, h2, h3⟩ := h8 (by omega)
                    exact .cons (by omega) (.cons (by omega) .nil)
theorem encKids_bytes : ∀ (kids : List S26) (m : Bool) (keys : List ByteArray), okAll kids → wfAll kids → nodesAll kids ≤ 60000 → (∀ t ∈ keys, t.size ≤ 300) → Bytes (encKids m keys kids)
  | [], m, keys, _, _, _, _ => by simp only [encKids]; exact .nil
  | x :: r, m, keys, hok, hwf, hn, hks => by
    simp only [okAll] at hok
    simp only [wfAll] at hwf
    simp only [nodesAll] at hn
    have h1 := enc_bytes x hok.1 hwf.1 (by omega)
    have h2 := encKids_bytes r m keys.tail hok.2 hwf.2 (by omega) (fun t ht => hks t (List.mem_of_mem_tail ht))
    simp only [encKids]
    refine Bytes.append ?_ (h1.append h2)
    split
    · refine encText_bytes _ ?_
      cases keys with
      | nil => exact Nat.zero_le _
      | cons a l => exact hks a (by simp)
    · exact .nil
end
/-- A packed value is read again. -/
theorem parse_str (x : S26) (hok : okV x) (hwf : wfV x) (hn : nodes x ≤ 1000) : parse 1002 0 (bytesOf (strOfNums (enc x))) = .ok x [] := by
  rw [bytesOf_strOfNums (enc_bytes x hok hwf (by omega))]
  have h := parse_enc x 1002 0 [] hok hwf (by omega) (by omega) (by omega)
  rwa [List.append_nil] at h
theorem bytesOf_extract (s : ByteArray) (n : Nat) : bytesOf (s.extract 0 n) = (bytesOf s).take n := by
  unfold bytesOf
  rw [← List.map_take]
  congr 1
  simp [ByteArray.data_extract]
theorem parse_str_cut (x : S26) (n : Nat) (hok : okV x) (hwf : wfV x) (hn : nodes x ≤ 1000) (hlt : n < (strOfNums (enc x)).size) : parse 1002 0 (bytesOf ((strOfNums (enc x)).extract 0 n)) = .bad 1 := by
  rw [bytesOf_extract]
  have h := parse_str x hok hwf hn
  rw [← List.take_append_drop n (bytesOf (strOfNums (enc x)))] at h
  refine parse_cut ?_ h
  intro he
  have := congrArg List.length he
  rw [List.length_drop, bytesOf_length] at this
  simp at this
  omega
end Go.Proofs.Ytjnookhdiolhgaa
