/- CRC16 in plain numbers: eight bit steps of a byte come to one look into the table. -/
namespace Go.Proofs.YtkogipaaioibaaaGreatDoor.Crc

def step (c : Nat) : Nat := (c * 2 % 65536) ^^^ (if c.testBit 15 then 4129 else 0)
def step8 (c : Nat) : Nat := step (step (step (step (step (step (step (step c)))))))
def tab (n : Nat) : Nat := step8 (n * 256)
def nextB (c b : Nat) : Nat := step8 (c ^^^ (b * 256))
def nextT (c b : Nat) : Nat := (c * 256 % 65536) ^^^ tab ((c / 256) ^^^ b)

theorem two_xor (x y : Nat) : ((x ^^^ y) * 2) % 65536 = (x * 2 % 65536) ^^^ (y * 2 % 65536) := by
  have h : ∀ z : Nat, z * 2 = z <<< 1 := fun z => by rw [Nat.shiftLeft_eq]
  have e : (65536 : Nat) = 2 ^ 16 := rfl
  rw [h, h, h, Nat.shiftLeft_xor_distrib, e, Nat.xor_mod_two_pow]
theorem xor4 (a b c d : Nat) : (a ^^^ b) ^^^ (c ^^^ d) = (a ^^^ c) ^^^ (b ^^^ d) := by
  rw [Nat.xor_assoc, Nat.xor_assoc, ← Nat.xor_assoc b c d, Nat.xor_comm b c, Nat.xor_assoc c b d]
theorem step_xor (x y : Nat) : step (x ^^^ y) = step x ^^^ step y := by
  unfold step
  rw [two_xor, Nat.testBit_xor, xor4]
  congr 1
  cases x.testBit 15 <;> cases y.testBit 15 <;> simp
theorem step8_xor (x y : Nat) : step8 (x ^^^ y) = step8 x ^^^ step8 y := by
  unfold step8
  repeat rw [step_xor]
theorem step_lt (x : Nat) : step x < 65536 := by
  have e : (65536 : Nat) = 2 ^ 16 := rfl
  unfold step
  rw [e]
  refine Nat.xor_lt_two_pow (Nat.mod_lt _ (by decide)) ?_
  split <;> decide
theorem step8_lt (x : Nat) : step8 x < 65536 := step_lt _
theorem tab_lt (n : Nat) : tab n < 65536 := step8_lt _
theorem low8 : ∀ lo : Fin 256, step8 lo.val = lo.val * 256 := by decide +kernel
theorem split_xor (c b : Nat) : c ^^^ (b * 256) = (((c / 256) ^^^ b) * 256) ^^^ (c % 256) := by
  have h : ∀ z : Nat, z * 256 = z <<< 8 := fun z => by rw [Nat.shiftLeft_eq]
  have hc : c = ((c / 256) * 256) ^^^ (c % 256) := by
    have e : (256 : Nat) = 2 ^ 8 := rfl
    apply Nat.eq_of_testBit_eq
    intro i
    rw [h, Nat.testBit_xor, Nat.testBit_shiftLeft, e, Nat.testBit_mod_two_pow, Nat.testBit_div_two_pow]
    by_cases hi : i < 8
    · simp [hi, show ¬ 8 ≤ i by omega]
    · simp [hi, show 8 ≤ i by omega]
  rw [h ((c / 256) ^^^ b), Nat.shiftLeft_xor_distrib, ← h, ← h]
  conv => lhs; rw [hc]
  rw [Nat.xor_assoc, Nat.xor_comm (c % 256), ← Nat.xor_assoc]
theorem next_eq (c b : Nat) : nextB c b = nextT c b := by
  unfold nextB nextT tab
  rw [split_xor, step8_xor]
  have hl := low8 ⟨c % 256, Nat.mod_lt _ (by decide)⟩
  simp only at hl
  rw [hl, Nat.xor_comm]
  congr 1
  omega
theorem nextT_lt (c b : Nat) : nextT c b < 65536 := by rw [← next_eq]; exact step8_lt _

/-- The CRC16 of bytes. -/
def crcL (c : Nat) (l : List UInt8) : Nat := l.foldl (fun c b => nextB c b.toNat) c
theorem crcL_cons (c : Nat) (b : UInt8) (l : List UInt8) : crcL c (b :: l) = crcL (nextB c b.toNat) l := rfl
theorem crcL_lt (c : Nat) (hc : c < 65536) (l : List UInt8) : crcL c l < 65536 := by
  induction l generalizing c with
  | nil => exact hc
  | cons b l ih => exact ih _ (step8_lt _)

/-- The table's bytes, two an entry. -/
def tabBytes : List UInt8 := (List.range 256).flatMap fun n => [UInt8.ofNat (tab n / 256), UInt8.ofNat (tab n % 256)]
end Go.Proofs.YtkogipaaioibaaaGreatDoor.Crc
