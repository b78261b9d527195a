/-
  The walk of 'zzs1886cmake' (17), the set held as bits.
-/
import Derived.Test.YbulkamaoWords
import Derived.Test.YbulkamaoSets
import Derived.Test.YbulkamaoSpans
namespace Go.Proofs.Ybulkamao
open Go.RowKit

theorem Yba.info35b : (Yba.prog.info? 35).map (fun i => (i.zero, i.size, i.bytes)) = some (some (.int .u64 0), 1, 8) := by kernel_rfl

/-- The words of the members below k. -/
def bitsW (z : Nat → Bool) : Nat → Nat → Nat
  | 0, _ => 0
  | k + 1, j => if z k = true ∧ j = k / 64 then bitsW z k j ||| 2 ^ (k % 64) else bitsW z k j

theorem bitsW_lt (z : Nat → Bool) (k j : Nat) : bitsW z k j < 18446744073709551616 := by
  induction k with
  | zero => show (0 : Nat) < _; decide
  | succ k ih =>
    unfold bitsW
    split
    · exact or_lt ih (Nat.lt_of_lt_of_le (Nat.pow_lt_pow_right (by decide) (Nat.mod_lt k (by decide) : k % 64 < 64)) (Nat.le_refl _))
    · exact ih

theorem bitsW_bit (z : Nat → Bool) (k j i : Nat) (hi : i < 64) : (bitsW z k j).testBit i = (decide (64 * j + i < k) && z (64 * j + i)) := by
  induction k with
  | zero => simp [bitsW]
  | succ k ih =>
    unfold bitsW
    by_cases hz : z k = true
    · by_cases hj : j = k / 64
      · rw [if_pos ⟨hz, hj⟩, Nat.testBit_or, ih, Nat.testBit_two_pow]
        by_cases hi2 : k % 64 = i
        · have e : 64 * j + i = k := by omega
          simp [e, hz, hi2]
        · have e : 64 * j + i ≠ k := by omega
          have : decide (64 * j + i < k + 1) = decide (64 * j + i < k) := by simp; omega
          rw [this]; simp [hi2]
      · rw [if_neg (fun h => hj h.2), ih]
        have : decide (64 * j + i < k + 1) = decide (64 * j + i < k) := by simp; omega
        rw [this]
    · rw [if_neg (fun h => hz h.1), ih]
      by_cases e : 64 * j + i = k
      · have hz' : z k = false := by simpa using hz
        rw [e, hz']; simp
      · have : decide (64 * j + i < k + 1) = decide (64 * j + i < k) := by simp; omega
        rw [this]

theorem or_bit (x s : Nat) (hx : x < 18446744073709551616) (hs : s < 64) : bits .or .u64 (x : Int) (IntKind.u64.wrap (2 ^ s)) = ((x ||| 2 ^ s : Nat) : Int) := by
  have hp : (2 : Nat) ^ s < 18446744073709551616 := Nat.lt_of_lt_of_le (Nat.pow_lt_pow_right (by decide) hs) (Nat.le_refl _)
  have e : IntKind.u64.wrap (2 ^ s) = ((2 ^ s : Nat) : Int) := by
    rw [IntKind.wrap_u64]
    have : ((2 : Int) ^ s) = ((2 ^ s : Nat) : Int) := by simp
    rw [this]
    generalize 2 ^ s = q at hp
    omega
  rw [e]
  exact u64_or_nat x (2 ^ s) hx hp
theorem bitsW_step (z : Nat → Bool) (k x : Nat) (hz : z k = true) (hx : bitsW z k (k / 64) = x) (hxb : x < 18446744073709551616) (i : Nat) :
    (if i = k / 64 then Value.int .u64 (bits .or .u64 (x : Int) (IntKind.u64.wrap (2 ^ (k % 64)))) else .int .u64 (bitsW z k i : Nat)) = .int .u64 (bitsW z (k + 1) i : Nat) := by
  rw [or_bit x (k % 64) hxb (Nat.mod_lt _ (by decide))]
  by_cases h : i = k / 64
  · subst h
    rw [if_pos rfl]
    conv => rhs; unfold bitsW
    rw [if_pos ⟨hz, rfl⟩, hx]
  · rw [if_neg h]
    conv => rhs; unfold bitsW
    rw [if_neg (fun h' => h h'.2)]
theorem bitsW_skip (z : Nat → Bool) (k : Nat) (hz : z k = false) (i : Nat) : Value.int .u64 (bitsW z k i : Nat) = .int .u64 (bitsW z (k + 1) i : Nat) := by
  conv => rhs; unfold bitsW
  rw [if_neg (fun h' => by rw [hz] at h'; cases h'.1)]

set_option maxHeartbeats 1000000 in
theorem makeBits_any (g n m : Nat) (z : Nat → Bool) (w : World) (hrow : w.rowIs g 4 n (fun j => .bool (z j))) (hn : n ≤ 300) (hm : (n + 63) / 64 = m) :
    Calls Yba.prog 17 #[.slice (some ⟨g, 0, none⟩) n n, .bool true] w fun e w' => e = .returned (.pointer (some ⟨w.heap.size + 1, 0, none⟩)) ∧
      w'.cell? ⟨w.heap.size + 1, 0, none⟩ = some (.slice none 0 0) ∧ w'.cell? ⟨w.heap.size + 1, 1, none⟩ = some (.slice (some ⟨w.heap.size, 0, none⟩) m m) ∧
      w'.rowIs w.heap.size 35 m (fun j => .int .u64 (bitsW z n j : Nat)) ∧ Below w.heap.size w w' := by
  have hmk := run_make_row' (P := Yba.prog) 33 35 (.int .u64 0) 8 Yba.underlying33 Yba.info35b rfl .i64 .i64 m (by omega) (by omega)
  have hmI : ((n : Int) + 63) / 64 = (m : Int) := by omega
  go_enter Yba.func17, Yba.ntmps17
  go_wp2
  rw [hmI]
  clear hmI hmk
  go_loopw [6, 7, 19] (fun _ _ i wr => ∃ k : Nat, k ≤ n ∧ i = .int .i64 k ∧ wr.rowIs w.heap.size 35 m (fun j => .int .u64 (bitsW z k j : Nat)) ∧ Below w.heap.size w wr ∧ wr.heap.size = w.heap.size + 1) (fun _ _ i _ => n - (intOf i).toNat)
  case atStart => exact ⟨0, Nat.zero_le _, rfl, World.rowIs_made w (.int .u64 0) m 35, (Below.refl _ _).alloc (Nat.le_refl _) _, by simp⟩
  case round =>
    obtain ⟨k, hk, rfl, hr, hnx, hsz⟩ := hrel
    by_cases hlt : k < n
    · have hck := cell_later hnx (hrow.cell (i := k) hlt)
      have hcb := hr.cell (i := k / 64) (by omega)
      have hfb := hr.frozen (k / 64)
      have hxb := bitsW_lt z k (k / 64)
      obtain ⟨b, hb⟩ : ∃ b, z k = b := ⟨_, rfl⟩
      simp only [hb] at hck
      have HB : Hid (z k = b) := hb
      clear hb
      obtain ⟨x, hx⟩ : ∃ x, bitsW z k (k / 64) = x := ⟨_, rfl⟩
      simp only [hx] at hcb hxb
      have HX : Hid (bitsW z k (k / 64) = x) := hx
      clear hx
      cases b
      · go_wp2
        go_roundw
        case rel => exact ⟨k + 1, by omega, by go_num, hr.congr (fun i _ => bitsW_skip z k HB.out i), hnx, hsz⟩
        case measure => simp [intOf]; omega
      · go_wp2
        go_roundw
        case rel => exact ⟨k + 1, by omega, by go_num, (hr.set (k / 64) _).congr (fun i _ => bitsW_step z k x HB.out HX.out hxb i), hnx.setCell (Nat.le_refl _) _, by simp [World.setCell, hsz]⟩
        case measure => simp [intOf]; omega
    · obtain rfl : n = k := by omega
      go_wp2
      go_ret
      refine ⟨rfl, ?_, ?_, hr.alloc _, hnx.alloc hnx.size _⟩
      · rw [← hsz]; go_simp
      · rw [← hsz]; go_simp
end Go.Proofs.Ybulkamao
