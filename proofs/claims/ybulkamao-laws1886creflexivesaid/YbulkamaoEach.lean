/-
  The walk of 'nodeSet.eachWord' (22) over words, with the closures of 'holdsAll' (23, 24).
-/
import Derived.Test.YbulkamaoWords
import Derived.Test.YbulkamaoMinus
import Derived.Test.YbulkamaoChunks
namespace Go.Proofs.Ybulkamao
open Go.RowKit

/-- What the closures read: a pointer to a set that is held as words X; none of it lies in block A. -/
def Env (w : World) (A Bs P gx m : Nat) (X : Nat → Nat) : Prop :=
  w.cell? ⟨Bs, 0, none⟩ = some (.pointer (some ⟨P, 0, none⟩)) ∧ w.cell? ⟨P, 1, none⟩ = some (.slice (some ⟨gx, 0, none⟩) m m) ∧ w.rowIs gx 35 m (fun j => .int .u64 (X j : Nat)) ∧ A ≠ Bs ∧ A ≠ P ∧ A ≠ gx
theorem Env.grown {w w' : World} {A Bs P gx m : Nat} {X : Nat → Nat} (h : Env w A Bs P gx m X) (hg : w.grownBy w' (some A)) : Env w' A Bs P gx m X := by
  obtain ⟨h1, h2, h3, h4, h5, h6⟩ := h
  exact ⟨hg.cell h1 (fun e => h4 (Option.some.inj e).symm), hg.cell h2 (fun e => h5 (Option.some.inj e).symm), h3.of_block (hg.block gx h3.lt (fun e => h6 (Option.some.inj e).symm)), h4, h5, h6⟩
theorem so_zero {b0 b : Bool} {Y : Nat → Nat} {k y : Nat} {G : Nat → Prop} (h : Sofar b0 (fun i => i < 64 * k ∧ memX Y i) G b) (hy : Y k = y) (hy0 : y = 0) : Sofar b0 (fun i => i < 64 * (k + 1) ∧ memX Y i) G b :=
  h.congr (fun i => by
    rw [word_more, hy, hy0]
    simp)
theorem so_word1 {b0 b : Bool} {X Y : Nat → Nat} {k x y z : Nat} (h : Sofar b0 (fun i => i < 64 * k ∧ memX Y i) (fun i => memX X i) b) (hy : Y k = y) (hx : X k = x) (hxb : x < 18446744073709551616) (hz : y &&& (18446744073709551615 - x) = z) (c : Bool) (hc : c = (b && decide (z = 0))) :
    Sofar b0 (fun i => i < 64 * (k + 1) ∧ memX Y i) (fun i => memX X i) c := by
  have hm := h.more (ok_sub X y k (by rw [hx]; exact hxb))
  rw [hx, hz] at hm
  rw [hc]
  exact hm.congr (fun i => by rw [word_more, hy])
theorem so_word2 {b0 b : Bool} {X Y : Nat → Nat} {k x y z : Nat} (h : Sofar b0 (fun i => i < 64 * k ∧ memX Y i) (fun i => ¬ memX X i) b) (hy : Y k = y) (hx : X k = x) (hyb : y < 18446744073709551616) (hz : y &&& x = z) (c : Bool) (hc : c = (b && decide (z = 0))) :
    Sofar b0 (fun i => i < 64 * (k + 1) ∧ memX Y i) (fun i => ¬ memX X i) c := by
  have hm := h.more (ok_off X y k hyb)
  rw [hx, hz] at hm
  rw [hc]
  exact hm.congr (fun i => by rw [word_more, hy])
theorem zero_dec (z : Nat) : ((z : Int) == 0) = (true && decide (z = 0)) := by
  rw [Bool.eq_iff_iff]; simp
/-- What the walk over the words leaves in the variable of block A; nothing else has turned. -/
def AllIs (w w' : World) (A : Nat) (b0 : Bool) (T G : Nat → Prop) : Prop := ∃ b, w'.cell? ⟨A, 0, none⟩ = some (.bool b) ∧ w'.frozen? ⟨A, 0, none⟩ = false ∧ Sofar b0 T G b ∧ w.grownBy w' (some A)
theorem AllIs.mk {w w' : World} {A : Nat} {b0 : Bool} {T G : Nat → Prop} (b : Bool) (h1 : w'.cell? ⟨A, 0, none⟩ = some (.bool b)) (h2 : w'.frozen? ⟨A, 0, none⟩ = false) (h3 : Sofar b0 T G b) (h4 : w.grownBy w' (some A)) : AllIs w w' A b0 T G := ⟨b, h1, h2, h3, h4⟩
theorem grown_trans {a b c : World} {row : Option Nat} (h : a.grownBy b row) (k : b.grownBy c row) : a.grownBy c row := h.trans k

set_option maxHeartbeats 1000000 in
theorem each_bits1 (A Bs P gx m Q gy m' : Nat) (X Y : Nat → Nat) (b0 : Bool) (w : World) (henv : Env w A Bs P gx m X) (hX : ∀ j, X j < 18446744073709551616) (hY : ∀ j, Y j < 18446744073709551616)
    (ha : w.cell? ⟨A, 0, none⟩ = some (.bool b0)) (hf : w.frozen? ⟨A, 0, none⟩ = false) (hq0 : w.cell? ⟨Q, 0, none⟩ = some (.slice none 0 0)) (hq1 : w.cell? ⟨Q, 1, none⟩ = some (.slice (some ⟨gy, 0, none⟩) m' m'))
    (hrow : w.rowIs gy 35 m' (fun j => .int .u64 (Y j : Nat))) (hAQ : A ≠ Q) (hAy : A ≠ gy) (hm : m' ≤ m) (hm2 : m ≤ 4096) :
    Calls Yba.prog 22 #[.pointer (some ⟨Q, 0, none⟩), .func (.func 23) #[] #[.pointer (some ⟨A, 0, none⟩), .pointer (some ⟨Bs, 0, none⟩)]] w fun e w' => e = .returned (.tuple #[]) ∧
      AllIs w w' A b0 (fun i => i < 64 * m' ∧ memX Y i) (fun i => memX X i) := by
  go_enter Yba.func22, Yba.ntmps22
  go_wp2
  go_loopw [4, 5, 16] (fun _ _ i wr => ∃ (k : Nat) (b : Bool), k ≤ m' ∧ i = .int .i64 k ∧ wr.cell? ⟨A, 0, none⟩ = some (.bool b) ∧ wr.frozen? ⟨A, 0, none⟩ = false ∧ Sofar b0 (fun i => i < 64 * k ∧ memX Y i) (fun i => memX X i) b ∧ w.grownBy wr (some A)) (fun _ _ i _ => m' - (intOf i).toNat)
  case atStart => exact ⟨0, b0, Nat.zero_le _, rfl, ha, hf, Sofar.start _ _ _ (fun i h => by omega), World.grownBy.refl _ _⟩
  case round =>
    obtain ⟨k, b, hk, rfl, hca, hfa, hso, hg⟩ := hrel
    by_cases hlt : k < m'
    · have hcy := hg.cell (hrow.cell (i := k) hlt) (fun e => hAy (Option.some.inj e).symm)
      obtain ⟨e1, e2, e3, _, _, _⟩ := henv.grown hg
      have hcx := e3.cell (i := k) (by omega)
      obtain ⟨y, hy⟩ : ∃ y, Y k = y := ⟨_, rfl⟩
      obtain ⟨x, hx⟩ : ∃ x, X k = x := ⟨_, rfl⟩
      have hyb := hY k
      have hxb := hX k
      simp only [hy] at hcy hyb
      simp only [hx] at hcx hxb
      have hop := u64_andNot_nat y x hyb hxb
      have HS : Hid (Sofar b0 (fun i => i < 64 * k ∧ memX Y i) (fun i => memX X i) b) := hso
      have HY : Hid (Y k = y) := hy
      have HX : Hid (X k = x) := hx
      clear hy hx hso
      obtain ⟨z, hz⟩ : ∃ z, y &&& (18446744073709551615 - x) = z := ⟨_, rfl⟩
      rw [hz] at hop
      have HZ : Hid (y &&& (18446744073709551615 - x) = z) := hz
      clear hz
      by_cases hy0 : y = 0
      · go_wp2
        go_roundw
        case rel => exact ⟨k + 1, b, by omega, by go_num, hca, hfa, so_zero HS.out HY.out hy0, hg⟩
        case measure => simp [intOf]; omega
      · have hyne : ((y : Int) != 0) = true := by simp; omega
        cases b
        · go_wp2
          go_end0
          go_wp2
          go_roundw
          case rel => exact ⟨k + 1, _, by omega, by go_num, by go_simp, by go_simp, so_word1 HS.out HY.out HX.out hxb HZ.out false rfl, hg.trans (grown_set _ _ _ _)⟩
          case measure => simp [intOf]; omega
        · go_wp2
          go_end0
          go_wp2
          go_roundw
          case rel => exact ⟨k + 1, _, by omega, by go_num, by go_simp, by go_simp, so_word1 HS.out HY.out HX.out hxb HZ.out _ (zero_dec z), hg.trans (grown_set _ _ _ _)⟩
          case measure => simp [intOf]; omega
    · obtain rfl : m' = k := by omega
      have hq0' := hg.cell hq0 (fun e => hAQ (Option.some.inj e).symm)
      go_wp2
      go_loop [7, 8, 9, 10, 33] (fun _ _ _ _ i => i = .int .i64 0) (fun _ _ _ _ _ => 0)
      case atStart => rfl
      case round =>
        subst hrel
        go_wp2
        go_end0
        exact ⟨rfl, AllIs.mk b hca hfa hso hg⟩
set_option maxHeartbeats 1000000 in
theorem each_bits2 (A Bs P gx m Q gy m' : Nat) (X Y : Nat → Nat) (b0 : Bool) (w : World) (henv : Env w A Bs P gx m X) (hX : ∀ j, X j < 18446744073709551616) (hY : ∀ j, Y j < 18446744073709551616)
    (ha : w.cell? ⟨A, 0, none⟩ = some (.bool b0)) (hf : w.frozen? ⟨A, 0, none⟩ = false) (hq0 : w.cell? ⟨Q, 0, none⟩ = some (.slice none 0 0)) (hq1 : w.cell? ⟨Q, 1, none⟩ = some (.slice (some ⟨gy, 0, none⟩) m' m'))
    (hrow : w.rowIs gy 35 m' (fun j => .int .u64 (Y j : Nat))) (hAQ : A ≠ Q) (hAy : A ≠ gy) (hm : m' ≤ m) (hm2 : m ≤ 4096) :
    Calls Yba.prog 22 #[.pointer (some ⟨Q, 0, none⟩), .func (.func 24) #[] #[.pointer (some ⟨A, 0, none⟩), .pointer (some ⟨Bs, 0, none⟩)]] w fun e w' => e = .returned (.tuple #[]) ∧
      AllIs w w' A b0 (fun i => i < 64 * m' ∧ memX Y i) (fun i => ¬ memX X i) := by
  go_enter Yba.func22, Yba.ntmps22
  go_wp2
  go_loopw [4, 5, 16] (fun _ _ i wr => ∃ (k : Nat) (b : Bool), k ≤ m' ∧ i = .int .i64 k ∧ wr.cell? ⟨A, 0, none⟩ = some (.bool b) ∧ wr.frozen? ⟨A, 0, none⟩ = false ∧ Sofar b0 (fun i => i < 64 * k ∧ memX Y i) (fun i => ¬ memX X i) b ∧ w.grownBy wr (some A)) (fun _ _ i _ => m' - (intOf i).toNat)
  case atStart => exact ⟨0, b0, Nat.zero_le _, rfl, ha, hf, Sofar.start _ _ _ (fun i h => by omega), World.grownBy.refl _ _⟩
  case round =>
    obtain ⟨k, b, hk, rfl, hca, hfa, hso, hg⟩ := hrel
    by_cases hlt : k < m'
    · have hcy := hg.cell (hrow.cell (i := k) hlt) (fun e => hAy (Option.some.inj e).symm)
      obtain ⟨e1, e2, e3, _, _, _⟩ := henv.grown hg
      have hcx := e3.cell (i := k) (by omega)
      obtain ⟨y, hy⟩ : ∃ y, Y k = y := ⟨_, rfl⟩
      obtain ⟨x, hx⟩ : ∃ x, X k = x := ⟨_, rfl⟩
      have hyb := hY k
      have hxb := hX k
      simp only [hy] at hcy hyb
      simp only [hx] at hcx hxb
      have hop := u64_and_nat y x hyb hxb
      have HS : Hid (Sofar b0 (fun i => i < 64 * k ∧ memX Y i) (fun i => ¬ memX X i) b) := hso
      have HY : Hid (Y k = y) := hy
      have HX : Hid (X k = x) := hx
      clear hy hx hso
      obtain ⟨z, hz⟩ : ∃ z, y &&& x = z := ⟨_, rfl⟩
      rw [hz] at hop
      have HZ : Hid (y &&& x = z) := hz
      clear hz
      by_cases hy0 : y = 0
      · go_wp2
        go_roundw
        case rel => exact ⟨k + 1, b, by omega, by go_num, hca, hfa, so_zero HS.out HY.out hy0, hg⟩
        case measure => simp [intOf]; omega
      · have hyne : ((y : Int) != 0) = true := by simp; omega
        cases b
        · go_wp2
          go_end0
          go_wp2
          go_roundw
          case rel => exact ⟨k + 1, _, by omega, by go_num, by go_simp, by go_simp, so_word2 HS.out HY.out HX.out hyb HZ.out false rfl, hg.trans (grown_set _ _ _ _)⟩
          case measure => simp [intOf]; omega
        · go_wp2
          go_end0
          go_wp2
          go_roundw
          case rel => exact ⟨k + 1, _, by omega, by go_num, by go_simp, by go_simp, so_word2 HS.out HY.out HX.out hyb HZ.out _ (zero_dec z), hg.trans (grown_set _ _ _ _)⟩
          case measure => simp [intOf]; omega
    · obtain rfl : m' = k := by omega
      have hq0' := hg.cell hq0 (fun e => hAQ (Option.some.inj e).symm)
      go_wp2
      go_loop [7, 8, 9, 10, 33] (fun _ _ _ _ i => i = .int .i64 0) (fun _ _ _ _ _ => 0)
      case atStart => rfl
      case round =>
        subst hrel
        go_wp2
        go_end0
        exact ⟨rfl, AllIs.mk b hca hfa hso hg⟩
end Go.Proofs.Ybulkamao
