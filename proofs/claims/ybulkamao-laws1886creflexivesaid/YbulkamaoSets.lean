/-
  The walks of 'zzs1886cmember' (20) and 'zzs1886csets' (16).
-/
import Derived.Test.YbulkamaoChecked
import Derived.WalkKit
import Derived.WalkLawsBesides
import Derived.WalkSpells
import Derived.Deep.OwnRows
import Derived.Deep.RegionWith
namespace Go.Proofs.Ybulkamao
open Go.RowKit

theorem Yba.info4 : (Yba.prog.info? 4).map (fun i => (i.zero, i.size, i.bytes)) = some (some (.bool false), 1, 1) := by kernel_rfl

/-- A row of n bools lies at the address (or there is none). -/
def RowBs (w : World) (a0 : Option Addr) (n : Nat) (z : Nat → Bool) : Prop :=
  n = 0 ∨ ∃ b off, a0 = some ⟨b, off, none⟩ ∧ ∀ k, k < n → w.cell? ⟨b, off + k, none⟩ = some (.bool (z k))
theorem RowBs.later {w w' : World} {a0 : Option Addr} {n : Nat} {z : Nat → Bool} (h : RowBs w a0 n z) (hb : Below w.heap.size w w') : RowBs w' a0 n z := by
  rcases h with h | ⟨b, off, e, hc⟩
  · exact .inl h
  · exact .inr ⟨b, off, e, fun k hk => cell_later hb (hc k hk)⟩

/-- Is i among the members? -/
def memB (len : Nat) (z : Nat → Bool) (i : Nat) : Bool := if i < len then z i else false

theorem member_any (ao : Option Addr) (len cap i : Nat) (z : Nat → Bool) (w : World) (hr : RowBs w ao len z) (hi : i ≤ 100000) :
    Calls Yba.prog 20 #[.slice ao len cap, .int .i64 i] w fun e w' => e = .returned (.bool (memB len z i)) ∧ w' = w := by
  by_cases h : i < len
  · rcases hr with h0 | ⟨b, off, rfl, hc⟩
    · omega
    have hm : memB len z i = z i := by unfold memB; rw [if_pos h]
    rw [hm]
    have hci := hc i h
    clear hc hm
    go_enter Yba.func20, Yba.ntmps20
    go_wp2
    go_ret
    exact ⟨rfl, rfl⟩
  · have hm : memB len z i = false := by unfold memB; rw [if_neg h]
    rw [hm]
    clear hm hr
    go_enter Yba.func20, Yba.ntmps20
    go_wp2
    go_ret
    exact ⟨rfl, rfl⟩

abbrev inV (N : Int) (aS : Option Addr) (lS cS : Nat) (aT : Option Addr) (lT cT : Nat) (sub sb tb : Bool) : Value := .agg #[.int .u16 N, .slice aS lS cS, .slice aT lT cT, .bool sub, .bool sb, .bool tb]
/-- The members of the second set, cut down to the first where the law says so. -/
def srcB (sub : Bool) (s t : Nat → Bool) (i : Nat) : Bool := if sub = true then t i && s i else t i
def upTo (k : Nat) (s : Nat → Bool) (j : Nat) : Value := .bool (if j < k then s j else false)

theorem upTo_zero (s : Nat → Bool) (j : Nat) : Value.bool false = upTo 0 s j := by simp [upTo]
theorem upTo_step (k : Nat) (s : Nat → Bool) (x : Bool) (hx : s k = x) (i : Nat) : (if i = k then Value.bool x else upTo k s i) = upTo (k + 1) s i := by
  unfold upTo
  by_cases h : i = k
  · subst h; rw [if_pos rfl, if_pos (by omega), hx]
  · rw [if_neg h]
    by_cases h2 : i < k
    · rw [if_pos h2, if_pos (by omega)]
    · rw [if_neg h2, if_neg (by omega)]
theorem upTo_step2 (k : Nat) (s : Nat → Bool) (x y : Bool) (hx : s k = x) (i : Nat) : (if i = k then Value.bool x else if i = k then Value.bool y else upTo k s i) = upTo (k + 1) s i := by
  rw [← upTo_step k s x hx i]
  by_cases h : i = k
  · rw [if_pos h, if_pos h]
  · rw [if_neg h, if_neg h, if_neg h]
theorem upTo_end (n : Nat) (s : Nat → Bool) (j : Nat) (h : j < n) : upTo n s j = .bool (s j) := by unfold upTo; rw [if_pos h]
theorem upTo_at (k : Nat) (s : Nat → Bool) : upTo k s k = .bool false := by unfold upTo; rw [if_neg (by omega)]

theorem rowMade (w : World) (z : Value) (n : Nat) (t : TypeId) (g : Nat) (hg : g = w.heap.size) : (w.alloc (.cells (madeCells #[z] n) t)).rowIs g t n (fun _ => z) := by
  subst hg; exact World.rowIs_made w z n t

set_option maxHeartbeats 1000000 in
theorem sets_any (N : Int) (n : Nat) (aS aT : Option Addr) (lS cS lT cT : Nat) (sub sb tb : Bool) (s t : Nat → Bool) (w : World) (hN0 : 0 ≤ N) (hN1 : N ≤ 65535) (hn : N % 300 = (n : Int))
    (hS : RowBs w aS lS s) (hT : RowBs w aT lT t) :
    Calls Yba.prog 16 #[inV N aS lS cS aT lT cT sub sb tb] w fun e w' =>
      e = .returned (.tuple #[.int .i64 n, .slice (some ⟨w.heap.size + 1, 0, none⟩) n n, .slice (some ⟨w.heap.size + 2, 0, none⟩) n n]) ∧
      w'.rowIs (w.heap.size + 1) 4 n (fun j => .bool (memB lS s j)) ∧ w'.rowIs (w.heap.size + 2) 4 n (fun j => .bool (srcB sub (memB lS s) (memB lT t) j)) ∧ Below w.heap.size w w' := by
  have hnb : n < 300 := by omega
  have hmk := run_make_row' (P := Yba.prog) 26 4 (.bool false) 1 Yba.underlying26 Yba.info4 rfl .i64 .i64 n (by omega) (by omega)
  go_enter Yba.func16, Yba.ntmps16
  go_wp2
  rw [hn]
  clear hn
  go_loopw [8] (fun i wr => ∃ k : Nat, k ≤ n ∧ i = .int .i64 k ∧ wr.rowIs (w.heap.size + 1) 4 n (upTo k (memB lS s)) ∧ wr.rowIs (w.heap.size + 2) 4 n (upTo k (srcB sub (memB lS s) (memB lT t))) ∧
      wr.cell? ⟨w.heap.size, 1, none⟩ = some (.slice aS lS cS) ∧ wr.cell? ⟨w.heap.size, 2, none⟩ = some (.slice aT lT cT) ∧ wr.cell? ⟨w.heap.size, 3, none⟩ = some (.bool sub) ∧ Below w.heap.size w wr) (fun i _ => n - (intOf i).toNat)
  case atStart =>
    refine ⟨0, Nat.zero_le _, rfl, ((rowMade _ _ _ _ _ (by simp)).alloc _).congr (fun j _ => upTo_zero _ j), (rowMade _ _ _ _ _ (by simp)).congr (fun j _ => upTo_zero _ j), ?_, ?_, ?_, (((Below.refl _ _).alloc (Nat.le_refl _) _).alloc (by simp) _).alloc (by simp; omega) _⟩ <;> go_simp
  case round =>
    obtain ⟨k, hk, rfl, hr1, hr2, c1, c2, c3, hnx⟩ := hrel
    clear hmk
    by_cases hlt : k < n
    · have kS := fun W (h : RowBs W aS lS s) => member_any aS lS cS k s W h (by omega)
      have kT := fun W (h : RowBs W aT lT t) => member_any aT lT cT k t W h (by omega)
      have g1 := hr1.cell (i := k) hlt
      have g2 := hr2.cell (i := k) hlt
      rw [upTo_at] at g1 g2
      have f1 := hr1.frozen k
      have f2 := hr2.frozen k
      have q1 := hS.later hnx
      have q2 := hT.later (hnx.setCell (p := ⟨w.heap.size + 1, k, none⟩) (by simp) (.bool (memB lS s k)))
      obtain ⟨x, hx⟩ : ∃ x, memB lS s k = x := ⟨_, rfl⟩
      obtain ⟨y, hy⟩ : ∃ y, memB lT t k = y := ⟨_, rfl⟩
      rw [hx] at q2
      simp only [hx] at kS
      simp only [hy] at kT
      have HX : Hid (memB lS s k = x) := hx
      have HY : Hid (memB lT t k = y) := hy
      clear hx hy
      cases sub
      · go_wp2_with (first
          | (go_at_call_of 20 aS; refine (kS _ q1).mono ?_; rintro e w1 ⟨rfl, rfl⟩)
          | (go_at_call_of 20 aT; refine (kT _ q2).mono ?_; rintro e w1 ⟨rfl, rfl⟩))
        go_roundw
        case rel => exact ⟨k + 1, by omega, by go_num, ((hr1.set k _).congr (fun i _ => upTo_step k _ x HX.out i)).setOther (by simp) _, ((hr2.setOther (a := ⟨w.heap.size + 1, k, none⟩) (by simp) _).set k _).congr (fun i _ => upTo_step k _ y (by unfold srcB; exact HY.out) i), by go_simp, by go_simp, by go_simp, (hnx.setCell (by simp) _).setCell (by simp; omega) _⟩
        case measure => simp [intOf]; omega
      · cases y
        all_goals
          go_wp2_with (first
            | (go_at_call_of 20 aS; refine (kS _ q1).mono ?_; rintro e w1 ⟨rfl, rfl⟩)
            | (go_at_call_of 20 aT; refine (kT _ q2).mono ?_; rintro e w1 ⟨rfl, rfl⟩))
          go_roundw
          case rel => exact ⟨k + 1, by omega, by go_num, (((hr1.set k _).congr (fun i _ => upTo_step k _ x HX.out i)).setOther (by simp) _).setOther (by simp) _, (((hr2.setOther (a := ⟨w.heap.size + 1, k, none⟩) (by simp) _).set k _).set k _).congr (fun i _ => upTo_step2 k _ _ _ (by unfold srcB; rw [if_pos rfl, HX.out, HY.out]; rfl) i), by go_simp, by go_simp, by go_simp, ((hnx.setCell (by simp) _).setCell (by simp; omega) _).setCell (by simp; omega) _⟩
          case measure => simp [intOf]; omega
    · obtain rfl : n = k := by omega
      go_wp2
      go_ret3
      exact ⟨rfl, hr1.congr (fun i hi => upTo_end n _ i hi), hr2.congr (fun i hi => upTo_end n _ i hi), hnx⟩
end Go.Proofs.Ybulkamao
