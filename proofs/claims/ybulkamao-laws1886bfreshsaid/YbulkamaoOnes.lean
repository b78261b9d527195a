/-
  The walk of 'OnesCount64' (13).
-/
import Derived.Test.YbulkamaoWords
import Derived.Test.YbulkamaoPop
import Derived.Laws.Bits128
namespace Go.Proofs.Ybulkamao
open Go.RowKit

set_option maxHeartbeats 400000 in
theorem ones_core (x q1 q2 q3 q4 q5 q6 : Nat) (w : World)
    (h1 : IntKind.u64.wrap (bits .and .u64 ((x : Int) / 2) 6148914691236517205 + bits .and .u64 (x : Int) 6148914691236517205) = (q1 : Int))
    (h2 : IntKind.u64.wrap (bits .and .u64 ((q1 : Int) / 4) 3689348814741910323 + bits .and .u64 (q1 : Int) 3689348814741910323) = (q2 : Int))
    (h3 : bits .and .u64 (IntKind.u64.wrap ((q2 : Int) / 16 + (q2 : Int))) 1085102592571150095 = (q3 : Int))
    (h4 : IntKind.u64.wrap ((q3 : Int) + (q3 : Int) / 256) = (q4 : Int))
    (h5 : IntKind.u64.wrap ((q4 : Int) + (q4 : Int) / 65536) = (q5 : Int))
    (h6 : IntKind.u64.wrap ((q5 : Int) + (q5 : Int) / 4294967296) = (q6 : Int))
    (hq : q6 < 9223372036854775808) :
    Calls Yba.prog 13 #[.int .u64 x] w fun e w' => e = .returned (.int .i64 (q6 % 128 : Nat)) ∧ w' = w := by
  go_enter Yba.func13, Yba.ntmps13
  go_wp2
  go_ret
  refine ⟨?_, rfl⟩
  show Ending.returned (.int .i64 (bits .and .i64 (q6 : Int) 127)) = _
  rw [i64_and127]
  simp

theorem wrap_nat (n : Nat) : IntKind.u64.wrap (n : Int) = ((n % 18446744073709551616 : Nat) : Int) := by rw [IntKind.wrap_u64]; simp
theorem and_nat' (x m : Nat) (hx : x < 18446744073709551616) (hm : m < 18446744073709551616) : bits .and .u64 (x : Int) (m : Int) = ((x &&& m : Nat) : Int) := u64_and_nat x m hx hm
theorem div_lt' (x d : Nat) (hx : x < 18446744073709551616) : x / d < 18446744073709551616 := Nat.lt_of_le_of_lt (Nat.div_le_self _ _) hx
theorem p1_eq (x : Nat) (hx : x < 18446744073709551616) : IntKind.u64.wrap (bits .and .u64 ((x : Int) / 2) 6148914691236517205 + bits .and .u64 (x : Int) 6148914691236517205) = (p1 x : Int) := by
  have e1 : bits .and .u64 ((x : Int) / 2) 6148914691236517205 = ((x / 2 &&& 6148914691236517205 : Nat) : Int) := and_nat' (x / 2) 6148914691236517205 (div_lt' _ _ hx) (by decide)
  have e2 : bits .and .u64 (x : Int) 6148914691236517205 = ((x &&& 6148914691236517205 : Nat) : Int) := and_nat' x 6148914691236517205 hx (by decide)
  rw [e1, e2, ← Int.natCast_add, wrap_nat]; rfl
theorem p2_eq (x y : Nat) (hy : y = p1 x) : IntKind.u64.wrap (bits .and .u64 ((y : Int) / 4) 3689348814741910323 + bits .and .u64 (y : Int) 3689348814741910323) = (p2 x : Int) := by
  have hy' : y < 18446744073709551616 := by rw [hy]; exact Nat.mod_lt _ (by decide)
  have e1 : bits .and .u64 ((y : Int) / 4) 3689348814741910323 = ((y / 4 &&& 3689348814741910323 : Nat) : Int) := and_nat' (y / 4) 3689348814741910323 (div_lt' _ _ hy') (by decide)
  have e2 : bits .and .u64 (y : Int) 3689348814741910323 = ((y &&& 3689348814741910323 : Nat) : Int) := and_nat' y 3689348814741910323 hy' (by decide)
  rw [e1, e2, ← Int.natCast_add, wrap_nat, hy]; rfl
theorem p3_eq (x y : Nat) (hy : y = p2 x) : bits .and .u64 (IntKind.u64.wrap ((y : Int) / 16 + (y : Int))) 1085102592571150095 = (p3 x : Int) := by
  have e0 : (y : Int) / 16 + (y : Int) = ((y / 16 + y : Nat) : Int) := by simp
  rw [e0, wrap_nat]
  have e1 : bits .and .u64 (((y / 16 + y) % 18446744073709551616 : Nat) : Int) 1085102592571150095 = (((y / 16 + y) % 18446744073709551616 &&& 1085102592571150095 : Nat) : Int) := and_nat' _ 1085102592571150095 (Nat.mod_lt _ (by decide)) (by decide)
  rw [e1, hy]; rfl
theorem p4_eq (x y : Nat) (hy : y = p3 x) : IntKind.u64.wrap ((y : Int) + (y : Int) / 256) = (p4 x : Int) := by
  have e0 : (y : Int) + (y : Int) / 256 = ((y + y / 256 : Nat) : Int) := by simp
  rw [e0, wrap_nat, hy]; rfl
theorem p5_eq (x y : Nat) (hy : y = p4 x) : IntKind.u64.wrap ((y : Int) + (y : Int) / 65536) = (p5 x : Int) := by
  have e0 : (y : Int) + (y : Int) / 65536 = ((y + y / 65536 : Nat) : Int) := by simp
  rw [e0, wrap_nat, hy]; rfl
theorem p6_eq (x y : Nat) (hy : y = p5 x) : IntKind.u64.wrap ((y : Int) + (y : Int) / 4294967296) = (p6 x : Int) := by
  have e0 : (y : Int) + (y : Int) / 4294967296 = ((y + y / 4294967296 : Nat) : Int) := by simp
  rw [e0, wrap_nat, hy]; rfl

theorem ones_any (x : Nat) (w : World) (hx : x < 18446744073709551616) (hq : p6 x < 9223372036854775808) :
    Calls Yba.prog 13 #[.int .u64 x] w fun e w' => e = .returned (.int .i64 (popN x : Nat)) ∧ w' = w :=
  ones_core x (p1 x) (p2 x) (p3 x) (p4 x) (p5 x) (p6 x) w (p1_eq x hx) (p2_eq x _ rfl) (p3_eq x _ rfl) (p4_eq x _ rfl) (p5_eq x _ rfl) (p6_eq x _ rfl) hq
end Go.Proofs.Ybulkamao
