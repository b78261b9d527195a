/-
  The plain law of the built text: a prefix, a minus or none, digits, a tail byte or none.
-/
import Derived.Test.YbulkalykDoorPlain
namespace Go.Proofs.YbulkalykDoor.Plain

def negL (neg : Bool) : List Int := if neg = true then [45] else []
/-- The digits as they are written. -/
def dig (ds : Nat → Int) (k : Nat) : List Int := (List.range k).map fun i => 48 + ds i % 10
def built (ps : List Int) (neg : Bool) (ds : Nat → Int) (nd : Nat) (tl : List Int) : List Int := ps ++ negL neg ++ dig ds nd ++ tl
def zz (D : List Int) (k : Nat) : Int := D.getD k 0

theorem negL_len (neg : Bool) : (negL neg).length = neg.toNat := by cases neg <;> rfl
theorem dig_len (ds : Nat → Int) (k : Nat) : (dig ds k).length = k := by simp [dig]
theorem dig_succ (ds : Nat → Int) (k : Nat) : dig ds (k + 1) = dig ds k ++ [48 + ds k % 10] := by simp [dig, List.range_succ]
theorem built_len (ps : List Int) (neg : Bool) (ds : Nat → Int) (nd : Nat) (tl : List Int) : (built ps neg ds nd tl).length = ps.length + neg.toNat + nd + tl.length := by
  simp [built, negL_len, dig_len]; omega

theorem at_neg (ps : List Int) (ds : Nat → Int) (nd : Nat) (tl : List Int) : zz (built ps true ds nd tl) ps.length = 45 := by
  simp [zz, built, negL, List.getD]

theorem at_dig (ps : List Int) (neg : Bool) (ds : Nat → Int) (nd : Nat) (tl : List Int) (k : Nat) (hk : k < nd) :
    zz (built ps neg ds nd tl) (ps.length + neg.toNat + k) = 48 + ds k % 10 := by
  have h1 : (ps ++ negL neg).length = ps.length + neg.toNat := by simp [negL_len]
  have e : (built ps neg ds nd tl)[ps.length + neg.toNat + k]? = some (48 + ds k % 10) := by
    unfold built
    rw [List.append_assoc, List.getElem?_append_right (by omega), h1, Nat.add_sub_cancel_left, List.getElem?_append_left (by rw [dig_len]; exact hk)]
    simp [dig, hk]
  simp [zz, List.getD, e]

theorem at_tail (ps : List Int) (neg : Bool) (ds : Nat → Int) (nd : Nat) (c : Int) :
    zz (built ps neg ds nd [c]) (ps.length + neg.toNat + nd) = c := by
  have h1 : (ps ++ negL neg ++ dig ds nd).length = ps.length + neg.toNat + nd := by simp [negL_len, dig_len]; omega
  have e : (built ps neg ds nd [c])[ps.length + neg.toNat + nd]? = some c := by
    unfold built
    rw [List.getElem?_append_right (by omega), h1, Nat.sub_self]; rfl
  simp [zz, List.getD, e]

theorem sg_digits (ps : List Int) (neg : Bool) (ds : Nat → Int) (nd : Nat) (tl : List Int) (hnd : 0 < nd) :
    sg (zz (built ps neg ds nd tl)) (built ps neg ds nd tl).length ps.length = ps.length + neg.toNat := by
  unfold sg
  have hl := built_len ps neg ds nd tl
  cases neg with
  | true => rw [if_pos ⟨by simp at hl; omega, at_neg ps ds nd tl⟩]; rfl
  | false =>
    have h0 := at_dig ps false ds nd tl 0 hnd
    have e0 : ps.length + false.toNat + 0 = ps.length := by simp
    rw [e0] at h0
    rw [if_neg]
    · simp
    · rintro ⟨_, h⟩; rw [h0] at h; omega

/-- The digits' run ends behind them: what comes there is no digit. -/
theorem end_digits (ps : List Int) (neg : Bool) (ds : Nat → Int) (nd : Nat) (tl : List Int) (ht : tl = [] ∨ ∃ c, tl = [c] ∧ (c < 48 ∨ 57 < c)) (hnd : 0 < nd) :
    IsEnd (zz (built ps neg ds nd tl)) (built ps neg ds nd tl).length (sg (zz (built ps neg ds nd tl)) (built ps neg ds nd tl).length ps.length) (ps.length + neg.toNat + nd) := by
  rw [sg_digits ps neg ds nd tl hnd]
  refine ⟨by omega, fun k h1 h2 => ?_, fun h => ?_⟩
  · obtain ⟨j, rfl⟩ := Nat.exists_eq_add_of_le h1
    rw [at_dig ps neg ds nd tl j (by omega), built_len]
    exact ⟨by omega, by omega, by omega⟩
  · rw [built_len] at h
    rcases ht with rfl | ⟨c, rfl, hc⟩
    · simp at h
    · rw [at_tail]; exact hc

/-- No digits: the run is empty, wherever it begins. -/
theorem end_none (ps : List Int) (neg : Bool) (ds : Nat → Int) (tl : List Int) (ht : tl = [] ∨ ∃ c, tl = [c] ∧ (c < 48 ∨ 57 < c)) :
    IsEnd (zz (built ps neg ds 0 tl)) (built ps neg ds 0 tl).length (sg (zz (built ps neg ds 0 tl)) (built ps neg ds 0 tl).length ps.length) (sg (zz (built ps neg ds 0 tl)) (built ps neg ds 0 tl).length ps.length) := by
  refine ⟨Nat.le_refl _, fun k h1 h2 => by omega, fun h => ?_⟩
  have hl := built_len ps neg ds 0 tl
  rcases ht with rfl | ⟨c, rfl, hc⟩
  · cases neg with
    | false =>
      have e : sg (zz (built ps false ds 0 [])) (built ps false ds 0 []).length ps.length = ps.length := by unfold sg; rw [if_neg (by simp at hl; omega)]
      rw [e] at h; simp at hl; omega
    | true =>
      have e : sg (zz (built ps true ds 0 [])) (built ps true ds 0 []).length ps.length = ps.length + 1 := by unfold sg; rw [if_pos ⟨by simp at hl; omega, at_neg ps ds 0 []⟩]
      rw [e] at h; simp at hl; omega
  · have htl := at_tail ps neg ds 0 c
    cases neg with
    | false =>
      simp at htl hl
      by_cases h45 : c = 45
      · have e : sg (zz (built ps false ds 0 [c])) (built ps false ds 0 [c]).length ps.length = ps.length + 1 := by unfold sg; rw [if_pos ⟨by omega, by rw [htl, h45]⟩]
        rw [e] at h; omega
      · have e : sg (zz (built ps false ds 0 [c])) (built ps false ds 0 [c]).length ps.length = ps.length := by unfold sg; rw [if_neg (by rintro ⟨_, h⟩; exact h45 (htl.symm.trans h))]
        rw [e, htl]; exact hc
    | true =>
      have e : sg (zz (built ps true ds 0 [c])) (built ps true ds 0 [c]).length ps.length = ps.length + 1 := by unfold sg; rw [if_pos ⟨by simp at hl; omega, at_neg ps ds 0 [c]⟩]
      simp at htl
      rw [e, htl]; exact hc

theorem zz_bd {D : List Int} (h : ∀ x ∈ D, 0 ≤ x ∧ x ≤ 255) (k : Nat) : 0 ≤ zz D k ∧ zz D k ≤ 255 := by
  unfold zz
  by_cases hk : k < D.length
  · exact h _ (by simp [List.getD, hk])
  · simp [List.getD, List.getElem?_eq_none (by omega : D.length ≤ k)]

theorem built_bd (ps : List Int) (neg : Bool) (ds : Nat → Int) (nd : Nat) (tl : List Int) (hp : ∀ x ∈ ps, 0 ≤ x ∧ x ≤ 255) (ht : ∀ x ∈ tl, 0 ≤ x ∧ x ≤ 255) :
    ∀ x ∈ built ps neg ds nd tl, 0 ≤ x ∧ x ≤ 255 := by
  intro x hx
  simp only [built, List.mem_append] at hx
  rcases hx with ((h | h) | h) | h
  · exact hp x h
  · cases neg <;> simp [negL] at h; omega
  · simp [dig] at h; obtain ⟨a, _, rfl⟩ := h; omega
  · exact ht x h

end Go.Proofs.YbulkalykDoor.Plain
