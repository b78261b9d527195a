/-
  The walks of 'LawS1882BBuilt' (3).
-/
import Derived.Test.YbulkalykDoorBuiltCall
namespace Go.Proofs.YbulkalykDoor
open Go.RowKit Go.Proofs.YbulkalykDoor.Plain

/-- Too long: the law says nothing. -/
theorem built_long (ap ad : Option Addr) (np cp nd cd : Nat) (neg : Bool) (t : Int) (w : World) (h : 1024 < np ∨ 1024 < nd) (hp : np ≤ maxLen) (hd : nd ≤ maxLen) :
    Calls Ybad.prog 3 #[.slice ap np cp, .bool neg, .slice ad nd cd, .int .u8 t] w fun e w' => e = .returned (.bool true) ∧ Below w.heap.size w w' := by
  unfold maxLen at hp hd
  by_cases h1 : 1024 < np
  · go_enter Ybad.func3, Ybad.ntmps3
    go_wp2
    go_ret
    exact ⟨rfl, Below.refl _ _⟩
  · have h2 : 1024 < nd := by omega
    go_enter Ybad.func3, Ybad.ntmps3
    go_wp2
    go_ret
    exact ⟨rfl, Below.refl _ _⟩

set_option maxHeartbeats 1000000 in
theorem built_pos (ap : Option Addr) (np cp : Nat) (ps : List Int) (b off nd cd : Nat) (ds : Nat → Int) (t : Int) (w : World)
    (hpl : ps.length = np) (hpn : ap = none → np = 0 ∧ cp = 0) (hpc : ∀ ad, ap = some ad → ∀ j u, (ps.map (Value.int .u8))[j]? = some u → w.cell? (ad.add j) = some u)
    (hpb : ∀ x ∈ ps, 0 ≤ x ∧ x ≤ 255) (hnp : np ≤ 1024) (hnd : nd ≤ 1024) (hnd0 : 0 < nd)
    (hcd : ∀ k, k < nd → w.cell? ⟨b, off + k, none⟩ = some (.int .u8 (ds k)))
    (hds : ∀ k, 0 ≤ ds k ∧ ds k ≤ 255) (ht0 : 0 ≤ t) (ht1 : t ≤ 255) (htab : ∀ c : Nat, c < 256 → w.cell? ⟨0, c, none⟩ = some (.bool (endsB (c : Int)))) :
    Calls Ybad.prog 3 #[.slice ap np cp, .bool false, .slice (some ⟨b, off, none⟩) nd cd, .int .u8 t] w fun e w' => e = .returned (.bool true) ∧ Below w.heap.size w w' := by
  obtain ⟨i0, hi, hz0, hz1, hz2⟩ := info_parts Ybad.info5
  obtain ⟨sel, hsel⟩ : ∃ sel : Nat, t % 19 = (sel : Int) := ⟨(t % 19).toNat, by omega⟩
  have hsel19 : sel < 19 := by omega
  · go_enter Ybad.func3, Ybad.ntmps3
    go_wp2_with (at_make; refine wpList_make_own _ rfl _ _ 22 rfl w.heap.size 5 i0 (.int .u8 0) 1 Ybad.underlying22 hi hz0 hz1 _ _ _ (np + nd + 2) rfl rfl (by omega) ?b2 ?b3 (Nat.le_refl _) ?_)
    case b2 => rw [hz2]; omega
    case b3 => unfold maxLen; omega
    intro w0 hown0 hgrow0
    have hb0 : Below w.heap.size w w0 := (Below.refl _ _).grown hgrow0 (Nat.le_refl _) (fun k h => by cases h)
    have hpc0 : ∀ ad, ap = some ad → ∀ j u, (ps.map (Value.int .u8))[j]? = some u → w0.cell? (ad.add j) = some u := fun ad h j u hu => cell_later hb0 (hpc ad h j u hu)
    go_wp2_with (at_builtin; refine wpList_append_fits_any _ rfl (.tmp 34) (.tmp 35) 22 rfl w.heap.size 5 i0 1 Ybad.underlying22 hi hz1 w.heap.size 0 (np + nd + 2) _ rfl hown0 _ np _ (ps.map (Value.int .u8)) rfl (by simp [hpl]) hpn hpc0 (ints_oneCell _ _) (by omega) ?_; intro w1 hown1 hgrow1; simp only [Nat.zero_add, List.nil_append] at hown1)
    have hb1 : Below w.heap.size w w1 := hb0.grown hgrow1 (by have := hgrow0.size; omega) (fun k h => by cases h; exact Nat.le_refl _)
    go_loopw [9, 12, 45] (fun v _ i wr => ∃ k : Nat, k ≤ nd ∧ i = .int .i64 k ∧ v = .slice (some ⟨w.heap.size, 0, none⟩) (np + k) (np + nd + 2) ∧
        wr.ownsRow w.heap.size 5 1 (.slice (some ⟨w.heap.size, 0, none⟩) (np + k) (np + nd + 2)) (np + k) ((ps ++ negL false ++ dig ds k).map (Value.int .u8)) ∧ Below w.heap.size w wr)
      (fun _ _ i _ => nd - (intOf i).toNat)
    case atStart => exact ⟨0, Nat.zero_le _, rfl, rfl, by simpa [negL, dig] using hown1, hb1⟩
    case round =>
      obtain ⟨k, hk, rfl, rfl, hown, hnx⟩ := hrel
      have hdk := hds k
      by_cases hlt : k < nd
      · have hck : wr.cell? ⟨b, off + k, none⟩ = some (.int .u8 (ds k)) := cell_later hnx (hcd k hlt)
        go_wp2_with (at_builtin; refine wpList_append_fits _ rfl (.tmp 49) (.tmp 53) 22 rfl w.heap.size 5 i0 1 Ybad.underlying22 hi hz1 w.heap.size (np + k) (np + nd + 2) _ rfl (hown.alloc _) ⟨wr.heap.size, 0, none⟩ 1 1 [.int .u8 (48 + ds k % 10)] rfl rfl (cell_one_new _ _ _) (by intro u hu; simp at hu; subst hu; rfl) (by omega) ?_; intro w2 hown2 hgrow2)
        go_roundw
        case rel => exact ⟨k + 1, by omega, by go_num, rfl, by rw [dig_succ, ← Nat.add_assoc]; simpa [List.append_assoc] using hown2, (hnx.alloc hnx.size _).grown hgrow2 (by simp; have := hnx.size; omega) (fun k hk => by cases hk; exact Nat.le_refl _)⟩
        case measure => simp [intOf]; omega
      · obtain rfl : nd = k := by omega
        by_cases hs18 : sel < 18
        · go_wp2_with (at_builtin; refine wpList_append_fits _ rfl (.tmp 61) (.tmp 64) 22 rfl w.heap.size 5 i0 1 Ybad.underlying22 hi hz1 w.heap.size (np + nd) (np + nd + 2) _ rfl (hown.alloc _) ⟨wr.heap.size, 0, none⟩ 1 1 [_] rfl rfl (cell_one_new _ _ _) (by intro u hu; simp at hu; subst hu; rfl) (by omega) ?_; intro w2 hown2 hgrow2)
          have hb2 : Below w.heap.size w w2 := (hnx.alloc hnx.size _).grown hgrow2 (by simp; have := hnx.size; omega) (fun k hk => by cases hk; exact Nat.le_refl _)
          obtain ⟨c, hc1, hc2, hc3, hown3⟩ := tail_own (fun l => w2.ownsRow w.heap.size 5 1 (.slice (some ⟨w.heap.size, 0, none⟩) ((np + nd) + 1) (np + nd + 2)) ((np + nd) + 1) l) hown2
          have hown4 : w2.ownsRow w.heap.size 5 1 (.slice (some ⟨w.heap.size, 0, none⟩) ((np + nd) + 1) (np + nd + 2)) ((np + nd) + 1) ((built ps false ds nd [c]).map (Value.int .u8)) := by simpa [built] using hown3
          clear hown hown3 hown2 hgrow2
          have hc0 : w2.cell? ⟨b, off, none⟩ = some (.int .u8 (ds 0)) := by simpa using cell_later hb2 (hcd 0 hnd0)
          have hd0 := hds 0
          by_cases hbad : ds 0 % 10 = 0 ∧ 1 < nd
          · have call := call_bad w.heap.size ((np + nd) + 1) (np + nd + 2) w.heap.size ps false ds nd [c] w2 hown4 hpb (by intro x hx; simp at hx; subst hx; exact hc1) (.inr ⟨c, rfl, hc2⟩) (by omega) (fun c hc => cell_later hb2 (htab c hc)) (.inr ⟨hnd0, hbad.1, hbad.2⟩)
            rw [hpl] at call
            have t0 : (ds 0 % 10 == 0) = true := by simp [hbad.1]
            have t1 : (1 : Int) < nd := by omega
            clear hbad
            go_wp2_with (go_at_call 5; refine call.mono ?_; rintro e w3 ⟨rfl, q, rfl⟩)
            go_ret
            exact ⟨rfl, below_drewN hb2 q⟩
          · have call := call_good w.heap.size ((np + nd) + 1) (np + nd + 2) w.heap.size ps false ds nd [c] w2 hown4 hpb (by intro x hx; simp at hx; subst hx; exact hc1) (by omega) (fun c hc => cell_later hb2 (htab c hc)) hnd0 hbad (decide (sel < 7)) (.inr ⟨c, rfl, hc2, hc3⟩) ((np : Int) + nd) (by rw [hpl]; simp)
            rw [hpl] at call
            have hgood : (ds 0 % 10 == 0) = false ∨ ((ds 0 % 10 == 0) = true ∧ ¬ ((1 : Int) < nd)) := by
              by_cases h : ds 0 % 10 = 0
              · exact .inr ⟨by simp [h], by have : ¬ 1 < nd := fun h' => hbad ⟨h, h'⟩; omega⟩
              · exact .inl (by simpa using h)
            clear hbad
            have n0 : ((nd : Int) == 0) = false := by simp; omega
            have s18 : ((sel : Int) == 18) = false := by simp; omega
            by_cases hs7 : sel < 7
            all_goals
              simp only [hs7, decide_true, decide_false] at call
              rcases hgood with t0 | ⟨t0, t1⟩
            all_goals first | (have s7 : decide ((sel : Int) < 7) = true := by simp; omega) | (have s7 : decide ((sel : Int) < 7) = false := by simp; omega)
            all_goals try have n1 : decide ((1 : Int) < nd) = false := by simpa using t1
            all_goals
              go_wp2_with (go_at_call 5; refine call.mono ?_; rintro e w3 ⟨rfl, q, rfl⟩)
              all_goals
                go_ret
                exact ⟨rfl, below_drewN hb2 q⟩
        · have s18 : ((sel : Int) == 18) = true := by simp; omega
          have s7 : decide ((sel : Int) < 7) = false := by simp; omega
          have hown4 : wr.ownsRow w.heap.size 5 1 (.slice (some ⟨w.heap.size, 0, none⟩) (np + nd) (np + nd + 2)) (np + nd) ((built ps false ds nd []).map (Value.int .u8)) := by simpa [built] using hown
          have hc0 : wr.cell? ⟨b, off, none⟩ = some (.int .u8 (ds 0)) := by simpa using cell_later hnx (hcd 0 hnd0)
          have hd0 := hds 0
          by_cases hbad : ds 0 % 10 = 0 ∧ 1 < nd
          · have call := call_bad w.heap.size (np + nd) (np + nd + 2) w.heap.size ps false ds nd [] wr hown4 hpb (by intro x hx; cases hx) (.inl rfl) (by omega) (fun c hc => cell_later hnx (htab c hc)) (.inr ⟨hnd0, hbad.1, hbad.2⟩)
            rw [hpl] at call
            have t0 : (ds 0 % 10 == 0) = true := by simp [hbad.1]
            have t1 : (1 : Int) < nd := by omega
            clear hbad
            go_wp2_with (go_at_call 5; refine call.mono ?_; rintro e w3 ⟨rfl, q, rfl⟩)
            go_ret
            exact ⟨rfl, below_drewN hnx q⟩
          · have call := call_good w.heap.size (np + nd) (np + nd + 2) w.heap.size ps false ds nd [] wr hown4 hpb (by intro x hx; cases hx) (by omega) (fun c hc => cell_later hnx (htab c hc)) hnd0 hbad true (.inl ⟨rfl, rfl⟩) ((np : Int) + nd) (by rw [hpl]; simp)
            rw [hpl] at call
            have hgood : (ds 0 % 10 == 0) = false ∨ ((ds 0 % 10 == 0) = true ∧ ¬ ((1 : Int) < nd)) := by
              by_cases h : ds 0 % 10 = 0
              · exact .inr ⟨by simp [h], by have : ¬ 1 < nd := fun h' => hbad ⟨h, h'⟩; omega⟩
              · exact .inl (by simpa using h)
            clear hbad
            have n0 : ((nd : Int) == 0) = false := by simp; omega
            rcases hgood with t0 | ⟨t0, t1⟩
            all_goals try have n1 : decide ((1 : Int) < nd) = false := by simpa using t1
            all_goals
              go_wp2_with (go_at_call 5; refine call.mono ?_; rintro e w3 ⟨rfl, q, rfl⟩)
              all_goals
                go_ret
                exact ⟨rfl, below_drewN hnx q⟩

set_option maxHeartbeats 1000000 in
theorem built_neg (ap : Option Addr) (np cp : Nat) (ps : List Int) (b off nd cd : Nat) (ds : Nat → Int) (t : Int) (w : World)
    (hpl : ps.length = np) (hpn : ap = none → np = 0 ∧ cp = 0) (hpc : ∀ ad, ap = some ad → ∀ j u, (ps.map (Value.int .u8))[j]? = some u → w.cell? (ad.add j) = some u)
    (hpb : ∀ x ∈ ps, 0 ≤ x ∧ x ≤ 255) (hnp : np ≤ 1024) (hnd : nd ≤ 1024) (hnd0 : 0 < nd)
    (hcd : ∀ k, k < nd → w.cell? ⟨b, off + k, none⟩ = some (.int .u8 (ds k)))
    (hds : ∀ k, 0 ≤ ds k ∧ ds k ≤ 255) (ht0 : 0 ≤ t) (ht1 : t ≤ 255) (htab : ∀ c : Nat, c < 256 → w.cell? ⟨0, c, none⟩ = some (.bool (endsB (c : Int)))) :
    Calls Ybad.prog 3 #[.slice ap np cp, .bool true, .slice (some ⟨b, off, none⟩) nd cd, .int .u8 t] w fun e w' => e = .returned (.bool true) ∧ Below w.heap.size w w' := by
  obtain ⟨i0, hi, hz0, hz1, hz2⟩ := info_parts Ybad.info5
  obtain ⟨sel, hsel⟩ : ∃ sel : Nat, t % 19 = (sel : Int) := ⟨(t % 19).toNat, by omega⟩
  have hsel19 : sel < 19 := by omega
  · go_enter Ybad.func3, Ybad.ntmps3
    go_wp2_with (at_make; refine wpList_make_own _ rfl _ _ 22 rfl w.heap.size 5 i0 (.int .u8 0) 1 Ybad.underlying22 hi hz0 hz1 _ _ _ (np + nd + 2) rfl rfl (by omega) ?b2 ?b3 (Nat.le_refl _) ?_)
    case b2 => rw [hz2]; omega
    case b3 => unfold maxLen; omega
    intro w0 hown0 hgrow0
    have hb0 : Below w.heap.size w w0 := (Below.refl _ _).grown hgrow0 (Nat.le_refl _) (fun k h => by cases h)
    have hpc0 : ∀ ad, ap = some ad → ∀ j u, (ps.map (Value.int .u8))[j]? = some u → w0.cell? (ad.add j) = some u := fun ad h j u hu => cell_later hb0 (hpc ad h j u hu)
    go_wp2_with (first | (at_builtin; refine wpList_append_fits_any _ rfl (.tmp 34) (.tmp 35) 22 rfl w.heap.size 5 i0 1 Ybad.underlying22 hi hz1 w.heap.size 0 (np + nd + 2) _ rfl hown0 _ np _ (ps.map (Value.int .u8)) rfl (by simp [hpl]) hpn hpc0 (ints_oneCell _ _) (by omega) ?_; intro w1 hown1 hgrow1; simp only [Nat.zero_add, List.nil_append] at hown1) | (at_builtin; refine wpList_append_fits _ rfl (.tmp 40) (.tmp 41) 22 rfl w.heap.size 5 i0 1 Ybad.underlying22 hi hz1 w.heap.size np (np + nd + 2) _ rfl (hown1.alloc _) ⟨w1.heap.size, 0, none⟩ 1 1 [_] rfl rfl (cell_one_new _ _ _) (by intro u hu; simp at hu; subst hu; rfl) (by omega) ?_; intro w1b hown1b hgrow1b))
    have hb1 : Below w.heap.size w w1 := hb0.grown hgrow1 (by have := hgrow0.size; omega) (fun k h => by cases h; exact Nat.le_refl _)
    have hb1b : Below w.heap.size w w1b := (hb1.alloc hb1.size _).grown hgrow1b (by simp; have := hb1.size; omega) (fun k hk => by cases hk; exact Nat.le_refl _)
    go_loopw [9, 12, 45] (fun v _ i wr => ∃ k : Nat, k ≤ nd ∧ i = .int .i64 k ∧ v = .slice (some ⟨w.heap.size, 0, none⟩) (np + 1 + k) (np + nd + 2) ∧
        wr.ownsRow w.heap.size 5 1 (.slice (some ⟨w.heap.size, 0, none⟩) (np + 1 + k) (np + nd + 2)) (np + 1 + k) ((ps ++ negL true ++ dig ds k).map (Value.int .u8)) ∧ Below w.heap.size w wr)
      (fun _ _ i _ => nd - (intOf i).toNat)
    case atStart => exact ⟨0, Nat.zero_le _, rfl, rfl, by simpa [negL, dig] using hown1b, hb1b⟩
    case round =>
      obtain ⟨k, hk, rfl, rfl, hown, hnx⟩ := hrel
      have hdk := hds k
      by_cases hlt : k < nd
      · have hck : wr.cell? ⟨b, off + k, none⟩ = some (.int .u8 (ds k)) := cell_later hnx (hcd k hlt)
        go_wp2_with (at_builtin; refine wpList_append_fits _ rfl (.tmp 49) (.tmp 53) 22 rfl w.heap.size 5 i0 1 Ybad.underlying22 hi hz1 w.heap.size (np + 1 + k) (np + nd + 2) _ rfl (hown.alloc _) ⟨wr.heap.size, 0, none⟩ 1 1 [.int .u8 (48 + ds k % 10)] rfl rfl (cell_one_new _ _ _) (by intro u hu; simp at hu; subst hu; rfl) (by omega) ?_; intro w2 hown2 hgrow2)
        go_roundw
        case rel => exact ⟨k + 1, by omega, by go_num, rfl, by rw [dig_succ, ← Nat.add_assoc]; simpa [List.append_assoc] using hown2, (hnx.alloc hnx.size _).grown hgrow2 (by simp; have := hnx.size; omega) (fun k hk => by cases hk; exact Nat.le_refl _)⟩
        case measure => simp [intOf]; omega
      · obtain rfl : nd = k := by omega
        by_cases hs18 : sel < 18
        · go_wp2_with (at_builtin; refine wpList_append_fits _ rfl (.tmp 61) (.tmp 64) 22 rfl w.heap.size 5 i0 1 Ybad.underlying22 hi hz1 w.heap.size (np + 1 + nd) (np + nd + 2) _ rfl (hown.alloc _) ⟨wr.heap.size, 0, none⟩ 1 1 [_] rfl rfl (cell_one_new _ _ _) (by intro u hu; simp at hu; subst hu; rfl) (by omega) ?_; intro w2 hown2 hgrow2)
          have hb2 : Below w.heap.size w w2 := (hnx.alloc hnx.size _).grown hgrow2 (by simp; have := hnx.size; omega) (fun k hk => by cases hk; exact Nat.le_refl _)
          obtain ⟨c, hc1, hc2, hc3, hown3⟩ := tail_own (fun l => w2.ownsRow w.heap.size 5 1 (.slice (some ⟨w.heap.size, 0, none⟩) ((np + 1 + nd) + 1) (np + nd + 2)) ((np + 1 + nd) + 1) l) hown2
          have hown4 : w2.ownsRow w.heap.size 5 1 (.slice (some ⟨w.heap.size, 0, none⟩) ((np + 1 + nd) + 1) (np + nd + 2)) ((np + 1 + nd) + 1) ((built ps true ds nd [c]).map (Value.int .u8)) := by simpa [built] using hown3
          clear hown hown3 hown2 hgrow2
          have hc0 : w2.cell? ⟨b, off, none⟩ = some (.int .u8 (ds 0)) := by simpa using cell_later hb2 (hcd 0 hnd0)
          have hd0 := hds 0
          by_cases hbad : ds 0 % 10 = 0 ∧ 1 < nd
          · have call := call_bad w.heap.size ((np + 1 + nd) + 1) (np + nd + 2) w.heap.size ps true ds nd [c] w2 hown4 hpb (by intro x hx; simp at hx; subst hx; exact hc1) (.inr ⟨c, rfl, hc2⟩) (by omega) (fun c hc => cell_later hb2 (htab c hc)) (.inr ⟨hnd0, hbad.1, hbad.2⟩)
            rw [hpl] at call
            have t0 : (ds 0 % 10 == 0) = true := by simp [hbad.1]
            have t1 : (1 : Int) < nd := by omega
            clear hbad
            go_wp2_with (go_at_call 5; refine call.mono ?_; rintro e w3 ⟨rfl, q, rfl⟩)
            go_ret
            exact ⟨rfl, below_drewN hb2 q⟩
          · have call := call_good w.heap.size ((np + 1 + nd) + 1) (np + nd + 2) w.heap.size ps true ds nd [c] w2 hown4 hpb (by intro x hx; simp at hx; subst hx; exact hc1) (by omega) (fun c hc => cell_later hb2 (htab c hc)) hnd0 hbad (decide (sel < 7)) (.inr ⟨c, rfl, hc2, hc3⟩) ((np : Int) + nd + 1) (by rw [hpl]; simp; omega)
            rw [hpl] at call
            have hgood : (ds 0 % 10 == 0) = false ∨ ((ds 0 % 10 == 0) = true ∧ ¬ ((1 : Int) < nd)) := by
              by_cases h : ds 0 % 10 = 0
              · exact .inr ⟨by simp [h], by have : ¬ 1 < nd := fun h' => hbad ⟨h, h'⟩; omega⟩
              · exact .inl (by simpa using h)
            clear hbad
            have n0 : ((nd : Int) == 0) = false := by simp; omega
            have s18 : ((sel : Int) == 18) = false := by simp; omega
            by_cases hs7 : sel < 7
            all_goals
              simp only [hs7, decide_true, decide_false] at call
              rcases hgood with t0 | ⟨t0, t1⟩
            all_goals first | (have s7 : decide ((sel : Int) < 7) = true := by simp; omega) | (have s7 : decide ((sel : Int) < 7) = false := by simp; omega)
            all_goals try have n1 : decide ((1 : Int) < nd) = false := by simpa using t1
            all_goals
              go_wp2_with (go_at_call 5; refine call.mono ?_; rintro e w3 ⟨rfl, q, rfl⟩)
              all_goals
                go_ret
                exact ⟨rfl, below_drewN hb2 q⟩
        · have s18 : ((sel : Int) == 18) = true := by simp; omega
          have s7 : decide ((sel : Int) < 7) = false := by simp; omega
          have hown4 : wr.ownsRow w.heap.size 5 1 (.slice (some ⟨w.heap.size, 0, none⟩) (np + 1 + nd) (np + nd + 2)) (np + 1 + nd) ((built ps true ds nd []).map (Value.int .u8)) := by simpa [built] using hown
          have hc0 : wr.cell? ⟨b, off, none⟩ = some (.int .u8 (ds 0)) := by simpa using cell_later hnx (hcd 0 hnd0)
          have hd0 := hds 0
          by_cases hbad : ds 0 % 10 = 0 ∧ 1 < nd
          · have call := call_bad w.heap.size (np + 1 + nd) (np + nd + 2) w.heap.size ps true ds nd [] wr hown4 hpb (by intro x hx; cases hx) (.inl rfl) (by omega) (fun c hc => cell_later hnx (htab c hc)) (.inr ⟨hnd0, hbad.1, hbad.2⟩)
            rw [hpl] at call
            have t0 : (ds 0 % 10 == 0) = true := by simp [hbad.1]
            have t1 : (1 : Int) < nd := by omega
            clear hbad
            go_wp2_with (go_at_call 5; refine call.mono ?_; rintro e w3 ⟨rfl, q, rfl⟩)
            go_ret
            exact ⟨rfl, below_drewN hnx q⟩
          · have call := call_good w.heap.size (np + 1 + nd) (np + nd + 2) w.heap.size ps true ds nd [] wr hown4 hpb (by intro x hx; cases hx) (by omega) (fun c hc => cell_later hnx (htab c hc)) hnd0 hbad true (.inl ⟨rfl, rfl⟩) ((np : Int) + nd + 1) (by rw [hpl]; simp; omega)
            rw [hpl] at call
            have hgood : (ds 0 % 10 == 0) = false ∨ ((ds 0 % 10 == 0) = true ∧ ¬ ((1 : Int) < nd)) := by
              by_cases h : ds 0 % 10 = 0
              · exact .inr ⟨by simp [h], by have : ¬ 1 < nd := fun h' => hbad ⟨h, h'⟩; omega⟩
              · exact .inl (by simpa using h)
            clear hbad
            have n0 : ((nd : Int) == 0) = false := by simp; omega
            rcases hgood with t0 | ⟨t0, t1⟩
            all_goals try have n1 : decide ((1 : Int) < nd) = false := by simpa using t1
            all_goals
              go_wp2_with (go_at_call 5; refine call.mono ?_; rintro e w3 ⟨rfl, q, rfl⟩)
              all_goals
                go_ret
                exact ⟨rfl, below_drewN hnx q⟩

set_option maxHeartbeats 1000000 in
theorem built_zero (ap : Option Addr) (np cp : Nat) (ps : List Int) (ad : Option Addr) (cd : Nat) (ds : Nat → Int) (t : Int) (w : World)
    (hpl : ps.length = np) (hpn : ap = none → np = 0 ∧ cp = 0) (hpc : ∀ ad, ap = some ad → ∀ j u, (ps.map (Value.int .u8))[j]? = some u → w.cell? (ad.add j) = some u)
    (hpb : ∀ x ∈ ps, 0 ≤ x ∧ x ≤ 255) (hnp : np ≤ 1024) 
    (ht0 : 0 ≤ t) (ht1 : t ≤ 255) (htab : ∀ c : Nat, c < 256 → w.cell? ⟨0, c, none⟩ = some (.bool (endsB (c : Int)))) :
    Calls Ybad.prog 3 #[.slice ap np cp, .bool false, .slice ad 0 cd, .int .u8 t] w fun e w' => e = .returned (.bool true) ∧ Below w.heap.size w w' := by
  obtain ⟨i0, hi, hz0, hz1, hz2⟩ := info_parts Ybad.info5
  obtain ⟨sel, hsel⟩ : ∃ sel : Nat, t % 19 = (sel : Int) := ⟨(t % 19).toNat, by omega⟩
  have hsel19 : sel < 19 := by omega
  · go_enter Ybad.func3, Ybad.ntmps3
    go_wp2_with (at_make; refine wpList_make_own _ rfl _ _ 22 rfl w.heap.size 5 i0 (.int .u8 0) 1 Ybad.underlying22 hi hz0 hz1 _ _ _ (np + 0 + 2) rfl rfl (by omega) ?b2 ?b3 (Nat.le_refl _) ?_)
    case b2 => rw [hz2]; omega
    case b3 => unfold maxLen; omega
    intro w0 hown0 hgrow0
    have hb0 : Below w.heap.size w w0 := (Below.refl _ _).grown hgrow0 (Nat.le_refl _) (fun k h => by cases h)
    have hpc0 : ∀ ad, ap = some ad → ∀ j u, (ps.map (Value.int .u8))[j]? = some u → w0.cell? (ad.add j) = some u := fun ad h j u hu => cell_later hb0 (hpc ad h j u hu)
    go_wp2_with (at_builtin; refine wpList_append_fits_any _ rfl (.tmp 34) (.tmp 35) 22 rfl w.heap.size 5 i0 1 Ybad.underlying22 hi hz1 w.heap.size 0 (np + 0 + 2) _ rfl hown0 _ np _ (ps.map (Value.int .u8)) rfl (by simp [hpl]) hpn hpc0 (ints_oneCell _ _) (by omega) ?_; intro w1 hown1 hgrow1; simp only [Nat.zero_add, List.nil_append] at hown1)
    have hb1 : Below w.heap.size w w1 := hb0.grown hgrow1 (by have := hgrow0.size; omega) (fun k h => by cases h; exact Nat.le_refl _)
    go_loopw [9, 12, 45] (fun v _ i wr => ∃ k : Nat, k ≤ 0 ∧ i = .int .i64 k ∧ v = .slice (some ⟨w.heap.size, 0, none⟩) (np + k) (np + 0 + 2) ∧
        wr.ownsRow w.heap.size 5 1 (.slice (some ⟨w.heap.size, 0, none⟩) (np + k) (np + 0 + 2)) (np + k) ((ps ++ negL false ++ dig ds k).map (Value.int .u8)) ∧ Below w.heap.size w wr)
      (fun _ _ i _ => 0 - (intOf i).toNat)
    case atStart => exact ⟨0, Nat.zero_le _, rfl, rfl, by simpa [negL, dig] using hown1, hb1⟩
    case round =>
      obtain ⟨k, hk, rfl, rfl, hown, hnx⟩ := hrel
      · obtain rfl : k = 0 := by omega
        by_cases hs18 : sel < 18
        · go_wp2_with (at_builtin; refine wpList_append_fits _ rfl (.tmp 61) (.tmp 64) 22 rfl w.heap.size 5 i0 1 Ybad.underlying22 hi hz1 w.heap.size (np + 0) (np + 0 + 2) _ rfl (hown.alloc _) ⟨wr.heap.size, 0, none⟩ 1 1 [_] rfl rfl (cell_one_new _ _ _) (by intro u hu; simp at hu; subst hu; rfl) (by omega) ?_; intro w2 hown2 hgrow2)
          have hb2 : Below w.heap.size w w2 := (hnx.alloc hnx.size _).grown hgrow2 (by simp; have := hnx.size; omega) (fun k hk => by cases hk; exact Nat.le_refl _)
          obtain ⟨c, hc1, hc2, hc3, hown3⟩ := tail_own (fun l => w2.ownsRow w.heap.size 5 1 (.slice (some ⟨w.heap.size, 0, none⟩) ((np + 0) + 1) (np + 0 + 2)) ((np + 0) + 1) l) hown2
          have hown4 : w2.ownsRow w.heap.size 5 1 (.slice (some ⟨w.heap.size, 0, none⟩) ((np + 0) + 1) (np + 0 + 2)) ((np + 0) + 1) ((built ps false ds 0 [c]).map (Value.int .u8)) := by simpa [built] using hown3
          clear hown hown3 hown2 hgrow2
          have call := call_bad w.heap.size ((np + 0) + 1) (np + 0 + 2) w.heap.size ps false ds 0 [c] w2 hown4 hpb (by intro x hx; simp at hx; subst hx; exact hc1) (.inr ⟨c, rfl, hc2⟩) (by omega) (fun c hc => cell_later hb2 (htab c hc)) (.inl rfl)
          rw [hpl] at call
          go_wp2_with (go_at_call 5; refine call.mono ?_; rintro e w3 ⟨rfl, q, rfl⟩)
          go_ret
          exact ⟨rfl, below_drewN hb2 q⟩
        · have s18 : ((sel : Int) == 18) = true := by simp; omega
          have s7 : decide ((sel : Int) < 7) = false := by simp; omega
          have hown4 : wr.ownsRow w.heap.size 5 1 (.slice (some ⟨w.heap.size, 0, none⟩) (np + 0) (np + 0 + 2)) (np + 0) ((built ps false ds 0 []).map (Value.int .u8)) := by simpa [built] using hown
          have call := call_bad w.heap.size (np + 0) (np + 0 + 2) w.heap.size ps false ds 0 [] wr hown4 hpb (by intro x hx; cases hx) (.inl rfl) (by omega) (fun c hc => cell_later hnx (htab c hc)) (.inl rfl)
          rw [hpl] at call
          go_wp2_with (go_at_call 5; refine call.mono ?_; rintro e w3 ⟨rfl, q, rfl⟩)
          go_ret
          exact ⟨rfl, below_drewN hnx q⟩

set_option maxHeartbeats 1000000 in
theorem built_minus (ap : Option Addr) (np cp : Nat) (ps : List Int) (ad : Option Addr) (cd : Nat) (ds : Nat → Int) (t : Int) (w : World)
    (hpl : ps.length = np) (hpn : ap = none → np = 0 ∧ cp = 0) (hpc : ∀ ad, ap = some ad → ∀ j u, (ps.map (Value.int .u8))[j]? = some u → w.cell? (ad.add j) = some u)
    (hpb : ∀ x ∈ ps, 0 ≤ x ∧ x ≤ 255) (hnp : np ≤ 1024) 
    (ht0 : 0 ≤ t) (ht1 : t ≤ 255) (htab : ∀ c : Nat, c < 256 → w.cell? ⟨0, c, none⟩ = some (.bool (endsB (c : Int)))) :
    Calls Ybad.prog 3 #[.slice ap np cp, .bool true, .slice ad 0 cd, .int .u8 t] w fun e w' => e = .returned (.bool true) ∧ Below w.heap.size w w' := by
  obtain ⟨i0, hi, hz0, hz1, hz2⟩ := info_parts Ybad.info5
  obtain ⟨sel, hsel⟩ : ∃ sel : Nat, t % 19 = (sel : Int) := ⟨(t % 19).toNat, by omega⟩
  have hsel19 : sel < 19 := by omega
  · go_enter Ybad.func3, Ybad.ntmps3
    go_wp2_with (at_make; refine wpList_make_own _ rfl _ _ 22 rfl w.heap.size 5 i0 (.int .u8 0) 1 Ybad.underlying22 hi hz0 hz1 _ _ _ (np + 0 + 2) rfl rfl (by omega) ?b2 ?b3 (Nat.le_refl _) ?_)
    case b2 => rw [hz2]; omega
    case b3 => unfold maxLen; omega
    intro w0 hown0 hgrow0
    have hb0 : Below w.heap.size w w0 := (Below.refl _ _).grown hgrow0 (Nat.le_refl _) (fun k h => by cases h)
    have hpc0 : ∀ ad, ap = some ad → ∀ j u, (ps.map (Value.int .u8))[j]? = some u → w0.cell? (ad.add j) = some u := fun ad h j u hu => cell_later hb0 (hpc ad h j u hu)
    go_wp2_with (first | (at_builtin; refine wpList_append_fits_any _ rfl (.tmp 34) (.tmp 35) 22 rfl w.heap.size 5 i0 1 Ybad.underlying22 hi hz1 w.heap.size 0 (np + 0 + 2) _ rfl hown0 _ np _ (ps.map (Value.int .u8)) rfl (by simp [hpl]) hpn hpc0 (ints_oneCell _ _) (by omega) ?_; intro w1 hown1 hgrow1; simp only [Nat.zero_add, List.nil_append] at hown1) | (at_builtin; refine wpList_append_fits _ rfl (.tmp 40) (.tmp 41) 22 rfl w.heap.size 5 i0 1 Ybad.underlying22 hi hz1 w.heap.size np (np + 0 + 2) _ rfl (hown1.alloc _) ⟨w1.heap.size, 0, none⟩ 1 1 [_] rfl rfl (cell_one_new _ _ _) (by intro u hu; simp at hu; subst hu; rfl) (by omega) ?_; intro w1b hown1b hgrow1b))
    have hb1 : Below w.heap.size w w1 := hb0.grown hgrow1 (by have := hgrow0.size; omega) (fun k h => by cases h; exact Nat.le_refl _)
    have hb1b : Below w.heap.size w w1b := (hb1.alloc hb1.size _).grown hgrow1b (by simp; have := hb1.size; omega) (fun k hk => by cases hk; exact Nat.le_refl _)
    go_loopw [9, 12, 45] (fun v _ i wr => ∃ k : Nat, k ≤ 0 ∧ i = .int .i64 k ∧ v = .slice (some ⟨w.heap.size, 0, none⟩) (np + 1 + k) (np + 0 + 2) ∧
        wr.ownsRow w.heap.size 5 1 (.slice (some ⟨w.heap.size, 0, none⟩) (np + 1 + k) (np + 0 + 2)) (np + 1 + k) ((ps ++ negL true ++ dig ds k).map (Value.int .u8)) ∧ Below w.heap.size w wr)
      (fun _ _ i _ => 0 - (intOf i).toNat)
    case atStart => exact ⟨0, Nat.zero_le _, rfl, rfl, by simpa [negL, dig] using hown1b, hb1b⟩
    case round =>
      obtain ⟨k, hk, rfl, rfl, hown, hnx⟩ := hrel
      · obtain rfl : k = 0 := by omega
        by_cases hs18 : sel < 18
        · go_wp2_with (at_builtin; refine wpList_append_fits _ rfl (.tmp 61) (.tmp 64) 22 rfl w.heap.size 5 i0 1 Ybad.underlying22 hi hz1 w.heap.size (np + 1 + 0) (np + 0 + 2) _ rfl (hown.alloc _) ⟨wr.heap.size, 0, none⟩ 1 1 [_] rfl rfl (cell_one_new _ _ _) (by intro u hu; simp at hu; subst hu; rfl) (by omega) ?_; intro w2 hown2 hgrow2)
          have hb2 : Below w.heap.size w w2 := (hnx.alloc hnx.size _).grown hgrow2 (by simp; have := hnx.size; omega) (fun k hk => by cases hk; exact Nat.le_refl _)
          obtain ⟨c, hc1, hc2, hc3, hown3⟩ := tail_own (fun l => w2.ownsRow w.heap.size 5 1 (.slice (some ⟨w.heap.size, 0, none⟩) ((np + 1 + 0) + 1) (np + 0 + 2)) ((np + 1 + 0) + 1) l) hown2
          have hown4 : w2.ownsRow w.heap.size 5 1 (.slice (some ⟨w.heap.size, 0, none⟩) ((np + 1 + 0) + 1) (np + 0 + 2)) ((np + 1 + 0) + 1) ((built ps true ds 0 [c]).map (Value.int .u8)) := by simpa [built] using hown3
          clear hown hown3 hown2 hgrow2
          have call := call_bad w.heap.size ((np + 1 + 0) + 1) (np + 0 + 2) w.heap.size ps true ds 0 [c] w2 hown4 hpb (by intro x hx; simp at hx; subst hx; exact hc1) (.inr ⟨c, rfl, hc2⟩) (by omega) (fun c hc => cell_later hb2 (htab c hc)) (.inl rfl)
          rw [hpl] at call
          go_wp2_with (go_at_call 5; refine call.mono ?_; rintro e w3 ⟨rfl, q, rfl⟩)
          go_ret
          exact ⟨rfl, below_drewN hb2 q⟩
        · have s18 : ((sel : Int) == 18) = true := by simp; omega
          have s7 : decide ((sel : Int) < 7) = false := by simp; omega
          have hown4 : wr.ownsRow w.heap.size 5 1 (.slice (some ⟨w.heap.size, 0, none⟩) (np + 1 + 0) (np + 0 + 2)) (np + 1 + 0) ((built ps true ds 0 []).map (Value.int .u8)) := by simpa [built] using hown
          have call := call_bad w.heap.size (np + 1 + 0) (np + 0 + 2) w.heap.size ps true ds 0 [] wr hown4 hpb (by intro x hx; cases hx) (.inl rfl) (by omega) (fun c hc => cell_later hnx (htab c hc)) (.inl rfl)
          rw [hpl] at call
          go_wp2_with (go_at_call 5; refine call.mono ?_; rintro e w3 ⟨rfl, q, rfl⟩)
          go_ret
          exact ⟨rfl, below_drewN hnx q⟩

end Go.Proofs.YbulkalykDoor
