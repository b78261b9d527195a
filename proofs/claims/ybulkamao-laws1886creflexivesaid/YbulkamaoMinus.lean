/-
  The walk of 'minusSpans' (21).
-/
import Derived.Test.YbulkamaoMakeSpans
import Derived.Deep.QuietTactic
import Derived.BigQuiet
namespace Go.Proofs.Ybulkamao
open Go.RowKit

/-- The cells of a list of spans at a row's head. -/
def SpAt (w : World) (g : Nat) (L : List (Nat × Nat)) : Prop :=
  ∀ j (h : j < L.length), w.cell? ⟨g, j * 2, none⟩ = some (.int .i64 (L[j].1 : Nat)) ∧ w.cell? ⟨g, j * 2 + 1, none⟩ = some (.int .i64 (L[j].2 : Nat))
theorem SpAt.later {w w' : World} {g : Nat} {L : List (Nat × Nat)} (h : SpAt w g L) (hb : Below w.heap.size w w') : SpAt w' g L :=
  fun j hj => ⟨cell_later hb (h j hj).1, cell_later hb (h j hj).2⟩

def slLen : Value → Nat | .slice _ n _ => n | _ => 0
theorem drop_at (L : List (Nat × Nat)) (k : Nat) (h : k < L.length) : ∃ p1 p2, L[k] = (p1, p2) ∧ L.drop k = (p1, p2) :: L.drop (k + 1) :=
  ⟨L[k].1, L[k].2, rfl, List.drop_eq_getElem_cons h⟩
theorem two_at (w : World) (a b : Value) (t : TypeId) (g : Nat) (hg : g = w.heap.size) : ∀ j u, [a, b][j]? = some u → (w.alloc (.cells #[a, b] t)).cell? ((⟨g, 0, none⟩ : Addr).add j) = some u := by
  subst hg; exact cell_two_new w a b t

theorem minus_skip (p : Nat × Nat) (B : List (Nat × Nat)) (q : Nat × Nat) (A : List (Nat × Nat)) (h : q.2 ≤ p.1) : minus (p :: B) (q :: A) = minus (p :: B) A := by simp [minus, dropW, h]
theorem minus_keep (p : Nat × Nat) (B : List (Nat × Nat)) (q : Nat × Nat) (A : List (Nat × Nat)) (h : ¬ q.2 ≤ p.1) : minus (p :: B) (q :: A) = cuts p.1 p.2 (q :: A) ++ minus B (q :: A) := by simp [minus, dropW, h]
theorem minus_none (p : Nat × Nat) (B : List (Nat × Nat)) : minus (p :: B) [] = cuts p.1 p.2 [] ++ minus B [] := by simp [minus, dropW]
theorem cuts_stop (lo hi : Nat) (q : Nat × Nat) (A : List (Nat × Nat)) (h : hi ≤ q.1) : cuts lo hi (q :: A) = cuts lo hi [] := by simp [cuts, h]
theorem cuts_add (lo hi : Nat) (q : Nat × Nat) (A : List (Nat × Nat)) (h : ¬ hi ≤ q.1) (h2 : lo < q.1) : cuts lo hi (q :: A) = (lo, q.1) :: cuts q.2 hi A := by simp [cuts, h, h2]
theorem cuts_pass (lo hi : Nat) (q : Nat × Nat) (A : List (Nat × Nat)) (h : ¬ hi ≤ q.1) (h2 : ¬ lo < q.1) : cuts lo hi (q :: A) = cuts q.2 hi A := by simp [cuts, h, h2]
theorem cuts_last (lo hi : Nat) (h : lo < hi) : cuts lo hi [] = [(lo, hi)] := by simp [cuts, h]
theorem cuts_no (lo hi : Nat) (h : ¬ lo < hi) : cuts lo hi [] = [] := by simp [cuts, h]

/-- What an append to a list of spans leaves. -/
theorem app_step {w w1 : World} {W : World} {base : Nat} {v v' : Value} {R : List (Nat × Nat)} {k j S : Nat}
    (hnx : Below base w W) (hbW : base ≤ W.heap.size) (hown : W.ownsRow base 31 2 v R.length (spCells R)) (hown1 : w1.ownsRow base 31 2 v' (R.length + 1) (spCells R ++ [.int .i64 (k : Nat), .int .i64 (j : Nat)]))
    (hg : W.grownBy w1 v.ownBlock) (hat : v'.ownBlock = v.ownBlock ∨ v'.ownBlock = some W.heap.size) (hS : v.ownBlock ≠ some S) (hSW : S < W.heap.size) :
    SpV w1 base v' (R ++ [(k, j)]) ∧ Below base w w1 ∧ v'.ownBlock ≠ some S ∧ S < w1.heap.size ∧ (∀ o, w1.cell? ⟨S, o, none⟩ = W.cell? ⟨S, o, none⟩) := by
  refine ⟨own_snoc hown1, hnx.grown hg hbW (fun k h => (hown.lt k h).1), ?_, Nat.lt_of_lt_of_le hSW hg.size, fun o => World.cell?_of_block (hg.block S hSW (fun e => hS e.symm))⟩
  rcases hat with h | h
  · rw [h]; exact hS
  · rw [h]; intro e; have := Option.some.inj e; omega

set_option maxHeartbeats 2000000 in
theorem minus_both (gb cB ga cA : Nat) (ao0 : Option Addr) (B A : List (Nat × Nat)) (w : World) (hB : SpAt w gb B) (hA : SpAt w ga A) (hlB : B.length ≤ 300) (hlA : A.length ≤ 300) (hcA : A.length ≤ cA) (hao0 : 0 < A.length → ao0 = some ⟨ga, 0, none⟩) :
    Calls Yba.prog 21 #[.slice (some ⟨gb, 0, none⟩) B.length cB, .slice ao0 A.length cA] w fun e w' => ∃ v, e = .returned v ∧ SpV w' w.heap.size v (minus B A) ∧ Below w.heap.size w w' := by
  obtain ⟨i0, hi, hz0, hz1, hz2⟩ := info_parts Yba.info31
  obtain ⟨lB, elB⟩ : ∃ lB, B.length = lB := ⟨_, rfl⟩
  obtain ⟨lA, elA⟩ : ∃ lA, A.length = lA := ⟨_, rfl⟩
  rw [elB, elA]
  rw [elB] at hlB
  rw [elA] at hlA hcA hao0
  have HA0 : Hid (0 < lA → ao0 = some ⟨ga, 0, none⟩) := hao0
  clear hao0
  have HlB : Hid (B.length = lB) := elB
  have HlA : Hid (A.length = lA) := elA
  obtain ⟨T, hT⟩ : ∃ T, minus B A = T := ⟨_, rfl⟩
  rw [hT]
  have hTl : T.length ≤ 100000 := by
    rw [← hT]
    have := minus_len B A 300 (by omega)
    have h2 : B.length * (300 + 1) ≤ 300 * 301 := Nat.mul_le_mul (by omega) (Nat.le_refl _)
    omega
  have HT : Hid (minus B A = T) := hT
  clear hT elA elB
  go_enter Yba.func21, Yba.ntmps21
  go_wp2
  go_loopw [1, 5, 13] (fun av rv i wr => ∃ (k d r c : Nat) (R : List (Nat × Nat)) (ao : Option Addr), k ≤ lB ∧ r + d = lA ∧ c + d = cA ∧ i = .int .i64 k ∧ av = .slice ao r c ∧ (0 < r → ao = some ⟨ga, d * 2, none⟩) ∧
      SpV wr w.heap.size rv R ∧ Hid (R ++ minus (B.drop k) (A.drop d) = T) ∧ Below w.heap.size w wr) (fun _ _ i _ => lB - (intOf i).toNat)
  case atStart => exact ⟨0, 0, lA, cA, [], ao0, Nat.zero_le _, rfl, rfl, rfl, rfl, (fun h => by rw [HA0.out h]), World.ownsRow_nil _ _ _ _, HT.out, Below.refl _ _⟩
  case round =>
    obtain ⟨k, d, r, c, R, ao, hk, hr, hcc, rfl, rfl, hao, hown, hR, hnx⟩ := hrel
    by_cases hlt : k < lB
    · obtain ⟨p1, p2, ep, edB⟩ := drop_at B k (by rw [HlB.out]; exact hlt)
      have hc1 := (cell_later hnx (hB k (by rw [HlB.out]; exact hlt)).1)
      have hc2 := (cell_later hnx (hB k (by rw [HlB.out]; exact hlt)).2)
      rw [ep] at hc1 hc2
      have HEB : Hid (B.drop k = (p1, p2) :: B.drop (k + 1)) := edB
      clear ep edB
      obtain ⟨wo, rfl⟩ : ∃ wo : World, wo = wr := ⟨_, rfl⟩
      have hb0 : Below w.heap.size w (wo.alloc (.cells #[.int .i64 p1, .int .i64 p2] 31)) := hnx.alloc hnx.size _
      go_wp2
      go_loopw [1] (fun av w2 => ∃ (d r c : Nat) (ao : Option Addr) (q : Nat), r + d = lA ∧ c + d = cA ∧ av = .slice ao r c ∧ (0 < r → ao = some ⟨ga, d * 2, none⟩) ∧
          Hid (R ++ minus (B.drop k) (A.drop d) = T) ∧ w2 = (wo.alloc (.cells #[.int .i64 p1, .int .i64 p2] 31)).drewN q) (fun av _ => slLen av)
      case atStart => exact ⟨d, r, c, ao, 0, hr, hcc, rfl, hao, hR, rfl⟩
      case round =>
        clear hr hcc hao hR
        obtain ⟨d, r, c, ao, q, hr, hcc, rfl, hao, hR, rfl⟩ := hrel
        by_cases hr0 : 0 < r
        · obtain rfl := hao hr0
          obtain ⟨q1, q2, eq, edA⟩ := drop_at A d (by rw [HlA.out]; omega)
          have ha1 := (cell_later hb0 (hA d (by rw [HlA.out]; omega)).1)
          have ha2 := (cell_later hb0 (hA d (by rw [HlA.out]; omega)).2)
          rw [eq] at ha1 ha2
          have HEA : Hid (A.drop d = (q1, q2) :: A.drop (d + 1)) := edA
          clear eq edA hao
          have hr0I : (0 : Int) < (r : Int) := by omega
          by_cases hq : q2 ≤ p1
          · have hqd : decide ((q2 : Int) ≤ (p1 : Int)) = true := by simp; omega
            go_wp2
            go_quiet (fail)
            go_wp2
            go_roundw
            case rel => exact ⟨d + 1, r - 1, c - 1, _, q + nq, by omega, by omega, rfl, (fun h => by rw [if_neg (by omega)]; congr 2; omega), (by
              have h1 := hR.out
              rw [HEB.out, HEA.out, minus_skip _ _ _ _ hq] at h1
              rw [HEB.out]; exact h1), rfl⟩
            case measure => simp [slLen]; omega
          · have hqd : decide ((q2 : Int) ≤ (p1 : Int)) = false := by simp; omega
            have HR3 : Hid (R ++ cuts p1 p2 (A.drop (d + 0)) ++ minus (B.drop (k + 1)) (A.drop d) = T) := by
              have h1 := hR.out
              rw [HEB.out, HEA.out, minus_keep _ _ _ _ hq] at h1
              rw [Nat.add_zero, HEA.out, List.append_assoc]; exact h1
            clear HEA hR hc1 hc2
            go_wp2
            go_quiet (fail)
            go_wp2
            clear ha1 ha2
            go_loopw [5, 8, 10, 35] (fun rv lv _ iv w3 => ∃ (j c' : Nat) (R' : List (Nat × Nat)), j ≤ r ∧ iv = .int .i64 j ∧ lv = .int .i64 c' ∧ SpV w3 w.heap.size rv R' ∧ Hid (R' ++ cuts c' p2 (A.drop (d + j)) ++ minus (B.drop (k + 1)) (A.drop d) = T) ∧
                Below w.heap.size w w3 ∧ rv.ownBlock ≠ some wo.heap.size ∧ wo.heap.size < w3.heap.size ∧ w3.cell? ⟨wo.heap.size, 1, none⟩ = some (.int .i64 p2)) (fun _ _ _ iv _ => r - (intOf iv).toNat)
            case atStart => exact ⟨0, p1, R, Nat.zero_le _, rfl, rfl, World.ownsRow.alloc hown _, HR3, below_drewN hb0 _, (fun e => by have := (World.ownsRow.lt hown _ e).2; omega), (by simp), (by go_simp)⟩
            case round =>
              clear HR3 hown
              obtain ⟨j, c', R', hj, rfl, rfl, hown3, hR3, hnx3, hne3, hsz3, hs1⟩ := hrel
              obtain ⟨w3, rfl⟩ : ∃ w3 : World, w3 = wr := ⟨_, rfl⟩
              have hRl : R'.length ≤ 100000 := by have := congrArg List.length hR3.out; simp only [List.length_append] at this; omega
              have hown3' : w3.ownsRow w.heap.size 31 2 _ R'.length (spCells R') := hown3
              clear hown3
              by_cases hjr : j < r
              · obtain ⟨q3, q4, eq, edA⟩ := drop_at A (d + j) (by rw [HlA.out]; omega)
                have ha1 := (cell_later hnx3 (hA (d + j) (by rw [HlA.out]; omega)).1)
                have ha2 := (cell_later hnx3 (hA (d + j) (by rw [HlA.out]; omega)).2)
                rw [eq, Nat.add_mul] at ha1 ha2
                have HEA : Hid (A.drop (d + j) = (q3, q4) :: A.drop (d + j + 1)) := edA
                clear eq edA
                have hjrI : (j : Int) < r := by omega
                by_cases hb1 : p2 ≤ q3
                · by_cases hfin : c' < p2
                  · have HN : Hid (R' ++ [(c', p2)] ++ minus (B.drop (k + 1)) (A.drop d) = T) := by
                      have h1 := hR3.out
                      rw [HEA.out, cuts_stop _ _ _ _ hb1, cuts_last _ _ hfin] at h1
                      exact h1
                    clear hR3
                    go_wp2_with (at_builtin; refine wpList_append_own_at _ rfl (.tmp 62) (.tmp 67) 54 rfl w.heap.size 31 i0 (.agg #[.int .i64 0, .int .i64 0]) 2 16 Yba.underlying54 hi hz0 hz1 hz2 rfl (by decide) _ _ _ rfl ((hown3'.alloc _).alloc _) ⟨w3.heap.size + 1, 0, none⟩ 1 1 [.int .i64 (c' : Nat), .int .i64 (p2 : Nat)] rfl rfl (two_at _ _ _ _ _ (by simp)) two_one (by unfold maxLen; omega) (by omega) (Nat.le_trans hnx3.size (by simp; omega)) ?_; intro v' w5 hown5 hgrow5 _ hat5)
                    go_roundw
                    case rel =>
                      have st := app_step (S := wo.heap.size) ((hnx3.alloc hnx3.size _).alloc (Nat.le_trans hnx3.size (by simp)) _) (Nat.le_trans hnx3.size (by simp; omega)) ((hown3'.alloc _).alloc _) hown5 hgrow5 hat5 hne3 (by simp; omega)
                      exact ⟨k + 1, d, r, c, R' ++ [(c', p2)], _, by omega, hr, hcc, by go_num, rfl, (fun _ => rfl), st.1, HN, st.2.1⟩
                    case measure => simp [intOf]; omega
                  · have HN : Hid (R' ++ minus (B.drop (k + 1)) (A.drop d) = T) := by
                      have h1 := hR3.out
                      rw [HEA.out, cuts_stop _ _ _ _ hb1, cuts_no _ _ hfin, List.append_nil] at h1
                      exact h1
                    clear hR3
                    go_wp2
                    go_roundw
                    case rel => exact ⟨k + 1, d, r, c, R', _, by omega, hr, hcc, by go_num, rfl, (fun _ => rfl), World.ownsRow.alloc hown3' _, HN, hnx3.alloc hnx3.size _⟩
                    case measure => simp [intOf]; omega
                · by_cases hb2 : c' < q3
                  · have HN : Hid (R' ++ [(c', q3)] ++ cuts q4 p2 (A.drop (d + (j + 1))) ++ minus (B.drop (k + 1)) (A.drop d) = T) := by
                      have h1 := hR3.out
                      rw [HEA.out, cuts_add _ _ _ _ hb1 hb2] at h1
                      show _ = _
                      simpa [Nat.add_assoc] using h1
                    clear hR3 HEA
                    go_wp2_with (at_builtin; refine wpList_append_own_at _ rfl (.tmp 48) (.tmp 53) 54 rfl w.heap.size 31 i0 (.agg #[.int .i64 0, .int .i64 0]) 2 16 Yba.underlying54 hi hz0 hz1 hz2 rfl (by decide) _ _ _ rfl ((hown3'.alloc _).alloc _) ⟨w3.heap.size + 1, 0, none⟩ 1 1 [.int .i64 (c' : Nat), .int .i64 (q3 : Nat)] rfl rfl (two_at _ _ _ _ _ (by simp)) two_one (by unfold maxLen; omega) (by omega) (Nat.le_trans hnx3.size (by simp; omega)) ?_; intro v' w5 hown5 hgrow5 _ hat5; have hcq : w5.cell? ⟨w3.heap.size, 1, none⟩ = some (.int .i64 q4) := hgrow5.cell (by go_simp) (fun e => absurd (hown3'.lt _ e.symm).2 (Nat.lt_irrefl _)))
                    go_roundw
                    case rel =>
                      have st := app_step (S := wo.heap.size) ((hnx3.alloc hnx3.size _).alloc (Nat.le_trans hnx3.size (by simp)) _) (Nat.le_trans hnx3.size (by simp; omega)) ((hown3'.alloc _).alloc _) hown5 hgrow5 hat5 hne3 (by simp; omega)
                      exact ⟨j + 1, q4, R' ++ [(c', q3)], by omega, by go_num, rfl, st.1, HN, st.2.1, st.2.2.1, st.2.2.2.1, by rw [st.2.2.2.2]; go_simp⟩
                    case measure => simp [intOf]; omega
                  · have HN : Hid (R' ++ cuts q4 p2 (A.drop (d + (j + 1))) ++ minus (B.drop (k + 1)) (A.drop d) = T) := by
                      have h1 := hR3.out
                      rw [HEA.out, cuts_pass _ _ _ _ hb1 hb2] at h1
                      exact h1
                    clear hR3 HEA
                    go_wp2
                    go_roundw
                    case rel => exact ⟨j + 1, q4, R', by omega, by go_num, rfl, World.ownsRow.alloc hown3' _, HN, hnx3.alloc hnx3.size _, hne3, by simp; omega, by go_simp⟩
                    case measure => simp [intOf]; omega
              · obtain rfl : r = j := by omega
                have hdr : A.drop (d + r) = [] := by rw [List.drop_eq_nil_iff, HlA.out]; omega
                have HDR : Hid (A.drop (d + r) = []) := hdr
                clear hdr
                by_cases hfin : c' < p2
                · have HN : Hid (R' ++ [(c', p2)] ++ minus (B.drop (k + 1)) (A.drop d) = T) := by
                    have h1 := hR3.out
                    rw [HDR.out, cuts_last _ _ hfin] at h1
                    exact h1
                  clear hR3
                  go_wp2_with (at_builtin; refine wpList_append_own_at _ rfl (.tmp 62) (.tmp 67) 54 rfl w.heap.size 31 i0 (.agg #[.int .i64 0, .int .i64 0]) 2 16 Yba.underlying54 hi hz0 hz1 hz2 rfl (by decide) _ _ _ rfl (hown3'.alloc _) ⟨w3.heap.size, 0, none⟩ 1 1 [.int .i64 (c' : Nat), .int .i64 (p2 : Nat)] rfl rfl (two_at _ _ _ _ _ (by simp)) two_one (by unfold maxLen; omega) (by omega) (Nat.le_trans hnx3.size (by simp)) ?_; intro v' w5 hown5 hgrow5 _ hat5)
                  go_roundw
                  case rel =>
                    have st := app_step (S := wo.heap.size) (hnx3.alloc hnx3.size _) (Nat.le_trans hnx3.size (by simp)) (hown3'.alloc _) hown5 hgrow5 hat5 hne3 (by simp; omega)
                    exact ⟨k + 1, d, r, c, R' ++ [(c', p2)], _, by omega, hr, hcc, by go_num, rfl, (fun _ => rfl), st.1, HN, st.2.1⟩
                  case measure => simp [intOf]; omega
                · have HN : Hid (R' ++ minus (B.drop (k + 1)) (A.drop d) = T) := by
                    have h1 := hR3.out
                    rw [HDR.out, cuts_no _ _ hfin, List.append_nil] at h1
                    exact h1
                  clear hR3
                  go_wp2
                  go_roundw
                  case rel => exact ⟨k + 1, d, r, c, R', _, by omega, hr, hcc, by go_num, rfl, (fun _ => rfl), hown3', HN, hnx3⟩
                  case measure => simp [intOf]; omega
        · obtain rfl : r = 0 := by omega
          have hdr : A.drop d = [] := by rw [List.drop_eq_nil_iff, HlA.out]; omega
          have HR3 : Hid (R ++ cuts p1 p2 (A.drop d) ++ minus (B.drop (k + 1)) (A.drop d) = T) := by
            have h1 := hR.out
            rw [HEB.out, hdr, minus_none] at h1
            rw [hdr, List.append_assoc]; exact h1
          have HDR : Hid (A.drop d = []) := hdr
          clear hdr hR hc1 hc2 hao
          go_wp2
          go_quiet (fail)
          go_wp2
          go_loopw [5, 8, 10, 35] (fun rv lv _ iv w3 => iv = .int .i64 0 ∧ lv = .int .i64 p1 ∧ SpV w3 w.heap.size rv R ∧ 
                Below w.heap.size w w3 ∧ rv.ownBlock ≠ some wo.heap.size ∧ wo.heap.size < w3.heap.size ∧ w3.cell? ⟨wo.heap.size, 1, none⟩ = some (.int .i64 p2)) (fun _ _ _ _ _ => 0)
          case atStart => exact ⟨rfl, rfl, World.ownsRow.alloc hown _, below_drewN hb0 _, (fun e => by have := (World.ownsRow.lt hown _ e).2; omega), (by simp), (by go_simp)⟩
          case round =>
            clear hown
            obtain ⟨rfl, rfl, hown3, hnx3, hne3, hsz3, hs1⟩ := hrel
            obtain ⟨w3, rfl⟩ : ∃ w3 : World, w3 = wr := ⟨_, rfl⟩
            have hRl : R.length ≤ 100000 := by have := congrArg List.length HR3.out; simp only [List.length_append] at this; omega
            have hown3' : w3.ownsRow w.heap.size 31 2 _ R.length (spCells R) := hown3
            have hR3 := HR3
            clear hown3 HR3
            by_cases hfin : p1 < p2
            · have HN : Hid (R ++ [(p1, p2)] ++ minus (B.drop (k + 1)) (A.drop d) = T) := by
                have h1 := hR3.out
                rw [HDR.out, cuts_last _ _ hfin] at h1
                show _ = _
                rw [HDR.out]
                exact h1
              clear hR3
              go_wp2_with (at_builtin; refine wpList_append_own_at _ rfl (.tmp 62) (.tmp 67) 54 rfl w.heap.size 31 i0 (.agg #[.int .i64 0, .int .i64 0]) 2 16 Yba.underlying54 hi hz0 hz1 hz2 rfl (by decide) _ _ _ rfl (hown3'.alloc _) ⟨w3.heap.size, 0, none⟩ 1 1 [.int .i64 (p1 : Nat), .int .i64 (p2 : Nat)] rfl rfl (two_at _ _ _ _ _ (by simp)) two_one (by unfold maxLen; omega) (by omega) (Nat.le_trans hnx3.size (by simp)) ?_; intro v' w5 hown5 hgrow5 _ hat5)
              go_roundw
              case rel =>
                have st := app_step (S := wo.heap.size) (hnx3.alloc hnx3.size _) (Nat.le_trans hnx3.size (by simp)) (hown3'.alloc _) hown5 hgrow5 hat5 hne3 (by simp; omega)
                exact ⟨k + 1, d, 0, c, R ++ [(p1, p2)], _, by omega, hr, hcc, by go_num, rfl, (fun h => absurd h (by decide)), st.1, HN, st.2.1⟩
              case measure => simp [intOf]; omega
            · have HN : Hid (R ++ minus (B.drop (k + 1)) (A.drop d) = T) := by
                have h1 := hR3.out
                rw [HDR.out, cuts_no _ _ hfin, List.append_nil] at h1
                show _ = _
                rw [HDR.out]
                exact h1
              clear hR3
              go_wp2
              go_roundw
              case rel => exact ⟨k + 1, d, 0, c, R, _, by omega, hr, hcc, by go_num, rfl, (fun h => absurd h (by decide)), hown3', HN, hnx3⟩
              case measure => simp [intOf]; omega
    · obtain rfl : lB = k := by omega
      go_wp2
      go_ret
      have h1 := hR.out
      have e : B.drop lB = [] := by rw [List.drop_eq_nil_iff, HlB.out]; exact Nat.le_refl _
      rw [e] at h1
      simp only [minus, List.append_nil] at h1
      subst h1
      exact ⟨_, rfl, hown, hnx⟩
theorem minus_noB (bo : Option Addr) (cB : Nat) (va : Value) (w : World) (base : Nat) :
    Calls Yba.prog 21 #[.slice bo 0 cB, va] w fun e w' => ∃ v, e = .returned v ∧ SpV w' base v [] ∧ Below w.heap.size w w' := by
  go_enter Yba.func21, Yba.ntmps21
  go_wp2
  go_loop [1, 5, 13] (fun av rv i => av = va ∧ rv = .slice none 0 0 ∧ i = .int .i64 0) (fun _ _ _ => 0)
  case atStart => exact ⟨rfl, rfl, rfl⟩
  case round =>
    obtain ⟨rfl, rfl, rfl⟩ := hrel
    go_wp2
    go_ret
    exact ⟨_, rfl, World.ownsRow_nil _ _ _ _, Below.refl _ _⟩

theorem spAt_of {w : World} {base g n cap : Nat} {L : List (Nat × Nat)} (h : w.ownsRow base 31 2 (.slice (some ⟨g, 0, none⟩) n cap) n (spCells L)) (hn : L.length = n) : SpAt w g L := by
  intro j hj
  have e := spCells_at L j hj
  have e1 : 2 * j = j * 2 := by omega
  rw [e1] at e
  exact ⟨(h.cellAt (j * 2) (by omega)).trans e.1, (h.cellAt (j * 2 + 1) (by omega)).trans e.2⟩

theorem minus_any (bb ba : Nat) (vb va : Value) (B A : List (Nat × Nat)) (w : World) (hb : SpV w bb vb B) (ha : SpV w ba va A) (hlB : B.length ≤ 300) (hlA : A.length ≤ 300) :
    Calls Yba.prog 21 #[vb, va] w fun e w' => ∃ v, e = .returned v ∧ SpV w' w.heap.size v (minus B A) ∧ Below w.heap.size w w' := by
  by_cases hB0 : B.length = 0
  · obtain rfl := List.eq_nil_of_length_eq_zero hB0
    rcases hb.2 with ⟨rfl, _⟩ | ⟨g, cap, cur, rfl, _⟩
    · exact minus_noB _ _ va w _
    · exact minus_noB _ _ va w _
  · rcases hb.2 with ⟨_, h⟩ | ⟨gb, cB, curB, rfl, hb'⟩
    · exact absurd h hB0
    · have hB := spAt_of hb rfl
      rcases ha.2 with ⟨rfl, h⟩ | ⟨ga, cA, curA, rfl, _, _, hcA, _⟩
      · obtain rfl := List.eq_nil_of_length_eq_zero h
        exact minus_both gb cB 0 0 none B [] w hB (fun j hj => by simp at hj) hlB hlA (Nat.le_refl _) (fun h => by simp at h)
      · exact minus_both gb cB ga cA _ B A w hB (spAt_of ha rfl) hlB hlA hcA (fun _ => rfl)
end Go.Proofs.Ybulkamao
