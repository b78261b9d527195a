/-
  The walk of 'nodeSet.eachWord' (22) over spans, with the closures of 'holdsAll' (23, 24).
-/
import Derived.Test.YbulkamaoEach
namespace Go.Proofs.Ybulkamao
open Go.RowKit

theorem chunk_eq (c h : Nat) : IntKind.u64.wrap (18446744073709551615 / 2 ^ (64 - (h - c)) * 2 ^ (c % 64)) = ((chunkN c h : Nat) : Int) := by
  rw [IntKind.wrap_u64]; unfold chunkN; simp
theorem so_chunk1 {b0 b : Bool} {X : Nat → Nat} {M : Nat → Prop} {p1 c h x y z : Nat} (hs : Sofar b0 (fun i => M i ∨ (p1 ≤ i ∧ i < c)) (fun i => memX X i) b) (hx : X (c / 64) = x) (hxb : x < 18446744073709551616) (hch : c < h) (h2 : h ≤ (c / 64 + 1) * 64) (hp : p1 ≤ c)
    (hy : chunkN c h = y) (hz : y &&& (18446744073709551615 - x) = z) (cc : Bool) (hcc : cc = (b && decide (z = 0))) : Sofar b0 (fun i => M i ∨ (p1 ≤ i ∧ i < h)) (fun i => memX X i) cc := by
  have hm := hs.more (ok_sub X (chunkN c h) (c / 64) (by rw [hx]; exact hxb))
  rw [hx, hy, hz] at hm
  rw [hcc]
  refine hm.congr (fun i => ?_)
  rw [← hy, chunk_more c h i hch h2]
  constructor
  · rintro (h | h)
    · exact .inl (.inl h)
    · by_cases e : i < c
      · exact .inl (.inr ⟨h.1, e⟩)
      · exact .inr ⟨by omega, h.2⟩
  · rintro ((h | h) | h)
    · exact .inl h
    · exact .inr ⟨h.1, by omega⟩
    · exact .inr ⟨by omega, h.2⟩
theorem so_chunk2 {b0 b : Bool} {X : Nat → Nat} {M : Nat → Prop} {p1 c h x y z : Nat} (hs : Sofar b0 (fun i => M i ∨ (p1 ≤ i ∧ i < c)) (fun i => ¬ memX X i) b) (hx : X (c / 64) = x) (_hxb : x < 18446744073709551616) (hch : c < h) (h2 : h ≤ (c / 64 + 1) * 64) (hp : p1 ≤ c)
    (hy : chunkN c h = y) (hz : y &&& x = z) (cc : Bool) (hcc : cc = (b && decide (z = 0))) : Sofar b0 (fun i => M i ∨ (p1 ≤ i ∧ i < h)) (fun i => ¬ memX X i) cc := by
  have hm := hs.more (ok_off X (chunkN c h) (c / 64) (chunkN_lt c h))
  rw [hx, hy, hz] at hm
  rw [hcc]
  refine hm.congr (fun i => ?_)
  rw [← hy, chunk_more c h i hch h2]
  constructor
  · rintro (h | h)
    · exact .inl (.inl h)
    · by_cases e : i < c
      · exact .inl (.inr ⟨h.1, e⟩)
      · exact .inr ⟨by omega, h.2⟩
  · rintro ((h | h) | h)
    · exact .inl h
    · exact .inr ⟨h.1, by omega⟩
    · exact .inr ⟨by omega, h.2⟩

set_option maxHeartbeats 2000000 in
theorem each_spans1 (A Bs P gx m Q gl cL : Nat) (X : Nat → Nat) (L : List (Nat × Nat)) (b0 : Bool) (w : World) (henv : Env w A Bs P gx m X) (hX : ∀ j, X j < 18446744073709551616)
    (ha : w.cell? ⟨A, 0, none⟩ = some (.bool b0)) (hf : w.frozen? ⟨A, 0, none⟩ = false) (hq0 : w.cell? ⟨Q, 0, none⟩ = some (.slice (some ⟨gl, 0, none⟩) L.length cL)) (hq1 : w.cell? ⟨Q, 1, none⟩ = some (.slice none 0 0))
    (hL : SpAt w gl L) (hlL : L.length ≤ 100000) (hfull : ∀ p ∈ L, p.1 < p.2 ∧ p.2 ≤ 64 * m) (hAl : A ≠ gl) (hm2 : m ≤ 4096) (hAw : A < w.heap.size) :
    Calls Yba.prog 22 #[.pointer (some ⟨Q, 0, none⟩), .func (.func 23) #[] #[.pointer (some ⟨A, 0, none⟩), .pointer (some ⟨Bs, 0, none⟩)]] w fun e w' => e = .returned (.tuple #[]) ∧
      AllIs w w' A b0 (fun i => memL L i) (fun i => memX X i) := by
  obtain ⟨lL, elL⟩ : ∃ lL, L.length = lL := ⟨_, rfl⟩
  rw [elL] at hq0 hlL
  have HlL : Hid (L.length = lL) := elL
  clear elL
  go_enter Yba.func22, Yba.ntmps22
  go_wp2
  go_loop [4, 5, 16] (fun _ _ i => i = .int .i64 0) (fun _ _ _ => 0)
  case atStart => rfl
  case round =>
    subst hrel
    go_wp2
    go_loopw [7, 8, 9, 10, 33] (fun _ _ _ _ i wr => ∃ (k : Nat) (b : Bool), k ≤ lL ∧ i = .int .i64 k ∧ wr.cell? ⟨A, 0, none⟩ = some (.bool b) ∧ wr.frozen? ⟨A, 0, none⟩ = false ∧ Sofar b0 (fun i => memL (L.take k) i) (fun i => memX X i) b ∧ w.grownBy wr (some A)) (fun _ _ _ _ i _ => lL - (intOf i).toNat)
    case atStart => exact ⟨0, b0, Nat.zero_le _, rfl, ha, hf, Sofar.start _ _ _ (fun i h => absurd h (by simpa using memL_nil i)), World.grownBy.refl _ _⟩
    case round =>
      obtain ⟨k, b, hk, rfl, hca, hfa, hso, hg⟩ := hrel
      by_cases hlt : k < lL
      · have hpl : k < L.length := by rw [HlL.out]; exact hlt
        obtain ⟨p1, p2, ep, _⟩ := drop_at L k hpl
        have hc1 := hg.cell (hL k hpl).1 (fun e => hAl (Option.some.inj e).symm)
        have hc2 := hg.cell (hL k hpl).2 (fun e => hAl (Option.some.inj e).symm)
        have hpf := hfull L[k] (List.getElem_mem hpl)
        rw [ep] at hc1 hc2 hpf
        have HP : Hid (L.take (k + 1) = L.take k ++ [(p1, p2)]) := by
          have := List.take_succ_eq_append_getElem hpl
          rw [ep] at this; exact this
        clear ep hpl
        simp only at hpf
        obtain ⟨hpf1, hpf2⟩ := hpf
        have HS : Hid (Sofar b0 (fun i => memL (L.take k) i) (fun i => memX X i) b) := hso
        clear hso
        obtain ⟨wo, rfl⟩ : ∃ wo : World, wo = wr := ⟨_, rfl⟩
        have hAo : A < wo.heap.size := Nat.lt_of_lt_of_le hAw hg.size
        go_wp2
        go_loopw [8, 9, 10] (fun lv _ _ w2 => ∃ (c : Nat) (b : Bool), p1 ≤ c ∧ c ≤ p2 ∧ lv = .int .i64 c ∧ w2.cell? ⟨A, 0, none⟩ = some (.bool b) ∧ w2.frozen? ⟨A, 0, none⟩ = false ∧ Sofar b0 (fun i => memL (L.take k) i ∨ (p1 ≤ i ∧ i < c)) (fun i => memX X i) b ∧ w.grownBy w2 (some A) ∧ w2.cell? ⟨wo.heap.size, 1, none⟩ = some (.int .i64 p2)) (fun lv _ _ _ => p2 - (intOf lv).toNat)
        case atStart => exact ⟨p1, b, Nat.le_refl _, by omega, rfl, by go_simp, by go_simp, (HS.out).congr (fun i => by simp; omega), hg.trans (World.grownBy_alloc _ _ _), by go_simp⟩
        case round =>
          clear hca hfa HS
          obtain ⟨c, b, hc1', hc2', rfl, hca, hfa, hso, hg2, hs1⟩ := hrel
          have HS : Hid (Sofar b0 (fun i => memL (L.take k) i ∨ (p1 ≤ i ∧ i < c)) (fun i => memX X i) b) := hso
          clear hso
          by_cases hcp : c < p2
          · obtain ⟨e1, e2, e3, _, _, _⟩ := henv.grown hg2
            have hcx := e3.cell (i := c / 64) (by omega)
            obtain ⟨x, hx⟩ : ∃ x, X (c / 64) = x := ⟨_, rfl⟩
            have hxb := hX (c / 64)
            simp only [hx] at hcx hxb
            have HX : Hid (X (c / 64) = x) := hx
            clear hx
            by_cases hmin : p2 ≤ (c / 64 + 1) * 64
            · have hche := chunk_eq c p2
              have hyb := chunkN_lt c p2
              obtain ⟨y, hy⟩ : ∃ y, chunkN c p2 = y := ⟨_, rfl⟩
              rw [hy] at hche hyb
              have HY : Hid (chunkN c p2 = y) := hy
              clear hy
              have hop := u64_andNot_nat y x hyb hxb
              obtain ⟨z, hz⟩ : ∃ z, y &&& (18446744073709551615 - x) = z := ⟨_, rfl⟩
              rw [hz] at hop
              have HZ : Hid (y &&& (18446744073709551615 - x) = z) := hz
              clear hz
              cases b
              · go_wp2
                go_end0
                go_wp2
                go_roundw
                case rel => exact ⟨p2, _, by omega, by omega, by rfl, by go_simp, by go_simp, so_chunk1 HS.out HX.out hxb (by omega) (by omega) hc1' HY.out HZ.out false rfl, hg2.trans (grown_set _ _ _ _), by go_simp⟩
                case measure => simp [intOf]; omega
              · go_wp2
                go_end0
                go_wp2
                go_roundw
                case rel => exact ⟨p2, _, by omega, by omega, by rfl, by go_simp, by go_simp, so_chunk1 HS.out HX.out hxb (by omega) (by omega) hc1' HY.out HZ.out _ (zero_dec z), hg2.trans (grown_set _ _ _ _), by go_simp⟩
                case measure => simp [intOf]; omega
            · have hche := chunk_eq c ((c / 64 + 1) * 64)
              have hyb := chunkN_lt c ((c / 64 + 1) * 64)
              obtain ⟨y, hy⟩ : ∃ y, chunkN c ((c / 64 + 1) * 64) = y := ⟨_, rfl⟩
              rw [hy] at hche hyb
              have HY : Hid (chunkN c ((c / 64 + 1) * 64) = y) := hy
              clear hy
              have hop := u64_andNot_nat y x hyb hxb
              obtain ⟨z, hz⟩ : ∃ z, y &&& (18446744073709551615 - x) = z := ⟨_, rfl⟩
              rw [hz] at hop
              have HZ : Hid (y &&& (18446744073709551615 - x) = z) := hz
              clear hz
              cases b
              · go_wp2
                go_end0
                go_wp2
                go_roundw
                case rel => exact ⟨((c / 64 + 1) * 64), _, by omega, by omega, by go_num, by go_simp, by go_simp, so_chunk1 HS.out HX.out hxb (by omega) (by omega) hc1' HY.out HZ.out false rfl, hg2.trans (grown_set _ _ _ _), by go_simp⟩
                case measure => simp [intOf]; omega
              · go_wp2
                go_end0
                go_wp2
                go_roundw
                case rel => exact ⟨((c / 64 + 1) * 64), _, by omega, by omega, by go_num, by go_simp, by go_simp, so_chunk1 HS.out HX.out hxb (by omega) (by omega) hc1' HY.out HZ.out _ (zero_dec z), hg2.trans (grown_set _ _ _ _), by go_simp⟩
                case measure => simp [intOf]; omega
          · obtain rfl : p2 = c := by omega
            go_wp2
            go_roundw
            case rel => exact ⟨k + 1, b, by omega, by go_num, hca, hfa, (HS.out).congr (fun i => by rw [HP.out, memL_append, memL_cons]; have := memL_nil i; simp only [this, or_false]), hg2⟩
            case measure => simp [intOf]; omega
      · obtain rfl : lL = k := by omega
        go_wp2
        go_end0
        have e : L.take lL = L := List.take_of_length_le (by rw [HlL.out]; exact Nat.le_refl _)
        rw [e] at hso
        exact ⟨rfl, AllIs.mk b hca hfa hso hg⟩
set_option maxHeartbeats 2000000 in
theorem each_spans2 (A Bs P gx m Q gl cL : Nat) (X : Nat → Nat) (L : List (Nat × Nat)) (b0 : Bool) (w : World) (henv : Env w A Bs P gx m X) (hX : ∀ j, X j < 18446744073709551616)
    (ha : w.cell? ⟨A, 0, none⟩ = some (.bool b0)) (hf : w.frozen? ⟨A, 0, none⟩ = false) (hq0 : w.cell? ⟨Q, 0, none⟩ = some (.slice (some ⟨gl, 0, none⟩) L.length cL)) (hq1 : w.cell? ⟨Q, 1, none⟩ = some (.slice none 0 0))
    (hL : SpAt w gl L) (hlL : L.length ≤ 100000) (hfull : ∀ p ∈ L, p.1 < p.2 ∧ p.2 ≤ 64 * m) (hAl : A ≠ gl) (hm2 : m ≤ 4096) (hAw : A < w.heap.size) :
    Calls Yba.prog 22 #[.pointer (some ⟨Q, 0, none⟩), .func (.func 24) #[] #[.pointer (some ⟨A, 0, none⟩), .pointer (some ⟨Bs, 0, none⟩)]] w fun e w' => e = .returned (.tuple #[]) ∧
      AllIs w w' A b0 (fun i => memL L i) (fun i => ¬ memX X i) := by
  obtain ⟨lL, elL⟩ : ∃ lL, L.length = lL := ⟨_, rfl⟩
  rw [elL] at hq0 hlL
  have HlL : Hid (L.length = lL) := elL
  clear elL
  go_enter Yba.func22, Yba.ntmps22
  go_wp2
  go_loop [4, 5, 16] (fun _ _ i => i = .int .i64 0) (fun _ _ _ => 0)
  case atStart => rfl
  case round =>
    subst hrel
    go_wp2
    go_loopw [7, 8, 9, 10, 33] (fun _ _ _ _ i wr => ∃ (k : Nat) (b : Bool), k ≤ lL ∧ i = .int .i64 k ∧ wr.cell? ⟨A, 0, none⟩ = some (.bool b) ∧ wr.frozen? ⟨A, 0, none⟩ = false ∧ Sofar b0 (fun i => memL (L.take k) i) (fun i => ¬ memX X i) b ∧ w.grownBy wr (some A)) (fun _ _ _ _ i _ => lL - (intOf i).toNat)
    case atStart => exact ⟨0, b0, Nat.zero_le _, rfl, ha, hf, Sofar.start _ _ _ (fun i h => absurd h (by simpa using memL_nil i)), World.grownBy.refl _ _⟩
    case round =>
      obtain ⟨k, b, hk, rfl, hca, hfa, hso, hg⟩ := hrel
      by_cases hlt : k < lL
      · have hpl : k < L.length := by rw [HlL.out]; exact hlt
        obtain ⟨p1, p2, ep, _⟩ := drop_at L k hpl
        have hc1 := hg.cell (hL k hpl).1 (fun e => hAl (Option.some.inj e).symm)
        have hc2 := hg.cell (hL k hpl).2 (fun e => hAl (Option.some.inj e).symm)
        have hpf := hfull L[k] (List.getElem_mem hpl)
        rw [ep] at hc1 hc2 hpf
        have HP : Hid (L.take (k + 1) = L.take k ++ [(p1, p2)]) := by
          have := List.take_succ_eq_append_getElem hpl
          rw [ep] at this; exact this
        clear ep hpl
        simp only at hpf
        obtain ⟨hpf1, hpf2⟩ := hpf
        have HS : Hid (Sofar b0 (fun i => memL (L.take k) i) (fun i => ¬ memX X i) b) := hso
        clear hso
        obtain ⟨wo, rfl⟩ : ∃ wo : World, wo = wr := ⟨_, rfl⟩
        have hAo : A < wo.heap.size := Nat.lt_of_lt_of_le hAw hg.size
        go_wp2
        go_loopw [8, 9, 10] (fun lv _ _ w2 => ∃ (c : Nat) (b : Bool), p1 ≤ c ∧ c ≤ p2 ∧ lv = .int .i64 c ∧ w2.cell? ⟨A, 0, none⟩ = some (.bool b) ∧ w2.frozen? ⟨A, 0, none⟩ = false ∧ Sofar b0 (fun i => memL (L.take k) i ∨ (p1 ≤ i ∧ i < c)) (fun i => ¬ memX X i) b ∧ w.grownBy w2 (some A) ∧ w2.cell? ⟨wo.heap.size, 1, none⟩ = some (.int .i64 p2)) (fun lv _ _ _ => p2 - (intOf lv).toNat)
        case atStart => exact ⟨p1, b, Nat.le_refl _, by omega, rfl, by go_simp, by go_simp, (HS.out).congr (fun i => by simp; omega), hg.trans (World.grownBy_alloc _ _ _), by go_simp⟩
        case round =>
          clear hca hfa HS
          obtain ⟨c, b, hc1', hc2', rfl, hca, hfa, hso, hg2, hs1⟩ := hrel
          have HS : Hid (Sofar b0 (fun i => memL (L.take k) i ∨ (p1 ≤ i ∧ i < c)) (fun i => ¬ memX X i) b) := hso
          clear hso
          by_cases hcp : c < p2
          · obtain ⟨e1, e2, e3, _, _, _⟩ := henv.grown hg2
            have hcx := e3.cell (i := c / 64) (by omega)
            obtain ⟨x, hx⟩ : ∃ x, X (c / 64) = x := ⟨_, rfl⟩
            have hxb := hX (c / 64)
            simp only [hx] at hcx hxb
            have HX : Hid (X (c / 64) = x) := hx
            clear hx
            by_cases hmin : p2 ≤ (c / 64 + 1) * 64
            · have hche := chunk_eq c p2
              have hyb := chunkN_lt c p2
              obtain ⟨y, hy⟩ : ∃ y, chunkN c p2 = y := ⟨_, rfl⟩
              rw [hy] at hche hyb
              have HY : Hid (chunkN c p2 = y) := hy
              clear hy
              have hop := u64_and_nat y x hyb hxb
              obtain ⟨z, hz⟩ : ∃ z, y &&& x = z := ⟨_, rfl⟩
              rw [hz] at hop
              have HZ : Hid (y &&& x = z) := hz
              clear hz
              cases b
              · go_wp2
                go_end0
                go_wp2
                go_roundw
                case rel => exact ⟨p2, _, by omega, by omega, by rfl, by go_simp, by go_simp, so_chunk2 HS.out HX.out hxb (by omega) (by omega) hc1' HY.out HZ.out false rfl, hg2.trans (grown_set _ _ _ _), by go_simp⟩
                case measure => simp [intOf]; omega
              · go_wp2
                go_end0
                go_wp2
                go_roundw
                case rel => exact ⟨p2, _, by omega, by omega, by rfl, by go_simp, by go_simp, so_chunk2 HS.out HX.out hxb (by omega) (by omega) hc1' HY.out HZ.out _ (zero_dec z), hg2.trans (grown_set _ _ _ _), by go_simp⟩
                case measure => simp [intOf]; omega
            · have hche := chunk_eq c ((c / 64 + 1) * 64)
              have hyb := chunkN_lt c ((c / 64 + 1) * 64)
              obtain ⟨y, hy⟩ : ∃ y, chunkN c ((c / 64 + 1) * 64) = y := ⟨_, rfl⟩
              rw [hy] at hche hyb
              have HY : Hid (chunkN c ((c / 64 + 1) * 64) = y) := hy
              clear hy
              have hop := u64_and_nat y x hyb hxb
              obtain ⟨z, hz⟩ : ∃ z, y &&& x = z := ⟨_, rfl⟩
              rw [hz] at hop
              have HZ : Hid (y &&& x = z) := hz
              clear hz
              cases b
              · go_wp2
                go_end0
                go_wp2
                go_roundw
                case rel => exact ⟨((c / 64 + 1) * 64), _, by omega, by omega, by go_num, by go_simp, by go_simp, so_chunk2 HS.out HX.out hxb (by omega) (by omega) hc1' HY.out HZ.out false rfl, hg2.trans (grown_set _ _ _ _), by go_simp⟩
                case measure => simp [intOf]; omega
              · go_wp2
                go_end0
                go_wp2
                go_roundw
                case rel => exact ⟨((c / 64 + 1) * 64), _, by omega, by omega, by go_num, by go_simp, by go_simp, so_chunk2 HS.out HX.out hxb (by omega) (by omega) hc1' HY.out HZ.out _ (zero_dec z), hg2.trans (grown_set _ _ _ _), by go_simp⟩
                case measure => simp [intOf]; omega
          · obtain rfl : p2 = c := by omega
            go_wp2
            go_roundw
            case rel => exact ⟨k + 1, b, by omega, by go_num, hca, hfa, (HS.out).congr (fun i => by rw [HP.out, memL_append, memL_cons]; have := memL_nil i; simp only [this, or_false]), hg2⟩
            case measure => simp [intOf]; omega
      · obtain rfl : lL = k := by omega
        go_wp2
        go_end0
        have e : L.take lL = L := List.take_of_length_le (by rw [HlL.out]; exact Nat.le_refl _)
        rw [e] at hso
        exact ⟨rfl, AllIs.mk b hca hfa hso hg⟩
/-- No spans, no words: nothing is asked. -/
theorem each_none (f : Value) (Q cL : Nat) (ao : Option Addr) (w : World) (hq0 : w.cell? ⟨Q, 0, none⟩ = some (.slice ao 0 cL)) (hq1 : w.cell? ⟨Q, 1, none⟩ = some (.slice none 0 0)) :
    Calls Yba.prog 22 #[.pointer (some ⟨Q, 0, none⟩), f] w fun e w' => e = .returned (.tuple #[]) ∧ w' = w := by
  go_enter Yba.func22, Yba.ntmps22
  go_wp2
  go_loop [4, 5, 16] (fun _ _ i => i = .int .i64 0) (fun _ _ _ => 0)
  case atStart => rfl
  case round =>
    subst hrel
    go_wp2
    go_loop [7, 8, 9, 10, 33] (fun _ _ _ _ i => i = .int .i64 0) (fun _ _ _ _ _ => 0)
    case atStart => rfl
    case round =>
      subst hrel
      go_wp2
      go_end0
      exact ⟨rfl, rfl⟩
end Go.Proofs.Ybulkamao
