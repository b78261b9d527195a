/-
  'Rows.LawS1882BModelCardSaid': the row's step, the row, the tied card.
-/
import Derived.Test.YbulkalykDoorRows
import Derived.Test.YbulkalykDoorTie
import Derived.Test.YbulkalykDoorCards
import Derived.Test.YbulkalykDoorFrame
import Derived.Test.YbulkalykDoorJoin
import Derived.SevenTiedAt
namespace Go.Proofs.YbulkalykDoor.lawS1882BModel
open Go.ChangeShapes Go.WideShapes Go.ChangeAt Go.RowKit Go.Proofs.YbulkalykDoor.Plain

theorem byte_bd {zs : List Int} (h : ∀ n ∈ zs, (Lit.int .u8 n).wf = true) (k : Nat) : 0 ≤ zs.getD k 0 ∧ zs.getD k 0 ≤ 255 := by
  by_cases hk : k < zs.length
  · have := bounds_u8 (h (zs.getD k 0) (by simp [List.getD, hk]))
    omega
  · simp [List.getD, List.getElem?_eq_none (by omega : zs.length ≤ k)]

set_option maxRecDepth 100000 in
theorem lifted (os : Os) (started : os.Started) (H : Type) (enc : TypeId × Value → H) :
    ReturnsInHanded {} Ybad.checked os 4 .any (fun w args => (Rows.lawS1882BModelSpec.pre enc Ybad.prog Ybad.f4 [] false w args ∧ laidMetH Ybad.prog tabLaid w) ∧ sizedMet enc Ybad.prog Ybad.f4 (OpenSpec.ofChange Rows.lawS1882BModelSpec) false w args)
      (Rows.lawS1882BModelSpec.post enc Ybad.prog Ybad.f4 false true false false) := by
  refine returnsInHanded_of_change_and (C := Ybad.checked) (X := fun w _ => laidMetH Ybad.prog tabLaid w) (fun _ _ _ hh h => h.of_heap hh) own started (by kernel_rfl) Ybad.func4
    (ChangeSpec.witness_shaped (enc := enc) (C := Ybad.checked) (os := os) (X := fun w _ => laidMetH Ybad.prog tabLaid w) false (World.doorLaid Ybad.prog 400 os) #[.slice none 0 0, .int .u32 0] 8 rfl (World.shaped_of_RefB (by kernel_rfl) (by kernel_rfl)) (by kernel_rfl) (by kernel_rfl) (by kernel_rfl) (door_met os _)) ?_
  intro W base args ds gs before hval0 hW _ _ hL _
  have hval : ∀ (j : Nat) t v, Ybad.f4.params[j]? = some t → args[j]? = some v → Value.okWide Ybad.prog W .any base t v := hval0
  have hW' := hW
  obtain ⟨p, q, hA0, hV0, rfl, hfz, hnd⟩ := hW
  have hA : DataW.TrodAll enc Ybad.prog W 0 (fun _ => true) true Ybad.f4.params.toList args.toList ds p := hA0
  have hV : DataW.TrodVars enc Ybad.prog W (fun _ => true) [tabName] gs q := hV0
  rw [Ybad.params4] at hA hval
  obtain ⟨v0, v1, d0, d1, p0, p1, rfl, rfl, rfl, h0, h1⟩ := trodAll_two hA
  obtain ⟨g, t, cs, fuelv, dv, pv, rfl, hg, ht, hvar, hdv, rfl⟩ := trodVars_one hV
  obtain rfl := Option.some.inj (gE.symm.trans hg)
  obtain rfl := Option.some.inj (tE.symm.trans ht)
  obtain ⟨a0, len0, cap0, rfl⟩ := okWide_slice Ybad.underlying22 (hval 0 22 v0 rfl rfl)
  have k0 := h0
  have lt0 : ∀ x ∈ p0, x.block < W.heap.size := by obtain ⟨m, hm⟩ := k0; exact DataW.trod_lt m _ _ _ hm
  have kv : DataW.Trod enc Ybad.prog W 0 (fun _ => true) true 28 (.agg cs) dv pv := ⟨fuelv, hdv⟩
  have ltv : ∀ x ∈ pv, x.block < W.heap.size := by obtain ⟨m, hm⟩ := kv; exact DataW.trod_lt m _ _ _ hm
  have hg0 : 0 < W.heap.size := by
    have hc := of_laid hL 0 (by decide)
    exact block_lt_of_cell hc
  have htab := of_laid hL
  obtain ⟨z, hz, hr, hmax⟩ : ∃ z : Nat → Int, (∀ k, 0 ≤ z k ∧ z k ≤ 255) ∧ Row8 W a0 len0 z ∧ len0 ≤ maxLen := by
    obtain ⟨fuel, hf⟩ := h0
    rcases open_ints Ybad.underlying22 Ybad.underlying5 (by kernel_rfl) hf with ⟨hcs, _⟩ | ⟨x, l, c, zs, hcs, _, hl, hm, hzl, _, hcell, hwz⟩
    · simp [Value.cells] at hcs
      obtain ⟨rfl, rfl, rfl⟩ := hcs
      exact ⟨fun _ => 0, fun _ => ⟨Int.le_refl 0, by show (0 : Int) ≤ 255; decide⟩, .inl rfl, Nat.zero_le _⟩
    · simp [Value.cells] at hcs
      obtain ⟨rfl, rfl, rfl⟩ := hcs
      have hzl' : zs.length = cap0 := by simpa using hzl
      refine ⟨fun k => zs.getD k 0, byte_bd hwz, ?_, Nat.le_trans hl hm⟩
      by_cases hpos : 0 < zs.length
      · obtain ⟨b, off, rfl, hc⟩ := ints_at hcell hpos
        exact .inr ⟨b, off, rfl, fun k hk => hc k (by omega)⟩
      · exact .inl (by omega)
  obtain ⟨a1, rfl, rfl, rfl, w1⟩ := open_int Ybad.underlying26 (hval 1 26 v1 rfl rfl) h1
  have b1 := bounds_u32 w1
  clear hA0 hV0 hval0
  refine (model_walk a0 len0 cap0 z a1 W (by omega) (by omega) hz hr (fun k => by
    have h2 := hz k
    have h3 := htab (z k).toNat (by omega)
    rw [Int.toNat_of_nonneg h2.1] at h3
    exact h3) hmax).mono fun e W' ⟨he, q, hq⟩ => ?_
  subst he
  have bel : Below W.heap.size W W' := by rw [hq]; exact below_drewN (Below.refl _ _) q
  exact ⟨_, rfl, _, _, _, [], _, _, hW', trodAll_mk1 (shut_bool Ybad.underlying4 _), trodAll_mk2 (Below.trod laidOut (by kernel_rfl) (of_decide_eq_true (by kernel_rfl)) k0 bel lt0) (shut_int Ybad.underlying26 w1),
    (by obtain ⟨f', hf'⟩ := Below.trod laidOut (by kernel_rfl) (of_decide_eq_true (by kernel_rfl)) kv bel ltv; exact trodVars_mk1 hg ht (var?_below bel hg hg0 hvar) hf'), bel.frame _, fun h => by cases h⟩

theorem over : Rows.LawS1882BModelSaid :=
  OpenClaim.holds_of_wide 4 Ybad.f4 rfl rfl rfl rfl rfl rfl rfl ⟨rfl, rfl, rfl, rfl, rfl⟩ rfl rfl rfl rfl rfl (by kernel_rfl) Ybad.func4 (by kernel_rfl)
    (of_decide_eq_true (by kernel_rfl)) (by unfold Func.isWrapper; first | (rw [if_pos (by decide +kernel)]; kernel_rfl) | (rw [if_neg (by decide +kernel)]; exact ⟨rfl, rfl⟩))
    (fun os started H enc _ => lifted os started H enc)

/-- THE STATEMENT. -/
theorem proved : Rows.LawS1882BModelCardSaid :=
  Claim7.holds_tied_plain_at .later [] [.data] true Rows.lawS1882BModelCard.stood.harness false
    over (fun _ h => by cases h) (by kernel_rfl) (fun _ h => by cases h) lawS1882BModel_row_tie rfl ⟨rfl, rfl⟩ (by kernel_rfl) rfl
    (fun f fn hf hfn => by
      obtain rfl : f = 4 := Option.some.inj ((show Ybad.prog.funcNamed Rows.lawS1882BModelRow.func = some 4 by kernel_rfl).symm.trans hf) |>.symm
      obtain rfl : fn = Ybad.f4 := (Option.some.inj (Ybad.func4.symm.trans hfn)).symm
      exact ⟨by kernel_rfl, fun j t ht => by
        rw [Ybad.params4] at ht
        have hm : t ∈ [22, 26] := by simpa using Array.mem_of_getElem? ht
        have hall : ([22, 26].all fun u => !Ybad.prog.wantsStandIn u) = true := by kernel_rfl
        exact (show Ybad.prog.wantsStandIn t = false by simpa using List.all_eq_true.1 hall t hm)⟩)
    (by kernel_rfl)
end Go.Proofs.YbulkalykDoor.lawS1882BModel
