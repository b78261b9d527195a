/-
  'Rows.LawS1882BBuiltCardSaid': the row's step, the row, the tied card.
-/
import Derived.Test.YbulkalykDoorRows
import Derived.Test.YbulkalykDoorTie
import Derived.Test.YbulkalykDoorCards
import Derived.Test.YbulkalykDoorFrame
import Derived.Test.YbulkalykDoorBuiltWalk
import Derived.SevenTiedAt
namespace Go.Proofs.YbulkalykDoor.lawS1882BBuilt
open Go.ChangeShapes Go.WideShapes Go.ChangeAt Go.RowKit Go.Proofs.YbulkalykDoor.Plain

theorem byte_bd {zs : List Int} (h : ∀ n ∈ zs, (Lit.int .u8 n).wf = true) (k : Nat) : 0 ≤ zs.getD k 0 ∧ zs.getD k 0 ≤ 255 := by
  by_cases hk : k < zs.length
  · have := bounds_u8 (h (zs.getD k 0) (by simp [List.getD, hk]))
    omega
  · simp [List.getD, List.getElem?_eq_none (by omega : zs.length ≤ k)]

/-- The law's walk, whatever the two slices. -/
theorem walk (ap ad : Option Addr) (np cp nd cd : Nat) (ps : List Int) (ds : Nat → Int) (neg : Bool) (t : Int) (w : World)
    (hpl : ps.length = np) (hpn : ap = none → np = 0 ∧ cp = 0) (hpc : ∀ ad, ap = some ad → ∀ j u, (ps.map (Value.int .u8))[j]? = some u → w.cell? (ad.add j) = some u)
    (hpb : ∀ x ∈ ps, 0 ≤ x ∧ x ≤ 255) (hds : ∀ k, 0 ≤ ds k ∧ ds k ≤ 255) (hr : Row8 w ad nd ds) (hp : np ≤ maxLen) (hd : nd ≤ maxLen)
    (ht0 : 0 ≤ t) (ht1 : t ≤ 255) (htab : ∀ c : Nat, c < 256 → w.cell? ⟨0, c, none⟩ = some (.bool (endsB (c : Int)))) :
    Calls Ybad.prog 3 #[.slice ap np cp, .bool neg, .slice ad nd cd, .int .u8 t] w fun e w' => e = .returned (.bool true) ∧ Below w.heap.size w w' := by
  by_cases hlong : 1024 < np ∨ 1024 < nd
  · exact built_long ap ad np cp nd cd neg t w hlong hp hd
  by_cases h0 : 0 < nd
  · rcases hr with h | ⟨b, off, rfl, hc⟩
    · omega
    cases neg
    · exact built_pos ap np cp ps b off nd cd ds t w hpl hpn hpc hpb (by omega) (by omega) h0 hc hds ht0 ht1 htab
    · exact built_neg ap np cp ps b off nd cd ds t w hpl hpn hpc hpb (by omega) (by omega) h0 hc hds ht0 ht1 htab
  · obtain rfl : nd = 0 := by omega
    cases neg
    · exact built_zero ap np cp ps ad cd ds t w hpl hpn hpc hpb (by omega) ht0 ht1 htab
    · exact built_minus ap np cp ps ad cd ds t w hpl hpn hpc hpb (by omega) ht0 ht1 htab

set_option maxRecDepth 100000 in
theorem lifted (os : Os) (started : os.Started) (H : Type) (enc : TypeId × Value → H) :
    ReturnsInHanded {} Ybad.checked os 3 .any (fun w args => (Rows.lawS1882BBuiltSpec.pre enc Ybad.prog Ybad.f3 [] false w args ∧ laidMetH Ybad.prog tabLaid w) ∧ sizedMet enc Ybad.prog Ybad.f3 (OpenSpec.ofChange Rows.lawS1882BBuiltSpec) false w args)
      (Rows.lawS1882BBuiltSpec.post enc Ybad.prog Ybad.f3 false true false false) := by
  refine returnsInHanded_of_change_and (C := Ybad.checked) (X := fun w _ => laidMetH Ybad.prog tabLaid w) (fun _ _ _ hh h => h.of_heap hh) own started (by kernel_rfl) Ybad.func3
    (ChangeSpec.witness_shaped (enc := enc) (C := Ybad.checked) (os := os) (X := fun w _ => laidMetH Ybad.prog tabLaid w) false (World.doorLaid Ybad.prog 400 os) #[.slice none 0 0, .bool false, .slice none 0 0, .int .u8 0] 8 rfl (World.shaped_of_RefB (by kernel_rfl) (by kernel_rfl)) (by kernel_rfl) (by kernel_rfl) (by kernel_rfl) (door_met os _)) ?_
  intro W base args ds gs before hval0 hW _ _ hL _
  have hval : ∀ (j : Nat) t v, Ybad.f3.params[j]? = some t → args[j]? = some v → Value.okWide Ybad.prog W .any base t v := hval0
  have hW' := hW
  obtain ⟨p, q, hA0, hV0, rfl, hfz, hnd⟩ := hW
  have hA : DataW.TrodAll enc Ybad.prog W 0 (fun _ => true) true Ybad.f3.params.toList args.toList ds p := hA0
  have hV : DataW.TrodVars enc Ybad.prog W (fun _ => true) [tabName] gs q := hV0
  rw [Ybad.params3] at hA hval
  obtain ⟨v0, v1, v2, v3, d0, d1, d2, d3, p0, p1, p2, p3, rfl, rfl, rfl, h0, h1, h2, h3⟩ := trodAll_four hA
  obtain ⟨g, t, cs, fuelv, dv, pv, rfl, hg, ht, hvar, hdv, rfl⟩ := trodVars_one hV
  obtain rfl := Option.some.inj (gE.symm.trans hg)
  obtain rfl := Option.some.inj (tE.symm.trans ht)
  obtain ⟨a0, len0, cap0, rfl⟩ := okWide_slice Ybad.underlying22 (hval 0 22 v0 rfl rfl)
  obtain ⟨a2, len2, cap2, rfl⟩ := okWide_slice Ybad.underlying22 (hval 2 22 v2 rfl rfl)
  have k0 := h0
  have k2 := h2
  have lt0 : ∀ x ∈ p0, x.block < W.heap.size := by obtain ⟨m, hm⟩ := k0; exact DataW.trod_lt m _ _ _ hm
  have lt2 : ∀ x ∈ p2, x.block < W.heap.size := by obtain ⟨m, hm⟩ := k2; exact DataW.trod_lt m _ _ _ hm
  have kv : DataW.Trod enc Ybad.prog W 0 (fun _ => true) true 28 (.agg cs) dv pv := ⟨fuelv, hdv⟩
  have ltv : ∀ x ∈ pv, x.block < W.heap.size := by obtain ⟨m, hm⟩ := kv; exact DataW.trod_lt m _ _ _ hm
  have hg0 : 0 < W.heap.size := by
    have hc := of_laid hL 0 (by decide)
    exact block_lt_of_cell hc
  have htab := of_laid hL
  obtain ⟨ps, hpl, hpn, hpc, hpb, hpm⟩ : ∃ ps : List Int, ps.length = len0 ∧ (a0 = none → len0 = 0 ∧ cap0 = 0) ∧ (∀ ad, a0 = some ad → ∀ j u, (ps.map (Value.int .u8))[j]? = some u → W.cell? (ad.add j) = some u) ∧ (∀ x ∈ ps, 0 ≤ x ∧ x ≤ 255) ∧ len0 ≤ maxLen := by
    obtain ⟨fuel, hf⟩ := h0
    rcases open_ints Ybad.underlying22 Ybad.underlying5 (by kernel_rfl) hf with ⟨hcs, _⟩ | ⟨x, l, c, zs, hcs, _, hl, hm, hzl, _, hcell, hwz⟩
    · simp [Value.cells] at hcs
      obtain ⟨rfl, rfl, rfl⟩ := hcs
      exact ⟨[], rfl, fun _ => ⟨rfl, rfl⟩, (fun ad h => by cases h), (fun x hx => by cases hx), Nat.zero_le _⟩
    · simp [Value.cells] at hcs
      obtain ⟨rfl, rfl, rfl⟩ := hcs
      have hzl' : zs.length = cap0 := by simpa using hzl
      refine ⟨zs.take len0, (by simp; omega), (fun h => by cases h), fun ad had j u hu => ?_, fun x hx => bounds_u8 (hwz x (List.mem_of_mem_take hx)), Nat.le_trans hl hm⟩
      obtain rfl := Option.some.inj had
      have hj : j < len0 := by have := (List.getElem?_eq_some_iff.1 hu).1; simp at this; omega
      rw [hcell j (by omega)]
      have e : ((zs.take len0).map (Value.int .u8))[j]? = some (.int .u8 (zs.getD j 0)) := by simp [List.getD, hj, show j < zs.length by omega]
      rw [e] at hu
      exact hu
  obtain ⟨z, hz, hr, hmax⟩ : ∃ z : Nat → Int, (∀ k, 0 ≤ z k ∧ z k ≤ 255) ∧ Row8 W a2 len2 z ∧ len2 ≤ maxLen := by
    obtain ⟨fuel, hf⟩ := h2
    rcases open_ints Ybad.underlying22 Ybad.underlying5 (by kernel_rfl) hf with ⟨hcs, _⟩ | ⟨x, l, c, zs, hcs, _, hl, hm, hzl, _, hcell, hwz⟩
    · simp [Value.cells] at hcs
      obtain ⟨rfl, rfl, rfl⟩ := hcs
      exact ⟨fun _ => 0, fun _ => ⟨Int.le_refl 0, by show (0 : Int) ≤ 255; decide⟩, .inl rfl, Nat.zero_le _⟩
    · simp [Value.cells] at hcs
      obtain ⟨rfl, rfl, rfl⟩ := hcs
      have hzl' : zs.length = cap2 := by simpa using hzl
      refine ⟨fun k => zs.getD k 0, byte_bd hwz, ?_, Nat.le_trans hl hm⟩
      by_cases hpos : 0 < zs.length
      · obtain ⟨b, off, rfl, hc⟩ := ints_at hcell hpos
        exact .inr ⟨b, off, rfl, fun k hk => hc k (by omega)⟩
      · exact .inl (by omega)
  obtain ⟨a1, rfl, rfl, rfl⟩ := open_bool Ybad.underlying4 (hval 1 4 v1 rfl rfl) h1
  obtain ⟨a3, rfl, rfl, rfl, w3⟩ := open_int Ybad.underlying5 (hval 3 5 v3 rfl rfl) h3
  have b3 := bounds_u8 w3
  clear hA0 hV0 hval0
  refine (walk a0 a2 len0 cap0 len2 cap2 ps z a1 a3 W hpl hpn hpc hpb hz hr hpm hmax b3.1 b3.2 htab).mono fun e W' ⟨he, bel⟩ => ?_
  subst he
  exact ⟨_, rfl, _, _, _, [], _, _, hW', trodAll_mk1 (shut_bool Ybad.underlying4 _), trodAll_mk4 (Below.trod laidOut (by kernel_rfl) (of_decide_eq_true (by kernel_rfl)) k0 bel lt0) (shut_bool Ybad.underlying4 a1) (Below.trod laidOut (by kernel_rfl) (of_decide_eq_true (by kernel_rfl)) k2 bel lt2) (shut_int Ybad.underlying5 w3),
    (by obtain ⟨f', hf'⟩ := Below.trod laidOut (by kernel_rfl) (of_decide_eq_true (by kernel_rfl)) kv bel ltv; exact trodVars_mk1 hg ht (var?_below bel hg hg0 hvar) hf'), bel.frame _, fun h => by cases h⟩

theorem over : Rows.LawS1882BBuiltSaid :=
  OpenClaim.holds_of_wide 3 Ybad.f3 rfl rfl rfl rfl rfl rfl rfl ⟨rfl, rfl, rfl, rfl, rfl⟩ rfl rfl rfl rfl rfl (by kernel_rfl) Ybad.func3 (by kernel_rfl)
    (of_decide_eq_true (by kernel_rfl)) (by unfold Func.isWrapper; first | (rw [if_pos (by decide +kernel)]; kernel_rfl) | (rw [if_neg (by decide +kernel)]; exact ⟨rfl, rfl⟩))
    (fun os started H enc _ => lifted os started H enc)

/-- THE STATEMENT. -/
theorem proved : Rows.LawS1882BBuiltCardSaid :=
  Claim7.holds_tied_plain_at .later [] [.data] true Rows.lawS1882BBuiltCard.stood.harness false
    over (fun _ h => by cases h) (by kernel_rfl) (fun _ h => by cases h) lawS1882BBuilt_row_tie rfl ⟨rfl, rfl⟩ (by kernel_rfl) rfl
    (fun f fn hf hfn => by
      obtain rfl : f = 3 := Option.some.inj ((show Ybad.prog.funcNamed Rows.lawS1882BBuiltRow.func = some 3 by kernel_rfl).symm.trans hf) |>.symm
      obtain rfl : fn = Ybad.f3 := (Option.some.inj (Ybad.func3.symm.trans hfn)).symm
      exact ⟨by kernel_rfl, fun j t ht => by
        rw [Ybad.params3] at ht
        have hm : t ∈ [22, 4, 22, 5] := by simpa using Array.mem_of_getElem? ht
        have hall : ([22, 4, 22, 5].all fun u => !Ybad.prog.wantsStandIn u) = true := by kernel_rfl
        exact (show Ybad.prog.wantsStandIn t = false by simpa using List.all_eq_true.1 hall t hm)⟩)
    (by kernel_rfl)
end Go.Proofs.YbulkalykDoor.lawS1882BBuilt
