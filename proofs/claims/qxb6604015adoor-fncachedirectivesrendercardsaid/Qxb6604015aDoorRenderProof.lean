import Derived.Test.Qxb6604015aDoorRe
import Derived.Test.Qxb6604015aDoorTie
import Derived.Test.Qxb6604015aDoorCards
import Derived.ProofKit
import Derived.SliceStrings
import Derived.Deep.Grids
import Derived.Lay
import Derived.SevenTiedAt
namespace Go.Proofs.Qxb6604015aDoor
open Go.RowKit Go.ChangeShapes Go.WideShapes Go.ChangeAt
open Go.ChangeMaps (open_string shut_string)

theorem rown : ownKnob Tryd.prog.godebug = none := by kernel_rfl
theorem Tryd.laidOut : laidOutB Tryd.prog = true := by kernel_rfl
theorem Tryd.rcells9 : Tryd.prog.cellsOf 9 = 1 := by kernel_rfl
theorem Tryd.rcells4 : Tryd.prog.cellsOf 4 = 1 := by kernel_rfl

theorem addr_of_cell {w : World} {a : Addr} {k : Nat} {u : Value} (h : w.cell? (a.add k) = some u) (h0 : ∃ u0, w.cell? (a.add 0) = some u0) : ∃ b off, a = ⟨b, off, none⟩ ∧ b < w.heap.size ∧ w.cell? ⟨b, off + k, none⟩ = some u := by
  obtain ⟨b, off, spot⟩ := a
  obtain ⟨u0, hu0⟩ := h0
  have hspot : spot = none := by simpa [Addr.add] using World.cell?_spot hu0
  subst hspot
  rw [Go.WideShapes.add_plain] at h
  exact ⟨b, off, rfl, World.block_lt_of_cell? w ⟨b, off + k, none⟩ h, h⟩

theorem vs_of_trod {H : Type} {enc : TypeId × Value → H} {W : World} {base : Nat} {v : Value} {d : DataW H} {p : List MemPlace} (hv : Value.okWide Tryd.prog W .any base 23 v) (h : DataW.Trod enc Tryd.prog W 0 (fun _ => true) true 23 v d p) : ∃ xs, VS W v xs := by
  obtain ⟨a0, len, cap, rfl⟩ := okWide_slice Tryd.underlying23 hv
  obtain ⟨fuel, hf⟩ := h
  rcases open_strings Tryd.underlying23 Tryd.underlying9 Tryd.rcells9 hf with ⟨hcs, _⟩ | ⟨a, len', cap', ss, hcs, _, hl, _, hss, _, hcell, _⟩
  · have e : (.slice a0 len cap : Value) = .slice none 0 0 := by simpa [Value.cells] using hcs
    rw [e]
    exact ⟨[], none, 0, rfl, fun k hk => absurd hk (by simp)⟩
  · have e : (.slice a0 len cap : Value) = .slice (some a) len' cap' := by simpa [Value.cells] using hcs
    rw [e]
    simp only [if_true] at hss
    have hlen : (ss.take len').length = len' := by rw [List.length_take]; omega
    refine ⟨ss.take len', some a, cap', by rw [hlen], fun k hk => ?_⟩
    have hk' : k < ss.length := by omega
    have hc := hcell k hk'
    obtain ⟨b, off, rfl, hb, hcc⟩ := addr_of_cell hc ⟨_, hcell 0 (by omega)⟩
    refine ⟨b, off, rfl, hb, ?_⟩
    rw [hcc]
    simp [hk']

theorem vb_of_trod {H : Type} {enc : TypeId × Value → H} {W : World} {base : Nat} {v : Value} {d : DataW H} {p : List MemPlace} (hv : Value.okWide Tryd.prog W .any base 27 v) (h : DataW.Trod enc Tryd.prog W 0 (fun _ => true) true 27 v d p) : ∃ xs, VB W v xs := by
  obtain ⟨a0, len, cap, rfl⟩ := okWide_slice Tryd.underlying27 hv
  obtain ⟨fuel, hf⟩ := h
  rcases Go.Deep.open_bools Tryd.underlying27 Tryd.underlying4 Tryd.rcells4 hf with ⟨hcs, _⟩ | ⟨a, len', cap', B, hcs, _, hl, _, _, hcell⟩
  · have e : (.slice a0 len cap : Value) = .slice none 0 0 := by simpa [Value.cells] using hcs
    rw [e]
    exact ⟨[], none, 0, rfl, fun k hk => absurd hk (by simp)⟩
  · have e : (.slice a0 len cap : Value) = .slice (some a) len' cap' := by simpa [Value.cells] using hcs
    rw [e]
    refine ⟨(List.range len').map B, some a, cap', by simp, fun k hk => ?_⟩
    have hk1 : k < len' := by simpa using hk
    have hk' : k < cap' := by omega
    have hc := hcell k hk'
    obtain ⟨b, off, rfl, hb, hcc⟩ := addr_of_cell hc ⟨_, hcell 0 (by omega)⟩
    refine ⟨b, off, rfl, hb, ?_⟩
    rw [hcc]
    simp

/-- The row's list. -/
abbrev rlisted : List (String × DataW Unit) := Rows.fnCacheDirectivesRenderRow.laid

set_option maxRecDepth 100000 in
theorem render_lifted (os : Os) (started : os.Started) (H : Type) (enc : TypeId × Value → H) :
    ReturnsInHanded {} Tryd.checked os 4 .any (fun w args => (Rows.fnCacheDirectivesRenderSpec.pre enc Tryd.prog Tryd.f4 [] false w args ∧ laidMetH Tryd.prog rlisted w) ∧ sizedMet enc Tryd.prog Tryd.f4 (OpenSpec.ofChange Rows.fnCacheDirectivesRenderSpec) false w args)
      (Rows.fnCacheDirectivesRenderSpec.post enc Tryd.prog Tryd.f4 false true false false) := by
  refine returnsInHanded_of_change_and (C := Tryd.checked) (X := fun w _ => laidMetH Tryd.prog rlisted w) (fun _ _ _ hh h => h.of_heap hh) rown started (by kernel_rfl) Tryd.func4
    (ChangeSpec.witness_shaped (enc := enc) (C := Tryd.checked) (os := os) (X := fun w _ => laidMetH Tryd.prog rlisted w) false (World.laidAll Tryd.prog os rlisted) #[.slice none 0 0, .slice none 0 0, .slice none 0 0, .string ⟨#[]⟩] 8 (World.laidAll_os _ _ _)
      (World.shaped_of_ZipB (by kernel_rfl) (by kernel_rfl)) (by kernel_rfl) (by kernel_rfl) (by kernel_rfl)
      (by rw [MakeChecks.laidMetH_plain _ _ _ (by kernel_rfl)]; exact laidMet_laidAll _ (by kernel_rfl) (by kernel_rfl))) ?_
  intro W base args ds gs before hval0 hW _ _ _ _
  have hval : ∀ (j : Nat) t v, Tryd.f4.params[j]? = some t → args[j]? = some v → Value.okWide Tryd.prog W .any base t v := hval0
  have hW' := hW
  obtain ⟨p, q, hA0, hV, rfl, _, _⟩ := hW
  have hA : DataW.TrodAll enc Tryd.prog W 0 (fun _ => true) true Tryd.f4.params.toList args.toList ds p := hA0
  rw [Tryd.params4] at hA hval
  obtain ⟨v0, v1, v2, v3, d0, d1, d2, d3, p0, p1, p2, p3, rfl, rfl, rfl, h0, h1, h2, h3⟩ := trodAll_four hA
  obtain ⟨rfl, rfl⟩ := trodVars_none hV
  obtain ⟨xs, hx⟩ := vs_of_trod (hval 0 23 v0 rfl rfl) h0
  obtain ⟨ys, hy⟩ := vs_of_trod (hval 1 23 v1 rfl rfl) h1
  obtain ⟨bs, hb⟩ := vb_of_trod (hval 2 27 v2 rfl rfl) h2
  obtain ⟨pad, rfl, rfl, rfl, hp⟩ := open_string Tryd.underlying9 (hval 3 9 v3 rfl rfl) h3
  simp only [List.append_nil] at hW'
  refine (render_any xs ys bs pad v0 v1 v2 W hx hy hb).mono fun e W' ⟨he, hbl⟩ => ?_
  subst he
  have hlt : ∀ x ∈ p0 ++ (p1 ++ p2), x.block < W.heap.size := fun x hx => by simpa using hW'.lt x (by simpa using hx)
  have t0 := Below.trod Tryd.laidOut (by kernel_rfl) (of_decide_eq_true (by kernel_rfl)) h0 hbl (fun x hx => hlt x (by simp [hx]))
  have t1 := Below.trod Tryd.laidOut (by kernel_rfl) (of_decide_eq_true (by kernel_rfl)) h1 hbl (fun x hx => hlt x (by simp [hx]))
  have t2 := Below.trod Tryd.laidOut (by kernel_rfl) (of_decide_eq_true (by kernel_rfl)) h2 hbl (fun x hx => hlt x (by simp [hx]))
  exact ⟨_, rfl, _, _, _, [], p0 ++ (p1 ++ (p2 ++ [])), [], hW', trodAll_mk1 (shut_bool Tryd.underlying4 _), trodAll_mk4 t0 t1 t2 (shut_string Tryd.underlying9 hp), rfl, hbl.frame _, fun h => by cases h⟩

theorem render_holds : Rows.FnCacheDirectivesRenderSaid :=
  OpenClaim.holds_of_wide 4 Tryd.f4 rfl rfl rfl rfl rfl rfl rfl ⟨rfl, rfl, rfl, rfl, rfl⟩ rfl rfl rfl rfl rfl (by kernel_rfl) Tryd.func4 (by kernel_rfl)
    (of_decide_eq_true (by kernel_rfl)) (by unfold Func.isWrapper; first | (rw [if_pos (by decide +kernel)]; kernel_rfl) | (rw [if_neg (by decide +kernel)]; exact ⟨rfl, rfl⟩))
    (fun os started H enc _ => render_lifted os started H enc)

theorem render_card : Rows.FnCacheDirectivesRenderCardSaid :=
  Claim7.holds_tied_plain_at .later [] [.data, .pinned, .pinned] true (true, "d755817e34ddb67a2afa098645766e7f7698dccadda302782a402eebcbceb6ca") false
    render_holds (fun _ h => by cases h) (by kernel_rfl) (fun _ h => by cases h) fnCacheDirectivesRender_row_tie rfl ⟨rfl, rfl⟩ (by kernel_rfl) rfl
    (fun f fn hf hfn => by
      obtain rfl : f = 4 := Option.some.inj ((show Tryd.prog.funcNamed Rows.fnCacheDirectivesRenderRow.func = some 4 by kernel_rfl).symm.trans hf) |>.symm
      obtain rfl : fn = Tryd.f4 := (Option.some.inj (Tryd.func4.symm.trans hfn)).symm
      exact ⟨by kernel_rfl, fun j t ht => by
        rw [Tryd.params4] at ht
        have hm : t ∈ [23, 23, 27, 9] := by simpa using Array.mem_of_getElem? ht
        have hall : ([23, 23, 27, 9].all fun u => !Tryd.prog.wantsStandIn u) = true := by kernel_rfl
        exact (show Tryd.prog.wantsStandIn t = false by simpa using List.all_eq_true.1 hall t hm)⟩)
    (by kernel_rfl)

end Go.Proofs.Qxb6604015aDoor
