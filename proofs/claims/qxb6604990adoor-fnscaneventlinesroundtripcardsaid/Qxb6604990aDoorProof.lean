import Derived.Test.Qxb6604990aDoorLaw
import Derived.Test.Qxb6604990aDoorTie
import Derived.Test.Qxb6604990aDoorCards
import Derived.ProofKit
import Derived.SliceStrings
import Derived.Deep.Grids
import Derived.Lay
import Derived.Lib.LaidU8T
import Derived.HandedShaped
import Derived.OpenShut
import Derived.Shelf.Vars
import Derived.SevenTiedAt
namespace Go.Proofs.Qxb6604990aDoor
open Go.RowKit Go.ChangeShapes Go.WideShapes Go.ChangeAt
open Go.ChangeMaps (open_string shut_string)

theorem rown : ownKnob Tryd.prog.godebug = none := by kernel_rfl
theorem Tryd.laidOut : laidOutB Tryd.prog = true := by kernel_rfl
theorem Tryd.rcells9 : Tryd.prog.cellsOf 9 = 1 := by kernel_rfl
theorem Tryd.rcells5 : Tryd.prog.cellsOf 5 = 1 := by kernel_rfl

theorem addr_of_cell {w : World} {a : Addr} {k : Nat} {u : Value} (h : w.cell? (a.add k) = some u) (h0 : ∃ u0, w.cell? (a.add 0) = some u0) : ∃ b off, a = ⟨b, off, none⟩ ∧ b < w.heap.size ∧ w.cell? ⟨b, off + k, none⟩ = some u := by
  obtain ⟨b, off, spot⟩ := a
  obtain ⟨u0, hu0⟩ := h0
  have hspot : spot = none := by simpa [Addr.add] using World.cell?_spot hu0
  subst hspot
  rw [Go.WideShapes.add_plain] at h
  exact ⟨b, off, rfl, World.block_lt_of_cell? w ⟨b, off + k, none⟩ h, h⟩

theorem vs_of_trod {H : Type} {enc : TypeId × Value → H} {W : World} {base : Nat} {v : Value} {d : DataW H} {p : List MemPlace} (hv : Value.okWide Tryd.prog W .any base 22 v) (h : DataW.Trod enc Tryd.prog W 0 (fun _ => true) true 22 v d p) : ∃ xs, VS W v xs := by
  obtain ⟨a0, len, cap, rfl⟩ := okWide_slice Tryd.underlying22 hv
  obtain ⟨fuel, hf⟩ := h
  rcases open_strings Tryd.underlying22 Tryd.underlying9 Tryd.rcells9 hf with ⟨hcs, _⟩ | ⟨a, len', cap', ss, hcs, _, hl, _, hss, _, hcell, _⟩
  · have e : (.slice a0 len cap : Value) = .slice none 0 0 := by simpa [Value.cells] using hcs
    rw [e]
    exact ⟨[], none, 0, rfl, fun k hk => absurd hk (by simp)⟩
  · have e : (.slice a0 len cap : Value) = .slice (some a) len' cap' := by simpa [Value.cells] using hcs
    rw [e]
    simp only [if_true] at hss
    have hlen : (ss.take len').length = len' := by rw [List.length_take]; omega
    refine ⟨ss.take len', some a, cap', by rw [hlen], fun k hk => ?_⟩
    have hk' : k < ss.length := by omega
    have hc := hcell k hk'
    obtain ⟨b, off, rfl, hb, hcc⟩ := addr_of_cell hc ⟨_, hcell 0 (by omega)⟩
    refine ⟨b, off, rfl, hb, ?_⟩
    rw [hcc]
    simp [hk']

theorem vu_of_trod {H : Type} {enc : TypeId × Value → H} {W : World} {base : Nat} {v : Value} {d : DataW H} {p : List MemPlace} (hv : Value.okWide Tryd.prog W .any base 23 v) (h : DataW.Trod enc Tryd.prog W 0 (fun _ => true) true 23 v d p) : ∃ us, VU W v us := by
  obtain ⟨a0, len, cap, rfl⟩ := okWide_slice Tryd.underlying23 hv
  obtain ⟨fuel, hf⟩ := h
  rcases open_ints Tryd.underlying23 Tryd.underlying5 Tryd.rcells5 hf with ⟨hcs, _⟩ | ⟨a, len', cap', zs, hcs, _, hl, _, hzl, _, hcell, hwf⟩
  · have e : (.slice a0 len cap : Value) = .slice none 0 0 := by simpa [Value.cells] using hcs
    rw [e]
    exact ⟨[], none, 0, rfl, fun k hk => absurd hk (by simp)⟩
  · have e : (.slice a0 len cap : Value) = .slice (some a) len' cap' := by simpa [Value.cells] using hcs
    rw [e]
    simp only [if_true] at hzl
    have hlen : ((zs.take len').map fun z => UInt8.ofNat z.toNat).length = len' := by rw [List.length_map, List.length_take]; omega
    refine ⟨(zs.take len').map fun z => UInt8.ofNat z.toNat, some a, cap', by rw [hlen], fun k hk => ?_⟩
    have hk' : k < zs.length := by omega
    have hc := hcell k hk'
    obtain ⟨b, off, rfl, hb, hcc⟩ := addr_of_cell hc ⟨_, hcell 0 (by omega)⟩
    refine ⟨b, off, rfl, hb, ?_⟩
    rw [hcc]
    have hz : zs.getD k 0 = zs[k] := by simp [List.getD, hk']
    have hbd := bounds_u8 (hwf zs[k] (List.getElem_mem hk'))
    rw [hz]
    simp only [List.getElem_map, List.getElem_take, UInt8.toNat_ofNat']
    congr 2
    omega

/-- The row's list. -/
abbrev listed : List (String × DataW Unit) := Rows.fnScanEventLinesRoundTripRow.laid

/-- The tables' numbers at this dump. -/
def u8ren : Go.Shelf.Ren := ⟨fun n => n, fun | 5 => 5 | 119 => 51 | 138 => 53 | 139 => 54 | n => n, fun | 3 => 1 | 4 => 2 | n => n⟩
theorem u8types : U8Types Tryd.prog u8ren := ⟨Tryd.underlying5, Tryd.underlying51, Tryd.underlying53, Tryd.underlying54⟩
theorem u8extra : U8Extra Tryd.prog u8ren := ⟨by kernel_rfl, by kernel_rfl, by kernel_rfl, by kernel_rfl, by kernel_rfl, by kernel_rfl, by kernel_rfl⟩
theorem first_is : Rows.laid_unicode_utf8_first = Go.Lib.firstData := by kernel_rfl
theorem accept_is : (Rows.laid_unicode_utf8_acceptRanges : DataW Unit) = Go.Lib.acceptData := by kernel_rfl

theorem env_of {W : World} (hL : laidMetH Tryd.prog listed W) (hS : W.ShapedOpen Tryd.prog) : Env W := by
  rw [MakeChecks.laidMetH_plain _ _ _ (by kernel_rfl)] at hL
  have hm : ∃ m, W.cell? ⟨0, 0, none⟩ = some (.int .i64 m) := cell_of_shapedOpen_int (t := 3) (zero := #[.int .i64 0]) hS (of_decide_eq_true (by kernel_rfl)) (by kernel_rfl) rfl (by kernel_rfl) (by kernel_rfl) Tryd.underlying3
  obtain ⟨m, hm⟩ := hm
  exact ⟨utf8Tabs_of_readsT (ρ := u8ren) u8types u8extra (by rw [← first_is]; exact Lib.laidMet.reads hL (by simp [listed, Rows.fnScanEventLinesRoundTripRow])) (by rw [← accept_is]; exact Lib.laidMet.reads hL (by simp [listed, Rows.fnScanEventLinesRoundTripRow])), ⟨m, hm⟩, Nat.lt_of_le_of_lt (Nat.zero_le _) (World.block_lt_of_cell? W ⟨0, 0, none⟩ hm)⟩

set_option maxRecDepth 100000 in
theorem lines_lifted (os : Os) (started : os.Started) (H : Type) (enc : TypeId × Value → H) :
    ReturnsInHanded {} Tryd.checked os 3 .any (fun w args => (Rows.fnScanEventLinesRoundTripSpec.pre enc Tryd.prog Tryd.f3 [] false w args ∧ laidMetH Tryd.prog listed w) ∧ sizedMet enc Tryd.prog Tryd.f3 (OpenSpec.ofChange Rows.fnScanEventLinesRoundTripSpec) false w args)
      (Rows.fnScanEventLinesRoundTripSpec.post enc Tryd.prog Tryd.f3 false true false false) := by
  refine returnsInHanded_of_calls (C := Tryd.checked) rown started (by kernel_rfl)
    (ChangeSpec.witness_shaped (enc := enc) (C := Tryd.checked) (os := os) (X := fun w _ => laidMetH Tryd.prog listed w) false (World.laidAll Tryd.prog os listed) #[.slice none 0 0, .slice none 0 0, .string ⟨#[]⟩] 8 (World.laidAll_os _ _ _)
      (World.shaped_of_ZipB (by kernel_rfl) (by kernel_rfl)) (by kernel_rfl) (by kernel_rfl) (by kernel_rfl)
      (by rw [MakeChecks.laidMetH_plain _ _ _ (by kernel_rfl)]; exact laidMet_laidAll _ (by kernel_rfl) (by kernel_rfl))) ?_
  intro w tape i _ hsh _ hok hpre _
  obtain ⟨_, _, _, fn', hfn', _, _, _, _, hval0⟩ := hok
  obtain rfl : fn' = Tryd.f3 := Option.some.inj (hfn'.symm.trans Tryd.func3)
  obtain ⟨⟨⟨ds, gs, before, hw, _⟩, hx⟩, _⟩ := hpre
  have hW0 := DataW.Whole.of_heap (w' := w.forCall tape i) (by rfl) hw
  have hx' : laidMetH Tryd.prog listed (w.forCall tape i) := laidMetH.of_heap (by rfl) hx
  have hE := env_of hx' hsh
  suffices hmain : Calls Tryd.prog 3 i.args (w.forCall tape i) fun e W' => ∃ v, e = .returned v ∧ Rows.fnScanEventLinesRoundTripSpec.post enc Tryd.prog Tryd.f3 false true false false (w.forCall tape i) i.args v W' from
    hmain.mono fun e W' ⟨v, he, hp⟩ => by
      subst he
      exact ChangeSpec.post_blind hp
  generalize w.forCall tape i = W at *
  generalize i.args = args at *
  have hval : ∀ (j : Nat) t v, Tryd.f3.params[j]? = some t → args[j]? = some v → Value.okWide Tryd.prog W .any w.heap.size t v := hval0
  have hW' := hW0
  obtain ⟨p, q, hA0, hV, rfl, _, _⟩ := hW0
  have hA : DataW.TrodAll enc Tryd.prog W 0 (fun _ => true) true Tryd.f3.params.toList args.toList ds p := hA0
  rw [Tryd.params3] at hA hval
  obtain ⟨v0, v1, v2, d0, d1, d2, p0, p1, p2, rfl, rfl, rfl, h0, h1, h2⟩ := trodAll_three hA
  obtain ⟨rfl, rfl⟩ := trodVars_none hV
  obtain ⟨xs, hxs⟩ := vs_of_trod (hval 0 22 v0 rfl rfl) h0
  obtain ⟨us, hus⟩ := vu_of_trod (hval 1 23 v1 rfl rfl) h1
  obtain ⟨t, rfl, rfl, rfl, ht⟩ := open_string Tryd.underlying9 (hval 2 9 v2 rfl rfl) h2
  simp only [List.append_nil] at hW'
  refine (law_any xs us t v0 v1 W hxs hus hE).mono fun e W' ⟨he, hbl⟩ => ?_
  subst he
  have hlt : ∀ x ∈ p0 ++ p1, x.block < W.heap.size := fun x hx => by simpa using hW'.lt x (by simpa using hx)
  have t0 := Below.trod Tryd.laidOut (by kernel_rfl) (of_decide_eq_true (by kernel_rfl)) h0 hbl (fun x hx => hlt x (by simp [hx]))
  have t1 := Below.trod Tryd.laidOut (by kernel_rfl) (of_decide_eq_true (by kernel_rfl)) h1 hbl (fun x hx => hlt x (by simp [hx]))
  exact ⟨_, rfl, _, _, _, [], p0 ++ (p1 ++ []), [], hW', trodAll_mk1 (shut_bool Tryd.underlying4 _), trodAll_mk3 t0 t1 (shut_string Tryd.underlying9 ht), rfl, hbl.frame _, fun h => by cases h⟩

theorem lines_holds : Rows.FnScanEventLinesRoundTripSaid :=
  OpenClaim.holds_of_wide 3 Tryd.f3 rfl rfl rfl rfl rfl rfl rfl ⟨rfl, rfl, rfl, rfl, rfl⟩ rfl rfl rfl rfl rfl (by kernel_rfl) Tryd.func3 (by kernel_rfl)
    (of_decide_eq_true (by kernel_rfl)) (by unfold Func.isWrapper; first | (rw [if_pos (by decide +kernel)]; kernel_rfl) | (rw [if_neg (by decide +kernel)]; exact ⟨rfl, rfl⟩))
    (fun os started H enc _ => lines_lifted os started H enc)

theorem lines_card : Rows.FnScanEventLinesRoundTripCardSaid :=
  Claim7.holds_tied_plain_at .later [] [.data, .pinned] true (true, "224213f2a4ee12fdc9c9834c74621e3bb4a618d3e1455470d888c28c1a34d087") false
    lines_holds (fun _ h => by cases h) (by kernel_rfl) (fun _ h => by cases h) fnScanEventLinesRoundTrip_row_tie rfl ⟨rfl, rfl⟩ (by kernel_rfl) rfl
    (fun f fn hf hfn => by
      obtain rfl : f = 3 := Option.some.inj ((show Tryd.prog.funcNamed Rows.fnScanEventLinesRoundTripRow.func = some 3 by kernel_rfl).symm.trans hf) |>.symm
      obtain rfl : fn = Tryd.f3 := (Option.some.inj (Tryd.func3.symm.trans hfn)).symm
      exact ⟨by kernel_rfl, fun j t ht => by
        rw [Tryd.params3] at ht
        have hm : t ∈ [22, 23, 9] := by simpa using Array.mem_of_getElem? ht
        have hall : ([22, 23, 9].all fun u => !Tryd.prog.wantsStandIn u) = true := by kernel_rfl
        exact (show Tryd.prog.wantsStandIn t = false by simpa using List.all_eq_true.1 hall t hm)⟩)
    (by kernel_rfl)

end Go.Proofs.Qxb6604990aDoor
