import Derived.Test.Qxb6604678aGreatFmtLaw
import Derived.Test.Qxb6604678aGreatFmtTie
import Derived.Test.Qxb6604678aGreatFmtCards
import Derived.ProofKit
import Derived.SliceStrings
import Derived.Deep.Grids
import Derived.Lay
import Derived.Lib.LaidU8T
import Derived.Lib.LaidPrint
import Derived.HandedShaped
import Derived.OpenShut
import Derived.Shelf.Vars
import Derived.Stop.JoinedShaped
import Derived.Stop.JoinedTold
import Derived.SevenTiedAt
namespace Go.Proofs.Qxb6604678aGreatFmt
open Go.RowKit Go.ChangeShapes Go.WideShapes Go.ChangeAt Go.Extern.Stop Go.Stop Go.Extern
open Go.ChangeMaps (open_string shut_string)

theorem rown : ownKnob Tryz.prog.godebug = none := by kernel_rfl
theorem Tryz.laidOut : laidOutB Tryz.prog = true := by kernel_rfl
theorem Tryz.rcells9 : Tryz.prog.cellsOf 9 = 1 := by kernel_rfl

theorem addr_of_cell {w : World} {a : Addr} {k : Nat} {u : Value} (h : w.cell? (a.add k) = some u) (h0 : ∃ u0, w.cell? (a.add 0) = some u0) : ∃ b off, a = ⟨b, off, none⟩ ∧ b < w.heap.size ∧ w.cell? ⟨b, off + k, none⟩ = some u := by
  obtain ⟨b, off, spot⟩ := a
  obtain ⟨u0, hu0⟩ := h0
  have hspot : spot = none := by simpa [Addr.add] using World.cell?_spot hu0
  subst hspot
  rw [Go.WideShapes.add_plain] at h
  exact ⟨b, off, rfl, World.block_lt_of_cell? w ⟨b, off + k, none⟩ h, h⟩

set_option maxRecDepth 100000 in
theorem vs_of_trod {H : Type} {enc : TypeId × Value → H} {W : World} {base : Nat} {v : Value} {d : DataW H} {p : List MemPlace} (hv : Value.okWide Tryz.prog W .any base 22 v) (h : DataW.Trod enc Tryz.prog W 0 (fun _ => true) true 22 v d p) : ∃ xs, VS W v xs := by
  obtain ⟨a0, len, cap, rfl⟩ := okWide_slice Tryz.underlying22 hv
  obtain ⟨fuel, hf⟩ := h
  rcases open_strings Tryz.underlying22 Tryz.underlying9 Tryz.rcells9 hf with ⟨hcs, _⟩ | ⟨a, len', cap', ss, hcs, _, hl, _, hss, _, hcell, _⟩
  · have e : (.slice a0 len cap : Value) = .slice none 0 0 := by simpa [Value.cells] using hcs
    rw [e]
    exact ⟨[], none, 0, rfl, fun k hk => absurd hk (by simp)⟩
  · have e : (.slice a0 len cap : Value) = .slice (some a) len' cap' := by simpa [Value.cells] using hcs
    rw [e]
    simp only [if_true] at hss
    have hlen : (ss.take len').length = len' := by rw [List.length_take]; omega
    refine ⟨ss.take len', some a, cap', by rw [hlen], fun k hk => ?_⟩
    have hk' : k < ss.length := by omega
    have hc := hcell k hk'
    obtain ⟨b, off, rfl, hb, hcc⟩ := addr_of_cell hc ⟨_, hcell 0 (by omega)⟩
    refine ⟨b, off, rfl, hb, ?_⟩
    rw [hcc]
    simp [hk']

/-- The row's list. -/
abbrev listed : List (String × DataW Unit) := Rows.fnKeyWrittenPartsParseBackRow.laid

/-- The tables' numbers at this dump. -/
def u8ren : Go.Shelf.Ren := ⟨fun n => n, fun | 5 => 5 | 119 => 109 | 138 => 111 | 139 => 112 | n => n, fun | 3 => 1 | 4 => 2 | n => n⟩
theorem u8types : U8Types Tryz.prog u8ren := ⟨Tryz.underlying5, Tryz.underlying109, Tryz.underlying111, Tryz.underlying112⟩
theorem u8extra : U8Extra Tryz.prog u8ren := ⟨by kernel_rfl, by kernel_rfl, by kernel_rfl, by kernel_rfl, by kernel_rfl, by kernel_rfl, by kernel_rfl⟩
theorem first_is : Rows.laid_unicode_utf8_first = Go.Lib.firstData := by kernel_rfl
theorem accept_is : (Rows.laid_unicode_utf8_acceptRanges : DataW Unit) = Go.Lib.acceptData := by kernel_rfl
theorem p16_is : Rows.laid_strconv_isPrint16 = Go.Lib.sliceData .u16 Go.Lib.goPrintTabs.p16 := by kernel_rfl
theorem n16_is : Rows.laid_strconv_isNotPrint16 = Go.Lib.sliceData .u16 Go.Lib.goPrintTabs.n16 := by kernel_rfl
theorem p32_is : Rows.laid_strconv_isPrint32 = Go.Lib.sliceData .u32 Go.Lib.goPrintTabs.p32 := by kernel_rfl
theorem n32_is : Rows.laid_strconv_isNotPrint32 = Go.Lib.sliceData .u16 Go.Lib.goPrintTabs.n32 := by kernel_rfl

theorem env_of {F : Interp} {W : World} (hL : laidMetH Tryz.prog listed W) (hS : W.ShapedOpen Tryz.prog) (hF : F.answers W.tape) : Env F W := by
  rw [MakeChecks.laidMetH_plain _ _ _ (by kernel_rfl)] at hL
  have hm : ∃ m, W.cell? ⟨0, 0, none⟩ = some (.int .i64 m) := cell_of_shapedOpen_int (t := 3) (zero := #[.int .i64 0]) hS (of_decide_eq_true (by kernel_rfl)) (by kernel_rfl) rfl (by kernel_rfl) (by kernel_rfl) Tryz.underlying3
  obtain ⟨m, hm⟩ := hm
  have hT : Lib.PrintTabsAt 5 6 7 8 Lib.goPrintTabs W :=
    printTabs_of_reads (ρ := Tryz.lays177_ren) { Tryz.lays177 with } ⟨by kernel_rfl, by kernel_rfl, by kernel_rfl, by kernel_rfl, by kernel_rfl, by kernel_rfl, by kernel_rfl, by kernel_rfl, by kernel_rfl, by kernel_rfl⟩
      (by rw [← p16_is]; exact Lib.laidMet.reads hL (by simp [listed, Rows.fnKeyWrittenPartsParseBackRow])) (by rw [← n16_is]; exact Lib.laidMet.reads hL (by simp [listed, Rows.fnKeyWrittenPartsParseBackRow]))
      (by rw [← p32_is]; exact Lib.laidMet.reads hL (by simp [listed, Rows.fnKeyWrittenPartsParseBackRow])) (by rw [← n32_is]; exact Lib.laidMet.reads hL (by simp [listed, Rows.fnKeyWrittenPartsParseBackRow]))
  exact ⟨utf8Tabs_of_readsT (ρ := u8ren) u8types u8extra (by rw [← first_is]; exact Lib.laidMet.reads hL (by simp [listed, Rows.fnKeyWrittenPartsParseBackRow])) (by rw [← accept_is]; exact Lib.laidMet.reads hL (by simp [listed, Rows.fnKeyWrittenPartsParseBackRow])),
    ⟨_, hT⟩, ⟨m, hm⟩, Nat.lt_of_le_of_lt (Nat.zero_le _) (World.block_lt_of_cell? W ⟨0, 0, none⟩ hm), hF⟩

abbrev spec : OpenSpec := OpenSpec.ofChange Rows.fnKeyWrittenPartsParseBackSpec

/-- What a start must show, at whichever tape F answers. -/
theorem witness_at {C : Checked} {os : Os} {f : FuncId} {fn : Func} {s : OpenSpec} {conds : List PathCond} {apart : Bool} {laid : List (String × DataW Unit)} {H : Type} {enc : TypeId × Value → H} (w0 : World) (args : Array Value) (hos : w0.os = os)
    (hsh : (w0.forCall (fun _ _ => 0) ⟨#[], args, []⟩).Shaped C.prog) (hok : Input.okWideB C.prog (w0.forCall (fun _ _ => 0) ⟨#[], args, []⟩) f ⟨#[], args, []⟩ = true)
    (hrow : s.preRow enc C.prog fn conds apart laid (w0.forCall (fun _ _ => 0) ⟨#[], args, []⟩).memory args) (F : Stop.Interp) :
    ∃ (w : World) (tape : Tape) (i : Input), w.os = os ∧ (w.forCall tape i).Shaped C.prog ∧ i.vars = [] ∧ Input.okWide C.prog (w.forCall tape i) .any w.heap.size f i ∧
      s.preRow enc C.prog fn conds apart laid (w.forCall tape i).memory i.args ∧ ({} : Assume).holds C.prog (lone (Frame.enter C.prog f i.args .normal) [] (w.forCall tape i)) ∧ F.answers tape :=
  ⟨w0, F.over fun _ _ => 0, ⟨#[], args, []⟩, hos, hsh, (Input.okWide_of_okWideB (base := 0) hok).1, (Input.okWide_of_okWideB hok).2, hrow, by
    simp only [Assume.holds]
    exact ⟨by simp, by simp, by simp, by simp, by simp⟩, F.over_answers _⟩

set_option maxRecDepth 100000 in
theorem witness (os : Os) {H : Type} (enc : TypeId × Value → H) (F : Stop.Interp) :
    ∃ (w : World) (tape : Tape) (i : Input), w.os = os ∧ (w.forCall tape i).Shaped Tryz.prog ∧ i.vars = [] ∧ Input.okWide Tryz.prog (w.forCall tape i) .any w.heap.size 3 i ∧
      spec.preRow enc Tryz.prog Tryz.f3 [] false listed (w.forCall tape i).memory i.args ∧ ({} : Assume).holds Tryz.prog (lone (Frame.enter Tryz.prog 3 i.args .normal) [] (w.forCall tape i)) ∧ F.answers tape :=
  witness_at (C := Tryz.checked) (World.laidAll Tryz.prog os listed) #[.slice none 0 0] (World.laidAll_os _ _ _) (World.shaped_of_ZipB (by kernel_rfl) (by kernel_rfl)) (by kernel_rfl)
    (OpenSpec.preRow_of_B rfl 8 (by kernel_rfl) (by kernel_rfl) (by rw [MakeChecks.laidMetH_plain _ _ _ (by kernel_rfl)]; exact laidMet_laidAll _ (by kernel_rfl) (by kernel_rfl))) F

set_option maxRecDepth 100000 in
set_option maxHeartbeats 800000 in
theorem key_stopped (os : Os) (started : os.Started) (H : Type) (enc : TypeId × Value → H) :
    ReturnsInStopped none {} Tryz.checked os 3 .any Input.okWide (spec.preRow enc Tryz.prog Tryz.f3 [] false listed) (fun F => (spec.at F).post enc Tryz.prog Tryz.f3 false true false false) (aloneAtReturn Tryz.prog) nothingAlways := by
  refine returnsInStopped_of_row_shaped (C := Tryz.checked) (s := spec) (by kernel_rfl) rown started (by kernel_rfl) Tryz.func3 (witness os enc) ?_
  intro F W base args ds gs before _ hF hval0 hW _ _ _ hL hsh _
  have hE := env_of hL hsh hF
  have hval : ∀ (j : Nat) t v, Tryz.f3.params[j]? = some t → args[j]? = some v → Value.okWide Tryz.prog W .any base t v := hval0
  have hW' := hW
  obtain ⟨p, q, hA0, hV, rfl, _, _⟩ := hW
  have hA : DataW.TrodAll enc Tryz.prog W 0 (fun _ => true) true Tryz.f3.params.toList args.toList ds p := hA0
  rw [Tryz.params3] at hA hval
  obtain ⟨v0, d0, rfl, rfl, h0⟩ := trodAll_one hA
  obtain ⟨rfl, rfl⟩ := trodVars_none hV
  obtain ⟨xs, hxs⟩ := vs_of_trod (hval 0 22 v0 rfl rfl) h0
  refine (law_any F xs v0 W hxs hE).mono fun e W' ⟨he, hbl⟩ => ?_
  subst he
  have hlt : ∀ x ∈ p, x.block < W.heap.size := fun x hx => by simpa using hW'.lt x (by simpa using hx)
  have t0 := Below.trod Tryz.laidOut (by kernel_rfl) (of_decide_eq_true (by kernel_rfl)) h0 hbl (fun x hx => hlt x hx)
  exact ⟨_, rfl, _, _, _, [], p, [], hW', trodAll_mk1 (shut_bool Tryz.underlying4 _), trodAll_mk1 t0, rfl, hbl.frame _, fun h => by cases h⟩

theorem key_told (os : Os) (started : os.Started) (H : Type) (enc : TypeId × Value → H) :
    ReturnsInTold none {} Tryz.checked os 3 .any Input.okWide (spec.preRow enc Tryz.prog Tryz.f3 [] false listed) (fun F => (spec.at F).post enc Tryz.prog Tryz.f3 false true false false) (aloneAtReturn Tryz.prog) nothingAlways :=
  fun F => key_stopped os started H enc F.told

theorem Tryz.stopKnobs : Tryz.pinned.checked.prog.stopKnobs = [] := by kernel_rfl
theorem Tryz.quiet (os : Os) : Stop.quiet Tryz.pinned.checked.prog os := by
  intro k hk
  rw [Tryz.stopKnobs] at hk
  cases hk

theorem key_card : Rows.FnKeyWrittenPartsParseBackToldSaid :=
  Claim7.holds_of_told_tied_any_at .later 3 Tryz.f3 _ _ [] (true, "c19b25ce8c9c354080d247333a8ee181914f92be0cf405a8dcc70ffee8eb331a") true false [.data, .data, .data, .data, .sentinel, .sentinel, .pinned, .pinned, .pinned, .pinned, .pinned, .pinned] true
    (by kernel_rfl) rfl rfl rfl Tryz.laidOut (by kernel_rfl) rfl ⟨rfl, rfl, rfl, rfl, rfl, rfl, rfl⟩ rfl rfl (by kernel_rfl) (by kernel_rfl) Tryz.func3 (by kernel_rfl)
    (of_decide_eq_true (by kernel_rfl)) (of_decide_eq_true (by kernel_rfl)) (by kernel_rfl) rfl Tryz.stopKnobs.symm (by kernel_rfl)
    (by kernel_rfl) (by kernel_rfl) (by kernel_rfl) (by kernel_rfl) (by kernel_rfl) (by kernel_rfl) (by kernel_rfl) (by kernel_rfl) (by kernel_rfl) rfl (by kernel_rfl) rfl rfl
    rfl rfl
    rfl (by kernel_rfl) (by kernel_rfl) (by kernel_rfl) (by decide) (by kernel_rfl) fnKeyWrittenPartsParseBack_row_tie
    (OpenClaim.moreEntering_of (by kernel_rfl) (by kernel_rfl) (by kernel_rfl) (by kernel_rfl) (by kernel_rfl) (by kernel_rfl) (by kernel_rfl) (by kernel_rfl) (by kernel_rfl) (by kernel_rfl))
    ⟨_, WideRow.started_initial, Tryz.quiet _⟩
    (fun os started _ H enc _ => key_told os started H enc)
end Go.Proofs.Qxb6604678aGreatFmt
