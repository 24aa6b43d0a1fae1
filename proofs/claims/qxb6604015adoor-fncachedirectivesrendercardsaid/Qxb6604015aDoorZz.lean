import Derived.Test.Qxb6604015aDoorCd
import Derived.Test.Qxb6604015aDoorMd
import Derived.Test.Qxb6604015aDoorLaws3
import Derived.Lib.SliceRun
namespace Go.Proofs.Qxb6604015aDoor
open Go.RowKit

theorem dv_even (ds : List (Bs × Bs)) (k : Nat) : (dv ds)[k * 2]? = (nv ds)[k]? := by
  induction ds generalizing k with
  | nil => simp [dv, nv]
  | cons d ds ih =>
    cases k with
    | zero => simp [dv, nv]
    | succ k =>
      rw [show (k + 1) * 2 = k * 2 + 1 + 1 from by omega]
      simp only [dv, nv, List.getElem?_cons_succ, List.map_cons]
      exact ih k
theorem dv_odd (ds : List (Bs × Bs)) (k : Nat) : (dv ds)[k * 2 + 1]? = (av ds)[k]? := by
  induction ds generalizing k with
  | nil => simp [dv, av]
  | cons d ds ih =>
    cases k with
    | zero => simp [dv, av]
    | succ k =>
      rw [show (k + 1) * 2 + 1 = k * 2 + 1 + 1 + 1 from by omega]
      simp only [dv, av, List.getElem?_cons_succ, List.map_cons]
      exact ih k
theorem nv_length (ds : List (Bs × Bs)) : (nv ds).length = ds.length := by simp [nv]
theorem av_length (ds : List (Bs × Bs)) : (av ds).length = ds.length := by simp [av]

set_option maxRecDepth 100000 in
set_option maxHeartbeats 1600000 in
theorem zz_any (s : ByteArray) (hs : s.size ≤ 1073741824) (w : World) :
    Calls Tryd.prog 6 #[.string s] w fun e w' => Answer (SA s.data.toList) w.heap.size w e w' := by
  obtain ⟨i9, hi9, hb0, hb1, hb2⟩ := info_parts Tryd.info9
  have hnq := fun (W : World) (a : Option Addr) (l c : Nat) => Lib.run_eql_slice_nil (P := Tryd.prog) W 35 39 a l c 0 0 Tryd.underlying35
  go_enter Tryd.func6, Tryd.ntmps6
  go_wp2_with fail
  refine (cd_any s hs w).mono ?_
  rintro e w1 (⟨ho, rfl, hnx⟩ | ⟨ds, vd, ho, rfl, hod, hnil, hne, hdl, hnx⟩)
  · have HO : Hid (SA s.data.toList = none) := ho
    clear ho
    go_wp2
    go_ret3
    exact .inl ⟨HO.out, rfl, hnx⟩
  · have HO : Hid (SA s.data.toList = some ds) := ho
    clear ho
    by_cases hds : ds = []
    · obtain rfl := hnil hds
      subst hds
      clear hnil hne hod
      go_wp2
      go_ret3
      exact .inr ⟨[], _, _, HO.out, rfl, { TwoRows.start w.heap.size w1 with below := hnx }⟩
    · have hpos : 0 < ds.length := List.length_pos_iff.2 hds
      obtain ⟨g, cap, rfl⟩ : ∃ g cap, vd = .slice (some ⟨g, 0, none⟩) ds.length cap := by
        rcases hod.2 with ⟨_, hz⟩ | ⟨g, cap, _, rfl, _, _⟩
        · omega
        · exact ⟨_, _, rfl⟩
      clear hnil hne hds
      go_wp2_with (at_make; refine wpList_make_full _ rfl _ _ 23 rfl w.heap.size 9 i9 (.string ⟨#[]⟩) 1 Tryd.underlying23 hi9 hb0 hb1 _ _ _ _ ds.length rfl rfl rfl rfl (by rw [hb2]; omega) (by unfold maxLen; omega) hnx.size ?_)
      intro w2 hn2 hg2
      have hod2 := hod.kept hg2 (.inr (by simp [Value.ownBlock]))
      have hnx2 : Below w.heap.size w w2 := hnx.grown hg2 hnx.size (fun k hk => by cases hk)
      have hz12 := (hn2.lt w1.heap.size rfl).2
      have hgz := (hod.lt g rfl).2
      go_wp2_with (at_make; refine wpList_make_full _ rfl _ _ 23 rfl w.heap.size 9 i9 (.string ⟨#[]⟩) 1 Tryd.underlying23 hi9 hb0 hb1 _ _ _ _ ds.length rfl rfl rfl rfl (by rw [hb2]; omega) (by unfold maxLen; omega) hnx2.size ?_)
      intro w3 ha3 hg3
      have hod3 := hod2.kept hg3 (.inr (by simp [Value.ownBlock]))
      have hn3 := hn2.kept hg3 (.inr (by simp [Value.ownBlock]))
      have hnx3 : Below w.heap.size w w3 := hnx2.grown hg3 hnx2.size (fun k hk => by cases hk)
      rw [toList_madeCells_one] at hn3 ha3
      have hg1 : ¬ g = w1.heap.size := by omega
      have hg2' : ¬ g = w2.heap.size := by omega
      have h12 : ¬ w1.heap.size = w2.heap.size := by omega
      have hBs := hnx.size
      have hBs2 := hnx2.size
      clear hn2 hg2 hod hod2 hg3 hnx2
      go_wp2
      go_loopw [7] (fun iv wr => ∃ k : Nat, k ≤ ds.length ∧ iv = .int .i64 k ∧ wr.ownsRow w.heap.size 9 1 (.slice (some ⟨w1.heap.size, 0, none⟩) ds.length ds.length) ds.length (part (nv ds) (.string ⟨#[]⟩) k) ∧ wr.ownsRow w.heap.size 9 1 (.slice (some ⟨w2.heap.size, 0, none⟩) ds.length ds.length) ds.length (part (av ds) (.string ⟨#[]⟩) k) ∧ wr.ownsRow w.heap.size 39 2 (.slice (some ⟨g, 0, none⟩) ds.length cap) ds.length (dv ds) ∧ Below w.heap.size w wr) (fun iv _ => ds.length - (intOf iv).toNat)
      case atStart => exact ⟨0, Nat.zero_le _, rfl, by rw [part_zero, nv_length]; exact hn3, by rw [part_zero, av_length]; exact ha3, hod3, hnx3⟩
      case round =>
        obtain ⟨k, hk, rfl, hN, hA, hD, hB⟩ := hrel
        by_cases hlt : k < ds.length
        · obtain ⟨x, hx⟩ : ∃ x : ByteArray, (nv ds)[k]? = some (.string x) := ⟨⟨ds[k].1.toArray⟩, by simp [nv, hlt]⟩
          obtain ⟨y, hy⟩ : ∃ y : ByteArray, (av ds)[k]? = some (.string y) := ⟨⟨ds[k].2.toArray⟩, by simp [av, hlt]⟩
          have c1 : wr.cell? ⟨g, k * 2, none⟩ = some (.string x) := by rw [hD.cellAt _ (by omega), dv_even, hx]
          have c2 : wr.cell? ⟨g, k * 2 + 1, none⟩ = some (.string y) := by rw [hD.cellAt _ (by omega), dv_odd, hy]
          have d1 : wr.cell? ⟨w1.heap.size, k, none⟩ = some (.string ⟨#[]⟩) := by rw [hN.cellAt _ (by omega), part_at _ _ _ (by rw [nv_length]; exact hlt)]
          have d2 : wr.cell? ⟨w2.heap.size, k, none⟩ = some (.string ⟨#[]⟩) := by rw [hA.cellAt _ (by omega), part_at _ _ _ (by rw [av_length]; exact hlt)]
          have f1 := hN.frozenAt k
          have f2 := hA.frozenAt k
          have HX : Hid ((nv ds)[k]? = some (.string x)) := hx
          have HY : Hid ((av ds)[k]? = some (.string y)) := hy
          clear hx hy
          go_wp2
          go_roundw
          case rel =>
            refine ⟨k + 1, by omega, by go_num, ?_, ?_, ?_, ?_⟩
            · have := (hN.stored k (.string x)).1
              rw [part_set _ _ _ _ HX.out] at this
              exact ownsRow_setCell_other this (by simpa [Value.ownBlock] using h12) _
            · have := (ownsRow_setCell_other hA (a := ⟨w1.heap.size, k, none⟩) (by simpa [Value.ownBlock] using fun e => h12 e.symm) (.string x))
              have h2 := (this.stored k (.string y)).1
              rw [part_set _ _ _ _ HY.out] at h2
              exact h2
            · exact ownsRow_setCell_other (ownsRow_setCell_other hD (by simpa [Value.ownBlock] using hg1) _) (by simpa [Value.ownBlock] using hg2') _
            · exact (hB.setCell hBs _).setCell hBs2 _
          case measure => simp [intOf]; omega
        · have e : k = ds.length := by omega
          subst e
          clear hnq
          go_wp2
          go_ret3
          have hpN := part_all (nv ds) (.string ⟨#[]⟩)
          rw [nv_length] at hpN
          have hpA := part_all (av ds) (.string ⟨#[]⟩)
          rw [av_length] at hpA
          rw [hpN] at hN
          rw [hpA] at hA
          have hap : Apart (.slice (some ⟨w1.heap.size, 0, none⟩) ds.length ds.length) (.slice (some ⟨w2.heap.size, 0, none⟩) ds.length ds.length) := by
            intro m h1 h2
            simp only [Value.ownBlock, Option.some.injEq] at h1 h2
            omega
          have hTR : TwoRows w.heap.size w wr (.slice (some ⟨w1.heap.size, 0, none⟩) ds.length ds.length) (.slice (some ⟨w2.heap.size, 0, none⟩) ds.length ds.length) ds :=
            ⟨hN, hA, hap, fun h => absurd hpos (by rw [h]; simp), fun _ => ⟨(fun h => by cases h), (fun h => by cases h)⟩, hB⟩
          exact .inr ⟨ds, _, _, HO.out, rfl, hTR⟩

end Go.Proofs.Qxb6604015aDoor
