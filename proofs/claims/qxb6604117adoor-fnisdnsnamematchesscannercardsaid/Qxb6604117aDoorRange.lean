import Derived.Test.Qxb6604117aDoorIter
namespace Go.Proofs.Qxb6604117aDoor
open Go.RowKit Go.Shelf

/-- How a round's body may be left: it goes on, or it returns. -/
def boxedPost (B : Nat) (I Ix : List (List UInt8) → World → Prop) (xs : List (List UInt8)) (W : World) : Exit → Act → World → Prop
  | .normal, _, W' => KeepsOthers W W' ∧ Below B W W' ∧ I xs W'
  | .ret, _, W' => KeepsOthers W W' ∧ Ix xs W'
  | _, _, _ => False

/-- A loop over strings.SplitSeq(s, "."), whose iterator writes its own variable (block Bs) between two rounds: the caller's word I abides that write. -/
theorem range_boxed {P : Program} {n gf Bs : Nat} {lb : Array Value} {g : Operand} {p : Tmp} {assign body : Code} {Q : Exit → Act → World → Prop} {a : Act} {w : World} {s : List UInt8}
    (hg : a.eval g = .func (.func gf) #[] lb) (eg : ∀ args w, (callFunc gf args).run P w = .ok (.enter gf args) w)
    (I Ix : List (List UInt8) → World → Prop) (hI : OwnFrom w.heap.size I) (hIx : OwnFrom w.heap.size Ix) (hIs : ∀ pre W v, I pre W → I pre (W.setCell ⟨Bs, 0, none⟩ v)) (h0 : I [] w)
    (hiter : ∀ (l : Nat) (J Jx : List (List UInt8) → World → Prop) (W : World), Below w.heap.size w W → (∀ pre W v, J pre W → J pre (W.setCell ⟨Bs, 0, none⟩ v)) →
      (∀ pre (x : ByteArray) W1, J pre W1 → x.size ≤ 253 → YieldAt Fence.wide (n - 1 - 1) P l #[.string x] W1 fun e W' =>
        (e = .returned (.bool true) ∧ J (pre ++ [x.data.toList]) W' ∧ Below w.heap.size W1 W') ∨ (e = .returned (.bool false) ∧ Jx (pre ++ [x.data.toList]) W')) →
      J [] W → CallsIn Fence.wide (n - 1) P gf (#[.func (.yield l) #[] #[]] ++ lb) W fun e W' => (∃ v, e = .returned v) ∧ Came J Jx s W')
    (hround : ∀ (l : Nat) (pre : List (List UInt8)) (x : ByteArray) (W W2 : World), I pre W2 → x.size ≤ 253 → w.heap.size ≤ W2.heap.size →
      assign.wpIn (Fence.wide.inRound l) (n - 1 - 1) P (Exit.then (fun a1 W1 => W1 = W ∧ body.wpIn (Fence.wide.inRound l) (n - 1 - 1) P (boxedPost w.heap.size I Ix (pre ++ [x.data.toList]) W2) a1 W2) (fun _ _ _ => False))
        { tmps := a.tmps.setIfInBounds p (.string x), defers := [] } W)
    (hdone : ∀ (D : Nat) (W : World), w.heap.size ≤ D → I (labels s) W → W.heap[D]? = some (.deferred (some [])) → Q .normal { a with defers := { target := .collected D, args := #[] } :: a.defers } W)
    (hstop : ∀ (D : Nat) (pre : List (List UInt8)) (W : World), w.heap.size ≤ D → pre <+: labels s → Ix pre W → W.heap[D]? = some (.deferred (some [])) →
      Code.ret.wpIn Fence.wide n P Q { a with defers := { target := .collected D, args := #[] } :: a.defers } W) :
    (Code.rangeFunc g #[p] assign body).wpIn Fence.wide n P Q a w := by
  refine wpIn_rangeFunc fun fn hfn => ?_
  -- the loop's record, by its state and its pending jump
  obtain ⟨rc, hrc⟩ : ∃ rc : LoopState → Option Code → Loop, rc = fun st pe => { state := st, pending := pe, fn, tmps := a.tmps, params := #[p], assign, body, defers := w.heap.size } := ⟨_, rfl⟩
  obtain ⟨L, hL⟩ : ∃ L, L = w.heap.size + 1 := ⟨_, rfl⟩
  obtain ⟨W1, hW1⟩ : ∃ W1, (w.alloc (.deferred (some []))).alloc (.loop (rc .ready none)) = W1 := ⟨_, rfl⟩
  -- what the walk of the iterator carries beside the caller's word
  let Bk : World → LoopState → Option Code → Prop := fun W st pe => W.heap[L]? = some (.loop (rc st pe)) ∧ W.heap[w.heap.size]? = some (.deferred (some []))
  have b1 : Bk W1 .ready none := by
    constructor
    · rw [← hW1, hL]; have := World.alloc_heap_new (w.alloc (.deferred (some []))) (.loop (rc .ready none)); rwa [World.size_alloc] at this
    · rw [← hW1]; exact (Below.heap_alloc _ _ _ (by simp)).trans (World.alloc_heap_new w _)
  have i1 : I [] W1 := by rw [← hW1]; exact hI.alloc _ (hI.alloc _ h0)
  have w1 : Below w.heap.size w W1 := by rw [← hW1]; exact ((Below.refl _ w).alloc (Nat.le_refl _) _).alloc (by simp) _
  have put : ∀ {W : World} {st : LoopState} {pe : Option Code} (st' : LoopState) (pe' : Option Code), Bk W st pe → Bk (W.putObj L (.loop (rc st' pe'))) st' pe' := fun st' pe' h =>
    ⟨World.putObj_heap_same (Array.getElem?_eq_some_iff.1 h.1).1, (World.putObj_heap_other (by omega)).trans h.2⟩
  have kept : ∀ {W W' : World} {st : LoopState} {pe : Option Code}, Bk W st pe → KeepsOthers W W' → Bk W' st pe := fun h k => ⟨k.same _ _ h.1 rfl, k.same _ _ h.2 rfl⟩
  have bel : ∀ {W : World} {st : LoopState} {pe : Option Code} (o : Obj), Bk W st pe → Below w.heap.size W (W.putObj L o) := fun o h =>
    belowK_b (w := w) (Nat.le_refl _) _ L _ _ (by omega) h.1 rfl rfl
  refine ⟨L, [{ target := .collected w.heap.size, args := #[] }], W1, { target := .fn (.func gf) lb, args := #[.func (.yield L) #[] #[]] }, W1, gf, #[.func (.yield L) #[] #[]] ++ lb, W1, ?_, ?_, fun _ _ => trivial, ?_, fun h => by simp [Fence.wide] at h, ?_⟩
  · rw [← hW1, hrc, hL]; exact run_enterLoop_outer _ _ _ _ _
  · simp only [resolve, hg]
    simp [go_sem]
  · simp [invoke, go_sem, eg]
  · refine (hiter L (fun pre W => I pre W ∧ Bk W .ready none) (fun pre W => Ix pre W ∧ Bk W .done (some .ret)) W1 w1 (fun pre W v h => ⟨hIs pre W v h.1, kept h.2 (KeepsOthers.setCell _ _ _)⟩) ?_ ⟨i1, b1⟩).mono ?_
    · rintro pre x W ⟨hi, hb⟩ hx
      have hy := run_yield (P := P) (args := #[.string x]) hb.1 (by rw [hrc]; rfl)
      rw [hrc] at hy
      refine ⟨fn, _, assign, body, hy, roundIn_of_wpIn hfn ?_⟩
      have hz : (((#[p] : Array Tmp).zip #[Value.string x]).foldl (fun t (q, v) => t.setIfInBounds q v) a.tmps) = a.tmps.setIfInBounds p (.string x) := by simp
      have hbr := run_beginRound (P := P) hb.1 (by rw [hrc])
      have e2 : ({ rc .ready none with state := .busy } : Loop) = rc .busy none := by rw [hrc]
      rw [e2] at hbr
      have hb2 := put .busy none hb
      have hi2 : I pre (W.putObj L (.loop (rc .busy none))) := hI.putObj _ hi (by omega) hb.1 rfl
      have hsz : w.heap.size ≤ (W.putObj L (.loop (rc .busy none))).heap.size := Nat.le_of_lt (Array.getElem?_eq_some_iff.1 hb2.2).1
      rw [hz]
      refine wpIn_mono (hround L pre x W _ hi2 hx hsz) ?_
      rintro e1 a1 Wx hx1
      cases e1 with
      | normal =>
        obtain ⟨rfl, hbd⟩ := hx1
        refine ⟨_, hbr, wpIn_mono hbd ?_⟩
        have fin : ∀ (jump : Option Code) (W3 : World), Bk W3 .busy none → (Instr.endRound L jump).run P W3 = .ok (.bool jump.isNone) (W3.putObj L (.loop (rc (if jump.isNone then .ready else .done) jump))) := fun jump W3 h3 => by
          have := run_endRound (P := P) jump h3.1
          have e3 : ({ rc .busy none with state := if jump.isNone then .ready else .done, pending := jump } : Loop) = rc (if jump.isNone then .ready else .done) jump := by rw [hrc]
          rwa [e3] at this
        rintro e a3 W3 hp
        cases e with
        | normal =>
          obtain ⟨k3, l3, j3⟩ := hp
          have hb3 := kept hb2 k3
          exact ⟨_, _, fin none W3 hb3, .inl ⟨rfl, ⟨hI.putObj _ j3 (by omega) hb3.1 rfl, put .ready none hb3⟩, ((bel _ hb).trans l3).trans (bel _ hb3)⟩⟩
        | ret =>
          obtain ⟨k3, j3⟩ := hp
          have hb3 := kept hb2 k3
          exact ⟨_, _, fin (some .ret) W3 hb3, .inr ⟨rfl, hIx.putObj _ j3 (by omega) hb3.1 rfl, put .done (some .ret) hb3⟩⟩
        | exit id => exact hp.elim
        | goto t => exact hp.elim
        | panic ch => exact hp.elim
        | outgrown => exact hp.elim
      | exit id => exact hx1.elim
      | goto t => exact hx1.elim
      | ret => exact hx1.elim
      | panic ch => exact hx1.elim
      | outgrown => exact hx1.elim
    · rintro e W2 ⟨⟨v, rfl⟩, (⟨hi, hb⟩ | ⟨pre, hp, hi, hb⟩)⟩
      · have he := run_endLoop (P := P) hb.1 (by rw [hrc]; simp)
        have hq := hdone w.heap.size (W2.putObj L (.loop { rc .ready none with state := .exhausted })) (Nat.le_refl _) (hI.putObj _ hi (by omega) hb.1 rfl) ((World.putObj_heap_other (by omega)).trans hb.2)
        refine ⟨none, _, ?_, hq⟩
        rw [he, hrc]
      · have he := run_endLoop (P := P) hb.1 (by rw [hrc]; simp)
        have hq := hstop w.heap.size pre (W2.putObj L (.loop { rc .done (some .ret) with state := .exhausted })) (Nat.le_refl _) hp (hIx.putObj _ hi (by omega) hb.1 rfl) ((World.putObj_heap_other (by omega)).trans hb.2)
        refine ⟨some .ret, _, ?_, hq⟩
        rw [he, hrc]

end Go.Proofs.Qxb6604117aDoor
