import Derived.Test.Qxb6604117aDoorRange
import Derived.Laws.IdiomStrings
import Derived.RangeFuncCalls
namespace Go.Proofs.Qxb6604117aDoor
open Go.RowKit Go.Shelf

attribute [local go_sem] Oper.semAt_some

theorem boxAt {W : World} {B : Nat} {v : Value} {t : TypeId} (h : W.heap[B]? = some (.cells #[v] t)) : W.cell? ⟨B, 0, none⟩ = some v ∧ W.frozen? ⟨B, 0, none⟩ = false :=
  ⟨by simp [World.cell?, h], by simp [World.frozen?, h]⟩
theorem boxNew (W : World) (v : Value) (t : TypeId) : (W.alloc (.cells #[v] t)).cell? ⟨W.heap.size, 0, none⟩ = some v ∧ (W.alloc (.cells #[v] t)).frozen? ⟨W.heap.size, 0, none⟩ = false :=
  boxAt (World.alloc_heap_new W _)
theorem boxOld {W : World} {a : Addr} {v : Value} (o : Obj) (h : W.cell? a = some v) : (W.alloc o).cell? a = some v := cell_kept h (World.grownBy_alloc W o none) (fun r e => by cases e)
theorem boxOldF {W : World} {a : Addr} {v : Value} (o : Obj) (h : W.cell? a = some v) (hf : W.frozen? a = false) : (W.alloc o).frozen? a = false := (frozen_kept h (World.grownBy_alloc W o none) (fun r e => by cases e)).trans hf

/-- What strings.SplitSeq(s, ".") leaves behind: a function value over three new variables. -/
def Made (s : ByteArray) (w : World) (e : Ending) (w' : World) : Prop :=
  e = .returned (.func (.func 14) #[] #[.pointer (some ⟨w.heap.size + 1, 0, none⟩), .pointer (some ⟨w.heap.size, 0, none⟩), .pointer (some ⟨w.heap.size + 2, 0, none⟩)]) ∧
    Boxes w.heap.size (w.heap.size + 1) (w.heap.size + 2) s w' ∧ w'.heap.size = w.heap.size + 3 ∧ Below w.heap.size w w'

set_option maxRecDepth 100000 in
theorem splitSeq_any (s : ByteArray) (w : World) : Calls Tryd.prog 12 #[.string s, .string ⟨#[46]⟩, .int .i64 0] w fun e w' => Made s w e w' := by
  have c0 := boxNew w (.string s) 9
  have c1 := boxNew (w.alloc (.cells #[.string s] 9)) (.string ⟨#[46]⟩) 9
  have c2 := boxNew ((w.alloc (.cells #[.string s] 9)).alloc (.cells #[.string ⟨#[46]⟩] 9)) (.int .i64 0) 3
  simp only [World.size_alloc] at c1 c2
  go_enter Tryd.func12, Tryd.ntmps12
  go_wp2
  go_ret
  refine ⟨rfl, ⟨?_, ?_, ?_, ?_⟩, by simp, ((Below.refl _ w).alloc (Nat.le_refl _) _).alloc (by simp) _ |>.alloc (by simp; omega) _⟩
  · exact boxOld _ (boxOld _ c0.1)
  · exact boxOldF _ (boxOld _ c0.1) (boxOldF _ c0.1 c0.2)
  · exact boxOld _ c1.1
  · exact c2.1

set_option maxRecDepth 100000 in
theorem SplitSeq_any (s : ByteArray) (w : World) : Calls Tryd.prog 10 #[.string s, .string ⟨#[46]⟩] w fun e w' => Made s w e w' := by
  go_enter Tryd.func10, Tryd.ntmps10
  go_wp2_with fail
  refine (splitSeq_any s w).mono ?_
  rintro e w' ⟨rfl, h⟩
  go_wp2
  go_ret
  exact ⟨rfl, h⟩

/-- The name behind a leading star and dot, where that is let by. -/
def strip (b : Bool) (s : List UInt8) : List UInt8 := if b then Lib.trimPrefix s [42, 46] else s

def dnsOk (b : Bool) (s : List UInt8) : Bool := decide ((strip b s).length ≤ 253) && (labels (strip b s)).all okLabel

def DnsSays (b : Bool) (s : List UInt8) (w : World) (e : Ending) (w' : World) : Prop := e = .returned (.bool (dnsOk b s)) ∧ Below w.heap.size w w'

theorem empty_no {b : ByteArray} (h : ¬ b.size = 0) : b.toList.isEmpty = false := by
  rw [ByteArray.toList_eq]
  cases hb : b.data.toList with
  | nil => have := congrArg List.length hb; rw [Array.length_toList] at this; have e : b.data.size = b.size := rfl; simp only [List.length_nil] at this; omega
  | cons a l => rfl

/-- The world behind []byte(x). -/
def madeW (W : World) (x : ByteArray) : World :=
  (W.alloc (.cells (bytesRow x (grownCap W x.size 0 5)) 5 ((bytesRow x (grownCap W x.size 0 5)).size, (bytesRow x (grownCap W x.size 0 5)).size + 1))).drew

theorem madeW_cell (W : World) (x : ByteArray) (k : Nat) (hk : k < x.size) : (madeW W x).cell? ⟨W.heap.size, k, none⟩ = some (.int .u8 (x[k].toNat : Int)) := by
  have h : (madeW W x).heap[W.heap.size]? = some _ := World.alloc_heap_new W _
  rw [cell_of_row _ _ _ _ _ _ h, bytesRow_at x _ k (by simpa using hk)]
  rfl
theorem madeW_keeps (W : World) (x : ByteArray) : KeepsOthers W (madeW W x) := (KeepsOthers.alloc W _).trans (KeepsOthers.drew _)
theorem madeW_below {B : Nat} {V W : World} (x : ByteArray) (h : Below B V W) (hB : B ≤ W.heap.size) : Below B V (madeW W x) := (h.alloc hB _).drew

theorem ne45 {c : UInt8} (h : c ≠ 45) : ((c.toNat : Int) == 45) = false := by
  have : c.toNat ≠ 45 := fun e => h (UInt8.toNat_inj.1 (by simpa using e))
  simp; omega
theorem edge_long {x : ByteArray} (h : 63 < x.size) : edge x.data.toList = true := by
  have : 63 < x.data.toList.length := by simpa using h
  simp only [edge, decide_eq_true this, Bool.or_true, Bool.true_or]
theorem at_data (x : ByteArray) (k : Nat) (h : k < x.size) : x.data.toList[k]? = some x[k] := by
  rw [List.getElem?_eq_getElem (by simpa using h)]; rfl
theorem edge_head {x : ByteArray} (h : 0 < x.size) (e : x[0] = 45) : edge x.data.toList = true := by
  simp only [edge, at_data x 0 h, e, BEq.rfl, Bool.or_true, Bool.true_or]
theorem edge_last {x : ByteArray} (h : x.size - 1 < x.size) (e : x[x.size - 1] = 45) : edge x.data.toList = true := by
  have hl : x.data.toList.length = x.size := by simp
  simp only [edge, hl, at_data x _ h, e, BEq.rfl, Bool.or_true]
theorem edge_no {x : ByteArray} (h0 : ¬ x.size = 0) (h1 : ¬ 63 < x.size) (h2 : x[0] ≠ 45) (h3 : x[x.size - 1] ≠ 45) : edge x.data.toList = false := by
  have hl : x.data.toList.length = x.size := by simp
  have he : x.data.toList.isEmpty = false := by
    cases hx : x.data.toList with
    | nil => rw [hx] at hl; simp at hl; omega
    | cons a b => rfl
  have e2 : (some x[0] == some (45 : UInt8)) = false := by simpa using h2
  have e3 : (some x[x.size - 1] == some (45 : UInt8)) = false := by simpa using h3
  simp only [edge, hl, he, decide_eq_false h1, at_data x 0 (by omega), at_data x (x.size - 1) (by omega), e2, e3, Bool.or_self]

def LdhI (n : Int) : Prop := (97 ≤ n ∧ n ≤ 122) ∨ (65 ≤ n ∧ n ≤ 90) ∨ (48 ≤ n ∧ n ≤ 57) ∨ n = 45
theorem ldh_yes {c : UInt8} (h : LdhI c.toNat) : ldh c = true := by
  unfold LdhI at h
  unfold ldh
  simp only [Bool.or_eq_true, Bool.and_eq_true, decide_eq_true_eq]
  omega
theorem ldh_no {c : UInt8} (h : ¬ LdhI c.toNat) : ldh c = false := by
  unfold LdhI at h
  rw [Bool.eq_false_iff]
  unfold ldh
  simp only [ne_eq, Bool.or_eq_true, Bool.and_eq_true, decide_eq_true_eq]
  omega
theorem ldh_step {x : ByteArray} {k : Nat} (hk : k < x.size) (h : (x.data.toList.take k).all ldh = true) (hc : ldh x[k] = true) : (x.data.toList.take (k + 1)).all ldh = true := by
  have hk' : k < x.data.toList.length := by simpa using hk
  rw [List.take_succ_eq_append_getElem hk', List.all_append, h]
  have : x.data.toList[k] = x[k] := rfl
  simp [this, hc]
theorem ldh_bad {x : ByteArray} {k : Nat} (hk : k < x.size) (hc : ldh x[k] = false) : okLabel x.data.toList = false := by
  have hk' : k < x.data.toList.length := by simpa using hk
  have hm : x[k] ∈ x.data.toList := List.getElem_mem hk'
  have : x.data.toList.all ldh = false := by
    rw [Bool.eq_false_iff]; intro h
    have := List.all_eq_true.1 h _ hm
    rw [hc] at this; cases this
  simp only [okLabel, this, Bool.and_false]

/-- Between two rounds; and behind a round that has returned. -/
def DI (w : World) (pre : List (List UInt8)) (W : World) : Prop := (pre.all okLabel = true ∧ W.cell? ⟨w.heap.size, 0, none⟩ = some (.bool false) ∧ W.frozen? ⟨w.heap.size, 0, none⟩ = false) ∧ Below w.heap.size w W
def DX (w : World) (pre : List (List UInt8)) (W : World) : Prop := (pre.all okLabel = false ∧ W.cell? ⟨w.heap.size, 0, none⟩ = some (.bool false)) ∧ Below w.heap.size w W

theorem DI.own (w : World) {B : Nat} (hB : w.heap.size ≤ B) : OwnFrom B (DI w) :=
  OwnFrom.and (Own.from (fun _ _ _ _ hs hg hr => ⟨hs.1, cell_kept hs.2.1 hg hr, (frozen_kept hs.2.1 hg hr).trans hs.2.2⟩) _) (ownFrom_below (Nat.le_refl _) hB)
theorem DX.own (w : World) {B : Nat} (hB : w.heap.size ≤ B) : OwnFrom B (DX w) :=
  OwnFrom.and (Own.from (fun _ _ _ _ hs hg hr => ⟨hs.1, cell_kept hs.2 hg hr⟩) _) (ownFrom_below (Nat.le_refl _) hB)
theorem DI.set {w : World} {pre : List (List UInt8)} {W : World} (h : DI w pre W) (v : Value) : DI w pre (W.setCell ⟨w.heap.size + 1, 0, none⟩ v) :=
  ⟨⟨h.1.1, (World.cell?_setCell_other _ _ _ _ (by intro e; simp only [Addr.mk.injEq] at e; omega)).trans h.1.2.1, by rw [World.frozen?_setCell]; exact h.1.2.2⟩, h.2.setCell (p := ⟨w.heap.size + 1, 0, none⟩) (by simp) v⟩

set_option maxRecDepth 100000 in
set_option maxHeartbeats 1600000 in
theorem dns_in (n : Nat) (s0 : ByteArray) (b : Bool) (w : World) :
    CallsIn Fence.wide n Tryd.prog 7 #[.string s0, .bool b] w fun e w' => DnsSays b s0.data.toList w e w' := by
  have hd : Fence.wide.depth.isSome = true → 1 ≤ n := fun h => by simp [Fence.wide] at h
  have c0 := boxNew w (.bool false) 4
  have hB0 : Below w.heap.size w (w.alloc (.cells #[.bool false] 4)) := (Below.refl _ w).alloc (Nat.le_refl _) _
  obtain ⟨w0, hw0⟩ : ∃ w0, w.alloc (.cells #[.bool false] 4) = w0 := ⟨_, rfl⟩
  have hz0 : w0.heap.size = w.heap.size + 1 := by rw [← hw0]; simp
  rw [hw0] at c0 hB0
  obtain ⟨c0, f0⟩ := c0
  refine callsIn_of_wp_marks Tryd.func7 rfl trivial ?_ rfl
  simp only [Tryd.ntmps7, List.size_toArray, List.length_cons, List.length_nil, Nat.reduceAdd, Nat.reduceSub, Array.replicate_succ, Array.replicate_zero, List.push_toArray, List.append_toArray, List.nil_append, List.cons_append]
  obtain ⟨s, hT⟩ : ∃ s : ByteArray, strip b s0.data.toList = s.data.toList := ⟨⟨(strip b s0.data.toList).toArray⟩, by simp⟩
  cases b
  case' false =>
    obtain rfl : s = s0 := by
      have : s0.data.toList = s.data.toList := hT
      exact ByteArray.ext (Array.ext' this.symm)
  case' true =>
    have hs : (⟨(Lib.trimPrefix s0.data.toList (⟨#[42, 46]⟩ : ByteArray).data.toList).toArray⟩ : ByteArray) = s := ByteArray.ext (Array.ext' hT)
    gi_wp2_with fail
    refine ⟨trivial, hd, (callsIn_wide.2 (Tryd.strings_TrimPrefix s0 ⟨#[42, 46]⟩ w0)).mono ?_⟩
    rintro e w' ⟨he, hw'⟩
    rw [hs] at he
    subst he
    rw [hw']
    clear hw' hs
  all_goals (
    by_cases hlen : 253 < s.size
    · gi_wp2_with fail
      refine ⟨.bool false, by simp [results, Tryd.f7, go_sem, c0], ?_, hB0.setCell (p := ⟨w.heap.size, 0, none⟩) (Nat.le_refl _) _⟩
      have : ¬ s.data.toList.length ≤ 253 := by simpa using hlen
      rw [dnsOk, hT, decide_eq_false this]; rfl
    · gi_wp2_with fail
      refine ⟨trivial, hd, (callsIn_wide.2 (SplitSeq_any s w0)).mono ?_⟩
      rintro e w1 ⟨rfl, hX, hz, hB1⟩
      rw [hz0] at hX hz
      have hB : Below w.heap.size w w1 := hB0.trans (hB1.mono (by omega))
      have c1 : w1.cell? ⟨w.heap.size, 0, none⟩ = some (.bool false) := (hB1.cell (p := ⟨w.heap.size, 0, none⟩) (by show w.heap.size < w0.heap.size; omega)).trans c0
      have f1 : w1.frozen? ⟨w.heap.size, 0, none⟩ = false := (hB1.frozen (p := ⟨w.heap.size, 0, none⟩) (by show w.heap.size < w0.heap.size; omega)).trans f0
      clear c0 f0
      gi_wp2_with fail
      refine range_boxed (s := s.data.toList) (Bs := w.heap.size + 1) (gf := 14) rfl (enters_of Tryd.func14 (by kernel_rfl) rfl) (DI w) (DX w) (DI.own w (by omega)) (DX.own w (by omega)) (fun pre W v h => h.set v) ⟨⟨rfl, c1, f1⟩, hB⟩
        (fun l J Jx W hW hJs hY h0 => iter_in (n - 1) l (w.heap.size + 1) (w.heap.size + 1 + 1) (w.heap.size + 1 + 2) w1.heap.size s (by omega) J Jx (by omega) (by omega) (by omega) (by omega) (by omega) hJs hY W (hX.below hW (by omega) (by omega) (by omega)) h0) ?_ ?_ ?_
      · have hlt1 : w.heap.size < w1.heap.size := by omega
        clear hz
        intro l pre x W W2 hI hx hsz
        gi_wp2_with fail
        refine ⟨by trivial, ?_⟩
        obtain ⟨⟨ha, cc, ff⟩, hb⟩ := hI
        have hcv := fun W => run_bytes_of_string (P := Tryd.prog) W 9 28 5 x Tryd.underlying9 Tryd.underlying28 Tryd.underlying5
        have out : edge x.data.toList = true → DX w (pre ++ [x.data.toList]) (W2.setCell ⟨w.heap.size, 0, none⟩ (.bool false)) := fun hE =>
          ⟨⟨by simp [okLabel_false_of_edge hE], World.cell?_setCell_same' _ _ _ (by rw [cc]; rfl)⟩, hb.setCell (p := ⟨w.heap.size, 0, none⟩) (Nat.le_refl _) _⟩
        by_cases hx0 : x.size = 0
        · obtain rfl : x = ⟨#[]⟩ := ByteArray.ext (Array.eq_empty_of_size_eq_zero hx0)
          gi_wp2_with fail
          exact ⟨KeepsOthers.setCell _ _ _, out rfl⟩
        · have hxe : x.toList.isEmpty = false := empty_no hx0
          by_cases h63 : 63 < x.size
          · gi_wp2_with fail
            exact ⟨KeepsOthers.setCell _ _ _, out (edge_long h63)⟩
          · by_cases hh : x[0] = 45
            · have hh' : ((x[0].toNat : Int) == 45) = true := by rw [hh]; rfl
              gi_wp2_with fail
              exact ⟨KeepsOthers.setCell _ _ _, out (edge_head (by omega) hh)⟩
            · have hh' : ((x[0].toNat : Int) == 45) = false := ne45 hh
              by_cases hz : x[x.size - 1] = 45
              · have hz' : ((x[x.size - 1].toNat : Int) == 45) = true := by rw [hz]; rfl
                gi_wp2_with fail
                exact ⟨KeepsOthers.setCell _ _ _, out (edge_last (by omega) hz)⟩
              · have hz' : ((x[x.size - 1].toNat : Int) == 45) = false := ne45 hz
                have hE := edge_no hx0 h63 hh hz
                clear out
                gi_wp2_with fail
                obtain ⟨W3, hW3⟩ : ∃ W3, madeW W2 x = W3 := ⟨_, rfl⟩
                have kp : KeepsOthers W2 W3 := hW3 ▸ madeW_keeps W2 x
                have bl : Below w1.heap.size W2 W3 := hW3 ▸ madeW_below x (Below.refl _ _) hsz
                have hb3 : Below w.heap.size w W3 := hW3 ▸ madeW_below x hb hb.size
                have fk : Hid (∀ k (h : k < x.size), W3.cell? ⟨W2.heap.size, k, none⟩ = some (.int .u8 (x[k].toNat : Int))) := hW3 ▸ madeW_cell W2 x
                have cc3 : W3.cell? ⟨w.heap.size, 0, none⟩ = some (.bool false) := (bl.cell (p := ⟨w.heap.size, 0, none⟩) hlt1).trans cc
                have ff3 : W3.frozen? ⟨w.heap.size, 0, none⟩ = false := (bl.frozen (p := ⟨w.heap.size, 0, none⟩) hlt1).trans ff
                rw [show (W2.alloc (.cells (bytesRow x (grownCap W2 x.size 0 5)) 5 ((bytesRow x (grownCap W2 x.size 0 5)).size, (bytesRow x (grownCap W2 x.size 0 5)).size + 1))).drew = W3 from hW3]
                clear hW3 hcv hh' hz' cc ff hxe
                gi_loop [40] (fun iv => ∃ k : Nat, k ≤ x.size ∧ iv = .int .i64 k ∧ Hid ((x.data.toList.take k).all ldh = true)) (fun iv => x.size - (intOf iv).toNat)
                case atStart => exact ⟨0, Nat.zero_le _, rfl, rfl⟩
                case round =>
                  obtain ⟨k, hk, rfl, HA⟩ := hrel
                  by_cases hlt : k < x.size
                  · have ck := fk.out k hlt
                    have bad : ldh x[k] = false → KeepsOthers W2 (W3.setCell ⟨w.heap.size, 0, none⟩ (.bool false)) ∧ DX w (pre ++ [x.data.toList]) (W3.setCell ⟨w.heap.size, 0, none⟩ (.bool false)) := fun hc =>
                      ⟨kp.trans (KeepsOthers.setCell _ _ _), ⟨⟨by simp [ldh_bad hlt hc], World.cell?_setCell_same' _ _ _ (by rw [cc3]; rfl)⟩, hb3.setCell (p := ⟨w.heap.size, 0, none⟩) (Nat.le_refl _) _⟩⟩
                    have good : ldh x[k] = true → Hid ((x.data.toList.take (k + 1)).all ldh = true) := fun hc => ldh_step hlt HA.out hc
                    clear fk
                    by_cases he : x[k] = 45
                    · have g := good (by rw [he]; rfl)
                      have he1 : (x[k].toNat : Int) = 45 := by rw [he]; rfl
                      have he' : ((x[k].toNat : Int) == 45) = true := by rw [he]; rfl
                      gi_wp2_with fail
                      exact ⟨⟨k + 1, by omega, by go_num, g⟩, by simp [intOf]; omega⟩
                    · have he' := ne45 he
                      have he1 : (x[k].toNat : Int) ≠ 45 := by simpa using he'
                      gi_wp2_with fail
                      all_goals first
                        | exact bad (ldh_no (by unfold LdhI; omega))
                        | exact ⟨⟨k + 1, by omega, by go_num, good (ldh_yes (by unfold LdhI; omega))⟩, by simp [intOf]; omega⟩
                        | (rename_i hq; exfalso; simp at hq; omega)
                  · obtain rfl : k = x.size := by omega
                    gi_wp2_with fail
                    refine ⟨kp, bl, ⟨?_, cc3, ff3⟩, hb3⟩
                    have hall : x.data.toList.all ldh = true := by
                      have := HA.out
                      rwa [List.take_of_length_le (by simp)] at this
                    simp [ha, okLabel, hE, hall]
      · intro D W hD hI hK
        obtain ⟨⟨ha, cc, ff⟩, hb⟩ := hI
        gi_wp2_with fail
        have hK' := (KeepsOthers.setCell W ⟨w.heap.size, 0, none⟩ (.bool true)).same D _ hK rfl
        refine ⟨by simp, .inl ⟨_, _, rfl, run_takeDeferred hK', ?_⟩⟩
        have hc5 := cell_kept (World.cell?_setCell_same' W ⟨w.heap.size, 0, none⟩ (.bool true) (by rw [cc]; rfl)) (grownBy_putObj' _ D (.deferred none)) (fun r e => by cases e; exact ⟨_, hK', rfl⟩)
        refine ⟨.bool true, by simp [results, Tryd.f7, go_sem, hc5], ?_, (hb.setCell (p := ⟨w.heap.size, 0, none⟩) (Nat.le_refl _) _).trans (belowK_b (w := w) (Nat.le_refl _) _ D _ _ (by omega) hK' rfl rfl)⟩
        have hl : s.data.toList.length ≤ 253 := by simp; omega
        rw [dnsOk, hT, ha, decide_eq_true hl]; rfl
      · intro D pre W hD hp hI hK
        obtain ⟨⟨ha, cc⟩, hb⟩ := hI
        gi_wp2_with fail
        refine ⟨by simp, .inl ⟨_, _, rfl, run_takeDeferred hK, ?_⟩⟩
        have hc5 := cell_kept cc (grownBy_putObj' _ D (.deferred none)) (fun r e => by cases e; exact ⟨_, hK, rfl⟩)
        refine ⟨.bool false, by simp [results, Tryd.f7, go_sem, hc5], ?_, hb.trans (belowK_b (w := w) (Nat.le_refl _) W D _ _ (by omega) hK rfl rfl)⟩
        obtain ⟨post, hpost⟩ := hp
        rw [dnsOk, hT, ← hpost, List.all_append, ha]; simp)
end Go.Proofs.Qxb6604117aDoor
