import Derived.Test.Qxb6604678aGreatFmtW3
import Derived.Maps.AppendAt
import Derived.Deep.AppendLies
import Derived.OwnWalk
import Derived.Deep.LoopGhost
namespace Go.Proofs.Qxb6604678aGreatFmt
open Go Go.RowKit

/-- The parser's three cells in block B. -/
structure PS (B : Nat) (doc : ByteArray) (pos : Nat) (W : World) : Prop where
  d : W.cell? ⟨B, 0, none⟩ = some (.string doc)
  p : W.cell? ⟨B, 1, none⟩ = some (.int .i64 (pos : Int))
  l : W.cell? ⟨B, 2, none⟩ = some (.int .i64 1)
  f : W.frozen? ⟨B, 1, none⟩ = false
  lt : B < W.heap.size
  small : doc.size ≤ 1073741824
  le : pos ≤ doc.size

theorem size_setCell (W : World) (a : Addr) (v : Value) : (W.setCell a v).heap.size = W.heap.size := by
  unfold World.setCell
  split <;> simp
theorem grown_setCell (W : World) (a : Addr) (u : Value) : W.grownBy (W.setCell a u) (some a.block) :=
  ⟨rfl, rfl, rfl, by simp, fun k _ hk => Below.heap_setCell _ _ _ k (fun e => hk (by rw [e]))⟩

theorem PS.set {B : Nat} {doc : ByteArray} {pos : Nat} {W : World} (h : PS B doc pos W) (q : Nat) (hq : q ≤ doc.size) : PS B doc q (W.setCell ⟨B, 1, none⟩ (.int .i64 (q : Int))) :=
  ⟨(World.cell?_setCell_other _ _ _ _ (by intro e; simp only [Addr.mk.injEq] at e; omega)).trans h.d, World.cell?_setCell_same' _ _ _ (by rw [h.p]; rfl),
   (World.cell?_setCell_other _ _ _ _ (by intro e; simp only [Addr.mk.injEq] at e; omega)).trans h.l, by rw [World.frozen?_setCell]; exact h.f, by rw [size_setCell]; exact h.lt, h.small, hq⟩
theorem PS.draws {B : Nat} {doc : ByteArray} {pos : Nat} {W : World} (h : PS B doc pos W) (n : Nat) : PS B doc pos (W.drewN n) := ⟨h.d, h.p, h.l, h.f, h.lt, h.small, h.le⟩
theorem PS.kept {B : Nat} {doc : ByteArray} {pos : Nat} {W W' : World} {row : Option Nat} (h : PS B doc pos W) (hg : W.grownBy W' row) (hne : some B ≠ row) : PS B doc pos W' :=
  ⟨(hg.cell_far ⟨B, 0, none⟩ h.lt hne).trans h.d, (hg.cell_far ⟨B, 1, none⟩ h.lt hne).trans h.p, (hg.cell_far ⟨B, 2, none⟩ h.lt hne).trans h.l, (hg.frozen_far ⟨B, 1, none⟩ h.lt hne).trans h.f, Nat.lt_of_lt_of_le h.lt hg.size, h.small, h.le⟩
theorem grown_draws {a w : World} {row : Option Nat} (h : a.grownBy w row) (n : Nat) : a.grownBy (w.drewN n) row := h.trans ⟨rfl, rfl, rfl, Nat.le_refl _, fun _ _ _ => rfl⟩
theorem grown_below {a w : World} {row : Option Nat} {n : Nat} (h : Below n a w) (hn : a.heap.size ≤ n) : a.grownBy w row := ⟨h.os, h.tape, h.output, h.size, fun k hk _ => h.block k (by omega)⟩

/-- The document, read on from a place. -/
def At (doc : ByteArray) (pos : Nat) (r : Bs) : Prop := doc.data.toList.drop pos = r
theorem At.lt {doc : ByteArray} {pos : Nat} {c : UInt8} {t : Bs} (h : At doc pos (c :: t)) : pos < doc.size := by
  have := congrArg List.length h
  simp only [List.length_drop, List.length_cons, Array.length_toList] at this
  have e : doc.data.size = doc.size := rfl
  omega
theorem At.get {doc : ByteArray} {pos : Nat} {c : UInt8} {t : Bs} (h : At doc pos (c :: t)) (hl : pos < doc.size) : doc[pos] = c := by
  unfold At at h
  rw [drop_idx doc pos hl] at h
  exact (List.cons.inj h).1
theorem At.next {doc : ByteArray} {pos : Nat} {c : UInt8} {t : Bs} (h : At doc pos (c :: t)) : At doc (pos + 1) t := by
  have hl := h.lt
  unfold At at h
  rw [drop_idx doc pos hl] at h
  exact (List.cons.inj h).2
theorem At.skip {doc : ByteArray} {pos : Nat} : ∀ {a t : Bs}, At doc pos (a ++ t) → At doc (pos + a.length) t := by
  intro a t h
  unfold At at *
  rw [← List.drop_drop, h, List.drop_left]

set_option maxRecDepth 100000 in
set_option maxHeartbeats 1600000 in
theorem isBare_any (c : UInt8) (w : World) : Calls Tryz.prog 21 #[.int .u8 (c.toNat : Int)] w fun e w' => Yes (bareB c) w e w' := by
  have hC := bare_cases c
  generalize bareB c = b at *
  generalize (c.toNat : Int) = n at *
  rcases hC with ⟨rfl, h1, h2, h3, h4, h5⟩ | ⟨rfl, h1, h2, h3, h4, h5⟩ | ⟨rfl, h1, h2, h3, h4⟩ | ⟨rfl, h1, h2, h3, h4, h5, h6⟩ | ⟨rfl, h1, h2⟩ | ⟨rfl, h1, h2, h3, h4, h5, h6, h7⟩ | ⟨rfl, h1, h2, h3, h4, h5, h6⟩ | ⟨rfl, h1, h2, h3, h4⟩ | ⟨rfl, h1, h2, h3, h4, h5, h6, h7, h8⟩
  all_goals
    go_enter Tryz.func21, Tryz.ntmps21
    go_wp2
    go_ret
    exact ⟨rfl, rfl⟩

/-- It answers v; nothing but the count of the draws has turned. -/
def Reads (v : Value) (w : World) (e : Ending) (w' : World) : Prop := e = .returned v ∧ ∃ m, w' = w.drewN m

set_option maxRecDepth 100000 in
set_option maxHeartbeats 1600000 in
theorem peek_any (B : Nat) (doc : ByteArray) (pos : Nat) (c : UInt8) (t : Bs) (w : World) (hP : PS B doc pos w) (hA : At doc pos (c :: t)) :
    Calls Tryz.prog 18 #[.pointer (some ⟨B, 0, none⟩)] w fun e w' => Reads (.int .u8 (c.toNat : Int)) w e w' := by
  have c1 := hP.d
  have c2 := hP.p
  have hlt := hA.lt
  have hget := hA.get hlt
  have hne : ((pos : Int) == (doc.size : Int)) = false := beq_eq_false_iff_ne.2 (by omega)
  have hi : (pos : Int) < (doc.size : Int) := by omega
  have h0 : (0 : Int) ≤ (pos : Int) := by omega
  clear hA hP
  go_enter Tryz.func18, Tryz.ntmps18
  go_wp2_with fail
  go_quiet (fail)
  go_wp2_with fail
  go_quiet (fail)
  go_wp2
  go_ret
  exact ⟨by rw [← hget]; rfl, _, by rw [World.drewN_drewN]⟩

/-- It answers v, and the parser stands at q. -/
def Goes (B : Nat) (doc : ByteArray) (q : Nat) (v : Value) (w : World) (e : Ending) (w' : World) : Prop := e = .returned v ∧ PS B doc q w' ∧ w.grownBy w' (some B)

set_option maxRecDepth 100000 in
set_option maxHeartbeats 1600000 in
theorem consume_no (B : Nat) (doc : ByteArray) (pos : Nat) (c d : UInt8) (t : Bs) (w : World) (hP : PS B doc pos w) (hA : At doc pos (c :: t)) (hcd : c ≠ d) :
    Calls Tryz.prog 15 #[.pointer (some ⟨B, 0, none⟩), .int .u8 (d.toNat : Int)] w fun e w' => Goes B doc pos (.bool false) w e w' := by
  have CALL := peek_any B doc pos c t w hP hA
  have hn : ((c.toNat : Int) != (d.toNat : Int)) = true := by
    have := byte_is c d
    unfold bne
    rw [this]
    simpa using hcd
  have hn2 : ((c.toNat : Int) == (d.toNat : Int)) = false := by rw [byte_is]; simpa using hcd
  go_enter Tryz.func15, Tryz.ntmps15
  go_wp2_with fail
  refine CALL.mono ?_
  rintro e w1 ⟨rfl, m, rfl⟩
  clear CALL
  go_wp2
  go_ret
  exact ⟨rfl, hP.draws m, grown_draws (World.grownBy.refl _ _) m⟩

set_option maxRecDepth 100000 in
set_option maxHeartbeats 1600000 in
theorem consume_yes (B : Nat) (doc : ByteArray) (pos : Nat) (d : UInt8) (t : Bs) (w : World) (hP : PS B doc pos w) (hA : At doc pos (d :: t)) :
    Calls Tryz.prog 15 #[.pointer (some ⟨B, 0, none⟩), .int .u8 (d.toNat : Int)] w fun e w' => Goes B doc (pos + 1) (.bool true) w e w' := by
  have CALL := peek_any B doc pos d t w hP hA
  have hlt := hA.lt
  go_enter Tryz.func15, Tryz.ntmps15
  go_wp2_with fail
  refine CALL.mono ?_
  rintro e w1 ⟨rfl, m, rfl⟩
  clear CALL
  have hP2 := hP.draws m
  have hG := grown_draws (World.grownBy.refl w (some B)) m
  generalize w.drewN m = W at *
  have c2 := hP2.p
  have c3 := hP2.f
  have hsm := hP2.small
  have hw1 : IntKind.i64.wrap ((pos : Int) + 1) = ((pos + 1 : Nat) : Int) := by rw [IntKind.wrap_i64]; omega
  have hR := hP2.set (pos + 1) (by omega)
  go_wp2
  go_ret
  exact ⟨rfl, hR, hG.trans (grown_setCell _ _ _)⟩

def blank (c : UInt8) : Bool := c == 32 || c == 9

set_option maxRecDepth 100000 in
set_option maxHeartbeats 3200000 in
theorem skip_any (B : Nat) (doc : ByteArray) (pos : Nat) (a : Bs) (c : UInt8) (t : Bs) (w : World) (hP : PS B doc pos w) (hA : At doc pos (a ++ c :: t)) (ha : a.all blank = true) (hc : blank c = false) :
    Calls Tryz.prog 13 #[.pointer (some ⟨B, 0, none⟩)] w fun e w' => (∃ v, e = .returned v) ∧ PS B doc (pos + a.length) w' ∧ w.grownBy w' (some B) := by
  go_enter Tryz.func13, Tryz.ntmps13
  go_wp2_with fail
  go_loopg [2] a.length (fun g _ wx => ∃ (b : Bs) (q : Nat), b.length = g ∧ q + g = pos + a.length ∧ PS B doc q wx ∧ Hid (At doc q (b ++ c :: t)) ∧ Hid (b.all blank = true) ∧ w.grownBy wx (some B))
  case atStart => exact ⟨a, pos, rfl, rfl, hP, hA, ha, World.grownBy.refl _ _⟩
  case round =>
    obtain ⟨b, q, hb, hq, hPb, HA, HB, hG⟩ := hrel
    have c1 := hPb.d
    have c2 := hPb.p
    have c3 := hPb.f
    have hsm := hPb.small
    have h0 : (0 : Int) ≤ (q : Int) := by omega
    cases b with
    | nil =>
      simp only [List.length_nil] at hb
      subst hb
      have HA' : At doc q (c :: t) := HA.out
      have hlt := HA'.lt
      have hget := HA'.get hlt
      have hi : (q : Int) < (doc.size : Int) := by omega
      have hd : decide ((q : Int) < (doc.size : Int)) = true := by simpa using hi
      have b1 : ((doc[q].toNat : Int) == 32) = false := by rw [hget, show (32 : Int) = ((32 : UInt8).toNat : Int) from rfl, byte_is]; simp [blank] at hc; simpa using hc.1
      have b2 : ((doc[q].toNat : Int) == 9) = false := by rw [hget, show (9 : Int) = ((9 : UInt8).toNat : Int) from rfl, byte_is]; simp [blank] at hc; simpa using hc.2
      clear HA' hget
      go_wp2_with fail
      go_quiet (fail)
      go_wp2
      go_end0
      exact ⟨⟨_, rfl⟩, by rw [← hq]; exact hPb.draws _, grown_draws hG _⟩
    | cons x b =>
      have HA' : At doc q (x :: (b ++ c :: t)) := HA.out
      have hlt := HA'.lt
      have hget := HA'.get hlt
      have HN : Hid (At doc (q + 1) (b ++ c :: t)) := HA'.next
      have hx : blank x = true ∧ b.all blank = true := by have := HB.out; simpa using this
      have HB' : Hid (b.all blank = true) := hx.2
      have hi : (q : Int) < (doc.size : Int) := by omega
      have hd : decide ((q : Int) < (doc.size : Int)) = true := by simpa using hi
      have hw1 : IntKind.i64.wrap ((q : Int) + 1) = ((q + 1 : Nat) : Int) := by rw [IntKind.wrap_i64]; omega
      have hbl := hx.1
      have HX := hget
      simp only [List.length_cons] at hb
      have hqb : q + 1 + b.length = pos + a.length := by omega
      clear hx HA' HB HA
      have hcs : ((doc[q].toNat : Int) == 32) = true ∨ (((doc[q].toNat : Int) == 32) = false ∧ ((doc[q].toNat : Int) == 9) = true) := by
        rw [hget, show (32 : Int) = ((32 : UInt8).toNat : Int) from rfl, show (9 : Int) = ((9 : UInt8).toNat : Int) from rfl, byte_is, byte_is]
        unfold blank at hbl
        cases h1 : (x == 32) <;> simp_all
      clear hbl hget HX
      rcases hcs with b1 | ⟨b1, b2⟩
      all_goals
        go_wp2_with fail
        go_quiet (fail)
        go_wp2
        go_roundg b.length
      case measure => omega
      case measure => omega
      all_goals exact ⟨b, q + 1, rfl, hqb, (hPb.draws _).set (q + 1) (by omega), HN, HB', (grown_draws hG _).trans (grown_setCell _ _ _)⟩
end Go.Proofs.Qxb6604678aGreatFmt
