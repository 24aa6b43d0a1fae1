import Derived.Test.Qxb6604678aGreatFmtQ
import Derived.Stop.CallBack
import Derived.Stop.IfaceNil
import GoSem.ClaimData
namespace Go.Proofs
open Go.Extern.Stop Go.Stop Go.Extern

theorem Tryz.call30 (args : Array Value) (w : World) : (callFunc 30 args).run Tryz.prog w = (FmtCalls.sprintf #[9, 46] #[9] args).run Tryz.prog w :=
  run_callFunc_next Tryz.func30 (by kernel_rfl) (by kernel_rfl) (by kernel_rfl) args w
theorem Tryz.call43 (args : Array Value) (w : World) : (callFunc 43 args).run Tryz.prog w = ((FmtStop.errorf #[9, 46] #[28] args).run Tryz.prog w).andThen fun v w' => .ok (.value v) w' :=
  run_callFunc_extern Tryz.func43 (by kernel_rfl) (by kernel_rfl) (by kernel_rfl) (by kernel_rfl) args w
theorem Tryz.guard (name : String) (w : World) : (FmtStop.guard name).run Tryz.prog w = .ok () w := by kernel_rfl
theorem Tryz.nextTurns : Extern.next FmtCalls.turnsRow = some (FmtCalls.begun #[] #[]) := by kernel_rfl
theorem Tryz.nextReturned : Extern.next FmtCalls.returnedRow = some (FmtCalls.returned #[] #[]) := by kernel_rfl
theorem Tryz.fmt0 : FmtStop.printed? ⟨#[102, 111, 117, 110, 100, 32, 37, 115, 32, 119, 104, 101, 114, 101, 32, 97, 32, 107, 101, 121, 32, 109, 117, 115, 116, 32, 98, 101]⟩ 1 = some [(0, 115, false)] := by kernel_rfl
theorem Tryz.fmt0r (w : World) : (FmtDoors.printed ⟨#[102, 111, 117, 110, 100, 32, 37, 115, 32, 119, 104, 101, 114, 101, 32, 97, 32, 107, 101, 121, 32, 109, 117, 115, 116, 32, 98, 101]⟩ 1).run Tryz.prog w = .ok [(0, 115, false)] w := by kernel_rfl
theorem Tryz.fmt1 : FmtStop.printed? ⟨#[116, 111, 109, 108, 58, 32, 108, 105, 110, 101, 32, 37, 100, 58, 32, 37, 115]⟩ 2 = some [(0, 100, false), (1, 115, false)] := by kernel_rfl
theorem Tryz.fmt1r (w : World) : (FmtDoors.printed ⟨#[116, 111, 109, 108, 58, 32, 108, 105, 110, 101, 32, 37, 100, 58, 32, 37, 115]⟩ 2).run Tryz.prog w = .ok [(0, 100, false), (1, 115, false)] w := by kernel_rfl
def Tryz.shape9 : List UInt8 := [12, 6, 0, 0, 0, 0, 0, 0, 0, 115, 116, 114, 105, 110, 103]
theorem Tryz.act9_115 (name : String) (x : Value) (w : World) : (FmtCalls.act name false 115 false (.iface 9 x)).run Tryz.prog w = .ok (.closed false) w := by kernel_rfl
theorem Tryz.op9_115 (name : String) (x : ByteArray) (w : World) : (FmtStop.operand name false 115 false (.iface 9 (.string x))).run Tryz.prog w = .ok (Tryz.shape9, FmtStop.pack x.data.toList) w := by kernel_rfl
theorem Tryz.op9_115w (name : String) (x : ByteArray) (w : World) : (FmtStop.operand name true 115 false (.iface 9 (.string x))).run Tryz.prog w = .ok (Tryz.shape9, FmtStop.pack x.data.toList) w := by kernel_rfl
def Tryz.shape3 : List UInt8 := [5, 3, 0, 0, 0, 0, 0, 0, 0, 105, 110, 116]
theorem Tryz.op3_100w (name : String) (x : Int) (w : World) : (FmtStop.operand name true 100 false (.iface 3 (.int .i64 x))).run Tryz.prog w = .ok (Tryz.shape3, Go.Extern.Stop.digits 8 (x % 2 ^ 64).toNat) w := by kernel_rfl
theorem Tryz.ptr83 (w : World) : (FmtStop.ptrTo "errors.errorString").run Tryz.prog w = .ok 83 w := by kernel_rfl
theorem Tryz.elem83 (w : World) : (elemOf 83).run Tryz.prog w = .ok 85 w := by kernel_rfl
theorem Tryz.isError83 (w : World) : (FmtDoors.textMethod 83 "Error").run Tryz.prog w = .ok true w := by kernel_rfl
attribute [local go_sem] Tryz.call30 Tryz.call43 Tryz.guard Tryz.fmt0 Tryz.fmt0r Tryz.fmt1 Tryz.fmt1r Tryz.act9_115 Tryz.op9_115 Tryz.op9_115w Tryz.op3_100w Tryz.ptr83 Tryz.elem83 Tryz.isError83

namespace Qxb6604678aGreatFmt
open Go Go.RowKit

/-- It answers an error that is not nil; what was there is there. -/
def Errs (w : World) (e : Ending) (w' : World) : Prop := (∃ t v, e = .returned (.iface t v)) ∧ Below w.heap.size w w'

set_option maxRecDepth 100000 in
set_option maxHeartbeats 1600000 in
theorem errorf_any (F : Interp) (s : ByteArray) (blk : Nat) (w : World) (hF : F.answers w.tape) (hc0 : w.cell? ⟨blk, 0, none⟩ = some (.iface 3 (.int .i64 1))) (hc1 : w.cell? ⟨blk, 1, none⟩ = some (.iface 9 (.string s))) :
    Calls Tryz.prog 29 #[.string ⟨#[116, 111, 109, 108, 58, 32, 108, 105, 110, 101, 32, 37, 100, 58, 32, 37, 115]⟩, .slice (some ⟨blk, 0, none⟩) 2 2] w fun e w' => Errs w e w' := by
  have hF' := answers_open hF
  go_enter Tryz.func29, Tryz.ntmps29
  go_wp2
  go_ret
  exact ⟨⟨_, _, rfl⟩, ((Below.refl _ _).alloc (Nat.le_refl _) _).drew⟩

set_option maxRecDepth 100000 in
set_option maxHeartbeats 1600000 in
theorem lineError_any (F : Interp) (s : ByteArray) (blk : Nat) (w : World) (hF : F.answers w.tape) (hc0 : w.cell? ⟨blk, 0, none⟩ = some (.iface 9 (.string s))) :
    Calls Tryz.prog 24 #[.int .i64 1, .string ⟨#[102, 111, 117, 110, 100, 32, 37, 115, 32, 119, 104, 101, 114, 101, 32, 97, 32, 107, 101, 121, 32, 109, 117, 115, 116, 32, 98, 101]⟩, .slice (some ⟨blk, 0, none⟩) 1 1] w fun e w' => Errs w e w' := by
  have hF' := answers_open hF
  go_enter Tryz.func24, Tryz.ntmps24
  go_wp2_with fail
  apply rows_value Tryz.nextTurns
  case hr =>
    go_simp
    exact ⟨rfl, rfl⟩
  case h =>
    go_wp2_with fail
    generalize FmtStop.textOf _ = tx
    refine (errorf_any F tx w.heap.size _ (by exact hF) (by go_simp) (by go_simp)).mono ?_
    rintro e w1 ⟨⟨t, v, rfl⟩, hB⟩
    go_wp2
    go_ret
    exact ⟨⟨_, _, rfl⟩, ((Below.refl _ w).alloc (Nat.le_refl _) _).drew.trans (hB.mono (by simp))⟩

set_option maxRecDepth 100000 in
set_option maxHeartbeats 1600000 in
theorem perr_any (F : Interp) (B : Nat) (doc : ByteArray) (pos : Nat) (s : ByteArray) (blk : Nat) (w : World) (hP : PS B doc pos w) (hF : F.answers w.tape) (hc0 : w.cell? ⟨blk, 0, none⟩ = some (.iface 9 (.string s))) :
    Calls Tryz.prog 17 #[.pointer (some ⟨B, 0, none⟩), .string ⟨#[102, 111, 117, 110, 100, 32, 37, 115, 32, 119, 104, 101, 114, 101, 32, 97, 32, 107, 101, 121, 32, 109, 117, 115, 116, 32, 98, 101]⟩, .slice (some ⟨blk, 0, none⟩) 1 1] w fun e w' => Errs w e w' := by
  have c3 := hP.l
  have CALL := lineError_any F s blk w hF hc0
  go_enter Tryz.func17, Tryz.ntmps17
  go_wp2_with fail
  refine CALL.mono ?_
  rintro e w1 ⟨⟨t, v, rfl⟩, hB⟩
  go_wp2
  go_ret
  exact ⟨⟨_, _, rfl⟩, hB⟩

/-- What the road of the error wants of a world. -/
structure Env (F : Interp) (w : World) : Prop where
  tabs : Lib.Utf8Tabs 1 2 w
  prints : ∃ T, Lib.PrintTabsAt 5 6 7 8 T w
  max : ∃ m, w.cell? ⟨0, 0, none⟩ = some (.int .i64 m)
  pos : 0 < w.heap.size
  ans : F.answers w.tape
theorem Env.below {F : Interp} {w w' : World} (h : Env F w) (hb : Below w.heap.size w w') : Env F w' := by
  obtain ⟨m, hm⟩ := h.max
  obtain ⟨T, hT⟩ := h.prints
  exact ⟨Utf8Tabs_below h.tabs hb, ⟨T, printTabs_below hT hb⟩, ⟨m, (hb.cell (p := ⟨0, 0, none⟩) h.pos).trans hm⟩, Nat.lt_of_lt_of_le h.pos hb.size, by rw [hb.tape]; exact h.ans⟩

theorem cut_no (doc : ByteArray) (pos : Nat) (hA : At doc pos [61, 32, 49]) (w : World) (F : Interp) (hE : Env F w) :
    Calls Tryz.prog 26 #[.string (doc.extract pos doc.size), .string ⟨#[10]⟩] w fun e w' => e = .returned (.tuple #[.string ⟨#[61, 32, 49]⟩, .string ⟨#[]⟩, .bool false]) ∧ ∃ n, w' = w.drewN n := by
  obtain ⟨m, hm⟩ := hE.max
  have he : doc.extract pos doc.size = ⟨#[61, 32, 49]⟩ := by rw [extract_drop, show doc.data.toList.drop pos = [61, 32, 49] from hA]
  rw [he]
  exact Tryz.strings_Cut ⟨#[61, 32, 49]⟩ ⟨#[10]⟩ m w (by decide) hm

set_option maxRecDepth 100000 in
set_option maxHeartbeats 1600000 in
theorem here_any (F : Interp) (B : Nat) (doc : ByteArray) (pos : Nat) (w : World) (hP : PS B doc pos w) (hA : At doc pos [61, 32, 49]) (hE : Env F w) :
    Calls Tryz.prog 22 #[.pointer (some ⟨B, 0, none⟩)] w fun e w' => (∃ s, e = .returned (.string s)) ∧ Below w.heap.size w w' := by
  have c1 := hP.d
  have c2 := hP.p
  have hlt := hA.lt
  have hi1 : (pos : Int) ≤ (doc.size : Int) := by omega
  have hi2 : (0 : Int) ≤ (pos : Int) := by omega
  have hne : ((pos : Int) == (doc.size : Int)) = false := beq_eq_false_iff_ne.2 (by omega)
  have CC := fun n => Calls.quiet_of (w := w) (n := n) (cut_no doc pos hA (w.drewN n) F (hE.below (below_draws (Below.refl _ _) n)))
  clear hA
  go_enter Tryz.func22, Tryz.ntmps22
  go_wp2_with fail
  go_quiet (first | (go_at_call 26; exact CC _) | fail)
  clear CC
  go_wp2_with fail
  go_quiet (fail)
  rw [World.drewN_drewN]
  have hW : ∀ k, Below w.heap.size w (w.drewN k) := fun k => below_draws (Below.refl _ _) k
  obtain ⟨T, hT⟩ := hE.prints
  have CQ := fun k => Tryz.strconv_Quote T ⟨#[61, 32, 49]⟩ (w.drewN k) (by decide) (printTabs_below hT (hW k)) (Utf8Tabs_below hE.tabs (hW k))
  go_wp2_with fail
  refine (CQ _).mono ?_
  rintro e w1 ⟨rfl, hB⟩
  clear CQ
  have hB2 := (hW _).trans (hB.mono (hW _).size)
  go_wp2
  go_ret
  exact ⟨⟨_, rfl⟩, hB2⟩

/-- It answers the empty string and an error. -/
def Fails (w : World) (e : Ending) (w' : World) : Prop := (∃ s t v, e = .returned (.tuple #[.string s, .iface t v])) ∧ Below w.heap.size w w'

theorem hasPre_no (q : UInt8) (h : q ≠ 61) : Lib.hasPrefix [61, 32, 49] [q, q, q] = false := by
  show ((q == 61) && _) = false
  rw [beq_eq_false_iff_ne.2 h]
  rfl

set_option maxRecDepth 100000 in
set_option maxHeartbeats 3200000 in
theorem keyPart_none (F : Interp) (B : Nat) (doc : ByteArray) (pos : Nat) (w : World) (hP : PS B doc pos w) (hA : At doc pos [61, 32, 49]) (hE : Env F w) :
    Calls Tryz.prog 14 #[.pointer (some ⟨B, 0, none⟩)] w fun e w' => Fails w e w' := by
  have c1 := hP.d
  have c2 := hP.p
  have hlt := hA.lt
  have hi1 : (pos : Int) ≤ (doc.size : Int) := by omega
  have hi2 : (0 : Int) ≤ (pos : Int) := by omega
  have hi3 : (pos : Int) < (doc.size : Int) := by omega
  have hd : decide ((pos : Int) < (doc.size : Int)) = true := by simpa using hi3
  have hget : (doc[pos].toNat : Int) = 61 := by rw [hA.get hlt]; rfl
  have H1 := fun n => Calls.quiet_of_same (w := w) (n := n) (pre_no hA 34 (hasPre_no 34 (by decide)) (w.drewN n))
  have H2 := fun n => Calls.quiet_of_same (w := w) (n := n) (pre_no hA 39 (hasPre_no 39 (by decide)) (w.drewN n))
  go_enter Tryz.func14, Tryz.ntmps14
  go_wp2_with fail
  go_quiet (first | (go_at_call 16; exact H1 _) | (go_at_call 16; exact H2 _) | fail)
  clear H1 H2
  have hP1 := hP.draws nq
  have hB1 := below_draws (Below.refl w.heap.size w) nq
  clear c1 c2
  generalize w.drewN nq = W1 at *
  have CP := peek_any B doc pos 61 [32, 49] W1 hP1 hA
  rw [show (((61 : UInt8).toNat : Int)) = 61 from rfl] at CP
  go_wp2_with fail
  refine CP.mono ?_
  rintro e w2 ⟨rfl, m2, rfl⟩
  clear CP
  have hP2 := hP1.draws m2
  have hB2 := below_draws hB1 m2
  generalize W1.drewN m2 = W2 at *
  have CP := peek_any B doc pos 61 [32, 49] W2 hP2 hA
  rw [show (((61 : UInt8).toNat : Int)) = 61 from rfl] at CP
  go_wp2_with fail
  refine CP.mono ?_
  rintro e w3 ⟨rfl, m3, rfl⟩
  clear CP
  have hP3 := hP2.draws m3
  have hB3 := below_draws hB2 m3
  generalize W2.drewN m3 = W3 at *
  clear hP1 hP2 hB1 hB2
  have c1 := hP3.d
  have c2 := hP3.p
  go_wp2_with fail
  have CB := fun n => Calls.quiet_of_same (w := W3) (n := n) (v := .bool false) (isBare_any 61 (W3.drewN n))
  rw [show (((61 : UInt8).toNat : Int)) = 61 from rfl] at CB
  go_loopw [50] (fun _ wx => wx = W3) (fun _ _ => 0)
  case atStart => rfl
  case round =>
    subst hrel
    go_wp2_with fail
    go_quiet (first | (go_at_call 21; exact CB _) | fail)
    clear CB
    have hP4 := hP3.draws nq
    have hB4 := below_draws hB3 nq
    clear c1 c2 hP3 hB3
    generalize World.drewN _ nq = W4 at *
    have c1 := hP4.d
    have c2 := hP4.p
    have CH := here_any F B doc pos W4 hP4 hA (hE.below hB4)
    go_wp2_with fail
    refine CH.mono ?_
    rintro e w5 ⟨⟨sx, rfl⟩, hB5⟩
    clear CH
    have hP5 := hP4.below hB5 hP4.lt
    have hB6 := hB4.trans (hB5.mono hB4.size)
    have hB7 : Below w.heap.size w (w5.alloc (.cells #[.iface 9 (.string sx)] 20)) := hB6.alloc hB6.size _
    have hP7 := hP5.kept (World.grownBy_alloc w5 (.cells #[.iface 9 (.string sx)] 20) none) (by simp)
    have CE := perr_any F B doc pos sx w5.heap.size _ hP7 (by rw [hB7.tape]; exact hE.ans) (by go_simp)
    clear c1 c2 hP4 hB4 hP5 hB5
    go_wp2_with fail
    refine CE.mono ?_
    rintro e w8 ⟨⟨t, v, rfl⟩, hB8⟩
    go_wp2
    go_ret2
    exact ⟨⟨_, _, _, rfl⟩, hB7.trans (hB8.mono hB7.size)⟩
end Qxb6604678aGreatFmt
end Go.Proofs
