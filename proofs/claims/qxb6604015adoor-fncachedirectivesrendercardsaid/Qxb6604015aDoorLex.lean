import Derived.Test.Qxb6604015aDoorTok
import Derived.Test.Qxb6604015aDoorMq
import Derived.Test.Qxb6604015aDoorLaws2
namespace Go.Proofs.Qxb6604015aDoor
open Go.RowKit

theorem Tryd.info3 : (Tryd.prog.info? 3).map (fun i => (i.zero, i.size, i.bytes)) = some (some (.int .i64 0), 1, 8) := by kernel_rfl
theorem Tryd.info9 : (Tryd.prog.info? 9).map (fun i => (i.zero, i.size, i.bytes)) = some (some (.string ⟨#[]⟩), 1, 16) := by kernel_rfl

/-- The lexemes' kinds and texts, as cells. -/
def kv (ls : List (Nat × Bs)) : List Value := ls.map fun a => Value.int .i64 (a.1 : Int)
def tv (ls : List (Nat × Bs)) : List Value := ls.map fun a => Value.string ⟨a.2.toArray⟩

theorem mq_none (s : ByteArray) (hs : s.size ≤ 1073741824) (h1 : 1 ≤ s.size) (h : qs false (tl s) = none) (w : World) :
    Calls Tryd.prog 26 #[.string s] w fun e w' => e = .returned (.tuple #[.string ⟨#[]⟩, .string ⟨#[]⟩, .bool false]) ∧ Below w.heap.size w w' := by
  have := modelQuoted_any s hs h1 w
  rw [h] at this
  exact this
theorem mq_some (s : ByteArray) (hs : s.size ≤ 1073741824) (h1 : 1 ≤ s.size) (x r : Bs) (h : qs false (tl s) = some (x, r)) (w : World) :
    Calls Tryd.prog 26 #[.string s] w fun e w' => e = .returned (.tuple #[.string ⟨x.toArray⟩, .string ⟨r.toArray⟩, .bool true]) ∧ Below w.heap.size w w' := by
  have := modelQuoted_any s hs h1 w
  rw [h] at this
  exact this

theorem qs_suffix (t : Bs) (p : Bool) (x r : Bs) (h : qs p t = some (x, r)) : ∃ pre, t = pre ++ r := by
  induction t generalizing p x r with
  | nil => cases p <;> simp [qs] at h
  | cons c t ih =>
    have key : ∀ q y, (qs q t).map (fun p => (c :: p.1, p.2)) = some (y, r) → ∃ pre, c :: t = pre ++ r := by
      intro q y hy
      rw [Option.map_eq_some_iff] at hy
      obtain ⟨⟨a, b⟩, h1, h2⟩ := hy
      simp only [Prod.mk.injEq] at h2
      obtain ⟨rfl, rfl⟩ := h2
      obtain ⟨pre, hp⟩ := ih q a b h1
      exact ⟨c :: pre, by rw [hp]; rfl⟩
    cases p with
    | true => simp only [qs] at h; exact key _ _ h
    | false =>
      simp only [qs] at h
      by_cases h1 : c = 34
      · rw [if_pos h1] at h; simp at h; obtain ⟨rfl, rfl⟩ := h; exact ⟨[c], rfl⟩
      · rw [if_neg h1] at h
        by_cases h2 : c = 92
        · rw [if_pos h2] at h
          obtain ⟨pre, hp⟩ := ih true x r h
          exact ⟨c :: pre, by rw [hp]; rfl⟩
        · rw [if_neg h2] at h; exact key _ _ h

theorem suffix_drop (t pre r : Bs) (h : t = pre ++ r) : t.drop (t.length - r.length) = r := by
  subst h
  simp

/-- What is read, and what is left. -/
def lrel (t : Bs) (ls : List (Nat × Bs)) (r : Bs) : Prop := lexL t = (lexL r).map (ls ++ ·)

theorem lrel_step {t : Bs} {ls : List (Nat × Bs)} {r r' : Bs} {a : Nat × Bs} (h : lrel t ls r) (hr : lexL r = (lexL r').map (a :: ·)) : lrel t (ls ++ [a]) r' := by
  unfold lrel at *
  rw [h, hr, Option.map_map]
  congr 1
  funext l
  simp

theorem isTok_yes (n : Int) (h0 : 0 ≤ n) (h1 : n ≤ 255) (h : tokN n = true) (w : World) : Calls Tryd.prog 27 #[.int .u8 n] w fun e w' => e = .returned (.bool true) ∧ w' = w := by
  have := isTok_any n h0 h1 w
  rw [h] at this
  exact this
theorem isTok_no (n : Int) (h0 : 0 ≤ n) (h1 : n ≤ 255) (h : tokN n = false) (w : World) : Calls Tryd.prog 27 #[.int .u8 n] w fun e w' => e = .returned (.bool false) ∧ w' = w := by
  have := isTok_any n h0 h1 w
  rw [h] at this
  exact this

theorem lex_tok_step (s : ByteArray) (k j : Nat) (hkj : k ≤ j) (h : j < s.size) (ht : tokN (s[j].toNat : Int) = true)
    (H : (s.data.toList.drop k).takeWhile tokB = (s.data.toList.drop k).take (j - k) ++ (s.data.toList.drop j).takeWhile tokB ∧ (s.data.toList.drop k).dropWhile tokB = (s.data.toList.drop j).dropWhile tokB) :
    Hid ((s.data.toList.drop k).takeWhile tokB = (s.data.toList.drop k).take (j + 1 - k) ++ (s.data.toList.drop (j + 1)).takeWhile tokB ∧ (s.data.toList.drop k).dropWhile tokB = (s.data.toList.drop (j + 1)).dropWhile tokB) := by
  have ht' : tokB s[j] = true := ht
  have e : j + 1 - k = (j - k) + 1 := by omega
  refine ⟨?_, ?_⟩
  · rw [H.1, drop_idx s j h, List.takeWhile_cons_of_pos ht', e, List.take_add_one (l := s.data.toList.drop k), List.getElem?_drop, show k + (j - k) = j from by omega, cell_idx s j h]
    simp
  · rw [H.2, drop_idx s j h, List.dropWhile_cons_of_pos ht']
theorem lex_tok_stop (s : ByteArray) (k j : Nat) (hn : ∀ h : j < s.size, tokN (s[j].toNat : Int) = false)
    (H : (s.data.toList.drop k).takeWhile tokB = (s.data.toList.drop k).take (j - k) ++ (s.data.toList.drop j).takeWhile tokB ∧ (s.data.toList.drop k).dropWhile tokB = (s.data.toList.drop j).dropWhile tokB) :
    (s.data.toList.drop k).takeWhile tokB = (s.data.toList.drop k).take (j - k) ∧ (s.data.toList.drop k).dropWhile tokB = s.data.toList.drop j := by
  by_cases h : j < s.size
  · have ht' : ¬ tokB s[j] = true := by have := hn h; simp [tokB, this]
    rw [H.1, H.2, drop_idx s j h, List.takeWhile_cons_of_neg ht', List.dropWhile_cons_of_neg ht']
    simp
  · rw [H.1, H.2, List.drop_eq_nil_of_le (i := j) (by simpa using Nat.le_of_not_lt h)]
    simp

set_option maxRecDepth 100000 in
set_option maxHeartbeats 1600000 in
theorem lex_any (s : ByteArray) (hs : s.size ≤ 1073741824) (w : World) :
    Calls Tryd.prog 17 #[.string s] w fun e w' => ((lexL s.data.toList = none ∧ e = .returned (.tuple #[.slice none 0 0, .slice none 0 0, .bool false])) ∨
      (∃ ls vk vt, lexL s.data.toList = some ls ∧ ls.length ≤ s.size ∧ e = .returned (.tuple #[vk, vt, .bool true]) ∧ w'.ownsRow w.heap.size 3 1 vk ls.length (kv ls) ∧ w'.ownsRow w.heap.size 9 1 vt ls.length (tv ls))) ∧ Below w.heap.size w w' := by
  obtain ⟨i3, hi3, ha0, ha1, ha2⟩ := info_parts Tryd.info3
  obtain ⟨i9, hi9, hb0, hb1, hb2⟩ := info_parts Tryd.info9
  go_enter Tryd.func17, Tryd.ntmps17
  go_wp2_with fail
  go_loopw [5, 6, 7] (fun vk vt i wr => ∃ (k : Nat) (ls : List (Nat × Bs)), k ≤ s.size ∧ i = .int .i64 k ∧ ls.length ≤ k ∧ wr.ownsRow w.heap.size 3 1 vk ls.length (kv ls) ∧ wr.ownsRow w.heap.size 9 1 vt ls.length (tv ls) ∧ Below w.heap.size w wr ∧ Hid (lrel s.data.toList ls (s.data.toList.drop k)))
    (fun _ _ i _ => s.size - (intOf i).toNat)
  case atStart => exact ⟨0, [], Nat.zero_le _, rfl, Nat.zero_le _, World.ownsRow_nil _ _ _ _, World.ownsRow_nil _ _ _ _, Below.refl _ _, by show lrel _ _ _; unfold lrel; simp⟩
  case round =>
    obtain ⟨k, ls, hk, rfl, hll, hok, hot, hnx, HL⟩ := hrel
    have hsz := hnx.size
    by_cases hlt : k < s.size
    · by_cases h32 : ((s[k].toNat : Int) == 32) = true
      · have HL' : Hid (lrel s.data.toList (ls ++ [(1, [])]) (s.data.toList.drop (k + 1))) := by
          refine lrel_step HL.out ?_
          have e : s[k] = 32 := byte_of_num (n := 32) (by simpa using h32) (by decide)
          rw [drop_idx s k hlt, lexL_cons, e]
          rfl
        clear HL
        go_wp2_with (at_builtin; refine wpList_append_one _ rfl _ _ 40 rfl w.heap.size 3 i3 (.int .i64 0) 8 Tryd.underlying40 hi3 ha0 ha1 ha2 rfl _ _ _ rfl (hok.alloc _) w (hnx.alloc hnx.size _) ⟨_, 0, none⟩ (.int .i64 1) rfl (World.cell?_alloc_mark _ _ _ _ 0) rfl (by omega) (by omega) (by have := hnx.size; simp; omega) ?_)
        intro vk1 w1 hok0 hg1 hn1 hl1 hb1'
        have hot1 := other_kept hok hot (by decide) hg1
        clear hg1 hn1 hl1 hok hot hnx
        go_wp2_with (at_builtin; refine wpList_append_one _ rfl _ _ 23 rfl w.heap.size 9 i9 (.string ⟨#[]⟩) 16 Tryd.underlying23 hi9 hb0 hb1 hb2 rfl _ _ _ rfl (hot1.alloc _) w (hb1'.alloc hb1'.size _) ⟨_, 0, none⟩ (.string ⟨#[]⟩) rfl (World.cell?_alloc_mark _ _ _ _ 0) rfl (by omega) (by omega) (by have := hb1'.size; simp; omega) ?_)
        intro vt1 w2 hot2 hg2 hn2 hl2 hb2'
        have hok1 := other_kept hot1 hok0 (by decide) hg2
        clear hg2 hn2 hl2 hok0 hot1 hb1'
        go_wp2
        go_roundw
        case rel => exact ⟨k + 1, ls ++ [(1, [])], by omega, by go_num, by simp; omega, by simpa [kv] using hok1, by simpa [tv] using hot2, hb2', HL'⟩
        case measure => simp [intOf]; omega
      replace h32 : ((s[k].toNat : Int) == 32) = false := by simpa using h32
      by_cases h9 : ((s[k].toNat : Int) == 9) = true
      · have HL' : Hid (lrel s.data.toList (ls ++ [(1, [])]) (s.data.toList.drop (k + 1))) := by
          refine lrel_step HL.out ?_
          have e : s[k] = 9 := byte_of_num (n := 9) (by simpa using h9) (by decide)
          rw [drop_idx s k hlt, lexL_cons, e]
          rfl
        clear HL
        go_wp2_with (at_builtin; refine wpList_append_one _ rfl _ _ 40 rfl w.heap.size 3 i3 (.int .i64 0) 8 Tryd.underlying40 hi3 ha0 ha1 ha2 rfl _ _ _ rfl (hok.alloc _) w (hnx.alloc hnx.size _) ⟨_, 0, none⟩ (.int .i64 1) rfl (World.cell?_alloc_mark _ _ _ _ 0) rfl (by omega) (by omega) (by have := hnx.size; simp; omega) ?_)
        intro vk1 w1 hok0 hg1 hn1 hl1 hb1'
        have hot1 := other_kept hok hot (by decide) hg1
        clear hg1 hn1 hl1 hok hot hnx
        go_wp2_with (at_builtin; refine wpList_append_one _ rfl _ _ 23 rfl w.heap.size 9 i9 (.string ⟨#[]⟩) 16 Tryd.underlying23 hi9 hb0 hb1 hb2 rfl _ _ _ rfl (hot1.alloc _) w (hb1'.alloc hb1'.size _) ⟨_, 0, none⟩ (.string ⟨#[]⟩) rfl (World.cell?_alloc_mark _ _ _ _ 0) rfl (by omega) (by omega) (by have := hb1'.size; simp; omega) ?_)
        intro vt1 w2 hot2 hg2 hn2 hl2 hb2'
        have hok1 := other_kept hot1 hok0 (by decide) hg2
        clear hg2 hn2 hl2 hok0 hot1 hb1'
        go_wp2
        go_roundw
        case rel => exact ⟨k + 1, ls ++ [(1, [])], by omega, by go_num, by simp; omega, by simpa [kv] using hok1, by simpa [tv] using hot2, hb2', HL'⟩
        case measure => simp [intOf]; omega
      replace h9 : ((s[k].toNat : Int) == 9) = false := by simpa using h9
      by_cases h44 : ((s[k].toNat : Int) == 44) = true
      · have HL' : Hid (lrel s.data.toList (ls ++ [(2, [])]) (s.data.toList.drop (k + 1))) := by
          refine lrel_step HL.out ?_
          have e : s[k] = 44 := byte_of_num (n := 44) (by simpa using h44) (by decide)
          rw [drop_idx s k hlt, lexL_cons, e]
          rfl
        clear HL
        go_wp2_with (at_builtin; refine wpList_append_one _ rfl _ _ 40 rfl w.heap.size 3 i3 (.int .i64 0) 8 Tryd.underlying40 hi3 ha0 ha1 ha2 rfl _ _ _ rfl (hok.alloc _) w (hnx.alloc hnx.size _) ⟨_, 0, none⟩ (.int .i64 2) rfl (World.cell?_alloc_mark _ _ _ _ 0) rfl (by omega) (by omega) (by have := hnx.size; simp; omega) ?_)
        intro vk1 w1 hok0 hg1 hn1 hl1 hb1'
        have hot1 := other_kept hok hot (by decide) hg1
        clear hg1 hn1 hl1 hok hot hnx
        go_wp2_with (at_builtin; refine wpList_append_one _ rfl _ _ 23 rfl w.heap.size 9 i9 (.string ⟨#[]⟩) 16 Tryd.underlying23 hi9 hb0 hb1 hb2 rfl _ _ _ rfl (hot1.alloc _) w (hb1'.alloc hb1'.size _) ⟨_, 0, none⟩ (.string ⟨#[]⟩) rfl (World.cell?_alloc_mark _ _ _ _ 0) rfl (by omega) (by omega) (by have := hb1'.size; simp; omega) ?_)
        intro vt1 w2 hot2 hg2 hn2 hl2 hb2'
        have hok1 := other_kept hot1 hok0 (by decide) hg2
        clear hg2 hn2 hl2 hok0 hot1 hb1'
        go_wp2
        go_roundw
        case rel => exact ⟨k + 1, ls ++ [(2, [])], by omega, by go_num, by simp; omega, by simpa [kv] using hok1, by simpa [tv] using hot2, hb2', HL'⟩
        case measure => simp [intOf]; omega
      replace h44 : ((s[k].toNat : Int) == 44) = false := by simpa using h44
      by_cases h61 : ((s[k].toNat : Int) == 61) = true
      · have HL' : Hid (lrel s.data.toList (ls ++ [(3, [])]) (s.data.toList.drop (k + 1))) := by
          refine lrel_step HL.out ?_
          have e : s[k] = 61 := byte_of_num (n := 61) (by simpa using h61) (by decide)
          rw [drop_idx s k hlt, lexL_cons, e]
          rfl
        clear HL
        go_wp2_with (at_builtin; refine wpList_append_one _ rfl _ _ 40 rfl w.heap.size 3 i3 (.int .i64 0) 8 Tryd.underlying40 hi3 ha0 ha1 ha2 rfl _ _ _ rfl (hok.alloc _) w (hnx.alloc hnx.size _) ⟨_, 0, none⟩ (.int .i64 3) rfl (World.cell?_alloc_mark _ _ _ _ 0) rfl (by omega) (by omega) (by have := hnx.size; simp; omega) ?_)
        intro vk1 w1 hok0 hg1 hn1 hl1 hb1'
        have hot1 := other_kept hok hot (by decide) hg1
        clear hg1 hn1 hl1 hok hot hnx
        go_wp2_with (at_builtin; refine wpList_append_one _ rfl _ _ 23 rfl w.heap.size 9 i9 (.string ⟨#[]⟩) 16 Tryd.underlying23 hi9 hb0 hb1 hb2 rfl _ _ _ rfl (hot1.alloc _) w (hb1'.alloc hb1'.size _) ⟨_, 0, none⟩ (.string ⟨#[]⟩) rfl (World.cell?_alloc_mark _ _ _ _ 0) rfl (by omega) (by omega) (by have := hb1'.size; simp; omega) ?_)
        intro vt1 w2 hot2 hg2 hn2 hl2 hb2'
        have hok1 := other_kept hot1 hok0 (by decide) hg2
        clear hg2 hn2 hl2 hok0 hot1 hb1'
        go_wp2
        go_roundw
        case rel => exact ⟨k + 1, ls ++ [(3, [])], by omega, by go_num, by simp; omega, by simpa [kv] using hok1, by simpa [tv] using hot2, hb2', HL'⟩
        case measure => simp [intOf]; omega
      replace h61 : ((s[k].toNat : Int) == 61) = false := by simpa using h61
      have hw : wsB s[k] = false := by
        have a : s[k] ≠ 32 := fun e => by rw [e] at h32; simp at h32
        have b : s[k] ≠ 9 := fun e => by rw [e] at h9; simp at h9
        simp [wsB, a, b]
      have HC : Hid (wsB s[k] = false ∧ s[k] ≠ 44 ∧ s[k] ≠ 61) := ⟨hw, fun e => (by rw [e] at h44; simp at h44), fun e => (by rw [e] at h61; simp at h61)⟩
      clear hw
      by_cases h34 : ((s[k].toNat : Int) == 34) = true
      · have HX : Hid (lexL (s.data.toList.drop k) = (qs false (s.data.toList.drop (k + 1))).bind fun p => (lexL p.2).map ((4, p.1) :: ·)) := by
          show _ = _
          have e : s[k] = 34 := byte_of_num (n := 34) (by simpa using h34) (by decide)
          rw [drop_idx s k hlt, lexL_cons, e]
          rfl
        have HT : Hid (tl (s.extract k s.size) = s.data.toList.drop (k + 1)) := by
          show tl _ = _
          unfold tl
          rw [extract_drop]
          simp
        have hes : (s.extract k s.size).size = s.size - k := by simp
        cases hq : qs false (s.data.toList.drop (k + 1)) with
        | none =>
          have HE : Hid (lexL s.data.toList = none) := by
            show _ = _
            have := HL.out
            unfold lrel at this
            rw [this, HX.out, hq]
            rfl
          have HQ : Hid (qs false (tl (s.extract k s.size)) = none) := by show _ = _; rw [HT.out, hq]
          clear HL HX HT HC hq
          go_wp2_with (go_at_call 26; refine (mq_none _ (by omega) (by omega) HQ.out _).mono ?_; rintro e w1 ⟨rfl, hb1'⟩)
          go_ret3
          exact ⟨.inl ⟨HE.out, rfl⟩, hnx.trans (hb1'.mono hsz)⟩
        | some p =>
          obtain ⟨x, r⟩ := p
          have HQ : Hid (qs false (tl (s.extract k s.size)) = some (x, r)) := by show _ = _; rw [HT.out, hq]
          have HR : Hid (s.data.toList.drop (s.size - r.length) = r) := by
            obtain ⟨pre, hp⟩ := qs_suffix _ _ _ _ hq
            have h2 : s.data.toList = (s.data.toList.take (k + 1) ++ pre) ++ r := by rw [List.append_assoc, ← hp, List.take_append_drop]
            have := suffix_drop _ _ _ h2
            show List.drop _ _ = _
            simpa using this
          have hrl : r.length < s.size - k := by
            have := (qs_len _ _ _ _ hq).1
            simp at this
            omega
          have HL' : Hid (lrel s.data.toList (ls ++ [(4, x)]) (s.data.toList.drop (s.size - r.length))) := by
            refine lrel_step HL.out ?_
            rw [HX.out, hq, HR.out]
            rfl
          clear HL HX HT HC hq HR
          go_wp2_with (first
            | (go_at_call 26; refine (mq_some _ (by omega) (by omega) x r HQ.out _).mono ?_; rintro e w1 ⟨rfl, hb0'⟩; have hok5 := own_below hok hb0' (Nat.le_refl _); have hot5 := own_below hot hb0' (Nat.le_refl _); have hnx5 := hnx.trans (hb0'.mono hsz); clear hok hot hnx hb0')
            | (at_builtin; refine wpList_append_one _ rfl _ _ 40 rfl w.heap.size 3 i3 (.int .i64 0) 8 Tryd.underlying40 hi3 ha0 ha1 ha2 rfl _ _ _ rfl (hok5.alloc _) w (hnx5.alloc hnx5.size _) ⟨_, 0, none⟩ (.int .i64 4) rfl (World.cell?_alloc_mark _ _ _ _ 0) rfl (by omega) (by omega) (by have := hnx5.size; simp; omega) ?_))
          intro vk1 w2 hok0 hg1 hn1 hl1 hb1'
          have hot1 := other_kept hok5 hot5 (by decide) hg1
          clear hg1 hn1 hl1 hok5 hot5 hnx5
          go_wp2_with (at_builtin; refine wpList_append_one _ rfl _ _ 23 rfl w.heap.size 9 i9 (.string ⟨#[]⟩) 16 Tryd.underlying23 hi9 hb0 hb1 hb2 rfl _ _ _ rfl (hot1.alloc _) w (hb1'.alloc hb1'.size _) ⟨_, 0, none⟩ (.string ⟨x.toArray⟩) rfl (World.cell?_alloc_mark _ _ _ _ 0) rfl (by omega) (by omega) (by have := hb1'.size; simp; omega) ?_)
          intro vt1 w3 hot2 hg2 hn2 hl2 hb2'
          have hok1 := other_kept hot1 hok0 (by decide) hg2
          clear hg2 hn2 hl2 hok0 hot1 hb1'
          go_wp2
          go_roundw
          case rel => exact ⟨s.size - r.length, ls ++ [(4, x)], by omega, by go_num, by simp; omega, by simpa [kv] using hok1, by simpa [tv] using hot2, hb2', HL'⟩
          case measure => simp [intOf]; omega
      · replace h34 : ((s[k].toNat : Int) == 34) = false := by simpa using h34
        have HD : Hid (wsB s[k] = false ∧ s[k] ≠ 44 ∧ s[k] ≠ 61 ∧ s[k] ≠ 34) := ⟨HC.out.1, HC.out.2.1, HC.out.2.2, fun e => (by rw [e] at h34; simp at h34)⟩
        clear HC
        have hby : s[k].toNat < 256 := UInt8.toNat_lt _
        by_cases ht : tokN (s[k].toNat : Int) = true
        · have HT : Hid (tokN (s[k].toNat : Int) = true) := ht
          clear ht
          go_wp2_with (go_at_call 27; refine (isTok_yes _ (by omega) (by omega) HT.out _).mono ?_; rintro e w1 ⟨rfl, rfl⟩)
          go_loop [12] (fun jv => ∃ j : Nat, k ≤ j ∧ j ≤ s.size ∧ jv = .int .i64 j ∧ Hid ((s.data.toList.drop k).takeWhile tokB = (s.data.toList.drop k).take (j - k) ++ (s.data.toList.drop j).takeWhile tokB ∧ (s.data.toList.drop k).dropWhile tokB = (s.data.toList.drop j).dropWhile tokB)) (fun jv => s.size - (intOf jv).toNat)
          case atStart => exact ⟨k, by omega, by omega, rfl, by constructor <;> simp⟩
          case round =>
            obtain ⟨j, hkj, hj, rfl, HJ⟩ := hrel
            by_cases hgo : ∃ h : j < s.size, tokN (s[j].toNat : Int) = true
            · obtain ⟨hjl, htj⟩ := hgo
              have HJ' := lex_tok_step s k j hkj hjl htj HJ.out
              have HTJ : Hid (tokN (s[j].toNat : Int) = true) := htj
              have hbj : s[j].toNat < 256 := UInt8.toNat_lt _
              clear htj HJ
              go_wp2_with (go_at_call 27; refine (isTok_yes _ (by omega) (by omega) HTJ.out _).mono ?_; rintro e w1 ⟨rfl, rfl⟩)
              go_round
              case rel => exact ⟨j + 1, by omega, by omega, by go_num, HJ'⟩
              case measure => simp [intOf]; omega
            · have HS := lex_tok_stop s k j (fun h => by simpa using fun hh => hgo ⟨h, hh⟩) HJ.out
              have hkj2 : k < j := by
                rcases Nat.lt_or_ge k j with h | h
                · exact h
                · have e : j = k := by omega
                  subst e
                  exact absurd ⟨hlt, HT.out⟩ hgo
              have HL' : Hid (lrel s.data.toList (ls ++ [(5, (s.data.toList.drop k).take (j - k))]) (s.data.toList.drop j)) := by
                refine lrel_step HL.out ?_
                have htk : tokB s[k] = true := HT.out
                rw [← HS.1, ← HS.2, drop_idx s k hlt, lex_tok _ _ htk, List.takeWhile_cons_of_pos htk, List.dropWhile_cons_of_pos htk]
              have hex : s.extract k j = ⟨((s.data.toList.drop k).take (j - k)).toArray⟩ := extract_list s k j
              have HEX : Hid (s.extract k j = ⟨((s.data.toList.drop k).take (j - k)).toArray⟩) := hex
              have hcase : (∃ h : j < s.size, Hid (tokN (s[j].toNat : Int) = false)) ∨ ¬ j < s.size := by
                by_cases hjl : j < s.size
                · exact .inl ⟨hjl, by show _ = _; simpa using fun h => hgo ⟨hjl, h⟩⟩
                · exact .inr hjl
              clear hgo HJ HL hex HS HD HT
              rcases hcase with ⟨hjl, HB⟩ | hjl
              · have hbj : s[j].toNat < 256 := UInt8.toNat_lt _
                go_wp2_with (first
                  | (go_at_call 27; refine (isTok_no _ (by omega) (by omega) HB.out _).mono ?_; rintro e w1 ⟨rfl, rfl⟩)
                  | (at_builtin; refine wpList_append_one _ rfl _ _ 40 rfl w.heap.size 3 i3 (.int .i64 0) 8 Tryd.underlying40 hi3 ha0 ha1 ha2 rfl _ _ _ rfl (hok.alloc _) w (hnx.alloc hnx.size _) ⟨_, 0, none⟩ (.int .i64 5) rfl (World.cell?_alloc_mark _ _ _ _ 0) rfl (by omega) (by omega) (by have := hnx.size; simp; omega) ?_))
                intro vk1 w2 hok0 hg1 hn1 hl1 hb1'
                have hot1 := other_kept hok hot (by decide) hg1
                clear hg1 hn1 hl1 hok hot hnx
                go_wp2_with (at_builtin; refine wpList_append_one _ rfl _ _ 23 rfl w.heap.size 9 i9 (.string ⟨#[]⟩) 16 Tryd.underlying23 hi9 hb0 hb1 hb2 rfl _ _ _ rfl (hot1.alloc _) w (hb1'.alloc hb1'.size _) ⟨_, 0, none⟩ (.string (s.extract k j)) rfl (World.cell?_alloc_mark _ _ _ _ 0) rfl (by omega) (by omega) (by have := hb1'.size; simp; omega) ?_)
                intro vt1 w3 hot2 hg2 hn2 hl2 hb2'
                have hok1 := other_kept hot1 hok0 (by decide) hg2
                clear hg2 hn2 hl2 hok0 hot1 hb1'
                go_wp2
                go_roundw
                case rel => exact ⟨j, ls ++ [(5, (s.data.toList.drop k).take (j - k))], by omega, rfl, by simp; omega, by simpa [kv] using hok1, by rw [HEX.out] at hot2; simpa [tv] using hot2, hb2', HL'⟩
                case measure => simp [intOf]; omega
              · go_wp2_with (at_builtin; refine wpList_append_one _ rfl _ _ 40 rfl w.heap.size 3 i3 (.int .i64 0) 8 Tryd.underlying40 hi3 ha0 ha1 ha2 rfl _ _ _ rfl (hok.alloc _) w (hnx.alloc hnx.size _) ⟨_, 0, none⟩ (.int .i64 5) rfl (World.cell?_alloc_mark _ _ _ _ 0) rfl (by omega) (by omega) (by have := hnx.size; simp; omega) ?_)
                intro vk1 w2 hok0 hg1 hn1 hl1 hb1'
                have hot1 := other_kept hok hot (by decide) hg1
                clear hg1 hn1 hl1 hok hot hnx
                go_wp2_with (at_builtin; refine wpList_append_one _ rfl _ _ 23 rfl w.heap.size 9 i9 (.string ⟨#[]⟩) 16 Tryd.underlying23 hi9 hb0 hb1 hb2 rfl _ _ _ rfl (hot1.alloc _) w (hb1'.alloc hb1'.size _) ⟨_, 0, none⟩ (.string (s.extract k j)) rfl (World.cell?_alloc_mark _ _ _ _ 0) rfl (by omega) (by omega) (by have := hb1'.size; simp; omega) ?_)
                intro vt1 w3 hot2 hg2 hn2 hl2 hb2'
                have hok1 := other_kept hot1 hok0 (by decide) hg2
                clear hg2 hn2 hl2 hok0 hot1 hb1'
                go_wp2
                go_roundw
                case rel => exact ⟨j, ls ++ [(5, (s.data.toList.drop k).take (j - k))], by omega, rfl, by simp; omega, by simpa [kv] using hok1, by rw [HEX.out] at hot2; simpa [tv] using hot2, hb2', HL'⟩
                case measure => simp [intOf]; omega
        · have HE : Hid (lexL s.data.toList = none) := by
            show _ = _
            have := HL.out
            unfold lrel at this
            have h3 : ¬ tokB s[k] = true := ht
            rw [this, drop_idx s k hlt, lexL_cons, if_neg (by simp [HD.out.1]), if_neg HD.out.2.1, if_neg HD.out.2.2.1, if_neg HD.out.2.2.2, if_neg h3]
            rfl
          have HT : Hid (tokN (s[k].toNat : Int) = false) := by show _ = _; simpa using ht
          clear HL HD ht
          go_wp2_with (go_at_call 27; refine (isTok_no _ (by omega) (by omega) HT.out _).mono ?_; rintro e w1 ⟨rfl, rfl⟩)
          go_ret3
          exact ⟨.inl ⟨HE.out, rfl⟩, hnx⟩
    · have HE : Hid (lexL s.data.toList = some ls) := by
        show _ = _
        have := HL.out
        unfold lrel at this
        rw [this, List.drop_eq_nil_of_le (by simp; omega), lexL_nil]
        simp
      clear HL
      go_wp2
      go_ret3
      exact ⟨.inr ⟨ls, _, _, HE.out, by omega, rfl, hok, hot⟩, hnx⟩

end Go.Proofs.Qxb6604015aDoor
