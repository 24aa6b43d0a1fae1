/-
  LAWS OF WHATEVER PROGRAM that the walks of this seat want: an append that also says WHERE the new row lies (in its old block, or in a block that was not there), so that two rows of one element type stay apart; what is owned stays owned behind a 'Below'.
-/
import Derived.WalkKit
import Derived.WalkSpells
import Derived.WalkLawsBesides
import Derived.ArgAppend
namespace Go.Proofs.Qxb6604678aGreatFmt
open Go Go.RowKit

/-- Two slices lie in different blocks. -/
def Apart (u v : Value) : Prop := ∀ k, u.ownBlock = some k → v.ownBlock ≠ some k

theorem Apart.symm {u v : Value} (h : Apart u v) : Apart v u := fun k hv hu => h k hu hv
theorem Apart.nil_left (v : Value) : Apart (.slice none 0 0) v := fun k h => by cases h
theorem Apart.nil_right (v : Value) : Apart v (.slice none 0 0) := fun k _ h => by cases h
theorem Apart.ne {u v : Value} (h : Apart u v) : u.ownBlock = none ∨ u.ownBlock ≠ v.ownBlock := by
  cases hu : u.ownBlock with
  | none => exact .inl rfl
  | some k => exact .inr fun e => h k hu e.symm

section
variable {P : Program} (w : World)

/-- 'run_append_own', and where the new row lies. -/
theorem run_append_own2 (base : Nat) (t ty e : TypeId) (i : TypeInfo) (z : Value) (size bytes : Nat) (ht : P.underlying t = some (.slice e)) (hi : P.info? e = some i) (hz : i.zero = some z)
    (hsize : i.size = size) (hby : i.bytes = bytes) (hzs : z.cells.size = size) (hsz : 0 < size)
    (v : Value) (n : Nat) (xs : List Value) (hown : w.ownsRow base e size v n xs)
    (a : Addr) (m c : Nat) (news : List Value) (hl : news.length = m * size) (hnews : ∀ j u, news[j]? = some u → w.cell? (a.add j) = some u) (h1 : ∀ u ∈ news, u.oneCell' = true)
    (h63 : n + m ≤ maxLen) (hbytes : (n + m) * bytes ≤ 140737488355328) (hbase : base ≤ w.heap.size) :
    ∃ v' w', (Builtin.append_ #[t, t] ty #[v, .slice (some a) m c]).run P w = .ok v' w' ∧ w'.ownsRow base e size v' (n + m) (xs ++ news) ∧ w.grownBy w' v.ownBlock ∧
      (v' = .slice none 0 0 ↔ v = .slice none 0 0 ∧ m = 0) ∧ (v'.ownBlock = v.ownBlock ∨ ∀ k, v'.ownBlock = some k → w.heap.size ≤ k) := by
  obtain ⟨v', w', hr, h2, h3, h4⟩ := run_append_own (P := P) w base t ty e i z size bytes ht hi hz hsize hby hzs hsz v n xs hown a m c news hl hnews h1 h63 hbytes hbase
  refine ⟨v', w', hr, h2, h3, h4, ?_⟩
  rcases hown.2 with ⟨rfl, rfl⟩ | ⟨g, cap, cur, rfl, hbg, hg, hnc, hcm, hcs, htake⟩
  · have hx : xs = [] := List.eq_nil_of_length_eq_zero (by simpa using hown.1)
    subst hx
    obtain ⟨v2, w2, hr2, o2, _, _⟩ := run_append_own (P := P) w w.heap.size t ty e i z size bytes ht hi hz hsize hby hzs hsz (.slice none 0 0) 0 [] (World.ownsRow_nil _ _ _ _) a m c news hl hnews h1 h63 hbytes (Nat.le_refl _)
    rw [hr] at hr2
    cases hr2
    exact .inr fun k hk => (o2.lt k hk).1
  · by_cases hroom : n + m ≤ cap
    · obtain ⟨w2, hr2, _, _⟩ := run_append_fits (P := P) w base t ty e i size ht hi hsize g n cap xs hown a m c news hl hnews h1 hroom
      rw [hr] at hr2
      cases hr2
      exact .inl rfl
    · obtain ⟨v2, w2, hr2, o2, _⟩ := run_append_arg_grows (P := P) w t ty e i z size bytes ht hi hz hsize hby hzs hsz ⟨g, 0, none⟩ n cap xs hown.1 (hown.cells (g := g) rfl) a m c news hl hnews (by omega) h63 hbytes
      rw [hr] at hr2
      cases hr2
      exact .inr fun k hk => (o2.lt k hk).1

theorem wpList_append_own2 {ops : Array Oper} {rest : List Oper} {o : Oper} {a : Act} {Q : Exit → Act → World → Prop} (hgd : o.guard = none) (s x : Operand) (t : TypeId)
    (ho : o.op = .call { callee := .builtin .append, args := #[s, x], argTypes := #[t, t] })
    (base : Nat) (e : TypeId) (i : TypeInfo) (z : Value) (size bytes : Nat) (ht : P.underlying t = some (.slice e)) (hi : P.info? e = some i) (hz : i.zero = some z)
    (hsize : i.size = size) (hby : i.bytes = bytes) (hzs : z.cells.size = size) (hsz : 0 < size)
    (v : Value) (n : Nat) (xs : List Value) (hs : a.eval s = v) (hown : w.ownsRow base e size v n xs)
    (ad : Addr) (m c : Nat) (news : List Value) (hx : a.eval x = .slice (some ad) m c) (hl : news.length = m * size) (hnews : ∀ j u, news[j]? = some u → w.cell? (ad.add j) = some u) (h1 : ∀ u ∈ news, u.oneCell' = true)
    (h63 : n + m ≤ maxLen) (hbytes : (n + m) * bytes ≤ 140737488355328) (hbase : base ≤ w.heap.size)
    (h : ∀ v' w', w'.ownsRow base e size v' (n + m) (xs ++ news) → w.grownBy w' v.ownBlock → (v' = .slice none 0 0 ↔ v = .slice none 0 0 ∧ m = 0) → (v'.ownBlock = v.ownBlock ∨ ∀ k, v'.ownBlock = some k → w.heap.size ≤ k) → wpList P ops Q rest (a.put o.dst v') w') : wpList P ops Q (o :: rest) a w := by
  refine wpList_plain hgd fun K hK => ?_
  obtain ⟨v', w', hr, h2, h3, h4, h5⟩ := run_append_own2 (P := P) w base t o.type e i z size bytes ht hi hz hsize hby hzs hsz v n xs hown ad m c news hl hnews h1 h63 hbytes hbase
  unfold Oper.wp execOp
  simp only [ho, resolve, invoke, builtin, Sem.run_bind, Sem.run_pure, Result.andThen_ok, List.map_toArray, List.map_cons, List.map_nil, hs, hx, hr]
  exact hK _ _ (h v' w' h2 h3 h4 h5)

end

/-- Another row stays apart behind such an append. -/
theorem apart_grown {w : World} {base : Nat} {e size : Nat} {u v v' : Value} {n : Nat} {ys : List Value} (hu : w.ownsRow base e size u n ys) (ha : Apart u v)
    (h : v'.ownBlock = v.ownBlock ∨ ∀ k, v'.ownBlock = some k → w.heap.size ≤ k) : Apart u v' := by
  intro k hk hv
  rcases h with h | h
  · exact ha k hk (h ▸ hv)
  · have h1 := (hu.lt k hk).2
    have h2 := h k hv
    omega

/-- What is owned stays owned behind what leaves all old blocks alone. -/
theorem own_below {w w' : World} {base : Nat} {e size : Nat} {v : Value} {n : Nat} {xs : List Value} (h : w.ownsRow base e size v n xs) {B : Nat} (hb : Below B w w') (hB : w.heap.size ≤ B) : w'.ownsRow base e size v n xs := by
  refine ⟨h.1, ?_⟩
  rcases h.2 with hn | ⟨g, cap, cur, rfl, hbg, hg, r⟩
  · exact .inl hn
  · exact .inr ⟨g, cap, cur, rfl, hbg, by rw [hb.block g (by have := (Array.getElem?_eq_some_iff.1 hg).1; omega)]; exact hg, r⟩

theorem own_base {w : World} {base base' : Nat} {e size : Nat} {v : Value} {n : Nat} {xs : List Value} (h : w.ownsRow base e size v n xs) (hB : base' ≤ base) : w.ownsRow base' e size v n xs := by
  refine ⟨h.1, ?_⟩
  rcases h.2 with hn | ⟨g, cap, cur, rfl, hbg, r⟩
  · exact .inl hn
  · exact .inr ⟨g, cap, cur, rfl, by omega, r⟩

theorem below_draws {B : Nat} {a w : World} (h : Below B a w) (n : Nat) : Below B a (w.drewN n) := h.trans ⟨rfl, rfl, rfl, Nat.le_refl _, fun _ _ => rfl⟩

/-- 'out = append(out, y)', one element of one cell. -/
theorem wpList_append_one {P : Program} (W : World) {ops : Array Oper} {rest : List Oper} {o : Oper} {a : Act} {Q : Exit → Act → World → Prop} (hgd : o.guard = none) (s x : Operand) (t : TypeId)
    (ho : o.op = .call { callee := .builtin .append, args := #[s, x], argTypes := #[t, t] })
    (base : Nat) (e : TypeId) (i : TypeInfo) (z : Value) (bytes : Nat) (ht : P.underlying t = some (.slice e)) (hi : P.info? e = some i) (hz : i.zero = some z)
    (hsize : i.size = 1) (hby : i.bytes = bytes) (hzs : z.cells.size = 1)
    (v : Value) (n : Nat) (xs : List Value) (hs : a.eval s = v) (hown : W.ownsRow base e 1 v n xs) (w0 : World) (hnx : Below base w0 W)
    (ad : Addr) (y : Value) (hx : a.eval x = .slice (some ad) 1 1) (hy : W.cell? ad = some y) (h1 : y.oneCell' = true)
    (h63 : n + 1 ≤ 9223372036854775807) (hbytes : (n + 1) * bytes ≤ 140737488355328) (hbase : base ≤ W.heap.size)
    (h : ∀ v' w', w'.ownsRow base e 1 v' (n + 1) (xs ++ [y]) → W.grownBy w' v.ownBlock → v' ≠ .slice none 0 0 → (v'.ownBlock = v.ownBlock ∨ ∀ k, v'.ownBlock = some k → W.heap.size ≤ k) → Below base w0 w' → wpList P ops Q rest (a.put o.dst v') w') : wpList P ops Q (o :: rest) a W := by
  refine wpList_append_own2 W hgd s x t ho base e i z 1 bytes ht hi hz hsize hby hzs (by decide) v n xs hs hown ad 1 1 [y] hx rfl ?_ ?_ (by unfold maxLen; omega) hbytes hbase ?_
  · intro j u hj
    match j, hj with
    | 0, hj =>
      simp at hj
      subst hj
      have : ad.add 0 = ad := by unfold Addr.add; split <;> simp_all
      rw [this]
      exact hy
  · intro u hu
    simp at hu
    subst hu
    exact h1
  · intro v' w' h2 h3 h4 h5
    exact h v' w' h2 h3 (fun e => by simpa using h4.1 e) h5 (hnx.grown h3 hbase fun k hk => (hown.lt k hk).1)

/-- The cells of some bytes. -/
def bv (l : List UInt8) : List Value := l.map fun b => Value.int .u8 (b.toNat : Int)
theorem bv_length (l : List UInt8) : (bv l).length = l.length := by simp [bv]
theorem bv_append (l m : List UInt8) : bv (l ++ m) = bv l ++ bv m := by simp [bv]

/-- 'string(b)', b a row of the call's own. -/
theorem run_string_own {P : Program} {w : World} {base : Nat} {e src dst : TypeId} {v : Value} {l : List UInt8} (h : w.ownsRow base e 1 v l.length (bv l))
    (hs : P.underlying src = some (.slice e)) (he : P.underlying e = some (.int .u8)) (hd : P.underlying dst = some .string) :
    (convert src dst v).run P w = .ok (.string ⟨l.toArray⟩) w := by
  rcases h.2 with ⟨rfl, h0⟩ | ⟨g, cap, cur, rfl, _, hg, _, _, _, htake⟩
  · have : l = [] := List.eq_nil_of_length_eq_zero h0
    subst this
    rw [run_convert_bytes_string w src dst e _ _ _ hs he hd]
    simp [Conv.bytesToString]
    rfl
  · refine run_convert_bytes_back w src dst e _ cap l hs he hd fun j hj => ?_
    have := h.cells (g := g) rfl j (.int .u8 (l[j].toNat : Int)) (by simp [bv, hj])
    exact this

theorem cell_idx (s : ByteArray) (k : Nat) (h : k < s.size) : s.data.toList[k]? = some s[k] := by
  rw [List.getElem?_eq_getElem (by simpa using h)]; rfl
theorem drop_idx (s : ByteArray) (k : Nat) (h : k < s.size) : s.data.toList.drop k = s[k] :: s.data.toList.drop (k + 1) := by
  rw [List.drop_eq_getElem_cons (by simpa using h)]; rfl

/-- A byte's number says which byte it is. -/
theorem byte_of_num {b : UInt8} {n : Nat} (h : (b.toNat : Int) = (n : Int)) (hn : n < 256) : b = UInt8.ofNat n := by
  have h2 : b.toNat = n := by omega
  apply UInt8.toNat_inj.1
  rw [h2]
  simp [Nat.mod_eq_of_lt hn]
theorem byte_is (b c : UInt8) : ((b.toNat : Int) == (c.toNat : Int)) = (b == c) := by
  rw [Bool.eq_iff_iff]
  simp only [beq_iff_eq]
  constructor
  · intro h; exact UInt8.toNat_inj.1 (by omega)
  · intro h; rw [h]

theorem extract_list (s : ByteArray) (a b : Nat) : s.extract a b = ⟨((s.data.toList.drop a).take (b - a)).toArray⟩ := by
  apply ByteArray.ext
  apply Array.ext'
  simp [ByteArray.data_extract, Array.toList_extract]
theorem extract_take (s : ByteArray) (k : Nat) : s.extract 0 k = ⟨(s.data.toList.take k).toArray⟩ := by rw [extract_list]; simp
theorem extract_drop (s : ByteArray) (k : Nat) : s.extract k s.size = ⟨(s.data.toList.drop k).toArray⟩ := by
  rw [extract_list, List.take_of_length_le (by simp)]

theorem ret_str {a b : List UInt8} (h : a = b) : Ending.returned (.string ⟨a.toArray⟩) = .returned (.string ⟨b.toArray⟩) := by rw [h]
theorem ret_bool {a b : Bool} (h : a = b) : Ending.returned (.bool a) = .returned (.bool b) := by rw [h]

end Go.Proofs.Qxb6604678aGreatFmt
