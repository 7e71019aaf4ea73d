import Derived.Test.Qxb6605892aL9
import Derived.Deep.RegionHeld3
namespace Go.Proofs.Qxb6605892a
open Go.RowKit
set_option linter.unusedVariables false

/-- An entry: perms, scheme, id. -/
structure Ent where
  p : Int
  s : ByteArray
  i : ByteArray
def Ent.no : Ent := ⟨0, ByteArray.empty, ByteArray.empty⟩
def Ent.ok (e : Ent) : Prop := -2147483648 ≤ e.p ∧ e.p ≤ 2147483647 ∧ e.s.size ≤ maxLen ∧ e.i.size ≤ maxLen
def Ent.cells (e : Ent) : List Value := [.int .i32 e.p, .string e.s, .string e.i]

/-- A slice of entries as it can be read. -/
structure Sees3 (w : World) (ao : Option Addr) (len : Nat) (es : List Ent) : Prop where
  count : es.length = len
  void : ao = none → len = 0
  ok : ∀ e ∈ es, e.ok
  perms : ∀ a, ao = some a → ∀ i, i < len → w.cell? (a.add (i * 3)) = some (.int .i32 (es.getD i Ent.no).p)
  scheme : ∀ a, ao = some a → ∀ i, i < len → w.cell? (a.add (i * 3 + 1)) = some (.string (es.getD i Ent.no).s)
  ident : ∀ a, ao = some a → ∀ i, i < len → w.cell? (a.add (i * 3 + 2)) = some (.string (es.getD i Ent.no).i)

theorem Sees3.read {w w' : World} {ao : Option Addr} {len : Nat} {es : List Ent} (h : Sees3 w ao len es) (hg : w.grownBy w' none) : Sees3 w' ao len es :=
  ⟨h.count, h.void, h.ok, fun a ha i hi => World.grownBy.cell hg (h.perms a ha i hi) (by simp), fun a ha i hi => World.grownBy.cell hg (h.scheme a ha i hi) (by simp), fun a ha i hi => World.grownBy.cell hg (h.ident a ha i hi) (by simp)⟩

theorem Sees3.at {w : World} {ao : Option Addr} {len : Nat} {es : List Ent} (h : Sees3 w ao len es) (hp : 0 < len) :
    ∃ b off, ao = some ⟨b, off, none⟩ ∧ ∀ k, k < len → ∃ e, es[k]? = some e ∧ e.ok ∧ w.cell? ⟨b, off + k * 3, none⟩ = some (.int .i32 e.p) ∧ w.cell? ⟨b, off + k * 3 + 1, none⟩ = some (.string e.s) ∧ w.cell? ⟨b, off + k * 3 + 2, none⟩ = some (.string e.i) := by
  cases ao with
  | none => have := h.void rfl; omega
  | some a =>
    have h0 := h.perms a rfl 0 hp
    have ha := addr_eta (by simpa using h0)
    obtain ⟨b, off, sp⟩ := a
    simp only [Addr.mk.injEq, true_and] at ha
    subst ha
    refine ⟨b, off, rfl, fun k hk => ?_⟩
    have hkl : k < es.length := by rw [h.count]; exact hk
    have h1 := h.perms _ rfl k hk
    have h2 := h.scheme _ rfl k hk
    have h3 := h.ident _ rfl k hk
    rw [Addr.add_lit] at h1 h2 h3
    have eg : es.getD k Ent.no = es[k] := by simp [List.getD, hkl]
    rw [eg] at h1 h2 h3
    exact ⟨es[k], by simp [hkl], h.ok _ (List.getElem_mem hkl), h1, by rw [Nat.add_assoc]; exact h2, by rw [Nat.add_assoc]; exact h3⟩

/-- It answers; nothing turns. -/
def Answers (w : World) (e : Ending) (w' : World) : Prop := ∃ r, e = .returned (.bool r) ∧ w' = w

set_option maxHeartbeats 2000000 in
theorem bytes22_pos (a0 : Option Addr) (n0 c0 b off len cap : Nat) (w : World) (h0 : n0 ≤ 9223372036854775807) (h1 : len ≤ 9223372036854775807)
    (hc : ∀ k, k < len → ∃ s i : ByteArray, s.size ≤ 9223372036854775807 ∧ i.size ≤ 9223372036854775807 ∧ w.cell? ⟨b, off + k * 3 + 1, none⟩ = some (.string s) ∧ w.cell? ⟨b, off + k * 3 + 2, none⟩ = some (.string i)) :
    Calls Try.prog 22 #[.slice a0 n0 c0, .slice (some ⟨b, off, none⟩) len cap] w (Answers w) := by
  have Hc : Hid _ := hc
  clear hc
  by_cases q0 : (1048576 : Int) < (n0 : Int)
  · go_enter Try.func22, Try.ntmps22
    go_wp2
    go_ret
    exact ⟨_, rfl, rfl⟩
  by_cases q1 : (1048576 : Int) < (len : Int)
  · go_enter Try.func22, Try.ntmps22
    go_wp2
    go_ret
    exact ⟨_, rfl, rfl⟩
  by_cases q2 : (1048576 : Int) < (n0 : Int) + (len : Int)
  · go_enter Try.func22, Try.ntmps22
    go_wp2
    go_ret
    exact ⟨_, rfl, rfl⟩
  go_enter Try.func22, Try.ntmps22
  go_wp2
  go_loop [5, 6] (fun z i => ∃ (k : Nat) (y : Int), k ≤ len ∧ i = .int .i64 k ∧ z = .int .i64 y ∧ 0 ≤ y ∧ y ≤ 1048576) (fun _ i => len - (intOf i).toNat)
  case atStart => exact ⟨0, (n0 : Int) + len, Nat.zero_le _, rfl, by go_num, by omega, by omega⟩
  case round =>
    obtain ⟨k, y, hk, rfl, rfl, y0, y1⟩ := hrel
    by_cases hlt : k < len
    · obtain ⟨s, i, hs, hi, d1, d2⟩ := Hc.out k hlt
      have q3 : (k : Int) < (len : Int) := by omega
      clear Hc
      by_cases t1 : (1048576 : Int) < (s.size : Int)
      · go_wp2
        go_ret
        exact ⟨_, rfl, rfl⟩
      by_cases t2 : (1048576 : Int) < y + (s.size : Int)
      · go_wp2
        go_ret
        exact ⟨_, rfl, rfl⟩
      by_cases t3 : (1048576 : Int) < (i.size : Int)
      · go_wp2
        go_ret
        exact ⟨_, rfl, rfl⟩
      by_cases t4 : (1048576 : Int) < y + (s.size : Int) + (i.size : Int)
      · go_wp2
        go_ret
        exact ⟨_, rfl, rfl⟩
      go_wp2
      go_round
      case rel => exact ⟨k + 1, y + s.size + i.size, by omega, by go_num, rfl, by omega, by omega⟩
      case measure => simp [intOf]; omega
    · go_wp2
      go_ret
      exact ⟨_, rfl, rfl⟩

set_option maxHeartbeats 2000000 in
theorem bytes22_zero (a0 a1 : Option Addr) (n0 c0 cap : Nat) (w : World) (h0 : n0 ≤ 9223372036854775807) :
    Calls Try.prog 22 #[.slice a0 n0 c0, .slice a1 0 cap] w (Answers w) := by
  by_cases q0 : (1048576 : Int) < (n0 : Int)
  · go_enter Try.func22, Try.ntmps22
    go_wp2
    go_ret
    exact ⟨_, rfl, rfl⟩
  go_enter Try.func22, Try.ntmps22
  go_wp2
  go_loop [5, 6] (fun z i => i = .int .i64 ((0 : Nat) : Int)) (fun _ i => 0)
  case atStart => rfl
  case round =>
    obtain rfl := hrel
    go_wp2
    go_ret
    exact ⟨_, rfl, rfl⟩

theorem bytes22_any (a0 a1 : Option Addr) (n0 c0 len cap : Nat) (es : List Ent) (w : World) (h0 : n0 ≤ 9223372036854775807) (h1 : len ≤ 9223372036854775807) (hs : Sees3 w a1 len es) :
    Calls Try.prog 22 #[.slice a0 n0 c0, .slice a1 len cap] w (Answers w) := by
  by_cases hp : 0 < len
  · obtain ⟨b, off, rfl, hc⟩ := hs.at hp
    refine bytes22_pos a0 n0 c0 b off len cap w h0 h1 fun k hk => ?_
    obtain ⟨e, _, ⟨_, _, o1, o2⟩, _, d1, d2⟩ := hc k hk
    unfold maxLen at o1 o2
    exact ⟨e.s, e.i, by omega, by omega, d1, d2⟩
  · obtain rfl : len = 0 := by omega
    exact bytes22_zero a0 a1 n0 c0 cap w h0

/-- What the entries' strings weigh. -/
def wt (es : List Ent) : Nat := (es.map fun e => e.s.size + e.i.size).sum
theorem wt_snoc (es : List Ent) (k : Nat) (e : Ent) (h : es[k]? = some e) : wt (es.take (k + 1)) = wt (es.take k) + (e.s.size + e.i.size) := by
  obtain ⟨hk, he⟩ := List.getElem?_eq_some_iff.1 h
  rw [List.take_succ_eq_append_getElem hk, he]
  simp [wt]

/-- It answers; where it says no, all fits. -/
def Weighs (n0 len : Nat) (es : List Ent) (w : World) (e : Ending) (w' : World) : Prop :=
  ∃ r, e = .returned (.bool r) ∧ (r = false → n0 + 40 * len + wt es ≤ 1048576 ∧ len ≤ 65536) ∧ w.grownBy w' none

set_option maxHeartbeats 2000000 in
theorem tooBig_pos (a0 : Option Addr) (n0 c0 b off len cap : Nat) (es : List Ent) (w : World) (h0 : n0 ≤ 9223372036854775807) (h1 : len ≤ 9223372036854775807) (hl : es.length = len)
    (hc : ∀ k, k < len → ∃ e, es[k]? = some e ∧ e.s.size ≤ 9223372036854775807 ∧ e.i.size ≤ 9223372036854775807 ∧ w.cell? ⟨b, off + k * 3 + 1, none⟩ = some (.string e.s) ∧ w.cell? ⟨b, off + k * 3 + 2, none⟩ = some (.string e.i)) :
    Calls Try.prog 23 #[.slice a0 n0 c0, .slice (some ⟨b, off, none⟩) len cap] w (Weighs n0 len es w) := by
  have Hc : Hid _ := hc
  have Hl : Hid _ := hl
  clear hc hl
  by_cases q0 : (1048576 : Int) < (n0 : Int)
  · go_enter Try.func23, Try.ntmps23
    go_wp2
    go_ret
    exact ⟨_, rfl, fun h => (by cases h), World.grownBy.refl _ _⟩
  by_cases q1 : (65536 : Int) < (len : Int)
  · go_enter Try.func23, Try.ntmps23
    go_wp2
    go_ret
    exact ⟨_, rfl, fun h => (by cases h), World.grownBy.refl _ _⟩
  go_enter Try.func23, Try.ntmps23
  go_wp2
  go_loopw [5, 6] (fun t i wr => ∃ (k : Nat) (y : Int), k ≤ len ∧ i = .int .i64 k ∧ t = .int .i64 y ∧ Hid (y = (n0 : Int) + 40 * len + wt (es.take k)) ∧ 0 ≤ y ∧ y ≤ 4000000 ∧ ∃ q, wr = w.drewN q) (fun _ i _ => len - (intOf i).toNat)
  case atStart => exact ⟨0, (n0 : Int) + 40 * len, Nat.zero_le _, rfl, by go_num, by show _ = _; simp [wt], by omega, by omega, 0, rfl⟩
  case round =>
    obtain ⟨k, y, hk, rfl, rfl, Hy, y0, y1, q, rfl⟩ := hrel
    by_cases hlt : k < len
    · obtain ⟨e, he, hs, hi, d1, d2⟩ := Hc.out k hlt
      have q3 : (k : Int) < (len : Int) := by omega
      have Hw : Hid _ := wt_snoc es k e he
      clear Hc he
      by_cases t1 : (1048576 : Int) < (e.s.size : Int)
      · go_wp2
        go_ret
        exact ⟨_, rfl, fun h => (by cases h), grownBy_drewN _ _⟩
      by_cases t3 : (1048576 : Int) < (e.i.size : Int)
      · go_wp2
        go_ret
        exact ⟨_, rfl, fun h => (by cases h), grownBy_drewN _ _⟩
      by_cases t5 : (1048576 : Int) < y + ((e.s.size : Int) + (e.i.size : Int))
      · go_wp2
        go_quiet (fail)
        go_wp2
        go_ret
        exact ⟨_, rfl, fun h => (by cases h), grownBy_drewN _ _⟩
      go_wp2
      go_quiet (fail)
      go_wp2
      go_roundw
      case rel => exact ⟨k + 1, y + (e.s.size + e.i.size), by omega, by go_num, rfl, by show _ = _; rw [Hw.out, Hy.out]; omega, by omega, by omega, _, rfl⟩
      case measure => simp [intOf]; omega
    · obtain rfl : k = len := by omega
      have hT : es.take k = es := List.take_of_length_le (by rw [Hl.out]; omega)
      rw [hT] at Hy
      clear hT Hc
      go_wp2
      go_ret
      refine ⟨_, rfl, fun h => ?_, grownBy_drewN _ _⟩
      have h2 := of_decide_eq_false h
      have h3 := Hy.out
      omega

set_option maxHeartbeats 2000000 in
theorem tooBig_zero (a0 a1 : Option Addr) (n0 c0 cap : Nat) (w : World) (h0 : n0 ≤ 9223372036854775807) :
    Calls Try.prog 23 #[.slice a0 n0 c0, .slice a1 0 cap] w (Weighs n0 0 [] w) := by
  by_cases q0 : (1048576 : Int) < (n0 : Int)
  · go_enter Try.func23, Try.ntmps23
    go_wp2
    go_ret
    exact ⟨_, rfl, fun h => (by cases h), World.grownBy.refl _ _⟩
  go_enter Try.func23, Try.ntmps23
  go_wp2
  go_loopw [5, 6] (fun t i wr => i = .int .i64 ((0 : Nat) : Int) ∧ t = .int .i64 n0 ∧ wr = w) (fun _ _ _ => 0)
  case atStart => exact ⟨rfl, by go_num, rfl⟩
  case round =>
    obtain ⟨rfl, rfl, rfl⟩ := hrel
    go_wp2
    go_ret
    exact ⟨_, rfl, fun h => (by simp [wt]; omega), World.grownBy.refl _ _⟩

theorem tooBig_any (a0 a1 : Option Addr) (n0 c0 len cap : Nat) (es : List Ent) (w : World) (h0 : n0 ≤ 9223372036854775807) (h1 : len ≤ 9223372036854775807) (hs : Sees3 w a1 len es) :
    Calls Try.prog 23 #[.slice a0 n0 c0, .slice a1 len cap] w (Weighs n0 len es w) := by
  by_cases hp : 0 < len
  · obtain ⟨b, off, rfl, hc⟩ := hs.at hp
    refine tooBig_pos a0 n0 c0 b off len cap es w h0 h1 hs.count fun k hk => ?_
    obtain ⟨e, he, ⟨_, _, o1, o2⟩, _, d1, d2⟩ := hc k hk
    unfold maxLen at o1 o2
    exact ⟨e, he, by omega, by omega, d1, d2⟩
  · obtain rfl : len = 0 := by omega
    obtain rfl : es = [] := List.eq_nil_of_length_eq_zero hs.count
    exact tooBig_zero a0 a1 n0 c0 cap w h0

end Go.Proofs.Qxb6605892a
