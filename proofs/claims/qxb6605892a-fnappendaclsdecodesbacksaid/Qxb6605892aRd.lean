import Derived.Test.Qxb6605892aRows
import Derived.Test.Qxb6605892aBase
import Derived.WalkSpells
import Derived.RegionTactic
import Derived.Deep.QuietTactic
import Derived.BigQuiet
import Derived.Lib.EndianBits
namespace Go.Proofs.Qxb6605892a
open Go.RowKit
set_option linter.unusedVariables false

theorem ret_int {k : IntKind} {a b : Int} (h : a = b) : Ending.returned (.int k a) = .returned (.int k b) := by rw [h]

/-- Four bytes, the greatest first. -/
def be4 (v : Int) : List Int := [v / 16777216, v / 65536 % 256, v / 256 % 256, v % 256]
theorem be4_length (v : Int) : (be4 v).length = 4 := rfl

/-- What is known of a byte row's value. -/
theorem row_len {w : World} {B : Nat} {ao : Option Addr} {n cap : Nat} {zs : List Int} (h : (bts (.slice ao n cap) zs).lies w B) : n = zs.length ∧ n ≤ cap ∧ cap ≤ maxLen := by
  rcases h.2 with ⟨hv, h0⟩ | ⟨g, cap', cur, hv, _, _, hn, hm, _⟩
  · simp only [bts, Value.slice.injEq] at hv h0
    obtain ⟨_, rfl, rfl⟩ := hv
    exact ⟨h0.symm, Nat.le_refl _, Nat.zero_le _⟩
  · simp only [bts, Value.slice.injEq] at hv hn
    obtain ⟨_, rfl, rfl⟩ := hv
    exact ⟨rfl, hn, hm⟩

theorem row_some {w : World} {B : Nat} {ao : Option Addr} {n cap : Nat} {zs : List Int} (h : (bts (.slice ao n cap) zs).lies w B) (hp : 0 < zs.length) :
    ∃ g, ao = some ⟨g, 0, none⟩ ∧ B ≤ g ∧ g < w.heap.size ∧ (∀ i, i < zs.length → w.cell? ⟨g, i, none⟩ = some (.int .u8 (zs.getD i 0))) ∧ ∀ i, w.frozen? ⟨g, i, none⟩ = false := by
  have h' := h
  rcases h.2 with ⟨hv, h0⟩ | ⟨g, cap', cur, hv, hb, hg, hn, hm, _⟩
  · simp only [bts] at h0
    omega
  · simp only [bts, Value.slice.injEq] at hv
    obtain ⟨rfl, rfl, rfl⟩ := hv
    refine ⟨g, rfl, hb, (Array.getElem?_eq_some_iff.1 hg).1, fun i hi => ?_, fun i => World.ownsRow.frozenAt (n := zs.length) h' i⟩
    have := World.ownsRow.cellAt (n := zs.length) h' i (by simpa [bts] using hi)
    rw [this]
    simp [bts, List.getD, hi]

theorem u32_join24 (x y : Int) (hx₀ : 0 ≤ x) (hx : x % 16777216 = 0) (hx₁ : x < 4294967296) (hy₀ : 0 ≤ y) (hy : y < 16777216) : bits .or .u32 x y = x + y :=
  bits_join .u32 32 (by decide) wraps_u32 24 x y hx₀ hx hx₁ hy₀ hy (by omega)
theorem u32_join16 (x y : Int) (hx₀ : 0 ≤ x) (hx : x % 65536 = 0) (hx₁ : x < 4294967296) (hy₀ : 0 ≤ y) (hy : y < 65536) : bits .or .u32 x y = x + y :=
  bits_join .u32 32 (by decide) wraps_u32 16 x y hx₀ hx hx₁ hy₀ hy (by omega)
theorem u32_join8 (x y : Int) (hx₀ : 0 ≤ x) (hx : x % 256 = 0) (hx₁ : x < 4294967296) (hy₀ : 0 ≤ y) (hy : y < 256) : bits .or .u32 x y = x + y :=
  bits_join .u32 32 (by decide) wraps_u32 8 x y hx₀ hx hx₁ hy₀ hy (by omega)

theorem join4 (a b c d : Int) (ha0 : 0 ≤ a) (ha1 : a ≤ 255) (hb0 : 0 ≤ b) (hb1 : b ≤ 255) (hc0 : 0 ≤ c) (hc1 : c ≤ 255) (hd0 : 0 ≤ d) (hd1 : d ≤ 255) :
    bits .or .u32 (bits .or .u32 (bits .or .u32 (a * 16777216) (b * 65536)) (c * 256)) d = a * 16777216 + b * 65536 + c * 256 + d := by
  rw [u32_join24 (a * 16777216) (b * 65536) (by omega) (by omega) (by omega) (by omega) (by omega),
    u32_join16 _ (c * 256) (by omega) (by omega) (by omega) (by omega) (by omega), u32_join8 _ d (by omega) (by omega) (by omega) (by omega) (by omega)]

set_option maxHeartbeats 1000000 in
theorem rd32_cells (g n cap : Nat) (i : Nat) (a b c d : Int) (w : World) (hn : i + 4 ≤ n) (hN : n ≤ 1099511627776)
    (ha : 0 ≤ a ∧ a ≤ 255) (hb : 0 ≤ b ∧ b ≤ 255) (hc : 0 ≤ c ∧ c ≤ 255) (hd : 0 ≤ d ∧ d ≤ 255)
    (c0 : w.cell? ⟨g, i, none⟩ = some (.int .u8 a)) (c1 : w.cell? ⟨g, i + 1, none⟩ = some (.int .u8 b)) (c2 : w.cell? ⟨g, i + 2, none⟩ = some (.int .u8 c)) (c3 : w.cell? ⟨g, i + 3, none⟩ = some (.int .u8 d)) :
    Calls Try.prog 15 #[.slice (some ⟨g, 0, none⟩) n cap, .int .i64 i] w fun e w' => e = .returned (.int .u32 (a * 16777216 + b * 65536 + c * 256 + d)) ∧ w.grownBy w' none := by
  obtain ⟨ha0, ha1⟩ := ha
  obtain ⟨hb0, hb1⟩ := hb
  obtain ⟨hc0, hc1⟩ := hc
  obtain ⟨hd0, hd1⟩ := hd
  have q0 : (i : Int) < (n : Int) := by omega
  have q1 : (i : Int) + 1 < (n : Int) := by omega
  have q2 : (i : Int) + 2 < (n : Int) := by omega
  have q3 : (i : Int) + 3 < (n : Int) := by omega
  go_enter Try.func15, Try.ntmps15
  go_wp2
  go_quiet (fail)
  go_wp2
  go_ret
  exact ⟨ret_int (join4 a b c d ha0 ha1 hb0 hb1 hc0 hc1 hd0 hd1), grownBy_drewN _ _⟩

theorem getD_at (l r : List Int) (x : Int) (j : Nat) (k : Nat) (hk : k = l.length + j) (hx : r[j]? = some x) : (l ++ r).getD k 0 = x := by
  subst hk
  simp [List.getD, List.getElem?_append_right, hx]

/-- zzRd32: at place I lie the four bytes of v: it reads v. -/
theorem rd32_be (ao : Option Addr) (n cap B : Nat) (zs : List Int) (I v : Int) (w : World) (h : (bts (.slice ao n cap) zs).lies w B) (hN : zs.length ≤ 1099511627776)
    (l r : List Int) (hz : zs = l ++ (be4 v ++ r)) (hI : I = (l.length : Int)) (hv0 : 0 ≤ v) (hv1 : v < 4294967296) :
    Calls Try.prog 15 #[.slice ao n cap, .int .i64 I] w fun e w' => e = .returned (.int .u32 v) ∧ w.grownBy w' none := by
  obtain ⟨hn, _, _⟩ := row_len h
  have hl : zs.length = l.length + (4 + r.length) := by rw [hz]; simp [be4_length]
  obtain ⟨g, rfl, _, _, hc, _⟩ := row_some h (by omega)
  subst hI
  have e0 := hc l.length (by omega)
  have e1 := hc (l.length + 1) (by omega)
  have e2 := hc (l.length + 2) (by omega)
  have e3 := hc (l.length + 3) (by omega)
  rw [hz, getD_at l _ (v / 16777216) 0 _ (by omega) (by simp [be4])] at e0
  rw [hz, getD_at l _ (v / 65536 % 256) 1 _ (by omega) (by simp [be4])] at e1
  rw [hz, getD_at l _ (v / 256 % 256) 2 _ (by omega) (by simp [be4])] at e2
  rw [hz, getD_at l _ (v % 256) 3 _ (by omega) (by simp [be4])] at e3
  refine (rd32_cells g n cap l.length _ _ _ _ w (by omega) (by omega) (by omega) (by omega) (by omega) (by omega) e0 e1 e2 e3).mono fun e w' he => ⟨he.1.trans (ret_int ?_), he.2⟩
  omega

set_option maxHeartbeats 1000000 in
theorem hasPre_pos (g n cap g2 m cap2 : Nat) (ys : List Int) (w : World) (hn : n ≤ 1099511627776) (hm : m ≤ n)
    (hc : ∀ i, i < m → w.cell? ⟨g, i, none⟩ = some (.int .u8 (ys.getD i 0))) (hc2 : ∀ i, i < m → w.cell? ⟨g2, i, none⟩ = some (.int .u8 (ys.getD i 0))) :
    Calls Try.prog 14 #[.slice (some ⟨g, 0, none⟩) n cap, .slice (some ⟨g2, 0, none⟩) m cap2] w fun e w' => e = .returned (.bool true) ∧ w.grownBy w' none := by
  have hnm : ¬ (n : Int) < (m : Int) := by omega
  go_enter Try.func14, Try.ntmps14
  go_wp2
  go_loopw [5] (fun i wr => ∃ k : Nat, k ≤ m ∧ i = .int .i64 k ∧ ∃ q, wr = w.drewN q) (fun i _ => m - (intOf i).toNat)
  case atStart => exact ⟨0, Nat.zero_le _, rfl, 0, rfl⟩
  case round =>
    obtain ⟨k, hk, rfl, q, rfl⟩ := hrel
    by_cases hlt : k < m
    · have d1 := hc k hlt
      have d2 := hc2 k hlt
      have q1 : (k : Int) < (n : Int) := by omega
      have q2 : (k : Int) < (m : Int) := by omega
      clear hc hc2
      go_wp2
      go_quiet (fail)
      go_wp2
      go_roundw
      case rel => exact ⟨k + 1, by omega, by go_num, _, rfl⟩
      case measure => simp [intOf]; omega
    · go_wp2
      go_ret
      exact ⟨rfl, grownBy_drewN _ _⟩

set_option maxHeartbeats 1000000 in
theorem hasPre_zero (ao bo : Option Addr) (n cap cap2 : Nat) (w : World) :
    Calls Try.prog 14 #[.slice ao n cap, .slice bo 0 cap2] w fun e w' => e = .returned (.bool true) ∧ w.grownBy w' none := by
  have hnm : ¬ (n : Int) < ((0 : Nat) : Int) := by omega
  go_enter Try.func14, Try.ntmps14
  go_wp2
  go_loopw [5] (fun i wr => i = .int .i64 ((0 : Nat) : Int) ∧ wr = w) (fun i _ => 0)
  case atStart => exact ⟨rfl, rfl⟩
  case round =>
    obtain ⟨rfl, rfl⟩ := hrel
    go_wp2
    go_ret
    exact ⟨rfl, World.grownBy.refl _ _⟩

/-- zzHasPrefix where it is so. -/
theorem hasPre_any (ao bo : Option Addr) (n cap m cap2 B : Nat) (zs ys r : List Int) (w : World) (h : (bts (.slice ao n cap) zs).lies w B) (h2 : (bts (.slice bo m cap2) ys).lies w B) (hz : zs = ys ++ r) (hN : zs.length ≤ 1099511627776) :
    Calls Try.prog 14 #[.slice ao n cap, .slice bo m cap2] w fun e w' => e = .returned (.bool true) ∧ w.grownBy w' none := by
  obtain ⟨hn, _, _⟩ := row_len h
  obtain ⟨hm, _, _⟩ := row_len h2
  have hl : zs.length = ys.length + r.length := by rw [hz]; simp
  by_cases h0 : m = 0
  · subst h0
    exact hasPre_zero ao bo n cap cap2 w
  · obtain ⟨g, rfl, _, _, hc, _⟩ := row_some h (by omega)
    obtain ⟨g2, rfl, _, _, hc2, _⟩ := row_some h2 (by omega)
    refine hasPre_pos g n cap g2 m cap2 ys w (by omega) (by omega) (fun i hi => ?_) (fun i hi => hc2 i (by omega))
    rw [hc i (by omega), hz]
    simp [List.getD, List.getElem?_append_left (show i < ys.length by omega)]

set_option maxHeartbeats 1000000 in
theorem eq_pos (g cap g2 m cap2 : Nat) (ys : List Int) (w : World) (hn : m ≤ 1099511627776)
    (hc : ∀ i, i < m → w.cell? ⟨g, i, none⟩ = some (.int .u8 (ys.getD i 0))) (hc2 : ∀ i, i < m → w.cell? ⟨g2, i, none⟩ = some (.int .u8 (ys.getD i 0))) :
    Calls Try.prog 19 #[.slice (some ⟨g, 0, none⟩) m cap, .slice (some ⟨g2, 0, none⟩) m cap2] w fun e w' => e = .returned (.bool true) ∧ w.grownBy w' none := by
  go_enter Try.func19, Try.ntmps19
  go_wp2
  go_loopw [5] (fun i wr => ∃ k : Nat, k ≤ m ∧ i = .int .i64 k ∧ ∃ q, wr = w.drewN q) (fun i _ => m - (intOf i).toNat)
  case atStart => exact ⟨0, Nat.zero_le _, rfl, 0, rfl⟩
  case round =>
    obtain ⟨k, hk, rfl, q, rfl⟩ := hrel
    by_cases hlt : k < m
    · have d1 := hc k hlt
      have d2 := hc2 k hlt
      have q2 : (k : Int) < (m : Int) := by omega
      clear hc hc2
      go_wp2
      go_quiet (fail)
      go_wp2
      go_roundw
      case rel => exact ⟨k + 1, by omega, by go_num, _, rfl⟩
      case measure => simp [intOf]; omega
    · go_wp2
      go_ret
      exact ⟨rfl, grownBy_drewN _ _⟩

set_option maxHeartbeats 1000000 in
theorem eq_zero (ao bo : Option Addr) (cap cap2 : Nat) (w : World) :
    Calls Try.prog 19 #[.slice ao 0 cap, .slice bo 0 cap2] w fun e w' => e = .returned (.bool true) ∧ w.grownBy w' none := by
  go_enter Try.func19, Try.ntmps19
  go_wp2
  go_loopw [5] (fun i wr => i = .int .i64 ((0 : Nat) : Int) ∧ wr = w) (fun i _ => 0)
  case atStart => exact ⟨rfl, rfl⟩
  case round =>
    obtain ⟨rfl, rfl⟩ := hrel
    go_wp2
    go_ret
    exact ⟨rfl, World.grownBy.refl _ _⟩

/-- zzEq where it is so. -/
theorem eq_any (ao bo : Option Addr) (n cap m cap2 B : Nat) (zs ys : List Int) (w : World) (h : (bts (.slice ao n cap) zs).lies w B) (h2 : (bts (.slice bo m cap2) ys).lies w B) (hz : zs = ys) (hN : zs.length ≤ 1099511627776) :
    Calls Try.prog 19 #[.slice ao n cap, .slice bo m cap2] w fun e w' => e = .returned (.bool true) ∧ w.grownBy w' none := by
  subst hz
  obtain ⟨hn, _, _⟩ := row_len h
  obtain ⟨hm, _, _⟩ := row_len h2
  obtain rfl : n = m := by omega
  by_cases h0 : n = 0
  · subst h0
    exact eq_zero ao bo cap cap2 w
  · obtain ⟨g, rfl, _, _, hc, _⟩ := row_some h (by omega)
    obtain ⟨g2, rfl, _, _, hc2, _⟩ := row_some h2 (by omega)
    exact eq_pos g cap g2 n cap2 zs w (by omega) (fun i hi => hc i (by omega)) (fun i hi => hc2 i (by omega))

end Go.Proofs.Qxb6605892a
