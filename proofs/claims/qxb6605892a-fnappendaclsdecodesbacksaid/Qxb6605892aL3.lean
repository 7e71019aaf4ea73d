import Derived.Test.Qxb6605892aFr
namespace Go.Proofs.Qxb6605892a
open Go.RowKit
set_option linter.unusedVariables false

/-- A slice of bytes as it can be read. -/
def Sees (w : World) (ao : Option Addr) (len : Nat) (ys : List Int) : Prop :=
  ys.length = len ∧ (ao = none → len = 0) ∧ ∀ a, ao = some a → ∀ i, i < len → w.cell? (a.add i) = some (.int .u8 (ys.getD i 0))
theorem Sees.read {w w' : World} {ao : Option Addr} {len : Nat} {ys : List Int} (h : Sees w ao len ys) (hg : w.grownBy w' none) : Sees w' ao len ys :=
  ⟨h.1, h.2.1, fun a ha i hi => World.grownBy.cell hg (h.2.2 a ha i hi) (by simp)⟩
theorem sees_row {w : World} {B : Nat} {ao : Option Addr} {n cap : Nat} {zs : List Int} (h : (bts (.slice ao n cap) zs).lies w B) : Sees w ao n zs := by
  obtain ⟨rfl, _, _⟩ := row_len h
  refine ⟨rfl, fun h0 => ?_, fun a ha i hi => ?_⟩
  · by_cases hp : 0 < zs.length
    · obtain ⟨g, hg, _⟩ := row_some h hp
      rw [h0] at hg
      cases hg
    · omega
  · obtain ⟨g, hg, _, _, hc, _⟩ := row_some h (by omega)
    rw [hg] at ha
    cases ha
    rw [Addr.add_lit, Nat.zero_add]
    exact hc i hi
/-- Out of what the opener hands over. -/
theorem sees_arg {w : World} {a : Option Addr} {len cap : Nat} {zs : List Int}
    (h : (a = none ∧ len = 0 ∧ cap = 0 ∧ zs = []) ∨
      ∃ x, a = some x ∧ len ≤ cap ∧ cap ≤ maxLen ∧ zs.length = cap ∧ (∀ i, i < zs.length → w.cell? (x.add i) = some (.int .u8 (zs.getD i 0))) ∧ ∀ n ∈ zs, (Lit.int .u8 n).wf = true) : ∃ ys, Sees w a len ys := by
  rcases h with ⟨rfl, rfl, rfl, rfl⟩ | ⟨x, rfl, hl, hm, hz, hc, _⟩
  · exact ⟨[], rfl, fun _ => rfl, fun a ha => by cases ha⟩
  · refine ⟨zs.take len, by simp; omega, fun h => (by cases h), fun a ha i hi => ?_⟩
    cases ha
    rw [hc i (by omega)]
    simp [List.getD, hi]

theorem clone_sees (ao : Option Addr) (len cap : Nat) (zs : List Int) (w : World) (h : Sees w ao len zs) (hl : len ≤ 1099511627776) :
    Calls Try.prog 11 #[.slice ao len cap] w fun e w' => ∃ ao' cap', e = .returned (.slice ao' len cap') ∧ (bts (.slice ao' len cap') zs).lies w' w.heap.size ∧ w.grownBy w' none :=
  clone_any ao len cap zs w h.1 hl h.2.1 h.2.2

theorem src_row {w : World} {B : Nat} {ao : Option Addr} {n cap : Nat} {zs : List Int} (h : (bts (.slice ao n cap) zs).lies w B) : Src Try.prog 1 22 (.slice ao n cap) n (zs.map (Value.int .u8)) w := by
  have hs := sees_row h
  cases ao with
  | none =>
    obtain rfl := hs.2.1 rfl
    obtain rfl : zs = [] := List.eq_nil_of_length_eq_zero hs.1
    exact Src.ofNil _ Try.underlying22 cap
  | some a =>
    refine Src.ofSlice _ Try.underlying22 a n cap _ (by simp [hs.1]) (fun j u hj => ?_) (ints_oneCell .u8 _)
    have hlt : j < zs.length := by simpa using (List.getElem?_eq_some_iff.1 hj).1
    rw [hs.2.2 a rfl j (by rw [← hs.1]; exact hlt)]
    simpa [List.getD, hlt] using hj

theorem row_owns {w : World} {B : Nat} {ao : Option Addr} {n cap : Nat} {zs : List Int} (h : (bts (.slice ao n cap) zs).lies w B) : w.ownsRow B 5 1 (.slice ao n cap) n (zs.map (Value.int .u8)) := by
  obtain ⟨rfl, _, _⟩ := row_len h
  exact h

set_option maxHeartbeats 1000000 in
theorem bytes10 (a0 a1 : Option Addr) (n0 c0 n1 c1 : Nat) (w : World) (h0 : n0 ≤ 9223372036854775807) (h1 : n1 ≤ 9223372036854775807) :
    Calls Try.prog 10 #[.slice a0 n0 c0, .slice a1 n1 c1] w fun e w' => e = .returned (.bool (decide (n0 + n1 ≤ 1048576))) ∧ w' = w := by
  by_cases q0 : (1048576 : Int) < (n0 : Int)
  · have : decide (n0 + n1 ≤ 1048576) = false := by simp; omega
    rw [this]
    go_enter Try.func10, Try.ntmps10
    go_wp2
    go_ret
    exact ⟨rfl, rfl⟩
  · by_cases q1 : (1048576 : Int) < (n1 : Int)
    · have : decide (n0 + n1 ≤ 1048576) = false := by simp; omega
      rw [this]
      go_enter Try.func10, Try.ntmps10
      go_wp2
      go_ret
      exact ⟨rfl, rfl⟩
    · by_cases q2 : (1048576 : Int) < (n0 : Int) + (n1 : Int)
      · have : decide (n0 + n1 ≤ 1048576) = false := by simp; omega
        rw [this]
        go_enter Try.func10, Try.ntmps10
        go_wp2
        go_ret
        exact ⟨rfl, rfl⟩
      · have : decide (n0 + n1 ≤ 1048576) = true := by simp; omega
        rw [this]
        go_enter Try.func10, Try.ntmps10
        go_wp2
        go_ret
        exact ⟨rfl, rfl⟩

set_option maxHeartbeats 2000000 in
theorem law3 (a0 a1 : Option Addr) (n0 c0 n1 c1 : Nat) (P Y : List Int) (w : World) (s0 : Sees w a0 n0 P) (s1 : Sees w a1 n1 Y) (m0 : n0 ≤ 9223372036854775807) (m1 : n1 ≤ 9223372036854775807) :
    Calls Try.prog 3 #[.slice a0 n0 c0, .slice a1 n1 c1] w fun e w' => e = .returned (.bool true) ∧ Below w.heap.size w w' := by
  obtain ⟨i0, hi, hz0, hz1, hz2⟩ := info_parts info5
  have hb := bytes10 a0 a1 n0 c0 n1 c1 w m0 m1
  by_cases hs : n0 + n1 ≤ 1048576
  case neg =>
    rw [decide_eq_false hs] at hb
    go_enter Try.func3, Try.ntmps3
    go_wp2_with fail
    refine hb.mono ?_
    rintro e w' ⟨rfl, rfl⟩
    clear hb
    go_wp2
    go_ret
    exact ⟨rfl, Below.refl _ _⟩
  rw [decide_eq_true hs] at hb
  have q0 : ¬ (1048576 : Int) < (n0 : Int) := by omega
  have q1 : ¬ (1048576 : Int) < (n1 : Int) := by omega
  have q2 : ¬ (1048576 : Int) < (n0 : Int) + (n1 : Int) := by omega
  go_enter Try.func3, Try.ntmps3
  go_wp2_with fail
  refine hb.mono ?_
  rintro e w' ⟨rfl, rfl⟩
  clear hb
  go_wp2_with fail
  refine (clone_sees a0 n0 c0 P _ s0 (by omega)).mono ?_
  rintro e w1 ⟨pa, pc, rfl, p1, g1⟩
  have st1 := (St.start w').new g1 p1
  go_wp2_with fail
  refine (clone_sees a1 n1 c1 Y _ (s1.read g1) (by omega)).mono ?_
  rintro e w2 ⟨ya, yc, rfl, p2, g2⟩
  have st2 := st1.new g2 p2
  go_wp2_with fail
  refine (clone_sees pa n0 pc P _ (sees_row st2.second) (by omega)).mono ?_
  rintro e w3 ⟨oa, oc, rfl, p3, g3⟩
  have st3 := (st2.new g3 p3).rot3
  have HP : Hid (P.length = n0) := s0.1
  have HY : Hid (Y.length = n1) := s1.1
  clear st1 st2 g1 g2 g3 p1 p2 p3 s0 s1
  go_wp2_with fail
  refine (zzbegin_any pa n0 pc w'.heap.size P _ st3.head st3.size (by rw [HP.out]; omega)).mono ?_
  rintro e w4 ⟨ba, bc, rfl, g4⟩
  have st4 := st3.grew g4
  clear st3 g4
  have hown := row_owns st4.head
  have hsrc := src_row st4.third
  have hsz := st4.size
  go_wp2_with (at_builtin; refine wpList_append_grew _ rfl _ _ 22 22 rfl w'.heap.size 5 i0 (.int .u8 0) Try.underlying22 hi hz0 hz1 hz2 rfl ba _ bc _ rfl hown _ rfl n1 _ hsrc ?c1 ?c2 ?_)
  case c1 => omega
  case c2 => exact hsz
  intro da dc w5 g5
  have g6 := grew_to (P ++ (0 :: 0 :: 0 :: 0 :: Y)) (by have := HP.out; have := HY.out; simp; omega) (by simp) g5
  have st5 := st4.grew g6
  clear st4 g5 g6 hown hsrc hsz
  go_wp2_with fail
  refine (zzend_any da _ dc w'.heap.size P Y 0 0 0 0 _ _ st5.head (by rw [HP.out]) (by have := HP.out; have := HY.out; simp; omega)).mono ?_
  rintro e w6 ⟨rfl, p6, g6⟩
  have st6 := st5.grew ⟨p6, g6, .inl rfl⟩
  rw [HY.out] at st6
  clear st5 p6 g6
  go_wp2_with fail
  refine (hasPre_any _ _ _ _ _ _ _ _ _ (be4 n1 ++ Y) _ st6.head st6.second rfl (by have := HP.out; have := HY.out; simp [be4]; omega)).mono ?_
  rintro e w7 ⟨rfl, g7⟩
  have st7 := st6.read g7
  clear st6 g7
  go_wp2_with fail
  refine (rd32_be _ _ _ _ _ _ n1 _ st7.head (by have := HP.out; have := HY.out; simp [be4]; omega) P Y rfl (by rw [HP.out]) (by omega) (by omega)).mono ?_
  rintro e w8 ⟨rfl, g8⟩
  have st8 := st7.read g8
  clear st7 g8
  have hcell : ∀ k, k < n1 → ∃ g g2 x, da = some ⟨g, 0, none⟩ ∧ ya = some ⟨g2, 0, none⟩ ∧ w8.cell? ⟨g, n0 + 4 + k, none⟩ = some (.int .u8 x) ∧ w8.cell? ⟨g2, k, none⟩ = some (.int .u8 x) := by
    intro k hk
    obtain ⟨g, hg, _, _, hc, _⟩ := row_some st8.head (by simp [be4]; omega)
    obtain ⟨g2, hg2, _, _, hc2, _⟩ := row_some st8.third (by rw [HY.out]; omega)
    refine ⟨g, g2, Y.getD k 0, hg, hg2, ?_, hc2 k (by rw [HY.out]; exact hk)⟩
    rw [hc (n0 + 4 + k) (by have := HP.out; have := HY.out; simp [be4]; omega), ← List.append_assoc]
    rw [getD_at (P ++ be4 n1) Y (Y.getD k 0) k _ (by have := HP.out; simp [be4]; omega) (by have := HY.out; simp [List.getD, show k < Y.length by omega])]
  have Hc : Hid _ := hcell
  clear hcell
  go_wp2_with fail
  go_loopw [9] (fun i wr => ∃ k : Nat, k ≤ n1 ∧ i = .int .i64 k ∧ ∃ q, wr = w8.drewN q) (fun i _ => n1 - (intOf i).toNat)
  case atStart => exact ⟨0, Nat.zero_le _, rfl, 0, rfl⟩
  case round =>
    obtain ⟨k, hk, rfl, q, rfl⟩ := hrel
    by_cases hlt : k < n1
    · obtain ⟨g, g2, x, rfl, rfl, d1, d2⟩ := Hc.out k hlt
      have q1 : (n0 : Int) + 4 + (k : Int) < (n0 : Int) + 4 + (n1 : Int) := by omega
      have q2 : (k : Int) < (n1 : Int) := by omega
      clear Hc st8
      go_wp2
      go_quiet (fail)
      go_wp2
      go_roundw
      case rel => exact ⟨k + 1, by omega, by go_num, _, rfl⟩
      case measure => simp [intOf]; omega
    · go_wp2
      go_ret
      exact ⟨rfl, (st8.read (grownBy_drewN _ _)).below⟩
end Go.Proofs.Qxb6605892a
