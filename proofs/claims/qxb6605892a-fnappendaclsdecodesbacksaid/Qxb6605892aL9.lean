import Derived.Test.Qxb6605892aL5
namespace Go.Proofs.Qxb6605892a
open Go.RowKit
set_option linter.unusedVariables false

/-- A nil slice is a row of no bytes. -/
theorem St.nil {w0 w : World} {rs : List Rw} (h : St w0 w rs) : St w0 w (bts (.slice none 0 0) [] :: rs) := by
  refine ⟨h.below, fun r hr => ?_, List.Pairwise.cons (fun s hs => .inl rfl) h.apart⟩
  rcases List.mem_cons.1 hr with rfl | hr
  · exact World.ownsRow_nil _ _ _ _
  · exact h.rows r hr

/-- The struct PathVersionRequest in a block of its own, as a row. -/
def boxR (p : Nat) (s : ByteArray) (v : Int) : Rw := ⟨34, 2, .slice (some ⟨p, 0, none⟩) 1 1, 1, [.string s, .int .i32 v]⟩
theorem box_new {w0 w : World} {rs : List Rw} (s : ByteArray) (v : Int) (h : St w0 w rs) : St w0 (w.alloc (.cells #[.string s, .int .i32 v] 34)) (boxR w.heap.size s v :: rs) :=
  h.new (World.grownBy_alloc _ _ none) (World.ownsRow_lit w #[.string s, .int .i32 v] 1 (Nat.le_refl _) (by unfold maxLen; omega) rfl)
theorem box_cells {w : World} {B p : Nat} {s : ByteArray} {v : Int} (h : (boxR p s v).lies w B) : w.cell? ⟨p, 0, none⟩ = some (.string s) ∧ w.cell? ⟨p, 1, none⟩ = some (.int .i32 v) := by
  have h' : w.ownsRow B 34 2 (.slice (some ⟨p, 0, none⟩) 1 1) 1 [.string s, .int .i32 v] := h
  exact ⟨h'.cellAt 0 (by omega), h'.cellAt 1 (by omega)⟩
theorem box_apart {r : Rw} {p : Nat} (s : ByteArray) (v : Int) (h : Apart r (boxR p s v)) : some p ≠ r.v.ownBlock := by
  unfold Apart boxR Value.ownBlock at h
  intro e
  rcases h with h | h
  · have := e.trans h
    cases this
  · exact h e.symm
theorem St.far {w0 w : World} {rs : List Rw} {r s : Rw} (h : St w0 w (r :: rs)) (hs : s ∈ rs) : Apart r s := (List.pairwise_cons.1 h.apart).1 s hs

set_option maxHeartbeats 1000000 in
theorem bytes30 (s : ByteArray) (v : Int) (a0 : Option Addr) (n0 c0 : Nat) (x o : Int) (w : World) (h0 : n0 ≤ 9223372036854775807) (h1 : s.size ≤ 9223372036854775807) :
    Calls Try.prog 30 #[.string s, .int .i32 v, .slice a0 n0 c0, .int .i32 x, .int .i32 o] w fun e w' => e = .returned (.bool (decide (n0 + s.size ≤ 1048576))) ∧ w' = w := by
  by_cases q0 : (1048576 : Int) < (s.size : Int)
  · have : decide (n0 + s.size ≤ 1048576) = false := by simp; omega
    rw [this]
    go_enter Try.func30, Try.ntmps30
    go_wp2
    go_ret
    exact ⟨rfl, rfl⟩
  · by_cases q1 : (1048576 : Int) < (n0 : Int)
    · have : decide (n0 + s.size ≤ 1048576) = false := by simp; omega
      rw [this]
      go_enter Try.func30, Try.ntmps30
      go_wp2
      go_ret
      exact ⟨rfl, rfl⟩
    · by_cases q2 : (1048576 : Int) < (s.size : Int) + (n0 : Int)
      · have : decide (n0 + s.size ≤ 1048576) = false := by simp; omega
        rw [this]
        go_enter Try.func30, Try.ntmps30
        go_wp2
        go_ret
        exact ⟨rfl, rfl⟩
      · have : decide (n0 + s.size ≤ 1048576) = true := by simp; omega
        rw [this]
        go_enter Try.func30, Try.ntmps30
        go_wp2
        go_ret
        exact ⟨rfl, rfl⟩


set_option maxHeartbeats 2000000 in
theorem law9_big (s : ByteArray) (v : Int) (a0 : Option Addr) (n0 c0 : Nat) (x o : Int) (w : World) (m0 : n0 ≤ 9223372036854775807) (m1 : s.size ≤ 9223372036854775807) (hs : ¬ n0 + s.size ≤ 1048576) :
    Calls Try.prog 9 #[.string s, .int .i32 v, .slice a0 n0 c0, .int .i32 x, .int .i32 o] w fun e w' => e = .returned (.bool true) ∧ Below w.heap.size w w' := by
  have hb := bytes30 s v a0 n0 c0 x o w m0 m1
  rw [decide_eq_false hs] at hb
  go_enter Try.func9, Try.ntmps9
  go_wp2_with fail
  refine hb.mono ?_
  rintro e w' ⟨rfl, rfl⟩
  clear hb
  go_wp2
  go_ret
  exact ⟨rfl, Below.refl _ _⟩

set_option maxRecDepth 100000 in
set_option maxHeartbeats 4000000 in
theorem law9_small (s : ByteArray) (v : Int) (a0 : Option Addr) (n0 c0 : Nat) (P : List Int) (x o : Int) (w : World) (s0 : Sees w a0 n0 P) (m0 : n0 ≤ 9223372036854775807) (m1 : s.size ≤ 9223372036854775807) (hs : n0 + s.size ≤ 1048576)
    (rx : -2147483648 ≤ x ∧ x ≤ 2147483647) (ro : -2147483648 ≤ o ∧ o ≤ 2147483647) (rv : -2147483648 ≤ v ∧ v ≤ 2147483647) :
    Calls Try.prog 9 #[.string s, .int .i32 v, .slice a0 n0 c0, .int .i32 x, .int .i32 o] w fun e w' => e = .returned (.bool true) ∧ Below w.heap.size w w' := by
  have hb := bytes30 s v a0 n0 c0 x o w m0 m1
  rw [decide_eq_true hs] at hb
  have Wx := wrap_back x rx.1 rx.2
  have Wo := wrap_back o ro.1 ro.2
  have Wv := wrap_back v rv.1 rv.2
  clear rx ro rv
  have q0 : ¬ (1048576 : Int) < (n0 : Int) := by omega
  have q1 : ¬ (1048576 : Int) < (s.size : Int) := by omega
  have q2 : ¬ (1048576 : Int) < (s.size : Int) + (n0 : Int) := by omega
  go_enter Try.func9, Try.ntmps9
  go_wp2_with fail
  refine hb.mono ?_
  rintro e w' ⟨rfl, rfl⟩
  clear hb
  go_wp2_with fail
  refine (clone_sees a0 n0 c0 P _ s0 (by omega)).mono ?_
  rintro e w1 ⟨pa, pc, rfl, p1, g1⟩
  have st1 := (St.start w').new g1 p1
  go_wp2_with fail
  refine (clone_sees pa n0 pc P _ (sees_row st1.head) (by omega)).mono ?_
  rintro e w2 ⟨oa, oc, rfl, p2, g2⟩
  have st2 := (st1.new g2 p2).swap
  have HP : Hid (P.length = n0) := s0.1
  clear st1 g1 g2 p1 p2 s0
  have st3 := (box_new s v st2).nil
  clear st2
  obtain ⟨e0, e1⟩ := box_cells st3.second
  have hz : w2.heap.size < (w2.alloc (.cells #[.string s, .int .i32 v] 34)).heap.size := by simp
  go_wp2_with fail
  refine (pvr_any none 0 0 w'.heap.size w2.heap.size [] s v _ st3.head st3.size (by simp) (by omega) e0 e1 (box_apart s v (st3.far (by simp)))).mono ?_
  rintro e w3 ⟨ra, rm, rc, rfl, g3⟩
  have st4 := (st3.grew g3).rot3
  clear st3 g3 e0 e1 hz
  simp only [List.nil_append] at st4
  obtain ⟨R, hR⟩ : ∃ R, R = be4 s.size ++ (sby s ++ be4 (v % 4294967296)) := ⟨_, rfl⟩
  rw [← hR] at st4
  have hrl : R.length = 8 + s.size := by rw [hR]; simp [be4, sby_length]; omega
  obtain rfl : rm = 8 + s.size := by rw [(row_len st4.second).1, hrl]
  obtain ⟨e0, e1⟩ := box_cells st4.third
  have Hrl : Hid _ := hrl
  have HR : Hid _ := hR
  clear hrl hR
  go_wp2_with fail
  refine (req_body _ _ _ w'.heap.size w2.heap.size P x o v s _ st4.head st4.size (by rw [HP.out]; omega) (by omega) e0 e1 (box_apart s v (st4.far (by simp)))).mono ?_
  rintro e w4 ⟨ta, tm, tc, rfl, g4⟩
  have st5 := st4.grew g4
  rw [← HR.out] at st5
  have st6 : St w' w4 [bts (.slice ta tm tc) (P ++ (be4 (16 + s.size) ++ (be4 (x % 4294967296) ++ (be4 (o % 4294967296) ++ R)))), bts (.slice ra (8 + s.size) rc) R, bts (.slice oa n0 oc) P] :=
    (((st5.rot3).tail).perm (List.Perm.refl _))
  clear st4 g4 e0 e1 st5
  obtain ⟨M, hM⟩ : ∃ M, M = P ++ (be4 (16 + s.size) ++ (be4 (x % 4294967296) ++ (be4 (o % 4294967296) ++ R))) := ⟨_, rfl⟩
  rw [← hM] at st6
  have hml : M.length = n0 + 12 + (8 + s.size) := by rw [hM]; have := HP.out; have := Hrl.out; simp [be4]; omega
  have hMl : M.length ≤ 4000000000 := by omega
  obtain rfl : tm = n0 + 12 + (8 + s.size) := by rw [(row_len st6.head).1, hml]
  have HM : Hid _ := hM
  have Hml : Hid _ := hml
  clear hM hml
  go_wp2_with fail
  refine (rd32_be _ _ _ _ _ _ s.size _ st6.second (by rw [Hrl.out]; omega) [] _ HR.out (by simp) (by omega) (by omega)).mono ?_
  rintro e w5 ⟨rfl, g5⟩
  have st7 := st6.read g5
  clear st6 g5
  go_wp2_with fail
  refine (rd32_be _ _ _ _ _ _ (v % 4294967296) _ st7.second (by rw [Hrl.out]; omega) (be4 s.size ++ sby s) [] (by rw [HR.out]; simp only [List.append_assoc, List.append_nil]) (by simp [be4, sby_length]; omega) (by omega) (by omega)).mono ?_
  rintro e w6 ⟨rfl, g6⟩
  have st8 := st7.read g6
  clear st7 g6
  go_wp2_with fail
  refine (hasPre_any _ _ _ _ _ _ _ _ _ _ _ st8.head st8.third HM.out (by omega)).mono ?_
  rintro e w7 ⟨rfl, g7⟩
  have st9 := st8.read g7
  clear st8 g7
  go_wp2_with fail
  refine (rd32_be _ _ _ _ _ _ (16 + s.size) _ st9.head (by omega) P _ HM.out (by rw [HP.out]) (by omega) (by omega)).mono ?_
  rintro e w8 ⟨rfl, g8⟩
  have st10 := st9.read g8
  clear st9 g8
  go_wp2_with fail
  refine (rd32_be _ _ _ _ _ _ (x % 4294967296) _ st10.head (by omega) (P ++ be4 (16 + s.size)) _ (by rw [HM.out]; simp only [List.append_assoc]; rfl) (by have := HP.out; simp [be4]; omega) (by omega) (by omega)).mono ?_
  rintro e w9 ⟨rfl, g9⟩
  have st11 := st10.read g9
  clear st10 g9
  go_wp2_with fail
  refine (rd32_be _ _ _ _ _ _ (o % 4294967296) _ st11.head (by omega) (P ++ (be4 (16 + s.size) ++ be4 (x % 4294967296))) _ (by rw [HM.out]; simp only [List.append_assoc]; rfl) (by have := HP.out; simp [be4]; omega) (by omega) (by omega)).mono ?_
  rintro e w10 ⟨rfl, g10⟩
  have st12 := st11.read g10
  clear st11 g10
  have hcell : ∀ k, k < 8 + s.size → ∃ g g2 y, ta = some ⟨g, 0, none⟩ ∧ ra = some ⟨g2, 0, none⟩ ∧ w10.cell? ⟨g, n0 + 12 + k, none⟩ = some (.int .u8 y) ∧ w10.cell? ⟨g2, k, none⟩ = some (.int .u8 y) := by
    intro k hk
    obtain ⟨g, hg, _, _, hc, _⟩ := row_some st12.head (by rw [Hml.out]; omega)
    obtain ⟨g2, hg2, _, _, hc2, _⟩ := row_some st12.second (by rw [Hrl.out]; omega)
    refine ⟨g, g2, R.getD k 0, hg, hg2, ?_, hc2 k (by rw [Hrl.out]; exact hk)⟩
    have e : M = (P ++ (be4 (16 + s.size) ++ (be4 (x % 4294967296) ++ be4 (o % 4294967296)))) ++ R := by rw [HM.out]; simp only [List.append_assoc]
    rw [hc (n0 + 12 + k) (by rw [Hml.out]; omega), e]
    rw [getD_at _ R (R.getD k 0) k _ (by have := HP.out; simp [be4]; omega) (by have := Hrl.out; simp [List.getD, show k < R.length by omega])]
  have Hc : Hid _ := hcell
  clear hcell
  go_wp2_with fail
  go_loopw [16] (fun i wr => ∃ k : Nat, k ≤ 8 + s.size ∧ i = .int .i64 k ∧ ∃ q, wr = w10.drewN q) (fun i _ => 8 + s.size - (intOf i).toNat)
  case atStart => exact ⟨0, Nat.zero_le _, rfl, 0, rfl⟩
  case round =>
    obtain ⟨k, hk, rfl, q, rfl⟩ := hrel
    by_cases hlt : k < 8 + s.size
    · obtain ⟨g, g2, y, rfl, rfl, d1, d2⟩ := Hc.out k hlt
      have q1 : (n0 : Int) + 12 + (k : Int) < (n0 : Int) + 12 + (8 + (s.size : Int)) := by omega
      have q2 : (k : Int) < 8 + (s.size : Int) := by omega
      clear Hc st12
      go_wp2
      go_quiet (fail)
      go_wp2
      go_roundw
      case rel => exact ⟨k + 1, by omega, by go_num, _, rfl⟩
      case measure => simp [intOf]; omega
    · go_wp2
      go_ret
      exact ⟨rfl, (st12.read (grownBy_drewN _ _)).below⟩

end Go.Proofs.Qxb6605892a
