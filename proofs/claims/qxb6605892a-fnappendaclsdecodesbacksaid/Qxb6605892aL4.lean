import Derived.Test.Qxb6605892aRq
namespace Go.Proofs.Qxb6605892a
open Go.RowKit
set_option linter.unusedVariables false

set_option maxHeartbeats 1000000 in
theorem bytes16 (a0 : Option Addr) (n0 c0 : Nat) (x o v : Int) (b : Bool) (s : ByteArray) (w : World) (h0 : n0 ≤ 9223372036854775807) (h1 : s.size ≤ 9223372036854775807) :
    Calls Try.prog 16 #[.slice a0 n0 c0, .int .i32 x, .int .i32 o, .bool b, .string s, .int .i32 v] w fun e w' => e = .returned (.bool (decide (n0 + s.size ≤ 1048576))) ∧ w' = w := by
  by_cases q0 : (1048576 : Int) < (n0 : Int)
  · have : decide (n0 + s.size ≤ 1048576) = false := by simp; omega
    rw [this]
    go_enter Try.func16, Try.ntmps16
    go_wp2
    go_ret
    exact ⟨rfl, rfl⟩
  · by_cases q1 : (1048576 : Int) < (s.size : Int)
    · have : decide (n0 + s.size ≤ 1048576) = false := by simp; omega
      rw [this]
      go_enter Try.func16, Try.ntmps16
      go_wp2
      go_ret
      exact ⟨rfl, rfl⟩
    · by_cases q2 : (1048576 : Int) < (n0 : Int) + (s.size : Int)
      · have : decide (n0 + s.size ≤ 1048576) = false := by simp; omega
        rw [this]
        go_enter Try.func16, Try.ntmps16
        go_wp2
        go_ret
        exact ⟨rfl, rfl⟩
      · have : decide (n0 + s.size ≤ 1048576) = true := by simp; omega
        rw [this]
        go_enter Try.func16, Try.ntmps16
        go_wp2
        go_ret
        exact ⟨rfl, rfl⟩

set_option maxHeartbeats 2000000 in
theorem law4_big (a0 : Option Addr) (n0 c0 : Nat) (x o v : Int) (b : Bool) (s : ByteArray) (w : World) (m0 : n0 ≤ 9223372036854775807) (m1 : s.size ≤ 9223372036854775807) (hs : ¬ n0 + s.size ≤ 1048576) :
    Calls Try.prog 4 #[.slice a0 n0 c0, .int .i32 x, .int .i32 o, .bool b, .string s, .int .i32 v] w fun e w' => e = .returned (.bool true) ∧ Below w.heap.size w w' := by
  have hb := bytes16 a0 n0 c0 x o v b s w m0 m1
  rw [decide_eq_false hs] at hb
  go_enter Try.func4, Try.ntmps4
  go_wp2_with fail
  refine hb.mono ?_
  rintro e w' ⟨rfl, rfl⟩
  clear hb
  go_wp2
  go_ret
  exact ⟨rfl, Below.refl _ _⟩

set_option maxHeartbeats 2000000 in
theorem law4_nil (a0 : Option Addr) (n0 c0 : Nat) (P : List Int) (x o v : Int) (s : ByteArray) (w : World) (s0 : Sees w a0 n0 P) (m0 : n0 ≤ 9223372036854775807) (m1 : s.size ≤ 9223372036854775807) (hs : n0 + s.size ≤ 1048576) :
    Calls Try.prog 4 #[.slice a0 n0 c0, .int .i32 x, .int .i32 o, .bool false, .string s, .int .i32 v] w fun e w' => e = .returned (.bool true) ∧ Below w.heap.size w w' := by
  have hb := bytes16 a0 n0 c0 x o v false s w m0 m1
  rw [decide_eq_true hs] at hb
  have q0 : ¬ (1048576 : Int) < (n0 : Int) := by omega
  have q1 : ¬ (1048576 : Int) < (s.size : Int) := by omega
  have q2 : ¬ (1048576 : Int) < (n0 : Int) + (s.size : Int) := by omega
  go_enter Try.func4, Try.ntmps4
  go_wp2_with fail
  refine hb.mono ?_
  rintro e w' ⟨rfl, rfl⟩
  clear hb
  go_wp2_with fail
  refine (clone_sees a0 n0 c0 P _ s0 (by omega)).mono ?_
  rintro e w1 ⟨pa, pc, rfl, p1, g1⟩
  have st1 := (St.start w').new g1 p1
  go_wp2_with fail
  refine (clone_sees pa n0 pc P _ (sees_row st1.head) (by omega)).mono ?_
  rintro e w2 ⟨oa, oc, rfl, p2, g2⟩
  have st2 := (st1.new g2 p2).swap
  have HP : Hid (P.length = n0) := s0.1
  clear st1 g1 g2 p1 p2 s0
  go_wp2_with fail
  refine (req_nil _ _ _ w'.heap.size P x o _ st2.head st2.size (by rw [HP.out]; omega)).mono ?_
  rintro e w3 ⟨ra, rm, rc, rfl, g3⟩
  have st3 := st2.grew g3
  clear st2 g3
  go_wp2_with fail
  refine (clone_sees oa n0 oc P _ (sees_row st3.second) (by omega)).mono ?_
  rintro e w4 ⟨va, vc, rfl, p4, g4⟩
  have st4 := st3.new g4 p4
  clear st3 g4 p4
  go_wp2_with fail
  refine (put32_any _ _ _ w'.heap.size _ _ _ st4.head st4.size (by rw [HP.out]; omega) (by omega) (by omega)).mono ?_
  rintro e w5 ⟨ba, bc, rfl, g5⟩
  have st5 := st4.grew g5
  clear st4 g5
  go_wp2_with fail
  refine (put32_any _ _ _ w'.heap.size _ _ _ st5.head st5.size (by have := HP.out; simp [be4]; omega) (by omega) (by omega)).mono ?_
  rintro e w6 ⟨da, dc, rfl, g6⟩
  have st6 := st5.grew g6
  clear st5 g6
  go_wp2_with fail
  refine (put32_any _ _ _ w'.heap.size _ _ _ st6.head st6.size (by have := HP.out; simp [be4]; omega) (by omega) (by omega)).mono ?_
  rintro e w7 ⟨ea, ec, rfl, g7⟩
  have st7 := st6.grew g7
  clear st6 g7
  go_wp2_with fail
  refine (eq_any _ _ _ _ _ _ _ _ _ _ st7.second st7.head (by simp only [List.append_assoc]) (by have := HP.out; simp [be4]; omega)).mono ?_
  rintro e w8 ⟨rfl, g8⟩
  have st8 := st7.read g8
  clear st7 g8
  go_wp2
  go_ret
  exact ⟨rfl, st8.below⟩

theorem take_sby (s : ByteArray) (k : Nat) (h : k < s.size) : (sby s).take (k + 1) = (sby s).take k ++ [(s[k].toNat : Int)] := by
  rw [List.take_succ_eq_append_getElem (by rw [sby_length]; exact h)]
  congr 1
  simp [sby]
  rfl

theorem src_one (w : World) (a : Int) : Src Try.prog 1 22 (.slice (some ⟨w.heap.size, 0, none⟩) 1 1) 1 ([a].map (Value.int .u8)) (w.alloc (.cells #[.int .u8 a] 5)) := by
  refine Src.ofSlice _ Try.underlying22 _ 1 1 _ rfl ?_ (ints_oneCell .u8 _)
  intro j u hj
  match j, hj with
  | 0, hj => simp at hj; subst hj; simp [Addr.add]

/-- A box that has just been laid lies in no row. -/
theorem box_ne {w0 w : World} {rs : List Rw} {r : Rw} (st : St w0 w (r :: rs)) : some w.heap.size ≠ r.v.ownBlock := by
  intro e
  have := (World.ownsRow.lt st.head w.heap.size e.symm).2
  omega

set_option maxHeartbeats 2000000 in
theorem law4_body (a0 : Option Addr) (n0 c0 : Nat) (P : List Int) (x o v : Int) (s : ByteArray) (w : World) (s0 : Sees w a0 n0 P) (m0 : n0 ≤ 9223372036854775807) (m1 : s.size ≤ 9223372036854775807) (hs : n0 + s.size ≤ 1048576) :
    Calls Try.prog 4 #[.slice a0 n0 c0, .int .i32 x, .int .i32 o, .bool true, .string s, .int .i32 v] w fun e w' => e = .returned (.bool true) ∧ Below w.heap.size w w' := by
  obtain ⟨i0, hi, hz0, hz1, hz2⟩ := info_parts info5
  have hb := bytes16 a0 n0 c0 x o v true s w m0 m1
  rw [decide_eq_true hs] at hb
  have q0 : ¬ (1048576 : Int) < (n0 : Int) := by omega
  have q1 : ¬ (1048576 : Int) < (s.size : Int) := by omega
  have q2 : ¬ (1048576 : Int) < (n0 : Int) + (s.size : Int) := by omega
  go_enter Try.func4, Try.ntmps4
  go_wp2_with fail
  refine hb.mono ?_
  rintro e w' ⟨rfl, rfl⟩
  clear hb
  go_wp2_with fail
  refine (clone_sees a0 n0 c0 P _ s0 (by omega)).mono ?_
  rintro e w1 ⟨pa, pc, rfl, p1, g1⟩
  have st1 := (St.start w').new g1 p1
  go_wp2_with fail
  refine (clone_sees pa n0 pc P _ (sees_row st1.head) (by omega)).mono ?_
  rintro e w2 ⟨oa, oc, rfl, p2, g2⟩
  have st2 := (st1.new g2 p2).swap
  have HP : Hid (P.length = n0) := s0.1
  have Hne : Hid _ := box_ne st2
  have st2b := st2.read (World.grownBy_alloc w2 (.cells #[.string s, .int .i32 v] 34) none)
  clear st1 g1 g2 p1 p2 s0 st2
  go_wp2_with fail
  refine (req_body _ _ _ w'.heap.size w2.heap.size P x o v s _ st2b.head st2b.size (by rw [HP.out]; omega) (by omega) (by simp) (by simp) Hne.out).mono ?_
  rintro e w3 ⟨ra, rm, rc, rfl, g3⟩
  have st3 := st2b.grew g3
  clear st2b g3 Hne
  go_wp2_with fail
  refine (clone_sees oa n0 oc P _ (sees_row st3.second) (by omega)).mono ?_
  rintro e w4 ⟨va, vc, rfl, p4, g4⟩
  have st4 := st3.new g4 p4
  clear st3 g4 p4
  go_wp2_with fail
  refine (put32_any _ _ _ w'.heap.size _ _ _ st4.head st4.size (by rw [HP.out]; omega) (by omega) (by omega)).mono ?_
  rintro e w5 ⟨ba, bc, rfl, g5⟩
  have st5 := st4.grew g5
  clear st4 g5
  go_wp2_with fail
  refine (put32_any _ _ _ w'.heap.size _ _ _ st5.head st5.size (by have := HP.out; simp [be4]; omega) (by omega) (by omega)).mono ?_
  rintro e w6 ⟨da, dc, rfl, g6⟩
  have st6 := st5.grew g6
  clear st5 g6
  go_wp2_with fail
  refine (put32_any _ _ _ w'.heap.size _ _ _ st6.head st6.size (by have := HP.out; simp [be4]; omega) (by omega) (by omega)).mono ?_
  rintro e w7 ⟨ea, ec, rfl, g7⟩
  have st7 := st6.grew g7
  clear st6 g7
  go_wp2_with fail
  refine (put32_any _ _ _ w'.heap.size _ _ _ st7.head st7.size (by have := HP.out; simp [be4]; omega) (by omega) (by omega)).mono ?_
  rintro e w8 ⟨fa, fc, rfl, g8⟩
  have st8 := st7.grew g8
  clear st7 g8
  have hRL : P ++ (be4 (16 + ↑s.size) ++ (be4 (x % 4294967296) ++ (be4 (o % 4294967296) ++ (be4 ↑s.size ++ (sby s ++ be4 (v % 4294967296)))))) =
      (P ++ be4 (16 + ↑s.size) ++ be4 (x % 4294967296) ++ be4 (o % 4294967296) ++ be4 ↑s.size) ++ (sby s ++ be4 (v % 4294967296)) := by simp only [List.append_assoc]
  rw [hRL] at st8
  clear hRL
  have hLl : (P ++ be4 (16 + ↑s.size) ++ be4 (x % 4294967296) ++ be4 (o % 4294967296) ++ be4 ↑s.size).length ≤ 1048600 := by have := HP.out; simp [be4]; omega
  generalize P ++ be4 (16 + ↑s.size) ++ be4 (x % 4294967296) ++ be4 (o % 4294967296) ++ be4 ↑s.size = L at st8 hLl
  go_wp2_with fail
  go_loopw [16, 17] (fun u i wr => ∃ k : Nat, k ≤ s.size ∧ i = .int .i64 k ∧ ∃ ao m cap, u = .slice ao m cap ∧ St w' wr [bts (.slice ao m cap) (L ++ (sby s).take k), bts (.slice ra rm rc) (L ++ (sby s ++ be4 (v % 4294967296))), bts (.slice oa n0 oc) P]) (fun _ i _ => s.size - (intOf i).toNat)
  case atStart => exact ⟨0, Nat.zero_le _, rfl, fa, _, fc, rfl, by simpa using st8⟩
  case round =>
    clear st8
    obtain ⟨k, hk, rfl, ao, m, cap, rfl, st⟩ := hrel
    by_cases hlt : k < s.size
    · have hT := take_sby s k hlt
      have HT : Hid _ := hT
      clear hT
      have q3 : (k : Int) < (s.size : Int) := by omega
      have hm := (row_len st.head).1
      have hm2 : m ≤ 4000000 := by rw [hm]; simp [sby_length]; omega
      have Hm : Hid _ := hm
      clear hm
      have hsz := st.size
      have hown := (row_owns st.head).alloc (.cells #[.int .u8 s[k].toNat] 5)
      have hsrc := src_one wr s[k].toNat
      go_wp2_with (at_builtin; refine wpList_append_grew _ rfl _ _ 22 22 rfl w'.heap.size 5 i0 (.int .u8 0) Try.underlying22 hi hz0 hz1 hz2 rfl ao _ cap _ rfl hown _ rfl 1 _ hsrc ?c1 ?c2 ?_)
      case c1 => omega
      case c2 => simp; omega
      intro da2 dc2 w9 g9
      have g10 := Grew.before (World.grownBy_alloc wr _ none) (grew_to (L ++ (sby s).take (k + 1)) (by rw [HT.out, Hm.out]; simp [Nat.add_assoc]) (by rw [HT.out]; simp) g9)
      have st10 := st.grew g10
      clear st g9 g10 hown hsrc
      go_wp2
      go_roundw
      case rel => exact ⟨k + 1, by omega, by go_num, da2, _, dc2, rfl, st10⟩
      case measure => simp [intOf]; omega
    · obtain rfl : k = s.size := by omega
      have hT : (sby s).take s.size = sby s := List.take_of_length_le (by rw [sby_length]; omega)
      rw [hT] at st
      clear hT
      go_wp2_with fail
      refine (put32_any _ _ _ w'.heap.size _ _ _ st.head st.size (by simp [sby_length]; omega) (by omega) (by omega)).mono ?_
      rintro e w9 ⟨ha, hc, rfl, g9⟩
      have st9 := st.grew g9
      clear st g9
      go_wp2_with fail
      refine (eq_any _ _ _ _ _ _ _ _ _ _ st9.second st9.head (by simp only [List.append_assoc]) (by simp [be4, sby_length]; omega)).mono ?_
      rintro e w10 ⟨rfl, g10⟩
      have st10 := st9.read g10
      clear st9 g10
      go_wp2
      go_ret
      exact ⟨rfl, st10.below⟩

theorem law4 (a0 : Option Addr) (n0 c0 : Nat) (P : List Int) (x o v : Int) (b : Bool) (s : ByteArray) (w : World) (s0 : Sees w a0 n0 P) (m0 : n0 ≤ 9223372036854775807) (m1 : s.size ≤ 9223372036854775807) :
    Calls Try.prog 4 #[.slice a0 n0 c0, .int .i32 x, .int .i32 o, .bool b, .string s, .int .i32 v] w fun e w' => e = .returned (.bool true) ∧ Below w.heap.size w w' := by
  by_cases hs : n0 + s.size ≤ 1048576
  · cases b
    · exact law4_nil a0 n0 c0 P x o v s w s0 m0 m1 hs
    · exact law4_body a0 n0 c0 P x o v s w s0 m0 m1 hs
  · exact law4_big a0 n0 c0 x o v b s w m0 m1 hs

end Go.Proofs.Qxb6605892a
