import Derived.Test.Qxb6605892aL4
namespace Go.Proofs.Qxb6605892a
open Go.RowKit
set_option linter.unusedVariables false

set_option maxHeartbeats 1000000 in
/-- zzReadStr where the string lies there. -/
theorem readStr_any (ao : Option Addr) (n cap B : Nat) (zs : List Int) (p : Nat) (s : ByteArray) (w : World) (h : (bts (.slice ao n cap) zs).lies w B) (hN : zs.length ≤ 4000000000) (hS : s.size ≤ 1048576)
    (l r : List Int) (hz : zs = l ++ (be4 s.size ++ (sby s ++ r))) (hp : p = l.length) :
    Calls Try.prog 21 #[.slice ao n cap, .int .i64 p, .string s] w fun e w' => e = .returned (.tuple #[.bool true, .int .i64 ((p : Int) + 4 + s.size)]) ∧ w.grownBy w' none := by
  have hn := (row_len h).1
  have hl : zs.length = l.length + (4 + (s.size + r.length)) := by rw [hz]; simp [be4_length, sby_length]
  obtain ⟨g, rfl, _, _, hc, _⟩ := row_some h (by omega)
  have hcell : ∀ k (hk : k < s.size), w.cell? ⟨g, p + 4 + k, none⟩ = some (.int .u8 s[k].toNat) := by
    intro k hk
    rw [hc (p + 4 + k) (by omega), hz, ← List.append_assoc, ← List.append_assoc]
    rw [List.append_assoc, getD_at (l ++ be4 s.size) (sby s ++ r) s[k].toNat k _ (by simp [be4_length]; omega) ?_]
    rw [List.getElem?_append_left (by rw [sby_length]; exact hk)]
    simp [sby, hk]
    rfl
  have q1 : (p : Int) + 4 + (s.size : Int) ≤ (n : Int) := by omega
  have hrd := rd32_be (some ⟨g, 0, none⟩) n cap B zs p s.size w h (by omega) l (sby s ++ r) hz (by omega) (by omega) (by omega)
  have q2 : n ≤ 4000000000 := by omega
  clear hc hn hl hz hp h hN
  have q3 : ¬ (n : Int) - (p : Int) < 4 := by omega
  go_enter Try.func21, Try.ntmps21
  go_wp2_with fail
  refine hrd.mono ?_
  rintro e w1 ⟨rfl, g1⟩
  have hcell1 : ∀ k (hk : k < s.size), w1.cell? ⟨g, p + 4 + k, none⟩ = some (.int .u8 s[k].toNat) := fun k hk => World.grownBy.cell g1 (hcell k hk) (by simp)
  have Hc : Hid _ := hcell1
  clear hrd hcell hcell1
  have q4 : ¬ (n : Int) - ((p : Int) + 4) < s.size := by omega
  go_wp2
  go_loopw [8] (fun i wr => ∃ k : Nat, k ≤ s.size ∧ i = .int .i64 k ∧ ∃ q, wr = w1.drewN q) (fun i _ => s.size - (intOf i).toNat)
  case atStart => exact ⟨0, Nat.zero_le _, rfl, 0, rfl⟩
  case round =>
    obtain ⟨k, hk, rfl, q, rfl⟩ := hrel
    by_cases hlt : k < s.size
    · have d1 := Hc.out k hlt
      have q5 : (p : Int) + 4 + (k : Int) < (n : Int) := by omega
      have q6 : (k : Int) < (s.size : Int) := by omega
      clear Hc
      go_wp2
      go_quiet (fail)
      go_wp2
      go_roundw
      case rel => exact ⟨k + 1, by omega, by go_num, _, rfl⟩
      case measure => simp [intOf]; omega
    · go_wp2
      go_ret2
      exact ⟨rfl, grownBy_trans_none g1 (grownBy_drewN _ _)⟩

theorem readStr_at (ao : Option Addr) (n cap B : Nat) (zs : List Int) (I : Int) (s : ByteArray) (w : World) (h : (bts (.slice ao n cap) zs).lies w B) (hN : zs.length ≤ 4000000000) (hS : s.size ≤ 1048576)
    (l r : List Int) (hz : zs = l ++ (be4 s.size ++ (sby s ++ r))) (hI : I = (l.length : Int)) :
    Calls Try.prog 21 #[.slice ao n cap, .int .i64 I, .string s] w fun e w' => e = .returned (.tuple #[.bool true, .int .i64 (I + 4 + s.size)]) ∧ w.grownBy w' none := by
  subst hI
  exact readStr_any ao n cap B zs l.length s w h hN hS l r hz rfl

set_option maxHeartbeats 1000000 in
theorem bytes20 (a0 : Option Addr) (n0 c0 : Nat) (x o : Int) (s : ByteArray) (v x2 o2 : Int) (w : World) (h0 : n0 ≤ 9223372036854775807) (h1 : s.size ≤ 9223372036854775807) :
    Calls Try.prog 20 #[.slice a0 n0 c0, .int .i32 x, .int .i32 o, .string s, .int .i32 v, .int .i32 x2, .int .i32 o2] w fun e w' => e = .returned (.bool (decide (n0 + s.size ≤ 1048576))) ∧ w' = w := by
  by_cases q0 : (1048576 : Int) < (n0 : Int)
  · have : decide (n0 + s.size ≤ 1048576) = false := by simp; omega
    rw [this]
    go_enter Try.func20, Try.ntmps20
    go_wp2
    go_ret
    exact ⟨rfl, rfl⟩
  · by_cases q1 : (1048576 : Int) < (s.size : Int)
    · have : decide (n0 + s.size ≤ 1048576) = false := by simp; omega
      rw [this]
      go_enter Try.func20, Try.ntmps20
      go_wp2
      go_ret
      exact ⟨rfl, rfl⟩
    · by_cases q2 : (1048576 : Int) < (n0 : Int) + (s.size : Int)
      · have : decide (n0 + s.size ≤ 1048576) = false := by simp; omega
        rw [this]
        go_enter Try.func20, Try.ntmps20
        go_wp2
        go_ret
        exact ⟨rfl, rfl⟩
      · have : decide (n0 + s.size ≤ 1048576) = true := by simp; omega
        rw [this]
        go_enter Try.func20, Try.ntmps20
        go_wp2
        go_ret
        exact ⟨rfl, rfl⟩


theorem wrap_back (x : Int) (h0 : -2147483648 ≤ x) (h1 : x ≤ 2147483647) : wrap32 (x % 4294967296) = x := by
  unfold wrap32
  omega

set_option maxHeartbeats 2000000 in
theorem law5_big (a0 : Option Addr) (n0 c0 : Nat) (x o v x2 o2 : Int) (s : ByteArray) (w : World) (m0 : n0 ≤ 9223372036854775807) (m1 : s.size ≤ 9223372036854775807) (hs : ¬ n0 + s.size ≤ 1048576) :
    Calls Try.prog 5 #[.slice a0 n0 c0, .int .i32 x, .int .i32 o, .string s, .int .i32 v, .int .i32 x2, .int .i32 o2] w fun e w' => e = .returned (.bool true) ∧ Below w.heap.size w w' := by
  have hb := bytes20 a0 n0 c0 x o s v x2 o2 w m0 m1
  rw [decide_eq_false hs] at hb
  go_enter Try.func5, Try.ntmps5
  go_wp2_with fail
  refine hb.mono ?_
  rintro e w' ⟨rfl, rfl⟩
  clear hb
  go_wp2
  go_ret
  exact ⟨rfl, Below.refl _ _⟩

set_option maxRecDepth 100000 in
set_option maxHeartbeats 4000000 in
theorem law5_small (a0 : Option Addr) (n0 c0 : Nat) (P : List Int) (x o v x2 o2 : Int) (s : ByteArray) (w : World) (s0 : Sees w a0 n0 P) (m0 : n0 ≤ 9223372036854775807) (m1 : s.size ≤ 9223372036854775807) (hs : n0 + s.size ≤ 1048576)
    (rx : -2147483648 ≤ x ∧ x ≤ 2147483647) (ro : -2147483648 ≤ o ∧ o ≤ 2147483647) (rv : -2147483648 ≤ v ∧ v ≤ 2147483647) (rx2 : -2147483648 ≤ x2 ∧ x2 ≤ 2147483647) (ro2 : -2147483648 ≤ o2 ∧ o2 ≤ 2147483647) :
    Calls Try.prog 5 #[.slice a0 n0 c0, .int .i32 x, .int .i32 o, .string s, .int .i32 v, .int .i32 x2, .int .i32 o2] w fun e w' => e = .returned (.bool true) ∧ Below w.heap.size w w' := by
  have hb := bytes20 a0 n0 c0 x o s v x2 o2 w m0 m1
  rw [decide_eq_true hs] at hb
  have Wx := wrap_back x rx.1 rx.2
  have Wo := wrap_back o ro.1 ro.2
  have Wv := wrap_back v rv.1 rv.2
  have Wx2 := wrap_back x2 rx2.1 rx2.2
  have Wo2 := wrap_back o2 ro2.1 ro2.2
  clear rx ro rv rx2 ro2
  have q0 : ¬ (1048576 : Int) < (n0 : Int) := by omega
  have q1 : ¬ (1048576 : Int) < (s.size : Int) := by omega
  have q2 : ¬ (1048576 : Int) < (n0 : Int) + (s.size : Int) := by omega
  go_enter Try.func5, Try.ntmps5
  go_wp2_with fail
  refine hb.mono ?_
  rintro e w' ⟨rfl, rfl⟩
  clear hb
  go_wp2_with fail
  refine (clone_sees a0 n0 c0 P _ s0 (by omega)).mono ?_
  rintro e w1 ⟨pa, pc, rfl, p1, g1⟩
  have st1 := (St.start w').new g1 p1
  go_wp2_with fail
  refine (clone_sees pa n0 pc P _ (sees_row st1.head) (by omega)).mono ?_
  rintro e w2 ⟨oa, oc, rfl, p2, g2⟩
  have st2 := (st1.new g2 p2).swap
  have HP : Hid (P.length = n0) := s0.1
  have Hne : Hid _ := box_ne st2
  have st2b := st2.read (World.grownBy_alloc w2 (.cells #[.string s, .int .i32 v] 34) none)
  clear st1 g1 g2 p1 p2 s0 st2
  go_wp2_with fail
  refine (req_body _ _ _ w'.heap.size w2.heap.size P x o v s _ st2b.head st2b.size (by rw [HP.out]; omega) (by omega) (by simp) (by simp) Hne.out).mono ?_
  rintro e w3 ⟨ra, rm, rc, rfl, g3⟩
  have st3 := st2b.grew g3
  clear st2b g3 Hne
  go_wp2_with fail
  refine (req_nil _ _ _ w'.heap.size _ x2 o2 _ st3.head st3.size (by have := HP.out; simp [be4, sby_length]; omega)).mono ?_
  rintro e w4 ⟨ta, tm, tc, rfl, g4⟩
  have st4 := st3.grew g4
  clear st3 g4
  simp only [List.append_assoc] at st4
  obtain ⟨M, hM⟩ : ∃ M, M = P ++ (be4 (16 + s.size) ++ (be4 (x % 4294967296) ++ (be4 (o % 4294967296) ++ (be4 s.size ++ (sby s ++ (be4 (v % 4294967296) ++ (be4 8 ++ (be4 (x2 % 4294967296) ++ be4 (o2 % 4294967296))))))))) := ⟨_, rfl⟩
  rw [← hM] at st4
  have hml : M.length = n0 + 32 + s.size := by rw [hM]; have := HP.out; simp [be4, sby_length]; omega
  have hMl : M.length ≤ 4000000000 := by omega
  obtain rfl : tm = n0 + 32 + s.size := by rw [(row_len st4.head).1, hml]
  have HM : Hid _ := hM
  clear hM hml
  go_wp2_with fail
  refine (hasPre_any _ _ _ _ _ _ _ _ _ _ _ st4.head st4.second HM.out (by omega)).mono ?_
  rintro e w5 ⟨rfl, g5⟩
  have st5 := st4.read g5
  clear st4 g5
  go_wp2_with fail
  refine (rd32_be _ _ _ _ _ _ (16 + s.size) _ st5.head (by omega) P _ HM.out (by rw [HP.out]) (by omega) (by omega)).mono ?_
  rintro e w6 ⟨rfl, g6⟩
  have st6 := st5.read g6
  clear st5 g6
  go_wp2_with fail
  refine (rd32_be _ _ _ _ _ _ (x % 4294967296) _ st6.head (by omega) (P ++ be4 (16 + s.size)) _ (by rw [HM.out]; simp only [List.append_assoc]; rfl) (by have := HP.out; simp [be4]; omega) (by omega) (by omega)).mono ?_
  rintro e w7 ⟨rfl, g7⟩
  have st7 := st6.read g7
  clear st6 g7
  go_wp2_with fail
  refine (rd32_be _ _ _ _ _ _ (o % 4294967296) _ st7.head (by omega) (P ++ (be4 (16 + s.size) ++ be4 (x % 4294967296))) _ (by rw [HM.out]; simp only [List.append_assoc]; rfl) (by have := HP.out; simp [be4]; omega) (by omega) (by omega)).mono ?_
  rintro e w8 ⟨rfl, g8⟩
  have st8 := st7.read g8
  clear st7 g8
  go_wp2_with fail
  refine (readStr_at _ _ _ _ _ _ s _ st8.head (by omega) (by omega) (P ++ (be4 (16 + s.size) ++ (be4 (x % 4294967296) ++ be4 (o % 4294967296)))) _ (by rw [HM.out]; simp only [List.append_assoc]; rfl) (by have := HP.out; simp [be4]; omega)).mono ?_
  rintro e w9 ⟨rfl, g9⟩
  have st9 := st8.read g9
  clear st8 g9
  go_wp2_with fail
  refine (rd32_be _ _ _ _ _ _ (v % 4294967296) _ st9.head (by omega) (P ++ (be4 (16 + s.size) ++ (be4 (x % 4294967296) ++ (be4 (o % 4294967296) ++ (be4 s.size ++ sby s))))) _ (by rw [HM.out]; simp only [List.append_assoc]; rfl) (by have := HP.out; simp [be4, sby_length]; omega) (by omega) (by omega)).mono ?_
  rintro e w10 ⟨rfl, g10⟩
  have st10 := st9.read g10
  clear st9 g10
  go_wp2_with fail
  refine (rd32_be _ _ _ _ _ _ 8 _ st10.head (by omega) (P ++ (be4 (16 + s.size) ++ (be4 (x % 4294967296) ++ (be4 (o % 4294967296) ++ (be4 s.size ++ (sby s ++ be4 (v % 4294967296))))))) _ (by rw [HM.out]; simp only [List.append_assoc]; rfl) (by have := HP.out; simp [be4, sby_length]; omega) (by omega) (by omega)).mono ?_
  rintro e w11 ⟨rfl, g11⟩
  have st11 := st10.read g11
  clear st10 g11
  go_wp2_with fail
  refine (rd32_be _ _ _ _ _ _ (x2 % 4294967296) _ st11.head (by omega) (P ++ (be4 (16 + s.size) ++ (be4 (x % 4294967296) ++ (be4 (o % 4294967296) ++ (be4 s.size ++ (sby s ++ (be4 (v % 4294967296) ++ be4 8))))))) _ (by rw [HM.out]; simp only [List.append_assoc]; rfl) (by have := HP.out; simp [be4, sby_length]; omega) (by omega) (by omega)).mono ?_
  rintro e w12 ⟨rfl, g12⟩
  have st12 := st11.read g12
  clear st11 g12
  go_wp2_with fail
  refine (rd32_be _ _ _ _ _ _ (o2 % 4294967296) _ st12.head (by omega) (P ++ (be4 (16 + s.size) ++ (be4 (x % 4294967296) ++ (be4 (o % 4294967296) ++ (be4 s.size ++ (sby s ++ (be4 (v % 4294967296) ++ (be4 8 ++ be4 (x2 % 4294967296))))))))) [] (by rw [HM.out]; simp only [List.append_assoc, List.append_nil]) (by have := HP.out; simp [be4, sby_length]; omega) (by omega) (by omega)).mono ?_
  rintro e w13 ⟨rfl, g13⟩
  have st13 := st12.read g13
  clear st12 g13
  go_wp2
  go_ret
  exact ⟨rfl, st13.below⟩

end Go.Proofs.Qxb6605892a
