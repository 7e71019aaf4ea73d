import Derived.Test.Qxb6605892aAp
import Derived.Deep.RegionWith
import Derived.Deep.DrawnRows
namespace Go.Proofs.Qxb6605892a
open Go.RowKit
set_option linter.unusedVariables false

set_option maxHeartbeats 1000000 in
/-- binary.BigEndian.PutUint32. -/
theorem put_cells (g o n c : Nat) (v : Int) (x0 x1 x2 x3 : Value) (w : World) (hn : 4 ≤ n) (h0 : 0 ≤ v) (h1 : v < 4294967296) (hg : g < w.heap.size)
    (c0 : w.cell? ⟨g, o, none⟩ = some x0) (c1 : w.cell? ⟨g, o + 1, none⟩ = some x1) (c2 : w.cell? ⟨g, o + 2, none⟩ = some x2) (c3 : w.cell? ⟨g, o + 3, none⟩ = some x3)
    (f0 : ∀ i, w.frozen? ⟨g, i, none⟩ = false) :
    Calls Try.prog 36 #[.agg #[], .slice (some ⟨g, o, none⟩) n c, .int .u32 v] w fun e w' => e = .returned (.tuple #[]) ∧ w' = (w.setCells g o ((be4 v).map (Value.int .u8))).alloc (.cells #[] 56) := by
  have q0 : (0 : Int) < (n : Int) := by omega
  have q1 : (1 : Int) < (n : Int) := by omega
  have q2 : (2 : Int) < (n : Int) := by omega
  have q3 : (3 : Int) < (n : Int) := by omega
  have fa0 := f0 o
  have fa1 := f0 (o + 1)
  have fa2 := f0 (o + 2)
  have fa3 := f0 (o + 3)
  clear f0
  go_enter Try.func36, Try.ntmps36
  go_wp2
  go_end0
  exact ⟨rfl, rfl⟩

theorem wrap_i64_in (x : Int) (h0 : -9223372036854775808 ≤ x) (h1 : x ≤ 9223372036854775807) : IntKind.i64.wrap x = x := by rw [IntKind.wrap_i64]; omega
theorem wrap_frame (n l r : Nat) (h : l + r + 4 = n) (hN : n ≤ 4294967295) : IntKind.u32.wrap (IntKind.i64.wrap (IntKind.i64.wrap ((n : Int) - (l : Int)) - 4)) = (r : Int) := by
  rw [wrap_i64_in ((n : Int) - l) (by omega) (by omega), wrap_i64_in _ (by omega) (by omega), IntKind.wrap_u32]
  omega

theorem set4 (x0 x1 x2 x3 a b c d : Value) (R : List Value) : ∀ L : List Value,
    ((((L ++ (a :: b :: c :: d :: R)).set L.length x0).set (L.length + 1) x1).set (L.length + 2) x2).set (L.length + 3) x3 = L ++ (x0 :: x1 :: x2 :: x3 :: R)
  | [] => rfl
  | y :: L => by
    have := set4 x0 x1 x2 x3 a b c d R L
    simp only [List.cons_append, List.length_cons, List.set_cons_succ, Nat.add_right_comm L.length 1]
    rw [this]

theorem grownBy_drop {w w1 w2 : World} {row : Option Nat} (h : w.grownBy w1 row) (k : w1.grownBy w2 row) : w.grownBy w2 row := h.trans k

/-- The four bytes behind l are laid anew. -/
theorem put_stored (g n cap B : Nat) (l r : List Int) (a b c d v : Int) (w : World) (h : (bts (.slice (some ⟨g, 0, none⟩) n cap) (l ++ (a :: b :: c :: d :: r))).lies w B) :
    (bts (.slice (some ⟨g, 0, none⟩) n cap) (l ++ (be4 v ++ r))).lies (w.setCells g l.length ((be4 v).map (Value.int .u8))) B ∧ w.grownBy (w.setCells g l.length ((be4 v).map (Value.int .u8))) (some g) := by
  obtain ⟨rfl, _, _⟩ := row_len h
  have h0 : w.ownsRow B 5 1 (.slice (some ⟨g, 0, none⟩) (l ++ (a :: b :: c :: d :: r)).length cap) (l ++ (a :: b :: c :: d :: r)).length ((l ++ (a :: b :: c :: d :: r)).map (Value.int .u8)) := h
  have s1 := h0.stored l.length (.int .u8 (v / 16777216))
  have s2 := s1.1.stored (l.length + 1) (.int .u8 (v / 65536 % 256))
  have s3 := s2.1.stored (l.length + 2) (.int .u8 (v / 256 % 256))
  have s4 := s3.1.stored (l.length + 3) (.int .u8 (v % 256))
  refine ⟨?_, (s1.2.trans s2.2).trans (s3.2.trans s4.2)⟩
  have e := set4 (.int .u8 (v / 16777216)) (.int .u8 (v / 65536 % 256)) (.int .u8 (v / 256 % 256)) (.int .u8 (v % 256)) (.int .u8 a) (.int .u8 b) (.int .u8 c) (.int .u8 d) (r.map (Value.int .u8)) (l.map (Value.int .u8))
  simp only [List.length_map] at e
  have s5 := s4.1
  simp only [List.map_append, List.map_cons] at s5
  rw [e] at s5
  have e2 : (l ++ (be4 v ++ r)).length = (l ++ (a :: b :: c :: d :: r)).length := by simp [be4]
  unfold Rw.lies bts
  rw [e2]
  simp only [be4, List.map_append, List.map_cons, List.map_nil, List.cons_append, List.nil_append]
  exact s5

/-- PutUint32 into a row of the call's own. -/
theorem put_row (g n cap B m c : Nat) (l r : List Int) (x0 x1 x2 x3 v : Int) (o : Nat) (w : World) (h : (bts (.slice (some ⟨g, 0, none⟩) n cap) (l ++ (x0 :: x1 :: x2 :: x3 :: r))).lies w B) (ho : o = l.length) (hm : 4 ≤ m) (h0 : 0 ≤ v) (h1 : v < 4294967296) :
    Calls Try.prog 36 #[.agg #[], .slice (some ⟨g, o, none⟩) m c, .int .u32 v] w fun e w' => e = .returned (.tuple #[]) ∧
      (bts (.slice (some ⟨g, 0, none⟩) n cap) (l ++ (be4 v ++ r))).lies w' B ∧ w.grownBy w' (some g) := by
  subst ho
  obtain ⟨g', hg', _, hlt, hc, hf⟩ := row_some h (by simp; omega)
  simp only [Option.some.injEq, Addr.mk.injEq, and_true] at hg'
  subst hg'
  obtain ⟨p1, p2⟩ := put_stored g n cap B l r x0 x1 x2 x3 v w h
  refine (put_cells g l.length m c v _ _ _ _ w hm h0 h1 hlt (hc _ (by simp)) (hc _ (by simp)) (hc _ (by simp)) (hc _ (by simp)) hf).mono fun e w' he => ?_
  obtain ⟨rfl, rfl⟩ := he
  exact ⟨rfl, p1.read (World.grownBy_alloc _ _ none), p2.trans (World.grownBy_alloc _ _ _)⟩

set_option maxHeartbeats 1000000 in
/-- endFrame. -/
theorem end_any (ao : Option Addr) (n cap B : Nat) (l r : List Int) (x0 x1 x2 x3 : Int) (S : Int) (w : World) (h : (bts (.slice ao n cap) (l ++ (x0 :: x1 :: x2 :: x3 :: r))).lies w B) (hS : S = (l.length : Int))
    (hN : (l ++ (x0 :: x1 :: x2 :: x3 :: r)).length ≤ 4294967295) :
    Calls Try.prog 32 #[.slice ao n cap, .int .i64 S] w fun e w' => e = .returned (.slice ao n cap) ∧ (bts (.slice ao n cap) (l ++ (be4 r.length ++ r))).lies w' B ∧ w.grownBy w' (Value.slice ao n cap).ownBlock := by
  subst hS
  obtain ⟨hn, hnc, hcm⟩ := row_len h
  simp only [List.length_append, List.length_cons] at hn hN
  obtain ⟨g, rfl, _, hlt, _, _⟩ := row_some h (by simp; omega)
  have hn' : l.length + r.length + 4 = n := by omega
  have hd : (bts (.slice (some ⟨g, 0, none⟩) n cap) (l ++ (x0 :: x1 :: x2 :: x3 :: r))).lies w.drew B := h.read (grownBy_drew w)
  have q1 : ((l.length : Nat) : Int) ≤ (n : Int) := by omega
  have q2 : (n : Int) ≤ (cap : Int) := by omega
  have q3 : ¬ cap = l.length := by omega
  have Hw : Hid _ := wrap_frame n l.length r.length hn' (by omega)
  clear hn h
  go_enter Try.func32, Try.ntmps32
  go_wp2
  go_region_with (go_at_call 36; rw [Hw.out]; refine (put_row g n cap B _ _ l r x0 x1 x2 x3 _ _ _ hd rfl (by omega) (by omega) (by omega)).mono ?_; rintro e w1 ⟨rfl, p1, p2⟩)
  all_goals
    go_wp2
    go_ret
    exact ⟨rfl, p1, grownBy_trans_none (grownBy_drew w) p2⟩

set_option maxHeartbeats 1000000 in
theorem zzend_any (ao : Option Addr) (n cap B : Nat) (l r : List Int) (x0 x1 x2 x3 : Int) (S : Int) (w : World) (h : (bts (.slice ao n cap) (l ++ (x0 :: x1 :: x2 :: x3 :: r))).lies w B) (hS : S = (l.length : Int))
    (hN : (l ++ (x0 :: x1 :: x2 :: x3 :: r)).length ≤ 4294967295) :
    Calls Try.prog 13 #[.slice ao n cap, .int .i64 S] w fun e w' => e = .returned (.slice ao n cap) ∧ (bts (.slice ao n cap) (l ++ (be4 r.length ++ r))).lies w' B ∧ w.grownBy w' (Value.slice ao n cap).ownBlock := by
  have hc := end_any ao n cap B l r x0 x1 x2 x3 S w h hS hN
  clear hS
  go_enter Try.func13, Try.ntmps13
  go_wp2_with fail
  refine hc.mono ?_
  rintro e w1 ⟨rfl, p1, p2⟩
  clear hc
  go_wp2
  go_ret
  exact ⟨rfl, p1, p2⟩

end Go.Proofs.Qxb6605892a
