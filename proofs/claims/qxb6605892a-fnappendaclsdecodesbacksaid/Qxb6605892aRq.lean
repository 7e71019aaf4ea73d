import Derived.Test.Qxb6605892aL3
namespace Go.Proofs.Qxb6605892a
open Go.RowKit
set_option linter.unusedVariables false

set_option maxHeartbeats 1000000 in
/-- (*PathVersionRequest).Append. -/
theorem pvr_any (ao : Option Addr) (n cap B p : Nat) (zs : List Int) (s : ByteArray) (x : Int) (w : World) (h : (bts (.slice ao n cap) zs).lies w B) (hB : B ≤ w.heap.size) (hN : zs.length ≤ 137438953472) (hS : s.size ≤ 1048576)
    (c0 : w.cell? ⟨p, 0, none⟩ = some (.string s)) (c1 : w.cell? ⟨p, 1, none⟩ = some (.int .i32 x)) (hne : some p ≠ (Value.slice ao n cap).ownBlock) :
    Calls Try.prog 29 #[.pointer (some ⟨p, 0, none⟩), .slice ao n cap] w fun e w' => ∃ ao' m cap', e = .returned (.slice ao' m cap') ∧
      Grew B w (.slice ao n cap) w' (bts (.slice ao' m cap') (zs ++ (be4 s.size ++ (sby s ++ be4 (x % 4294967296))))) := by
  have hn := (row_len h).1
  have Hn : Hid _ := hn
  have Hne : Hid _ := hne
  clear hn hne
  have hc := appStr_any ao n cap B zs s w h hB (by omega) hS
  go_enter Try.func29, Try.ntmps29
  go_wp2_with fail
  refine hc.mono ?_
  rintro e w1 ⟨a1, k1, rfl, g1⟩
  clear hc
  have d1 := g1.grown.cell c1 Hne.out
  have hz := g1.grown.size
  go_wp2_with fail
  refine (appInt32_any _ _ _ B _ x _ g1.row (by omega) (by simp [be4, sby_length]; omega)).mono ?_
  rintro e w2 ⟨a2, k2, rfl, g2⟩
  have g3 := Grew.trans g1 g2
  clear g1 g2
  go_wp2
  go_ret
  refine ⟨a2, _, k2, rfl, ?_⟩
  simp only [List.append_assoc] at g3
  exact g3

set_option maxHeartbeats 1000000 in
/-- AppendRequest without a body. -/
theorem req_nil (ao : Option Addr) (n cap B : Nat) (zs : List Int) (x o : Int) (w : World) (h : (bts (.slice ao n cap) zs).lies w B) (hB : B ≤ w.heap.size) (hN : zs.length ≤ 4000000000) :
    Calls Try.prog 17 #[.slice ao n cap, .int .i32 x, .int .i32 o, .nilIface] w fun e w' => ∃ ao' m cap', e = .returned (.slice ao' m cap') ∧
      Grew B w (.slice ao n cap) w' (bts (.slice ao' m cap') (zs ++ (be4 8 ++ (be4 (x % 4294967296) ++ be4 (o % 4294967296))))) := by
  have Hn : Hid (n = zs.length) := (row_len h).1
  go_enter Try.func17, Try.ntmps17
  go_wp2_with fail
  refine (begin_any ao n cap B zs w h hB (by omega)).mono ?_
  rintro e w1 ⟨a1, k1, rfl, g1⟩
  have z1 := g1.grown.size
  go_wp2_with fail
  refine (appInt32_any _ _ _ B _ x _ g1.row (by omega) (by simp; omega)).mono ?_
  rintro e w2 ⟨a2, k2, rfl, g2⟩
  have z2 := g2.grown.size
  have g3 := Grew.trans g1 g2
  clear g1 g2
  go_wp2_with fail
  refine (appInt32_any _ _ _ B _ o _ g3.row (by omega) (by simp [be4]; omega)).mono ?_
  rintro e w3 ⟨a3, k3, rfl, g4⟩
  have g5 := Grew.trans g3 g4
  clear g3 g4
  simp only [List.append_assoc, List.cons_append, List.nil_append] at g5
  go_wp2_with fail
  refine (end_any _ _ _ B zs (be4 (x % 4294967296) ++ be4 (o % 4294967296)) 0 0 0 0 _ _ g5.row (by rw [Hn.out]) (by simp [be4]; omega)).mono ?_
  rintro e w4 ⟨rfl, p6, g6⟩
  have g7 := Grew.trans g5 ⟨p6, g6, .inl rfl⟩
  clear g5 p6 g6
  go_wp2
  go_ret
  exact ⟨a3, _, k3, rfl, g7⟩

theorem method_append (a : Addr) (w : World) : (method 174 32 (.pointer (some a)) "Append").run Try.prog w = .ok (29, .pointer (some a)) w := by kernel_rfl

set_option maxHeartbeats 1000000 in
/-- AppendRequest with a PathVersionRequest behind a pointer. -/
theorem req_body (ao : Option Addr) (n cap B p : Nat) (zs : List Int) (x o v : Int) (s : ByteArray) (w : World) (h : (bts (.slice ao n cap) zs).lies w B) (hB : B ≤ w.heap.size) (hN : zs.length ≤ 4000000000) (hS : s.size ≤ 1048576)
    (c0 : w.cell? ⟨p, 0, none⟩ = some (.string s)) (c1 : w.cell? ⟨p, 1, none⟩ = some (.int .i32 v)) (hne : some p ≠ (Value.slice ao n cap).ownBlock) :
    Calls Try.prog 17 #[.slice ao n cap, .int .i32 x, .int .i32 o, .iface 32 (.pointer (some ⟨p, 0, none⟩))] w fun e w' => ∃ ao' m cap', e = .returned (.slice ao' m cap') ∧
      Grew B w (.slice ao n cap) w' (bts (.slice ao' m cap') (zs ++ (be4 (16 + s.size) ++ (be4 (x % 4294967296) ++ (be4 (o % 4294967296) ++ (be4 s.size ++ (sby s ++ be4 (v % 4294967296)))))))) := by
  have Hn : Hid (n = zs.length) := (row_len h).1
  have Hne : Hid _ := hne
  have hp := World.block_lt_of_cell? w _ c0
  clear hne
  have hm := method_append
  go_enter Try.func17, Try.ntmps17
  go_wp2_with fail
  refine (begin_any ao n cap B zs w h hB (by omega)).mono ?_
  rintro e w1 ⟨a1, k1, rfl, g1⟩
  have z1 := g1.grown.size
  go_wp2_with fail
  refine (appInt32_any _ _ _ B _ x _ g1.row (by omega) (by simp; omega)).mono ?_
  rintro e w2 ⟨a2, k2, rfl, g2⟩
  have z2 := g2.grown.size
  have g3 := Grew.trans g1 g2
  clear g1 g2
  go_wp2_with fail
  refine (appInt32_any _ _ _ B _ o _ g3.row (by omega) (by simp [be4]; omega)).mono ?_
  rintro e w3 ⟨a3, k3, rfl, g4⟩
  have z3 := g4.grown.size
  have g5 := Grew.trans g3 g4
  clear g3 g4
  simp only [List.append_assoc, List.cons_append, List.nil_append] at g5
  have d0 := g5.grown.cell c0 Hne.out
  have d1 := g5.grown.cell c1 Hne.out
  have Hne3 : Hid (some p ≠ (Value.slice a3 (n + 4 + 4 + 4) k3).ownBlock) := by
    rcases g5.spot with e | ⟨g, e, hg⟩
    · intro hh; exact Hne.out (hh.trans e)
    · intro hh
      have := hh.trans e
      cases this
      omega
  go_wp2_with fail
  refine (pvr_any _ _ _ B p _ s v _ g5.row (by omega) (by simp [be4]; omega) hS d0 d1 Hne3.out).mono ?_
  rintro e w4 ⟨a4, m4, k4, rfl, g6⟩
  have g7 := Grew.trans g5 g6
  clear g5 g6 hm
  simp only [List.append_assoc, List.cons_append] at g7
  go_wp2_with fail
  refine (end_any _ _ _ B zs (be4 (x % 4294967296) ++ (be4 (o % 4294967296) ++ (be4 s.size ++ (sby s ++ be4 (v % 4294967296))))) 0 0 0 0 _ _ g7.row (by rw [Hn.out]) (by simp [be4, sby_length]; omega)).mono ?_
  rintro e w5 ⟨rfl, p8, g8⟩
  have g9 := Grew.trans g7 ⟨p8, g8, .inl rfl⟩
  have hl : ((be4 (x % 4294967296) ++ (be4 (o % 4294967296) ++ (be4 s.size ++ (sby s ++ be4 (v % 4294967296))))).length : Int) = 16 + s.size := by
    simp [be4, sby_length]
    omega
  rw [hl] at g9
  clear g7 p8 g8 hl
  go_wp2
  go_ret
  exact ⟨a4, m4, k4, rfl, g9⟩

end Go.Proofs.Qxb6605892a
