import Derived.Test.Qxb6605892aWr
namespace Go.Proofs.Qxb6605892a
open Go.RowKit
set_option linter.unusedVariables false

/-- Four cells laid in a new block, as the source of an append. -/
theorem src_four (w : World) (a b c d : Int) : Src Try.prog 1 22 (.slice (some ⟨w.heap.size, 0, none⟩) 4 4) 4 ([a, b, c, d].map (Value.int .u8)) (w.alloc (.cells #[.int .u8 a, .int .u8 b, .int .u8 c, .int .u8 d] 5)) := by
  refine Src.ofSlice _ Try.underlying22 _ 4 4 _ rfl ?_ (ints_oneCell .u8 _)
  intro j u hj
  match j, hj with
  | 0, hj => simp at hj; subst hj; simp [Addr.add]
  | 1, hj => simp at hj; subst hj; simp [Addr.add]
  | 2, hj => simp at hj; subst hj; simp [Addr.add]
  | 3, hj => simp at hj; subst hj; simp [Addr.add]

/-- From the law's form to a byte row. -/
theorem grew_bts {B : Nat} {w w' : World} {v : Value} {ao : Option Addr} {m cap : Nat} {zs : List Int} {news : List Value} (ys : List Int) (hm : ys.length = m) (hy : ys.map (Value.int .u8) = news)
    (h : Grew B w v w' ⟨5, 1, .slice ao (zs.length + m) cap, zs.length + m, zs.map (Value.int .u8) ++ news⟩) : Grew B w v w' (bts (.slice ao (zs.length + m) cap) (zs ++ ys)) := by
  subst hm hy
  have e : (bts (.slice ao (zs.length + ys.length) cap) (zs ++ ys)) = ⟨5, 1, .slice ao (zs.length + ys.length) cap, zs.length + ys.length, zs.map (Value.int .u8) ++ ys.map (Value.int .u8)⟩ := by
    simp [bts]
  rw [e]
  exact h

theorem grew_to {B : Nat} {w w' : World} {v : Value} {ao : Option Addr} {n cap : Nat} {xs : List Value} (ys : List Int) (hn : ys.length = n) (hx : ys.map (Value.int .u8) = xs)
    (h : Grew B w v w' ⟨5, 1, .slice ao n cap, n, xs⟩) : Grew B w v w' (bts (.slice ao n cap) ys) := by
  subst hn hx
  exact h

set_option maxHeartbeats 1000000 in
theorem begin_any (ao : Option Addr) (n cap B : Nat) (zs : List Int) (w : World) (h : (bts (.slice ao n cap) zs).lies w B) (hB : B ≤ w.heap.size) (hN : zs.length ≤ 549755813888) :
    Calls Try.prog 31 #[.slice ao n cap] w fun e w' => ∃ ao' cap', e = .returned (.tuple #[.slice ao' (n + 4) cap', .int .i64 n]) ∧ Grew B w (.slice ao n cap) w' (bts (.slice ao' (n + 4) cap') (zs ++ [0, 0, 0, 0])) := by
  obtain ⟨i0, hi, hz0, hz1, hz2⟩ := info_parts info5
  obtain ⟨rfl, _, _⟩ := row_len h
  have hown : w.ownsRow B 5 1 (.slice ao zs.length cap) zs.length (zs.map (Value.int .u8)) := h
  have hown1 := hown.alloc (.cells #[.int .u8 0, .int .u8 0, .int .u8 0, .int .u8 0] 5)
  go_enter Try.func31, Try.ntmps31
  go_wp2_with (at_builtin; refine wpList_append_grew _ rfl _ _ 22 22 rfl B 5 i0 (.int .u8 0) Try.underlying22 hi hz0 hz1 hz2 rfl ao _ cap _ rfl hown1 _ rfl 4 _ (src_four w 0 0 0 0) ?c1 ?c2 ?_)
  case c1 => omega
  case c2 => simp; omega
  intro ao' cap' w1 hg
  have hg1 := Grew.before (World.grownBy_alloc w _ none) (grew_bts [0, 0, 0, 0] rfl rfl hg)
  clear hg hown1 hown
  go_wp2
  go_ret2
  exact ⟨ao', cap', rfl, hg1⟩

set_option maxHeartbeats 1000000 in
theorem zzbegin_any (ao : Option Addr) (n cap B : Nat) (zs : List Int) (w : World) (h : (bts (.slice ao n cap) zs).lies w B) (hB : B ≤ w.heap.size) (hN : zs.length ≤ 549755813888) :
    Calls Try.prog 12 #[.slice ao n cap] w fun e w' => ∃ ao' cap', e = .returned (.tuple #[.slice ao' (n + 4) cap', .int .i64 n]) ∧ Grew B w (.slice ao n cap) w' (bts (.slice ao' (n + 4) cap') (zs ++ [0, 0, 0, 0])) := by
  have hc := begin_any ao n cap B zs w h hB hN
  go_enter Try.func12, Try.ntmps12
  go_wp2_with fail
  refine hc.mono ?_
  rintro e w1 ⟨ao', cap', rfl, hg⟩
  clear hc
  go_wp2
  go_ret2
  exact ⟨ao', cap', rfl, hg⟩


set_option maxHeartbeats 1000000 in
/-- zzPut32. -/
theorem put32_any (ao : Option Addr) (n cap B : Nat) (zs : List Int) (v : Int) (w : World) (h : (bts (.slice ao n cap) zs).lies w B) (hB : B ≤ w.heap.size) (hN : zs.length ≤ 549755813888) (h0 : 0 ≤ v) (h1 : v < 4294967296) :
    Calls Try.prog 18 #[.slice ao n cap, .int .u32 v] w fun e w' => ∃ ao' cap', e = .returned (.slice ao' (n + 4) cap') ∧ Grew B w (.slice ao n cap) w' (bts (.slice ao' (n + 4) cap') (zs ++ be4 v)) := by
  obtain ⟨i0, hi, hz0, hz1, hz2⟩ := info_parts info5
  obtain ⟨rfl, _, _⟩ := row_len h
  have hown : w.ownsRow B 5 1 (.slice ao zs.length cap) zs.length (zs.map (Value.int .u8)) := h
  have hown1 := hown.alloc (.cells #[.int .u8 (v / 16777216), .int .u8 (v / 65536 % 256), .int .u8 (v / 256 % 256), .int .u8 (v % 256)] 5)
  go_enter Try.func18, Try.ntmps18
  go_wp2_with (at_builtin; refine wpList_append_grew _ rfl _ _ 22 22 rfl B 5 i0 (.int .u8 0) Try.underlying22 hi hz0 hz1 hz2 rfl ao _ cap _ rfl hown1 _ rfl 4 _ (src_four w _ _ _ _) ?c1 ?c2 ?_)
  case c1 => omega
  case c2 => simp; omega
  intro ao' cap' w1 hg
  have hg1 := Grew.before (World.grownBy_alloc w _ none) (grew_bts (be4 v) rfl rfl hg)
  clear hg hown1 hown
  go_wp2
  go_ret
  exact ⟨ao', cap', rfl, hg1⟩

set_option maxHeartbeats 1000000 in
/-- binary.BigEndian.AppendUint32. -/
theorem app32_any (ao : Option Addr) (n cap B : Nat) (zs : List Int) (v : Int) (w : World) (h : (bts (.slice ao n cap) zs).lies w B) (hB : B ≤ w.heap.size) (hN : zs.length ≤ 549755813888) (h0 : 0 ≤ v) (h1 : v < 4294967296) :
    Calls Try.prog 37 #[.agg #[], .slice ao n cap, .int .u32 v] w fun e w' => ∃ ao' cap', e = .returned (.slice ao' (n + 4) cap') ∧ Grew B w (.slice ao n cap) w' (bts (.slice ao' (n + 4) cap') (zs ++ be4 v)) := by
  obtain ⟨i0, hi, hz0, hz1, hz2⟩ := info_parts info5
  obtain ⟨rfl, _, _⟩ := row_len h
  have hown : w.ownsRow B 5 1 (.slice ao zs.length cap) zs.length (zs.map (Value.int .u8)) := h
  have hown1 := (hown.alloc (.cells #[] 56)).alloc (.cells #[.int .u8 (v / 16777216), .int .u8 (v / 65536 % 256), .int .u8 (v / 256 % 256), .int .u8 (v % 256)] 5)
  have hsrc := src_four (w.alloc (.cells #[] 56)) (v / 16777216) (v / 65536 % 256) (v / 256 % 256) (v % 256)
  have hs : (w.alloc (.cells #[] 56)).heap.size = w.heap.size + 1 := by simp
  rw [hs] at hsrc
  clear hs
  go_enter Try.func37, Try.ntmps37
  go_wp2_with (at_builtin; refine wpList_append_grew _ rfl _ _ 22 22 rfl B 5 i0 (.int .u8 0) Try.underlying22 hi hz0 hz1 hz2 rfl ao _ cap _ rfl hown1 _ rfl 4 _ hsrc ?c1 ?c2 ?_)
  case c1 => omega
  case c2 => simp; omega
  intro ao' cap' w1 hg
  have hg1 := Grew.before (World.grownBy_alloc w _ none) (Grew.before (World.grownBy_alloc _ _ none) (grew_bts (be4 v) rfl rfl hg))
  clear hg hown1 hown hsrc
  go_wp2
  go_ret
  exact ⟨ao', cap', rfl, hg1⟩

set_option maxHeartbeats 1000000 in
/-- AppendInt32. -/
theorem appInt32_any (ao : Option Addr) (n cap B : Nat) (zs : List Int) (x : Int) (w : World) (h : (bts (.slice ao n cap) zs).lies w B) (hB : B ≤ w.heap.size) (hN : zs.length ≤ 549755813888) :
    Calls Try.prog 33 #[.slice ao n cap, .int .i32 x] w fun e w' => ∃ ao' cap', e = .returned (.slice ao' (n + 4) cap') ∧ Grew B w (.slice ao n cap) w' (bts (.slice ao' (n + 4) cap') (zs ++ be4 (x % 4294967296))) := by
  have hc := app32_any ao n cap B zs (x % 4294967296) w h hB hN (by omega) (by omega)
  go_enter Try.func33, Try.ntmps33
  go_wp2_with fail
  refine hc.mono ?_
  rintro e w1 ⟨ao', cap', rfl, hg⟩
  clear hc
  go_wp2
  go_ret
  exact ⟨ao', cap', rfl, hg⟩

/-- A string's bytes as numbers. -/
def sby (s : ByteArray) : List Int := s.data.toList.map fun b => (b.toNat : Int)
theorem sby_length (s : ByteArray) : (sby s).length = s.size := by
  unfold sby
  rw [List.length_map, Array.length_toList]
  rfl
theorem sby_cells (s : ByteArray) : (sby s).map (Value.int .u8) = byteCells s := by
  simp [sby, byteCells, List.map_map, Function.comp_def]

set_option maxHeartbeats 1000000 in
/-- AppendString. -/
theorem appStr_any (ao : Option Addr) (n cap B : Nat) (zs : List Int) (s : ByteArray) (w : World) (h : (bts (.slice ao n cap) zs).lies w B) (hB : B ≤ w.heap.size) (hN : zs.length ≤ 274877906944) (hS : s.size ≤ 1048576) :
    Calls Try.prog 35 #[.slice ao n cap, .string s] w fun e w' => ∃ ao' cap', e = .returned (.slice ao' (n + 4 + s.size) cap') ∧
      Grew B w (.slice ao n cap) w' (bts (.slice ao' (n + 4 + s.size) cap') ((zs ++ be4 s.size) ++ sby s)) := by
  obtain ⟨i0, hi, hz0, hz1, hz2⟩ := info_parts info5
  obtain ⟨rfl, _, _⟩ := row_len h
  have hc := appInt32_any ao zs.length cap B zs (s.size : Int) w h hB (by omega)
  have hm : ((s.size : Int) % 4294967296) = (s.size : Int) := by omega
  rw [hm] at hc
  go_enter Try.func35, Try.ntmps35
  go_wp2_with fail
  refine hc.mono ?_
  rintro e w1 ⟨ao', cap', rfl, hg⟩
  clear hc hm
  have hsz := hg.grown.size
  have hl : zs.length + 4 = (zs ++ be4 s.size).length := by simp [be4_length]
  have hown : w1.ownsRow B 5 1 (.slice ao' (zs.length + 4) cap') (zs.length + 4) ((zs ++ be4 s.size).map (Value.int .u8)) := by
    have := hg.row
    unfold Rw.lies bts at this
    rw [← hl] at this
    exact this
  have Hl : Hid (zs.length + 4 = (zs ++ be4 s.size).length) := hl
  clear hl
  go_wp2_with (at_builtin; refine wpList_append_grew _ rfl _ _ 22 9 rfl B 5 i0 (.int .u8 0) Try.underlying22 hi hz0 hz1 hz2 rfl ao' _ cap' _ rfl hown _ rfl s.size _ (Src.ofString _ Try.underlying9 s) ?c1 ?c2 ?_)
  case c1 => omega
  case c2 => omega
  intro ao2 cap2 w2 hg2
  have hg3 := Grew.trans hg (grew_to ((zs ++ be4 s.size) ++ sby s) (by rw [List.length_append, ← Hl.out, sby_length]) (by rw [List.map_append, List.map_append, sby_cells, List.append_assoc]) hg2)
  clear hg hg2 hown
  go_wp2
  go_ret
  exact ⟨ao2, cap2, rfl, hg3⟩

end Go.Proofs.Qxb6605892a
