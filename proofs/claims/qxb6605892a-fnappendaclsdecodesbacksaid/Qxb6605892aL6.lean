import Derived.Test.Qxb6605892aOp
namespace Go.Proofs.Qxb6605892a
open Go.RowKit
set_option linter.unusedVariables false

set_option maxHeartbeats 1000000 in
theorem rd32_cells_q (g n cap : Nat) (i : Nat) (a b c d : Int) (w : World) (hn : i + 4 ≤ n) (hN : n ≤ 1099511627776)
    (ha : 0 ≤ a ∧ a ≤ 255) (hb : 0 ≤ b ∧ b ≤ 255) (hc : 0 ≤ c ∧ c ≤ 255) (hd : 0 ≤ d ∧ d ≤ 255)
    (c0 : w.cell? ⟨g, i, none⟩ = some (.int .u8 a)) (c1 : w.cell? ⟨g, i + 1, none⟩ = some (.int .u8 b)) (c2 : w.cell? ⟨g, i + 2, none⟩ = some (.int .u8 c)) (c3 : w.cell? ⟨g, i + 3, none⟩ = some (.int .u8 d)) :
    Calls Try.prog 15 #[.slice (some ⟨g, 0, none⟩) n cap, .int .i64 i] w fun e w' => e = .returned (.int .u32 (a * 16777216 + b * 65536 + c * 256 + d)) ∧ ∃ m, w' = w.drewN m := by
  obtain ⟨ha0, ha1⟩ := ha
  obtain ⟨hb0, hb1⟩ := hb
  obtain ⟨hc0, hc1⟩ := hc
  obtain ⟨hd0, hd1⟩ := hd
  have q0 : (i : Int) < (n : Int) := by omega
  have q1 : (i : Int) + 1 < (n : Int) := by omega
  have q2 : (i : Int) + 2 < (n : Int) := by omega
  have q3 : (i : Int) + 3 < (n : Int) := by omega
  go_enter Try.func15, Try.ntmps15
  go_wp2
  go_quiet (fail)
  go_wp2
  go_ret
  exact ⟨ret_int (join4 a b c d ha0 ha1 hb0 hb1 hc0 hc1 hd0 hd1), _, rfl⟩

/-- zzRd32, the world told. -/
theorem rd32_be_q (ao : Option Addr) (n cap B : Nat) (zs : List Int) (I v : Int) (w : World) (h : (bts (.slice ao n cap) zs).lies w B) (hN : zs.length ≤ 1099511627776)
    (l r : List Int) (hz : zs = l ++ (be4 v ++ r)) (hI : I = (l.length : Int)) (hv0 : 0 ≤ v) (hv1 : v < 4294967296) :
    Calls Try.prog 15 #[.slice ao n cap, .int .i64 I] w fun e w' => e = .returned (.int .u32 v) ∧ ∃ m, w' = w.drewN m := by
  obtain ⟨hn, _, _⟩ := row_len h
  have hl : zs.length = l.length + (4 + r.length) := by rw [hz]; simp [be4_length]
  obtain ⟨g, rfl, _, _, hc, _⟩ := row_some h (by omega)
  subst hI
  have e0 := hc l.length (by omega)
  have e1 := hc (l.length + 1) (by omega)
  have e2 := hc (l.length + 2) (by omega)
  have e3 := hc (l.length + 3) (by omega)
  rw [hz, getD_at l _ (v / 16777216) 0 _ (by omega) (by simp [be4])] at e0
  rw [hz, getD_at l _ (v / 65536 % 256) 1 _ (by omega) (by simp [be4])] at e1
  rw [hz, getD_at l _ (v / 256 % 256) 2 _ (by omega) (by simp [be4])] at e2
  rw [hz, getD_at l _ (v % 256) 3 _ (by omega) (by simp [be4])] at e3
  refine (rd32_cells_q g n cap l.length _ _ _ _ w (by omega) (by omega) (by omega) (by omega) (by omega) (by omega) e0 e1 e2 e3).mono fun e w' he => ⟨he.1.trans (ret_int ?_), he.2⟩
  omega

theorem wrap_back2 (x : Int) (h0 : -2147483648 ≤ x) (h1 : x ≤ 2147483647) : IntKind.i32.wrap (x % 4294967296) = x := by
  rw [IntKind.wrap_i32]
  omega

theorem encs_split (es : List Ent) (k : Nat) (e : Ent) (h : es[k]? = some e) : encs es = encs (es.take k) ++ (enc e ++ encs (es.drop (k + 1))) := by
  obtain ⟨hk, he⟩ := List.getElem?_eq_some_iff.1 h
  have : es = es.take k ++ (e :: es.drop (k + 1)) := by rw [← he, List.getElem_cons_drop, List.take_append_drop]
  conv => lhs; rw [this]
  simp [encs]

set_option maxRecDepth 100000 in
set_option maxHeartbeats 4000000 in
theorem law6_any (a0 a1 : Option Addr) (n0 c0 len cap : Nat) (P : List Int) (es : List Ent) (w : World) (s0 : Sees w a0 n0 P) (s1 : Sees3 w a1 len es) (m0 : n0 ≤ 9223372036854775807) (m1 : len ≤ 9223372036854775807) :
    Calls Try.prog 6 #[.slice a0 n0 c0, .slice a1 len cap] w fun e w' => e = .returned (.bool true) ∧ Below w.heap.size w w' := by
  have hb := bytes22_any a0 a1 n0 c0 len cap es w m0 m1 s1
  go_enter Try.func6, Try.ntmps6
  go_wp2_with fail
  refine hb.mono ?_
  rintro e w' ⟨r, rfl, rfl⟩
  clear hb
  cases r
  case false =>
    go_wp2
    go_ret
    exact ⟨rfl, Below.refl _ _⟩
  go_wp2_with fail
  refine (tooBig_any a0 a1 n0 c0 len cap es _ m0 m1 s1).mono ?_
  rintro e w1 ⟨r, rfl, hfit, g1⟩
  have st1 := (St.start w').read g1
  cases r
  case true =>
    go_wp2
    go_ret
    exact ⟨rfl, st1.below⟩
  obtain ⟨f1, f2⟩ := hfit rfl
  clear hfit
  have s01 := s0.read g1
  have s11 := s1.read g1
  have HP : Hid (P.length = n0) := s0.1
  have HE : Hid (es.length = len) := s1.count
  have HO : Hid (∀ e ∈ es, e.ok) := s1.ok
  clear s0 s1 g1
  go_wp2_with fail
  refine (clone_sees a0 n0 c0 P _ s01 (by omega)).mono ?_
  rintro e w2 ⟨pa, pc, rfl, p2, g2⟩
  have st2 := st1.new g2 p2
  have s12 := s11.read g2
  clear st1 s01 s11 p2 g2
  go_wp2_with fail
  refine (cloneA_any a1 len cap es _ s12 (by omega)).mono ?_
  rintro e w3 ⟨ca, rfl, p3, g3⟩
  have st3 := st2.new g3 p3
  clear st2 s12 p3 g3
  go_wp2_with fail
  refine (clone_sees pa n0 pc P _ (sees_row st3.second) (by omega)).mono ?_
  rintro e w4 ⟨oa, oc, rfl, p4, g4⟩
  have st4 := st3.new g4 p4
  clear st3 p4 g4
  go_wp2_with fail
  refine (toWire_any ca len len es _ (sees3_row st4.second HE.out HO.out) (by omega)).mono ?_
  rintro e w5 ⟨wa, rfl, p5, g5⟩
  have st5 := st4.new g5 p5
  clear st4 p5 g5
  have st6 := st5.rot4
  clear st5
  go_wp2_with fail
  refine (zzacls_any pa wa n0 pc w'.heap.size len len P es _ st6.head st6.size (by rw [HP.out]; omega) (by omega) (by omega) (sees3_row st6.second HE.out HO.out) (apart_far (st6.far (List.mem_cons_self ..)))).mono ?_
  rintro e w6 ⟨ha, hm, hc, rfl, g6⟩
  have st7 := st6.grew g6
  clear st6 g6
  have hel := encs_length es
  rw [HE.out] at hel
  have hml : hm = n0 + 4 + (12 * len + wt es) := by rw [(row_len st7.head).1]; have := HP.out; simp [be4]; omega
  have hmb : hm ≤ 4000000 := by omega
  have Hml : Hid _ := hml
  have q1 : ¬ (hm : Int) - (n0 : Int) < 4 := by omega
  have hMl : (P ++ (be4 ↑len ++ encs es)).length ≤ 4000000 := by have := HP.out; simp [be4]; omega
  clear hml hel
  go_wp2_with fail
  refine (hasPre_any _ _ _ _ _ _ _ _ _ _ _ st7.head st7.third rfl (by omega)).mono ?_
  rintro e w7 ⟨rfl, g7⟩
  have st8 := st7.read g7
  clear st7 g7
  go_wp2_with fail
  refine (rd32_be _ _ _ _ _ _ (len : Int) _ st8.head (by omega) P (encs es) rfl (by rw [HP.out]) (by omega) (by omega)).mono ?_
  rintro e w8 ⟨rfl, g8⟩
  have st9 := st8.read g8
  clear st8 g8
  go_wp2_with fail
  go_loopw [8, 9] (fun p i wr => ∃ (k : Nat) (pv : Int), k ≤ len ∧ i = .int .i64 k ∧ p = .int .i64 pv ∧ Hid (pv = (n0 : Int) + 4 + (12 * k + wt (es.take k))) ∧ St w' wr [bts (.slice ha hm hc) (P ++ (be4 ↑len ++ encs es)), ⟨53, 3, .slice wa len len, len, ecs es⟩, bts (.slice oa n0 oc) P, ⟨46, 3, .slice ca len len, len, ecs es⟩]) (fun _ i _ => len - (intOf i).toNat)
  case atStart => exact ⟨0, (n0 : Int) + 4, Nat.zero_le _, rfl, by go_num, by show _ = _; simp [wt], st9⟩
  case round =>
    clear st9
    obtain ⟨k, pv, hk, rfl, rfl, Hpv, st⟩ := hrel
    by_cases hlt : k < len
    · obtain ⟨gb, gf, rfl, hcc⟩ := (sees3_row st.tail.tail.tail.head HE.out HO.out).at (by omega)
      obtain ⟨e, he, hok, d1, d2, d3⟩ := hcc k hlt
      clear hcc
      have hws := wt_snoc es k e he
      have hwk := wt_take es (k + 1)
      have hTl : (encs (es.take k)).length = 12 * k + wt (es.take k) := by
        rw [encs_length]
        have := HE.out
        have : (es.take k).length = k := by simp; omega
        omega
      have HM : Hid (P ++ (be4 ↑len ++ encs es) = P ++ (be4 ↑len ++ (encs (es.take k) ++ (be4 (e.p % 4294967296) ++ (be4 ↑e.s.size ++ (sby e.s ++ (be4 ↑e.i.size ++ (sby e.i ++ encs (es.drop (k + 1)))))))))) := by
        show _ = _
        rw [encs_split es k e he]
        simp only [enc, List.append_assoc]
      have hM2 : pv + 12 + e.s.size + e.i.size ≤ hm := by rw [Hpv.out, Hml.out]; omega
      have hpv0 : 0 ≤ pv := by rw [Hpv.out]; omega
      have hsz : e.s.size ≤ 1048576 := by omega
      have hiz : e.i.size ≤ 1048576 := by omega
      have W1 := wrap_back e.p hok.1 hok.2.1
      have W2 := wrap_back2 e.p hok.1 hok.2.1
      have hd : decide ((hm : Int) - pv < 4) = false := by simp; omega
      have q3 : (k : Int) < (len : Int) := by omega
      have I1 : Hid (pv = ((P ++ (be4 ↑len ++ encs (es.take k))).length : Int)) := by
        show _ = _
        have := HP.out
        rw [Hpv.out]
        simp [be4, hTl]
        omega
      have Hnew : Hid (pv + 12 + (e.s.size + e.i.size) = (n0 : Int) + 4 + (12 * ((k + 1 : Nat) : Int) + wt (es.take (k + 1)))) := by
        show _ = _
        rw [Hpv.out, hws]
        omega
      clear hws hwk hTl Hpv he hok
      go_wp2
      go_quiet ((go_at_call 15; exact Calls.quiet_of (rd32_be_q _ _ _ _ _ _ (e.p % 4294967296) _ (st.head.read (grownBy_drewN _ _)) (by omega) (P ++ (be4 ↑len ++ encs (es.take k))) _ (by rw [HM.out]; simp only [List.append_assoc]; rfl) I1.out (by omega) (by omega))))
      have st10 := st.read (grownBy_drewN wr nq)
      clear st hd
      go_wp2_with fail
      refine (readStr_at _ _ _ _ _ _ e.s _ st10.head (by omega) (by omega) (P ++ (be4 ↑len ++ (encs (es.take k) ++ be4 (e.p % 4294967296)))) _ (by rw [HM.out]; simp only [List.append_assoc]; rfl) (by rw [I1.out]; simp [be4]; omega)).mono ?_
      rintro e1 w9 ⟨rfl, g9⟩
      have d3' := World.grownBy.cell g9 (show (wr.drewN nq).cell? _ = _ from d3) (by simp)
      have st11 := st10.read g9
      clear st10 g9 d1 d2 d3
      go_wp2_with fail
      refine (readStr_at _ _ _ _ _ _ e.i _ st11.head (by omega) (by omega) (P ++ (be4 ↑len ++ (encs (es.take k) ++ (be4 (e.p % 4294967296) ++ (be4 ↑e.s.size ++ sby e.s))))) _ (by rw [HM.out]; simp only [List.append_assoc]; rfl) (by rw [I1.out]; simp [be4, sby_length]; omega)).mono ?_
      rintro e1 w10 ⟨rfl, g10⟩
      have st12 := st11.read g10
      clear st11 g10 d3' W1 W2
      go_wp2
      go_roundw
      case rel => exact ⟨k + 1, pv + 12 + (e.s.size + e.i.size), by omega, by go_num, by go_num, Hnew.out, st12⟩
      case measure => simp [intOf]; omega
    · obtain rfl : k = len := by omega
      have hT : es.take k = es := List.take_of_length_le (by rw [HE.out]; omega)
      have heq : pv = (hm : Int) := by
        rw [Hpv.out, Hml.out, hT]
        omega
      subst heq
      clear Hpv hT
      go_wp2
      go_ret
      exact ⟨rfl, st.below⟩

end Go.Proofs.Qxb6605892a
