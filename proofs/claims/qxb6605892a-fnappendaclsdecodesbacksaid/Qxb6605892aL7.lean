import Derived.Test.Qxb6605892aAca
namespace Go.Proofs.Qxb6605892a
open Go.RowKit
set_option linter.unusedVariables false

theorem St.rot4 {w0 w : World} {rs : List Rw} {r s t u : Rw} (h : St w0 w (r :: s :: t :: u :: rs)) : St w0 w (u :: r :: s :: t :: rs) :=
  h.perm ((((List.Perm.swap u t rs).cons s).trans (List.Perm.swap u s (t :: rs))).cons r |>.trans (List.Perm.swap u r (s :: t :: rs)))
theorem apart_far {r : Rw} {t : TypeId} {sz n c m : Nat} {ao : Option Addr} {xs : List Value} (h : Apart r ⟨t, sz, .slice ao n c, m, xs⟩) : ∀ a, ao = some a → some a.block ≠ r.v.ownBlock := by
  intro a ha e
  subst ha
  unfold Apart at h
  rcases h with h | h
  · rw [h] at e; cases e
  · exact h e.symm

theorem wt_drop (es : List Ent) (k : Nat) : wt (es.drop k) ≤ wt es := by
  have : wt es = wt (es.take k) + wt (es.drop k) := by
    conv => lhs; rw [← List.take_append_drop k es]
    unfold wt
    rw [List.map_append, List.sum_append_nat]
  omega

/-- The second half of a row of entries. -/
theorem half (wa : Option Addr) (len : Nat) (hl : len ≤ 65536) : ∃ wb, (∀ W : World, Sem.run Try.prog (Instr.slice 42 (.slice wa len len) (some (.int .i64 ((len : Int) / 2))) none none) W = .ok (.slice wb (len - len / 2) (len - len / 2)) W) ∧
    (∀ a, wb = some a → ∃ a', wa = some a' ∧ a.block = a'.block) ∧ ((∀ a, wa = some a → a.spot = none) → ∀ (w : World) (es : List Ent), Sees3 w wa len es → Sees3 w wb (len - len / 2) (es.drop (len / 2))) := by
  refine ⟨if len = len / 2 then wa else wa.map (·.add (len / 2 * 3)), fun W => ?_, fun a ha => ?_, fun hsp w es hs => ?_⟩
  · have h := run_slice_l (P := Try.prog) W 42 wa len len (by kernel_rfl) .i64 ((len : Int) / 2) (by omega) (by omega)
    have e : ((len : Int) / 2).toNat = len / 2 := by omega
    have hsz : (sizeOf (Try.prog.elem 42)).run Try.prog W = .ok 3 W := by kernel_rfl
    rw [h, hsz, e]
    rfl
  · split at ha
    · exact ⟨a, ha, rfl⟩
    · cases wa with
      | none => cases ha
      | some b =>
        simp only [Option.map_some, Option.some.injEq] at ha
        subst ha
        exact ⟨b, rfl, by unfold Addr.add; split <;> rfl⟩
  · split
    · rename_i h0
      obtain rfl : len = 0 := by omega
      obtain rfl : es = [] := List.eq_nil_of_length_eq_zero hs.count
      exact hs
    · cases wa with
      | none => have := hs.void rfl; omega
      | some b =>
        have hb := hsp b rfl
        obtain ⟨g, o, sp⟩ := b
        simp only at hb
        subst hb
        simp only [Option.map_some]
        rw [Addr.add_lit]
        exact hs.drops (len / 2) (by omega)

theorem row_spot {w : World} {B len cap n : Nat} {t : TypeId} {sz : Nat} {ao : Option Addr} {xs : List Value} (h : (⟨t, sz, .slice ao len cap, n, xs⟩ : Rw).lies w B) : ∀ a, ao = some a → a.spot = none := by
  intro a ha
  rcases h.2 with ⟨hv, _⟩ | ⟨g, cap', cur, hv, _⟩
  · simp only [Value.slice.injEq] at hv
    rw [hv.1] at ha
    cases ha
  · simp only [Value.slice.injEq] at hv
    rw [hv.1] at ha
    cases ha
    rfl

set_option maxHeartbeats 2000000 in
theorem bytes27_pos (a0 : Option Addr) (n0 c0 b off len cap : Nat) (w : World) (h0 : n0 ≤ 9223372036854775807) (h1 : len ≤ 9223372036854775807)
    (hc : ∀ k, k < len → ∃ s i : ByteArray, s.size ≤ 9223372036854775807 ∧ i.size ≤ 9223372036854775807 ∧ w.cell? ⟨b, off + k * 3 + 1, none⟩ = some (.string s) ∧ w.cell? ⟨b, off + k * 3 + 2, none⟩ = some (.string i)) :
    Calls Try.prog 27 #[.slice a0 n0 c0, .slice (some ⟨b, off, none⟩) len cap] w (Answers w) := by
  have Hc : Hid _ := hc
  clear hc
  by_cases q0 : (1048576 : Int) < (n0 : Int)
  · go_enter Try.func27, Try.ntmps27
    go_wp2
    go_ret
    exact ⟨_, rfl, rfl⟩
  by_cases q1 : (1048576 : Int) < (len : Int)
  · go_enter Try.func27, Try.ntmps27
    go_wp2
    go_ret
    exact ⟨_, rfl, rfl⟩
  by_cases q2 : (1048576 : Int) < (n0 : Int) + (len : Int)
  · go_enter Try.func27, Try.ntmps27
    go_wp2
    go_ret
    exact ⟨_, rfl, rfl⟩
  go_enter Try.func27, Try.ntmps27
  go_wp2
  go_loop [5, 6] (fun z i => ∃ (k : Nat) (y : Int), k ≤ len ∧ i = .int .i64 k ∧ z = .int .i64 y ∧ 0 ≤ y ∧ y ≤ 1048576) (fun _ i => len - (intOf i).toNat)
  case atStart => exact ⟨0, (n0 : Int) + len, Nat.zero_le _, rfl, by go_num, by omega, by omega⟩
  case round =>
    obtain ⟨k, y, hk, rfl, rfl, y0, y1⟩ := hrel
    by_cases hlt : k < len
    · obtain ⟨s, i, hs, hi, d1, d2⟩ := Hc.out k hlt
      have q3 : (k : Int) < (len : Int) := by omega
      clear Hc
      by_cases t1 : (1048576 : Int) < (s.size : Int)
      · go_wp2
        go_ret
        exact ⟨_, rfl, rfl⟩
      by_cases t2 : (1048576 : Int) < y + (s.size : Int)
      · go_wp2
        go_ret
        exact ⟨_, rfl, rfl⟩
      by_cases t3 : (1048576 : Int) < (i.size : Int)
      · go_wp2
        go_ret
        exact ⟨_, rfl, rfl⟩
      by_cases t4 : (1048576 : Int) < y + (s.size : Int) + (i.size : Int)
      · go_wp2
        go_ret
        exact ⟨_, rfl, rfl⟩
      go_wp2
      go_round
      case rel => exact ⟨k + 1, y + s.size + i.size, by omega, by go_num, rfl, by omega, by omega⟩
      case measure => simp [intOf]; omega
    · go_wp2
      go_ret
      exact ⟨_, rfl, rfl⟩

set_option maxHeartbeats 2000000 in
theorem bytes27_zero (a0 a1 : Option Addr) (n0 c0 cap : Nat) (w : World) (h0 : n0 ≤ 9223372036854775807) :
    Calls Try.prog 27 #[.slice a0 n0 c0, .slice a1 0 cap] w (Answers w) := by
  by_cases q0 : (1048576 : Int) < (n0 : Int)
  · go_enter Try.func27, Try.ntmps27
    go_wp2
    go_ret
    exact ⟨_, rfl, rfl⟩
  go_enter Try.func27, Try.ntmps27
  go_wp2
  go_loop [5, 6] (fun z i => i = .int .i64 ((0 : Nat) : Int)) (fun _ i => 0)
  case atStart => rfl
  case round =>
    obtain rfl := hrel
    go_wp2
    go_ret
    exact ⟨_, rfl, rfl⟩

theorem bytes27_any (a0 a1 : Option Addr) (n0 c0 len cap : Nat) (es : List Ent) (w : World) (h0 : n0 ≤ 9223372036854775807) (h1 : len ≤ 9223372036854775807) (hs : Sees3 w a1 len es) :
    Calls Try.prog 27 #[.slice a0 n0 c0, .slice a1 len cap] w (Answers w) := by
  by_cases hp : 0 < len
  · obtain ⟨b, off, rfl, hc⟩ := hs.at hp
    refine bytes27_pos a0 n0 c0 b off len cap w h0 h1 fun k hk => ?_
    obtain ⟨e, _, ⟨_, _, o1, o2⟩, _, d1, d2⟩ := hc k hk
    unfold maxLen at o1 o2
    exact ⟨e.s, e.i, by omega, by omega, d1, d2⟩
  · obtain rfl : len = 0 := by omega
    exact bytes27_zero a0 a1 n0 c0 cap w h0


set_option maxHeartbeats 2000000 in
theorem law7_no (a0 a1 : Option Addr) (n0 c0 len cap : Nat) (w : World) (hb : Calls Try.prog 27 #[.slice a0 n0 c0, .slice a1 len cap] w fun e w' => e = .returned (.bool false) ∧ w' = w) :
    Calls Try.prog 7 #[.slice a0 n0 c0, .slice a1 len cap] w fun e w' => e = .returned (.bool true) ∧ Below w.heap.size w w' := by
  go_enter Try.func7, Try.ntmps7
  go_wp2_with fail
  refine hb.mono ?_
  rintro e w' ⟨rfl, rfl⟩
  clear hb
  go_wp2
  go_ret
  exact ⟨rfl, Below.refl _ _⟩

set_option maxRecDepth 100000 in
set_option maxHeartbeats 4000000 in
theorem law7_any (a0 a1 : Option Addr) (n0 c0 len cap : Nat) (P : List Int) (es : List Ent) (w : World) (s0 : Sees w a0 n0 P) (s1 : Sees3 w a1 len es) (m0 : n0 ≤ 9223372036854775807) (m1 : len ≤ 9223372036854775807) :
    Calls Try.prog 7 #[.slice a0 n0 c0, .slice a1 len cap] w fun e w' => e = .returned (.bool true) ∧ Below w.heap.size w w' := by
  have hb := bytes27_any a0 a1 n0 c0 len cap es w m0 m1 s1
  go_enter Try.func7, Try.ntmps7
  go_wp2_with fail
  refine hb.mono ?_
  rintro e w' ⟨r, rfl, rfl⟩
  clear hb
  cases r
  case false =>
    go_wp2
    go_ret
    exact ⟨rfl, Below.refl _ _⟩
  go_wp2_with fail
  refine (tooBig_any a0 a1 n0 c0 len cap es _ m0 m1 s1).mono ?_
  rintro e w1 ⟨r, rfl, hfit, g1⟩
  have st1 := (St.start w').read g1
  cases r
  case true =>
    go_wp2
    go_ret
    exact ⟨rfl, st1.below⟩
  obtain ⟨f1, f2⟩ := hfit rfl
  clear hfit
  have s01 := s0.read g1
  have s11 := s1.read g1
  have HP : Hid (P.length = n0) := s0.1
  have HE : Hid (es.length = len) := s1.count
  have HO : Hid (∀ e ∈ es, e.ok) := s1.ok
  clear s0 s1 g1
  go_wp2_with fail
  refine (clone_sees a0 n0 c0 P _ s01 (by omega)).mono ?_
  rintro e w2 ⟨pa, pc, rfl, p2, g2⟩
  have st2 := st1.new g2 p2
  have s12 := s11.read g2
  clear st1 s01 s11 p2 g2
  go_wp2_with fail
  refine (cloneA_any a1 len cap es _ s12 (by omega)).mono ?_
  rintro e w3 ⟨ca, rfl, p3, g3⟩
  have st3 := st2.new g3 p3
  clear st2 s12 p3 g3
  go_wp2_with fail
  refine (clone_sees pa n0 pc P _ (sees_row st3.second) (by omega)).mono ?_
  rintro e w4 ⟨oa, oc, rfl, p4, g4⟩
  have st4 := st3.new g4 p4
  clear st3 p4 g4
  go_wp2_with fail
  refine (toWire_any ca len len es _ (sees3_row st4.second HE.out HO.out) (by omega)).mono ?_
  rintro e w5 ⟨wa, rfl, p5, g5⟩
  have st5 := st4.new g5 p5
  clear st4 p5 g5
  have st6 := st5.rot4
  clear st5
  go_wp2_with fail
  refine (zzacls_any pa wa n0 pc w'.heap.size len len P es _ st6.head st6.size (by rw [HP.out]; omega) (by omega) (by omega) (sees3_row st6.second HE.out HO.out) (apart_far (st6.far (List.mem_cons_self ..)))).mono ?_
  rintro e w6 ⟨ha, hm, hc, rfl, g6⟩
  have st7 := st6.grew g6
  clear st6 g6
  have st8 := st7.nil
  clear st7
  go_wp2_with fail
  refine (zzacls_any none wa 0 0 w'.heap.size (len / 2) len [] (es.take (len / 2)) _ st8.head st8.size (by simp) (by omega) (by have := wt_take es (len / 2); omega) ((sees3_row st8.third HE.out HO.out).takes (len / 2) (by omega)) (apart_far (st8.far (List.mem_cons_of_mem _ (List.mem_cons_self ..))))).mono ?_
  rintro e w7 ⟨la, lm, lc, rfl, g7⟩
  have st9 := st8.grew g7
  clear st8 g7
  obtain ⟨wb, hrun, hblk, hsee⟩ := half wa len f2
  have Hblk : Hid _ := hblk
  have Hsee : Hid _ := hsee
  clear hblk hsee
  have st10 := st9.nil
  clear st9
  go_wp2_with fail
  refine (zzacls_any none wb 0 0 w'.heap.size (len - len / 2) (len - len / 2) [] (es.drop (len / 2)) _ st10.head st10.size (by simp) (by omega) (by have := wt_drop es (len / 2); omega)
    (Hsee.out (row_spot st10.tail.tail.tail.head) _ es (sees3_row st10.tail.tail.tail.head HE.out HO.out)) (fun a _ => by simp [Value.ownBlock])).mono ?_
  rintro e w8 ⟨ra, rm, rc, rfl, g8⟩
  have st11 := st10.grew g8
  clear st10 g8 hrun Hblk Hsee
  obtain ⟨A, hA⟩ : ∃ A, A = encs (es.take (len / 2)) := ⟨_, rfl⟩
  obtain ⟨D, hD⟩ : ∃ D, D = encs (es.drop (len / 2)) := ⟨_, rfl⟩
  have hAD : encs es = A ++ D := by rw [hA, hD, ← encs_append, List.take_append_drop]
  have hel := encs_length es
  rw [hAD, HE.out] at hel
  rw [← hA, ← hD, hAD] at st11
  have e1 : ((len / 2 : Nat) : Int) = (len : Int) / 2 := by omega
  have e2 : ((len - len / 2 : Nat) : Int) = (len : Int) - (len : Int) / 2 := by omega
  rw [e1, e2] at st11
  simp only [List.nil_append] at st11
  clear hA hD hAD e1 e2
  obtain ⟨x, hx⟩ : ∃ x, A.length = x := ⟨_, rfl⟩
  obtain ⟨y, hy⟩ : ∃ y, D.length = y := ⟨_, rfl⟩
  have hxy : x + y ≤ 2000000 := by simp at hel; omega
  obtain rfl : rm = 4 + y := by rw [(row_len st11.head).1]; simp [be4]; omega
  obtain rfl : lm = 4 + x := by rw [(row_len st11.second).1]; simp [be4]; omega
  obtain rfl : hm = n0 + 4 + (x + y) := by rw [(row_len st11.third).1]; have := HP.out; simp [be4]; omega
  have HX : Hid _ := hx
  have HY : Hid _ := hy
  clear hx hy hel
  go_wp2_with fail
  refine (rd32_be _ _ _ _ _ _ ((len : Int) / 2) _ st11.second (by have := HX.out; simp [be4]; omega) [] A rfl (by simp) (by omega) (by omega)).mono ?_
  rintro e w9 ⟨rfl, g9⟩
  have st12 := st11.read g9
  clear st11 g9
  go_wp2_with fail
  refine (rd32_be _ _ _ _ _ _ ((len : Int) - (len : Int) / 2) _ st12.head (by have := HY.out; simp [be4]; omega) [] D rfl (by simp) (by omega) (by omega)).mono ?_
  rintro e w10 ⟨rfl, g10⟩
  have st13 := st12.read g10
  clear st12 g10
  go_wp2_with fail
  refine (hasPre_any _ _ _ _ _ _ _ _ _ _ _ st13.third st13.tail.tail.tail.tail.head rfl (by have := HX.out; have := HY.out; have := HP.out; simp [be4]; omega)).mono ?_
  rintro e w11 ⟨rfl, g11⟩
  have st14 := st13.read g11
  clear st13 g11
  go_wp2_with fail
  refine (rd32_be _ _ _ _ _ _ (len : Int) _ st14.third (by have := HX.out; have := HY.out; have := HP.out; simp [be4]; omega) P (A ++ D) rfl (by rw [HP.out]) (by omega) (by omega)).mono ?_
  rintro e w12 ⟨rfl, g12⟩
  have st15 := st14.read g12
  clear st14 g12
  have hcell1 : ∀ k, k < x → ∃ g g2 z, ha = some ⟨g, 0, none⟩ ∧ la = some ⟨g2, 0, none⟩ ∧ w12.cell? ⟨g, n0 + 4 + k, none⟩ = some (.int .u8 z) ∧ w12.cell? ⟨g2, 4 + k, none⟩ = some (.int .u8 z) := by
    intro k hk
    have := HX.out
    have := HY.out
    have := HP.out
    obtain ⟨g, hg, _, _, hc, _⟩ := row_some st15.third (by simp [be4]; omega)
    obtain ⟨g2, hg2, _, _, hc2, _⟩ := row_some st15.second (by simp [be4])
    have hz : A[k]? = some (A.getD k 0) := by simp [List.getD, show k < A.length by omega]
    refine ⟨g, g2, A.getD k 0, hg, hg2, ?_, ?_⟩
    · have e : P ++ (be4 ↑len ++ (A ++ D)) = (P ++ be4 ↑len) ++ (A ++ D) := by simp only [List.append_assoc]
      rw [hc (n0 + 4 + k) (by simp [be4]; omega), e, getD_at _ (A ++ D) (A.getD k 0) k _ (by simp [be4]; omega) (by rw [List.getElem?_append_left (by omega)]; exact hz)]
    · rw [hc2 (4 + k) (by simp [be4]; omega), getD_at _ A (A.getD k 0) k _ (by simp [be4]) hz]
  have hcell2 : ∀ k, k < y → ∃ g g2 z, ha = some ⟨g, 0, none⟩ ∧ ra = some ⟨g2, 0, none⟩ ∧ w12.cell? ⟨g, n0 + 4 + x + k, none⟩ = some (.int .u8 z) ∧ w12.cell? ⟨g2, 4 + k, none⟩ = some (.int .u8 z) := by
    intro k hk
    have := HX.out
    have := HY.out
    have := HP.out
    obtain ⟨g, hg, _, _, hc, _⟩ := row_some st15.third (by simp [be4]; omega)
    obtain ⟨g2, hg2, _, _, hc2, _⟩ := row_some st15.head (by simp [be4])
    have hz : D[k]? = some (D.getD k 0) := by simp [List.getD, show k < D.length by omega]
    refine ⟨g, g2, D.getD k 0, hg, hg2, ?_, ?_⟩
    · have e : P ++ (be4 ↑len ++ (A ++ D)) = (P ++ (be4 ↑len ++ A)) ++ D := by simp only [List.append_assoc]
      rw [hc (n0 + 4 + x + k) (by simp [be4]; omega), e, getD_at _ D (D.getD k 0) k _ (by simp [be4]; omega) hz]
    · rw [hc2 (4 + k) (by simp [be4]; omega), getD_at _ D (D.getD k 0) k _ (by simp [be4]) hz]
  have H1 : Hid _ := hcell1
  have H2 : Hid _ := hcell2
  clear hcell1 hcell2
  go_wp2_with fail
  go_loopw [12, 13] (fun q i wr => ∃ k : Nat, k ≤ x ∧ q = .int .i64 ((n0 : Int) + 4 + k) ∧ i = .int .i64 (4 + (k : Int)) ∧ ∃ t, wr = w12.drewN t) (fun _ i _ => 4 + x - (intOf i).toNat)
  case atStart => exact ⟨0, Nat.zero_le _, by go_num, by go_num, 0, rfl⟩
  case round =>
    obtain ⟨k, hk, rfl, rfl, t, rfl⟩ := hrel
    by_cases hlt : k < x
    · obtain ⟨g, g2, z, rfl, rfl, d1, d2⟩ := H1.out k hlt
      have q1 : (n0 : Int) + 4 + (k : Int) < (n0 : Int) + 4 + ((x : Int) + (y : Int)) := by omega
      have q2 : 4 + (k : Int) < 4 + (x : Int) := by omega
      clear H1 H2 st15
      go_wp2
      go_quiet (fail)
      go_wp2
      go_roundw
      case rel => exact ⟨k + 1, by omega, by go_num, by go_num, _, rfl⟩
      case measure => simp [intOf]; omega
    · have q2 : ¬ 4 + (k : Int) < 4 + (x : Int) := by omega
      obtain rfl : k = x := by omega
      go_wp2
      go_loopw [12, 14] (fun q i wr => ∃ m : Nat, m ≤ y ∧ q = .int .i64 ((n0 : Int) + 4 + k + m) ∧ i = .int .i64 (4 + (m : Int)) ∧ ∃ t, wr = w12.drewN t) (fun _ i _ => 4 + y - (intOf i).toNat)
      case atStart => exact ⟨0, Nat.zero_le _, by go_num, by go_num, t, rfl⟩
      case round =>
        obtain ⟨m, hm, rfl, rfl, t2, rfl⟩ := hrel
        by_cases hlt : m < y
        · obtain ⟨g, g2, z, rfl, rfl, d1, d2⟩ := H2.out m hlt
          have q1 : (n0 : Int) + 4 + (k : Int) + (m : Int) < (n0 : Int) + 4 + ((k : Int) + (y : Int)) := by omega
          have q2 : 4 + (m : Int) < 4 + (y : Int) := by omega
          clear H1 H2 st15
          go_wp2
          go_quiet (fail)
          go_wp2
          go_roundw
          case rel => exact ⟨m + 1, by omega, by go_num, by go_num, _, rfl⟩
          case measure => simp [intOf]; omega
        · have q2 : ¬ 4 + (m : Int) < 4 + (y : Int) := by omega
          go_wp2
          go_ret
          exact ⟨rfl, (st15.read (grownBy_drewN _ _)).below⟩

end Go.Proofs.Qxb6605892a
