/-
  THE WALK over FnUnfollowScriptLetsGoAtLast.
-/
import Derived.Test.Qxb6625440aKeep
namespace Go.Proofs.Qxb6625440a
open Go.RowKit

theorem zz5_big (st fi : Int) (a2 : Option Addr) (n2 c2 : Nat) (a3 : Option Addr) (n3 c3 : Nat) (h : 1048576 < n2 + n3) (w : World) :
    Calls Try.prog 5 #[.int .i64 st, .int .u64 fi, .slice a2 n2 c2, .slice a3 n3 c3] w fun e w' => e = .returned (.bool false) ∧ w' = w := by
  by_cases h1 : 1048576 < n2
  · clear h
    go_enter Try.func5, Try.ntmps5
    go_wp2
    go_ret
    exact ⟨rfl, rfl⟩
  by_cases h2 : 1048576 < n3
  · clear h
    go_enter Try.func5, Try.ntmps5
    go_wp2
    go_ret
    exact ⟨rfl, rfl⟩
  go_enter Try.func5, Try.ntmps5
  go_wp2
  go_ret
  exact ⟨rfl, rfl⟩
theorem zz5_ok (st fi : Int) (a2 : Option Addr) (n2 c2 : Nat) (a3 : Option Addr) (n3 c3 : Nat) (h : n2 + n3 ≤ 1048576) (w : World) :
    Calls Try.prog 5 #[.int .i64 st, .int .u64 fi, .slice a2 n2 c2, .slice a3 n3 c3] w fun e w' => e = .returned (.bool true) ∧ w' = w := by
  go_enter Try.func5, Try.ntmps5
  go_wp2
  go_ret
  exact ⟨rfl, rfl⟩

set_option maxHeartbeats 400000 in
theorem last_out (st fi : Int) (a2 : Option Addr) (n2 c2 : Nat) (a3 : Option Addr) (n3 c3 : Nat) (h : 1048576 < n2 + n3) (w : World) :
    Calls Try.prog 3 #[.int .i64 st, .int .u64 fi, .slice a2 n2 c2, .slice a3 n3 c3] w fun e w' => e = .returned (.bool true) ∧ Below w.heap.size w w' := by
  go_enter Try.func3, Try.ntmps3
  go_wp2_with fail
  refine (zz5_big st fi a2 n2 c2 a3 n3 c3 h w).mono ?_
  rintro e w1 ⟨rfl, rfl⟩
  go_wp2
  go_ret
  exact ⟨rfl, Below.refl _ _⟩

/-- A stream goes; the tail stays: others follow, or it holds nothing. -/
theorem unf_stay (C F T : Nat) (st fi : Int) (bv : Value) (a : Option Addr) (n c : Nat) (w : World) (hC : Cur w C F) (hF : Fd w F T st) (hT : Bk w T fi bv (.slice a n c)) (h1 : -9223372036854775807 ≤ st) (h2 : st ≤ 9223372036854775807) (hs : st ≠ 1 ∨ n = 0) :
    Calls Try.prog 12 #[.pointer (some ⟨C, 0, none⟩)] w fun e w' => e = .returned (.tuple #[]) ∧ Fd w' F T (st - 1) ∧ Only F w w' := by
  by_cases e : st = 1
  · subst e
    have hn : n = 0 := hs.resolve_left (fun h => h rfl)
    subst hn
    exact zzunf (unf_empty C F T fi bv a c w hC hF hT)
  · exact zzunf (unf_keep C F T st w hC hF h1 h2 e)

set_option maxHeartbeats 400000 in
theorem last_st (st fi : Int) (a2 : Option Addr) (n2 c2 : Nat) (a3 : Option Addr) (n3 c3 : Nat) (h : n2 + n3 ≤ 1048576) (hs : st < 1 ∨ 65536 < st) (w : World) :
    Calls Try.prog 3 #[.int .i64 st, .int .u64 fi, .slice a2 n2 c2, .slice a3 n3 c3] w fun e w' => e = .returned (.bool true) ∧ Below w.heap.size w w' := by
  by_cases h1 : st < 1
  · clear hs
    go_enter Try.func3, Try.ntmps3
    go_wp2_with fail
    refine (zz5_ok st fi a2 n2 c2 a3 n3 c3 h w).mono ?_
    rintro e w1 ⟨rfl, rfl⟩
    go_wp2
    all_goals go_ret
    all_goals exact ⟨rfl, Below.refl _ _⟩
  · have h2 : 65536 < st := by omega
    clear hs
    go_enter Try.func3, Try.ntmps3
    go_wp2_with fail
    refine (zz5_ok st fi a2 n2 c2 a3 n3 c3 h w).mono ?_
    rintro e w1 ⟨rfl, rfl⟩
    go_wp2
    all_goals go_ret
    all_goals exact ⟨rfl, Below.refl _ _⟩

set_option maxHeartbeats 1000000 in
set_option maxRecDepth 20000 in
theorem last_in (st fi : Int) (a2 : Option Addr) (n2 c2 : Nat) (a3 : Option Addr) (n3 c3 : Nat) (z2 z3 : Nat → Int) (h : n2 + n3 ≤ 1048576) (hs1 : 1 ≤ st) (hs2 : st ≤ 65536) (hfi : 0 ≤ fi) (w : World) (h2 : Rw .u8 w (.slice a2 n2 c2) n2 z2) (h3 : Rw .i64 w (.slice a3 n3 c3) n3 z3) :
    Calls Try.prog 3 #[.int .i64 st, .int .u64 fi, .slice a2 n2 c2, .slice a3 n3 c3] w fun e w' => e = .returned (.bool true) ∧ Below w.heap.size w w' := by
  have hn2 : n2 ≤ 1048576 := by omega
  have hn3 : n3 ≤ 1048576 := by omega
  have hns := neq_same
  go_enter Try.func3, Try.ntmps3
  go_wp2_with fail
  refine (zz5_ok st fi a2 n2 c2 a3 n3 c3 h w).mono ?_
  rintro e w1 ⟨rfl, rfl⟩
  go_wp2_with fail
  · go_ret
    exact ⟨rfl, Below.refl _ _⟩
  · go_ret
    exact ⟨rfl, Below.refl _ _⟩
  refine (wf_any a2 n2 c2 _ n3 z3 hn3 w1 h3).mono ?_
  rintro e w2 ⟨⟨b, rfl⟩, rfl⟩
  cases b
  · go_wp2
    go_ret
    exact ⟨rfl, Below.refl _ _⟩
  go_wp2_with fail
  refine (cpb_any _ n2 z2 hn2 w2 h2).mono ?_
  rintro e w3 ⟨vb, rfl, rb, B3⟩
  have h2a := h2.below B3
  have h3a := h3.below B3
  obtain ⟨ab, cb, rfl⟩ := rb.form
  go_wp2_with fail
  refine (cpi_any _ n3 z3 hn3 w3 h3a).mono ?_
  rintro e w4 ⟨ve, rfl, re, B4⟩
  have h2b := h2a.below B4
  have h3b := h3a.below B4
  have rb4 := rb.below B4
  obtain ⟨ae, ce, rfl⟩ := re.form
  go_wp2_with fail
  refine (cpb_any _ n2 z2 hn2 w4 h2b).mono ?_
  rintro e w5 ⟨vb', rfl, rb', B5⟩
  have h3c := h3b.below B5
  have rb5 := rb4.below B5
  have re5 := re.below B5
  obtain ⟨ab', cb', rfl⟩ := rb'.form
  go_wp2_with fail
  refine (cpi_any _ n3 z3 hn3 w5 h3c).mono ?_
  rintro e w6 ⟨ve', rfl, re', B6⟩
  have rb6 := rb5.below B6
  have re6 := re5.below B6
  have rb6' := rb'.below B6
  obtain ⟨ae', ce', rfl⟩ := re'.form
  have BW : Below w2.heap.size w2 w6 := B3.trans ((B4.trans ((B5.trans (B6.mono B5.size)).mono B4.size)).mono B3.size)
  clear h2 h3 h2a h3a h2b h3b h3c rb rb4 rb5 re re5 rb' B3 B4 B5 B6
  go_wp2_with fail
  refine (new_any st fi ab n2 cb ae n3 ce w6).mono ?_
  rintro e w7 ⟨rfl, hC7, hF7, hT7, B7⟩
  go_wp2_with fail
  refine (tail_any _ _ _ st w7 hC7 hF7).mono ?_
  rintro e w8 ⟨rfl, rfl⟩
  obtain ⟨N, rfl⟩ : ∃ N : Nat, st = (N : Int) := ⟨st.toNat, by omega⟩
  have hN1 : 1 ≤ N := by omega
  have hN2 : N ≤ 65536 := by omega
  generalize hB : w6.heap.size = B at *
  go_wp2_with fail
  go_loopw [17] (fun j wr => ∃ k T : Nat, 1 ≤ k ∧ k ≤ N + 1 ∧ j = .int .i64 k ∧ Cur wr (B + 2) (B + 1) ∧ Fd wr (B + 1) T ((N : Int) - k + 1) ∧ (k ≤ N → T = B) ∧ Bk wr B fi (.slice ab n2 cb) (.slice ae n3 ce) ∧ Below B w6 wr) (fun j _ => N + 1 - (intOf j).toNat)
  case atStart =>
    have e : ((N : Int) - ((1 : Nat) : Int) + 1) = N := by omega
    exact ⟨1, B, Nat.le_refl _, by omega, rfl, hC7, by rw [e]; exact hF7, fun _ => rfl, hT7, B7⟩
  case round =>
    obtain ⟨k, T, hk1, hk2, rfl, hCr, hFr, hTB, hTr, hBr⟩ := hrel
    by_cases hlt : k ≤ N
    · have hTe := hTB hlt
      clear hTB
      subst T
      go_wp2_with fail
      refine (on_any _ _ _ _ wr hCr hFr).mono ?_
      rintro e w10 ⟨rfl, hD10, B10⟩
      have hlF : B + 1 < wr.heap.size := lt_of_cell hFr.f0
      have hC10 := hCr.below B10
      have hF10 := hFr.below B10
      have hT10 := hTr.below B10
      have BB10 : Below B w6 w10 := hBr.trans (B10.mono (by omega))
      have hl10 : B + 1 < w10.heap.size := Nat.lt_of_lt_of_le hlF B10.size
      clear hCr hFr hTr hBr B10
      generalize wr.heap.size = D at *
      by_cases hlast : k = N ∧ 0 < n3
      · obtain ⟨hkN, hn0⟩ := hlast
        subst k
        have e1 : ((N : Int) - N + 1) = 1 := by omega
        rw [e1] at hF10
        go_wp2_with fail
        refine (zzunf (unf_go D (B + 1) B fi _ ae n3 ce w10 hD10 hF10 hT10 (by omega) hn0 hfi (by omega))).mono ?_
        rintro e w11 ⟨rfl, ⟨T', hT', hF11, hN11⟩, O11⟩
        have hC11 := hC10.only O11 (by omega)
        have hT11 := hT10.only O11 (by omega)
        have BB11 : Below B w6 w11 := BB10.trans (O11.below.mono (by omega))
        have hne : T' ≠ B := by omega
        clear hC10 hF10 hT10 BB10 hD10 O11
        go_wp2_with fail
        refine (streams_any _ _ _ 0 w11 hC11 hF11).mono ?_
        rintro e w12 ⟨rfl, rfl⟩
        go_wp2_with fail
        refine (zztold_any _ _ _ 0 (fi + n3) _ none 0 0 w12 hC11 hF11 hN11 (by omega) (by omega)).mono ?_
        rintro e w13 ⟨rfl, B13⟩
        have e2 : fi + (n3 : Int) + ((0 : Nat) : Int) = fi + n3 := by omega
        rw [e2]
        have hl11 : B + 1 < w12.heap.size := lt_of_cell hF11.f0
        have hC13 := hC11.below B13
        have hF13 := hF11.below B13
        have hT13 := hT11.below B13
        have hN13 := hN11.below B13
        have BB13 : Below B w6 w13 := BB11.trans (B13.mono (by omega))
        have heo : (binOp .eql 31 (.pointer (some ⟨T', 0, none⟩)) (.pointer (some ⟨B, 0, none⟩))).run Try.prog w13 = .ok (.bool false) w13 := eql_other (fun h => hne (congrArg Addr.block h)) hN13.bl hT13.bl
        have hn0' : ((n3 : Int) == 0) = false := by simp; omega
        clear hC11 hF11 hT11 hN11 B13 BB11
        go_wp2_with fail
        refine (tail_any _ _ _ 0 w13 hC13 hF13).mono ?_
        rintro e w14 ⟨rfl, rfl⟩
        go_wp2_with fail
        refine (first_any _ _ _ _ w14 hN13).mono ?_
        rintro e w15 ⟨rfl, rfl⟩
        go_wp2_with fail
        refine (buf_any _ _ _ _ w15 hN13).mono ?_
        rintro e w16 ⟨rfl, rfl⟩
        go_wp2_with fail
        refine (ends_any _ _ _ _ w16 hN13).mono ?_
        rintro e w17 ⟨rfl, rfl⟩
        go_wp2_with fail
        refine (end_any _ _ _ _ w17 hN13).mono ?_
        rintro e w18 ⟨rfl, rfl⟩
        go_wp2_with fail
        refine (next_any _ _ _ _ w18 hN13).mono ?_
        rintro e w19 ⟨rfl, rfl⟩
        go_wp2
        go_roundw
        case rel =>
          go_light
          refine ⟨N + 1, T', by omega, by omega, by go_num, hC13, ?_, fun h => by omega, hT13, BB13⟩
          have e3 : ((N : Int) - ((N + 1 : Nat) : Int) + 1) = 0 := by omega
          rw [e3]; exact hF13
        case measure =>
          go_light
          simp only [intOf]; omega
      · go_wp2_with fail
        refine (unf_stay D (B + 1) B _ fi _ ae n3 ce w10 hD10 hF10 hT10 (by omega) (by omega) (by omega)).mono ?_
        rintro e w11 ⟨rfl, hF11, O11⟩
        have e1 : ((N : Int) - k + 1 - 1) = (N : Int) - k := by omega
        rw [e1] at hF11
        have hC11 := hC10.only O11 (by omega)
        have hT11 := hT10.only O11 (by omega)
        have BB11 : Below B w6 w11 := BB10.trans (O11.below.mono (by omega))
        clear hC10 hF10 hT10 BB10 hD10 O11
        go_wp2_with fail
        refine (streams_any _ _ _ _ w11 hC11 hF11).mono ?_
        rintro e w12 ⟨rfl, rfl⟩
        go_wp2_with fail
        refine (zztold_any _ _ _ _ fi _ ae n3 ce w12 hC11 hF11 hT11 hfi (by omega)).mono ?_
        rintro e w13 ⟨rfl, B13⟩
        have hl11 : B + 1 < w12.heap.size := lt_of_cell hF11.f0
        have hC13 := hC11.below B13
        have hF13 := hF11.below B13
        have hT13 := hT11.below B13
        have BB13 : Below B w6 w13 := BB11.trans (B13.mono (by omega))
        clear hC11 hF11 hT11 B13 BB11
        go_wp2_with fail
        refine (tail_any _ _ _ _ w13 hC13 hF13).mono ?_
        rintro e w14 ⟨rfl, rfl⟩
        by_cases hkN : k < N
        · go_wp2
          go_roundw
          case rel =>
            go_light
            refine ⟨k + 1, B, by omega, by omega, by go_num, hC13, ?_, fun _ => rfl, hT13, BB13⟩
            have e3 : ((N : Int) - ((k + 1 : Nat) : Int) + 1) = (N : Int) - k := by omega
            rw [e3]; exact hF13
          case measure =>
            go_light
            simp only [intOf]; omega
        · have hn0 : ((n3 : Int) == 0) = true := by simp; omega
          go_wp2
          go_roundw
          case rel =>
            go_light
            refine ⟨k + 1, B, by omega, by omega, by go_num, hC13, ?_, fun _ => rfl, hT13, BB13⟩
            have e3 : ((N : Int) - ((k + 1 : Nat) : Int) + 1) = (N : Int) - k := by omega
            rw [e3]; exact hF13
          case measure =>
            go_light
            simp only [intOf]; omega
    · have hBr' : Below w6.heap.size w6 wr := hB ▸ hBr
      clear hTB hCr hFr
      go_wp2_with fail
      refine (first_any _ fi _ _ wr hTr).mono ?_
      rintro e w14 ⟨rfl, rfl⟩
      go_wp2_with fail
      refine (buf_any _ fi _ _ w14 hTr).mono ?_
      rintro e w15 ⟨rfl, rfl⟩
      go_wp2_with fail
      refine (eqb_any _ _ n2 z2 hn2 w15 (rb6.below hBr') (rb6'.below hBr')).mono ?_
      rintro e w16 ⟨rfl, B16⟩
      have hT16 := hTr.below B16
      have BB16 : Below w6.heap.size w6 w16 := hBr'.trans (B16.mono hBr'.size)
      clear hTr B16
      go_wp2_with fail
      refine (ends_any _ fi _ _ w16 hT16).mono ?_
      rintro e w17 ⟨rfl, rfl⟩
      go_wp2_with fail
      refine (eqi_any _ _ n3 z3 hn3 w17 (re6.below BB16) (re'.below BB16)).mono ?_
      rintro e w18 ⟨rfl, B18⟩
      have hT18 := hT16.below B18
      have BB18 : Below w6.heap.size w6 w18 := BB16.trans (B18.mono BB16.size)
      clear hT16 B18 BB16
      go_wp2_with fail
      refine (end_any _ fi _ _ w18 hT18).mono ?_
      rintro e w19 ⟨rfl, rfl⟩
      go_wp2_with fail
      refine (next_any _ fi _ _ w19 hT18).mono ?_
      rintro e w20 ⟨rfl, rfl⟩
      go_wp2
      go_ret
      exact ⟨rfl, BW.trans (BB18.mono BW.size)⟩
end Go.Proofs.Qxb6625440a
