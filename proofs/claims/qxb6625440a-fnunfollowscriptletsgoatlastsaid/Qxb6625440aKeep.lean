/-
  THE WALK over FnUnfollowKeepsTailWhileFollowed.
-/
import Derived.Test.Qxb6625440aCopy
import Derived.Test.Qxb6625440aUnf
namespace Go.Proofs.Qxb6625440a
open Go.RowKit

theorem zz22_big (st fi : Int) (a2 : Option Addr) (n2 c2 : Nat) (a3 : Option Addr) (n3 c3 : Nat) (h : 1048576 < n2 + n3) (w : World) :
    Calls Try.prog 22 #[.int .i64 st, .int .u64 fi, .slice a2 n2 c2, .slice a3 n3 c3] w fun e w' => e = .returned (.bool false) ∧ w' = w := by
  by_cases h1 : 1048576 < n2
  · clear h
    go_enter Try.func22, Try.ntmps22
    go_wp2
    go_ret
    exact ⟨rfl, rfl⟩
  by_cases h2 : 1048576 < n3
  · clear h
    go_enter Try.func22, Try.ntmps22
    go_wp2
    go_ret
    exact ⟨rfl, rfl⟩
  go_enter Try.func22, Try.ntmps22
  go_wp2
  go_ret
  exact ⟨rfl, rfl⟩
theorem zz22_ok (st fi : Int) (a2 : Option Addr) (n2 c2 : Nat) (a3 : Option Addr) (n3 c3 : Nat) (h : n2 + n3 ≤ 1048576) (w : World) :
    Calls Try.prog 22 #[.int .i64 st, .int .u64 fi, .slice a2 n2 c2, .slice a3 n3 c3] w fun e w' => e = .returned (.bool true) ∧ w' = w := by
  go_enter Try.func22, Try.ntmps22
  go_wp2
  go_ret
  exact ⟨rfl, rfl⟩

set_option maxHeartbeats 400000 in
theorem keep_out (st fi : Int) (a2 : Option Addr) (n2 c2 : Nat) (a3 : Option Addr) (n3 c3 : Nat) (h : 1048576 < n2 + n3) (w : World) :
    Calls Try.prog 4 #[.int .i64 st, .int .u64 fi, .slice a2 n2 c2, .slice a3 n3 c3] w fun e w' => e = .returned (.bool true) ∧ Below w.heap.size w w' := by
  go_enter Try.func4, Try.ntmps4
  go_wp2_with fail
  refine (zz22_big st fi a2 n2 c2 a3 n3 c3 h w).mono ?_
  rintro e w1 ⟨rfl, rfl⟩
  go_wp2
  go_ret
  exact ⟨rfl, Below.refl _ _⟩

theorem Rw.form {k : IntKind} {w : World} {v : Value} {n : Nat} {z : Nat → Int} (h : Rw k w v n z) : ∃ a c, v = .slice a n c := by
  rcases h with ⟨rfl, rfl⟩ | ⟨x, c, rfl, _⟩
  · exact ⟨none, 0, rfl⟩
  · exact ⟨some x, c, rfl⟩

set_option maxHeartbeats 1000000 in
theorem keep_in (st fi : Int) (a2 : Option Addr) (n2 c2 : Nat) (a3 : Option Addr) (n3 c3 : Nat) (z2 z3 : Nat → Int) (h : n2 + n3 ≤ 1048576) (hst : st ≤ 9223372036854775807) (hfi : 0 ≤ fi) (w : World) (h2 : Rw .u8 w (.slice a2 n2 c2) n2 z2) (h3 : Rw .i64 w (.slice a3 n3 c3) n3 z3) :
    Calls Try.prog 4 #[.int .i64 st, .int .u64 fi, .slice a2 n2 c2, .slice a3 n3 c3] w fun e w' => e = .returned (.bool true) ∧ Below w.heap.size w w' := by
  have hn2 : n2 ≤ 1048576 := by omega
  have hn3 : n3 ≤ 1048576 := by omega
  have hns := neq_same
  go_enter Try.func4, Try.ntmps4
  go_wp2_with fail
  refine (zz22_ok st fi a2 n2 c2 a3 n3 c3 h w).mono ?_
  rintro e w1 ⟨rfl, rfl⟩
  go_wp2_with fail
  · go_ret
    exact ⟨rfl, Below.refl _ _⟩
  · go_ret
    exact ⟨rfl, Below.refl _ _⟩
  · go_ret
    exact ⟨rfl, Below.refl _ _⟩
  refine (wf_any a2 n2 c2 _ n3 z3 hn3 w1 h3).mono ?_
  rintro e w2 ⟨⟨b, rfl⟩, rfl⟩
  cases b
  · go_wp2
    go_ret
    exact ⟨rfl, Below.refl _ _⟩
  go_wp2_with fail
  refine (cpb_any _ n2 z2 hn2 w2 h2).mono ?_
  rintro e w3 ⟨vb, rfl, rb, B3⟩
  have h2a := h2.below B3
  have h3a := h3.below B3
  obtain ⟨ab, cb, rfl⟩ := rb.form
  go_wp2_with fail
  refine (cpi_any _ n3 z3 hn3 w3 h3a).mono ?_
  rintro e w4 ⟨ve, rfl, re, B4⟩
  have h2b := h2a.below B4
  have h3b := h3a.below B4
  have rb4 := rb.below B4
  obtain ⟨ae, ce, rfl⟩ := re.form
  go_wp2_with fail
  refine (cpb_any _ n2 z2 hn2 w4 h2b).mono ?_
  rintro e w5 ⟨vb', rfl, rb', B5⟩
  have h3c := h3b.below B5
  have rb5 := rb4.below B5
  have re5 := re.below B5
  obtain ⟨ab', cb', rfl⟩ := rb'.form
  go_wp2_with fail
  refine (cpi_any _ n3 z3 hn3 w5 h3c).mono ?_
  rintro e w6 ⟨ve', rfl, re', B6⟩
  have rb6 := rb5.below B6
  have re6 := re5.below B6
  have rb6' := rb'.below B6
  obtain ⟨ae', ce', rfl⟩ := re'.form
  have BW : Below w2.heap.size w2 w6 := B3.trans ((B4.trans ((B5.trans (B6.mono B5.size)).mono B4.size)).mono B3.size)
  clear h2 h3 h2a h3a h2b h3b h3c rb rb4 rb5 re re5 rb' B3 B4 B5 B6
  go_wp2_with fail
  refine (new_any st fi ab n2 cb ae n3 ce w6).mono ?_
  rintro e w7 ⟨rfl, hC7, hF7, hT7, B7⟩
  go_wp2_with fail
  refine (tail_any _ _ _ st w7 hC7 hF7).mono ?_
  rintro e w8 ⟨rfl, rfl⟩
  go_wp2_with fail
  refine (zztold_any _ _ _ st fi _ ae n3 ce w8 hC7 hF7 hT7 hfi (by omega)).mono ?_
  rintro e w9 ⟨rfl, B9⟩
  have hC9 := hC7.below B9
  have hF9 := hF7.below B9
  have hT9 := hT7.below B9
  have BB9 : Below w6.heap.size w6 w9 := B7.trans (B9.mono B7.size)
  clear hC7 hF7 hT7 B7 B9
  go_wp2_with fail
  refine (zzunf (unf_keep _ _ _ st w9 hC9 hF9 (by omega) hst (by omega))).mono ?_
  rintro e w10 ⟨rfl, hF10, O10⟩
  have hC10 := hC9.only O10 (by omega)
  have hT10 := hT9.only O10 (by omega)
  have BB10 : Below w6.heap.size w6 w10 := BB9.trans (O10.below.mono (by omega))
  clear hC9 hF9 hT9 O10 BB9
  go_wp2_with fail
  refine (zztold_any _ _ _ (st - 1) fi _ ae n3 ce w10 hC10 hF10 hT10 hfi (by omega)).mono ?_
  rintro e w11 ⟨rfl, B11⟩
  have hC11 := hC10.below B11
  have hF11 := hF10.below B11
  have hT11 := hT10.below B11
  have BB11 : Below w6.heap.size w6 w11 := BB10.trans (B11.mono BB10.size)
  clear hC10 hF10 hT10 B11 BB10
  go_wp2_with fail
  refine (streams_any _ _ _ (st - 1) w11 hC11 hF11).mono ?_
  rintro e w12 ⟨rfl, rfl⟩
  go_wp2_with fail
  refine (tail_any _ _ _ (st - 1) w12 hC11 hF11).mono ?_
  rintro e w13 ⟨rfl, rfl⟩
  go_wp2_with fail
  refine (first_any _ fi _ _ w13 hT11).mono ?_
  rintro e w14 ⟨rfl, rfl⟩
  go_wp2_with fail
  refine (buf_any _ fi _ _ w14 hT11).mono ?_
  rintro e w15 ⟨rfl, rfl⟩
  go_wp2_with fail
  refine (eqb_any _ _ n2 z2 hn2 w15 (rb6.below BB11) (rb6'.below BB11)).mono ?_
  rintro e w16 ⟨rfl, B16⟩
  have hT16 := hT11.below B16
  have BB16 : Below w6.heap.size w6 w16 := BB11.trans (B16.mono BB11.size)
  clear hC11 hF11 hT11 B16 BB11
  go_wp2_with fail
  refine (ends_any _ fi _ _ w16 hT16).mono ?_
  rintro e w17 ⟨rfl, rfl⟩
  go_wp2_with fail
  refine (eqi_any _ _ n3 z3 hn3 w17 (re6.below BB16) (re'.below BB16)).mono ?_
  rintro e w18 ⟨rfl, B18⟩
  have hT18 := hT16.below B18
  have BB18 : Below w6.heap.size w6 w18 := BB16.trans (B18.mono BB16.size)
  clear hT16 B18 BB16
  go_wp2_with fail
  refine (end_any _ fi _ _ w18 hT18).mono ?_
  rintro e w19 ⟨rfl, rfl⟩
  go_wp2_with fail
  refine (next_any _ fi _ _ w19 hT18).mono ?_
  rintro e w20 ⟨rfl, rfl⟩
  go_wp2
  go_ret
  exact ⟨rfl, BW.trans (BB18.mono BW.size)⟩
end Go.Proofs.Qxb6625440a
