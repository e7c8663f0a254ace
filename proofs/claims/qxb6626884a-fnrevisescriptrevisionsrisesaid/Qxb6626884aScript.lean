/-
  THE WALK over FnReviseScriptRevisionsRise.
-/
import Derived.Test.Qxb6626884aMain
import Derived.Test.Qxb6626884aByteS
import Derived.Deep.Light
import Derived.Deep.QuietTactic
import Derived.BigQuiet
namespace Go.Proofs.Qxb6626884a
open Go.RowKit

/-- The steps lie at block b from offset off on: the record and the time of each. -/
structure StepsAt (w : World) (b off len : Nat) (F : Nat → PD) (N : Nat → Int) : Prop where
  r : ∀ i, i < len → w.rangeAt b (off + i * 19) (F i).cells.toList
  n : ∀ i, i < len → w.cell? ⟨b, off + i * 19 + 18, none⟩ = some (.int .i64 (N i))
theorem StepsAt.below {w w' : World} {B b off len : Nat} {F : Nat → PD} {N : Nat → Int} (h : StepsAt w b off len F N) (hb : Below B w w') (hB : b < B) : StepsAt w' b off len F N :=
  ⟨fun i hi j v hv => (hb.cell hB).trans (h.r i hi j v hv), fun i hi => (hb.cell hB).trans (h.n i hi)⟩
theorem StepsAt.strs {w : World} {b off len : Nat} {F : Nat → PD} {N : Nat → Int} (h : StepsAt w b off len F N) (i : Nat) (hi : i < len) : StrsAt w b (off + i * 19) (F i) := by
  constructor <;> exact h.r i hi _ _ rfl

section
variable {ops : Array Oper} {rest : List Oper} {a : Act} {w : World} {Q : Exit → Act → World → Prop} {dst : Option Tmp} {ty : TypeId} {pos : String} {after : Array Edge}
theorem wpList_load23_at (t : Tmp) (b o : Nat) (d : PD) (hx : a.eval (.tmp t) = .pointer (some ⟨b, o, none⟩)) (hc : w.rangeAt b o d.cells.toList)
    (h : wpList Try.prog ops Q rest (a.put dst (.agg d.cells)) w) : wpList Try.prog ops Q ({ dst, op := .load 23 (.tmp t), type := ty, pos, after, guard := none } :: rest) a w := by
  refine wpList_load_mid rfl 23 (.tmp t) rfl b o hx d.cells.toList _ hc Try.underlying23 rfl (by kernel_rfl) ?_
  simpa using h
theorem wpList_store23_has {x y : Operand} {z : Array Value} (b : Nat) (d : PD) (hb : Has w b 23 z) (hz : z.size = 18) (hx : a.eval x = .pointer (some ⟨b, 0, none⟩)) (hy : a.eval y = .agg d.cells)
    (h : wpList Try.prog ops Q rest (a.put dst undef) (w.setCells b 0 d.cells.toList)) : wpList Try.prog ops Q ({ dst, op := .store 23 x y, type := ty, pos, after, guard := none } :: rest) a w :=
  wpList_store_has rfl 23 x y rfl b 23 z _ hx hy hb hz (by kernel_rfl) (by kernel_rfl) h
end

section
variable {a : Act} {w : World} {o : Oper}
theorem run_index37 {x y : Operand} {b off len cap k : Nat} (ho : o.op = .indexAddr 37 x y) (hx : a.eval x = .slice (some ⟨b, off, none⟩) len cap) (hy : a.eval y = .int .i64 k) (hk : k < len) :
    (execOp a.eval o).run Try.prog w = .ok (.value (.pointer (some ⟨b, off + k * 19, none⟩))) w := by
  simp only [execOp, ho, hx, hy]
  simp [go_sem, hk]
theorem run_field40 {x : Operand} {b f : Nat} (ho : o.op = .fieldAddr 40 x 1) (hx : a.eval x = .pointer (some ⟨b, f, none⟩)) :
    (execOp a.eval o).run Try.prog w = .ok (.value (.pointer (some ⟨b, f + 18, none⟩))) w := by
  simp only [execOp, ho, hx]
  simp [go_sem]
theorem run_load2 {x : Operand} {b f : Nat} {v : Value} (ho : o.op = .load 2 x) (hx : a.eval x = .pointer (some ⟨b, f, none⟩)) (hc : w.cell? ⟨b, f, none⟩ = some v) :
    (execOp a.eval o).run Try.prog w = .ok (.value v) w := by
  simp only [execOp, ho, hx]
  simp [go_sem, hc]
end

theorem comes3 (cd d : PD) (r nw : Int) (hr1 : -9223372036854775808 ≤ r) (hr2 : r < 9223372036854775807) (hn : -9223372036854775808 ≤ nw ∧ nw ≤ 9223372036854775807) :
    ∃ R : Int, (∀ w, Calls Try.prog 8 #[.agg (cd.pane r), .agg (d.pane d.rev), .agg (timeC nw)] w fun e w' => e = .returned (.agg (d.pane R)) ∧ Below w.heap.size w w') ∧
      ((sameB cd d = true ∧ R = r) ∨ (sameB cd d = false ∧ R = max (r + 1) nw)) := by
  cases hs : sameB d cd with
  | true => exact ⟨r, fun w => revise_same cd d r d.rev nw hs w, .inl ⟨(sameB_comm cd d).trans hs, rfl⟩⟩
  | false => exact ⟨max (r + 1) nw, fun w => revise_diff cd d r d.rev nw hs hn ⟨hr1, hr2⟩ w, .inr ⟨(sameB_comm cd d).trans hs, rfl⟩⟩

theorem bytesSC (p : PD) (F : Nat → PD) (N : Nat → Int) (b off len cap : Nat) (hlen : len ≤ 9223372036854775807) (w : World) (hb : b < w.heap.size) (hF : StepsAt w b off len F N) :
    Calls Try.prog 10 #[.agg p.cells, .slice (some ⟨b, off, none⟩) len cap] w fun e w' => (∃ r, e = .returned (.bool r)) ∧ Below w.heap.size w w' :=
  bytesS_some p F b off len cap hlen w hb hF.strs

set_option maxRecDepth 100000 in
set_option maxHeartbeats 1000000 in
theorem script_some (p : PD) (F : Nat → PD) (N : Nat → Int) (b off len cap : Nat) (hlen : len ≤ 9223372036854775807) (w : World) (hb : b < w.heap.size) (hF : StepsAt w b off len F N)
    (hp : (-9223372036854775808 ≤ p.since ∧ p.since ≤ 9223372036854775807)) (hpr : -9223372036854775808 ≤ p.rev ∧ p.rev ≤ 9223372036854775807)
    (hs : ∀ i, i < len → -9223372036854775808 ≤ (F i).since ∧ (F i).since ≤ 9223372036854775807) (hn : ∀ i, i < len → -9223372036854775808 ≤ N i ∧ N i ≤ 9223372036854775807) :
    Calls Try.prog 4 #[.agg p.cells, .slice (some ⟨b, off, none⟩) len cap] w fun e w' => e = .returned (.bool true) ∧ Below w.heap.size w w' := by
  have h1 := fun (d : PD) (r : Int) => pane19 d r
  have h2 := fun (d : PD) (r r' : Int) => paneSet d r r'
  have h3 := fun (d : PD) => cellsSet d
  have h4 := fun (d : PD) => cells17 d
  have HSs : Hid (∀ i, i < len → -9223372036854775808 ≤ (F i).since ∧ (F i).since ≤ 9223372036854775807) := hs
  have HNs : Hid (∀ i, i < len → -9223372036854775808 ≤ N i ∧ N i ≤ 9223372036854775807) := hn
  clear hs hn
  go_enter Try.func4, Try.ntmps4
  go_wp2_with (first
    | ((with_reducible refine wpList_load23 2 w.heap.size p ?_ ?_ ?_); rfl; exact has_new _ _ _))
  refine (bytesSC p F N b off len cap hlen _ (by simp; omega) (hF.below ((Below.refl _ _).alloc (Nat.le_refl _) _) hb)).mono ?_
  rintro e w1 ⟨⟨r0, rfl⟩, hb1⟩
  have hP1 : Has w1 w.heap.size 23 p.cells := (has_new _ _ _).below hb1
  have hB1 : Below w.heap.size w w1 := ((Below.refl _ _).alloc (Nat.le_refl _) _).trans (hb1.mono (by simp))
  clear hb1
  cases r0
  · go_wp2
    go_ret
    exact ⟨rfl, hB1⟩
  by_cases hl : len ≤ 4096
  case neg =>
    go_wp2
    go_ret
    exact ⟨rfl, hB1⟩
  go_wp2_with (first
    | ((with_reducible refine wpList_load23 2 w.heap.size p ?_ ?_ ?_); rfl; exact hP1))
  refine (bytes1C p _).mono ?_
  rintro e w2 ⟨⟨n0, rfl⟩, hb2⟩
  have hP2 := hP1.below hb2
  have hB2 : Below w.heap.size w w2 := hB1.trans (hb2.mono hB1.size)
  clear hb2 hP1 hB1
  go_wp2_with fail
  go_loopw [5, 6] (fun tot i wr => ∃ k : Nat, ∃ n : Int, k ≤ len ∧ i = .int .i64 k ∧ tot = .int .i64 n ∧ Has wr w.heap.size 23 p.cells ∧ Below w.heap.size w wr) (fun _ i _ => len - (intOf i).toNat)
  case atStart => exact ⟨0, n0, Nat.zero_le _, rfl, rfl, hP2, hB2⟩
  case round =>
    obtain ⟨k, n, hk, rfl, rfl, hPr, hBr⟩ := hrel
    by_cases hlt : k < len
    · have hR := (hF.below hBr hb).r k hlt
      go_wp2_with (first
        | ((with_reducible refine wpList_load23_at 36 b (off + k * 19) (F k) ?_ ?_ ?_); rfl; exact hR))
      refine (bytes1C (F k) _).mono ?_
      rintro e w3 ⟨⟨n1, rfl⟩, hb3⟩
      have hP3 := hPr.below hb3
      have hB3 : Below w.heap.size w w3 := hBr.trans (hb3.mono hBr.size)
      clear hb3 hR hPr hBr
      by_cases hq : 1048576 < wrap64 (n + wrap64 (8 + n1))
      · go_wp2
        go_ret
        exact ⟨rfl, hB3⟩
      · go_wp2
        go_roundw
        case rel =>
          go_light
          exact ⟨k + 1, _, by omega, by go_num, rfl, hP3, hB3⟩
        case measure =>
          go_light
          simp only [intOf]; omega
    · clear hP2 hB2
      have hc17 : wr.cell? ⟨w.heap.size, 17, none⟩ = some (.int .i64 p.rev) := hPr.cell 17
      by_cases hq : 1048576 < n
      · go_wp2
        go_ret
        exact ⟨rfl, hBr⟩
      by_cases hpm : 9223372036854767615 < p.rev
      · go_wp2
        go_ret
        exact ⟨rfl, hBr⟩
      go_wp2
      -- every step's time is far from the greatest
      go_loop [7] (fun i => ∃ k : Nat, k ≤ len ∧ i = .int .i64 k ∧ Hid (∀ j, j < k → N j ≤ 9223372036854767615)) (fun i => len - (intOf i).toNat)
      case atStart => exact ⟨0, Nat.zero_le _, rfl, fun j hj => absurd hj (Nat.not_lt_zero j)⟩
      case round =>
        obtain ⟨k2, hk2, rfl, HM⟩ := hrel
        by_cases hlt2 : k2 < len
        · have hcn := (hF.below hBr hb).n k2 hlt2
          by_cases hnq : 9223372036854767615 < N k2
          · go_wp2
            go_ret
            exact ⟨rfl, hBr⟩
          · go_wp2
            go_round
            case rel =>
              go_light
              refine ⟨k2 + 1, by omega, by go_num, fun j hj => ?_⟩
              rcases Nat.lt_or_ge j k2 with h | h
              · exact HM.out j h
              · obtain rfl : j = k2 := by omega
                omega
            case measure =>
              go_light
              simp only [intOf]; omega
        · have HMA : Hid (∀ j, j < len → N j ≤ 9223372036854767615) := fun j hj => HM.out j (by omega)
          clear HM
          go_wp2_with (first
            | ((with_reducible refine wpList_load23 2 w.heap.size p ?_ ?_ ?_); rfl; exact hPr))
          refine (toPaneC p hp _).mono ?_
          rintro e w4 ⟨rfl, hb4⟩
          have hP4 := hPr.below hb4
          have hB4 : Below w.heap.size w w4 := hBr.trans (hb4.mono hBr.size)
          clear hb4 hPr hBr hc17
          go_wp2_with (first
            | ((with_reducible refine wpList_store33 w4.heap.size p p.rev ?_ ?_ ?_ ?_ ?_); rfl; rfl; rfl; rfl)
            | ((with_reducible refine wpList_load23 2 w.heap.size p ?_ ?_ ?_); rfl; exact hP4.alloc _)
            | ((with_reducible refine wpList_store23 (w4.heap.size + 1) p ?_ ?_ ?_ ?_ ?_); simp; rfl; rfl; rfl))
          have hs4 := hB4.size
          have hC5 := (has_new w4 33 (p.pane p.rev)).alloc (.cells p.cells 23)
          have hV5 : Has ((w4.alloc (.cells (p.pane p.rev) 33)).alloc (.cells p.cells 23)) (w4.heap.size + 1) 23 p.cells := has_at (by simp)
          have hB5 : Below w.heap.size w ((w4.alloc (.cells (p.pane p.rev) 33)).alloc (.cells p.cells 23)) := (hB4.alloc hs4 _).alloc (by simp; omega) _
          obtain ⟨b9, hb9, hge9⟩ : ∃ b9, w4.heap.size + 1 = b9 ∧ w.heap.size ≤ b9 := ⟨_, rfl, by omega⟩
          have hne : w4.heap.size ≠ b9 := by omega
          rw [hb9] at hV5 ⊢
          clear hb9 hP4 hB4
          generalize w4.heap.size = b8 at *
          generalize (w4.alloc (.cells (p.pane p.rev) 33)).alloc (.cells p.cells 23) = w5 at *
          go_loopw [10] (fun i wr => ∃ k : Nat, ∃ cd : PD, ∃ r : Int, k ≤ len ∧ i = .int .i64 k ∧ Has wr b8 33 (cd.pane r) ∧ Has wr b9 23 cd.cells ∧ Below w.heap.size w wr ∧ -9223372036854775808 ≤ r ∧ r ≤ 9223372036854767615 + k) (fun i _ => len - (intOf i).toNat)
          case atStart => exact ⟨0, p, p.rev, Nat.zero_le _, rfl, hC5, hV5, hB5, hpr.1, by omega⟩
          case round =>
            obtain ⟨k3, cd, r, hk3, rfl, hC, hV, hB, hr1, hr2⟩ := hrel
            clear hC5 hV5 hB5
            by_cases hlt3 : k3 < len
            · have hS := hF.below hB hb
              have hRk := hS.r k3 hlt3
              obtain ⟨hsd1, hsd2⟩ := HSs.out k3 hlt3
              obtain ⟨hnw1, hnw2⟩ := HNs.out k3 hlt3
              have hnm := HMA.out k3 hlt3
              -- nd := steps[i].Next; nn := zzb1ToPane(nd)
              go_wp2_with (first
                | ((with_reducible refine wpList_load23_at 72 b (off + k3 * 19) (F k3) ?_ ?_ ?_); rfl; exact hRk)
                | ((with_reducible refine wpList_store23 wr.heap.size (F k3) ?_ ?_ ?_ ?_ ?_); rfl; rfl; rfl; rfl)
                | ((with_reducible refine wpList_load23 11 wr.heap.size (F k3) ?_ ?_ ?_); rfl; exact has_new _ _ _))
              refine (toPaneC (F k3) ⟨hsd1, hsd2⟩ _).mono ?_
              rintro e w6 ⟨rfl, hb6⟩
              have hlt8 := hC.lt
              have hlt9 := hV.lt
              have hszB := hB.size
              have hC6 := (hC.alloc (.cells (F k3).cells 23)).below hb6
              have hV6 := (hV.alloc (.cells (F k3).cells 23)).below hb6
              have hD6 := (has_new wr 23 (F k3).cells).below hb6
              have hB6 : Below w.heap.size w w6 := (hB.alloc hszB _).trans (hb6.mono (by simp; omega))
              clear hb6 hC hV hB hS hRk
              generalize wr.heap.size = b11 at *
              go_wp2_with (first
                | ((with_reducible refine wpList_store33 w6.heap.size (F k3) (F k3).rev ?_ ?_ ?_ ?_ ?_); rfl; rfl; rfl; rfl))
              have hs6 := hB6.size
              have hC7 := hC6.alloc (.cells ((F k3).pane (F k3).rev) 33)
              have hV7 := hV6.alloc (.cells ((F k3).pane (F k3).rev) 33)
              have hD7 := hD6.alloc (.cells ((F k3).pane (F k3).rev) 33)
              have hN7 := has_new w6 33 ((F k3).pane (F k3).rev)
              have hB7 : Below w.heap.size w (w6.alloc (.cells ((F k3).pane (F k3).rev) 33)) := hB6.alloc hs6 _
              clear hC6 hV6 hD6 hB6
              generalize w6.heap.size = b12 at *
              generalize w6.alloc (.cells ((F k3).pane (F k3).rev) 33) = w7 at *
              -- r := state.Revise(cur, nn, zzb1TimeAtMicro(steps[i].NowMicro))
              have hcn7 := (hF.below hB7 hb).n k3 hlt3
              obtain ⟨R, hcR, hcase⟩ := comes3 cd (F k3) r (N k3) hr1 (by omega) ⟨hnw1, hnw2⟩
              have HR : Hid (∀ w, Calls Try.prog 8 #[.agg (cd.pane r), .agg ((F k3).pane (F k3).rev), .agg (timeC (N k3))] w fun e w' => e = .returned (.agg ((F k3).pane R)) ∧ Below w.heap.size w w') := hcR
              have HK : Hid ((sameB cd (F k3) = true ∧ R = r) ∨ (sameB cd (F k3) = false ∧ R = max (r + 1) (N k3))) := hcase
              clear hcR hcase
              simp only [Act.put]
              refine wp_region_held_drew (S := fun w' => Below w7.heap.size w7 w') (by kernel_rfl) (Below.refl _ _).drew (fun hS => ?_)
              refine wpAnyH_take1 (i := 0) (fuel := 10) (d := some 76) (op := .load 33 (.tmp 8)) (v := .agg (cd.pane r)) (by kernel_rfl) (fun _ _ _ _ _ h => h) (by kernel_rfl) (by kernel_rfl) (by kernel_rfl) (fun o ho w' hw' => run_load33 ho (by kernel_rfl) (hC7.below hw')) hS ?_
              refine wpAnyH_take1 (i := 1) (d := some 77) (op := .load 33 (.tmp 12)) (v := .agg ((F k3).pane (F k3).rev)) (by kernel_rfl) (fun _ _ _ _ _ h => h) (by kernel_rfl) (by kernel_rfl) (by kernel_rfl) (fun o ho w' hw' => run_load33 ho (by kernel_rfl) (hN7.below hw')) hS ?_
              refine wpAnyH_take1 (i := 2) (d := some 78) (op := .move (.tmp 1)) (v := .slice (some ⟨b, off, none⟩) len cap) (by kernel_rfl) (fun _ _ _ _ _ h => h) (by kernel_rfl) (by kernel_rfl) (by kernel_rfl) (fun o ho w' hw' => run_move ho (by kernel_rfl)) hS ?_
              refine wpAnyH_take1 (i := 3) (d := some 79) (op := .move (.tmp 10)) (v := .int .i64 k3) (by kernel_rfl) (fun _ _ _ _ _ h => h) (by kernel_rfl) (by kernel_rfl) (by kernel_rfl) (fun o ho w' hw' => run_move ho (by kernel_rfl)) hS ?_
              refine wpAnyH_take1 (i := 4) (d := some 80) (op := .indexAddr 37 (.tmp 78) (.tmp 79)) (v := .pointer (some ⟨b, off + k3 * 19, none⟩)) (by kernel_rfl) (fun _ _ _ _ _ h => h) (by kernel_rfl) (by kernel_rfl) (by kernel_rfl) (fun o ho w' hw' => run_index37 (cap := cap) ho (by kernel_rfl) (by kernel_rfl) hlt3) hS ?_
              refine wpAnyH_take1 (i := 5) (d := some 81) (op := .fieldAddr 40 (.tmp 80) 1) (v := .pointer (some ⟨b, off + k3 * 19 + 18, none⟩)) (by kernel_rfl) (fun _ _ _ _ _ h => h) (by kernel_rfl) (by kernel_rfl) (by kernel_rfl) (fun o ho w' hw' => run_field40 ho (by kernel_rfl)) hS ?_
              refine wpAnyH_take1 (i := 6) (d := some 82) (op := .load 2 (.tmp 81)) (v := .int .i64 (N k3)) (by kernel_rfl) (fun _ _ _ _ _ h => h) (by kernel_rfl) (by kernel_rfl) (by kernel_rfl) (fun o ho w' hw' => run_load2 ho (by kernel_rfl) ((hw'.cell (World.block_lt_of_cell? w7 _ hcn7)).trans hcn7)) hS ?_
              refine rev_tail (i3 := 7) (i4 := 8) (i5 := 9) (i6 := 10) (tm := 82) (tp := 76) (tn := 77) (d39 := 83) (d40 := 84) (d11 := 13) (d := F k3) (r := R)
                ⟨by kernel_rfl, by kernel_rfl, by kernel_rfl, by kernel_rfl, by kernel_rfl, by kernel_rfl, by kernel_rfl, by kernel_rfl, by kernel_rfl, by kernel_rfl, by kernel_rfl, by kernel_rfl, by kernel_rfl, by kernel_rfl, by kernel_rfl, by kernel_rfl, by kernel_rfl⟩
                ⟨hnw1, hnw2⟩ HR.out hS (of_decide_eq_true (by kernel_rfl)) (by kernel_rfl) (by kernel_rfl) (by kernel_rfl) fun b13 w8 hb13 hR8 hS8 => ?_
              simp only [Act.put, List.setIfInBounds_toArray, List.set_cons_zero, List.set_cons_succ]
              have hC8 := hC7.below hS8
              have hV8 := hV7.below hS8
              have hD8 := hD7.below hS8
              have hN8 := hN7.below hS8
              have hB8 : Below w.heap.size w w8 := hB7.trans (hS8.mono hB7.size)
              have hcn8 := (hF.below hB8 hb).n k3 hlt3
              clear hC7 hV7 hD7 hN7 hB7 hS hS8 hcn7
              have HN : Hid ((!(sameB (F k3) (F k3) && R == R)) = false) := by show (!(sameB (F k3) (F k3) && R == R)) = false; simp [sameB_self]
              have hc9 : ∀ c, (w8.alloc (.cells c 33)).cell? ⟨b13, 19, none⟩ = some (.int .i64 R) := fun c => (hR8.alloc _).cell 19
              have hbl := World.block_lt_of_cell? w8 _ hcn8
              rcases HK.out with ⟨hsm, hRr⟩ | ⟨hsm, hRr⟩
              · have HZ : Hid ((sameB cd.z (F k3).z && cd.z.rev == (F k3).z.rev) = true) := (sameZ cd (F k3)).trans hsm
                clear hsm HK
                subst hRr
                have hR10 := ((hR8.alloc (.cells ((F k3).pane R) 33)).alloc (.cells cd.z.cells 23)).alloc (.cells (F k3).z.cells 23)
                have hC10 := ((hC8.alloc (.cells ((F k3).pane R) 33)).alloc (.cells cd.z.cells 23)).alloc (.cells (F k3).z.cells 23)
                have hV10 := ((hV8.alloc (.cells ((F k3).pane R) 33)).alloc (.cells cd.z.cells 23)).alloc (.cells (F k3).z.cells 23)
                have hD10 := ((hD8.alloc (.cells ((F k3).pane R) 33)).alloc (.cells cd.z.cells 23)).alloc (.cells (F k3).z.cells 23)
                have hs8 := hB8.size
                have hB10 : Below w.heap.size w (((w8.alloc (.cells ((F k3).pane R) 33)).alloc (.cells cd.z.cells 23)).alloc (.cells (F k3).z.cells 23)) := ((hB8.alloc hs8 _).alloc (by simp; omega) _).alloc (by simp; omega) _
                have hc13 : (((w8.alloc (.cells ((F k3).pane R) 33)).alloc (.cells cd.z.cells 23)).alloc (.cells (F k3).z.cells 23)).cell? ⟨b13, 19, none⟩ = some (.int .i64 R) := hR10.cell 19
                have hc8 : (((w8.alloc (.cells ((F k3).pane R) 33)).alloc (.cells cd.z.cells 23)).alloc (.cells (F k3).z.cells 23)).cell? ⟨b8, 19, none⟩ = some (.int .i64 R) := hC10.cell 19
                go_wp2_with (first
                  | ((with_reducible refine wpList_load33 12 b12 (F k3) (F k3).rev ?_ ?_ ?_); rfl; exact hN8)
                  | ((with_reducible refine wpList_store33 w8.heap.size (F k3) (F k3).rev ?_ ?_ ?_ ?_ ?_); rfl; rfl; rfl; rfl)
                  | ((with_reducible refine wpList_load33 13 b13 (F k3) R ?_ ?_ ?_); rfl; with_reducible exact hR8.alloc _)
                  | ((with_reducible refine wpList_load33 14 w8.heap.size (F k3) R ?_ ?_ ?_); rfl; exact has_new _ _ _)
                  | ((with_reducible refine wpList_neq33 (F k3) (F k3) R R false ?_ ?_ ?_ ?_); exact HN.out; rfl; rfl)
                  | ((with_reducible refine wpList_load23 9 b9 cd ?_ ?_ ?_); rfl; exact hV8.alloc _)
                  | ((with_reducible refine wpList_store23 (w8.heap.size + 1) cd ?_ ?_ ?_ ?_ ?_); simp; rfl; rfl; rfl)
                  | ((with_reducible refine wpList_load23 11 b11 (F k3) ?_ ?_ ?_); rfl; with_reducible exact (hD8.alloc _).alloc _)
                  | ((with_reducible refine wpList_store23 (w8.heap.size + 1 + 1) (F k3) ?_ ?_ ?_ ?_ ?_); simp; rfl; rfl; rfl)
                  | ((with_reducible refine wpList_load23 15 (w8.heap.size + 1) cd.z ?_ ?_ ?_); rfl; exact (has_at (by simp)).alloc _)
                  | ((with_reducible refine wpList_load23 16 (w8.heap.size + 1 + 1) (F k3).z ?_ ?_ ?_); rfl; exact has_at (by simp))
                  | ((with_reducible refine wpList_eql23 cd.z (F k3).z true ?_ ?_ ?_ ?_); exact HZ.out; rfl; rfl)
                  | ((with_reducible refine wpList_load33 13 b13 (F k3) R ?_ ?_ ?_); rfl; exact hR10)
                  | ((with_reducible refine wpList_store33_has b8 (F k3) R hC10 ?_ ?_ ?_ ?_); rfl; rfl; rfl)
                  | ((with_reducible refine wpList_load23 11 b11 (F k3) ?_ ?_ ?_); rfl; exact Has.others (by omega) _ _ hD10)
                  | ((with_reducible refine wpList_store23_has b9 (F k3) (Has.others hne.symm _ _ hV10) ?_ ?_ ?_ ?_); rfl; rfl; rfl))
                go_roundw
                case rel =>
                  go_light
                  exact ⟨k3 + 1, F k3, R, by omega, by go_num, Has.others hne _ _ (hC10.set ((F k3).pane R) rfl), (Has.others hne.symm _ _ hV10).set (F k3).cells rfl, below_setCells hge9 _ _ (below_setCells hs4 _ _ hB10), by omega, by omega⟩
                case measure =>
                  go_light
                  simp only [intOf]; omega
              · have HZ : Hid ((sameB cd.z (F k3).z && cd.z.rev == (F k3).z.rev) = false) := (sameZ cd (F k3)).trans hsm
                have hb1 : R ≤ 9223372036854767615 + k3 + 1 := by omega
                have hb2 : r < R := by omega
                have hb3 : N k3 ≤ R := by omega
                have hd1 : decide (R ≤ r) = false := by simp; omega
                have hd2 : decide (R < N k3) = false := by simp; omega
                clear hsm HK hRr
                have hR10 := ((hR8.alloc (.cells ((F k3).pane R) 33)).alloc (.cells cd.z.cells 23)).alloc (.cells (F k3).z.cells 23)
                have hC10 := ((hC8.alloc (.cells ((F k3).pane R) 33)).alloc (.cells cd.z.cells 23)).alloc (.cells (F k3).z.cells 23)
                have hV10 := ((hV8.alloc (.cells ((F k3).pane R) 33)).alloc (.cells cd.z.cells 23)).alloc (.cells (F k3).z.cells 23)
                have hD10 := ((hD8.alloc (.cells ((F k3).pane R) 33)).alloc (.cells cd.z.cells 23)).alloc (.cells (F k3).z.cells 23)
                have hs8 := hB8.size
                have hB10 : Below w.heap.size w (((w8.alloc (.cells ((F k3).pane R) 33)).alloc (.cells cd.z.cells 23)).alloc (.cells (F k3).z.cells 23)) := ((hB8.alloc hs8 _).alloc (by simp; omega) _).alloc (by simp; omega) _
                go_wp2_with (first
                  | ((with_reducible refine wpList_load33 12 b12 (F k3) (F k3).rev ?_ ?_ ?_); rfl; exact hN8)
                  | ((with_reducible refine wpList_store33 w8.heap.size (F k3) (F k3).rev ?_ ?_ ?_ ?_ ?_); rfl; rfl; rfl; rfl)
                  | ((with_reducible refine wpList_load33 13 b13 (F k3) R ?_ ?_ ?_); rfl; with_reducible exact hR8.alloc _)
                  | ((with_reducible refine wpList_load33 14 w8.heap.size (F k3) R ?_ ?_ ?_); rfl; exact has_new _ _ _)
                  | ((with_reducible refine wpList_neq33 (F k3) (F k3) R R false ?_ ?_ ?_ ?_); exact HN.out; rfl; rfl)
                  | ((with_reducible refine wpList_load23 9 b9 cd ?_ ?_ ?_); rfl; exact hV8.alloc _)
                  | ((with_reducible refine wpList_store23 (w8.heap.size + 1) cd ?_ ?_ ?_ ?_ ?_); simp; rfl; rfl; rfl)
                  | ((with_reducible refine wpList_load23 11 b11 (F k3) ?_ ?_ ?_); rfl; with_reducible exact (hD8.alloc _).alloc _)
                  | ((with_reducible refine wpList_store23 (w8.heap.size + 1 + 1) (F k3) ?_ ?_ ?_ ?_ ?_); simp; rfl; rfl; rfl)
                  | ((with_reducible refine wpList_load23 15 (w8.heap.size + 1) cd.z ?_ ?_ ?_); rfl; exact (has_at (by simp)).alloc _)
                  | ((with_reducible refine wpList_load23 16 (w8.heap.size + 1 + 1) (F k3).z ?_ ?_ ?_); rfl; exact has_at (by simp))
                  | ((with_reducible refine wpList_eql23 cd.z (F k3).z false ?_ ?_ ?_ ?_); exact HZ.out; rfl; rfl))
                have hc13 : (((w8.alloc (.cells ((F k3).pane R) 33)).alloc (.cells cd.z.cells 23)).alloc (.cells (F k3).z.cells 23)).cell? ⟨b13, 19, none⟩ = some (.int .i64 R) := hR10.cell 19
                have hc8 : (((w8.alloc (.cells ((F k3).pane R) 33)).alloc (.cells cd.z.cells 23)).alloc (.cells (F k3).z.cells 23)).cell? ⟨b8, 19, none⟩ = some (.int .i64 r) := hC10.cell 19
                have hcn10 := (hF.below hB10 hb).n k3 hlt3
                clear hc9 hcn8 hbl hR8 hC8 hV8 hD8 hN8 hB8 hs8
                generalize ((w8.alloc (.cells ((F k3).pane R) 33)).alloc (.cells cd.z.cells 23)).alloc (.cells (F k3).z.cells 23) = w9 at *
                go_quiet (fail)
                have hR11 : Has (w9.drewN nq) b13 33 ((F k3).pane R) := hR10
                have hC11 : Has (w9.drewN nq) b8 33 (cd.pane r) := hC10
                have hV11 : Has (w9.drewN nq) b9 23 cd.cells := hV10
                have hD11 : Has (w9.drewN nq) b11 23 (F k3).cells := hD10
                have hB11 : Below w.heap.size w (w9.drewN nq) := hB10.trans ⟨rfl, rfl, rfl, Nat.le_refl _, fun _ _ => rfl⟩
                clear hR10 hC10 hV10 hD10 hB10 hc13 hc8 hcn10
                generalize w9.drewN nq = w10 at *
                go_wp2_with (first
                  | ((with_reducible refine wpList_load33 13 b13 (F k3) R ?_ ?_ ?_); rfl; exact hR11)
                  | ((with_reducible refine wpList_store33_has b8 (F k3) R hC11 ?_ ?_ ?_ ?_); rfl; rfl; rfl)
                  | ((with_reducible refine wpList_load23 11 b11 (F k3) ?_ ?_ ?_); rfl; exact Has.others (by omega) _ _ hD11)
                  | ((with_reducible refine wpList_store23_has b9 (F k3) (Has.others hne.symm _ _ hV11) ?_ ?_ ?_ ?_); rfl; rfl; rfl))
                go_roundw
                case rel =>
                  go_light
                  exact ⟨k3 + 1, F k3, R, by omega, by go_num, Has.others hne _ _ (hC11.set ((F k3).pane R) rfl), (Has.others hne.symm _ _ hV11).set (F k3).cells rfl, below_setCells hge9 _ _ (below_setCells hs4 _ _ hB11), by omega, by omega⟩
                case measure =>
                  go_light
                  simp only [intOf]; omega
            · go_wp2
              go_ret
              exact ⟨rfl, hB⟩
end Go.Proofs.Qxb6626884a
