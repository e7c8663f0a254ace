/-
  THE WALK over unescapeText.
-/
import Derived.Test.Qxb6626927aLoose
import Derived.Lib.AppendStr
import Derived.Lib.Strings
import Derived.Deep.QuietTactic
import Derived.BigQuiet
import Derived.Test.Qxb6626927aRegion
namespace Go.Proofs.Qxb6626927a
open Go.RowKit

/-- The slice value v, nil or one of the call's own, holds the bytes U. -/
structure UOwn (w : World) (base : Nat) (v : Value) (U : List UInt8) : Prop where
  own : w.ownsRow base 5 1 v U.length (bcells U)
  sz : base ≤ w.heap.size

theorem UOwn.nil (w : World) (base : Nat) (h : base ≤ w.heap.size) : UOwn w base (.slice none 0 0) [] := ⟨World.ownsRow_nil w base 5 1, h⟩

theorem UOwn.drew {w : World} {base : Nat} {v : Value} {U : List UInt8} (h : UOwn w base v U) : UOwn w.drew base v U := ⟨h.own, h.sz⟩

theorem str_cells (s : ByteArray) : Lib.strCells s = bcells s.data.toList := rfl

section
variable {ops : Array Oper} {rest : List Oper} {a : Act} {w : World} {Q : Exit → Act → World → Prop} {dst : Option Tmp} {ty : TypeId} {pos : String} {after : Array Edge}

theorem own_ge {w : World} {base n : Nat} {v : Value} {xs : List Value} (h : w.ownsRow base 5 1 v n xs) : ∀ k, v.ownBlock = some k → base ≤ k := fun k hk => (h.lt k hk).1

/-- 'append(v, x...)', x a string: what comes of it. -/
theorem run_app_str {base : Nat} {v : Value} {U : List UInt8} (X : ByteArray) (hO : UOwn w base v U) (hlen : U.length + X.size ≤ 1000000000) (ty : TypeId) :
    ∃ v' w', (Builtin.append_ #[28, 9] ty #[v, .string X]).run Try.prog w = .ok v' w' ∧ UOwn w' base v' (U ++ X.data.toList) ∧ Below base w w' ∧ (v' = .slice none 0 0 ↔ v = .slice none 0 0 ∧ X.size = 0) := by
  obtain ⟨i0, hi, hz0, hz1, hz2⟩ := info_parts info5
  obtain ⟨v', w', hr, ho, hg, hn⟩ := Lib.run_append_own_string (P := Try.prog) w base 28 9 ty 5 i0 Try.underlying28 Try.underlying9 hi hz0 hz1 hz2 v U.length (bcells U) hO.own X (by unfold maxLen; omega) (by omega) hO.sz
  refine ⟨v', w', hr, ⟨?_, Nat.le_trans hO.sz hg.size⟩, (Below.refl _ _).grown hg hO.sz (own_ge hO.own), hn⟩
  rw [bcells_append, List.length_append]
  have : X.data.toList.length = X.size := by simp
  rw [this]
  exact ho

theorem wpList_app_str {base : Nat} {v : Value} {U : List UInt8} (s x : Tmp) (X : ByteArray) (hO : UOwn w base v U) (hs : a.eval (.tmp s) = v) (hx : a.eval (.tmp x) = .string X) (hlen : U.length + X.size ≤ 1000000000)
    (h : ∀ v' w', UOwn w' base v' (U ++ X.data.toList) → Below base w w' → wpList Try.prog ops Q rest (a.put dst v') w') :
    wpList Try.prog ops Q ({ dst, op := .call { callee := .builtin .append, args := #[.tmp s, .tmp x], argTypes := #[28, 9] }, type := ty, pos, after, guard := none } :: rest) a w := by
  refine wpList_plain rfl fun K hK => ?_
  obtain ⟨v', w', hr, h2, h3, _⟩ := run_app_str X hO hlen ty
  unfold Oper.wp execOp
  simp only [resolve, invoke, builtin, Sem.run_bind, Sem.run_pure, Result.andThen_ok, List.map_toArray, List.map_cons, List.map_nil, hs, hx, hr]
  exact hK _ _ (h v' w' h2 h3)

/-- 'append(v, ..)', what is appended lying in the block made last; v may grow. -/
theorem wpList_app_own {base : Nat} {v : Value} {U : List UInt8} (s x : Tmp) (news : List UInt8) (bx mc : Nat) (c : Array Value) (hO : UOwn w base v U) (hs : a.eval (.tmp s) = v)
    (hx : a.eval (.tmp x) = .slice (some ⟨bx, 0, none⟩) news.length mc) (hbx : bx = w.heap.size) (hc : c = (bcells news).toArray) (hlen : U.length + news.length ≤ 1000000000)
    (h : ∀ v' w', UOwn w' base v' (U ++ news) → Below base w w' → (v' = .slice none 0 0 ↔ v = .slice none 0 0 ∧ news.length = 0) → wpList Try.prog ops Q rest (a.put dst v') w') :
    wpList Try.prog ops Q ({ dst, op := .call { callee := .builtin .append, args := #[.tmp s, .tmp x], argTypes := #[28, 28] }, type := ty, pos, after, guard := none } :: rest) a (w.alloc (.cells c 5)) := by
  subst hbx hc
  obtain ⟨i0, hi, hz0, hz1, hz2⟩ := info_parts info5
  refine wpList_append_own _ rfl (.tmp s) (.tmp x) 28 rfl base 5 i0 (.int .u8 0) 1 1 Try.underlying28 hi hz0 hz1 hz2 rfl (by decide) v U.length (bcells U) hs (hO.own.alloc _) ⟨w.heap.size, 0, none⟩ news.length mc (bcells news) hx (by rw [bcells_length]; omega)
    (fun j u hj => ?_) (bcells_one news) (by unfold maxLen; omega) (by omega) (by have := hO.sz; simp; omega) (fun v' w' ho hg hn => ?_)
  · have e : (⟨w.heap.size, 0, none⟩ : Addr).add j = ⟨w.heap.size, j, none⟩ := by unfold Addr.add; split <;> simp_all
    rw [e, World.cell?_alloc_new]
    simpa using hj
  · refine h v' w' ⟨?_, ?_⟩ ?_ hn
    · rw [List.length_append, bcells_append]; exact ho
    · have h1 := hg.size
      have h2 := hO.sz
      simp at h1; omega
    · exact ((Below.refl _ _).alloc hO.sz _).grown hg (by have := hO.sz; simp; omega) (own_ge hO.own)
end

section
variable {a : Act} {w : World} {o : Oper} {Q : Exit → Act → World → Prop} {K : Act → World → Prop}
theorem run_move {x : Operand} {v : Value} (ho : o.op = .move x) (hx : a.eval x = v) : (execOp a.eval o).run Try.prog w = .ok (.value v) w := by
  simp only [execOp, ho, hx, Sem.run_pure]
theorem run_assign {x : Operand} {v : Value} (ho : o.op = .assign x) (hx : a.eval x = v) : (execOp a.eval o).run Try.prog w = .ok (.value v) w := by
  simp only [execOp, ho, hx, Sem.run_pure]
theorem run_cut {x l h : Operand} {s : ByteArray} {i j : Nat} (ho : o.op = .slice 9 x (some l) (some h) none) (hx : a.eval x = .string s) (hl : a.eval l = .int .i64 i) (hh : a.eval h = .int .i64 j) (hij : i ≤ j) (hj : j ≤ s.size) :
    (execOp a.eval o).run Try.prog w = .ok (.value (.string (s.extract i j))) w := by
  simp only [execOp, ho, hx, Option.map_some, hl, hh, Option.map_none]
  simp [go_sem, hij, hj]
theorem run_from {x l : Operand} {s : ByteArray} {i : Nat} (ho : o.op = .slice 9 x (some l) none none) (hx : a.eval x = .string s) (hl : a.eval l = .int .i64 i) (hj : i ≤ s.size) :
    (execOp a.eval o).run Try.prog w = .ok (.value (.string (s.extract i s.size))) w := by
  simp only [execOp, ho, hx, Option.map_some, hl, Option.map_none]
  simp [go_sem, hj]
theorem run_add2 {x : Operand} {k : Nat} (ho : o.op = .binOp .add 3 x (.const (.int .i64 2)) 3) (hx : a.eval x = .int .i64 k) (hk : k ≤ 1000000000) : (execOp a.eval o).run Try.prog w = .ok (.value (.int .i64 ((k + 2 : Nat) : Int))) w := by
  have hm : a.eval (.const (.int .i64 2)) = .int .i64 2 := rfl
  have e : IntKind.i64.wrap ((k : Int) + 2) = ((k + 2 : Nat) : Int) := by rw [IntKind.wrap_i64]; omega
  simp only [execOp, ho, hx, hm]
  rw [← e]
  show _ = _
  kernel_rfl
theorem op_app_str {base : Nat} {v : Value} {U : List UInt8} {s x d : Tmp} (X : ByteArray) (hd : o.dst = some d) (ho : o.op = .call { callee := .builtin .append, args := #[.tmp s, .tmp x], argTypes := #[28, 9] })
    (hO : UOwn w base v U) (hs : a.eval (.tmp s) = v) (hx : a.eval (.tmp x) = .string X) (hlen : U.length + X.size ≤ 1000000000)
    (h : ∀ v' w', UOwn w' base v' (U ++ X.data.toList) → Below base w w' → (v' = .slice none 0 0 ↔ v = .slice none 0 0 ∧ X.size = 0) → K (a.put (some d) v') w') : Oper.wp Try.prog o a w K Q := by
  obtain ⟨v', w', hr, h2, h3, h4⟩ := run_app_str X hO hlen o.type
  unfold Oper.wp execOp
  simp only [ho, resolve, invoke, builtin, Sem.run_bind, Sem.run_pure, Result.andThen_ok, List.map_toArray, List.map_cons, List.map_nil, hs, hx, hr, Oper.upon, hd]
  exact h v' w' h2 h3 h4
theorem op_conv {base : Nat} {v : Value} {T : List UInt8} {x d : Tmp} (hd : o.dst = some d) (ho : o.op = .convert 28 9 (.tmp x)) (hO : UOwn w base v T) (hv : v ≠ .slice none 0 0) (hx : a.eval (.tmp x) = v)
    (h : K (a.put (some d) (.string ⟨T.toArray⟩)) w) : Oper.wp Try.prog o a w K Q := by
  rcases hO.own.2 with ⟨hn, _⟩ | ⟨g, cp, cur, rfl, _⟩
  · exact absurd hn hv
  · unfold Oper.wp execOp
    simp only [ho, hx]
    rw [Sem.run_bind, run_convert_bytes_back w 28 9 5 ⟨g, 0, none⟩ cp T Try.underlying28 Try.underlying5 Try.underlying9 (fun j hj => ?_)]
    · simp only [Result.andThen_ok, Sem.run_pure, Oper.upon, hd]
      exact h
    · have e : (⟨g, 0, none⟩ : Addr).add j = ⟨g, j, none⟩ := by unfold Addr.add; split <;> simp_all
      rw [e, hO.own.cellAt j (by omega)]
      simp [bcells, hj]
end

theorem ext_eq (s : ByteArray) (a b : Nat) : s.extract a b = ⟨((s.data.toList.drop a).take (b - a)).toArray⟩ := by
  have := Lib.extract_data s a b
  apply ByteArray.ext
  apply Array.ext'
  exact this

theorem take_rest (s : ByteArray) (a : Nat) : (s.data.toList.drop a).take (s.size - a) = s.data.toList.drop a := by
  rw [List.take_of_length_le (by simp)]

/-- What unescapeText hands back. -/
def unRes : Option (List UInt8 × List UInt8) → Value
  | none => .tuple #[.string ⟨#[]⟩, .string ⟨#[]⟩, .bool false]
  | some (t, r) => .tuple #[.string ⟨t.toArray⟩, .string ⟨r.toArray⟩, .bool true]

/-- The text read so far: what is unescaped, and what follows it from st on. -/
def soFar (l : List UInt8) (U : List UInt8) (st k : Nat) : List UInt8 := U ++ (l.drop st).take (k - st)

theorem soFar_snoc (l U : List UInt8) (st k : Nat) (c : UInt8) (hst : st ≤ k) (hc : l[k]? = some c) : soFar l U st (k + 1) = soFar l U st k ++ [c] := by
  unfold soFar
  have h : k + 1 - st = (k - st) + 1 := by omega
  rw [h, List.take_add_one, List.append_assoc]
  congr 2
  rw [List.getElem?_drop, show st + (k - st) = k from by omega, hc]
  rfl
theorem soFar_start (l U : List UInt8) (k : Nat) : soFar l U k k = U := by simp [soFar]

theorem at_byte (s : ByteArray) (k : Nat) (h : k < s.size) : s.data.toList[k]? = some s[k] := by
  have : k < s.data.toList.length := by simpa using h
  rw [List.getElem?_eq_getElem this]; rfl

theorem eq_of_beq {c : UInt8} {n : Nat} (hn : n < 256) (h : (((c.toNat : Int)) == (n : Int)) = true) : c = UInt8.ofNat n := by
  have h' : (c.toNat : Int) = (n : Int) := by simpa using h
  have : c.toNat = n := by omega
  exact UInt8.toNat_inj.1 (by simp [this, Nat.mod_eq_of_lt hn])
theorem ne_of_beqn {c : UInt8} {n : Nat} (hn : n < 256) (h : (((c.toNat : Int)) == (n : Int)) = false) : c ≠ UInt8.ofNat n := by
  intro e; subst e
  simp [Nat.mod_eq_of_lt hn] at h

set_option maxHeartbeats 1000000 in
theorem un_any (s : ByteArray) (hs : s.size ≤ 10000000) (w : World) :
    Calls Try.prog 10 #[.string s] w fun e w' => e = .returned (unRes (Plain.un [] s.data.toList)) ∧ Below w.heap.size w w' := by
  have hen : ∀ w, (binOp .eql 28 (.slice none 0 0) (.slice none 0 0)).run Try.prog w = .ok (.bool true) w := fun _ => by kernel_rfl
  have hes : ∀ g n c w, (binOp .eql 28 (.slice (some ⟨g, 0, none⟩) n c) (.slice none 0 0)).run Try.prog w = .ok (.bool false) w := fun _ _ _ _ => by kernel_rfl
  go_enter Try.func10, Try.ntmps10
  go_wp2
  go_loopw [5, 6, 7] (fun v t i wr => ∃ k st : Nat, ∃ U : List UInt8, k ≤ s.size ∧ st ≤ k ∧ U.length ≤ st ∧ i = .int .i64 k ∧ t = .int .i64 st ∧ UOwn wr w.heap.size v U ∧ (v = .slice none 0 0 → U = [] ∧ st = 0) ∧ Below w.heap.size w wr ∧ Hid (Plain.un [] s.data.toList = Plain.un (soFar s.data.toList U st k) (s.data.toList.drop k))) (fun _ _ i _ => s.size - (intOf i).toNat)
  case atStart => exact ⟨0, 0, [], Nat.zero_le _, Nat.le_refl _, Nat.zero_le _, rfl, rfl, UOwn.nil _ _ (Nat.le_refl _), fun _ => ⟨rfl, rfl⟩, Below.refl _ _, rfl⟩
  case round =>
    obtain ⟨k, st, U, hk, hst, hU, rfl, rfl, hO, hnil, hB, HU⟩ := hrel
    by_cases hlt : k < s.size
    · have HD : Hid (s.data.toList.drop k = s[k] :: s.data.toList.drop (k + 1)) := drop_cons s k hlt
      by_cases hz : (((s[k].toNat : Int)) == 0) = true
      · have HZ : Hid (s[k] = 0) := zero_of_beq hz
        by_cases hl2 : k + 1 = s.size
        · have HX : Hid (Plain.un [] s.data.toList = none) := by
            show Plain.un [] s.data.toList = none
            rw [HU.out, HD.out, HZ.out, List.drop_eq_nil_of_le (by simp; omega)]
            rfl
          have hqb : (((k : Int)) + 1 == (s.size : Int)) = true := by rw [beq_iff_eq]; omega
          clear HU HD HZ hl2
          go_wp2
          go_ret3
          refine ⟨?_, hB⟩
          rw [HX.out]
          rfl
        have hl3 : k + 1 < s.size := by omega
        have HD2 : Hid (s.data.toList.drop (k + 1) = s[k + 1] :: s.data.toList.drop (k + 2)) := drop_cons s (k + 1) hl3
        have hqb : (((k : Int)) + 1 == (s.size : Int)) = false := by rw [beq_eq_false_iff_ne]; omega
        by_cases h1 : (((s[k + 1].toNat : Int)) == 1) = true
        · have HX : Hid (Plain.un [] s.data.toList = some (soFar s.data.toList U st k, s.data.toList.drop (k + 2))) := by
            show Plain.un [] s.data.toList = _
            rw [HU.out, HD.out, HZ.out, HD2.out, eq_of_beq (n := 1) (by omega) h1]
            simp [Plain.un]
          clear HU HD HZ HD2
          rcases hO.own.2 with ⟨hv, _⟩ | ⟨g, cp, cur, hv, _⟩
          · obtain ⟨hU0, hst0⟩ := hnil hv
            subst hv hU0 hst0
            go_wp2
            go_quiet (fail)
            go_wp2
            go_ret3
            refine ⟨?_, hB.trans ⟨rfl, rfl, rfl, Nat.le_refl _, fun _ _ => rfl⟩⟩
            rw [HX.out]
            show Ending.returned (.tuple #[.string (s.extract 0 k), .string (s.extract (k + 2) s.size), .bool true]) = _
            rw [ext_eq, ext_eq, take_rest, soFar, List.nil_append, Nat.sub_zero]
            rfl
          · clear hnil
            subst hv
            go_wp2
            have hxs : (s.extract st k).size ≤ k - st := by simp; omega
            refine wp_region_held_drew (S := fun _ => True) (by kernel_rfl) trivial (fun hS => ?_)
            refine wpAnyH_take1 (i := 0) (fuel := 13) (d := some 38) (op := .move (.tmp 5)) (v := (.slice (some ⟨g, 0, none⟩) U.length cp)) (by kernel_rfl) (fun _ _ _ _ _ h => h) (by kernel_rfl) (by kernel_rfl) (by kernel_rfl) (fun o ho _ _ => run_move ho (by kernel_rfl)) trivial ?_
            refine wpAnyH_take1 (i := 1) (d := some 39) (op := .move (.tmp 0)) (v := (.string s)) (by kernel_rfl) (fun _ _ _ _ _ h => h) (by kernel_rfl) (by kernel_rfl) (by kernel_rfl) (fun o ho _ _ => run_move ho (by kernel_rfl)) trivial ?_
            refine wpAnyH_take1 (i := 2) (d := some 40) (op := .move (.tmp 6)) (v := (.int .i64 st)) (by kernel_rfl) (fun _ _ _ _ _ h => h) (by kernel_rfl) (by kernel_rfl) (by kernel_rfl) (fun o ho _ _ => run_move ho (by kernel_rfl)) trivial ?_
            refine wpAnyH_take1 (i := 3) (d := some 41) (op := .move (.tmp 7)) (v := (.int .i64 k)) (by kernel_rfl) (fun _ _ _ _ _ h => h) (by kernel_rfl) (by kernel_rfl) (by kernel_rfl) (fun o ho _ _ => run_move ho (by kernel_rfl)) trivial ?_
            refine wpAnyH_take1 (i := 4) (d := some 42) (op := .slice 9 (.tmp 39) (some (.tmp 40)) (some (.tmp 41)) none) (v := (.string (s.extract st k))) (by kernel_rfl) (fun _ _ _ _ _ h => h) (by kernel_rfl) (by kernel_rfl) (by kernel_rfl) (fun o ho _ _ => run_cut ho (by kernel_rfl) (by kernel_rfl) (by kernel_rfl) hst hk) trivial ?_
            refine wpAnyH_take1 (i := 7) (d := some 45) (op := .move (.tmp 0)) (v := (.string s)) (by kernel_rfl) (fun _ _ _ _ _ h => h) (by kernel_rfl) (by kernel_rfl) (by kernel_rfl) (fun o ho _ _ => run_move ho (by kernel_rfl)) trivial ?_
            refine wpAnyH_take1 (i := 8) (d := some 46) (op := .move (.tmp 7)) (v := (.int .i64 k)) (by kernel_rfl) (fun _ _ _ _ _ h => h) (by kernel_rfl) (by kernel_rfl) (by kernel_rfl) (fun o ho _ _ => run_move ho (by kernel_rfl)) trivial ?_
            refine wpAnyH_take1 (i := 9) (d := some 47) (op := .binOp .add 3 (.tmp 46) (.const (.int .i64 2)) 3) (v := (.int .i64 ((k + 2 : Nat) : Int))) (by kernel_rfl) (fun _ _ _ _ _ h => h) (by kernel_rfl) (by kernel_rfl) (by kernel_rfl) (fun o ho _ _ => run_add2 ho (by kernel_rfl) (by omega)) trivial ?_
            refine wpAnyH_take1 (i := 10) (d := some 48) (op := .slice 9 (.tmp 45) (some (.tmp 47)) none none) (v := (.string (s.extract (k + 2) s.size))) (by kernel_rfl) (fun _ _ _ _ _ h => h) (by kernel_rfl) (by kernel_rfl) (by kernel_rfl) (fun o ho _ _ => run_from ho (by kernel_rfl) (by kernel_rfl) (by omega)) trivial ?_
            refine wpAnyH_one (i := 5) (d := some 43) (op := .call { callee := .builtin .append, args := #[.tmp 38, .tmp 42], argTypes := #[28, 9] }) (by kernel_rfl) (by kernel_rfl) fun o hd ho => op_app_str (s.extract st k) hd ho (UOwn.drew hO) (by kernel_rfl) (by kernel_rfl) (by omega) fun v1 w1 hO1 hB1 hn1 => ?_
            clear hd ho o
            refine ⟨trivial, ?_⟩
            refine wpAnyH_one (i := 6) (d := some 44) (op := .convert 28 9 (.tmp 43)) (by kernel_rfl) (by kernel_rfl) fun o hd ho => op_conv hd ho hO1 (fun h => by have := (hn1.1 h).1; cases this) (by kernel_rfl) ?_
            clear hd ho o
            refine ⟨trivial, ?_⟩
            refine wpAnyH_take1 (i := 11) (d := some 2) (op := .assign (.tmp 44)) (v := (.string ⟨(U ++ (s.extract st k).data.toList).toArray⟩)) (by kernel_rfl) (fun _ _ _ _ _ h => h) (by kernel_rfl) (by kernel_rfl) (by kernel_rfl) (fun o ho _ _ => run_assign ho (by kernel_rfl)) trivial ?_
            refine wpAnyH_take1 (i := 12) (d := some 3) (op := .assign (.tmp 48)) (v := (.string (s.extract (k + 2) s.size))) (by kernel_rfl) (fun _ _ _ _ _ h => h) (by kernel_rfl) (by kernel_rfl) (by kernel_rfl) (fun o ho _ _ => run_assign ho (by kernel_rfl)) trivial ?_
            refine wpAnyH_take1 (i := 13) (d := some 4) (op := .assign (.const (.bool true))) (v := (.bool true)) (by kernel_rfl) (fun _ _ _ _ _ h => h) (by kernel_rfl) (by kernel_rfl) (by kernel_rfl) (fun o ho _ _ => run_assign ho (by kernel_rfl)) trivial ?_
            refine wpAnyH_done (by kernel_rfl) ?_ _
            simp only [Act.put, List.setIfInBounds_toArray, List.set_cons_zero, List.set_cons_succ]
            go_wp2
            go_ret3
            refine ⟨?_, hB.drew.trans hB1⟩
            rw [HX.out]
            show Ending.returned (.tuple #[.string ⟨(U ++ (s.extract st k).data.toList).toArray⟩, .string (s.extract (k + 2) s.size), .bool true]) = _
            rw [Lib.extract_data, ext_eq, take_rest]
            rfl
        have h1' : (((s[k + 1].toNat : Int)) == 1) = false := by simpa using h1
        by_cases h2 : (((s[k + 1].toNat : Int)) == 255) = true
        · have HN : Hid (Plain.un [] s.data.toList = Plain.un (soFar s.data.toList U st k ++ [0]) (s.data.toList.drop (k + 2))) := by
            show Plain.un [] s.data.toList = _
            rw [HU.out, HD.out, HZ.out, HD2.out, eq_of_beq (n := 255) (by omega) h2]
            simp [Plain.un]
          have hxs : (s.extract st k).size ≤ k - st := by simp; omega
          clear HU HD HZ HD2 hnil h1
          go_wp2_with (first
            | ((with_reducible refine wpList_app_str 51 55 (s.extract st k) hO ?_ ?_ ?_ ?_); rfl; rfl; omega; intro v1 w1 hO1 hB1)
            | ((with_reducible refine wpList_app_own 56 57 [0] w1.heap.size 1 _ hO1 ?_ ?_ ?_ ?_ ?_ ?_); rfl; rfl; rfl; rfl; (simp only [List.length_append, List.length_cons, List.length_nil, Array.length_toList, ByteArray.size_data]; omega); intro v2 w2 hO2 hB2 hn2))
          have HO : Hid (U ++ (s.extract st k).data.toList ++ [0] = soFar s.data.toList U st k ++ [0]) := by
            show U ++ (s.extract st k).data.toList ++ [0] = soFar s.data.toList U st k ++ [0]
            rw [Lib.extract_data]; rfl
          have hlen : (soFar s.data.toList U st k).length ≤ k := by
            unfold soFar
            rw [List.length_append]
            have := List.length_take_le (k - st) (s.data.toList.drop st)
            omega
          go_roundw
          case rel =>
            go_light
            refine ⟨k + 2, k + 2, soFar s.data.toList U st k ++ [0], by omega, by omega, by simp; omega, by go_num, by go_num, ?_, fun h => absurd (hn2.1 h).2 (by simp), hB.trans (hB1.trans hB2), ?_⟩
            · have := HO.out; rw [← this]; exact hO2
            · show Plain.un [] s.data.toList = _
              rw [soFar_start]; exact HN.out
          case measure =>
            go_light
            simp only [intOf]; omega
        have h2' : (((s[k + 1].toNat : Int)) == 255) = false := by simpa using h2
        have HX : Hid (Plain.un [] s.data.toList = none) := by
          show Plain.un [] s.data.toList = none
          rw [HU.out, HD.out, HZ.out, HD2.out]
          have e1 : s[k + 1] ≠ 1 := ne_of_beqn (n := 1) (by omega) h1'
          have e2 : s[k + 1] ≠ 255 := ne_of_beqn (n := 255) (by omega) h2'
          simp [Plain.un, e1, e2]
        clear HU HD HZ HD2 h1 h2
        go_wp2
        go_ret3
        refine ⟨?_, hB⟩
        rw [HX.out]
        rfl
      · have hz' : (((s[k].toNat : Int)) == 0) = false := by simpa using hz
        have HN : Hid (Plain.un [] s.data.toList = Plain.un (soFar s.data.toList U st (k + 1)) (s.data.toList.drop (k + 1))) := by
          show Plain.un [] s.data.toList = _
          rw [HU.out, HD.out, Plain.un_ne _ _ _ (ne_of_beq hz'), soFar_snoc _ _ _ _ s[k] hst (at_byte s k hlt)]
        clear hz HU HD
        go_wp2
        go_roundw
        case rel =>
          go_light
          exact ⟨k + 1, st, U, by omega, by omega, by omega, by go_num, rfl, hO, hnil, hB, HN⟩
        case measure =>
          go_light
          simp only [intOf]; omega
    · have HX : Hid (Plain.un [] s.data.toList = none) := by
        show Plain.un [] s.data.toList = none
        rw [HU.out, List.drop_eq_nil_of_le (by simp; omega)]
        rfl
      clear HU
      go_wp2
      go_ret3
      refine ⟨?_, hB⟩
      rw [HX.out]
      rfl
end Go.Proofs.Qxb6626927a
