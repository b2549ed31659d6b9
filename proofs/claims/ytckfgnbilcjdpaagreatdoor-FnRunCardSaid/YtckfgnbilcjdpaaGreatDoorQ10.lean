/- The tests of lengths ahead of the statement. -/
import Derived.Test.YtckfgnbilcjdpaaGreatDoorQ09
namespace Go.Proofs.YtckfgnbilcjdpaaGreatDoor
open Go.RowKit
set_option maxRecDepth 100000

/-- A bool comes back; if it is true, P holds. -/
def BoolIf (P : Prop) (w : World) (e : Ending) (w' : World) : Prop := ∃ b, e = .returned (.bool b) ∧ RowKit.Below w.heap.size w w' ∧ (b = true → P)
structure FitC (c : Ck) : Prop where
  name : c.name.length ≤ 2147483647
  value : c.value.length ≤ 2147483647
  dom : c.domain.length ≤ 2147483647
  path : c.path.length ≤ 2147483647
structure FitSt (st : St) : Prop where
  sch : st.sch.length ≤ 2147483647
  host : st.host.length ≤ 2147483647
  path : st.path.length ≤ 2147483647
  clen : st.cks.length ≤ 2147483647
  cks : ∀ c ∈ st.cks, FitC c

set_option maxHeartbeats 1000000 in
theorem fits6_any (c : Ck) (w : World) : Calls Tryz.prog 60 #[.agg (encI c).toArray] w (BoolIf (FitC c) w) := by
  have HB : Hid (RowKit.Below w.heap.size w (w.alloc (.cells (encI c).toArray 47))) := (Below.refl _ _).alloc (Nat.le_refl _) _
  simp only [encI] at HB ⊢
  go_enter Tryz.func60, Tryz.ntmps60
  go_wp2
  all_goals
    go_ret
    first
    | exact ⟨false, rfl, HB.out, fun h => by cases h⟩
    | exact ⟨true, rfl, HB.out, fun _ => ⟨by omega, by omega, by omega, by omega⟩⟩

set_option maxHeartbeats 1000000 in
theorem fits4_any (sch host path : List UInt8) (w : World) : Calls Tryz.prog 45 #[.agg #[.string (bs sch), .string (bs host), .string (bs path)]] w (BoolIf (sch.length ≤ 2147483647 ∧ host.length ≤ 2147483647 ∧ path.length ≤ 2147483647) w) := by
  have HB : Hid (RowKit.Below w.heap.size w (w.alloc (.cells #[.string (bs sch), .string (bs host), .string (bs path)] 37))) := (Below.refl _ _).alloc (Nat.le_refl _) _
  go_enter Tryz.func45, Tryz.ntmps45
  go_wp2
  all_goals
    go_ret
    first
    | exact ⟨false, rfl, HB.out, fun h => by cases h⟩
    | exact ⟨true, rfl, HB.out, fun _ => ⟨by omega, by omega, by omega⟩⟩

theorem addr_row {w : World} {b : Nat} {st : St} {sl : Value} (h : BlkAt w b (encS st sl)) : RowAt w b 2 [.string (bs st.sch), .string (bs st.host), .string (bs st.path)] := by
  intro j u hj
  have : (encS st sl)[2 + j]? = some u := by
    match j, hj with
    | 0, hj => exact hj
    | 1, hj => exact hj
    | 2, hj => exact hj
  exact (h (2 + j) u this).1

set_option maxHeartbeats 2000000 in
theorem fits5_any (v : Value) (cs : List Ck) (w : World) (hc : CkSl w v cs) : Calls Tryz.prog 46 #[v] w (BoolIf (cs.length ≤ 2147483647 ∧ ∀ c ∈ cs, FitC c) w) := by
  obtain ⟨A, cap, rfl, hrows⟩ := hc
  have HR := Lib.hid hrows; clear hrows
  by_cases hbig : cs.length ≤ 2147483647
  · go_enter Tryz.func46, Tryz.ntmps46
    go_wp2
    go_loopw [10] (fun i wx => ∃ j : Nat, j ≤ cs.length ∧ i = .int .i64 j ∧ Hid (RowKit.Below w.heap.size w wx) ∧ Hid (∀ c ∈ cs.take j, FitC c)) (fun i _ => cs.length - (intOf i).toNat)
    case atStart => exact ⟨0, Nat.zero_le _, rfl, Below.refl _ _, fun c hc => by cases hc⟩
    case round =>
      obtain ⟨j, hj, rfl, hB, hF⟩ := hrel
      by_cases hlt : j < cs.length
      · rcases HR.out with h0 | ⟨b, o, rfl, hrow⟩
        · rw [h0] at hlt; exact absurd hlt (Nat.not_lt_zero _)
        obtain ⟨c, hc⟩ : ∃ c, c = cs[j] := ⟨_, rfl⟩
        have hr := (hrow j hlt).below hB.out
        rw [← hc] at hr
        have HL := Lib.hid (loadAt_agg Tryz.isAgg47 Tryz.sizeOf47 hr rfl)
        have hF1 : Hid (FitC c → ∀ x ∈ cs.take (j + 1), FitC x) := by
          intro h x hx
          rw [List.take_succ_eq_append_getElem hlt, ← hc] at hx
          rcases List.mem_append.1 hx with hx | hx
          · exact hF.out x hx
          · rw [List.mem_singleton] at hx; rw [hx]; exact h
        clear hr hc hrow
        go_upto_region 6 with (first | ((with_reducible refine wpL_load HL.out ?_ ?_); rfl) | ((with_reducible refine wpL_store (storeNewI _ c) ?_ ?_ ?_); rfl; rfl))
        rw [put_none]
        have hC3 : Hid (BlkAt (wr.alloc (.cells (encI c).toArray 47)) wr.heap.size (encI c)) := BlkAt.made wr _ 47
        have hB3 := Lib.hid (hB.out.alloc hB.out.size (.cells (encI c).toArray 47))
        clear HL hB
        generalize wr.alloc (.cells (encI c).toArray 47) = w3 at hC3 hB3 ⊢
        generalize wr.heap.size = cb at hC3 ⊢
        have HLC := Lib.hid (loadAt_agg Tryz.isAgg47 Tryz.sizeOf47 hC3.out.row rfl)
        go_wp2_with (first | ((with_reducible refine wpL_load HLC.out ?_ ?_); rfl))
        refine (fits6_any c _).mono ?_
        rintro e w4 ⟨bb, rfl, hb4, hf4⟩
        have hB4 := Lib.hid (hB3.out.trans (hb4.mono hB3.out.size))
        have HF4 := Lib.hid hf4
        clear hb4 hf4 hB3 HLC hC3
        cases bb with
        | false =>
          go_wp2
          go_ret
          exact ⟨false, rfl, hB4.out, fun h => by cases h⟩
        | true =>
          have hF2 := Lib.hid (hF1.out (HF4.out rfl))
          go_wp2
          exact ⟨⟨j + 1, by omega, by go_num, hB4, hF2⟩, by simp [intOf]; omega⟩
      · obtain rfl : j = cs.length := by omega
        go_wp2
        go_ret
        exact ⟨true, rfl, hB.out, fun _ => ⟨hbig, by have := hF.out; rw [List.take_length] at this; exact this⟩⟩
  · go_enter Tryz.func46, Tryz.ntmps46
    go_wp2
    go_ret
    exact ⟨false, rfl, Below.refl _ _, fun h => by cases h⟩

set_option maxHeartbeats 2000000 in
theorem fits3_any (st : St) (v : Value) (w : World) (hc : CkSl w v st.cks) : Calls Tryz.prog 11 #[.agg (encS st v).toArray] w (BoolIf (FitSt st) w) := by
  obtain ⟨A, cap, rfl, hrows⟩ := hc
  have hS : BlkAt (w.alloc (.cells (encS st (.slice A st.cks.length cap)).toArray 40)) w.heap.size (encS st (.slice A st.cks.length cap)) := BlkAt.made w _ 40
  have hB0 : RowKit.Below w.heap.size w (w.alloc (.cells (encS st (.slice A st.cks.length cap)).toArray 40)) := (Below.refl _ _).alloc (Nat.le_refl _) _
  have HS := Lib.hid hS
  have HB := Lib.hid hB0
  have HC : Hid (CkSl w (.slice A st.cks.length cap) st.cks) := ⟨A, cap, rfl, hrows⟩
  have HLA := Lib.hid (loadAt_agg Tryz.isAgg37 Tryz.sizeOf37 (addr_row hS) rfl)
  clear hS hB0 hrows
  simp only [encS] at HS HB HLA ⊢
  go_enter Tryz.func11, Tryz.ntmps11
  go_wp2_with (first | ((with_reducible refine wpL_load HLA.out ?_ ?_); rfl))
  refine (fits4_any st.sch st.host st.path _).mono ?_
  rintro e w1 ⟨b1, rfl, hb1, hf1⟩
  have HS1 := Lib.hid (HS.out.below hb1)
  have HB1 := Lib.hid (HB.out.trans (hb1.mono HB.out.size))
  have HF1 := Lib.hid hf1
  clear hb1 hf1 HS HB HLA
  cases b1 with
  | false =>
    go_wp2
    go_ret
    exact ⟨false, rfl, HB1.out, fun h => by cases h⟩
  | true =>
    have x5 := HS1.out.cell 5 rfl
    have hc1 : CkSl w1 (.slice A st.cks.length cap) st.cks := by
      obtain ⟨A', cap', e, hr⟩ := HC.out
      cases e
      refine ⟨A, cap, rfl, ?_⟩
      rcases hr with h | ⟨b, o, h1, h2⟩
      · exact Or.inl h
      · exact Or.inr ⟨b, o, h1, fun j hj => (h2 j hj).below HB1.out⟩
    have HC1 := Lib.hid hc1; clear hc1
    go_wp2_with fail
    refine (fits5_any _ st.cks _ HC1.out).mono ?_
    rintro e w2 ⟨b2, rfl, hb2, hf2⟩
    have HB2 := Lib.hid (HB1.out.trans (hb2.mono HB1.out.size))
    have HF2 := Lib.hid hf2
    clear hb2 hf2 x5
    cases b2 with
    | false =>
      go_wp2
      go_ret
      exact ⟨false, rfl, HB2.out, fun h => by cases h⟩
    | true =>
      go_wp2
      go_ret
      obtain ⟨a1, a2, a3⟩ := HF1.out trivial
      obtain ⟨a4, a5⟩ := HF2.out trivial
      exact ⟨true, rfl, HB2.out, fun _ => ⟨a1, a2, a3, a4, a5⟩⟩

theorem CkSl.below {w w' : World} {v : Value} {cs : List Ck} (h : CkSl w v cs) (hb : RowKit.Below w.heap.size w w') : CkSl w' v cs := by
  obtain ⟨A, cap, e, hr⟩ := h
  refine ⟨A, cap, e, ?_⟩
  rcases hr with h | ⟨b, o, h1, h2⟩
  · exact Or.inl h
  · exact Or.inr ⟨b, o, h1, fun j hj => (h2 j hj).below hb⟩
theorem StSl.below {w w' : World} {v : Value} {l : List (St × Value)} (h : StSl w v l) (hb : RowKit.Below w.heap.size w w') : StSl w' v l := by
  obtain ⟨A, cap, e, hr, hc⟩ := h
  refine ⟨A, cap, e, ?_, fun p hp => (hc p hp).below hb⟩
  rcases hr with h | ⟨b, o, h1, h2⟩
  · exact Or.inl h
  · exact Or.inr ⟨b, o, h1, fun j hj => (h2 j hj).below hb⟩

set_option maxHeartbeats 2000000 in
theorem fits2_any (v : Value) (l : List (St × Value)) (w : World) (hst : StSl w v l) : Calls Tryz.prog 5 #[v] w (BoolIf (l.length ≤ 2147483647 ∧ ∀ p ∈ l, FitSt p.1) w) := by
  have HST := Lib.hid hst
  obtain ⟨A, cap, rfl, hrows, hcks⟩ := hst
  have HR := Lib.hid hrows; clear hrows
  have HCK := Lib.hid hcks; clear hcks
  by_cases hbig : l.length ≤ 2147483647
  · go_enter Tryz.func5, Tryz.ntmps5
    go_wp2
    go_loopw [10] (fun i wx => ∃ j : Nat, j ≤ l.length ∧ i = .int .i64 j ∧ Hid (RowKit.Below w.heap.size w wx) ∧ Hid (∀ p ∈ l.take j, FitSt p.1)) (fun i _ => l.length - (intOf i).toNat)
    case atStart => exact ⟨0, Nat.zero_le _, rfl, Below.refl _ _, fun c hc => by cases hc⟩
    case round =>
      obtain ⟨j, hj, rfl, hB, hF⟩ := hrel
      by_cases hlt : j < l.length
      · rcases HR.out with h0 | ⟨b, o, rfl, hrow⟩
        · rw [h0] at hlt; exact absurd hlt (Nat.not_lt_zero _)
        obtain ⟨st, hst⟩ : ∃ st, st = l[j].1 := ⟨_, rfl⟩
        obtain ⟨A3, cap3, hsl, hck⟩ := (HCK.out l[j] (List.getElem_mem hlt)).below hB.out
        have hr := (hrow j hlt).below hB.out
        rw [← hst, hsl, ← hst] at hr
        have hcs : Hid (CkSl wr (.slice A3 st.cks.length cap3) st.cks) := by
          rw [← hst] at hck
          exact ⟨A3, cap3, rfl, hck⟩
        have HL := Lib.hid (loadAt_agg Tryz.isAgg40 Tryz.sizeOf40 hr rfl)
        have hF1 : Hid (FitSt st → ∀ p ∈ l.take (j + 1), FitSt p.1) := by
          intro h x hx
          rw [List.take_succ_eq_append_getElem hlt] at hx
          rcases List.mem_append.1 hx with hx | hx
          · exact hF.out x hx
          · rw [List.mem_singleton] at hx; rw [hx, ← hst]; exact h
        clear hr hst hrow hsl hck
        go_upto_region 6 with (first | ((with_reducible refine wpL_load HL.out ?_ ?_); rfl) | ((with_reducible refine wpL_store (storeNewS _ st A3 st.cks.length cap3) ?_ ?_ ?_); rfl; rfl))
        rw [put_none]
        have hC3 : Hid (BlkAt (wr.alloc (.cells (encS st (.slice A3 st.cks.length cap3)).toArray 40)) wr.heap.size (encS st (.slice A3 st.cks.length cap3))) := BlkAt.made wr _ 40
        have hB3 := Lib.hid (hB.out.alloc hB.out.size (.cells (encS st (.slice A3 st.cks.length cap3)).toArray 40))
        have hcs3 := Lib.hid (hcs.out.below ((Below.refl _ wr).alloc (Nat.le_refl _) (.cells (encS st (.slice A3 st.cks.length cap3)).toArray 40)))
        clear HL hB hcs
        generalize wr.alloc (.cells (encS st (.slice A3 st.cks.length cap3)).toArray 40) = w3 at hC3 hB3 hcs3 ⊢
        generalize wr.heap.size = cb at hC3 ⊢
        have HLC := Lib.hid (loadAt_agg Tryz.isAgg40 Tryz.sizeOf40 hC3.out.row rfl)
        go_wp2_with (first | ((with_reducible refine wpL_load HLC.out ?_ ?_); rfl))
        refine (fits3_any st _ _ hcs3.out).mono ?_
        rintro e w4 ⟨bb, rfl, hb4, hf4⟩
        have hB4 := Lib.hid (hB3.out.trans (hb4.mono hB3.out.size))
        have HF4 := Lib.hid hf4
        clear hb4 hf4 hB3 HLC hC3 hcs3
        cases bb with
        | false =>
          go_wp2
          go_ret
          exact ⟨false, rfl, hB4.out, fun h => by cases h⟩
        | true =>
          have hF2 := Lib.hid (hF1.out (HF4.out rfl))
          go_wp2
          exact ⟨⟨j + 1, by omega, by go_num, hB4, hF2⟩, by simp [intOf]; omega⟩
      · obtain rfl : j = l.length := by omega
        go_wp2
        go_ret
        exact ⟨true, rfl, hB.out, fun _ => ⟨hbig, by have := hF.out; rw [List.take_length] at this; exact this⟩⟩
  · go_enter Tryz.func5, Tryz.ntmps5
    go_wp2
    go_ret
    exact ⟨false, rfl, Below.refl _ _, fun h => by cases h⟩

set_option maxHeartbeats 2000000 in
theorem fits1_any (A : Option Addr) (cap : Nat) (ss : List (List UInt8)) (w : World) (hA : CellsAt w A (strCells ss)) : Calls Tryz.prog 4 #[.slice A ss.length cap] w (BoolIf (ss.length ≤ 2147483647 ∧ ∀ s ∈ ss, s.length ≤ 2147483647) w) := by
  have HA := Lib.hid hA; clear hA
  by_cases hbig : ss.length ≤ 2147483647
  · go_enter Tryz.func4, Tryz.ntmps4
    go_wp2
    go_loop [10] (fun i => ∃ j : Nat, j ≤ ss.length ∧ i = .int .i64 j ∧ Hid (∀ s ∈ ss.take j, s.length ≤ 2147483647)) (fun i => ss.length - (intOf i).toNat)
    case atStart => exact ⟨0, Nat.zero_le _, rfl, fun c hc => by cases hc⟩
    case round =>
      obtain ⟨j, hj, rfl, hF⟩ := hrel
      by_cases hlt : j < ss.length
      · obtain ⟨b, off, rfl, hc⟩ := strCells_get HA.out hlt
        obtain ⟨s, hsk⟩ : ∃ s, s = ss[j] := ⟨_, rfl⟩
        have hF1 : Hid (s.length ≤ 2147483647 → ∀ s ∈ ss.take (j + 1), s.length ≤ 2147483647) := by
          intro h x hx
          rw [List.take_succ_eq_append_getElem hlt, ← hsk] at hx
          rcases List.mem_append.1 hx with hx | hx
          · exact hF.out x hx
          · rw [List.mem_singleton] at hx; rw [hx]; exact h
        rw [← hsk] at hc
        clear hsk hF
        by_cases hsl : s.length ≤ 2147483647
        · have hF2 := Lib.hid (hF1.out hsl)
          go_wp2
          go_round
          case rel => exact ⟨j + 1, by omega, by go_num, hF2⟩
          case measure => simp [intOf]; omega
        · go_wp2
          go_ret
          exact ⟨false, rfl, Below.refl _ _, fun h => by cases h⟩
      · obtain rfl : j = ss.length := by omega
        have HF : Hid (∀ s ∈ ss, s.length ≤ 2147483647) := by have := hF.out; rw [List.take_length] at this; exact this
        go_wp2
        go_ret
        first
        | exact ⟨true, rfl, Below.refl _ _, fun _ => ⟨hbig, HF.out⟩⟩
        | exact ⟨true, rfl, Below.refl _ _, fun _ => HF.out⟩
  · go_enter Tryz.func4, Tryz.ntmps4
    go_wp2
    go_ret
    exact ⟨false, rfl, Below.refl _ _, fun h => by cases h⟩
end Go.Proofs.YtckfgnbilcjdpaaGreatDoor
