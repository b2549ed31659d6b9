/- The contract of the statement's function. -/
import Derived.Test.YtckfgnbilcjdpaaGreatDoorQ30
import Derived.Test.YtckfgnbilcjdpaaGreatDoorQ31
import Derived.Test.YtckfgnbilcjdpaaGreatDoorQ32
import Derived.Test.YtckfgnbilcjdpaaGreatDoorQ25
namespace Go.Proofs.YtckfgnbilcjdpaaGreatDoor
open Go.RowKit Go.Sort
set_option maxRecDepth 100000

/-- A row of slices. -/
theorem RowOf.svAt {w : World} {base n cap : Nat} {T : TypeId} {A : Option Addr} {L : List SlV} (h : RowOf w base T encSV 1 (.slice A n cap) L) : ∀ j (hj : j < L.length), ∃ b, A = some ⟨b, 0, none⟩ ∧ w.cell? ⟨b, j, none⟩ = some L[j].val := by
  intro j hj
  rcases h.form with ⟨_, h2⟩ | ⟨b, cap', h1, h2, h3⟩
  · rw [h2] at hj; exact absurd hj (Nat.not_lt_zero _)
  · cases h1
    refine ⟨b, rfl, ?_⟩
    have := h.rowAt (enc := encSV) (k := 1) (fun _ => rfl) j hj 0 _ rfl
    rw [Nat.mul_one, Nat.add_zero] at this
    exact this

/-- What is to be matched, step by step. -/
structure MatchAt (w : World) (v9 v7 : Value) (n : Nat) : Prop where
  got : ∃ A cap, v9 = .slice A n cap
  want : ∃ A cap, v7 = .slice A n cap
  each : ∀ j, j < n → ∃ (b c : Nat) (g : SlV) (s : SlV), (∃ A cap, v9 = .slice A n cap ∧ A = some ⟨b, 0, none⟩) ∧ (∃ A cap, v7 = .slice A n cap ∧ A = some ⟨c, 0, none⟩) ∧ w.cell? ⟨b, j, none⟩ = some g.val ∧ w.cell? ⟨c, j, none⟩ = some s.val ∧
    ∀ w', RowKit.Below w.heap.size w w' → Calls Tryz.prog 10 #[g.val, s.val] w' fun e w'' => e = .returned (.bool true) ∧ RowKit.Below w'.heap.size w' w''

theorem match_of {w : World} {b0 b1 : Nat} {v9 v7 : Value} {vs ws : List SlV} {outs exps : List (List Ent)} {wouts wants : List (List Sn)}
    (h1 : RowOf w b0 33 encSV 1 v9 vs) (h2 : vs.length = outs.length) (h3 : ∀ i (h1 : i < vs.length) (h2 : i < outs.length), RowOf w b0 68 encPr 2 vs[i].val outs[i]) (h4 : OutsOk outs exps)
    (k1 : RowOf w b1 35 encSV 1 v7 ws) (k2 : ws.length = wouts.length) (k3 : ∀ i (h1 : i < ws.length) (h2 : i < wouts.length), RowOf w b1 94 encN 4 ws[i].val wouts[i])
    (k4 : wouts.length = wants.length) (k5 : ∀ i (h1 : i < wouts.length) (h2 : i < wants.length), wouts[i].Perm wants[i] ∧ SortR wouts[i] 0 wouts[i].length)
    (p1 : wants.length = exps.length) (p2 : ∀ i (h1 : i < exps.length) (h2 : i < wants.length), PairOk exps[i] wants[i]) (p3 : ∀ W ∈ wants, W.length ≤ 4096) : MatchAt w v9 v7 outs.length := by
  have e1 := h4.1
  refine ⟨?_, ?_, ?_⟩
  · rcases h1.form with ⟨e, h⟩ | ⟨g, cap, e, _, _⟩
    · rw [h] at h2; rw [← h2]; exact ⟨none, 0, e⟩
    · exact ⟨_, cap, by rw [e, h2]⟩
  · rcases k1.form with ⟨e, h⟩ | ⟨g, cap, e, _, _⟩
    · rw [h] at k2; exact ⟨none, 0, by rw [e]; congr 1; simp at k2; omega⟩
    · exact ⟨_, cap, by rw [e]; congr 1; omega⟩
  · intro j hj
    have hjv : j < vs.length := by omega
    have hjw : j < ws.length := by omega
    have hjo : j < wouts.length := by omega
    have hjx : j < exps.length := by omega
    have hjn : j < wants.length := by omega
    have q1 : ∃ b cap, v9 = .slice (some ⟨b, 0, none⟩) outs.length cap ∧ w.cell? ⟨b, j, none⟩ = some vs[j].val := by
      rcases h1.form with ⟨_, h⟩ | ⟨g, cap, e, _, _⟩
      · rw [h] at hjv; exact absurd hjv (Nat.not_lt_zero _)
      · rw [e] at h1
        obtain ⟨b, e2, hc⟩ := h1.svAt j hjv
        cases e2
        exact ⟨_, cap, by rw [e, h2], hc⟩
    have q2 : ∃ b cap, v7 = .slice (some ⟨b, 0, none⟩) outs.length cap ∧ w.cell? ⟨b, j, none⟩ = some ws[j].val := by
      rcases k1.form with ⟨_, h⟩ | ⟨g, cap, e, _, _⟩
      · rw [h] at hjw; exact absurd hjw (Nat.not_lt_zero _)
      · rw [e] at k1
        obtain ⟨b, e2, hc⟩ := k1.svAt j hjw
        cases e2
        exact ⟨_, cap, by rw [e]; congr 1; omega, hc⟩
    obtain ⟨b, cap, rfl, hb⟩ := q1
    obtain ⟨c, cap', rfl, hc⟩ := q2
    refine ⟨b, c, vs[j], ws[j], ⟨_, cap, rfl, rfl⟩, ⟨_, cap', rfl, rfl⟩, hb, hc, ?_⟩
    intro w' hb'
    obtain ⟨g1, g2⟩ := h4.2 j hj hjx
    obtain ⟨g3, p, g4⟩ := p2 j hjx hjn
    obtain ⟨g5, g6⟩ := k5 j hjo hjn
    have hlen : outs[j].length ≤ 1000000 := by
      have l1 := g1.length_eq
      have l2 := g3.length_eq
      rw [List.length_map] at l2
      have l3 := p3 _ (List.getElem_mem hjn)
      omega
    exact matches_any b0 b1 _ _ outs[j] wouts[j] w' ((h3 j hjv hj).below hb') ((k3 j hjw hjo).below hb') hlen ((g1.map snE).trans (g3.trans g5.symm)) (sel_sorted (p := p) (fun e he => g4 e (g1.mem_iff.1 he)) g2) (sortR_pairwise g6)

set_option maxHeartbeats 8000000 in
theorem fnRun_any (listed : Bool) (ss : List (List UInt8)) (A : Option Addr) (cap : Nat) (v2 : Value) (l : List (St × Value)) (w : World) (t0 : TypeId) (v0 : Value)
    (hg : w.cell? ⟨0, 0, none⟩ = some (.iface t0 v0)) (hss : CellsAt w A (strCells ss)) (hst : StSl w v2 l) (hage : ∀ p ∈ l, ∀ c ∈ p.1.cks, -9223372036854775808 ≤ c.age) :
    Calls Tryz.prog 3 #[.bool listed, .slice A ss.length cap, v2] w fun e w' => e = .returned (.bool true) ∧ RowKit.Below w.heap.size w w' := by
  have HG := Lib.hid hg; clear hg
  have HSS := Lib.hid hss; clear hss
  have HST := Lib.hid hst; clear hst
  have HAGE := Lib.hid hage; clear hage
  go_enter Tryz.func3, Tryz.ntmps3
  go_wp2_with fail
  refine (fits1_any A cap ss _ HSS.out).mono ?_
  rintro e w1 ⟨b1, rfl, hb1, hf1⟩
  have HB1 := Lib.hid hb1
  have HF1 := Lib.hid hf1
  clear hb1 hf1
  cases b1 with
  | false =>
    go_wp2
    go_ret
    exact ⟨rfl, HB1.out⟩
  | true =>
    go_wp2_with fail
    refine (fits2_any v2 l _ (HST.out.below HB1.out)).mono ?_
    rintro e w2 ⟨b2, rfl, hb2, hf2⟩
    have HB2 := Lib.hid (HB1.out.trans (hb2.mono HB1.out.size))
    have HF2 := Lib.hid hf2
    clear hb2 hf2 HB1
    cases b2 with
    | false =>
      go_wp2
      go_ret
      exact ⟨rfl, HB2.out⟩
    | true =>
      have F1 := Lib.hid (HF1.out (by simp))
      have F2 := Lib.hid (HF2.out (by simp))
      clear HF1 HF2
      go_wp2_with fail
      refine (valid_any listed ss A cap v2 l _ (HSS.out.below HB2.out) F1.out.1 F1.out.2 (HST.out.below HB2.out) F2.out.1 F2.out.2).mono ?_
      rintro e w3 ⟨b3, rfl, hb3, hf3⟩
      have HB3 := Lib.hid (HB2.out.trans (hb3.mono HB2.out.size))
      have HF3 := Lib.hid hf3
      clear hb3 hf3 HB2
      cases b3 with
      | false =>
        go_wp2
        go_ret
        exact ⟨rfl, HB3.out⟩
      | true =>
        have F3 := Lib.hid (HF3.out (by simp))
        clear HF3
        obtain ⟨sts, hsts⟩ : ∃ sts, sts = l.map Prod.fst := ⟨_, rfl⟩
        have HSTK : Hid (∀ p ∈ l, StOk p.1) := by
          intro p hp
          obtain ⟨_, _, a3, a4⟩ := F3.out
          have hm : p.1 ∈ l.map Prod.fst := List.mem_map.2 ⟨p, hp, rfl⟩
          exact stok_of (a4 _ hm) (Times.ge a3 _ hm) (F2.out.2 p hp)
        have HSTV : Hid (∀ st ∈ sts, StVal listed st) := by
          intro st hs
          rw [hsts] at hs
          exact stval_of (F3.out.2.2.2 st hs)
        have HTI : Hid (Times 1 sts) := by rw [Hid, hsts]; exact F3.out.2.2.1
        have HSU : Hid (SufOk ss) := F3.out.1
        have h64 : l.length ≤ 64 := F3.out.2.1
        have HS1 : Hid (∀ s ∈ ss, s.length ≤ 2147483648) := fun s hs => Nat.le_succ_of_le (F1.out.2 s hs)
        have HSPR := Lib.hid (specRun_any listed ss A cap v2 l w3 (HSS.out.below HB3.out) (Nat.le_succ_of_le F1.out.1) HS1.out (HST.out.below HB3.out) (fun p hp => ⟨HSTK.out p hp, HAGE.out p hp⟩) h64)
        rw [← hsts] at HSPR
        have HSL : Hid (sts.length = l.length) := by rw [Hid, hsts, List.length_map]
        have HSTE := Lib.hid hsts
        clear hsts
        go_wp2_with fail
        refine HSPR.out.mono ?_
        rintro e w4 ⟨v8, v9, v7, wb, rfl, hbb, hsa⟩
        have HB4 : Hid (RowKit.Below w.heap.size w w4) := HB3.out.trans ((hbb.trans (hsa.below.mono hbb.size)).mono HB3.out.size)
        have HSA := Lib.hid hsa
        have hg4 : Hid (w4.cell? ⟨0, 0, none⟩ = some (.iface t0 v0)) := by rw [Hid, HB4.out.cell (World.block_lt_of_cell? w _ HG.out)]; exact HG.out
        clear hbb hsa HSPR
        cases hsd : (runS listed ss sts).said with
        | false =>
          clear hsd
          go_wp2_with fail
          refine (alive_any _ t0 v0 hg4.out).mono ?_
          rintro e w5 ⟨rfl, hb5⟩
          have HB5 := Lib.hid (HB4.out.trans (hb5.mono HB4.out.size))
          clear hb5
          go_wp2
          go_ret
          exact ⟨rfl, HB5.out⟩
        | true =>
          have HSD := Lib.hid hsd; clear hsd
          have HRUN := Lib.hid (run_any listed ss A cap v2 l w4 t0 v0 hg4.out (HSS.out.below HB4.out) (Nat.le_trans F1.out.1 (by decide)) (fun s hs => Nat.le_trans (F1.out.2 s hs) (by decide)) (HST.out.below HB4.out) HSTK.out h64)
          go_wp2_with fail
          refine HRUN.out.mono ?_
          rintro e w5 ⟨v5, outs, vs, rfl, hou, hr5, hvl, hvs, hb5⟩
          have HB5 := Lib.hid (HB4.out.trans (hb5.mono HB4.out.size))
          have HM : Hid (MatchAt w5 v5 v7 outs.length) := by
            obtain ⟨ws, wouts, a1, a2, a3, a4, a5⟩ := HSA.out.out
            rw [← HSTE.out, ← HSL.out] at hou
            obtain ⟨p1, p2⟩ := runS_pairs HSU.out HSTV.out HTI.out HSD.out
            have hsl64 : sts.length ≤ 64 := by rw [HSL.out]; exact h64
            have hstok : ∀ st ∈ sts, StOk st := by
              intro st hs
              rw [HSTE.out] at hs
              obtain ⟨p, hp, rfl⟩ := List.mem_map.1 hs
              exact HSTK.out p hp
            have p3 := specTo_outs listed ss sts hstok hsl64 sts.length (Nat.le_refl _)
            rw [specTo, List.take_length] at p3
            exact match_of hr5 hvl hvs hou (a1.below hb5) a2 (fun i x y => ((a4 i x y).1.below hb5)) a3 a5 p1 p2 p3
          have hol : outs.length ≤ 64 := by
            rw [hou.1]
            refine Nat.le_trans (expAt_len listed ss (l.map Prod.fst) l.length) h64
          have hg5 : Hid (w5.cell? ⟨0, 0, none⟩ = some (.iface t0 v0)) := by rw [Hid, HB5.out.cell (World.block_lt_of_cell? w _ HG.out)]; exact HG.out
          clear hou hr5 hvl hvs hb5 HSA HRUN
          obtain ⟨A9, c9, rfl⟩ := HM.out.got
          obtain ⟨A7, c7, rfl⟩ := HM.out.want
          go_wp2
          go_loopw [46] (fun i wx => ∃ j : Nat, j ≤ outs.length ∧ i = .int .i64 j ∧ Hid (RowKit.Below w5.heap.size w5 wx)) (fun i _ => outs.length - (intOf i).toNat)
          case atStart => exact ⟨0, Nat.zero_le _, rfl, Below.refl _ _⟩
          case round =>
            obtain ⟨j, hj, rfl, hB⟩ := hrel
            by_cases hlt : j < outs.length
            · obtain ⟨b, c, g, s, ⟨_, _, e1, rfl⟩, ⟨_, _, e2, rfl⟩, hcb, hcc, hcall⟩ := HM.out.each j hlt
              cases e1
              cases e2
              have k1 : wr.cell? ⟨b, j, none⟩ = some g.val := by rw [hB.out.cell (World.block_lt_of_cell? w5 _ hcb)]; exact hcb
              have k2 : wr.cell? ⟨c, j, none⟩ = some s.val := by rw [hB.out.cell (World.block_lt_of_cell? w5 _ hcc)]; exact hcc
              have HC := Lib.hid (hcall wr hB.out)
              clear hcb hcc hcall
              unfold SlV.val at k1 k2 HC
              go_wp2_with fail
              refine HC.out.mono ?_
              rintro e w6 ⟨rfl, hb6⟩
              have hB6 := Lib.hid (hB.out.trans (hb6.mono hB.out.size))
              clear hb6 hB HC
              go_wp2
              exact ⟨⟨j + 1, by omega, by go_num, hB6⟩, by simp [intOf]; omega⟩
            · obtain rfl : j = outs.length := by omega
              have HBr := Lib.hid (HB5.out.trans (hB.out.mono HB5.out.size))
              have hgr : Hid (wr.cell? ⟨0, 0, none⟩ = some (.iface t0 v0)) := by rw [Hid, HBr.out.cell (World.block_lt_of_cell? w _ HG.out)]; exact HG.out
              go_wp2_with fail
              refine (alive_any _ t0 v0 hgr.out).mono ?_
              rintro e w6 ⟨rfl, hb6⟩
              have HB6 := Lib.hid (HBr.out.trans (hb6.mono HBr.out.size))
              clear hb6
              go_wp2
              go_ret
              exact ⟨rfl, HB6.out⟩
end Go.Proofs.YtckfgnbilcjdpaaGreatDoor
