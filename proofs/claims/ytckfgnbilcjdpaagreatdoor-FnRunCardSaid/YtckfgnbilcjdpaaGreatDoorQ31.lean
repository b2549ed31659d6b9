/- The contract of the reference's Run. -/
import Derived.Test.YtckfgnbilcjdpaaGreatDoorQ29
import Derived.Deep.CutBlock
import Derived.Deep.RegionHeld3
import Derived.Deep.QuietTactic
import Derived.BigQuiet
namespace Go.Proofs.YtckfgnbilcjdpaaGreatDoor
open Go.RowKit Go.Sort
set_option maxRecDepth 100000

theorem stepAddr {w : World} {b : Nat} {st : St} {sl : Value} (h : BlkAt w b (encS st sl)) : RowAt w b 2 [.string (bs st.sch), .string (bs st.host), .string (bs st.path)] := by
  intro j u hj
  have : (encS st sl)[2 + j]? = some u := by
    match j, hj with
    | 0, hj => exact hj
    | 1, hj => exact hj
    | 2, hj => exact hj
  exact (h (2 + j) u this).1
theorem endL_step (r : RS) (t : Int) (j : Nat) (h : j < r.jar.length) : r.ended ++ (r.jar.take (j + 1)).filter (fun k => !livesB k t) = (r.ended ++ (r.jar.take j).filter (fun k => !livesB k t)) ++ (if livesB r.jar[j] t then [] else [r.jar[j]]) := by
  rw [List.take_succ_eq_append_getElem h, List.filter_append, List.append_assoc]
  cases hl : livesB r.jar[j] t <;> simp [hl]
theorem filter_not_not (L : List Kp) (t : Int) : (L.filter fun x => !(!livesB x t)) = L.filter fun x => livesB x t := by simp
theorem RowOf.sl {α : Type} {w : World} {base : Nat} {T : TypeId} {enc : α → List Value} {k : Nat} {v : Value} {L : List α} (h : RowOf w base T enc k v L) : ∃ A cap, v = .slice A L.length cap := by
  rcases h.form with ⟨rfl, rfl⟩ | ⟨g, cap, rfl, _, _⟩
  · exact ⟨none, 0, rfl⟩
  · exact ⟨_, cap, rfl⟩
theorem RowOf.slv {α : Type} {w : World} {base : Nat} {T : TypeId} {enc : α → List Value} {k : Nat} {v : Value} {L : List α} (h : RowOf w base T enc k v L) : ∃ sv : SlV, v = sv.val := by
  obtain ⟨A, cap, rfl⟩ := h.sl
  exact ⟨⟨A, L.length, cap⟩, rfl⟩
theorem cell_below {w w' : World} (hb : RowKit.Below w.heap.size w w') {a : Addr} {v : Value} (h : w.cell? a = some v) : w'.cell? a = some v := by
  rw [hb.cell (World.block_lt_of_cell? w _ h)]; exact h
theorem cells12B {w w' : World} {a0 a1 a2 a3 a4 a5 a6 a7 a8 a9 a10 a11 : Addr} {v0 v1 v2 v3 v4 v5 v6 v7 v8 v9 v10 v11 : Value} (hb : RowKit.Below w.heap.size w w') (h : w.cell? a0 = some v0 ∧ w.cell? a1 = some v1 ∧ w.cell? a2 = some v2 ∧ w.cell? a3 = some v3 ∧ w.cell? a4 = some v4 ∧ w.cell? a5 = some v5 ∧ w.cell? a6 = some v6 ∧ w.cell? a7 = some v7 ∧ w.cell? a8 = some v8 ∧ w.cell? a9 = some v9 ∧ w.cell? a10 = some v10 ∧ w.cell? a11 = some v11) : w'.cell? a0 = some v0 ∧ w'.cell? a1 = some v1 ∧ w'.cell? a2 = some v2 ∧ w'.cell? a3 = some v3 ∧ w'.cell? a4 = some v4 ∧ w'.cell? a5 = some v5 ∧ w'.cell? a6 = some v6 ∧ w'.cell? a7 = some v7 ∧ w'.cell? a8 = some v8 ∧ w'.cell? a9 = some v9 ∧ w'.cell? a10 = some v10 ∧ w'.cell? a11 = some v11 := by
  obtain ⟨h0, h1, h2, h3, h4, h5, h6, h7, h8, h9, h10, h11⟩ := h
  exact ⟨cell_below hb h0, cell_below hb h1, cell_below hb h2, cell_below hb h3, cell_below hb h4, cell_below hb h5, cell_below hb h6, cell_below hb h7, cell_below hb h8, cell_below hb h9, cell_below hb h10, cell_below hb h11⟩
theorem cells5B {w w' : World} {a0 a1 a2 a3 a4 : Addr} {v0 v1 v2 v3 v4 : Value} (hb : RowKit.Below w.heap.size w w') (h : w.cell? a0 = some v0 ∧ w.cell? a1 = some v1 ∧ w.cell? a2 = some v2 ∧ w.cell? a3 = some v3 ∧ w.cell? a4 = some v4) : w'.cell? a0 = some v0 ∧ w'.cell? a1 = some v1 ∧ w'.cell? a2 = some v2 ∧ w'.cell? a3 = some v3 ∧ w'.cell? a4 = some v4 := by
  obtain ⟨h0, h1, h2, h3, h4⟩ := h
  exact ⟨cell_below hb h0, cell_below hb h1, cell_below hb h2, cell_below hb h3, cell_below hb h4⟩
/-- Where a row of kept cookies lies. -/
theorem RowOf.at' {w : World} {base n cap : Nat} {A : Option Addr} {L : List Kp} (h : RowOf w base 51 encK 9 (.slice A n cap) L) : ∀ j (hj : j < L.length), ∃ b, A = some ⟨b, 0, none⟩ ∧ b < w.heap.size ∧ RowAt w b (0 + j * 9) (encK L[j]) := by
  intro j hj
  rcases h.form with ⟨_, h2⟩ | ⟨b, cap', h1, h2, h3⟩
  · rw [h2] at hj; exact absurd hj (Nat.not_lt_zero _)
  · cases h1
    exact ⟨b, rfl, h3, by rw [Nat.zero_add]; exact h.rowAt encK_len j hj⟩

set_option maxHeartbeats 16000000 in
theorem specRun_any (listed : Bool) (ss : List (List UInt8)) (A : Option Addr) (cap : Nat) (v2 : Value) (l : List (St × Value)) (w : World)
    (hss : CellsAt w A (strCells ss)) (hn : ss.length ≤ 2147483648) (hs : ∀ s ∈ ss, s.length ≤ 2147483648)
    (hst : StSl w v2 l) (hok : ∀ p ∈ l, StOk p.1 ∧ ∀ c ∈ p.1.cks, -9223372036854775808 ≤ c.age) (hl : l.length ≤ 64) :
    Calls Tryz.prog 7 #[.bool listed, .slice A ss.length cap, v2] w fun e w' => ∃ v8 v9 v10 wb, e = .returned (.tuple #[v10, .bool (runS listed ss (l.map Prod.fst)).said]) ∧ RowKit.Below w.heap.size w wb ∧ SpecAt wb w' (runS listed ss (l.map Prod.fst)) v8 v9 v10 := by
  obtain ⟨A2, cap2, rfl, hcells, hcks⟩ := hst
  have HSS := Lib.hid hss; clear hss
  have HS := Lib.hid hs; clear hs
  have HN := Lib.hid hn; clear hn
  have HCE := Lib.hid hcells; clear hcells
  have HCK := Lib.hid hcks; clear hcks
  have HO := Lib.hid hok; clear hok
  have HLS : Hid (∀ st ∈ l.map Prod.fst, StOk st) := by
    intro s hs; obtain ⟨p, hp, rfl⟩ := List.mem_map.1 hs; exact (HO.out p hp).1
  have HLL : Hid ((l.map Prod.fst).length = l.length) := by rw [Hid, List.length_map]
  obtain ⟨sts, hsts⟩ : ∃ sts, sts = l.map Prod.fst := ⟨_, rfl⟩
  rw [← hsts] at HLS HLL ⊢
  have HSTS := Lib.hid hsts; clear hsts
  go_enter Tryz.func7, Tryz.ntmps7
  go_upto_region 1 with (fail)
  have hb1 : Hid (RowKit.Below w.heap.size w ((w.alloc (.cells #[.bool listed] 4)).alloc (.cells #[.slice A ss.length cap] 22))) := ((Below.refl _ _).alloc (Nat.le_refl _) _).alloc (by simp) _
  have hc3 : Hid (((w.alloc (.cells #[.bool listed] 4)).alloc (.cells #[.slice A ss.length cap] 22)).cell? ⟨w.heap.size, 0, none⟩ = some (.bool listed)) := (((BlkAt.made w [.bool listed] 4).alloc (.cells #[.slice A ss.length cap] 22)) 0 _ rfl).1
  have hc4 : Hid (((w.alloc (.cells #[.bool listed] 4)).alloc (.cells #[.slice A ss.length cap] 22)).cell? ⟨w.heap.size + 1, 0, none⟩ = some (.slice A ss.length cap)) := by
    have := ((BlkAt.made (w.alloc (.cells #[.bool listed] 4)) [.slice A ss.length cap] 22) 0 _ rfl).1
    rw [show (w.alloc (.cells #[.bool listed] 4)).heap.size = w.heap.size + 1 by simp] at this
    exact this
  generalize (w.alloc (.cells #[.bool listed] 4)).alloc (.cells #[.slice A ss.length cap] 22) = w1 at hb1 hc3 hc4 ⊢
  generalize hbL : w.heap.size = bL at hb1 hc3 hc4 ⊢
  have hl1 : bL + 1 < w1.heap.size := World.block_lt_of_cell? w1 _ hc4.out
  have hR0 : Hid (SpecAt w1 w1 (specTo listed ss sts 0) (.slice none 0 0) (.slice none 0 0) (.slice none 0 0)) :=
    ⟨RowOf.nil _ _ _ _ _, RowOf.nil _ _ _ _ _, ⟨[], [], RowOf.nil _ _ _ _ _, rfl, rfl, fun i h1 _ => absurd h1 (Nat.not_lt_zero _), fun i h1 _ => absurd h1 (Nat.not_lt_zero _)⟩, (fun g h => by cases h), (fun g h => by cases h), (fun g h => by cases h), Below.refl _ _⟩
  go_wp2
  go_loopw [8, 9, 10, 11, 27] (fun v8 v9 v10 v11 i wx => ∃ k : Nat, k ≤ l.length ∧ i = .int .i64 k ∧ v11 = .bool (specTo listed ss sts k).said ∧ Hid (SpecAt w1 wx (specTo listed ss sts k) v8 v9 v10)) (fun _ _ _ _ i _ => l.length - (intOf i).toNat)
  case atStart => exact ⟨0, Nat.zero_le _, rfl, rfl, hR0⟩
  case round =>
    clear hR0
    obtain ⟨k, hk, rfl, rfl, hsa⟩ := hrel
    by_cases hlt : k < l.length
    · obtain ⟨st, hst⟩ : ∃ st, st = l[k].1 := ⟨_, rfl⟩
      obtain ⟨A3, cap3, hsl, hck⟩ := HCK.out l[k] (List.getElem_mem hlt)
      rcases HCE.out with h0 | ⟨b2, o2, rfl, hrows⟩
      · rw [h0] at hlt; exact absurd hlt (Nat.not_lt_zero _)
      have hrow := ((hrows k hlt).below (show RowKit.Below w.heap.size w w1 by rw [hbL]; exact hb1.out)).below hsa.out.below
      rw [← hst, hsl, ← hst] at hrow
      have hso : Hid (StOk st ∧ ∀ c ∈ st.cks, -9223372036854775808 ≤ c.age) := by rw [Hid, hst]; exact HO.out _ (List.getElem_mem hlt)
      rw [← hst] at hck
      have hlt' : k < sts.length := by rw [HLL.out]; exact hlt
      have hstk : sts[k] = st := by
        have hg : ∀ (L : List St) (h : L = l.map Prod.fst) (hk : k < L.length), L[k] = l[k].1 := by rintro L rfl hk; rw [List.getElem_map]
        rw [hst]; exact hg sts HSTS.out hlt'
      have HSTEP : Hid (specTo listed ss sts (k + 1) = stepS listed ss (specTo listed ss sts k) st) := by rw [Hid, specTo_succ _ _ _ _ hlt', hstk]
      have HRK : Hid (RsOk (specTo listed ss sts k) k) := specTo_ok listed ss sts HLS.out (by rw [HLL.out]; exact hl) k (Nat.le_of_lt hlt')
      have HCKK := Lib.hid hck; clear hck hsl hrows hst hstk hlt'
      have HL := Lib.hid (loadAt_agg Tryz.isAgg40 Tryz.sizeOf40 hrow rfl)
      clear hrow
      generalize specTo listed ss sts k = r at HSTEP HRK hsa ⊢
      go_upto_region 7 with (first | ((with_reducible refine wpL_load HL.out ?_ ?_); rfl) | ((with_reducible refine wpL_store (storeNewS _ st A3 st.cks.length cap3) ?_ ?_ ?_); rfl; rfl))
      rw [put_none]
      have hS3 : Hid (BlkAt (wr.alloc (.cells (encS st (.slice A3 st.cks.length cap3)).toArray 40)) wr.heap.size (encS st (.slice A3 st.cks.length cap3))) := BlkAt.made wr _ 40
      have hsa3 : Hid (SpecAt w1 (wr.alloc (.cells (encS st (.slice A3 st.cks.length cap3)).toArray 40)) r u8 u9 u10) := hsa.out.alloc _
      have hno8 : Hid (∀ g, u8.ownBlock = some g → g ≠ wr.heap.size) := fun g hg e => by have := (hsa.out.jar.own g hg).2; omega
      have hno9 : Hid (∀ g, u9.ownBlock = some g → g ≠ wr.heap.size) := fun g hg e => by have := (hsa.out.ended.own g hg).2; omega
      have hno10 : Hid (∀ g, u10.ownBlock = some g → g ≠ wr.heap.size) := fun g hg e => by
        obtain ⟨_, _, a1, _⟩ := hsa.out.out
        have := (a1.own g hg).2; omega
      have hbw : w1.heap.size ≤ wr.heap.size := hsa.out.below.size
      clear hsa HL
      generalize wr.alloc (.cells (encS st (.slice A3 st.cks.length cap3)).toArray 40) = w3 at hS3 hsa3 ⊢
      generalize wr.heap.size = bS at hS3 hno8 hno9 hno10 hbw ⊢
      obtain ⟨A8, c8, rfl⟩ := hsa3.out.jar.sl
      have hjl : r.jar.length ≤ 4096 := by have := HRK.out.jar; omega
      have hel : r.ended.length ≤ 262144 := by have := HRK.out.ended; omega
      go_wp2
      go_loopw [9, 33] (fun v9 i wx => ∃ j : Nat, j ≤ r.jar.length ∧ i = .int .i64 j ∧ Hid (SpecAt w1 wx { r with ended := r.ended ++ (r.jar.take j).filter (fun x => !livesB x st.at') } (.slice A8 r.jar.length c8) v9 u10) ∧ Hid (BlkAt wx bS (encS st (.slice A3 st.cks.length cap3))) ∧ Hid (∀ g, v9.ownBlock = some g → g ≠ bS)) (fun _ i _ => r.jar.length - (intOf i).toNat)
      case atStart => exact ⟨0, Nat.zero_le _, rfl, hsa3.out.same rfl (by simp) rfl, hS3.out, hno9.out⟩
      case round =>
        clear hsa3 hS3 hno9
        obtain ⟨j, hj, rfl, hsa, hS, hno9⟩ := hrel
        by_cases hlt2 : j < r.jar.length
        · obtain ⟨b, rfl, hbl, hrow⟩ := RowOf.at' hsa.out.jar j hlt2
          rw [Nat.zero_add] at hrow
          obtain ⟨x, hx⟩ : ∃ x, x = r.jar[j] := ⟨_, rfl⟩
          change RowAt _ _ _ (encK r.jar[j]) at hrow
          rw [← hx] at hrow
          have HES : Hid (r.ended ++ (r.jar.take (j + 1)).filter (fun k => !livesB k st.at') = (r.ended ++ (r.jar.take j).filter (fun k => !livesB k st.at')) ++ (if livesB x st.at' then [] else [x])) := by
            rw [hx]; exact endL_step r st.at' j hlt2
          have HL1 := Lib.hid (loadAt_agg Tryz.isAgg51 Tryz.sizeOf51 hrow rfl)
          clear hrow hx
          go_upto_region 10 with (first | ((with_reducible refine wpL_load HL1.out ?_ ?_); rfl) | ((with_reducible refine wpL_store (storeNewK _ x) ?_ ?_ ?_); rfl; rfl))
          rw [put_none]
          have hK4 : Hid (BlkAt (wr.alloc (.cells (encK x).toArray 51)) wr.heap.size (encK x)) := BlkAt.made wr _ 51
          have hsa4 := Lib.hid (hsa.out.alloc (.cells (encK x).toArray 51))
          have hS4 := Lib.hid (hS.out.alloc (.cells (encK x).toArray 51))
          clear hsa hS HL1
          generalize wr.alloc (.cells (encK x).toArray 51) = w4 at hK4 hsa4 hS4 ⊢
          generalize wr.heap.size = kb at hK4 ⊢
          have HLX := Lib.hid (loadAt_agg Tryz.isAgg51 Tryz.sizeOf51 hK4.out.row rfl)
          have x1 := hS4.out.cell 1 rfl
          go_wp2_with (first | ((with_reducible refine wpL_load HLX.out ?_ ?_); rfl))
          refine (lives_any x st.at' _).mono ?_
          rintro e w5 ⟨rfl, hb5⟩
          have hK5 := Lib.hid (hK4.out.below hb5)
          have hsa5 := Lib.hid (hsa4.out.go hb5)
          have hS5 := Lib.hid (hS4.out.below hb5)
          clear hK4 hsa4 hS4 HLX x1 hb5
          cases hlv : livesB x st.at' with
          | true =>
            have hs6 : Hid (SpecAt w1 w5 { r with ended := r.ended ++ (r.jar.take (j + 1)).filter (fun k => !livesB k st.at') } (.slice (some ⟨b, 0, none⟩) r.jar.length c8) u9 u10) := by
              refine hsa5.out.same rfl ?_ rfl
              show r.ended ++ _ = r.ended ++ _
              rw [HES.out, hlv]; simp
            clear hlv HES hsa5
            go_wp2
            exact ⟨⟨j + 1, by omega, by go_num, hs6, hS5, hno9⟩, by simp [intOf]; omega⟩
          | false =>
            have HLX := Lib.hid (loadAt_agg Tryz.isAgg51 Tryz.sizeOf51 hK5.out.row rfl)
            have HBV := Lib.hid (buildK x w5)
            have hbb := hsa5.out.below.size
            have hle : (r.ended ++ (r.jar.take j).filter (fun k => !livesB k st.at')).length ≤ 100000000 := by
              have h1 := List.length_filter_le (fun k => !livesB k st.at') (r.jar.take j)
              rw [List.length_take] at h1
              rw [List.length_append]; omega
            have hbS5 : bS < w5.heap.size := World.block_lt_of_cell? w5 _ (hS5.out.cell 0 rfl)
            obtain ⟨v', w6, hap, hr6, hk6, hn6⟩ := appendK x w5.heap.size (hsa5.out.ended.alloc (.cells (encK x).toArray 51)) hle (by simp; omega) (BlkAt.made _ _ _) 49
            have HAP := Lib.hid hap
            have hno6 : Hid (∀ g, v'.ownBlock = some g → g ≠ bS) := fun g hg e => by
              rcases hn6 g hg with h | h
              · exact hno9.out g h e
              · rw [h] at e; simp at e; omega
            have hs6 : Hid (SpecAt w1 w6 { r with ended := r.ended ++ (r.jar.take (j + 1)).filter (fun k => !livesB k st.at') } (.slice (some ⟨b, 0, none⟩) r.jar.length c8) v' u10) := by
              have h1 := (hsa5.out.alloc (.cells (encK x).toArray 51)).ended' hk6 hr6 (fun g hg => by
                rcases hn6 g hg with h | h
                · exact Or.inl h
                · right; omega)
              refine h1.same rfl ?_ rfl
              show r.ended ++ _ = (r.ended ++ _) ++ [x]
              rw [HES.out, hlv]; simp
            have hS6 : Hid (BlkAt w6 bS (encS st (.slice A3 st.cks.length cap3))) := (hS5.out.alloc (.cells (encK x).toArray 51)).keeps hk6 (fun h => hno9.out bS h rfl)
            clear hap hr6 hk6 hn6 hlv HES hsa5 hS5 hno9
            go_wp2_with (first | ((with_reducible refine wpL_load HLX.out ?_ ?_); rfl) | ((with_reducible refine wpL_build1 HBV.out ?_ ?_); rfl) | ((with_reducible refine wpL_append HAP.out ?_ ?_ ?_); rfl; rfl))
            exact ⟨⟨j + 1, by omega, by go_num, hs6, hS6, hno6⟩, by simp [intOf]; omega⟩
        · obtain rfl : j = r.jar.length := by omega
          rw [List.take_length] at hsa
          change Hid (SpecAt w1 wr { r with ended := endL r st.at' } (.slice A8 r.jar.length c8) u9 u10) at hsa
          have hbSr : bS < wr.heap.size := World.block_lt_of_cell? wr _ (hS.out.cell 0 rfl)
          have hwr1 := hsa.out.below.size
          go_wp2_with fail
          refine (cloneK_any w1.heap.size _ r.jar _ hsa.out.jar (by omega)).mono ?_
          rintro e w4 ⟨vc, rfl, hrc, hbc⟩
          have hS4 := Lib.hid (hS.out.below hbc)
          have hpk : PredK (fun j => vc.ownBlock = some j) 23 #[.pointer (some ⟨bS, 0, none⟩)] (fun x => !livesB x st.at') w4 r.jar := by
            intro W x _ hW
            refine dead23 x bS st.at' W ?_
            refine (hS4.out.keeps hW (fun h => ?_)).cell 1 rfl
            have := (hrc.own bS h).1; omega
          have HDF := Lib.hid (deleteFunc_any 23 (enters_of Tryz.func23 (by kernel_rfl) rfl) #[.pointer (some ⟨bS, 0, none⟩)] (fun x => !livesB x st.at') wr.heap.size vc r.jar w4 hrc (by omega) hpk)
          have HRC := Lib.hid hrc
          have HBC := Lib.hid hbc
          clear hpk hrc hbc
          go_wp2_with fail
          refine HDF.out.mono ?_
          rintro e w5 ⟨v8, rfl, hr5, hk5, ho5⟩
          rw [filter_not_not] at hr5
          change RowOf w5 wr.heap.size 51 encK 9 v8 (jarL r st.at') at hr5
          have hB5 : RowKit.Below wr.heap.size wr w5 := HBC.out.trans (hk5.toBelow HBC.out.size (fun g hg => (HRC.out.own g hg).1))
          have hsa5 : Hid (SpecAt w1 w5 ⟨jarL r st.at', endL r st.at', r.outs, true⟩ v8 u9 u10) := by
            refine (hsa.out.jar' (v' := v8) ((Keeps.refl (fun j => Value.ownBlock (.slice A8 r.jar.length c8) = some j) wr).below hB5) (hr5.rebase hwr1) (fun g hg => Or.inr (HRC.out.own g (ho5 g hg)).1)).same rfl rfl rfl
          have hS5 := Lib.hid (hS.out.below hB5)
          have hno8' : Hid (∀ g, v8.ownBlock = some g → g ≠ bS) := fun g hg e => by have := (HRC.out.own g (ho5 g hg)).1; omega
          clear hB5 hr5 hk5 ho5 HDF HRC HBC hS4 hsa hS hno8 hlt2 hwr1 hbSr
          have x0 := hS5.out.cell 0 rfl
          have x2 := hS5.out.cell 2 rfl
          have hbS5 : bS < w5.heap.size := World.block_lt_of_cell? w5 _ x0
          go_upto_region 14 with (fail)
          go_cut [16] (fun q wx => q = .bool (httpP st.sch) ∧ wx = w5)
          case first =>
            have ha1 : (st.sch == [104, 116, 116, 112]) = (st.sch == httpB) := rfl
            have ha2 : (st.sch == [104, 116, 116, 112, 115]) = (st.sch == httpsB) := rfl
            cases c1 : (st.sch == httpB) with
            | true =>
              have hq : Hid (httpP st.sch = true) := by rw [Hid, httpP, c1]; rfl
              rw [c1] at ha1
              clear c1 ha2
              go_wp2_with fail
              go_meet
              case rel => exact ⟨by rw [hq.out], rfl⟩
            | false =>
              cases c2 : (st.sch == httpsB) with
              | true =>
                have hq : Hid (httpP st.sch = true) := by rw [Hid, httpP, c1, c2]; rfl
                rw [c1] at ha1
                rw [c2] at ha2
                clear c1 c2
                go_wp2_with fail
                go_meet
                case rel => exact ⟨by rw [hq.out], rfl⟩
              | false =>
                have hq : Hid (httpP st.sch = false) := by rw [Hid, httpP, c1, c2]; rfl
                rw [c1] at ha1
                rw [c2] at ha2
                clear c1 c2
                go_wp2_with fail
                go_meet
                case rel => exact ⟨by rw [hq.out], rfl⟩
          case rest =>
            obtain ⟨rfl, rfl⟩ := hcut
            clear x2
            have hjo := Lib.hid (jarL_ok HRK.out st.at')
            have hol : r.outs.length ≤ 1000000 := by have := HRK.out.outs; omega
            cases hset : st.set with
            | false =>
              rw [hset] at x0
              cases hw : httpP st.sch with
              | true =>
                have hst2 : Hid (specTo listed ss sts (k + 1) = ⟨jarL r st.at', endL r st.at', r.outs ++ [((jarL r st.at').filter (sentB (st.sch == httpsB) ((hostPart st.host).map lowB) (askPath st.path))).map toSn], r.said && !(jarL r st.at').any (oddB listed ss ((hostPart st.host).map lowB))⟩) := by
                  rw [Hid, HSTEP.out, stepS, hset, hw]; rfl
                clear hset hw
                have HLA := Lib.hid (loadAt_agg Tryz.isAgg37 Tryz.sizeOf37 (stepAddr hS5.out) rfl)
                go_wp2_with (first | ((with_reducible refine wpL_load HLA.out ?_ ?_); rfl))
                refine (sent_any w1.heap.size v8 (jarL r st.at') st.sch st.host st.path _ hsa5.out.jar (by have := hjo.out.2; omega) hjo.out.1 (Nat.le_succ_of_le hso.out.1.hlen) (Nat.le_succ_of_le hso.out.1.plen)).mono ?_
                rintro e w6 ⟨vs, M', rfl, hr6, hp6, hs6, hb6⟩
                obtain ⟨sv, rfl⟩ := hr6.slv
                have hw15 := hsa5.out.below.size
                have hsa6 := hsa5.out.go hb6
                have hown8 := hsa5.out.jar.own
                have hown9 := hsa5.out.ended.own
                have hown10 : ∀ g, u10.ownBlock = some g → w1.heap.size ≤ g ∧ g < wc.heap.size := by
                  obtain ⟨_, _, a1, _⟩ := hsa5.out.out
                  exact a1.own
                obtain ⟨v10, w7, hap, hsa7, hk7⟩ := hsa6.push sv M' _ (hr6.rebase hw15) (fun g hg => by
                  have h1 := (hr6.own g hg).1
                  exact ⟨fun h => by have := (hown8 g h).2; omega, fun h => by have := (hown9 g h).2; omega, fun h => by have := (hown10 g h).2; omega⟩) hp6 hs6 hol 27
                have HBV := Lib.hid (buildW sv w6)
                have HAP := Lib.hid hap
                have hSA7 := Lib.hid hsa7
                have hS7 := Lib.hid ((hS5.out.below hb6).keeps hk7 (fun h => hno10.out bS h rfl))
                have HLA7 := Lib.hid (loadAt_agg Tryz.isAgg37 Tryz.sizeOf37 (stepAddr hS7.out) rfl)
                clear hap hsa7 hk7 hsa6 hr6 hp6 hs6 hb6 hown8 hown9 hown10 hsa5 hS5 x0 hbS5 HLA
                go_wp2_with (first | ((with_reducible refine wpL_build1 HBV.out ?_ ?_); rfl) | ((with_reducible refine wpL_append HAP.out ?_ ?_ ?_); rfl; rfl) | ((with_reducible refine wpL_load HLA7.out ?_ ?_); rfl))
                refine (specHost_any st.sch st.host st.path _ (Nat.le_succ_of_le hso.out.1.hlen)).mono ?_
                rintro e w8 ⟨rfl, hb8⟩
                rw [show (splitB st.host).1 = hostPart st.host from rfl]
                obtain ⟨h, hhost⟩ : ∃ h, h = (hostPart st.host).map lowB := ⟨_, rfl⟩
                rw [← hhost] at hst2 hSA7 ⊢
                have hhl : h.length ≤ 2147483648 := by rw [hhost]; exact Nat.le_succ_of_le (hostLow_len st hso.out.1.hlen)
                have HHL := Lib.hid hhl
                clear hhost hhl
                go_upto_region 18 with (fail)
                have hH9 : Hid (BlkAt (w8.alloc (.cells #[.string (bs h)] 9)) w8.heap.size [.string (bs h)]) := BlkAt.made w8 _ 9
                have hsa9 := Lib.hid ((hSA7.out.go hb8).alloc (.cells #[.string (bs h)] 9))
                clear hSA7 hS7 HLA7 HBV HAP hb8
                generalize w8.alloc (.cells #[.string (bs h)] 9) = w9 at hH9 hsa9 ⊢
                generalize w8.heap.size = hb at hH9 ⊢
                cases hsd : r.said with
                | false =>
                  have hsd2 : Hid ((specTo listed ss sts (k + 1)).said = false) := by rw [Hid, hst2.out]; show (r.said && _) = false; rw [hsd]; rfl
                  have hsa10 : Hid (SpecAt w1 w9 (specTo listed ss sts (k + 1)) v8 u9 v10) := by rw [hst2.out]; exact hsa9.out.same rfl rfl rfl
                  clear hsd hsa9 hH9
                  go_wp2
                  exact ⟨⟨k + 1, by omega, by go_num, by rw [hsd2.out], hsa10⟩, by simp [intOf]; omega⟩
                | true =>
                  have hsd2 : Hid ((specTo listed ss sts (k + 1)).said = !(jarL r st.at').any (oddB listed ss h)) := by rw [Hid, hst2.out]; show (r.said && _) = _; rw [hsd]; rfl
                  have hpk : PredK (fun _ => False) 27 #[.pointer (some ⟨hb, 0, none⟩), .pointer (some ⟨bL, 0, none⟩), .pointer (some ⟨bL + 1, 0, none⟩)] (oddB listed ss h) w9 (jarL r st.at') := by
                    intro W x hx hW
                    have hbW : RowKit.Below w9.heap.size w9 W := hW.toBelow (Nat.le_refl _) (fun _ h => h.elim)
                    have hb1W : RowKit.Below w1.heap.size w1 W := hsa9.out.below.trans (hbW.mono hsa9.out.below.size)
                    refine odd27 listed A cap ss h x hb bL (bL + 1) W ((hH9.out.below hbW).cell 0 rfl) ?_ ?_ ?_ HHL.out (hjo.out.1 x hx).dlen HN.out HS.out
                    · rw [hb1W.cell (show (⟨bL, 0, none⟩ : Addr).block < _ by show bL < _; omega)]; exact hc3.out
                    · rw [hb1W.cell (show (⟨bL + 1, 0, none⟩ : Addr).block < _ from hl1)]; exact hc4.out
                    · exact (HSS.out.below (show RowKit.Below w.heap.size w w1 by rw [hbL]; exact hb1.out)).below hb1W
                  have HCO := Lib.hid (containsK_any 27 (enters_of Tryz.func27 (by kernel_rfl) rfl) #[.pointer (some ⟨hb, 0, none⟩), .pointer (some ⟨bL, 0, none⟩), .pointer (some ⟨bL + 1, 0, none⟩)] (oddB listed ss h) w1.heap.size v8 (jarL r st.at') w9 hsa9.out.jar (by have := hjo.out.2; omega) hpk)
                  have hrs : Hid (∀ wz, RowKit.Below w9.heap.size w9 wz → SpecAt w1 wz (specTo listed ss sts (k + 1)) v8 u9 v10) := fun wz hz => by rw [hst2.out]; exact (hsa9.out.go hz).same rfl rfl rfl
                  clear hsd hpk hsa9 hH9
                  go_wp2_with fail
                  refine HCO.out.mono ?_
                  rintro e w10 ⟨rfl, hb10⟩
                  have hsa10 := Lib.hid (hrs.out w10 hb10)
                  clear hb10 hrs HCO
                  go_wp2
                  exact ⟨⟨k + 1, by omega, by go_num, by rw [hsd2.out], hsa10⟩, by simp [intOf]; omega⟩
              | false =>
                have hst2 : Hid (specTo listed ss sts (k + 1) = ⟨jarL r st.at', endL r st.at', r.outs ++ [[]], r.said⟩) := by
                  rw [Hid, HSTEP.out, stepS, hset, hw]; rfl
                clear hset hw
                obtain ⟨v10, w7, hap, hsa7, hk7⟩ := hsa5.out.push ⟨none, 0, 0⟩ [] [] (RowOf.nil _ _ _ _ _) (fun g hg => by cases hg) (List.Perm.refl _) (fun i j x y _ _ h => absurd h (Nat.not_lt_zero _)) hol 27
                have HBV : Hid ((Instr.buildSlice 27 1 #[(0, .slice none 0 0)]).run Tryz.prog wc = .ok (.slice (some ⟨wc.heap.size, 0, none⟩) 1 1) (wc.alloc (.cells (encSV ⟨none, 0, 0⟩).toArray 35))) := buildW ⟨none, 0, 0⟩ wc
                have HAP := Lib.hid hap
                have hsd2 : Hid ((specTo listed ss sts (k + 1)).said = r.said) := by rw [Hid, hst2.out]
                have hsa10 : Hid (SpecAt w1 w7 (specTo listed ss sts (k + 1)) v8 u9 v10) := by rw [hst2.out]; exact hsa7.same rfl rfl rfl
                clear hap hsa7 hk7
                go_wp2_with (first | ((with_reducible refine wpL_build1 HBV.out ?_ ?_); rfl) | ((with_reducible refine wpL_append HAP.out ?_ ?_ ?_); rfl; rfl))
                exact ⟨⟨k + 1, by omega, by go_num, by rw [hsd2.out], hsa10⟩, by simp [intOf]; omega⟩
            | true =>
              rw [hset] at x0
              cases hw : httpP st.sch with
              | true =>
                have hst2 : Hid (specTo listed ss sts (k + 1) = ⟨(jarC listed ss r st st.cks.length).1, endL r st.at', r.outs, (jarC listed ss r st st.cks.length).2⟩) := by
                  rw [Hid, HSTEP.out, stepS, hset, hw, jarC, List.take_length]; rfl
                clear hset hw
                have x5 := hS5.out.cell 5 rfl
                have hjc : Hid (∀ j, j ≤ st.cks.length → (∀ x ∈ (jarC listed ss r st j).1, KpOk x) ∧ (jarC listed ss r st j).1.length ≤ 64 * k + j) := jarC_ok HRK.out hso.out.1
                have hck64 := hso.out.1.clen
                have hel2 : (endL r st.at').length ≤ 1000000 := by have := endL_ok HRK.out (by omega) st.at'; omega
                go_wp2
                go_loopw [8, 11, 97] (fun v8 v11 i wx => ∃ j : Nat, j ≤ st.cks.length ∧ i = .int .i64 j ∧ v11 = .bool (jarC listed ss r st j).2 ∧ Hid (SpecAt w1 wx ⟨(jarC listed ss r st j).1, endL r st.at', r.outs, true⟩ v8 u9 u10) ∧ Hid (BlkAt wx bS (encS st (.slice A3 st.cks.length cap3))) ∧ Hid (∀ g, v8.ownBlock = some g → g ≠ bS)) (fun _ _ i _ => st.cks.length - (intOf i).toNat)
                case atStart => exact ⟨0, Nat.zero_le _, rfl, by rw [jarC]; rfl, hsa5.out, hS5.out, hno8'.out⟩
                case round =>
                  clear hsa5 hS5 hno8' x0 x5 hbS5
                  obtain ⟨j, hj, rfl, rfl, hsa, hS, hno8⟩ := hrel
                  by_cases hltj : j < st.cks.length
                  · obtain ⟨c, hc⟩ : ∃ c, c = st.cks[j] := ⟨_, rfl⟩
                    rcases HCKK.out with h0 | ⟨b3, o3, rfl, hrows3⟩
                    · rw [h0] at hltj; exact absurd hltj (Nat.not_lt_zero _)
                    have hrow := ((hrows3 j hltj).below (show RowKit.Below w.heap.size w w1 by rw [hbL]; exact hb1.out)).below hsa.out.below
                    rw [← hc] at hrow
                    have hcok : Hid (CkSm c ∧ -9223372036854775808 ≤ c.age) := by rw [Hid, hc]; exact ⟨(hso.out.1.cks _ (List.getElem_mem _)).1, hso.out.2 _ (List.getElem_mem _)⟩
                    have hjs : Hid (jarC listed ss r st (j + 1) = setC listed ss ((hostPart st.host).map lowB) st.path st.at' (endL r st.at') (jarC listed ss r st j) c) := by
                      rw [Hid, jarC_succ _ _ _ _ _ hltj, hc]
                    have hjj := Lib.hid (hjc.out j (Nat.le_of_lt hltj))
                    have hjj1 := Lib.hid (hjc.out (j + 1) hltj)
                    have HL := Lib.hid (loadAt_agg Tryz.isAgg47 Tryz.sizeOf47 hrow rfl)
                    clear hrow hrows3 hc
                    go_upto_region 25 with (first | ((with_reducible refine wpL_load HL.out ?_ ?_); rfl) | ((with_reducible refine wpL_store (storeNewI _ c) ?_ ?_ ?_); rfl; rfl))
                    rw [put_none]
                    have hC3 : Hid (BlkAt (wr.alloc (.cells (encI c).toArray 47)) wr.heap.size (encI c)) := BlkAt.made wr _ 47
                    have hsa3 := Lib.hid (hsa.out.alloc (.cells (encI c).toArray 47))
                    have hS3 := Lib.hid (hS.out.alloc (.cells (encI c).toArray 47))
                    have hnoc : Hid (∀ g, u8.ownBlock = some g → g ≠ wr.heap.size) := fun g hg e => by have := (hsa.out.jar.own g hg).2; omega
                    clear hsa hS HL
                    generalize wr.alloc (.cells (encI c).toArray 47) = w3 at hC3 hsa3 hS3 ⊢
                    generalize wr.heap.size = cb at hC3 hnoc ⊢
                    obtain ⟨A8, c8, rfl⟩ := hsa3.out.jar.sl
                    have HLS := Lib.hid (loadAt_agg Tryz.isAgg40 Tryz.sizeOf40 hS3.out.row rfl)
                    have HLC := Lib.hid (loadAt_agg Tryz.isAgg47 Tryz.sizeOf47 hC3.out.row rfl)
                    have t3 : w3.cell? ⟨bL, 0, none⟩ = some (.bool listed) := by
                      rw [hsa3.out.below.cell (show (⟨bL, 0, none⟩ : Addr).block < _ by show bL < _; omega)]; exact hc3.out
                    have t4 : w3.cell? ⟨bL + 1, 0, none⟩ = some (.slice A ss.length cap) := by
                      rw [hsa3.out.below.cell (show (⟨bL + 1, 0, none⟩ : Addr).block < _ from hl1)]; exact hc4.out
                    have hA3 : Hid (CellsAt w3 A (strCells ss)) := (HSS.out.below (show RowKit.Below w.heap.size w w1 by rw [hbL]; exact hb1.out)).below hsa3.out.below
                    have hset := set_any listed A cap ss w1.heap.size (.slice A8 (jarC listed ss r st j).1.length c8) (jarC listed ss r st j).1 st.set st.at' st.sch st.host st.path (some ⟨b3, o3, none⟩) st.cks.length cap3 c w3 hsa3.out.jar hsa3.out.below.size (by have := hjj.out.2; omega) hA3.out HN.out HS.out (Nat.le_succ_of_le hso.out.1.hlen) (Nat.le_succ_of_le hso.out.1.plen) (Nat.le_succ_of_le hcok.out.1.dlen) hso.out.1.at0 hso.out.1.at1 hcok.out.2 hcok.out.1.ok.age
                    have HSET := Lib.hid hset; clear hset
                    go_wp2_with (first | ((with_reducible refine wpL_load HLS.out ?_ ?_); rfl) | ((with_reducible refine wpL_load HLC.out ?_ ?_); rfl))
                    refine HSET.out.mono ?_
                    rintro e w4 ⟨v8, rfl, hr4, hk4, ho4⟩
                    have hbS3 : bS < w3.heap.size := World.block_lt_of_cell? w3 _ (hS3.out.cell 0 rfl)
                    obtain ⟨L, hLd⟩ : ∃ L, L = (jarC listed ss r st j).1 := ⟨_, rfl⟩
                    obtain ⟨sd, hsd⟩ : ∃ sd, sd = (jarC listed ss r st j).2 := ⟨_, rfl⟩
                    obtain ⟨h, hhost⟩ : ∃ h, h = (hostPart st.host).map lowB := ⟨_, rfl⟩
                    obtain ⟨L', hLe⟩ : ∃ L', L' = setS listed ss (jarC listed ss r st j).1 ((hostPart st.host).map lowB) st.path st.at' c := ⟨_, rfl⟩
                    obtain ⟨E, hE⟩ : ∃ E, E = endL r st.at' := ⟨_, rfl⟩
                    obtain ⟨d, al, ok, hrd⟩ : ∃ d al ok, domS listed ss h c.domain = (d, al, ok) := ⟨_, _, _, rfl⟩
                    have hhl : h.length ≤ 2147483647 := by rw [hhost]; exact hostLow_len st hso.out.1.hlen
                    have hdl : d.length ≤ 2147483648 := by
                      have := dom_len listed ss h c.domain hhl hcok.out.1.dlen
                      rw [hrd] at this; exact Nat.le_succ_of_le this
                    have hj1 : Hid ((jarC listed ss r st (j + 1)).1 = L') := by rw [Hid, hjs.out, hLe]; rfl
                    obtain ⟨sa, hsa'⟩ : ∃ sa, sa = (sd && !(decide (L.length < L'.length) && E.any (sameB (L'.getLast?.getD default)))) := ⟨_, rfl⟩
                    have hj2 : Hid ((jarC listed ss r st (j + 1)).2 = (sa && !(ok && aboveB listed ss h d))) := by
                      rw [Hid, hjs.out, setC, ← hhost, hrd, hsa', hLe, hLd, hsd, hE, hhost]
                    have hl1' : L'.length ≤ 1000000 := by
                      have := hjj1.out.2
                      rw [hj1.out] at this; omega
                    have hsa4 : Hid (SpecAt w1 w4 ⟨L', E, r.outs, true⟩ v8 u9 u10) := by
                      rw [hLe, hE]; exact (hsa3.out.jar' hk4 hr4 ho4).same rfl rfl rfl
                    have hS4 := Lib.hid (hS3.out.keeps hk4 (fun h => hno8.out bS h rfl))
                    have hC4 := Lib.hid (hC3.out.keeps hk4 (fun h => hnoc.out cb h rfl))
                    have hno4 : Hid (∀ g, v8.ownBlock = some g → g ≠ bS) := fun g hg e => by
                      rcases ho4 g hg with h | h
                      · exact hno8.out g h e
                      · omega
                    obtain ⟨A9, c9, rfl⟩ := hr4.sl
                    rw [← hLe, ← hLd, ← hsd] at *
                    have HSA := Lib.hid hsa'
                    have HRD := Lib.hid hrd
                    have HHO := Lib.hid hhost
                    rw [← hE] at hel2
                    have HE := Lib.hid hE
                    clear hr4 hk4 ho4 HSET HLS HLC t3 t4 hA3 hnoc hno8 hS3 hC3 hsa3 hLd hsd hhost hLe hrd hsa' hjs hjj hjj1 hE
                    go_upto_if 112 with (fail)
                    go_cut [11] (fun q wx => q = .bool sa ∧ Hid (RowKit.Below w4.heap.size w4 wx))
                    case first =>
                      by_cases hgt : L.length < L'.length
                      · obtain ⟨m, hm⟩ : ∃ m, L'.length = m + 1 := ⟨L'.length - 1, by omega⟩
                        have hmL : m < L'.length := by omega
                        obtain ⟨b9, rfl, hb9, hrow⟩ := RowOf.at' hsa4.out.jar m hmL
                        change RowAt _ _ _ (encK L'[m]) at hrow
                        rw [Nat.zero_add] at hrow
                        obtain ⟨x, hx⟩ : ∃ x, x = L'[m] := ⟨_, rfl⟩
                        have hlast : L'.getLast?.getD default = x := by
                          rw [List.getLast?_eq_getElem?, List.getElem?_eq_getElem (by omega), hx]
                          simp only [Option.getD_some]
                          congr 1
                          omega
                        rw [← hx] at hrow
                        have HL := Lib.hid (loadAt_agg Tryz.isAgg51 Tryz.sizeOf51 hrow rfl)
                        have hq : Hid (sa = (sd && !E.any (sameB x))) := by
                          rw [Hid, HSA.out, hlast, decide_eq_true hgt, Bool.true_and]
                        have hdt : decide (L.length < L'.length) = true := decide_eq_true hgt
                        have hm1 : m + 1 ≤ 1000000 := by omega
                        rw [hdt, hm]
                        have HM := Lib.hid hm
                        clear hrow hx hlast hdt hgt hmL hm hl1'
                        go_upto_region 29 with (first | ((with_reducible refine wpL_load HL.out ?_ ?_); rfl) | ((with_reducible refine wpL_store (storeNewK _ x) ?_ ?_ ?_); rfl; rfl))
                        rw [put_none]
                        have hK5 : Hid (BlkAt (w4.alloc (.cells (encK x).toArray 51)) w4.heap.size (encK x)) := BlkAt.made w4 _ 51
                        have hB5 : Hid (RowKit.Below w4.heap.size w4 (w4.alloc (.cells (encK x).toArray 51))) := (Below.refl _ _).alloc (Nat.le_refl _) _
                        have hE5 := Lib.hid ((hsa4.out.alloc (.cells (encK x).toArray 51)).ended)
                        obtain ⟨z4, hz4⟩ : ∃ z4, z4 = w4.heap.size := ⟨_, rfl⟩
                        rw [← hz4] at hB5
                        have HZ4 := Lib.hid hz4
                        rw [← hz4] at hK5 ⊢
                        clear hz4
                        generalize w4.alloc (.cells (encK x).toArray 51) = w5 at hK5 hB5 hE5 ⊢
                        cases sd with
                        | false =>
                          have hq2 : Hid (sa = false) := by rw [Hid, hq.out]; rfl
                          go_wp2_with fail
                          rw [← HM.out]
                          go_meet
                          case rel => exact ⟨by rw [hq2.out], by rw [← HZ4.out]; exact hB5⟩
                        | true =>
                          have hq2 : Hid (sa = !E.any (sameB x)) := by rw [Hid, hq.out]; rfl
                          have hpk : PredK (fun _ => False) 31 #[.pointer (some ⟨z4, 0, none⟩)] (sameB x) w5 E := by
                            intro W y _ hW
                            exact same31 y x z4 W (hK5.out.keeps hW (fun h => h))
                          have HCO := Lib.hid (containsK_any 31 (enters_of Tryz.func31 (by kernel_rfl) rfl) #[.pointer (some ⟨z4, 0, none⟩)] (sameB x) w1.heap.size u9 E w5 hE5.out hel2 hpk)
                          have hzz : z4 ≤ w5.heap.size := by rw [HZ4.out]; exact hB5.out.size
                          clear hpk
                          go_wp2_with fail
                          refine HCO.out.mono ?_
                          rintro e w6 ⟨rfl, hb6⟩
                          have hB6 : Hid (RowKit.Below z4 w4 w6) := hB5.out.trans (hb6.mono hzz)
                          clear hb6
                          go_wp2_with fail
                          rw [← HM.out]
                          go_meet
                          case rel => exact ⟨by rw [hq2.out], by rw [← HZ4.out]; exact hB6⟩
                      · have hq : Hid (sa = sd) := by rw [Hid, HSA.out, decide_eq_false hgt]; simp
                        have hdt : decide (L.length < L'.length) = false := decide_eq_false hgt
                        rw [hdt]
                        clear hdt hgt
                        go_wp2_with fail
                        go_meet
                        case rel => exact ⟨by rw [hq.out], Below.refl _ _⟩
                    case rest =>
                      obtain ⟨rfl, hB5⟩ := hcut
                      have hsa5 := Lib.hid (hsa4.out.go hB5.out)
                      have hS5 := Lib.hid (hS4.out.below hB5.out)
                      have hC5 := Lib.hid (hC4.out.below hB5.out)
                      clear hsa4 hS4 hC4 hB5 HSA
                      have t3 : wc.cell? ⟨bL, 0, none⟩ = some (.bool listed) := by
                        rw [hsa5.out.below.cell (show (⟨bL, 0, none⟩ : Addr).block < _ by show bL < _; omega)]; exact hc3.out
                      have t4 : wc.cell? ⟨bL + 1, 0, none⟩ = some (.slice A ss.length cap) := by
                        rw [hsa5.out.below.cell (show (⟨bL + 1, 0, none⟩ : Addr).block < _ from hl1)]; exact hc4.out
                      have hA5 : Hid (CellsAt wc A (strCells ss)) := (HSS.out.below (show RowKit.Below w.heap.size w w1 by rw [hbL]; exact hb1.out)).below hsa5.out.below
                      have s2 := hS5.out.cell 2 rfl
                      have s3 := hS5.out.cell 3 rfl
                      have s4 := hS5.out.cell 4 rfl
                      have k0 := hC5.out.cell 0 rfl
                      have k1 := hC5.out.cell 1 rfl
                      have k2 := hC5.out.cell 2 rfl
                      have k3 := hC5.out.cell 3 rfl
                      have k4 := hC5.out.cell 4 rfl
                      have k5 := hC5.out.cell 5 rfl
                      have k6 := hC5.out.cell 6 rfl
                      have HHL : Hid (h.length ≤ 2147483648) := Nat.le_succ_of_le hhl
                      have HDL : Hid (c.domain.length ≤ 2147483648) := Nat.le_succ_of_le hcok.out.1.dlen
                      have HDD := Lib.hid hdl
                      clear hhl hdl
                      go_upto_region 30 with (fail)
                      go_region_held3 (fun w' => w'.cell? ⟨bL, 0, none⟩ = some (.bool listed) ∧ w'.cell? ⟨bL + 1, 0, none⟩ = some (.slice A ss.length cap) ∧ w'.cell? ⟨bS, 2, none⟩ = some (.string (bs st.sch)) ∧ w'.cell? ⟨bS, 3, none⟩ = some (.string (bs st.host)) ∧ w'.cell? ⟨bS, 4, none⟩ = some (.string (bs st.path)) ∧
                          w'.cell? ⟨cb, 0, none⟩ = some (.string (bs c.name)) ∧ w'.cell? ⟨cb, 1, none⟩ = some (.string (bs c.value)) ∧ w'.cell? ⟨cb, 2, none⟩ = some (.string (bs c.domain)) ∧ w'.cell? ⟨cb, 3, none⟩ = some (.string (bs c.path)) ∧ w'.cell? ⟨cb, 4, none⟩ = some (.int .i64 c.age) ∧ w'.cell? ⟨cb, 5, none⟩ = some (.int .i64 c.exps) ∧ w'.cell? ⟨cb, 6, none⟩ = some (.bool c.secure))
                        (first
                          | exact cells12B hbB (by assumption)
                          | exact cells12B hbA (by assumption)
                          | exact cells12B hbA ⟨t3, t4, s2, s3, s4, k0, k1, k2, k3, k4, k5, k6⟩
                          | go_keep)
                        (first
                          | (go_at_call 25; refine (specHost_any st.sch st.host st.path _ (Nat.le_succ_of_le hso.out.1.hlen)).mono ?_; rintro e wA ⟨rfl, hbA⟩
                             rw [show (splitB st.host).1 = hostPart st.host from rfl, ← HHO.out])
                          | (go_at_call 32; refine (domainOf_any listed A cap ss h c _ (CellsAt.below (w := wc.drew) hA5.out hbA) HHL.out HDL.out HN.out HS.out).mono ?_; rintro e wB ⟨rfl, hbB⟩
                             rw [HRD.out]))
                      have hB6 : RowKit.Below wc.heap.size wc wB := ((Below.refl _ wc).drew.trans hbA).trans (hbB.mono (show wc.heap.size ≤ wA.heap.size from hbA.size))
                      have hsa6 := Lib.hid (hsa5.out.go hB6)
                      have hS6 := Lib.hid (hS5.out.below hB6)
                      clear hsa5 hS5 hC5 hB6 hbA hbB t3 t4 s2 s3 s4 k0 k1 k2 k3 k4 k5 k6 hA5
                      cases ok with
                      | false =>
                        have hj3 : Hid ((jarC listed ss r st (j + 1)).2 = sa) := by rw [Hid, hj2.out]; simp
                        have hsa7 : Hid (SpecAt w1 wB ⟨(jarC listed ss r st (j + 1)).1, endL r st.at', r.outs, true⟩ (.slice A9 L'.length c9) u9 u10) := by rw [hj1.out, ← HE.out]; exact hsa6.out
                        clear hsa6 hj2 hj1 HRD
                        go_wp2
                        exact ⟨⟨j + 1, by omega, by go_num, by rw [hj3.out], hsa7, hS6, hno4⟩, by simp [intOf]; omega⟩
                      | true =>
                        cases sa with
                        | false =>
                          have hj3 : Hid ((jarC listed ss r st (j + 1)).2 = false) := by rw [Hid, hj2.out]; simp
                          have hsa7 : Hid (SpecAt w1 wB ⟨(jarC listed ss r st (j + 1)).1, endL r st.at', r.outs, true⟩ (.slice A9 L'.length c9) u9 u10) := by rw [hj1.out, ← HE.out]; exact hsa6.out
                          clear hsa6 hj2 hj1 HRD
                          have hsa8 : Hid (∀ q, SpecAt w1 (wB.drewN q) ⟨(jarC listed ss r st (j + 1)).1, endL r st.at', r.outs, true⟩ (.slice A9 L'.length c9) u9 u10) := fun q => hsa7.out.go ((Below.refl _ wB).dN q)
                          have hS8 : Hid (∀ q, BlkAt (wB.drewN q) bS (encS st (.slice (some ⟨b3, o3, none⟩) st.cks.length cap3))) := fun q => hS6.out.below ((Below.refl _ wB).dN q)
                          go_upto_region 32 with (fail)
                          go_quiet (fail)
                          all_goals go_wp2
                          all_goals exact ⟨⟨j + 1, by omega, by go_num, by rw [hj3.out], hsa8.out _, hS8.out _, hno4⟩, by simp [intOf]; omega⟩
                        | true =>
                          have hj3 : Hid ((jarC listed ss r st (j + 1)).2 = !aboveB listed ss h d) := by rw [Hid, hj2.out]; simp
                          have t3 : wB.cell? ⟨bL, 0, none⟩ = some (.bool listed) := by
                            rw [hsa6.out.below.cell (show (⟨bL, 0, none⟩ : Addr).block < _ by show bL < _; omega)]; exact hc3.out
                          have t4 : wB.cell? ⟨bL + 1, 0, none⟩ = some (.slice A ss.length cap) := by
                            rw [hsa6.out.below.cell (show (⟨bL + 1, 0, none⟩ : Addr).block < _ from hl1)]; exact hc4.out
                          have hA6 : Hid (CellsAt wB A (strCells ss)) := (HSS.out.below (show RowKit.Below w.heap.size w w1 by rw [hbL]; exact hb1.out)).below hsa6.out.below
                          have s2 := hS6.out.cell 2 rfl
                          have s3 := hS6.out.cell 3 rfl
                          have s4 := hS6.out.cell 4 rfl
                          clear hj2 HRD
                          go_upto_region 32 with (fail)
                          go_region_held3 (fun w' => w'.cell? ⟨bL, 0, none⟩ = some (.bool listed) ∧ w'.cell? ⟨bL + 1, 0, none⟩ = some (.slice A ss.length cap) ∧ w'.cell? ⟨bS, 2, none⟩ = some (.string (bs st.sch)) ∧ w'.cell? ⟨bS, 3, none⟩ = some (.string (bs st.host)) ∧ w'.cell? ⟨bS, 4, none⟩ = some (.string (bs st.path)))
                            (first
                              | exact cells5B hbD (by assumption)
                              | exact cells5B hbC (by assumption)
                              | exact cells5B hbC ⟨t3, t4, s2, s3, s4⟩
                              | go_keep)
                            (first
                              | (go_at_call 25; refine (specHost_any st.sch st.host st.path _ (Nat.le_succ_of_le hso.out.1.hlen)).mono ?_; rintro e wC ⟨rfl, hbC⟩
                                 rw [show (splitB st.host).1 = hostPart st.host from rfl, ← HHO.out])
                              | (go_at_call 29; refine (above_any listed A cap ss h d _ (CellsAt.below (w := wB.drew) hA6.out hbC) HHL.out HDD.out HN.out HS.out).mono ?_; rintro e wD ⟨rfl, hbD⟩))
                          have hB7 : RowKit.Below wB.heap.size wB wD := ((Below.refl _ wB).drew.trans hbC).trans (hbD.mono (show wB.heap.size ≤ wC.heap.size from hbC.size))
                          have hsa7 : Hid (SpecAt w1 wD ⟨(jarC listed ss r st (j + 1)).1, endL r st.at', r.outs, true⟩ (.slice A9 L'.length c9) u9 u10) := by rw [hj1.out, ← HE.out]; exact hsa6.out.go hB7
                          have hS7 := Lib.hid (hS6.out.below hB7)
                          clear hsa6 hS6 hB7 hbC hbD t3 t4 s2 s3 s4 hA6 hj1
                          go_wp2
                          exact ⟨⟨j + 1, by omega, by go_num, by rw [hj3.out], hsa7, hS7, hno4⟩, by simp [intOf]; omega⟩
                  · obtain rfl : j = st.cks.length := by omega
                    have hsa6 : Hid (SpecAt w1 wr (specTo listed ss sts (k + 1)) u8 u9 u10) := by rw [hst2.out]; exact hsa.out.same rfl rfl rfl
                    have hsd : Hid ((specTo listed ss sts (k + 1)).said = (jarC listed ss r st st.cks.length).2) := by rw [Hid, hst2.out]
                    go_wp2
                    exact ⟨⟨k + 1, by omega, by go_num, by rw [hsd.out], hsa6⟩, by simp [intOf]; omega⟩
              | false =>
                have hst2 : Hid (specTo listed ss sts (k + 1) = ⟨jarL r st.at', endL r st.at', r.outs, r.said⟩) := by
                  rw [Hid, HSTEP.out, stepS, hset, hw]; rfl
                have hsa6 : Hid (SpecAt w1 wc (specTo listed ss sts (k + 1)) v8 u9 u10) := by rw [hst2.out]; exact hsa5.out.same rfl rfl rfl
                have hsd : Hid ((specTo listed ss sts (k + 1)).said = r.said) := by rw [Hid, hst2.out]
                clear hset hw
                go_wp2
                exact ⟨⟨k + 1, by omega, by go_num, by rw [hsd.out], hsa6⟩, by simp [intOf]; omega⟩
    · obtain rfl : k = l.length := by omega
      have hfin : Hid (specTo listed ss sts l.length = runS listed ss sts) := by rw [Hid, specTo, ← HLL.out, List.take_length]
      rw [hfin.out] at hsa ⊢
      go_wp2
      go_ret2
      exact ⟨_, _, _, w1, rfl, by rw [hbL]; exact hb1.out, hsa.out⟩
end Go.Proofs.YtckfgnbilcjdpaaGreatDoor
