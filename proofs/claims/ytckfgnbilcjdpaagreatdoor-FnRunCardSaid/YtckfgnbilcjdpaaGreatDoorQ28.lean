/- The contract of the reference's Valid. -/
import Derived.Test.YtckfgnbilcjdpaaGreatDoorQ10
import Derived.Test.YtckfgnbilcjdpaaGreatDoorQ27
import Derived.Deep.CutBlock
namespace Go.Proofs.YtckfgnbilcjdpaaGreatDoor
open Go.RowKit
set_option maxRecDepth 100000

structure CkV (listed : Bool) (c : Ck) : Prop where
  dom : plainB listed c.domain = true
  age : c.age ≤ 4294967296
  exps : 0 ≤ c.exps ∧ c.exps ≤ 4294967296
  path : c.path.head? = some 47 → isPathB c.path = true
structure StV (listed : Bool) (st : St) : Prop where
  at' : st.at' ≤ 4294967296
  host : isHostB (splitB st.host).1 = true
  port : digB (splitB st.host).2 = true
  path : isPathB st.path = true
  clen : st.cks.length ≤ 64
  cks : ∀ c ∈ st.cks, CkV listed c

theorem lastAt_take (l : List St) (j : Nat) (h : j < l.length) : lastAt 1 (l.take (j + 1)) = l[j].at' := by
  rw [List.take_succ_eq_append_getElem h, lastAt_snoc]
theorem Times.take {l : List St} {j : Nat} (h : j < l.length) (h1 : Times 1 (l.take j)) (h2 : lastAt 1 (l.take j) ≤ l[j].at') : Times 1 (l.take (j + 1)) := by
  rw [List.take_succ_eq_append_getElem h]; exact h1.snoc h2

set_option maxHeartbeats 8000000 in
theorem valid_any (listed : Bool) (ss : List (List UInt8)) (A : Option Addr) (cap : Nat) (v2 : Value) (l : List (St × Value)) (w : World)
    (hss : CellsAt w A (strCells ss)) (hn : ss.length ≤ 2147483647) (hs : ∀ s ∈ ss, s.length ≤ 2147483647) (hst : StSl w v2 l) (hln : l.length ≤ 2147483647) (hf : ∀ p ∈ l, FitSt p.1) :
    Calls Tryz.prog 6 #[.bool listed, .slice A ss.length cap, v2] w (BoolIf (SufOk ss ∧ l.length ≤ 64 ∧ Times 1 (l.map Prod.fst) ∧ ∀ st ∈ l.map Prod.fst, StV listed st) w) := by
  obtain ⟨A2, cap2, rfl, hrows, hcks⟩ := hst
  have HSS := Lib.hid hss; clear hss
  have HS := Lib.hid hs; clear hs
  have HR := Lib.hid hrows; clear hrows
  have HCK := Lib.hid hcks; clear hcks
  have HF := Lib.hid hf; clear hf
  have HLL : Hid ((l.map Prod.fst).length = l.length) := by rw [Hid, List.length_map]
  obtain ⟨sts, hsts⟩ : ∃ sts, sts = l.map Prod.fst := ⟨_, rfl⟩
  rw [← hsts] at HLL ⊢
  have HSTS := Lib.hid hsts; clear hsts
  go_enter Tryz.func6, Tryz.ntmps6
  go_wp2
  go_loopw [18] (fun i wx => ∃ j : Nat, j ≤ ss.length ∧ i = .int .i64 j ∧ Hid (RowKit.Below w.heap.size w wx) ∧ Hid (SufOk (ss.take j))) (fun i _ => ss.length - (intOf i).toNat)
  case atStart => exact ⟨0, Nat.zero_le _, rfl, Below.refl _ _, fun c hc => by cases hc⟩
  case round =>
    obtain ⟨j, hj, rfl, hB, hO⟩ := hrel
    by_cases hlt : j < ss.length
    · obtain ⟨b, off, rfl, hc⟩ := strCells_get (HSS.out.below hB.out) hlt
      obtain ⟨s, hsk⟩ : ∃ s, s = ss[j] := ⟨_, rfl⟩
      have hO1 : Hid (isHostB s = true → isAddrB s = false → s.map lowB = s → SufOk (ss.take (j + 1))) := by
        intro h1 h2 h3 x hx
        rw [List.take_succ_eq_append_getElem hlt, ← hsk] at hx
        rcases List.mem_append.1 hx with hx | hx
        · exact hO.out x hx
        · rw [List.mem_singleton] at hx; rw [hx]; exact ⟨h1, h2, h3⟩
      have HSL : Hid (s.length ≤ 2147483647) := by rw [Hid, hsk]; exact HS.out _ (List.getElem_mem hlt)
      rw [← hsk] at hc
      clear hsk hO
      go_upto_region 4 with (fail)
      go_cut [34] (fun q wx => ∃ bb, q = .bool bb ∧ Hid (RowKit.Below w.heap.size w wx) ∧ Hid (bb = false → SufOk (ss.take (j + 1))))
      case first =>
        go_wp2_with fail
        refine (isHost_any s _ (Nat.le_succ_of_le HSL.out)).mono ?_
        rintro e w1 ⟨rfl, hb1⟩
        have hB1 := Lib.hid (hB.out.trans (hb1.mono hB.out.size))
        clear hb1
        cases h1 : isHostB s with
        | false =>
          clear h1
          go_wp2_with fail
          go_meet
          case rel => exact ⟨true, rfl, hB1, fun h => by cases h⟩
        | true =>
          have H1 := Lib.hid (hO1.out h1)
          clear h1
          go_wp2_with fail
          refine (isAddress_any s _ (Nat.le_succ_of_le HSL.out)).mono ?_
          rintro e w2 ⟨rfl, hb2⟩
          have hB2 := Lib.hid (hB1.out.trans (hb2.mono hB1.out.size))
          clear hb2
          cases h2 : isAddrB s with
          | true =>
            clear h2
            go_wp2_with fail
            go_meet
            case rel => exact ⟨true, rfl, hB2, fun h => by cases h⟩
          | false =>
            have H2 := Lib.hid (H1.out h2)
            clear h2
            go_wp2_with fail
            refine (lower_any s _ (Nat.le_trans HSL.out (by decide))).mono ?_
            rintro e w3 ⟨rfl, hb3⟩
            have hB3 := Lib.hid (hB2.out.trans (hb3.mono hB2.out.size))
            clear hb3
            cases h3 : (s.map lowB == s) with
            | false =>
              go_wp2_with fail
              go_meet
              case rel => exact ⟨true, rfl, hB3, fun h => by cases h⟩
            | true =>
              have H3 := Lib.hid (H2.out (by simpa using h3))
              go_wp2_with fail
              go_meet
              case rel => exact ⟨false, rfl, hB3, fun _ => H3.out⟩
      case rest =>
        obtain ⟨bb, rfl, hB1, hbb⟩ := hcut
        clear hB hc
        cases bb with
        | true =>
          go_wp2
          go_ret
          exact ⟨false, rfl, hB1.out, fun h => by cases h⟩
        | false =>
          have hO2 := Lib.hid (hbb.out rfl)
          clear hbb
          go_wp2
          exact ⟨⟨j + 1, by omega, by go_num, hB1, hO2⟩, by simp [intOf]; omega⟩
    · obtain rfl : j = ss.length := by omega
      have HSU : Hid (SufOk ss) := by have := hO.out; rw [List.take_length] at this; exact this
      clear hO
      go_wp2
      go_loopw [9, 38] (fun v9 i wx => ∃ j : Nat, j ≤ l.length ∧ i = .int .i64 j ∧ v9 = .int .i64 (lastAt 1 (sts.take j)) ∧ Hid (RowKit.Below w.heap.size w wx) ∧ Hid (Times 1 (sts.take j)) ∧ Hid (∀ st ∈ sts.take j, StV listed st)) (fun _ i _ => l.length - (intOf i).toNat)
      case atStart => exact ⟨0, Nat.zero_le _, rfl, rfl, hB, trivial, fun c hc => by cases hc⟩
      case round =>
        clear hB
        obtain ⟨j, hj, rfl, rfl, hB, hT, hV⟩ := hrel
        by_cases hlt : j < l.length
        · rcases HR.out with h0 | ⟨b, o, rfl, hrow⟩
          · rw [h0] at hlt; exact absurd hlt (Nat.not_lt_zero _)
          obtain ⟨st, hst⟩ : ∃ st, st = l[j].1 := ⟨_, rfl⟩
          obtain ⟨A3, cap3, hsl, hck⟩ := (HCK.out l[j] (List.getElem_mem hlt)).below hB.out
          have hr := (hrow j hlt).below hB.out
          rw [← hst, hsl, ← hst] at hr
          rw [← hst] at hck
          have hlt' : j < sts.length := by rw [HLL.out]; exact hlt
          have hstk : sts[j] = st := by
            have hg : ∀ (L : List St) (h : L = l.map Prod.fst) (hk : j < L.length), L[j] = l[j].1 := by rintro L rfl hk; rw [List.getElem_map]
            rw [hst]; exact hg sts HSTS.out hlt'
          have hfit : Hid (FitSt st) := by rw [Hid, hst]; exact HF.out _ (List.getElem_mem hlt)
          obtain ⟨la, hla⟩ : ∃ la, la = lastAt 1 (sts.take j) := ⟨_, rfl⟩
          rw [← hla]
          have hla2 : Hid (lastAt 1 (sts.take (j + 1)) = st.at') := by rw [Hid, lastAt_take _ _ hlt', hstk]
          have hT1 : Hid (la ≤ st.at' → Times 1 (sts.take (j + 1))) := fun h => Times.take hlt' hT.out (by rw [← hla, hstk]; exact h)
          have hV1 : Hid (StV listed st → ∀ x ∈ sts.take (j + 1), StV listed x) := by
            intro h x hx
            rw [List.take_succ_eq_append_getElem hlt', hstk] at hx
            rcases List.mem_append.1 hx with hx | hx
            · exact hV.out x hx
            · rw [List.mem_singleton] at hx; rw [hx]; exact h
          have HCKK := Lib.hid hck
          have HL := Lib.hid (loadAt_agg Tryz.isAgg40 Tryz.sizeOf40 hr rfl)
          clear hr hst hrow hsl hck hstk hlt' hla hT hV
          go_upto_region 11 with (first | ((with_reducible refine wpL_load HL.out ?_ ?_); rfl) | ((with_reducible refine wpL_store (storeNewS _ st A3 st.cks.length cap3) ?_ ?_ ?_); rfl; rfl))
          rw [put_none]
          have hS3 : Hid (BlkAt (wr.alloc (.cells (encS st (.slice A3 st.cks.length cap3)).toArray 40)) wr.heap.size (encS st (.slice A3 st.cks.length cap3))) := BlkAt.made wr _ 40
          have hB3 := Lib.hid (hB.out.alloc hB.out.size (.cells (encS st (.slice A3 st.cks.length cap3)).toArray 40))
          have hcs3 : Hid (CkSl (wr.alloc (.cells (encS st (.slice A3 st.cks.length cap3)).toArray 40)) (.slice A3 st.cks.length cap3) st.cks) := CkSl.below ⟨A3, cap3, rfl, HCKK.out⟩ ((Below.refl _ wr).alloc (Nat.le_refl _) _)
          clear HL hB HCKK
          generalize wr.alloc (.cells (encS st (.slice A3 st.cks.length cap3)).toArray 40) = w3 at hS3 hB3 hcs3 ⊢
          generalize wr.heap.size = bS at hS3 ⊢
          have x3 := hS3.out.cell 3 rfl
          go_wp2_with fail
          refine (split_any st.host _ (Nat.le_trans hfit.out.host (by decide))).mono ?_
          rintro e w4 ⟨rfl, hb4⟩
          obtain ⟨hp, hhp⟩ : ∃ hp, hp = (splitB st.host).1 := ⟨_, rfl⟩
          obtain ⟨pt, hpt⟩ : ∃ pt, pt = (splitB st.host).2 := ⟨_, rfl⟩
          rw [← hhp, ← hpt]
          have hsp : (splitB st.host).1.length ≤ 2147483647 ∧ (splitB st.host).2.length ≤ 2147483648 := by
            have h1 : (splitB st.host).1.length ≤ st.host.length := (List.takeWhile_sublist _).length_le
            have h2 := hfit.out.host
            refine ⟨by omega, ?_⟩
            unfold splitB
            dsimp only
            split
            · have h3 := (List.dropWhile_sublist (l := st.host) (fun c => c != 58)).length_le
              rw [List.length_drop]
              omega
            · exact (by decide : [(48 : UInt8)].length ≤ 2147483648)
          rw [← hhp, ← hpt] at hsp
          have HSP := Lib.hid hsp
          have HHP := Lib.hid hhp
          have HPT := Lib.hid hpt
          have hS4 := Lib.hid (hS3.out.below hb4)
          have hB4 := Lib.hid (hB3.out.trans (hb4.mono hB3.out.size))
          have hcs4 := Lib.hid (hcs3.out.below hb4)
          clear hsp hhp hpt hS3 hB3 hcs3 hb4 x3
          have hb4s := hB4.out.size
          go_upto_region 12 with (fail)
          have x1 := hS4.out.cell 1 rfl
          have x4 := hS4.out.cell 4 rfl
          have x5 := hS4.out.cell 5 rfl
          go_cut [89] (fun q wx => ∃ bb, q = .bool bb ∧ Hid (RowKit.Below w4.heap.size w4 wx) ∧ Hid (bb = false → la ≤ st.at' ∧ st.at' ≤ 4294967296 ∧ isHostB hp = true ∧ digB pt = true ∧ isPathB st.path = true ∧ st.cks.length ≤ 64))
          case first =>
            by_cases h1 : la ≤ st.at'
            · by_cases h2 : st.at' ≤ 4294967296
              · go_wp2_with fail
                refine (isHost_any hp _ (Nat.le_succ_of_le HSP.out.1)).mono ?_
                rintro e w5 ⟨rfl, hb5⟩
                have hS5 := hS4.out.below hb5
                clear x1 x4 x5
                have x4 := hS5.cell 4 rfl
                have x5 := hS5.cell 5 rfl
                have HB5 := Lib.hid hb5
                clear hb5 hS5
                cases h3 : isHostB hp with
                | false =>
                  clear h3
                  go_wp2_with fail
                  go_meet
                  case rel => exact ⟨true, rfl, HB5, fun h => by cases h⟩
                | true =>
                  have H3 := Lib.hid h3; clear h3
                  go_wp2_with fail
                  refine (digits_any pt _ (Nat.le_trans HSP.out.2 (by decide))).mono ?_
                  rintro e w6 ⟨rfl, rfl⟩
                  cases h4 : digB pt with
                  | false =>
                    clear h4
                    go_wp2_with fail
                    go_meet
                    case rel => exact ⟨true, rfl, HB5, fun h => by cases h⟩
                  | true =>
                    have H4 := Lib.hid h4; clear h4
                    have HQ : Hid (isPathB st.path = true → st.cks.length ≤ 64 → la ≤ st.at' ∧ st.at' ≤ 4294967296 ∧ isHostB hp = true ∧ digB pt = true ∧ isPathB st.path = true ∧ st.cks.length ≤ 64) := fun a b => ⟨h1, h2, H3.out, H4.out, a, b⟩
                    go_wp2_with fail
                    all_goals
                      first
                      | (go_meet
                         exact ⟨true, rfl, HB5, fun h => by cases h⟩)
                      | (refine (isPath_any st.path _ (Nat.le_trans hfit.out.path (by decide))).mono ?_
                         rintro e w7 ⟨rfl, rfl⟩
                         by_cases h5 : isPathB st.path = true
                         · have HQ2 := Lib.hid (HQ.out h5)
                           rw [h5]
                           clear h5
                           by_cases h6 : st.cks.length ≤ 64
                           · have HQ3 := Lib.hid (HQ2.out h6)
                             go_wp2_with fail
                             go_meet
                             exact ⟨_, rfl, HB5, fun _ => HQ3.out⟩
                           · go_wp2_with fail
                             go_meet
                             exact ⟨_, rfl, HB5, fun h => by simp at h; omega⟩
                         · have h5' : isPathB st.path = false := by simpa using h5
                           rw [h5']
                           clear h5 h5'
                           go_wp2_with fail
                           go_meet
                           exact ⟨true, rfl, HB5, fun h => by cases h⟩)
              · have h2' : 4294967296 < st.at' := by omega
                go_wp2_with fail
                go_meet
                case rel => exact ⟨true, rfl, Below.refl _ _, fun h => by cases h⟩
            · have h1' : st.at' < la := by omega
              go_wp2_with fail
              go_meet
              case rel => exact ⟨true, rfl, Below.refl _ _, fun h => by cases h⟩
          case rest =>
            obtain ⟨bb, rfl, hB5, hbb⟩ := hcut
            have hS6 := Lib.hid (hS4.out.below hB5.out)
            have hcs6 := Lib.hid (hcs4.out.below hB5.out)
            have hB6 := Lib.hid (hB4.out.trans (hB5.out.mono hb4s))
            clear x1 x4 x5 hS4 hcs4 hB4 hb4s hB5
            cases bb with
            | true =>
              go_wp2
              go_ret
              exact ⟨false, rfl, hB6.out, fun h => by cases h⟩
            | false =>
              have HQ := Lib.hid (hbb.out rfl)
              clear hbb
              have x1 := hS6.out.cell 1 rfl
              have x5 := hS6.out.cell 5 rfl
              go_wp2
              go_loopw [95] (fun i wx => ∃ q : Nat, q ≤ st.cks.length ∧ i = .int .i64 q ∧ Hid (RowKit.Below w.heap.size w wx) ∧ Hid (CkSl wx (.slice A3 st.cks.length cap3) st.cks) ∧ Hid (∀ c ∈ st.cks.take q, CkV listed c)) (fun i _ => st.cks.length - (intOf i).toNat)
              case atStart => exact ⟨0, Nat.zero_le _, rfl, hB6, hcs6.out, fun c hc => by cases hc⟩
              case round =>
                clear hB6 hcs6 hS6 x1 x5
                obtain ⟨q, hq, rfl, hB, hcs, hV⟩ := hrel
                have hq64 := HQ.out.2.2.2.2.2
                by_cases hltq : q < st.cks.length
                · obtain ⟨A4, cap4, he, hrw⟩ := hcs.out
                  cases he
                  rcases hrw with h0 | ⟨b3, o3, rfl, hrows3⟩
                  · rw [h0] at hltq; exact absurd hltq (Nat.not_lt_zero _)
                  obtain ⟨c, hc⟩ : ∃ c, c = st.cks[q] := ⟨_, rfl⟩
                  have hrow := hrows3 q hltq
                  rw [← hc] at hrow
                  have hfc : Hid (FitC c) := by rw [Hid, hc]; exact hfit.out.cks _ (List.getElem_mem _)
                  have hVc : Hid (CkV listed c → ∀ x ∈ st.cks.take (q + 1), CkV listed x) := by
                    intro h x hx
                    rw [List.take_succ_eq_append_getElem hltq, ← hc] at hx
                    rcases List.mem_append.1 hx with hx | hx
                    · exact hV.out x hx
                    · rw [List.mem_singleton] at hx; rw [hx]; exact h
                  have HL := Lib.hid (loadAt_agg Tryz.isAgg47 Tryz.sizeOf47 hrow rfl)
                  clear hrow hrows3 hc hV
                  go_upto_region 18 with (first | ((with_reducible refine wpL_load HL.out ?_ ?_); rfl) | ((with_reducible refine wpL_store (storeNewI _ c) ?_ ?_ ?_); rfl; rfl))
                  rw [put_none]
                  have hC7 : Hid (BlkAt (wr.alloc (.cells (encI c).toArray 47)) wr.heap.size (encI c)) := BlkAt.made wr _ 47
                  have hB7 := Lib.hid (hB.out.alloc hB.out.size (.cells (encI c).toArray 47))
                  have hcs7 := Lib.hid (hcs.out.below ((Below.refl _ wr).alloc (Nat.le_refl _) (.cells (encI c).toArray 47)))
                  clear hB hcs HL
                  generalize wr.alloc (.cells (encI c).toArray 47) = w7 at hC7 hB7 hcs7 ⊢
                  generalize wr.heap.size = cb at hC7 ⊢
                  have hb7s := hB7.out.size
                  obtain ⟨nm, hnm⟩ : ∃ nm, nm = c.name := ⟨_, rfl⟩
                  have hnl : nm.length ≤ 2147483647 := by rw [hnm]; exact hfc.out.name
                  have k0 : w7.cell? ⟨cb, 0, none⟩ = some (.string (bs nm)) := by rw [hnm]; exact hC7.out.cell 0 rfl
                  have k1 := hC7.out.cell 1 rfl
                  have k2 := hC7.out.cell 2 rfl
                  clear hnm
                  go_cut [147] (fun v wx => ∃ bb, v = .bool bb ∧ Hid (RowKit.Below w7.heap.size w7 wx) ∧ Hid (bb = false → CkV listed c))
                  case first =>
                    cases nm with
                    | nil =>
                      go_wp2_with fail
                      go_meet
                      case rel => exact ⟨true, rfl, Below.refl _ _, fun h => by cases h⟩
                    | cons nx nr =>
                      have HNL : Hid ((nx :: nr).length ≤ maxLen) := Nat.le_trans hnl (by decide)
                      clear hnl
                      go_wp2_with fail
                      refine (isWord_any (nx :: nr) _ HNL.out).mono ?_
                      rintro e w8 ⟨rfl, rfl⟩
                      generalize (nx :: nr).all wordCh = b1
                      cases b1 with
                      | false =>
                        go_wp2_with fail
                        go_meet
                        case rel => exact ⟨true, rfl, Below.refl _ _, fun h => by cases h⟩
                      | true =>
                        go_wp2_with fail
                        refine (isWord_any c.value _ (Nat.le_trans hfc.out.value (by decide))).mono ?_
                        rintro e w8 ⟨rfl, rfl⟩
                        generalize c.value.all wordCh = b2
                        cases b2 with
                        | false =>
                          go_wp2_with fail
                          go_meet
                          case rel => exact ⟨true, rfl, Below.refl _ _, fun h => by cases h⟩
                        | true =>
                          go_wp2_with fail
                          refine (plainDomain_any listed c.domain _ (Nat.le_succ_of_le hfc.out.dom)).mono ?_
                          rintro e w8 ⟨rfl, hb8⟩
                          have HB8 := Lib.hid hb8
                          have hC8 := Lib.hid (hC7.out.below hb8)
                          clear hb8 k0 k1 k2
                          cases hpl : plainB listed c.domain with
                          | false =>
                            clear hpl
                            go_wp2_with fail
                            go_meet
                            case rel => exact ⟨true, rfl, HB8, fun h => by cases h⟩
                          | true =>
                            have HPL := Lib.hid hpl; clear hpl
                            have k4 := hC8.out.cell 4 rfl
                            have k5 := hC8.out.cell 5 rfl
                            obtain ⟨pp, hpp⟩ : ∃ pp, pp = c.path := ⟨_, rfl⟩
                            have k3 : w8.cell? ⟨cb, 3, none⟩ = some (.string (bs pp)) := by rw [hpp]; exact hC8.out.cell 3 rfl
                            have HPP : Hid (pp.length ≤ maxLen) := by rw [Hid, hpp]; exact Nat.le_trans hfc.out.path (by decide)
                            by_cases ha : c.age ≤ 4294967296
                            · by_cases he0 : 0 ≤ c.exps
                              · by_cases he1 : c.exps ≤ 4294967296
                                · have HQC : Hid ((pp.head? = some 47 → isPathB pp = true) → CkV listed c) := fun h => ⟨HPL.out, ha, ⟨he0, he1⟩, by rw [← hpp]; exact h⟩
                                  clear hpp
                                  go_wp2_with fail
                                  refine (isPath_any pp _ HPP.out).mono ?_
                                  rintro e w9 ⟨rfl, rfl⟩
                                  cases h5 : isPathB pp with
                                  | true =>
                                    have HQ2 := Lib.hid (HQC.out (fun _ => h5))
                                    clear h5
                                    go_wp2_with fail
                                    go_meet
                                    case rel => exact ⟨_, rfl, HB8, fun _ => HQ2.out⟩
                                  | false =>
                                    cases pp with
                                    | nil => exact absurd h5 (by decide)
                                    | cons y yr =>
                                      have HQ2 : Hid (((y.toNat : Int) == 47) = false → CkV listed c) := fun h => HQC.out (fun hh => by
                                        rw [List.head?_cons, Option.some.injEq] at hh
                                        subst hh
                                        exact absurd h (by decide))
                                      clear h5
                                      go_wp2_with fail
                                      go_meet
                                      case rel => exact ⟨_, rfl, HB8, fun h => HQ2.out (by simp at h; simpa using h.2)⟩
                                · have he1' : 4294967296 < c.exps := by omega
                                  go_wp2_with fail
                                  go_meet
                                  case rel => exact ⟨true, rfl, HB8, fun h => by cases h⟩
                              · have he0' : c.exps < 0 := by omega
                                go_wp2_with fail
                                go_meet
                                case rel => exact ⟨true, rfl, HB8, fun h => by cases h⟩
                            · have ha' : 4294967296 < c.age := by omega
                              go_wp2_with fail
                              go_meet
                              case rel => exact ⟨true, rfl, HB8, fun h => by cases h⟩
                  case rest =>
                    obtain ⟨bb, rfl, hB8, hbb⟩ := hcut
                    have hB9 := Lib.hid (hB7.out.trans (hB8.out.mono hb7s))
                    have hcs9 := Lib.hid (hcs7.out.below hB8.out)
                    clear hB7 hcs7 hC7 hB8 k0 k1 k2 hb7s
                    cases bb with
                    | true =>
                      go_wp2
                      go_ret
                      exact ⟨false, rfl, hB9.out, fun h => by cases h⟩
                    | false =>
                      have hV9 := Lib.hid (hVc.out (hbb.out rfl))
                      clear hbb
                      go_wp2
                      exact ⟨⟨q + 1, by omega, by go_num, hB9, hcs9, hV9⟩, by simp [intOf]; omega⟩
                · obtain rfl : q = st.cks.length := by omega
                  rw [List.take_length] at hV
                  have hT2 := Lib.hid (hT1.out HQ.out.1)
                  have hV2 := Lib.hid (hV1.out ⟨HQ.out.2.1, by rw [← HHP.out]; exact HQ.out.2.2.1, by rw [← HPT.out]; exact HQ.out.2.2.2.1, HQ.out.2.2.2.2.1, hq64, hV.out⟩)
                  clear hV
                  go_wp2
                  exact ⟨⟨j + 1, by omega, by go_num, by rw [hla2.out], hB, hT2, hV2⟩, by simp [intOf]; omega⟩
        · obtain rfl : j = l.length := by omega
          have HFI : Hid (Times 1 sts ∧ ∀ st ∈ sts, StV listed st) := by
            have h1 := hT.out
            have h2 := hV.out
            have h3 : sts.take l.length = sts := by rw [← HLL.out, List.take_length]
            rw [h3] at h1 h2
            exact ⟨h1, h2⟩
          clear hT hV
          go_wp2
          go_ret
          exact ⟨decide ((l.length : Int) ≤ 64), rfl, hB.out, fun h => ⟨HSU.out, by rw [decide_eq_true_eq] at h; omega, HFI.out⟩⟩
end Go.Proofs.YtckfgnbilcjdpaaGreatDoor
