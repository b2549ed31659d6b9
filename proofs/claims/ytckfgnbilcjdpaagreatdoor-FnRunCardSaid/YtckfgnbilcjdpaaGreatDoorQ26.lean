/- The contract of the reference's sent. -/
import Derived.Test.YtckfgnbilcjdpaaGreatDoorQ20
import Derived.Test.YtckfgnbilcjdpaaGreatDoorQ24
import Derived.Test.YtckfgnbilcjdpaaGreatDoorQ25
namespace Go.Proofs.YtckfgnbilcjdpaaGreatDoor
open Go.RowKit Go.Sort
set_option maxRecDepth 100000

theorem info94 : (Tryz.prog.info? 94).map (fun i => (i.zero, i.size, i.bytes)) = some (some (.agg #[.string ⟨#[]⟩, .string ⟨#[]⟩, .int .i64 0, .int .i64 0]), 4, 48) := by kernel_rfl
theorem buildN (x : Sn) (w : World) : (Instr.buildSlice 35 1 #[(0, .agg #[.string (bs x.name), .string (bs x.value), .int .i64 x.plen, .int .i64 x.born])]).run Tryz.prog w = .ok (.slice (some ⟨w.heap.size, 0, none⟩) 1 1) (w.alloc (.cells (encN x).toArray 94)) := by
  obtain ⟨i, hi, hz, hs, _⟩ := info_parts info94
  exact build_one (cs := encN x) Tryz.underlying35 hi hz hs rfl (by rw [encN_len]; decide) (by rw [encN_len]; decide) _ rfl w
theorem appendN {base : Nat} {v : Value} {L : List Sn} {w : World} (x : Sn) (g : Nat) (hr : RowOf w base 94 encN 4 v L) (hl : L.length ≤ 100000000) (hbase : base ≤ w.heap.size) (hx : BlkAt w g (encN x)) :
    ∀ ty, ∃ v' w', (Builtin.append_ #[35, 35] ty #[v, .slice (some ⟨g, 0, none⟩) 1 1]).run Tryz.prog w = .ok v' w' ∧ RowOf w' base 94 encN 4 v' (L ++ [x]) ∧ Keeps (fun j => v.ownBlock = some j) w w' ∧ (∀ j, v'.ownBlock = some j → v.ownBlock = some j ∨ j = w.heap.size) := by
  obtain ⟨i, hi, hz, hs, hb⟩ := info_parts info94
  exact append_one encN_len encN_one Tryz.underlying35 hi hz hs hb rfl (by decide) (by decide) x g hr hl hbase hx

/-- A kept cookie is sent to an address. -/
def sentB (https : Bool) (host path : List UInt8) (k : Kp) : Bool := (host == k.domain || (!k.alone && withinB host k.domain)) && pathB path k.path && (!k.secure || https)
def toSn (k : Kp) : Sn := ⟨k.name, k.value, k.path.length, k.born⟩
/-- What sent asks of a kept cookie. -/
structure KpOk (k : Kp) : Prop where
  dlen : k.domain.length ≤ 2147483648
  plen : k.path.length ≤ 2147483648
  pne : k.path ≠ []
  born : 0 ≤ k.born ∧ k.born ≤ 4294967296

set_option maxHeartbeats 8000000 in
theorem sent_any (base : Nat) (v : Value) (L : List Kp) (sch raw path : List UInt8) (w : World) (hr : RowOf w base 51 encK 9 v L) (hl : L.length ≤ 1000000) (hok : ∀ k ∈ L, KpOk k) (hrl : raw.length ≤ 2147483648) (hpl : path.length ≤ 2147483648) :
    Calls Tryz.prog 24 #[v, .agg #[.string (bs sch), .string (bs raw), .string (bs path)]] w fun e w' => ∃ v' M', e = .returned v' ∧ RowOf w' w.heap.size 94 encN 4 v' M' ∧ M'.Perm ((L.filter (sentB (sch == httpsB) ((hostPart raw).map lowB) (askPath path))).map toSn) ∧ SortR M' 0 M'.length ∧ RowKit.Below w.heap.size w w' := by
  have hv : ∃ A cap, v = .slice A L.length cap := by
    rcases hr.form with ⟨rfl, rfl⟩ | ⟨g, cap, rfl, _, _⟩
    · exact ⟨none, 0, rfl⟩
    · exact ⟨_, cap, rfl⟩
  obtain ⟨A, cap, rfl⟩ := hv
  have hrow : ∀ j (h : j < L.length), ∃ b, A = some ⟨b, 0, none⟩ ∧ b < w.heap.size ∧ RowAt w b (0 + j * 9) (encK L[j]) := by
    intro j h
    rcases hr.form with ⟨_, h2⟩ | ⟨b, cap', h1, h2, h3⟩
    · rw [h2] at h; exact absurd h (Nat.not_lt_zero _)
    · cases h1
      exact ⟨b, rfl, h3, by rw [Nat.zero_add]; exact hr.rowAt encK_len j h⟩
  have HROW := Lib.hid hrow; clear hrow hr
  have HOK := Lib.hid hok; clear hok
  have HRL := Lib.hid hrl
  have HPL : Hid ((askPath path).length ≤ maxLen) := by
    rw [Hid, askPath]; split
    · decide
    · exact Nat.le_trans hpl (by decide)
  obtain ⟨h, hhost⟩ : ∃ h, h = (hostPart raw).map lowB := ⟨_, rfl⟩
  have hhl : h.length ≤ 2147483648 := by rw [hhost, List.length_map]; exact Nat.le_trans (List.takeWhile_sublist _).length_le hrl
  have HHL := Lib.hid hhl
  have HHO := Lib.hid hhost
  rw [← hhost]
  clear hhost
  go_enter Tryz.func24, Tryz.ntmps24
  go_upto_region 2 with (fail)
  have hA : BlkAt (w.alloc (.cells #[.string (bs sch), .string (bs raw), .string (bs path)] 37)) w.heap.size [.string (bs sch), .string (bs raw), .string (bs path)] := BlkAt.made _ _ _
  have hB0 : Hid (RowKit.Below w.heap.size w (w.alloc (.cells #[.string (bs sch), .string (bs raw), .string (bs path)] 37))) := (Below.refl _ _).alloc (Nat.le_refl _) _
  generalize hwa : w.alloc (.cells #[.string (bs sch), .string (bs raw), .string (bs path)] 37) = wa at hA hB0 ⊢
  clear hwa
  generalize hbA : w.heap.size = bA at *
  have s0 := hA.cell 0 rfl
  have s1 := hA.cell 1 rfl
  have s2 := hA.cell 2 rfl
  go_region_held3 (fun w' => w'.cell? ⟨bA, 0, none⟩ = some (.string (bs sch)) ∧ w'.cell? ⟨bA, 1, none⟩ = some (.string (bs raw)) ∧ w'.cell? ⟨bA, 2, none⟩ = some (.string (bs path))) (first | go_keep | assumption | exact cells3 (by assumption) (by assumption))
    (first
      | (go_at_call 25; refine (specHost_any sch raw path _ HRL.out).mono ?_; rintro e w1 ⟨rfl, hb1⟩
         rw [show (splitB raw).1 = hostPart raw from rfl, ← HHO.out]))
  have hz1 : bA ≤ wa.heap.size := by have := hB0.out.size; omega
  have HA1 : Hid (BlkAt w1 bA [.string (bs sch), .string (bs raw), .string (bs path)]) := BlkAt.below (w := wa.drew) hA hb1
  have HB1 : Hid (RowKit.Below bA w w1) := hB0.out.drew.trans (hb1.mono hz1)
  clear hA hB0 hb1 s0 s1 s2
  go_upto_if 15 with (fail)
  go_cut [7] (fun q wx => q = .string (bs (askPath path)) ∧ wx = w1)
  case first =>
    cases path with
    | nil =>
      go_wp2_with fail
      go_meet
      case rel => exact ⟨rfl, rfl⟩
    | cons x r =>
      have hq : Hid (askPath (x :: r) = x :: r) := by rw [Hid, askPath, if_neg (by simp)]
      go_wp2_with fail
      go_meet
      case rel => exact ⟨by rw [hq.out], rfl⟩
  case rest =>
    obtain ⟨rfl, rfl⟩ := hcut
    obtain ⟨pp, hpp⟩ : ∃ pp, pp = askPath path := ⟨_, rfl⟩
    rw [← hpp] at HPL ⊢
    have HPPE := Lib.hid hpp
    clear hpp
    have hbs : bA ≤ wc.heap.size := by have := HB1.out.size; omega
    obtain ⟨zo, hzo⟩ : ∃ zo, zo = wc.heap.size := ⟨_, rfl⟩
    have HZO := Lib.hid hzo
    clear hzo
    go_wp2
    go_loopw [5, 18] (fun v5 vj wx => ∃ j : Nat, j ≤ L.length ∧ vj = .int .i64 j ∧ Hid (RowOf wx bA 94 encN 4 v5 (((L.take j).filter (sentB (sch == httpsB) h pp)).map toSn)) ∧ Hid (RowKit.Below wc.heap.size wc wx) ∧ Hid (∀ g, v5.ownBlock = some g → zo ≤ g)) (fun _ vj _ => L.length - (intOf vj).toNat)
    case atStart => exact ⟨0, Nat.zero_le _, rfl, RowOf.nil _ _ _ _ _, Below.refl _ _, fun g hg => by cases hg⟩
    case round =>
      obtain ⟨j, hj, rfl, hr5, hbx, hown⟩ := hrel
      by_cases hlt : j < L.length
      · obtain ⟨b, rfl, hbl, hrow⟩ := HROW.out j hlt
        have hwz : bA ≤ wr.heap.size := Nat.le_trans hbs hbx.out.size
        have hrowW := (hrow.below (show RowKit.Below w.heap.size w wc by rw [hbA]; exact HB1.out)).below hbx.out
        rw [Nat.zero_add] at hrowW
        obtain ⟨k, hk⟩ : ∃ k, k = L[j] := ⟨_, rfl⟩
        rw [← hk] at hrowW
        have hkok : Hid (KpOk k) := by rw [Hid, hk]; exact HOK.out _ (List.getElem_mem hlt)
        have HKE := Lib.hid hk; clear hk hrow
        have HL := Lib.hid (loadAt_agg Tryz.isAgg51 Tryz.sizeOf51 hrowW rfl); clear hrowW
        go_upto_region 8 with (first | ((with_reducible refine wpL_load HL.out ?_ ?_); rfl) | ((with_reducible refine wpL_store (storeNewK _ k) ?_ ?_ ?_); rfl; rfl))
        rw [put_none]
        have hK3 : Hid (BlkAt (wr.alloc (.cells (encK k).toArray 51)) wr.heap.size (encK k)) := BlkAt.made wr _ 51
        have hr3 : Hid (RowOf (wr.alloc (.cells (encK k).toArray 51)) bA 94 encN 4 u5 (((L.take j).filter (sentB (sch == httpsB) h pp)).map toSn)) := hr5.out.alloc _
        have hb3 : Hid (RowKit.Below wc.heap.size wc (wr.alloc (.cells (encK k).toArray 51))) := hbx.out.alloc hbx.out.size _
        clear hr5 hbx HL
        generalize hw3 : wr.alloc (.cells (encK k).toArray 51) = w3 at hK3 hr3 hb3 ⊢
        have hkb3 : wr.heap.size < w3.heap.size := World.block_lt_of_cell? w3 _ (hK3.out.cell 0 rfl)
        clear hw3
        generalize hkb : wr.heap.size = kb at hK3 hkb3 hwz ⊢
        clear hkb
        have x2 := hK3.out.cell 2 rfl
        have x3 := hK3.out.cell 3 rfl
        have x4 := hK3.out.cell 4 rfl
        have x5 := hK3.out.cell 5 rfl
        have a0 := (HA1.out.below hb3.out).cell 0 rfl
        go_cut [52] (fun q wx => q = .bool (sentB (sch == httpsB) h pp k) ∧ RowKit.Below w3.heap.size w3 wx)
        case first =>
          cases c1 : (h == k.domain) with
          | true =>
            go_wp2_with fail
            refine (pathMatches_any pp k.path _ (Nat.le_trans hkok.out.plen (by decide)) HPL.out hkok.out.pne).mono ?_
            rintro e wy ⟨rfl, rfl⟩
            cases hpm : pathB pp k.path with
            | false =>
              have hS : Hid (sentB (sch == httpsB) h pp k = false) := by rw [Hid, sentB, hpm, Bool.and_false, Bool.false_and]
              clear hpm
              go_wp2_with fail
              go_meet
              case rel => exact ⟨by rw [hS.out], Below.refl _ _⟩
            | true =>
              cases hse : k.secure with
              | false =>
                rw [hse] at x5
                have hS : Hid (sentB (sch == httpsB) h pp k = true) := by rw [Hid, sentB, hpm, hse, show (h == k.domain || (!k.alone && withinB h k.domain)) = true by rw [c1]; rfl]; rfl
                clear hpm
                go_wp2_with fail
                go_meet
                case rel => exact ⟨by rw [hS.out], Below.refl _ _⟩
              | true =>
                rw [hse] at x5
                have hS : Hid (sentB (sch == httpsB) h pp k = (sch == httpsB)) := by rw [Hid, sentB, hpm, hse, show (h == k.domain || (!k.alone && withinB h k.domain)) = true by rw [c1]; rfl]; rfl
                have ha0 : (sch == [104, 116, 116, 112, 115]) = (sch == httpsB) := rfl
                clear hpm
                cases hht : (sch == httpsB) with
                | true =>
                  rw [hht] at ha0 hS
                  go_wp2_with fail
                  go_meet
                  case rel => exact ⟨by rw [hht, hS.out], Below.refl _ _⟩
                | false =>
                  rw [hht] at ha0 hS
                  go_wp2_with fail
                  go_meet
                  case rel => exact ⟨by rw [hht, hS.out], Below.refl _ _⟩
          | false =>
            cases hal : k.alone with
            | true =>
              rw [hal] at x4
              have hS : Hid (sentB (sch == httpsB) h pp k = false) := by rw [Hid, sentB, c1, hal]; rfl
              go_wp2_with fail
              go_meet
              case rel => exact ⟨by rw [hS.out], Below.refl _ _⟩
            | false =>
              rw [hal] at x4
              go_wp2_with fail
              refine (within_any h k.domain _ HHL.out hkok.out.dlen).mono ?_
              rintro e wy ⟨rfl, hby⟩
              have hK4 := hK3.out.below hby
              have z3 := hK4.cell 3 rfl
              have z5 := hK4.cell 5 rfl
              have hA4 := ((HA1.out.below hb3.out).below hby).cell 0 rfl
              clear x2 x3 x4 x5 a0 hK4
              have x3 := z3
              have x5 := z5
              have a0 := hA4
              clear z3 z5 hA4
              have HBY := Lib.hid hby; clear hby
              cases hwi : withinB h k.domain with
              | false =>
                have hS : Hid (sentB (sch == httpsB) h pp k = false) := by rw [Hid, sentB, c1, hal, hwi]; rfl
                clear hwi
                go_wp2_with fail
                go_meet
                case rel => exact ⟨by rw [hS.out], HBY.out⟩
              | true =>
                go_wp2_with fail
                refine (pathMatches_any pp k.path _ (Nat.le_trans hkok.out.plen (by decide)) HPL.out hkok.out.pne).mono ?_
                rintro e wy ⟨rfl, rfl⟩
                cases hpm : pathB pp k.path with
                | false =>
                  have hS : Hid (sentB (sch == httpsB) h pp k = false) := by rw [Hid, sentB, hpm, Bool.and_false, Bool.false_and]
                  clear hpm
                  go_wp2_with fail
                  go_meet
                  case rel => exact ⟨by rw [hS.out], HBY.out⟩
                | true =>
                  cases hse : k.secure with
                  | false =>
                    rw [hse] at x5
                    have hS : Hid (sentB (sch == httpsB) h pp k = true) := by rw [Hid, sentB, hpm, hse, show (h == k.domain || (!k.alone && withinB h k.domain)) = true by rw [c1, hal, hwi]; rfl]; rfl
                    clear hpm
                    go_wp2_with fail
                    go_meet
                    case rel => exact ⟨by rw [hS.out], HBY.out⟩
                  | true =>
                    rw [hse] at x5
                    have hS : Hid (sentB (sch == httpsB) h pp k = (sch == httpsB)) := by rw [Hid, sentB, hpm, hse, show (h == k.domain || (!k.alone && withinB h k.domain)) = true by rw [c1, hal, hwi]; rfl]; rfl
                    have ha0 : (sch == [104, 116, 116, 112, 115]) = (sch == httpsB) := rfl
                    clear hpm
                    cases hht : (sch == httpsB) with
                    | true =>
                      rw [hht] at ha0 hS
                      go_wp2_with fail
                      go_meet
                      case rel => exact ⟨by rw [hht, hS.out], HBY.out⟩
                    | false =>
                      rw [hht] at ha0 hS
                      go_wp2_with fail
                      go_meet
                      case rel => exact ⟨by rw [hht, hS.out], HBY.out⟩
        case rest =>
          obtain ⟨rfl, hb4⟩ := hcut
          have hK4 := Lib.hid (hK3.out.below hb4)
          have hr4 := Lib.hid (hr3.out.below hb4)
          have hb4' := Lib.hid (hb3.out.trans (hb4.mono hb3.out.size))
          clear hK3 hr3 hb3 hb4 x2 x3 x4 x5 a0
          cases hsb : sentB (sch == httpsB) h pp k with
          | false =>
            have hL2 : Hid (((L.take (j + 1)).filter (sentB (sch == httpsB) h pp)).map toSn = ((L.take j).filter (sentB (sch == httpsB) h pp)).map toSn) := by
              rw [Hid, List.take_succ_eq_append_getElem hlt, List.filter_append, ← HKE.out]; simp [hsb]
            clear hsb
            go_wp2
            exact ⟨⟨j + 1, by omega, by go_num, by rw [hL2.out]; exact hr4, hb4', hown⟩, by simp [intOf]; omega⟩
          | true =>
            have hL2 : Hid (((L.take (j + 1)).filter (sentB (sch == httpsB) h pp)).map toSn = ((L.take j).filter (sentB (sch == httpsB) h pp)).map toSn ++ [toSn k]) := by
              rw [Hid, List.take_succ_eq_append_getElem hlt, List.filter_append, ← HKE.out]; simp [hsb]
            clear hsb
            have x0 := hK4.out.cell 0 rfl
            have x1 := hK4.out.cell 1 rfl
            have x3 := hK4.out.cell 3 rfl
            have x8 := hK4.out.cell 8 rfl
            have hz4 := hb4'.out.size
            have hlen : (((L.take j).filter (sentB (sch == httpsB) h pp)).map toSn).length ≤ 100000000 := by
              rw [List.length_map]
              have h1 := List.length_filter_le (sentB (sch == httpsB) h pp) (L.take j)
              rw [List.length_take] at h1
              omega
            have hbv : ∀ wz, (Instr.buildSlice 35 1 #[(0, .agg #[.string (bs k.name), .string (bs k.value), .int .i64 (k.path.length : Int), .int .i64 k.born])]).run Tryz.prog wz = .ok (.slice (some ⟨wz.heap.size, 0, none⟩) 1 1) (wz.alloc (.cells (encN (toSn k)).toArray 94)) := fun wz => buildN (toSn k) wz
            have hzz : zo ≤ wc.heap.size := by have := HZO.out; omega
            obtain ⟨v', w9, hap, hr9, hk9, hn9⟩ := appendN (toSn k) wc.heap.size (hr4.out.alloc (.cells (encN (toSn k)).toArray 94)) hlen (by simp; omega) (BlkAt.made _ _ _) 35
            have HBV := Lib.hid (hbv wc)
            have HAP := Lib.hid hap
            have r1 : Hid (RowOf w9 bA 94 encN 4 v' (((L.take (j + 1)).filter (sentB (sch == httpsB) h pp)).map toSn)) := by rw [hL2.out]; exact hr9
            have r2 := Lib.hid ((hb4'.out.alloc hz4 _).trans (hk9.toBelow (by simp; omega) (fun g hg => by have := hown.out g hg; have := HZO.out; omega)))
            have r3 : Hid (∀ g, v'.ownBlock = some g → zo ≤ g) := fun g hg => by
              rcases hn9 g hg with h | h
              · exact hown.out g h
              · rw [h]; simp; omega
            clear hap hr9 hk9 hn9 hbv
            go_wp2_with (first | ((with_reducible refine wpL_build1 HBV.out ?_ ?_); rfl) | ((with_reducible refine wpL_append HAP.out ?_ ?_ ?_); rfl; rfl))
            exact ⟨⟨j + 1, by omega, by go_num, r1, r2, r3⟩, by simp [intOf]; omega⟩
      · obtain rfl : j = L.length := by omega
        rw [List.take_length] at hr5
        have hok5 : ∀ x ∈ (L.filter (sentB (sch == httpsB) h pp)).map toSn, SnOk x := by
          intro x hx
          obtain ⟨k, hk, rfl⟩ := List.mem_map.1 hx
          have ho := HOK.out k (List.mem_filter.1 hk).1
          have := ho.plen
          exact ⟨by show (0 : Int) ≤ (k.path.length : Int); omega, by show (k.path.length : Int) ≤ _; omega, ho.born.1, ho.born.2⟩
        have hlen : ((L.filter (sentB (sch == httpsB) h pp)).map toSn).length ≤ 1000000 := by
          rw [List.length_map]
          have h1 := List.length_filter_le (sentB (sch == httpsB) h pp) L
          omega
        have hc := sortStable_any bA u5 _ wr hr5.out hlen hok5
        have HC := Lib.hid hc; clear hc hok5
        have hwz := hbx.out.size
        go_wp2_with fail
        refine HC.out.mono ?_
        rintro e w9 ⟨rfl, M', hp, hs, hr9, hk9⟩
        have r1 := Lib.hid hr9
        have r2 := Lib.hid hp
        have r3 : Hid (SortR M' 0 M'.length) := by rw [Hid, hp.length_eq]; exact hs
        have r4 : Hid (RowKit.Below bA w w9) := (HB1.out.trans (hbx.out.mono hbs)).trans (hk9.toBelow (Nat.le_trans hbs hwz) (fun g hg => by have := hown.out g hg; have := HZO.out; omega))
        clear hp hs hr9 hk9 HC
        go_wp2
        go_ret
        exact ⟨_, M', rfl, by rw [hbA]; exact r1.out, by rw [← HPPE.out]; exact r2.out, r3.out, by rw [hbA]; exact r4.out⟩
end Go.Proofs.YtckfgnbilcjdpaaGreatDoor
