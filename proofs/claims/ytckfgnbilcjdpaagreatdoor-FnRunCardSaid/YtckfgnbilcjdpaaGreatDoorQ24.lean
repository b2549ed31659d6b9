/- The contract of the reference's set. -/
import Derived.Test.YtckfgnbilcjdpaaGreatDoorQ23
import Derived.Test.YtckfgnbilcjdpaaGreatDoorQ09
import Derived.Deep.CutBlock
import Derived.Deep.RegionHeld3
namespace Go.Proofs.YtckfgnbilcjdpaaGreatDoor
open Go.RowKit
set_option maxRecDepth 100000

/-- The cells of a step. -/
def encS0 (s : Bool) (t : Int) (sch host path : List UInt8) (sl : Value) : List Value := [.bool s, .int .i64 t, .string (bs sch), .string (bs host), .string (bs path), sl]

set_option maxHeartbeats 8000000 in
theorem set_any (listed : Bool) (A : Option Addr) (cap : Nat) (ss : List (List UInt8)) (base : Nat) (v0 : Value) (L : List Kp) (s : Bool) (t : Int) (sch host path : List UInt8) (A3 : Option Addr) (n3 c3 : Nat) (c : Ck) (w : World)
    (hr : RowOf w base 51 encK 9 v0 L) (hbase : base ≤ w.heap.size) (hl : L.length ≤ 1000000) (hA : CellsAt w A (strCells ss)) (hn : ss.length ≤ 2147483648) (hs : ∀ s ∈ ss, s.length ≤ 2147483648)
    (hh : host.length ≤ 2147483648) (hp : path.length ≤ 2147483648) (hd : c.domain.length ≤ 2147483648) (ht0 : 0 ≤ t) (ht1 : t ≤ 4294967296) (ha0 : -9223372036854775808 ≤ c.age) (ha1 : c.age ≤ 4294967296) :
    Calls Tryz.prog 30 #[v0, .bool listed, .slice A ss.length cap, .agg (encS0 s t sch host path (.slice A3 n3 c3)).toArray, .agg (encI c).toArray] w fun e w' => ∃ v', e = .returned v' ∧ RowOf w' base 51 encK 9 v' (setS listed ss L ((hostPart host).map lowB) path t c) ∧ Keeps (fun j => v0.ownBlock = some j) w w' ∧ (∀ j, v'.ownBlock = some j → v0.ownBlock = some j ∨ w.heap.size ≤ j) := by
  have HR := Lib.hid hr; clear hr
  have HA := Lib.hid hA; clear hA
  have HS := Lib.hid hs; clear hs
  have HN := Lib.hid hn
  have HH := Lib.hid hh
  have HPP : Hid (path.length ≤ maxLen) := Nat.le_trans hp (by decide)
  have HDD := Lib.hid hd
  obtain ⟨h, hhost⟩ : ∃ h, h = (hostPart host).map lowB := ⟨_, rfl⟩
  have hhl : h.length ≤ 2147483648 := by rw [hhost, List.length_map]; exact Nat.le_trans (List.takeWhile_sublist _).length_le hh
  have HHL := Lib.hid hhl
  have HHO := Lib.hid hhost
  rw [← hhost]
  clear hhost
  simp only [encS0]
  have hS0 : BlkAt (w.alloc (.cells (encS0 s t sch host path (.slice A3 n3 c3)).toArray 40)) w.heap.size (encS0 s t sch host path (.slice A3 n3 c3)) := BlkAt.made _ _ _
  have hsz0 : (w.alloc (.cells (encS0 s t sch host path (.slice A3 n3 c3)).toArray 40)).heap.size = w.heap.size + 1 := by simp
  have hS1 : BlkAt ((w.alloc (.cells (encS0 s t sch host path (.slice A3 n3 c3)).toArray 40)).alloc (.cells (encI c).toArray 47)) w.heap.size (encS0 s t sch host path (.slice A3 n3 c3)) := hS0.alloc _
  have hC1 : BlkAt ((w.alloc (.cells (encS0 s t sch host path (.slice A3 n3 c3)).toArray 40)).alloc (.cells (encI c).toArray 47)) (w.heap.size + 1) (encI c) := by rw [← hsz0]; exact BlkAt.made _ _ _
  have hK1 : Keeps (fun j => v0.ownBlock = some j) w ((w.alloc (.cells (encS0 s t sch host path (.slice A3 n3 c3)).toArray 40)).alloc (.cells (encI c).toArray 47)) := ((Keeps.refl _ w).alloc _).alloc _
  have hB1 : RowKit.Below w.heap.size w ((w.alloc (.cells (encS0 s t sch host path (.slice A3 n3 c3)).toArray 40)).alloc (.cells (encI c).toArray 47)) := ((Below.refl _ _).alloc (Nat.le_refl _) _).alloc (by simp) _
  have hR1 := (HR.out.alloc (.cells (encS0 s t sch host path (.slice A3 n3 c3)).toArray 40)).alloc (.cells (encI c).toArray 47)
  simp only [encS0, encI] at hS1 hC1 hK1 hB1 hR1 ⊢
  have HS1 := Lib.hid hS1; have HC1 := Lib.hid hC1; have HK1 := Lib.hid hK1; have HB1 := Lib.hid hB1; have HR1 := Lib.hid hR1
  clear hS0 hsz0 hS1 hC1 hK1 hB1 hR1
  go_enter Tryz.func30, Tryz.ntmps30
  go_wp2_with fail
  refine (specHost_any sch host path _ HH.out).mono ?_
  rintro e w2 ⟨rfl, hb2⟩
  have HS2 := Lib.hid (HS1.out.below hb2)
  have HC2 := Lib.hid (HC1.out.below hb2)
  have HK2 := Lib.hid (HK1.out.below hb2)
  have HB2 := Lib.hid (HB1.out.trans (hb2.mono HB1.out.size))
  have HR2 := Lib.hid (HR1.out.below hb2)
  rw [show (splitB host).1 = hostPart host from rfl, ← HHO.out]
  clear HS1 HC1 HK1 HB1 HR1 hb2
  have hbC : w.heap.size + 1 < w2.heap.size := World.block_lt_of_cell? w2 _ (HC2.out.cell 0 rfl)
  generalize hbSe : w.heap.size = bS at *
  have c0 := HC2.out.cell 0 rfl
  have c1 := HC2.out.cell 1 rfl
  have c3' := HC2.out.cell 3 rfl
  have c6 := HC2.out.cell 6 rfl
  have s1 := HS2.out.cell 1 rfl
  go_upto_region 4 with (fail)
  have hK3 : Hid (BlkAt (w2.alloc (.cells (encK ⟨c.name, c.value, [], c.path, false, c.secure, false, 0, t⟩).toArray 51)) w2.heap.size (encK ⟨c.name, c.value, [], c.path, false, c.secure, false, 0, t⟩)) := BlkAt.made _ _ _
  have HS3 := Lib.hid (HS2.out.alloc (.cells (encK ⟨c.name, c.value, [], c.path, false, c.secure, false, 0, t⟩).toArray 51))
  have HC3 := Lib.hid (HC2.out.alloc (.cells (encK ⟨c.name, c.value, [], c.path, false, c.secure, false, 0, t⟩).toArray 51))
  have HK3 := Lib.hid (HK2.out.alloc (.cells (encK ⟨c.name, c.value, [], c.path, false, c.secure, false, 0, t⟩).toArray 51))
  have HB3 := Lib.hid (HB2.out.alloc (by omega) (.cells (encK ⟨c.name, c.value, [], c.path, false, c.secure, false, 0, t⟩).toArray 51))
  have HR3 := Lib.hid (HR2.out.alloc (.cells (encK ⟨c.name, c.value, [], c.path, false, c.secure, false, 0, t⟩).toArray 51))
  have hown2 := HR.out.own
  clear HS2 HC2 HK2 HB2 HR2 c0 c1 c3' c6 s1
  change Code.wp _ _ _ _ (w2.alloc (.cells (encK ⟨c.name, c.value, [], c.path, false, c.secure, false, 0, t⟩).toArray 51))
  generalize w2.alloc (.cells (encK ⟨c.name, c.value, [], c.path, false, c.secure, false, 0, t⟩).toArray 51) = w3 at hK3 HS3 HC3 HK3 HB3 HR3 ⊢
  generalize hkb : w2.heap.size = kb at hK3 hbC ⊢
  have hkS : bS < kb := by omega
  have hkC : bS + 1 < kb := by omega
  clear hkb
  have c0 := HC3.out.cell 0 rfl
  have c1 := HC3.out.cell 1 rfl
  have c2 := HC3.out.cell 2 rfl
  have c3' := HC3.out.cell 3 rfl
  have c4 := HC3.out.cell 4 rfl
  have c5 := HC3.out.cell 5 rfl
  have c6 := HC3.out.cell 6 rfl
  go_wp2_with fail
  refine (domainOf_any listed A cap ss h c _ (HA.out.below (show RowKit.Below w.heap.size w w3 by rw [hbSe]; exact HB3.out)) HHL.out HDD.out HN.out HS.out).mono ?_
  rintro e w4 ⟨rfl, hb4⟩
  obtain ⟨r, hrd⟩ : ∃ r, r = domS listed ss h c.domain := ⟨_, rfl⟩
  rw [← hrd]
  have HRD := Lib.hid hrd; clear hrd
  obtain ⟨d, al, ok⟩ := r
  have HK4b := Lib.hid (hK3.out.below hb4)
  have HS4 := Lib.hid (HS3.out.below hb4)
  have HC4 := Lib.hid (HC3.out.below hb4)
  have HK4 := Lib.hid (HK3.out.below hb4)
  have HR4 := Lib.hid (HR3.out.below hb4)
  have HB4 := Lib.hid (HB3.out.trans (hb4.mono (by have := HB3.out.size; omega)))
  clear hK3 HS3 HC3 HK3 HR3 HB3 hb4 c0 c1 c2 c3' c4 c5 c6
  obtain ⟨k2, f2⟩ := HK4b.out 2 _ rfl
  obtain ⟨k4, f4⟩ := HK4b.out 4 _ rfl
  go_upto_region 5 with (fail)
  have hkw : kb < w4.heap.size := World.block_lt_of_cell? w4 _ k2
  have HK5b := Lib.hid ((HK4b.out.setCell 2 (.string (bs d)) (by simp [encK])).setCell 4 (.bool al) (by simp [encK]))
  have HS5 := Lib.hid ((HS4.out.setOther 2 (.string (bs d)) (show bS ≠ kb by omega)).setOther 4 (.bool al) (show bS ≠ kb by omega))
  have HC5 := Lib.hid ((HC4.out.setOther 2 (.string (bs d)) (show bS + 1 ≠ kb by omega)).setOther 4 (.bool al) (show bS + 1 ≠ kb by omega))
  have hkk : w.heap.size ≤ kb := by omega
  have HK5 := Lib.hid ((HK4.out.setCell (b := kb) (Or.inr hkk) 2 (.string (bs d))).setCell (b := kb) (Or.inr hkk) 4 (.bool al))
  have hnk : ∀ g, v0.ownBlock = some g → g ≠ kb := by intro g hg e; have := (hown2 g hg).2; omega
  have HR5 : Hid (RowOf ((w4.setCell ⟨kb, 2, none⟩ (.string (bs d))).setCell ⟨kb, 4, none⟩ (.bool al)) base 51 encK 9 v0 L) :=
    HR4.out.keepsOwn (((Keeps.refl (fun j => j = kb) w4).setCell (b := kb) (Or.inl rfl) 2 (.string (bs d))).setCell (b := kb) (Or.inl rfl) 4 (.bool al)) (fun g hg e => hnk g hg e)
  change Hid (BlkAt _ kb (encK ⟨c.name, c.value, d, c.path, al, c.secure, false, 0, t⟩)) at HK5b
  clear HK4b HS4 HC4 HK4 HR4 HB4 k2 f2 k4 f4 hkw
  generalize (w4.setCell ⟨kb, 2, none⟩ (.string (bs d))).setCell ⟨kb, 4, none⟩ (.bool al) = w5 at HK5b HS5 HC5 HK5 HR5 ⊢
  cases ok with
  | false =>
    have HF : Hid (setS listed ss L h path t c = L) := by rw [Hid, setS, ← HRD.out]; rfl
    go_wp2
    go_ret
    exact ⟨_, rfl, by rw [HF.out]; exact HR5.out, HK5.out, fun j hj => Or.inl hj⟩
  | true =>
    have c3k := HK5b.out.cell 3 rfl
    have s4 := HS5.out.cell 4 rfl
    obtain ⟨cp, hcp⟩ : ∃ cp, cp = c.path := ⟨_, rfl⟩
    have c3q : w5.cell? ⟨kb, 3, none⟩ = some (.string (bs cp)) := by rw [hcp]; exact c3k
    obtain ⟨pb, hpb⟩ : ∃ pb, pb = (cp.head? != some 47) := ⟨_, rfl⟩
    have HPB2 : Hid (pb = (c.path.head? != some 47)) := by rw [Hid, ← hcp]; exact hpb
    have HPB := Lib.hid hpb; clear hpb hcp c3k
    go_upto_region 7 with (fail)
    go_cut [51] (fun q wx => q = .bool pb ∧ wx = w5)
    case first =>
      cases cp with
      | nil =>
        have hq : Hid (pb = true) := HPB.out
        go_wp2_with fail
        go_meet
        case rel => exact ⟨by rw [hq.out], rfl⟩
      | cons x r =>
        have hq : Hid (((x.toNat : Int) != 47) = pb) := by
          rw [Hid, HPB.out, List.head?_cons, bne, bne]
          congr 1
          rw [Bool.eq_iff_iff, Option.some_beq_some]
          exact (u8_eq (b := 47)).trans beq_iff_eq.symm
        go_wp2_with fail
        go_meet
        case rel => exact ⟨by rw [← hq.out], rfl⟩
    case rest =>
      obtain ⟨rfl, rfl⟩ := hcut
      clear c3q HPB
      obtain ⟨f3c, f3⟩ := HK5b.out 3 _ rfl
      go_upto_if 51 with (fail)
      go_cut [] (fun wx => Hid (BlkAt wx kb (encK ⟨c.name, c.value, d, pathS c path, al, c.secure, false, 0, t⟩)) ∧ Hid (BlkAt wx bS [.bool s, .int .i64 t, .string (bs sch), .string (bs host), .string (bs path), .slice A3 n3 c3]) ∧ Hid (BlkAt wx (bS + 1) [.string (bs c.name), .string (bs c.value), .string (bs c.domain), .string (bs c.path), .int .i64 c.age, .int .i64 c.exps, .bool c.secure]) ∧ Hid (Keeps (fun j => v0.ownBlock = some j) w wx) ∧ Hid (RowOf wx base 51 encK 9 v0 L))
      case first =>
        cases pb with
        | false =>
          have hq : Hid (c.path = pathS c path) := by
            have : (c.path.head? != some 47) = false := HPB2.out.symm
            rw [Hid, pathS, if_pos (by simpa using this)]
          go_wp2_with fail
          go_meet
          case rel => exact ⟨by rw [← hq.out]; exact HK5b, HS5, HC5, HK5, HR5⟩
        | true =>
          have hq : Hid (pathS c path = defPathS path) := by
            have : (c.path.head? != some 47) = true := HPB2.out.symm
            rw [Hid, pathS, if_neg (by simpa using this)]
          go_wp2_with fail
          refine (specDefaultPath_any path _ HPP.out).mono ?_
          rintro e w6 ⟨rfl, rfl⟩
          have r1 : Hid (BlkAt (wc.setCell ⟨kb, 3, none⟩ (.string (bs (defPathS path)))) kb (encK ⟨c.name, c.value, d, pathS c path, al, c.secure, false, 0, t⟩)) := by
            rw [hq.out]; exact HK5b.out.setCell 3 (.string (bs (defPathS path))) (by simp [encK])
          have r2 := Lib.hid (HS5.out.setOther 3 (.string (bs (defPathS path))) (show bS ≠ kb by omega))
          have r3 := Lib.hid (HC5.out.setOther 3 (.string (bs (defPathS path))) (show bS + 1 ≠ kb by omega))
          have r4 := Lib.hid (HK5.out.setCell (b := kb) (Or.inr hkk) 3 (.string (bs (defPathS path))))
          have r5 : Hid (RowOf (wc.setCell ⟨kb, 3, none⟩ (.string (bs (defPathS path)))) base 51 encK 9 v0 L) :=
            HR5.out.keepsOwn ((Keeps.refl (fun j => j = kb) wc).setCell (b := kb) (Or.inl rfl) 3 _) (fun g hg e => hnk g hg e)
          go_wp2_with fail
          go_meet
          case rel => exact ⟨r1, r2, r3, r4, r5⟩
      case rest =>
        clear HK5b HS5 HC5 HK5 HR5 f3c f3 s4
        obtain ⟨HK6b, HS6, HC6, HK6, HR6⟩ := hcut
        go_upto_block 0 with (fail)
        obtain ⟨k6, f6⟩ := HK6b.out 6 _ rfl
        obtain ⟨k7, f7⟩ := HK6b.out 7 _ rfl
        have c4 := HC6.out.cell 4 rfl
        have c5 := HC6.out.cell 5 rfl
        have s1 := HS6.out.cell 1 rfl
        have q1 : IntKind.i64.wrap (t + c.age) = t + c.age := IntWalk.i64_in _ (by omega)
        go_cut [] (fun wx => Hid (BlkAt wx kb (encK ⟨c.name, c.value, d, pathS c path, al, c.secure, (c.age != 0 || c.exps != 0), (if c.age != 0 then t + c.age else if c.exps != 0 then c.exps else 0), t⟩)) ∧ Hid (BlkAt wx bS [.bool s, .int .i64 t, .string (bs sch), .string (bs host), .string (bs path), .slice A3 n3 c3]) ∧ Hid (BlkAt wx (bS + 1) [.string (bs c.name), .string (bs c.value), .string (bs c.domain), .string (bs c.path), .int .i64 c.age, .int .i64 c.exps, .bool c.secure]) ∧ Hid (Keeps (fun j => v0.ownBlock = some j) w wx) ∧ Hid (RowOf wx base 51 encK 9 v0 L))
        case first =>
          have two : Hid (∀ x : Int, Hid (BlkAt ((wc.setCell ⟨kb, 6, none⟩ (.bool true)).setCell ⟨kb, 7, none⟩ (.int .i64 x)).drew kb (encK ⟨c.name, c.value, d, pathS c path, al, c.secure, true, x, t⟩)) ∧ Hid (BlkAt ((wc.setCell ⟨kb, 6, none⟩ (.bool true)).setCell ⟨kb, 7, none⟩ (.int .i64 x)).drew bS [.bool s, .int .i64 t, .string (bs sch), .string (bs host), .string (bs path), .slice A3 n3 c3]) ∧ Hid (BlkAt ((wc.setCell ⟨kb, 6, none⟩ (.bool true)).setCell ⟨kb, 7, none⟩ (.int .i64 x)).drew (bS + 1) [.string (bs c.name), .string (bs c.value), .string (bs c.domain), .string (bs c.path), .int .i64 c.age, .int .i64 c.exps, .bool c.secure]) ∧ Hid (Keeps (fun j => v0.ownBlock = some j) w ((wc.setCell ⟨kb, 6, none⟩ (.bool true)).setCell ⟨kb, 7, none⟩ (.int .i64 x)).drew) ∧ Hid (RowOf ((wc.setCell ⟨kb, 6, none⟩ (.bool true)).setCell ⟨kb, 7, none⟩ (.int .i64 x)).drew base 51 encK 9 v0 L)) := by
            intro x
            refine ⟨(HK6b.out.setCell 6 (.bool true) (by simp [encK])).setCell 7 (.int .i64 x) (by simp [encK]), (HS6.out.setOther 6 (.bool true) (show bS ≠ kb by omega)).setOther 7 (.int .i64 x) (show bS ≠ kb by omega), (HC6.out.setOther 6 (.bool true) (show bS + 1 ≠ kb by omega)).setOther 7 (.int .i64 x) (show bS + 1 ≠ kb by omega), ((HK6.out.setCell (b := kb) (Or.inr hkk) 6 (.bool true)).setCell (b := kb) (Or.inr hkk) 7 (.int .i64 x)).drew, ?_⟩
            exact HR6.out.keepsOwn (((Keeps.refl (fun j => j = kb) wc).setCell (b := kb) (Or.inl rfl) 6 (.bool true)).setCell (b := kb) (Or.inl rfl) 7 (.int .i64 x)).drew (fun g hg e => hnk g hg e)
          cases ha : (c.age != 0) with
          | true =>
            go_wp2_with fail
            go_region
            go_wp2_with fail
            go_meet
            case rel =>
              rw [ha]
              exact two.out (t + c.age)
          | false =>
            cases hx : (c.exps != 0) with
            | true =>
              go_wp2_with fail
              go_region
              go_wp2_with fail
              go_meet
              case rel =>
                rw [ha, hx]
                exact two.out c.exps
            | false =>
              go_wp2_with fail
              go_meet
              case rel =>
                rw [ha, hx]
                exact ⟨HK6b, HS6, HC6, HK6, HR6⟩
        case rest =>
          obtain ⟨k3, hk3⟩ : ∃ k3, k3 = mkK listed ss h path t c := ⟨_, rfl⟩
          have hkeq : mkK listed ss h path t c = ⟨c.name, c.value, d, pathS c path, al, c.secure, (c.age != 0 || c.exps != 0), (if c.age != 0 then t + c.age else if c.exps != 0 then c.exps else 0), t⟩ := by
            rw [mkK, ← HRD.out]
          rw [← hkeq, ← hk3] at hcut
          have hset : Hid (setS listed ss L h path t c = putS L k3 t) := by rw [Hid, setS, ← HRD.out, if_pos rfl, hk3]
          have hborn : k3.born = t := by rw [hk3]; rfl
          clear hkeq HRD HK6b HS6 HC6 HK6 HR6 k6 f6 k7 f7 c4 c5 s1 q1 hk3
          obtain ⟨HK7b, HS7, HC7, HK7, HR7⟩ := hcut
          have hpk : PredK (fun _ => False) 57 #[.pointer (some ⟨kb, 0, none⟩)] (sameB k3) wc L := by
            intro W x _ hW
            exact (same57 x k3 kb W (HK7b.out.keeps hW (fun h => h))).mono (fun e w' h => h)
          have hix := indexK_any 57 (enters_of Tryz.func57 (by kernel_rfl) rfl) #[.pointer (some ⟨kb, 0, none⟩)] (sameB k3) base v0 L wc HR7.out hl hpk
          have HIX := Lib.hid hix; clear hix hpk
          obtain ⟨ix, hixe⟩ : ∃ ix, ix = idxP (sameB k3) L := ⟨_, rfl⟩
          rw [← hixe] at HIX
          have hcs := idxP_cases (sameB k3) L
          rw [← hixe] at hcs
          obtain ⟨L1, hL1⟩ : ∃ L1, L1 = (if 0 ≤ ix then L.take ix.toNat ++ L.drop (ix.toNat + 1) else L) := ⟨_, rfl⟩
          obtain ⟨k4, hk4⟩ : ∃ k4, k4 = (if 0 ≤ ix then { k3 with born := (L.getD ix.toNat default).born } else k3) := ⟨_, rfl⟩
          have hput : Hid (setS listed ss L h path t c = L1 ++ (if livesB k4 t then [k4] else [])) := by
            have : livesB k4 t = livesB k3 t := by rw [hk4]; split <;> rfl
            rw [Hid, hset.out, putS, ← hixe, ← hL1, ← hk4, this]
          have HCS := Lib.hid hcs
          have HL1 := Lib.hid hL1
          have HK4e := Lib.hid hk4
          have hL1l : L1.length ≤ 1000000 := by
            rw [hL1]; split
            · rw [List.length_append, List.length_take, List.length_drop]; omega
            · exact hl
          clear hcs hL1 hk4 hixe hset hborn
          go_upto_if 80 with (first | (refine HIX.out.mono ?_; rintro e w8 ⟨rfl, hb8⟩))
          have HK8b := Lib.hid (HK7b.out.below hb8)
          have HS8 := Lib.hid (HS7.out.below hb8)
          have HK8 := Lib.hid (HK7.out.below hb8)
          have HR8 := Lib.hid (HR7.out.below hb8)
          clear HK7b HS7 HC7 HK7 HR7 hb8 HIX
          have hsz8 := HK8.out.size
          go_cut [0] (fun q wx => Hid (RowOf wx base 51 encK 9 q L1) ∧ Hid (BlkAt wx kb (encK k4)) ∧ Hid (BlkAt wx bS [.bool s, .int .i64 t, .string (bs sch), .string (bs host), .string (bs path), .slice A3 n3 c3]) ∧ Hid (Keeps (fun j => v0.ownBlock = some j) w wx) ∧ Hid (∀ j, q.ownBlock = some j → v0.ownBlock = some j ∨ w.heap.size ≤ j))
          case first =>
            rcases HCS.out with ⟨hi, _⟩ | ⟨i, hil, hi, _, _⟩
            · subst hi
              have e1 : Hid (L1 = L) := HL1.out
              have e2 : Hid (k4 = k3) := HK4e.out
              go_wp2_with fail
              go_meet
              case rel =>
                rw [e1.out, e2.out]
                exact ⟨HR8, HK8b, HS8, HK8, fun j hj => Or.inl hj⟩
            · subst hi
              have e1 : Hid (L1 = L.take i ++ L.drop (i + 1)) := by rw [Hid, HL1.out, if_pos (by omega)]; simp
              have e2 : Hid (k4 = { k3 with born := L[i].born }) := by
                rw [Hid, HK4e.out, if_pos (by omega), Int.toNat_natCast, List.getD_eq_getElem?_getD, List.getElem?_eq_getElem hil]; rfl
              rcases HR8.out.form with ⟨_, hn⟩ | ⟨g, cap0, rfl, _, _⟩
              · rw [hn] at hil; exact absurd hil (Nat.not_lt_zero _)
              have hrow := HR8.out.rowAt encK_len i hil
              have b8 := hrow 8 _ rfl
              obtain ⟨k8, f8⟩ := HK8b.out 8 _ rfl
              have hgk : g ≠ kb := hnk g rfl
              clear hrow
              go_upto_region 16 with (fail)
              have HK9b := Lib.hid (HK8b.out.setCell 8 (.int .i64 L[i].born) (by simp [encK]))
              have HS9 := Lib.hid (HS8.out.setOther 8 (.int .i64 L[i].born) (show bS ≠ kb by omega))
              have HK9 := Lib.hid (HK8.out.setCell (b := kb) (Or.inr hkk) 8 (.int .i64 L[i].born))
              have HR9 : Hid (RowOf (w8.setCell ⟨kb, 8, none⟩ (.int .i64 L[i].born)) base 51 encK 9 (.slice (some ⟨g, 0, none⟩) L.length cap0) L) :=
                HR8.out.keepsOwn ((Keeps.refl (fun j => j = kb) w8).setCell (b := kb) (Or.inl rfl) 8 (.int .i64 L[i].born)) (fun g hg e => hnk g hg e)
              have hkb9 : Hid (BlkAt (w8.setCell ⟨kb, 8, none⟩ (.int .i64 L[i].born)) kb (encK k4)) := by rw [e2.out]; exact HK9b.out
              clear HK9b HK8b HS8 HK8 HR8 b8 k8 f8
              generalize w8.setCell ⟨kb, 8, none⟩ (.int .i64 L[i].born) = w9 at HS9 HK9 HR9 hkb9 ⊢
              have hr9 : RowOf w9.drew base 51 encK 9 (.slice (some ⟨g, 0, none⟩) L.length cap0) L := HR9.out
              obtain ⟨v1, wa, v2, wb, hap1, hap2, hap3, hrb, hbb, hob⟩ := splice_run hr9 (by have := HK9.out.size; show base ≤ w9.heap.size; omega) hl hil
              have HAP1 := Lib.hid (hap1 49)
              have HAP2 := Lib.hid (hap2 49)
              have hbb' : RowKit.Below w9.heap.size w9 wb := (Below.refl _ w9).drew.trans hbb
              have g1 : Hid (RowOf wb base 51 encK 9 v2 L1) := by rw [e1.out]; exact hrb
              have g2 := Lib.hid (hkb9.out.below hbb')
              have g3 := Lib.hid (HS9.out.below hbb')
              have g4 := Lib.hid (HK9.out.below hbb')
              have hs9 := HK9.out.size
              have g5 : Hid (∀ j, v2.ownBlock = some j → Value.ownBlock (.slice (some ⟨g, 0, none⟩) L.length cap0) = some j ∨ w.heap.size ≤ j) := fun j hj => Or.inr (Nat.le_trans hs9 (hob j hj))
              have q3 : IntKind.i64.wrap ((i : Int) + 1) = (i : Int) + 1 := IntWalk.i64_in _ (by omega)
              have hcap0 : L.length ≤ cap0 := (HR9.out.rows encK_len).2.2.len
              have b1 : i ≤ cap0 := by omega
              have b2 : i + 1 ≤ L.length := hil
              have b3 : ((i : Int) + 1).toNat = i + 1 := by omega
              have b4 : (0 : Int) ≤ (i : Int) + 1 := by omega
              have b5 : (i : Int) + 1 ≤ (L.length : Int) := by omega
              have b6 : (i : Int) ≤ (cap0 : Int) := by omega
              have b7 : (i : Int) + 1 ≤ (cap0 : Int) := by omega
              have HAP3 := Lib.hid hap3
              clear hap1 hap2 hap3 hrb hbb hob hbb' hr9 HR9 HS9 HK9 hkb9
              by_cases hcc : cap0 = i + 1
              · have hL0 : L.length = i + 1 := by omega
                have HAP4 : Hid (∀ a n c, n = 0 → (Builtin.append_ #[49, 49] 49 #[v1, .slice a n c]).run Tryz.prog wa = .ok v2 wb) := fun a n c hn => HAP3.out (by omega) 49 a n c hn
                have b10 : cap0 - (i + 1) = 0 := by omega
                have b11 : cap0 ≤ i + 1 := by omega
                have HCC := Lib.hid hcc
                have HL0 := Lib.hid hL0
                clear hcc hL0
                go_region_held3 (fun _ => True) (trivial) (first | (refine step_append_run HAP1.out rfl rfl ?_) | (refine step_append_run (HAP4.out _ _ _ ?_) rfl rfl ?_; (first | rfl | (have := HL0.out; omega))))
                all_goals go_wp2_with fail
                all_goals first | (go_meet; exact ⟨g1, g2, g3, g4, g5⟩) | (rw [← HCC.out]; go_meet; exact ⟨g1, g2, g3, g4, g5⟩)
              · have b8 : i + 1 < cap0 := by omega
                have b9 : (i : Int) + 1 < (cap0 : Int) := by omega
                have b10 : ¬ cap0 - (i + 1) = 0 := by omega
                have b11 : ¬ cap0 ≤ i + 1 := by omega
                go_region_held3 (fun _ => True) (trivial) (first | (refine step_append_run HAP1.out rfl rfl ?_) | (refine step_append_run HAP2.out rfl rfl ?_))
                all_goals go_wp2_with fail
                go_meet
                case rel => exact ⟨g1, g2, g3, g4, g5⟩
          case rest =>
            obtain ⟨g1, g2, g3, g4, g5⟩ := hcut
            have HLX := Lib.hid (loadAt_agg Tryz.isAgg51 Tryz.sizeOf51 g2.out.row rfl)
            have s1 := g3.out.cell 1 rfl
            go_wp2_with (first | ((with_reducible refine wpL_load HLX.out ?_ ?_); rfl))
            refine (lives_any k4 t _).mono ?_
            rintro e w10 ⟨rfl, hb10⟩
            have h1 := Lib.hid (g1.out.below hb10)
            have h2 := Lib.hid (g2.out.below hb10)
            have h4 := Lib.hid (g4.out.below hb10)
            clear HLX s1 g1 g2 g3 g4 hb10
            cases hlv : livesB k4 t with
            | false =>
              have hq : Hid (setS listed ss L h path t c = L1) := by rw [Hid, hput.out, hlv]; simp
              clear hlv
              go_wp2
              go_ret
              exact ⟨_, rfl, by rw [hq.out]; exact h1.out, h4.out, g5.out⟩
            | true =>
              have hq : Hid (setS listed ss L h path t c = L1 ++ [k4]) := by rw [Hid, hput.out, hlv]; simp
              clear hlv
              have HLX := Lib.hid (loadAt_agg Tryz.isAgg51 Tryz.sizeOf51 h2.out.row rfl)
              have HBV := Lib.hid (buildK k4 w10)
              have hs10 := h4.out.size
              obtain ⟨v', w11, hap, hr11, hk11, hn11⟩ := appendK k4 w10.heap.size (h1.out.alloc (.cells (encK k4).toArray 51)) (by omega) (by simp; omega) (BlkAt.made _ _ _) 49
              have HAP := Lib.hid hap
              have r1 := Lib.hid hr11
              have r2 : Hid (Keeps (fun j => v0.ownBlock = some j) w w11) := (h4.out.alloc _).trans hk11 (fun j hj => g5.out j hj)
              have r3 : Hid (∀ j, v'.ownBlock = some j → v0.ownBlock = some j ∨ w.heap.size ≤ j) := by
                intro j hj
                rcases hn11 j hj with h | h
                · exact g5.out j h
                · right; rw [h]; simp; omega
              clear hap hr11 hk11 hn11 h1 h2 h4 g5
              go_wp2_with (first | ((with_reducible refine wpL_load HLX.out ?_ ?_); rfl) | ((with_reducible refine wpL_build1 HBV.out ?_ ?_); rfl) | ((with_reducible refine wpL_append HAP.out ?_ ?_ ?_); rfl; rfl))
              go_ret
              exact ⟨_, rfl, by rw [hq.out]; exact r1.out, r2.out, r3.out⟩
end Go.Proofs.YtckfgnbilcjdpaaGreatDoor
