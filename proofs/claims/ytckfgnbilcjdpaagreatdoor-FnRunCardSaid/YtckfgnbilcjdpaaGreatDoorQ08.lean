/- The contract of setCookies. -/
import Derived.Test.YtckfgnbilcjdpaaGreatDoorQ05
namespace Go.Proofs.YtckfgnbilcjdpaaGreatDoor
open Go.RowKit
set_option maxRecDepth 100000

set_option maxHeartbeats 8000000 in
theorem setCookies_web (jb eb : Nat) (pv : Value) (listed : Bool) (ss : List (List UInt8)) (JB : List (List UInt8 × Nat × List Ent)) (seq : Nat) (wb w : World) (t0 : TypeId) (v0 : Value)
    (ub : Nat) (A : Option Addr) (cap m : Nat) (cbs : List Nat) (cs : List Ck) (s : Int) (raw h sch path : List UInt8)
    (hB : Below wb.heap.size wb w) (hg : wb.cell? ⟨0, 0, none⟩ = some (.iface t0 v0)) (hp : PslAt wb pv listed ss) (hn : ss.length ≤ maxLen) (hs : ∀ s ∈ ss, s.length ≤ maxLen)
    (hj : JarMem w jb eb pv JB seq) (hbase : ∀ k ∈ footJ jb eb JB, wb.heap.size ≤ k ∧ k < m)
    (hc : CksAt w A cbs cs m) (hok : ∀ c ∈ cs, CkSm c) (hcs : 0 < cs.length) (hcl : cs.length ≤ 64) (hseq : seq ≤ 1000000)
    (hu : RowAt w ub 0 [.string (bs sch), .string (bs raw), .string (bs path)]) (hsch : sch = httpB ∨ sch = httpsB)
    (hgh : GoodHost h) (hraw : HostOf raw h) (hrl : raw.length ≤ 2147483647) (hpl : path.length ≤ 2147483647)
    (hs0 : 0 ≤ s) (hs1 : s ≤ 4294967296) :
    Calls Tryz.prog 59 #[.pointer (some ⟨jb, 0, none⟩), .pointer (some ⟨ub, 0, none⟩), .slice A cs.length cap, tm s 0] w fun e w' => e = .returned (.tuple #[]) ∧ JarTo w w' jb eb pv JB (setA listed ss (strip JB) seq (h.map lowB) (defPath path) s cs) := by
  have u0 := hu 0 _ rfl
  have u1 := hu 1 _ rfl
  have u2 := hu 2 _ rfl
  rw [Nat.zero_add] at u0 u1 u2
  have hl0 : ((cs.length : Int) == 0) = false := by rw [Bool.eq_false_iff]; intro h; rw [beq_iff_eq] at h; omega
  have hub : ub < w.heap.size := World.block_lt_of_cell? w _ u0
  have hjb : jb < w.heap.size := World.block_lt_of_cell? w _ (hj.jar 0 _ rfl).1
  have HU := Lib.hid hu; clear hu
  have HB := Lib.hid hB; clear hB
  have HG := Lib.hid hg; clear hg
  have HP := Lib.hid hp; clear hp
  have HN := Lib.hid hn; clear hn
  have HS := Lib.hid hs; clear hs
  have HJ := Lib.hid hj; clear hj
  have HBA := Lib.hid hbase; clear hbase
  have HC := Lib.hid hc; clear hc
  have HO := Lib.hid hok; clear hok
  have HGH := Lib.hid hgh; clear hgh
  have HR := Lib.hid hraw; clear hraw
  rcases hsch with rfl | rfl
  all_goals
    go_enter Tryz.func59, Tryz.ntmps59
    go_wp2_with fail
    have BB : Below w.heap.size w (w.alloc (.cells #[.int .i64 s, .int .i64 0] 83)) := (Below.refl _ _).alloc (Nat.le_refl _) _
    have B0 := BlkAt.made w [.int .i64 s, .int .i64 0] 83
    refine (canonicalHost_yes raw h HGH.out HR.out _ (Nat.le_trans hrl (by decide))).mono ?_
    rintro e w1 ⟨rfl, hb⟩
    have HK1 := Lib.hid (BB.trans (hb.mono BB.size))
    have HX1 := Lib.hid (B0.below hb)
    clear BB B0 hb
    have h1 : (58 : UInt8) ∉ h.map lowB := HGH.out.low.no not58
    have h2 : (37 : UInt8) ∉ h.map lowB := HGH.out.low.no not37
    have hhl : (h.map lowB).length ≤ 2147483647 := by
      rcases HR.out with e | ⟨p, e, _⟩
      · rw [← e]; simpa using hrl
      · rw [e] at hrl; simp at hrl ⊢; omega
    have H58 := Lib.hid h1; clear h1
    have H37 := Lib.hid h2; clear h2
    have hj0 : w1.cell? ⟨jb, 0, none⟩ = some pv := by rw [HK1.out.cell (p := ⟨jb, 0, none⟩) hjb]; exact (HJ.out.jar 0 _ rfl).1
    go_wp2_with fail
    refine (jarKey_any pv listed ss (h.map lowB) H58.out H37.out _ (Nat.le_trans hhl (by decide)) ((HP.out.below HB.out).below HK1.out) HN.out HS.out).mono ?_
    rintro e w2 ⟨rfl, rfl⟩
    have u2' : w1.cell? ⟨ub, 2, none⟩ = some (.string (bs path)) := by rw [HK1.out.cell (p := ⟨ub, 2, none⟩) hub]; exact u2
    go_wp2_with fail
    refine (defaultPath_any path _ (Nat.le_trans hpl (by decide))).mono ?_
    rintro e w2 ⟨rfl, rfl⟩
    clear u0 u1 u2 u2'
    obtain ⟨key, hkey⟩ : ∃ key, key = keyOf listed ss (h.map lowB) := ⟨_, rfl⟩
    obtain ⟨dp, hdp⟩ : ∃ dp, dp = defPath path := ⟨_, rfl⟩
    rw [← hkey, ← hdp]
    have hdpl : dp.length ≤ 2147483647 := by
      rw [hdp]; unfold defPath; repeat' split
      all_goals simp
      omega
    have HKEY := Lib.hid hkey; clear hkey
    have HDP := Lib.hid hdp; clear hdp
    have hj1 : w1.cell? ⟨jb, 1, none⟩ = some (.map (some eb)) := by rw [HK1.out.cell (p := ⟨jb, 1, none⟩) hjb]; exact (HJ.out.jar 1 _ rfl).1
    obtain ⟨ees, eclk, hem⟩ := HJ.out.ent
    have HEM := Lib.hid (hem.below HK1.out); clear hem
    obtain ⟨sv, hsv, hsub⟩ : ∃ sv, (look (kvJ JB) key).getD (.map none) = sv ∧ SubX jb ((findJ JB key).map Prod.fst) w1.heap.size w1 sv ((findJ JB key).map Prod.snd) := by
      refine ⟨_, rfl, ?_⟩
      rw [look_kvJ]
      cases hf : findJ JB key with
      | none => exact ⟨rfl, rfl⟩
      | some p =>
        obtain ⟨b, L⟩ := p
        have hm := findJ_mem hf
        obtain ⟨es, clk, hmm⟩ := HJ.out.subs _ hm
        refine ⟨b, es, clk, rfl, hmm.below HK1.out, ?_, Or.inl rfl⟩
        have hnd := HJ.out.nod
        rw [footJ, List.nodup_cons] at hnd
        intro e
        exact hnd.1 (List.mem_cons_of_mem _ (List.mem_map.2 ⟨_, hm, e⟩))
    have HLK := Lib.hid (HEM.out.lookup Tryz.underlying106 Tryz.zeroValue115 key)
    rw [hsv] at HLK
    have hmb : ∀ k, SetS jb ((findJ JB key).map Prod.fst) k → wb.heap.size ≤ k ∧ k < m := by
      rintro k (rfl | hk)
      · exact HBA.out _ (List.mem_cons_self ..)
      · cases hf : findJ JB key with
        | none => rw [hf] at hk; cases hk
        | some p =>
          rw [hf] at hk
          obtain ⟨b, L⟩ := p
          cases hk
          exact HBA.out _ (List.mem_cons_of_mem _ (List.mem_cons_of_mem _ (List.mem_map.2 ⟨_, findJ_mem hf, rfl⟩)))
    have HMB := Lib.hid hmb; clear hmb
    have HSB := Lib.hid hsub; clear hsub
    have hjr : BlkAt w1 jb [pv, .map (some eb), .int .u64 seq] := HJ.out.jar.below HK1.out
    have HJR := Lib.hid hjr; clear hjr
    clear hsv
    go_wp2_with (first | ((with_reducible refine wpL_lookup HLK.out ?_ ?_ ?_); rfl; rfl))
    clear hj0 hj1 HLK
    obtain ⟨st0, hst0⟩ : ∃ st0 : SubSt, st0 = ⟨(findJ JB key).map Prod.snd, false, seq⟩ := ⟨_, rfl⟩
    obtain ⟨mb0, hmb0⟩ : ∃ mb0, mb0 = (findJ JB key).map Prod.fst := ⟨_, rfl⟩
    rw [← hmb0] at HSB HMB
    obtain ⟨st, hst⟩ : ∃ st : Nat → SubSt, st = fun k => setTo listed ss (h.map lowB) dp s st0 cs k := ⟨_, rfl⟩
    have S0 : Hid (st 0 = st0) := by rw [Hid, hst]; rfl
    have SS : Hid (∀ k (hk : k < cs.length), st (k + 1) = setOne listed ss (h.map lowB) dp s (st k) cs[k]) := by
      intro k hk; rw [hst]; exact setTo_succ _ _ _ _ _ _ _ _ hk
    have SQ : Hid (∀ k, k ≤ cs.length → (st k).seq ≤ seq + k) := by
      intro k hk; rw [hst]; have := (setTo_seq listed ss (h.map lowB) dp s st0 cs k hk).2; rw [hst0] at this ⊢; exact this
    have HST := Lib.hid hst; clear hst
    have HST0 := Lib.hid hst0; clear hst0
    have HMB0 := Lib.hid hmb0; clear hmb0
    go_loopw [12, 13, 68] (fun v md i wr => ∃ k : Nat, k ≤ cs.length ∧ i = .int .i64 k ∧ md = .bool (st k).mod ∧ Hid (SubX jb mb0 w1.heap.size wr v (st k).sub) ∧ Hid (Keeps (SetS jb mb0) w1 wr) ∧ Hid (BlkAt wr jb [pv, .map (some eb), .int .u64 (st k).seq])) (fun _ _ i _ => cs.length - (intOf i).toNat)
    case atStart =>
      refine ⟨0, Nat.zero_le _, rfl, ?_, ?_, Keeps.refl _ _, ?_⟩
      · rw [S0.out, HST0.out]
      · rw [S0.out, HST0.out]; exact HSB.out
      · rw [S0.out, HST0.out]; exact HJR.out
    case round =>
      obtain ⟨k, hk, rfl, rfl, hsx, hkp, hjw⟩ := hrel
      by_cases hlt : k < cs.length
      · have hlb : k < cbs.length := by rw [HC.out.len]; exact hlt
        obtain ⟨ab, ao, rfl, hcell⟩ := HC.out.cells.get (k := k) (by simpa using hlb)
        have hab : m ≤ ab := HC.out.offA _ rfl
        have hca := hcell k (.pointer (some ⟨cbs[k], 0, none⟩)) (by simp [hlb])
        have habw : ab < w.heap.size := World.block_lt_of_cell? w _ hca
        have hcb := HC.out.cks k hlb hlt
        have hcbm : m ≤ cbs[k] := HC.out.off _ (List.getElem_mem hlb)
        have hnS : ∀ j, m ≤ j → ¬ SetS jb mb0 j := fun j hj hS => by have := (HMB.out j hS).2; omega
        have hca' : wr.cell? ⟨ab, ao + k, none⟩ = some (.pointer (some ⟨cbs[k], 0, none⟩)) := by
          rw [hkp.out.cell (p := ⟨ab, ao + k, none⟩) (Nat.lt_of_lt_of_le habw HK1.out.size) (hnS _ hab), HK1.out.cell (p := ⟨ab, ao + k, none⟩) habw]; exact hca
        have hb7 : BlkAt wr w.heap.size [.int .i64 s, .int .i64 0] := HX1.out.keeps hkp.out (fun hS => by have := (HMB.out _ hS).2; omega)
        clear hcell
        have b70 := hb7.cell 0 rfl
        have b71 := hb7.cell 1 rfl
        have HB7 := Lib.hid hb7; clear hb7
        have HCB := Lib.hid hcb; clear hcb
        have HNS := Lib.hid hnS; clear hnS
        go_wp2_with fail
        have hcw : CkAt wr cbs[k] cs[k] := (HCB.out.below HK1.out).keeps hkp.out (HNS.out _ hcbm)
        have hBw : Below wb.heap.size wb wr := (HB.out.trans (HK1.out.mono HB.out.size)).trans (hkp.out.toBelow (Nat.le_trans HB.out.size HK1.out.size) (fun j hj => (HMB.out j hj).1))
        have hgw : wr.cell? ⟨0, 0, none⟩ = some (.iface t0 v0) := by rw [hBw.cell (World.block_lt_of_cell? wb _ HG.out)]; exact HG.out
        refine (newEntry_any jb cbs[k] cs[k] s dp (h.map lowB) wr t0 v0 hgw hcw (HO.out _ (List.getElem_mem hlt)).ok hs0 hs1 H58.out H37.out (Nat.le_trans hhl (by decide)) (Nat.le_trans hdpl (by decide)) listed ss
          ⟨pv, hjw.out.cell 0 rfl, HP.out.below hBw⟩ HN.out HS.out).mono ?_
        rintro e w2 ⟨he, hb2⟩
        clear b70 b71 hca' hcw hBw hgw
        have hkp2 : Hid (Keeps (SetS jb mb0) w1 w2) := hkp.out.below hb2
        have hjw2 : Hid (BlkAt w2 jb [pv, .map (some eb), .int .u64 (st k).seq]) := hjw.out.below hb2
        have hb72 : Hid (BlkAt w2 w.heap.size [.int .i64 s, .int .i64 0]) := HB7.out.below hb2
        have HB2 := Lib.hid hb2; clear hb2
        have HS1 := Lib.hid (SS.out k hlt)
        cases hdt : domType listed ss (h.map lowB) cs[k].domain with
        | none =>
          rw [hdt] at he
          have HDT := Lib.hid hdt; clear hdt
          obtain ⟨x, rfl⟩ := he
          have hu := Tryz.underlying77
          have HST1 : Hid (st (k + 1) = st k) := by rw [Hid, HS1.out, setOne, HDT.out]
          go_wp2_with (first | ((with_reducible refine wpL_store (storeNewE _ x) ?_ ?_ ?_); rfl; rfl))
          go_roundw
          case rel =>
            refine ⟨k + 1, by omega, by go_num, ?_, ?_, ?_, ?_⟩
            · rw [HST1.out]
            · rw [HST1.out]; exact (hsx.out.below HB2.out).alloc _
            · exact hkp2.out.alloc _
            · rw [HST1.out]; exact hjw2.out.alloc _
          case measure => simp [intOf]; omega
        | some r =>
          obtain ⟨d, al⟩ := r
          rw [hdt] at he
          have hdl : d.length ≤ 2147483647 := domType_len hdt hhl (HO.out _ (List.getElem_mem hlt)).dlen
          have hnl : cs[k].name.length ≤ 2147483647 := (HO.out _ (List.getElem_mem hlt)).nlen
          have hpl2 : (pathOf cs[k] dp).length ≤ 2147483647 := by
            unfold pathOf; split
            · exact (HO.out _ (List.getElem_mem hlt)).plen
            · exact hdpl
          have HDT := Lib.hid hdt; clear hdt
          have HLN := Lib.hid hdl; clear hdl
          have HLN2 := Lib.hid hnl; clear hnl
          have HLN3 := Lib.hid hpl2; clear hpl2
          have hu := Tryz.underlying77
          have hSQ : (st k).seq ≤ 1000100 := by have := SQ.out k hk; omega
          have hjlt : jb < w1.heap.size := Nat.lt_of_lt_of_le hjb HK1.out.size
          cases hend : endOf cs[k] s with
          | none =>
            unfold newEnd at he
            simp only [hend] at he
            have HEN := Lib.hid hend; clear hend
            obtain ⟨x, rfl, hxn, hxd, hxp⟩ := he
            have HXN := Lib.hid hxn; clear hxn
            have HXD := Lib.hid hxd; clear hxd
            have HXP := Lib.hid hxp; clear hxp
            go_wp2_with (first | ((with_reducible refine wpL_store (storeNewE _ x) ?_ ?_ ?_); rfl; rfl))
            refine (id_any w2.heap.size x _ (BlkAt.made w2 (encE x) 118).ent (by rw [HXN.out]; exact HLN2.out) (by rw [HXD.out]; exact HLN.out) (by rw [HXP.out]; exact HLN3.out)).mono ?_
            rintro e w3 ⟨rfl, hb3⟩
            have hkp3 : Hid (Keeps (SetS jb mb0) w1 w3) := (hkp2.out.alloc _).below hb3
            have hjw3 : Hid (BlkAt w3 jb [pv, .map (some eb), .int .u64 (st k).seq]) := (hjw2.out.alloc _).below hb3
            have hsx3 : Hid (SubX jb mb0 w1.heap.size w3 u12 (st k).sub) := ((hsx.out.below HB2.out).alloc _).below hb3
            clear hb3
            obtain ⟨id, hid⟩ : ∃ id, id = idOf d (pathOf cs[k] dp) cs[k].name := ⟨_, rfl⟩
            rw [HXN.out, HXD.out, HXP.out, ← hid]
            have HID := Lib.hid hid; clear hid
            cases hsub : (st k).sub with
            | none =>
              have HST1 : Hid (st (k + 1) = st k) := by rw [Hid, HS1.out, setOne, HDT.out]; simp only [HEN.out, hsub]
              obtain ⟨hv, hmn⟩ : u12 = .map none ∧ mb0 = none := by have := hsx3.out; rw [hsub] at this; exact this
              subst hv
              have HSUB := Lib.hid hsub; clear hsub
              have hnn : ∀ wx, (binOp .neq 115 (.map none) (.map none)).run Tryz.prog wx = .ok (.bool false) wx := mapNe none
              go_wp2
              go_roundw
              case rel =>
                refine ⟨k + 1, by omega, by go_num, ?_, ?_, ?_, ?_⟩
                · rw [HST1.out]
                · rw [HST1.out]; exact hsx3.out
                · exact hkp3.out
                · rw [HST1.out]; exact hjw3.out
              case measure => simp [intOf]; omega
            | some L =>
              obtain ⟨b, es, clk, hv, hmm, hbj, hbm⟩ : ∃ b es clock, u12 = .map (some b) ∧ MapMem w3 b (kvE L) es clock ∧ b ≠ jb ∧ (mb0 = some b ∨ mb0 = none ∧ w1.heap.size ≤ b) := by have := hsx3.out; rw [hsub] at this; exact this
              subst hv
              have HSUB := Lib.hid hsub; clear hsub
              have HMM := Lib.hid hmm; clear hmm
              have HBM := Lib.hid hbm; clear hbm
              have hnn : ∀ wx, (binOp .neq 115 (.map (some b)) (.map none)).run Tryz.prog wx = .ok (.bool true) wx := mapNe (some b)
              have HLK := HMM.out.lookup_ok Tryz.underlying115 zeroV118 id
              rw [look_kvE] at HLK
              cases hf : findE L id with
              | none =>
                have HST1 : Hid (st (k + 1) = st k) := by
                  rw [Hid, HS1.out, setOne, HDT.out]; simp only [HEN.out, HSUB.out]
                  rw [← HID.out, hf]; rfl
                rw [hf] at HLK
                have HLK2 := Lib.hid HLK; clear HLK hf
                go_wp2_with (first | ((with_reducible refine wpL_lookup HLK2.out ?_ ?_ ?_); rfl; rfl) | ((with_reducible refine wpL_store (storeNewZ _) ?_ ?_ ?_); rfl; rfl))
                go_roundw
                case rel =>
                  refine ⟨k + 1, by omega, by go_num, ?_, ?_, ?_, ?_⟩
                  · rw [HST1.out]
                  · rw [HST1.out]; exact hsx3.out.alloc _
                  · exact hkp3.out.alloc _
                  · rw [HST1.out]; exact hjw3.out.alloc _
                case measure => simp [intOf]; omega
              | some old =>
                have HST1 : Hid (st (k + 1) = { st k with sub := some (delE L id), mod := true }) := by
                  rw [Hid, HS1.out, setOne, HDT.out]; simp only [HEN.out, HSUB.out]
                  rw [← HID.out, hf]; rfl
                rw [hf] at HLK
                have HLK2 := Lib.hid HLK; clear HLK hf
                obtain ⟨es', hdel, hmm'⟩ := (HMM.out.alloc (.cells (encE old).toArray 118)).delete (u := 9) (ty := 0) Tryz.underlying115 id
                have HDEL := Lib.hid hdel; clear hdel
                rw [del_kvE] at hmm'
                have HMM2 := Lib.hid hmm'; clear hmm'
                go_wp2_with (first | ((with_reducible refine wpL_lookup HLK2.out ?_ ?_ ?_); rfl; rfl) | ((with_reducible refine wpL_store (storeNewE _ old) ?_ ?_ ?_); rfl; rfl) | ((with_reducible refine wpL_delete HDEL.out ?_ ?_ ?_); rfl; rfl))
                go_roundw
                case rel =>
                  refine ⟨k + 1, by omega, by go_num, ?_, ?_, ?_, ?_⟩
                  · rw [HST1.out]
                  · rw [HST1.out]; exact ⟨b, es', clk, rfl, HMM2.out, hbj, HBM.out⟩
                  · exact (hkp3.out.alloc _).setMap (by rcases HBM.out with h | ⟨_, h⟩; exact Or.inl (Or.inr h); exact Or.inr h) _ _
                  · rw [HST1.out]; exact (hjw3.out.alloc _).setMap (Ne.symm hbj) _ _
                case measure => simp [intOf]; omega
          | some tp =>
            obtain ⟨t, p⟩ := tp
            unfold newEnd at he
            simp only [hend] at he
            have HEN := Lib.hid hend; clear hend
            obtain ⟨x, hx⟩ : ∃ x : Ent, x = entOf cs[k] d al dp t p := ⟨_, rfl⟩
            change e = .returned (.tuple #[.agg (encE (entOf cs[k] d al dp t p)).toArray, .bool false, .nilIface]) at he
            rw [← hx] at he
            subst he
            have HXN : Hid (x.name = cs[k].name) := by rw [Hid, hx]; rfl
            have HXD : Hid (x.domain = d) := by rw [Hid, hx]; rfl
            have HXP : Hid (x.path = pathOf cs[k] dp) := by rw [Hid, hx]; rfl
            have HXx := Lib.hid hx; clear hx
            go_wp2_with (first | ((with_reducible refine wpL_store (storeNewE _ x) ?_ ?_ ?_); rfl; rfl))
            refine (id_any w2.heap.size x _ (BlkAt.made w2 (encE x) 118).ent (by rw [HXN.out]; exact HLN2.out) (by rw [HXD.out]; exact HLN.out) (by rw [HXP.out]; exact HLN3.out)).mono ?_
            rintro e w3 ⟨rfl, hb3⟩
            have hkp3 : Hid (Keeps (SetS jb mb0) w1 w3) := (hkp2.out.alloc _).below hb3
            have hjw3 : Hid (BlkAt w3 jb [pv, .map (some eb), .int .u64 (st k).seq]) := (hjw2.out.alloc _).below hb3
            have hsx3 : Hid (SubX jb mb0 w1.heap.size w3 u12 (st k).sub) := ((hsx.out.below HB2.out).alloc _).below hb3
            have hb73 : Hid (BlkAt w3 w.heap.size [.int .i64 s, .int .i64 0]) := (hb72.out.alloc _).below hb3
            have hE3 : Hid (BlkAt w3 w2.heap.size (encE x)) := (BlkAt.made w2 (encE x) 118).below hb3
            have hj2 : w1.heap.size ≤ w2.heap.size := hkp2.out.size
            have hw3 : w2.heap.size < w3.heap.size := World.block_lt_of_cell? w3 _ (hE3.out 0 _ rfl).1
            clear hb3
            obtain ⟨id, hid⟩ : ∃ id, id = idOf d (pathOf cs[k] dp) cs[k].name := ⟨_, rfl⟩
            rw [HXN.out, HXD.out, HXP.out, ← hid]
            have HID := Lib.hid hid; clear hid
            have hbwj : w2.heap.size ≠ jb := by omega
            have hbw7 : w.heap.size < w1.heap.size := World.block_lt_of_cell? w1 _ (HX1.out 0 _ rfl).1
            cases hsub : (st k).sub with
            | none =>
              have HST1 : Hid (st (k + 1) = { sub := some (putE [] { x with crs := s, seq := (st k).seq, las := s }), mod := true, seq := (st k).seq + 1 }) := by
                rw [Hid, HS1.out, setOne, HDT.out]; simp only [HEN.out, hsub]
                rw [HXx.out]; rfl
              obtain ⟨hv, hmn⟩ : u12 = .map none ∧ mb0 = none := by have := hsx3.out; rw [hsub] at this; exact this
              subst hv
              have HSUB := Lib.hid hsub; clear hsub
              have hnn : ∀ wx, (binOp .eql 115 (.map none) (.map none)).run Tryz.prog wx = .ok (.bool true) wx := mapEq none
              have hmk := @run_makeMap Tryz.prog
              go_upto_region 23 with (fail)
              have HMM0 : Hid (MapMem (w3.alloc (.map #[] 0)) w3.heap.size (kvE []) #[] 0) := MapMem.made w3
              have hk4 : Hid (Keeps (SetS jb mb0) w1 (w3.alloc (.map #[] 0))) := hkp3.out.alloc _
              have hj4 : Hid (BlkAt (w3.alloc (.map #[] 0)) jb [pv, .map (some eb), .int .u64 (st k).seq]) := hjw3.out.alloc _
              have h74 : Hid (BlkAt (w3.alloc (.map #[] 0)) w.heap.size [.int .i64 s, .int .i64 0]) := hb73.out.alloc _
              have hE4 : Hid (BlkAt (w3.alloc (.map #[] 0)) w2.heap.size (encE x)) := hE3.out.alloc _
              have hbe : w3.heap.size ≠ w2.heap.size := by omega
              have hbj : w3.heap.size ≠ jb := by omega
              have hbm : mb0 = some w3.heap.size ∨ mb0 = none ∧ w1.heap.size ≤ w3.heap.size := Or.inr ⟨hmn, by omega⟩
              have hw4 : w2.heap.size < (w3.alloc (.map #[] 0)).heap.size := by show _ < (w3.heap.push _).size; rw [Array.size_push]; omega
              have HBM := Lib.hid hbm; clear hbm hmn
              clear hkp3 hjw3 hb73 hE3 hsx3
              generalize w3.alloc (.map #[] 0) = w4 at HMM0 hk4 hj4 h74 hE4 hw4 ⊢
              generalize w3.heap.size = b at HMM0 hbe hbj HBM ⊢
              have HMM : Hid (MapMem w4 b (kvE []) #[] 0) := HMM0
              clear HMM0
              obtain ⟨L, hL⟩ : ∃ L : List Ent, L = [] := ⟨_, rfl⟩
              rw [← hL] at HMM HST1
              obtain ⟨es, hes⟩ : ∃ es : Array MapEntry, es = #[] := ⟨_, rfl⟩
              obtain ⟨clk, hclk⟩ : ∃ clk : Nat, clk = 0 := ⟨_, rfl⟩
              rw [← hes, ← hclk] at HMM
              have HLK := HMM.out.lookup_ok Tryz.underlying115 zeroV118 id
              rw [hL, show look (kvE []) id = none from rfl] at HLK
              have HLK2 := Lib.hid HLK; clear HLK hL hes hclk
              have hxb : x = x := rfl
              go_upto_region 24 with (first | ((with_reducible refine wpL_lookup HLK2.out ?_ ?_ ?_); rfl; rfl) | ((with_reducible refine wpL_store (storeNewZ _) ?_ ?_ ?_); rfl; rfl))
              have hkp5 : Hid (Keeps (SetS jb mb0) w1 (w4.alloc (.cells zeroE 118))) := hk4.out.alloc _
              have hjw5 : Hid (BlkAt (w4.alloc (.cells zeroE 118)) jb [pv, .map (some eb), .int .u64 (st k).seq]) := hj4.out.alloc _
              have hb75 : Hid (BlkAt (w4.alloc (.cells zeroE 118)) w.heap.size [.int .i64 s, .int .i64 0]) := h74.out.alloc _
              have hE5 : Hid (BlkAt (w4.alloc (.cells zeroE 118)) w2.heap.size (encE x)) := hE4.out.alloc _
              have HM5 : Hid (MapMem (w4.alloc (.cells zeroE 118)) b (kvE L) es clk) := HMM.out.alloc _
              clear HLK2
              generalize w4.alloc (.cells zeroE 118) = w5 at hkp5 hjw5 hb75 hE5 HM5 ⊢
              have y11 := hE5.out 11 _ rfl
              have y12 := hE5.out 12 _ rfl
              have y13 := hE5.out 13 _ rfl
              have y14 := hE5.out 14 _ rfl
              have y15 := hE5.out 15 _ rfl
              have z0 := hb75.out 0 _ rfl
              have z1 := hb75.out 1 _ rfl
              have j2 := hjw5.out 2 _ rfl
              have hn7 : w.heap.size ≠ w2.heap.size := by omega
              have hn8 : jb ≠ w.heap.size := by omega
              have e1 := BlkAt.setCell hE5.out 11 (.int .i64 s) (show _ < _ from (by decide : 11 < 16))
              have q1 := hjw5.out.setOther (b' := w2.heap.size) 11 (.int .i64 s) (Ne.symm hbwj)
              have m1 := HM5.out.setCell (b' := w2.heap.size) 11 (.int .i64 s) hbe
              have k1 := Keeps.setCell (b := w2.heap.size) hkp5.out (Or.inr hj2) 11 (.int .i64 s)
              have e2 := BlkAt.setCell e1 12 (.int .i64 0) (show _ < _ from (by decide : 12 < 16))
              have q2 := q1.setOther (b' := w2.heap.size) 12 (.int .i64 0) (Ne.symm hbwj)
              have m2 := m1.setCell (b' := w2.heap.size) 12 (.int .i64 0) hbe
              have k2 := Keeps.setCell (b := w2.heap.size) k1 (Or.inr hj2) 12 (.int .i64 0)
              have e3 := BlkAt.setCell e2 15 (.int .u64 (st k).seq) (show _ < _ from (by decide : 15 < 16))
              have q3 := q2.setOther (b' := w2.heap.size) 15 (.int .u64 (st k).seq) (Ne.symm hbwj)
              have m3 := m2.setCell (b' := w2.heap.size) 15 (.int .u64 (st k).seq) hbe
              have k3 := Keeps.setCell (b := w2.heap.size) k2 (Or.inr hj2) 15 (.int .u64 (st k).seq)
              have e4 := e3.setOther (b' := jb) 2 (.int .u64 ((st k).seq + 1)) hbwj
              have q4 := BlkAt.setCell q3 2 (.int .u64 ((st k).seq + 1)) (show _ < _ from (by decide : 2 < 3))
              have m4 := m3.setCell (b' := jb) 2 (.int .u64 ((st k).seq + 1)) hbj
              have k4 := Keeps.setCell (b := jb) k3 (Or.inl (Or.inl rfl)) 2 (.int .u64 ((st k).seq + 1))
              have e5 := BlkAt.setCell e4 13 (.int .i64 s) (show _ < _ from (by decide : 13 < 16))
              have q5 := q4.setOther (b' := w2.heap.size) 13 (.int .i64 s) (Ne.symm hbwj)
              have m5 := m4.setCell (b' := w2.heap.size) 13 (.int .i64 s) hbe
              have k5 := Keeps.setCell (b := w2.heap.size) k4 (Or.inr hj2) 13 (.int .i64 s)
              have e6 := BlkAt.setCell e5 14 (.int .i64 0) (show _ < _ from (by decide : 14 < 16))
              have q6 := q5.setOther (b' := w2.heap.size) 14 (.int .i64 0) (Ne.symm hbwj)
              have m6 := m5.setCell (b' := w2.heap.size) 14 (.int .i64 0) hbe
              have k6 := Keeps.setCell (b := w2.heap.size) k5 (Or.inr hj2) 14 (.int .i64 0)
              obtain ⟨y, hy⟩ : ∃ y : Ent, y = { x with crs := s, seq := (st k).seq, las := s } := ⟨_, rfl⟩
              change BlkAt _ _ (encE { x with crs := s, seq := (st k).seq, las := s }) at e6
              rw [← hy] at e6
              have HL := Lib.hid (loadAtE e6)
              obtain ⟨es', clk', hup, hmm'⟩ := m6.update Tryz.underlying115 id (.agg (encE y).toArray)
              have HUP := Lib.hid hup; clear hup
              have hidy : idE y = id := by rw [hy]; show idOf x.domain x.path x.name = id; rw [HXN.out, HXD.out, HXP.out, HID.out]
              rw [show putKV (kvE L) id (.agg (encE y).toArray) = kvE (putE L y) by rw [← hidy]; exact put_kvE L y] at hmm'
              have HMM2 := Lib.hid hmm'
              clear hmm'
              have HYY := Lib.hid hy; clear hy
              have HQ := Lib.hid q6
              have HKK := Lib.hid k6
              have HIY := Lib.hid hidy; clear hidy
              clear e1 q1 m1 k1 e2 q2 m2 k2 e3 q3 m3 k3 e4 q4 m4 k4 e5 q5 m5 k5 e6 q6 m6 k6
              have hwr : IntKind.u64.wrap (((st k).seq : Int) + 1) = ((st k).seq : Int) + 1 := IntWalk.u64_in _ (by omega)
              go_wp2_with (first | ((with_reducible refine wpL_load HL.out ?_ ?_); rfl) | ((with_reducible refine wpL_mapUpdate HUP.out ?_ ?_ ?_ ?_); rfl; rfl; rfl))
              go_roundw
              case rel =>
                refine ⟨k + 1, by omega, by go_num, ?_, ?_, ?_, ?_⟩
                · rw [HST1.out]
                · rw [HST1.out]; exact ⟨b, es', clk', rfl, HYY.out ▸ HMM2.out, hbj, HBM.out⟩
                · exact HKK.out.setMap (by rcases HBM.out with h | ⟨_, h⟩; exact Or.inl (Or.inr h); exact Or.inr h) _ _
                · rw [HST1.out]; exact HQ.out.setMap (Ne.symm hbj) _ _
              case measure => simp [intOf]; omega
            | some L =>
              obtain ⟨b, es, clk, hv, hmm, hbj, hbm⟩ : ∃ b es clock, u12 = .map (some b) ∧ MapMem w3 b (kvE L) es clock ∧ b ≠ jb ∧ (mb0 = some b ∨ mb0 = none ∧ w1.heap.size ≤ b) := by have := hsx3.out; rw [hsub] at this; exact this
              subst hv
              have HSUB := Lib.hid hsub; clear hsub
              have HMM := Lib.hid hmm; clear hmm
              have HBM := Lib.hid hbm; clear hbm
              have hbe : b ≠ w2.heap.size := by
                intro e
                have h1 := HMM.out.blk
                have h2 := (hE3.out 0 _ rfl).1
                rw [← e] at h2
                simp only [World.cell?, h1] at h2
                cases h2
              have hnn : ∀ wx, (binOp .eql 115 (.map (some b)) (.map none)).run Tryz.prog wx = .ok (.bool false) wx := mapEq (some b)
              have HLK := HMM.out.lookup_ok Tryz.underlying115 zeroV118 id
              rw [look_kvE] at HLK
              cases hf : findE L id with
              | none =>
                have HST1 : Hid (st (k + 1) = { sub := some (putE L { x with crs := s, seq := (st k).seq, las := s }), mod := true, seq := (st k).seq + 1 }) := by
                  rw [Hid, HS1.out, setOne, HDT.out]; simp only [HEN.out, HSUB.out, Option.getD_some]
                  rw [← HID.out, hf, HXx.out]
                rw [hf] at HLK
                have HLK2 := Lib.hid HLK; clear HLK hf
                go_upto_region 24 with (first | ((with_reducible refine wpL_lookup HLK2.out ?_ ?_ ?_); rfl; rfl) | ((with_reducible refine wpL_store (storeNewZ _) ?_ ?_ ?_); rfl; rfl))
                have hkp5 : Hid (Keeps (SetS jb mb0) w1 (w3.alloc (.cells zeroE 118))) := hkp3.out.alloc _
                have hjw5 : Hid (BlkAt (w3.alloc (.cells zeroE 118)) jb [pv, .map (some eb), .int .u64 (st k).seq]) := hjw3.out.alloc _
                have hb75 : Hid (BlkAt (w3.alloc (.cells zeroE 118)) w.heap.size [.int .i64 s, .int .i64 0]) := hb73.out.alloc _
                have hE5 : Hid (BlkAt (w3.alloc (.cells zeroE 118)) w2.heap.size (encE x)) := hE3.out.alloc _
                have HM5 : Hid (MapMem (w3.alloc (.cells zeroE 118)) b (kvE L) es clk) := HMM.out.alloc _
                clear HLK2
                generalize w3.alloc (.cells zeroE 118) = w5 at hkp5 hjw5 hb75 hE5 HM5 ⊢
                have y11 := hE5.out 11 _ rfl
                have y12 := hE5.out 12 _ rfl
                have y13 := hE5.out 13 _ rfl
                have y14 := hE5.out 14 _ rfl
                have y15 := hE5.out 15 _ rfl
                have z0 := hb75.out 0 _ rfl
                have z1 := hb75.out 1 _ rfl
                have j2 := hjw5.out 2 _ rfl
                have hn7 : w.heap.size ≠ w2.heap.size := by omega
                have hn8 : jb ≠ w.heap.size := by omega
                have e1 := BlkAt.setCell hE5.out 11 (.int .i64 s) (show _ < _ from (by decide : 11 < 16))
                have q1 := hjw5.out.setOther (b' := w2.heap.size) 11 (.int .i64 s) (Ne.symm hbwj)
                have m1 := HM5.out.setCell (b' := w2.heap.size) 11 (.int .i64 s) hbe
                have k1 := Keeps.setCell (b := w2.heap.size) hkp5.out (Or.inr hj2) 11 (.int .i64 s)
                have e2 := BlkAt.setCell e1 12 (.int .i64 0) (show _ < _ from (by decide : 12 < 16))
                have q2 := q1.setOther (b' := w2.heap.size) 12 (.int .i64 0) (Ne.symm hbwj)
                have m2 := m1.setCell (b' := w2.heap.size) 12 (.int .i64 0) hbe
                have k2 := Keeps.setCell (b := w2.heap.size) k1 (Or.inr hj2) 12 (.int .i64 0)
                have e3 := BlkAt.setCell e2 15 (.int .u64 (st k).seq) (show _ < _ from (by decide : 15 < 16))
                have q3 := q2.setOther (b' := w2.heap.size) 15 (.int .u64 (st k).seq) (Ne.symm hbwj)
                have m3 := m2.setCell (b' := w2.heap.size) 15 (.int .u64 (st k).seq) hbe
                have k3 := Keeps.setCell (b := w2.heap.size) k2 (Or.inr hj2) 15 (.int .u64 (st k).seq)
                have e4 := e3.setOther (b' := jb) 2 (.int .u64 ((st k).seq + 1)) hbwj
                have q4 := BlkAt.setCell q3 2 (.int .u64 ((st k).seq + 1)) (show _ < _ from (by decide : 2 < 3))
                have m4 := m3.setCell (b' := jb) 2 (.int .u64 ((st k).seq + 1)) hbj
                have k4 := Keeps.setCell (b := jb) k3 (Or.inl (Or.inl rfl)) 2 (.int .u64 ((st k).seq + 1))
                have e5 := BlkAt.setCell e4 13 (.int .i64 s) (show _ < _ from (by decide : 13 < 16))
                have q5 := q4.setOther (b' := w2.heap.size) 13 (.int .i64 s) (Ne.symm hbwj)
                have m5 := m4.setCell (b' := w2.heap.size) 13 (.int .i64 s) hbe
                have k5 := Keeps.setCell (b := w2.heap.size) k4 (Or.inr hj2) 13 (.int .i64 s)
                have e6 := BlkAt.setCell e5 14 (.int .i64 0) (show _ < _ from (by decide : 14 < 16))
                have q6 := q5.setOther (b' := w2.heap.size) 14 (.int .i64 0) (Ne.symm hbwj)
                have m6 := m5.setCell (b' := w2.heap.size) 14 (.int .i64 0) hbe
                have k6 := Keeps.setCell (b := w2.heap.size) k5 (Or.inr hj2) 14 (.int .i64 0)
                obtain ⟨y, hy⟩ : ∃ y : Ent, y = { x with crs := s, seq := (st k).seq, las := s } := ⟨_, rfl⟩
                change BlkAt _ _ (encE { x with crs := s, seq := (st k).seq, las := s }) at e6
                rw [← hy] at e6
                have HL := Lib.hid (loadAtE e6)
                obtain ⟨es', clk', hup, hmm'⟩ := m6.update Tryz.underlying115 id (.agg (encE y).toArray)
                have HUP := Lib.hid hup; clear hup
                have hidy : idE y = id := by rw [hy]; show idOf x.domain x.path x.name = id; rw [HXN.out, HXD.out, HXP.out, HID.out]
                rw [show putKV (kvE L) id (.agg (encE y).toArray) = kvE (putE L y) by rw [← hidy]; exact put_kvE L y] at hmm'
                have HMM2 := Lib.hid hmm'
                clear hmm'
                have HYY := Lib.hid hy; clear hy
                have HQ := Lib.hid q6
                have HKK := Lib.hid k6
                have HIY := Lib.hid hidy; clear hidy
                clear e1 q1 m1 k1 e2 q2 m2 k2 e3 q3 m3 k3 e4 q4 m4 k4 e5 q5 m5 k5 e6 q6 m6 k6
                have hwr : IntKind.u64.wrap (((st k).seq : Int) + 1) = ((st k).seq : Int) + 1 := IntWalk.u64_in _ (by omega)
                go_wp2_with (first | ((with_reducible refine wpL_load HL.out ?_ ?_); rfl) | ((with_reducible refine wpL_mapUpdate HUP.out ?_ ?_ ?_ ?_); rfl; rfl; rfl))
                go_roundw
                case rel =>
                  refine ⟨k + 1, by omega, by go_num, ?_, ?_, ?_, ?_⟩
                  · rw [HST1.out]
                  · rw [HST1.out]; exact ⟨b, es', clk', rfl, HYY.out ▸ HMM2.out, hbj, HBM.out⟩
                  · exact HKK.out.setMap (by rcases HBM.out with h | ⟨_, h⟩; exact Or.inl (Or.inr h); exact Or.inr h) _ _
                  · rw [HST1.out]; exact HQ.out.setMap (Ne.symm hbj) _ _
                case measure => simp [intOf]; omega
              | some old =>
                have HST1 : Hid (st (k + 1) = { st k with sub := some (putE L { x with crs := old.crs, seq := old.seq, las := s }), mod := true }) := by
                  rw [Hid, HS1.out, setOne, HDT.out]; simp only [HEN.out, HSUB.out, Option.getD_some]
                  rw [← HID.out, hf, HXx.out]
                rw [hf] at HLK
                have HLK2 := Lib.hid HLK; clear HLK hf
                go_upto_region 24 with (first | ((with_reducible refine wpL_lookup HLK2.out ?_ ?_ ?_); rfl; rfl) | ((with_reducible refine wpL_store (storeNewE _ old) ?_ ?_ ?_); rfl; rfl))
                have hO : Hid (BlkAt (w3.alloc (.cells (encE old).toArray 118)) w3.heap.size (encE old)) := BlkAt.made w3 (encE old) 118
                have hkp5 : Hid (Keeps (SetS jb mb0) w1 (w3.alloc (.cells (encE old).toArray 118))) := hkp3.out.alloc _
                have hjw5 : Hid (BlkAt (w3.alloc (.cells (encE old).toArray 118)) jb [pv, .map (some eb), .int .u64 (st k).seq]) := hjw3.out.alloc _
                have hb75 : Hid (BlkAt (w3.alloc (.cells (encE old).toArray 118)) w.heap.size [.int .i64 s, .int .i64 0]) := hb73.out.alloc _
                have hE5 : Hid (BlkAt (w3.alloc (.cells (encE old).toArray 118)) w2.heap.size (encE x)) := hE3.out.alloc _
                have HM5 : Hid (MapMem (w3.alloc (.cells (encE old).toArray 118)) b (kvE L) es clk) := HMM.out.alloc _
                clear HLK2
                have hob1 : w2.heap.size ≠ w3.heap.size := by have := World.block_lt_of_cell? w3 _ (hE3.out 0 _ rfl).1; intro e; simp only at this; omega
                have hob2 : jb ≠ w3.heap.size := by have := World.block_lt_of_cell? w3 _ (hjw3.out 0 _ rfl).1; intro e; simp only at this; omega
                generalize hgen : w3.alloc (.cells (encE old).toArray 118) = w5 at hkp5 hjw5 hb75 hE5 HM5 hO ⊢
                clear hgen
                generalize w3.heap.size = ob at hO hob1 hob2 ⊢
                have y11 := hE5.out 11 _ rfl
                have y12 := hE5.out 12 _ rfl
                have y13 := hE5.out 13 _ rfl
                have y14 := hE5.out 14 _ rfl
                have y15 := hE5.out 15 _ rfl
                have z0 := hb75.out 0 _ rfl
                have z1 := hb75.out 1 _ rfl
                have j2 := hjw5.out 2 _ rfl
                have hn7 : w.heap.size ≠ w2.heap.size := by omega
                have hn8 : jb ≠ w.heap.size := by omega
                have o11 := hO.out 11 _ rfl
                have o12 := hO.out 12 _ rfl
                have o15 := hO.out 15 _ rfl
                have e1 := BlkAt.setCell hE5.out 11 (.int .i64 old.crs) (show _ < _ from (by decide : 11 < 16))
                have q1 := hjw5.out.setOther (b' := w2.heap.size) 11 (.int .i64 old.crs) (Ne.symm hbwj)
                have m1 := HM5.out.setCell (b' := w2.heap.size) 11 (.int .i64 old.crs) hbe
                have k1 := Keeps.setCell (b := w2.heap.size) hkp5.out (Or.inr hj2) 11 (.int .i64 old.crs)
                have e2 := BlkAt.setCell e1 12 (.int .i64 0) (show _ < _ from (by decide : 12 < 16))
                have q2 := q1.setOther (b' := w2.heap.size) 12 (.int .i64 0) (Ne.symm hbwj)
                have m2 := m1.setCell (b' := w2.heap.size) 12 (.int .i64 0) hbe
                have k2 := Keeps.setCell (b := w2.heap.size) k1 (Or.inr hj2) 12 (.int .i64 0)
                have e3 := BlkAt.setCell e2 15 (.int .u64 old.seq) (show _ < _ from (by decide : 15 < 16))
                have q3 := q2.setOther (b' := w2.heap.size) 15 (.int .u64 old.seq) (Ne.symm hbwj)
                have m3 := m2.setCell (b' := w2.heap.size) 15 (.int .u64 old.seq) hbe
                have k3 := Keeps.setCell (b := w2.heap.size) k2 (Or.inr hj2) 15 (.int .u64 old.seq)
                have e4 := BlkAt.setCell e3 13 (.int .i64 s) (show _ < _ from (by decide : 13 < 16))
                have q4 := q3.setOther (b' := w2.heap.size) 13 (.int .i64 s) (Ne.symm hbwj)
                have m4 := m3.setCell (b' := w2.heap.size) 13 (.int .i64 s) hbe
                have k4 := Keeps.setCell (b := w2.heap.size) k3 (Or.inr hj2) 13 (.int .i64 s)
                have e5 := BlkAt.setCell e4 14 (.int .i64 0) (show _ < _ from (by decide : 14 < 16))
                have q5 := q4.setOther (b' := w2.heap.size) 14 (.int .i64 0) (Ne.symm hbwj)
                have m5 := m4.setCell (b' := w2.heap.size) 14 (.int .i64 0) hbe
                have k5 := Keeps.setCell (b := w2.heap.size) k4 (Or.inr hj2) 14 (.int .i64 0)
                obtain ⟨y, hy⟩ : ∃ y : Ent, y = { x with crs := old.crs, seq := old.seq, las := s } := ⟨_, rfl⟩
                change BlkAt _ _ (encE { x with crs := old.crs, seq := old.seq, las := s }) at e5
                rw [← hy] at e5
                have HL := Lib.hid (loadAtE e5)
                obtain ⟨es', clk', hup, hmm'⟩ := m5.update Tryz.underlying115 id (.agg (encE y).toArray)
                have HUP := Lib.hid hup; clear hup
                have hidy : idE y = id := by rw [hy]; show idOf x.domain x.path x.name = id; rw [HXN.out, HXD.out, HXP.out, HID.out]
                rw [show putKV (kvE L) id (.agg (encE y).toArray) = kvE (putE L y) by rw [← hidy]; exact put_kvE L y] at hmm'
                have HMM2 := Lib.hid hmm'
                clear hmm'
                have HYY := Lib.hid hy; clear hy
                have HQ := Lib.hid q5
                have HKK := Lib.hid k5
                have HIY := Lib.hid hidy; clear hidy
                clear e1 q1 m1 k1 e2 q2 m2 k2 e3 q3 m3 k3 e4 q4 m4 k4 e5 q5 m5 k5
                go_wp2_with (first | ((with_reducible refine wpL_load HL.out ?_ ?_); rfl) | ((with_reducible refine wpL_mapUpdate HUP.out ?_ ?_ ?_ ?_); rfl; rfl; rfl))
                go_roundw
                case rel =>
                  refine ⟨k + 1, by omega, by go_num, ?_, ?_, ?_, ?_⟩
                  · rw [HST1.out]
                  · rw [HST1.out]; exact ⟨b, es', clk', rfl, HYY.out ▸ HMM2.out, hbj, HBM.out⟩
                  · exact HKK.out.setMap (by rcases HBM.out with h | ⟨_, h⟩; exact Or.inl (Or.inr h); exact Or.inr h) _ _
                  · rw [HST1.out]; exact HQ.out.setMap (Ne.symm hbj) _ _
                case measure => simp [intOf]; omega
      · have hke : k = cs.length := Nat.le_antisymm hk (Nat.le_of_not_lt hlt)
        subst hke
        have HJ1 : Hid (JarMem w1 jb eb pv JB seq) := HJ.out.below HK1.out
        have hfs : ∀ k, SetS jb mb0 k → k ∈ footJ jb eb JB ∨ w.heap.size ≤ k := by
          rintro k (e | e)
          · left; rw [e]; simp [footJ]
          · left
            cases hf : findJ JB key with
            | none => rw [HMB0.out, hf] at e; cases e
            | some p =>
              obtain ⟨b, L⟩ := p
              rw [HMB0.out, hf] at e; cases e
              exact List.mem_cons_of_mem _ (List.mem_cons_of_mem _ (List.mem_map.2 ⟨_, findJ_mem hf, rfl⟩))
        have HKW : Hid (Keeps (fun k => k ∈ footJ jb eb JB) w wr) := ((Keeps.refl (fun k => k ∈ footJ jb eb JB) w).below HK1.out).trans hkp.out hfs
        have HSA : Hid (setA listed ss (strip JB) seq (h.map lowB) (defPath path) s cs = (endSet (strip JB) key (st cs.length), (st cs.length).seq)) := by
          rw [Hid, HST.out, HST0.out]; unfold setA; rw [← HKEY.out, findA_strip, HDP.out]
        have hw1 : w.heap.size ≤ w1.heap.size := HK1.out.size
        have hweb : eb < w.heap.size := HEM.out.lt |> fun _ => by obtain ⟨es, c, hm⟩ := HJ.out.ent; exact hm.lt
        clear hfs
        cases hmod : (st cs.length).mod with
        | false =>
          have hse : st cs.length = st0 := by
            have := hmod; rw [HST.out] at this ⊢; exact setTo_mod _ _ _ _ _ _ _ _ (Nat.le_refl _) this
          have hjm : Hid (JarMem wr jb eb pv JB (st cs.length).seq) := by
            refine HJ1.out.same hkp.out HMB0.out (n := w1.heap.size) (v := u12) ?_ hjw.out
            have := hsx.out; rw [hse, HST0.out] at this; exact this
          have HMO := Lib.hid hmod; clear hmod hse
          go_wp2
          go_end0
          refine ⟨rfl, ?_⟩
          rw [HSA.out]
          exact ⟨JB, hjm.out, by simp only [endSet, HMO.out]; rfl, HKW.out, fun k hk => Or.inl hk⟩
        | true =>
          obtain ⟨L, hL⟩ : ∃ L, (st cs.length).sub = some L := by
            have := setTo_some listed ss (h.map lowB) dp s st0 cs (by rw [HST0.out]; intro h; cases h) cs.length (Nat.le_refl _)
            rw [HST.out] at hmod ⊢
            exact Option.isSome_iff_exists.1 (this hmod)
          obtain ⟨b, es, clk, hv, hmm, hbj, hbm⟩ : ∃ b es clock, u12 = .map (some b) ∧ MapMem wr b (kvE L) es clock ∧ b ≠ jb ∧ (mb0 = some b ∨ mb0 = none ∧ w1.heap.size ≤ b) := by have := hsx.out; rw [hL] at this; exact this
          subst hv
          have HMO := Lib.hid hmod; clear hmod
          have HLL := Lib.hid hL; clear hL
          have HLEN := Lib.hid (hmm.len (ty := 3) Tryz.underlying115)
          have HMM := Lib.hid hmm; clear hmm
          have HBM := Lib.hid hbm; clear hbm
          obtain ⟨es1, clk1, hem1⟩ := HJ1.out.entW hkp.out HMB0.out
          have hjp := hjw.out.cell 1 rfl
          have hll : (kvE L).length = L.length := by simp [kvE]
          rw [hll] at HLEN
          cases hle : L.isEmpty with
          | true =>
            have hl0 : ((L.length : Int) == 0) = true := by rw [List.isEmpty_iff] at hle; subst hle; rfl
            obtain ⟨es2, hdl, hmm2⟩ := hem1.delete (u := 9) (ty := 0) Tryz.underlying106 key
            have HDL := Lib.hid hdl; clear hdl
            have HM2 := Lib.hid hmm2; clear hmm2 hem1
            have HLE := Lib.hid hle; clear hle
            go_wp2_with (first | ((with_reducible refine wpL_len HLEN.out ?_ ?_); rfl) | ((with_reducible refine wpL_delete HDL.out ?_ ?_ ?_); rfl; rfl))
            go_end0
            refine ⟨rfl, ?_⟩
            rw [HSA.out]
            obtain ⟨hq1, hq2⟩ := HJ1.out.del hkp.out HMB0.out hjw.out HM2.out
            refine ⟨_, hq1, ?_, HKW.out.setMap (Or.inl (by simp [footJ])) _ _, fun k hk => Or.inl (hq2 k hk)⟩
            rw [strip_filter]
            simp only [endSet, HMO.out, HLL.out, Option.getD_some, HLE.out]; rfl
          | false =>
            have hl0 : ((L.length : Int) == 0) = false := by
              rw [Bool.eq_false_iff]; intro h; rw [beq_iff_eq] at h
              rw [List.isEmpty_eq_false_iff] at hle
              exact hle (List.length_eq_zero_iff.1 (by omega))
            obtain ⟨es2, clk2, hup, hmm2⟩ := hem1.update Tryz.underlying106 key (.map (some b))
            have HUP := Lib.hid hup; clear hup
            have HM2 := Lib.hid hmm2; clear hmm2 hem1
            have HLE := Lib.hid hle; clear hle
            go_wp2_with (first | ((with_reducible refine wpL_len HLEN.out ?_ ?_); rfl) | ((with_reducible refine wpL_mapUpdate HUP.out ?_ ?_ ?_ ?_); rfl; rfl; rfl))
            go_end0
            refine ⟨rfl, ?_⟩
            rw [HSA.out]
            obtain ⟨hq1, hq2⟩ := HJ1.out.put hkp.out HMB0.out hjw.out ⟨_, _, HMM.out⟩ hbj HBM.out HM2.out
            refine ⟨_, hq1, ?_, HKW.out.setMap (Or.inl (by simp [footJ])) _ _, fun k hk => (hq2 k hk).imp id (Nat.le_trans hw1)⟩
            rw [strip_putJ]
            simp only [endSet, HMO.out, HLL.out, Option.getD_some, HLE.out]; rfl
end Go.Proofs.YtckfgnbilcjdpaaGreatDoor
/- SetAt: the cookies of a step are set. -/
namespace Go.Proofs.YtckfgnbilcjdpaaGreatDoor
open Go.RowKit
set_option maxRecDepth 100000

theorem JarMem.stays {w w' : World} {jb eb : Nat} {pv : Value} {J : JB} {seq : Nat} (h : JarMem w jb eb pv J seq) (hb : Below w.heap.size w w') : JarTo w w' jb eb pv J (strip J, seq) :=
  ⟨J, h.below hb, rfl, (Keeps.refl _ _).below hb, fun _ hk => Or.inl hk⟩

/-- What a step that sets cookies makes of the jar. -/
def stepSet (listed : Bool) (ss : List (List UInt8)) (J : List (List UInt8 × List Ent)) (seq : Nat) (sch h path : List UInt8) (s : Int) (cs : List Ck) : List (List UInt8 × List Ent) × Nat :=
  if sch = httpB ∨ sch = httpsB then setA listed ss J seq (h.map lowB) (defPath path) s cs else (J, seq)

theorem setA_nil (listed : Bool) (ss : List (List UInt8)) (J : List (List UInt8 × List Ent)) (seq : Nat) (host dp : List UInt8) (now : Int) : setA listed ss J seq host dp now [] = (J, seq) := rfl

set_option maxHeartbeats 2000000 in
theorem setCookies_empty (jb eb : Nat) (pv : Value) (J : JB) (seq : Nat) (w : World) (ub : Nat) (cap : Nat) (A : Option Addr) (s : Int) (hj : JarMem w jb eb pv J seq) :
    Calls Tryz.prog 59 #[.pointer (some ⟨jb, 0, none⟩), .pointer (some ⟨ub, 0, none⟩), .slice A 0 cap, tm s 0] w fun e w' => e = .returned (.tuple #[]) ∧ JarTo w w' jb eb pv J (strip J, seq) := by
  have HJ := Lib.hid hj; clear hj
  go_enter Tryz.func59, Tryz.ntmps59
  go_wp2_with fail
  refine bodyPost_ret (results_none rfl _ _ _) rfl ?_
  refine ⟨rfl, HJ.out.stays ?_⟩
  exact (Below.refl _ _).alloc (Nat.le_refl _) _

set_option maxHeartbeats 2000000 in
theorem setCookies_else (jb eb : Nat) (pv : Value) (J : JB) (seq : Nat) (w : World) (ub : Nat) (cap n : Nat) (A : Option Addr) (s : Int) (sch : List UInt8) (hj : JarMem w jb eb pv J seq)
    (hu : w.cell? ⟨ub, 0, none⟩ = some (.string (bs sch))) (h1 : sch ≠ httpB) (h2 : sch ≠ httpsB) :
    Calls Tryz.prog 59 #[.pointer (some ⟨jb, 0, none⟩), .pointer (some ⟨ub, 0, none⟩), .slice A n cap, tm s 0] w fun e w' => e = .returned (.tuple #[]) ∧ JarTo w w' jb eb pv J (strip J, seq) := by
  by_cases hn : n = 0
  · subst hn; exact setCookies_empty jb eb pv J seq w ub cap A s hj
  have HJ := Lib.hid hj; clear hj
  have hub : ub < w.heap.size := World.block_lt_of_cell? w _ hu
  have hl0 : ((n : Int) == 0) = false := by rw [Bool.eq_false_iff]; intro h; rw [beq_iff_eq] at h; omega
  have e1 : (sch == ([104, 116, 116, 112] : List UInt8)) = false := by rw [beq_eq_false_iff_ne]; exact h1
  have e2 : (sch == ([104, 116, 116, 112, 115] : List UInt8)) = false := by rw [beq_eq_false_iff_ne]; exact h2
  go_enter Tryz.func59, Tryz.ntmps59
  go_wp2_with fail
  refine bodyPost_ret (results_none rfl _ _ _) rfl ?_
  refine ⟨rfl, HJ.out.stays ?_⟩
  exact (Below.refl _ _).alloc (Nat.le_refl _) _

/-- SetAt. -/
theorem setAt_any (jb eb : Nat) (pv : Value) (listed : Bool) (ss : List (List UInt8)) (J : JB) (seq : Nat) (wb w : World) (t0 : TypeId) (v0 : Value)
    (ub : Nat) (A : Option Addr) (cap m : Nat) (cbs : List Nat) (cs : List Ck) (s : Int) (raw h sch path : List UInt8)
    (hB : Below wb.heap.size wb w) (hg : wb.cell? ⟨0, 0, none⟩ = some (.iface t0 v0)) (hp : PslAt wb pv listed ss) (hn : ss.length ≤ maxLen) (hs : ∀ s ∈ ss, s.length ≤ maxLen)
    (hj : JarMem w jb eb pv J seq) (hbase : ∀ k ∈ footJ jb eb J, wb.heap.size ≤ k ∧ k < m)
    (hc : CksAt w A cbs cs m) (hok : ∀ c ∈ cs, CkSm c) (hcl : cs.length ≤ 64) (hseq : seq ≤ 1000000)
    (hu : RowAt w ub 0 [.string (bs sch), .string (bs raw), .string (bs path)])
    (hgh : GoodHost h) (hraw : HostOf raw h) (hrl : raw.length ≤ 2147483647) (hpl : path.length ≤ 2147483647)
    (hs0 : 0 ≤ s) (hs1 : s ≤ 4294967296) :
    Calls Tryz.prog 40 #[.pointer (some ⟨jb, 0, none⟩), .pointer (some ⟨ub, 0, none⟩), .slice A cs.length cap, tm s 0] w fun e w' => e = .returned (.tuple #[]) ∧ JarTo w w' jb eb pv J (stepSet listed ss (strip J) seq sch h path s cs) := by
  have hbb : Below w.heap.size w (w.alloc (.cells #[.int .i64 s, .int .i64 0] 83)) := (Below.refl _ _).alloc (Nat.le_refl _) _
  have hall : Hid (∀ w0, Below w.heap.size w w0 → Calls Tryz.prog 59 #[.pointer (some ⟨jb, 0, none⟩), .pointer (some ⟨ub, 0, none⟩), .slice A cs.length cap, tm s 0] w0 fun e w' => e = .returned (.tuple #[]) ∧ JarTo w0 w' jb eb pv J (stepSet listed ss (strip J) seq sch h path s cs)) := by
    intro w0 hb0
    by_cases hsch : sch = httpB ∨ sch = httpsB
    · rw [stepSet, if_pos hsch]
      cases hcs : cs with
      | nil => rw [setA_nil]; exact setCookies_empty jb eb pv J seq w0 ub cap A s (hj.below hb0)
      | cons c r =>
        rw [← hcs]
        refine setCookies_web jb eb pv listed ss J seq wb w0 t0 v0 ub A cap m cbs cs s raw h sch path (hB.trans (hb0.mono hB.size)) hg hp hn hs (hj.below hb0) hbase ?_ hok (by rw [hcs]; simp) hcl hseq (hu.below hb0) hsch hgh hraw hrl hpl hs0 hs1
        refine ⟨hc.len, hc.cells.below hb0, fun i h1 h2 => (hc.cks i h1 h2).below hb0, hc.off, hc.offA⟩
    · rw [stepSet, if_neg hsch]
      exact setCookies_else jb eb pv J seq w0 ub cap cs.length A s sch (hj.below hb0) (by have := (hu.below hb0) 0 _ rfl; rw [Nat.zero_add] at this; exact this) (fun e => hsch (Or.inl e)) (fun e => hsch (Or.inr e))
  have hbb2 := Lib.hid hbb; clear hbb
  clear hB hg hp hn hs hj hbase hc hok hu hgh hraw
  go_enter Tryz.func40, Tryz.ntmps40
  go_wp2_with fail
  refine (hall.out _ hbb2.out).mono ?_
  rintro e w1 ⟨rfl, hto⟩
  have HT := Lib.hid hto; clear hto
  go_wp2
  go_end0
  refine ⟨rfl, ?_⟩
  obtain ⟨J', h1, h2, h3, h4⟩ := HT.out
  refine ⟨J', h1, h2, ?_, ?_⟩
  · exact ((Keeps.refl (fun k => k ∈ footJ jb eb J) w).below hbb2.out).trans h3 (fun j hj => Or.inl hj)
  · intro k hk
    rcases h4 k hk with h | h
    · exact Or.inl h
    · exact Or.inr (Nat.le_trans hbb2.out.size h)
end Go.Proofs.YtckfgnbilcjdpaaGreatDoor
