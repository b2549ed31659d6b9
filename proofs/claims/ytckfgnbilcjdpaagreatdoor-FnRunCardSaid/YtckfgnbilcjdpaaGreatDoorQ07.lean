/- The contract of cookies. -/
import Derived.Test.YtckfgnbilcjdpaaGreatDoorQ06
namespace Go.Proofs.YtckfgnbilcjdpaaGreatDoor
open Go.RowKit Go.Sort
set_option maxRecDepth 100000

/-- The path that is asked for. -/
def askPath (path : List UInt8) : List UInt8 := if path = [] then [47] else path

theorem filter_less {α : Type} {p q : α → Bool} {e : α} : ∀ {l : List α}, (∀ x, p x = true → q x = true) → e ∈ l → q e = true → p e = false → (l.filter p).length < (l.filter q).length
  | [], _, he, _, _ => by simp at he
  | a :: r, h, he, hq, hp => by
    have hle : ∀ l : List α, (l.filter p).length ≤ (l.filter q).length := by
      intro l
      induction l with
      | nil => simp
      | cons x r ih =>
        rw [List.filter_cons, List.filter_cons]
        cases h1 : p x with
        | true => rw [h x h1]; simpa using ih
        | false => cases q x with
          | true => simp; omega
          | false => simpa using ih
    rcases List.mem_cons.1 he with rfl | he
    · rw [List.filter_cons_of_neg (by rw [hp]; simp), List.filter_cons_of_pos hq, List.length_cons]
      have := hle r; omega
    · have ih := filter_less (l := r) h he hq hp
      rw [List.filter_cons, List.filter_cons]
      cases h1 : p a with
      | true => rw [h a h1]; simpa using ih
      | false => cases q a with
        | true => simp; omega
        | false => simpa using ih

theorem nodup_len : ∀ {l m : List (List UInt8)}, l.Nodup → (∀ x ∈ l, x ∈ m) → l.length ≤ m.length
  | [], _, _, _ => Nat.zero_le _
  | a :: r, m, hn, hs => by
    rw [List.nodup_cons] at hn
    have h1 := nodup_len (m := m.erase a) hn.2 (fun x hx => (List.mem_erase_of_ne (fun e => hn.1 (by rw [← e]; exact hx))).2 (hs x (List.mem_cons_of_mem _ hx)))
    have h2 := List.length_erase_of_mem (hs a (List.mem_cons_self ..))
    have h3 := List.length_pos_of_mem (hs a (List.mem_cons_self ..))
    rw [List.length_cons]; omega
theorem plen_le {P L0 : List Ent} (hn : (P.map idE).Nodup) (hs : ∀ e ∈ P, e ∈ L0) : P.length ≤ L0.length := by
  have := nodup_len (m := L0.map idE) hn (by intro x hx; obtain ⟨e, he, rfl⟩ := List.mem_map.1 hx; exact List.mem_map.2 ⟨e, hs e he, rfl⟩)
  simpa using this

theorem put_none (a : Act) (v : Value) : a.put none v = a := rfl

theorem foot_put {jb eb b : Nat} {J : JB} {key : List UInt8} {L0 L : List Ent} (hf : findJ J key = some (b, L0)) : ∀ k ∈ footJ jb eb (putJ J key b L), k ∈ footJ jb eb J := by
  have hm := findJ_mem hf
  intro k hk
  rw [putJ, if_pos (List.mem_map.2 ⟨_, hm, rfl⟩)] at hk
  simp only [footJ, List.mem_cons, List.mem_map] at hk ⊢
  rcases hk with h | h | ⟨p, ⟨q, hq, rfl⟩, h⟩
  · exact Or.inl h
  · exact Or.inr (Or.inl h)
  · refine Or.inr (Or.inr ?_)
    split at h
    · exact ⟨_, hm, h⟩
    · exact ⟨q, hq, h⟩
theorem JarMem.foot_lt {w : World} {jb eb : Nat} {pv : Value} {J : JB} {seq : Nat} (h : JarMem w jb eb pv J seq) : ∀ k ∈ footJ jb eb J, k < w.heap.size := by
  intro k hk
  simp only [footJ, List.mem_cons, List.mem_map] at hk
  rcases hk with rfl | rfl | ⟨p, hp, rfl⟩
  · exact World.block_lt_of_cell? w _ (h.jar 0 _ rfl).1
  · obtain ⟨es, c, h⟩ := h.ent; exact h.lt
  · obtain ⟨es, c, h⟩ := h.subs p hp; exact h.lt

/-- The cells of a cookie that is handed out. -/
def cookC (x : Ent) : List Value := [.string (bs x.name), .string (bs x.value), .bool x.quoted, .string ⟨#[]⟩, .string ⟨#[]⟩, .int .i64 0, .int .i64 0, .int .i64 0, .bool false, .bool false]
/-- What cookies hands back: pointers to cookies. -/
def OutAt (w : World) (v : Value) (d : List Ent) : Prop :=
  ∃ (base : Nat) (cbs : List Nat), RowOf w base 87 encP 1 v cbs ∧ cbs.length = d.length ∧ ∀ i (h1 : i < cbs.length) (h2 : i < d.length), BlkAt w cbs[i] (cookC d[i])
/-- What is handed out. -/
def selA (J : List (List UInt8 × List Ent)) (key : List UInt8) (now : Int) (send : Ent → Bool) : List Ent := ((findA J key).getD []).filterMap (selGo now send)
/-- What asking makes of the jar. -/
def askA (J : List (List UInt8 × List Ent)) (key : List UInt8) (now : Int) (send : Ent → Bool) : List (List UInt8 × List Ent) :=
  match findA J key with
  | none => J
  | some L0 => getA J key L0 now send

set_option maxHeartbeats 8000000 in
theorem cookies_web (jb eb : Nat) (pv : Value) (listed : Bool) (ss : List (List UInt8)) (JB : List (List UInt8 × Nat × List Ent)) (seq : Nat) (wb w : World)
    (ub : Nat) (s : Int) (raw h sch path : List UInt8)
    (hB : RowKit.Below wb.heap.size wb w) (hp : PslAt wb pv listed ss) (hn : ss.length ≤ maxLen) (hs : ∀ s ∈ ss, s.length ≤ maxLen)
    (hj : JarMem w jb eb pv JB seq) (hbase : ∀ k ∈ footJ jb eb JB, wb.heap.size ≤ k)
    (hok : ∀ p ∈ JB, (∀ e ∈ p.2.2, EntOk e) ∧ p.2.2.length ≤ 1000000)
    (hu : RowAt w ub 0 [.string (bs sch), .string (bs raw), .string (bs path)]) (hsch : sch = httpB ∨ sch = httpsB)
    (hgh : GoodHost h) (hraw : HostOf raw h) (hrl : raw.length ≤ 2147483647) (hpl : path.length ≤ 2147483647) :
    Calls Tryz.prog 58 #[.pointer (some ⟨jb, 0, none⟩), .pointer (some ⟨ub, 0, none⟩), tm s 0] w fun e w' => ∃ v d, e = .returned v ∧ d.Perm (selA (strip JB) (keyOf listed ss (h.map lowB)) s (fun e => sendB e (sch == httpsB) (h.map lowB) (askPath path))) ∧
      d.Pairwise (fun x y => ltOf cmpSel y x = false) ∧ OutAt w' v d ∧ JarTo w w' jb eb pv JB (askA (strip JB) (keyOf listed ss (h.map lowB)) s (fun e => sendB e (sch == httpsB) (h.map lowB) (askPath path)), seq) := by
  have u0 := hu 0 _ rfl
  have u1 := hu 1 _ rfl
  have u2 := hu 2 _ rfl
  rw [Nat.zero_add] at u0 u1 u2
  have hub : ub < w.heap.size := World.block_lt_of_cell? w _ u0
  have hjb : jb < w.heap.size := World.block_lt_of_cell? w _ (hj.jar 0 _ rfl).1
  have HU := Lib.hid hu; clear hu
  have HB := Lib.hid hB; clear hB
  have HP := Lib.hid hp; clear hp
  have HN := Lib.hid hn; clear hn
  have HS := Lib.hid hs; clear hs
  have HJ := Lib.hid hj; clear hj
  have HBA := Lib.hid hbase; clear hbase
  have HO := Lib.hid hok; clear hok
  have HGH := Lib.hid hgh; clear hgh
  have HR := Lib.hid hraw; clear hraw
  have BB : RowKit.Below w.heap.size w (w.alloc (.cells #[.int .i64 s, .int .i64 0] 83)) := (Below.refl _ _).alloc (Nat.le_refl _) _
  have B0 := BlkAt.made w [.int .i64 s, .int .i64 0] 83
  have HBB := Lib.hid BB; clear BB
  have HB0 := Lib.hid B0; clear B0
  go_enter Tryz.func58, Tryz.ntmps58
  go_upto_region 1 with (fail)
  go_cut [30] (fun s30 wx => s30 = .bool false ∧ wx = w.alloc (.cells #[.int .i64 s, .int .i64 0] 83))
  case first =>
    rcases hsch with rfl | rfl
    all_goals
      go_wp2_with fail
      go_meet
      case rel => exact ⟨rfl, rfl⟩
  case rest =>
    obtain ⟨rfl, rfl⟩ := hcut
    go_wp2_with fail
    refine (canonicalHost_yes raw h HGH.out HR.out _ (Nat.le_trans hrl (by decide))).mono ?_
    rintro e w1 ⟨rfl, hb⟩
    have HK1 := Lib.hid (HBB.out.trans (hb.mono HBB.out.size))
    have HX1 := Lib.hid (HB0.out.below hb)
    clear hb
    have h1 : (58 : UInt8) ∉ h.map lowB := HGH.out.low.no not58
    have h2 : (37 : UInt8) ∉ h.map lowB := HGH.out.low.no not37
    have hhl : (h.map lowB).length ≤ 2147483647 := by
      rcases HR.out with e | ⟨p, e, _⟩
      · rw [← e]; simpa using hrl
      · rw [e] at hrl; simp at hrl ⊢; omega
    have H58 := Lib.hid h1; clear h1
    have H37 := Lib.hid h2; clear h2
    have hj0 : w1.cell? ⟨jb, 0, none⟩ = some pv := by rw [HK1.out.cell (p := ⟨jb, 0, none⟩) hjb]; exact (HJ.out.jar 0 _ rfl).1
    go_wp2_with fail
    refine (jarKey_any pv listed ss (h.map lowB) H58.out H37.out _ (Nat.le_trans hhl (by decide)) ((HP.out.below HB.out).below HK1.out) HN.out HS.out).mono ?_
    rintro e w2 ⟨rfl, rfl⟩
    obtain ⟨key, hkey⟩ : ∃ key, key = keyOf listed ss (h.map lowB) := ⟨_, rfl⟩
    rw [← hkey]
    have HKEY := Lib.hid hkey; clear hkey
    have u0' : w1.cell? ⟨ub, 0, none⟩ = some (.string (bs sch)) := by rw [HK1.out.cell (p := ⟨ub, 0, none⟩) hub]; exact u0
    have u2' : w1.cell? ⟨ub, 2, none⟩ = some (.string (bs path)) := by rw [HK1.out.cell (p := ⟨ub, 2, none⟩) hub]; exact u2
    have hj1 : w1.cell? ⟨jb, 1, none⟩ = some (.map (some eb)) := by rw [HK1.out.cell (p := ⟨jb, 1, none⟩) hjb]; exact (HJ.out.jar 1 _ rfl).1
    obtain ⟨ees, eclk, hem⟩ := HJ.out.ent
    have HEM := Lib.hid (hem.below HK1.out); clear hem
    have HLK0 := HEM.out.lookup Tryz.underlying106 Tryz.zeroValue115 key
    have HJ1 := Lib.hid (HJ.out.below HK1.out)
    rw [look_kvJ] at HLK0
    clear u0 u1 u2
    cases hf : findJ JB key with
    | none =>
      rw [hf] at HLK0
      have HLK := Lib.hid HLK0; clear HLK0
      have hnn : ∀ wx, (binOp .eql 115 (.map none) (.map none)).run Tryz.prog wx = .ok (.bool true) wx := mapEq none
      go_wp2_with (first | ((with_reducible refine wpL_lookup HLK.out ?_ ?_ ?_); rfl; rfl))
      go_ret
      have hfa : findA (strip JB) (keyOf listed ss (h.map lowB)) = none := by rw [findA_strip, ← HKEY.out, hf]; rfl
      refine ⟨_, [], rfl, ?_, List.Pairwise.nil, ⟨0, [], RowOf.nil _ _ _ _ _, rfl, fun i h1 _ => absurd h1 (Nat.not_lt_zero _)⟩, ?_⟩
      · rw [selA, hfa]; exact List.Perm.refl _
      · unfold askA
        rw [hfa]
        exact ⟨JB, HJ.out.below HK1.out, rfl, (Keeps.refl _ _).below HK1.out, fun _ hk => Or.inl hk⟩
    | some q =>
      obtain ⟨b, L0⟩ := q
      rw [hf] at HLK0
      have HLK := Lib.hid HLK0; clear HLK0
      have HF := Lib.hid hf; clear hf
      have hnn : ∀ wx, (binOp .eql 115 (.map (some b)) (.map none)).run Tryz.prog wx = .ok (.bool false) wx := mapEq (some b)
      obtain ⟨pp, hpp⟩ : ∃ pp, pp = askPath path := ⟨_, rfl⟩
      have HPP := Lib.hid hpp; clear hpp
      go_upto_if 68 with (first | ((with_reducible refine wpL_lookup HLK.out ?_ ?_ ?_); rfl; rfl))
      clear HLK hnn
      go_cut [12] (fun s12 wx => s12 = .string (bs pp) ∧ wx = w1)
      case first =>
        by_cases hpe : path = []
        · have : (path == ([] : List UInt8)) = true := by rw [hpe]; rfl
          have hpp1 : Hid (pp = [47]) := by rw [Hid, HPP.out, askPath, if_pos hpe]
          subst hpe
          go_wp2_with fail
          go_meet
          case rel => exact ⟨by rw [hpp1.out]; rfl, rfl⟩
        · have hpp1 : Hid (pp = path) := by rw [Hid, HPP.out, askPath, if_neg hpe]
          have hpn : (path.isEmpty) = false := by cases path with | nil => exact absurd rfl hpe | cons => rfl
          rw [hpn]
          go_wp2_with fail
          go_meet
          case rel => exact ⟨by rw [hpp1.out], rfl⟩
      case rest =>
        obtain ⟨rfl, hwc⟩ := hcut
        subst wc
        obtain ⟨es, clk, hmm⟩ := HJ1.out.subs (key, b, L0) (findJ_mem HF.out)
        obtain ⟨hrg, hrn⟩ := Rng.start hmm
        have HRN := Lib.hid hrn; clear hrn
        have HND : Hid ((L0.map idE).Nodup) := HRN.out.nodup
        have hbw : b < w1.heap.size := hmm.lt
        have hww : w.heap.size < w1.heap.size := World.block_lt_of_cell? w1 _ (HX1.out 0 _ rfl).1
        obtain ⟨hne1, hne2⟩ := nodup_ne HJ1.out.nod
        have hbj : b ≠ jb ∧ b ≠ eb := hne2 _ (findJ_mem HF.out)
        have hokb : Hid ((∀ e ∈ L0, EntOk e) ∧ L0.length ≤ 1000000) := HO.out _ (findJ_mem HF.out)
        have hbw7 : b ≠ w.heap.size := by
          obtain ⟨_, _, hq⟩ := HJ.out.subs (key, b, L0) (findJ_mem HF.out)
          have := hq.lt; simp only at this; omega
        clear hmm hj0 u0' u2' hj1 hne2
        obtain ⟨send, hsend⟩ : ∃ send : Ent → Bool, send = fun e => sendB e (sch == httpsB) (h.map lowB) pp := ⟨_, rfl⟩
        have HSD := Lib.hid hsend; clear hsend
        go_wp2
        go_loopg [13, 14] (L0.filter fun e => decide (idE e ∉ ([] : List Ent).map idE)).length (fun gk md sel wr => ∃ P : List Ent, gk = (L0.filter fun e => decide (idE e ∉ P.map idE)).length ∧ md = .bool (P.any (touchE s send)) ∧
          Hid (Rng wr b w1.heap.size (P.map idE) (LGo s send (P.map idE) L0) clk) ∧ Hid (Keeps (fun k => k = b) w1 wr) ∧ Hid (RowOf wr (w1.heap.size + 1) 118 encE 16 sel (P.reverse.filterMap (selGo s send))) ∧ Hid ((P.map idE).Nodup ∧ ∀ e ∈ P, e ∈ L0))
        case atStart =>
          refine ⟨[], rfl, rfl, ?_, (Keeps.refl _ _).alloc _, RowOf.nil _ _ _ _ _, List.nodup_nil, by simp⟩
          rw [List.map_nil, lgo_nil]; exact HRN.out
        case round =>
          obtain ⟨P, rfl, rfl, hrg2, hkp, hrow, hpp2⟩ := hrel
          rcases hrg2.out.next with ⟨hall, hnx⟩ | ⟨e, heL, heD, w2, hnx, hrg3, hen, hkr⟩
          · have HALL := Lib.hid hall; clear hall hrg
            have hperm : P.Perm L0 := came_perm HND.out hpp2.out.1 hpp2.out.2 HALL.out
            have hany : P.any (touchE s send) = L0.any (touchE s send) := by
              rw [Bool.eq_iff_iff, List.any_eq_true, List.any_eq_true]; simp [hperm.mem_iff]
            rw [hany]
            have HPERM := Lib.hid hperm; clear hperm hany
            obtain ⟨es2, clk2, hmm2⟩ := hrg2.out.mem
            rw [lgo_end HALL.out] at hmm2
            have HM2 := Lib.hid hmm2; clear hmm2
            have hkS : Hid (Keeps (SetS jb (some b)) w1 wr) := hkp.out.mono (fun k _ hk => Or.inr (by rw [hk]))
            have hmb : Hid (some b = (findJ JB key).map Prod.fst) := by rw [Hid, HF.out]; rfl
            have hjr : Hid (BlkAt wr jb [pv, .map (some eb), .int .u64 seq]) := HJ1.out.jar.keeps hkp.out (fun e => hbj.1 e.symm)
            obtain ⟨es3, clk3, hme⟩ := HJ1.out.entW hkS.out hmb.out
            have HME := Lib.hid hme; clear hme
            go_upto_if 101 with (fail)
            clear hnx
            go_cut [13] (fun _ wx => ∃ J', JarMem wx jb eb pv J' seq ∧ strip J' = getA (strip JB) key L0 s send ∧ (∀ k ∈ footJ jb eb J', k ∈ footJ jb eb JB) ∧ Keeps (fun k => k = eb) wr wx)
            case first =>
              cases hto : L0.any (touchE s send) with
              | false =>
                have hsame : Hid (JarMem wr jb eb pv JB seq) := by
                  refine HJ1.out.same hkS.out hmb.out (n := w1.heap.size) (v := .map (some b)) ?_ hjr.out
                  rw [HF.out]
                  have := HM2.out
                  rw [not_touch hto] at this
                  exact ⟨b, es2, clk2, rfl, this, hbj.1, Or.inl rfl⟩
                have HTO := Lib.hid hto; clear hto
                go_wp2_with fail
                go_meet
                case rel => exact ⟨JB, hsame.out, by simp only [getA, endSet, HTO.out]; rfl, fun k hk => hk, Keeps.refl _ _⟩
              | true =>
                have HTO := Lib.hid hto; clear hto
                obtain ⟨L1, hL1⟩ : ∃ L1, L1 = L0.filterMap (fGo s send) := ⟨_, rfl⟩
                have HM3 := HM2.out
                rw [← hL1] at HM3
                have hgA : getA (strip JB) key L0 s send = if L1.isEmpty then delA (strip JB) key else putA (strip JB) key L1 := by
                  simp only [getA, endSet, HTO.out, ← hL1, Option.getD_some, if_true]
                have HGA := Lib.hid hgA; clear hgA
                have HL1 := Lib.hid hL1; clear hL1
                have HLEN := Lib.hid (HM3.len (ty := 3) Tryz.underlying115)
                rw [show (kvE L1).length = L1.length by simp [kvE]] at HLEN
                have hjp := hjr.out.cell 1 rfl
                cases hle : L1.isEmpty with
                | true =>
                  rw [hle] at HGA
                  have hl0 : ((L1.length : Int) == 0) = true := by rw [List.isEmpty_iff] at hle; rw [hle]; rfl
                  obtain ⟨es4, hdl, hmm4⟩ := HME.out.delete (u := 9) (ty := 0) Tryz.underlying106 key
                  have HDL := Lib.hid hdl; clear hdl
                  obtain ⟨hq1, hq2⟩ := HJ1.out.del hkS.out hmb.out hjr.out hmm4
                  have HQ1 := Lib.hid hq1; clear hq1 hmm4
                  have HQ2 := Lib.hid hq2; clear hq2
                  go_wp2_with (first | ((with_reducible refine wpL_len HLEN.out ?_ ?_); rfl) | ((with_reducible refine wpL_delete HDL.out ?_ ?_ ?_); rfl; rfl))
                  go_meet
                  case rel => exact ⟨_, HQ1.out, by rw [strip_filter, HGA.out]; rfl, fun k hk => HQ2.out k hk, (Keeps.refl (fun k => k = eb) wr).setMap (Or.inl (show (fun k => k = eb) eb from rfl)) _ _⟩
                | false =>
                  rw [hle] at HGA
                  have hl0 : ((L1.length : Int) == 0) = false := by
                    rw [Bool.eq_false_iff]; intro h; rw [beq_iff_eq] at h
                    rw [List.isEmpty_eq_false_iff] at hle
                    exact hle (List.length_eq_zero_iff.1 (by omega))
                  obtain ⟨es4, clk4, hup, hmm4⟩ := HME.out.update Tryz.underlying106 key (.map (some b))
                  have HUP := Lib.hid hup; clear hup
                  obtain ⟨hq1, hq2⟩ := HJ1.out.put hkS.out hmb.out hjr.out ⟨_, _, HM3⟩ hbj.1 (Or.inl rfl) hmm4
                  have HQ1 := Lib.hid hq1; clear hq1 hmm4
                  have HQ2 := Lib.hid hq2; clear hq2
                  go_wp2_with (first | ((with_reducible refine wpL_len HLEN.out ?_ ?_); rfl) | ((with_reducible refine wpL_mapUpdate HUP.out ?_ ?_ ?_ ?_); rfl; rfl; rfl))
                  go_meet
                  case rel => exact ⟨_, HQ1.out, by rw [strip_putJ, HGA.out]; rfl, foot_put HF.out, (Keeps.refl (fun k => k = eb) wr).setMap (Or.inl (show (fun k => k = eb) eb from rfl)) _ _⟩
            case rest =>
              obtain ⟨J', hjm, hst, hft, hke⟩ := hcut
              have HJM := Lib.hid hjm; clear hjm
              have HST := Lib.hid hst; clear hst
              have HFT := Lib.hid hft; clear hft
              have hown := hrow.out.own
              have hebw : eb < w1.heap.size := HEM.out.lt
              have hrowc : RowOf wc (w1.heap.size + 1) 118 encE 16 u14 (P.reverse.filterMap (selGo s send)) := hrow.out.keepsOwn hke (fun g hg e => by have := (hown g hg).1; omega)
              have hsl : (P.reverse.filterMap (selGo s send)).length ≤ 1000000 := by
                have h1 := List.length_filterMap_le (selGo s send) P.reverse
                have h2 := plen_le hpp2.out.1 hpp2.out.2
                have h3 := hokb.out.2
                rw [List.length_reverse] at h1
                omega
              have hkc : Hid (Keeps (fun k => k ∈ footJ jb eb JB) w wc) := by
                refine (((Keeps.refl (fun k => k ∈ footJ jb eb JB) w).below HK1.out).trans hkp.out ?_).trans hke ?_
                · intro j e; left; subst e; exact List.mem_cons_of_mem _ (List.mem_cons_of_mem _ (List.mem_map.2 ⟨_, findJ_mem HF.out, rfl⟩))
                · intro j e; left; subst e; simp [footJ]
              have HKE := Lib.hid hke; clear hke
              have HROWC := Lib.hid hrowc; clear hrowc hrow
              have HOWNC := Lib.hid hown; clear hown
              clear hrg2 hkp hkS hmb hjr HME HM2
              go_wp2_with fail
              refine (sortSel HROWC.out hsl).mono ?_
              rintro e w2 ⟨rfl, d, hdp, hds, hk2, hv⟩
              have hdl : d.length ≤ 1000000 := by rw [hdp.length_eq]; exact hsl
              have HDP := Lib.hid hdp; clear hdp
              have HDS := Lib.hid hds; clear hds
              obtain ⟨A, cap, hu14, hA⟩ : ∃ A cap, u14 = .slice A d.length cap ∧ Hid (d.length = 0 ∨ ∃ g, A = some ⟨g, 0, none⟩ ∧ HoldsK encE 16 w2 g 0 d.toArray) := by
                rcases hv with ⟨h1, h2⟩ | ⟨g, cap, h1, h2, _⟩
                · subst h2; exact ⟨none, 0, h1, Or.inl rfl⟩
                · exact ⟨_, cap, h1, Or.inr ⟨g, rfl, h2⟩⟩
              have hk2' : Hid (Keeps (fun k => k ∈ footJ jb eb JB) w w2) := hkc.out.trans hk2 (fun j hj => by right; have h1 := (HOWNC.out j hj).1; have h2 := HK1.out.size; omega)
              have hj2 : Hid (JarMem w2 jb eb pv J' seq) := by
                refine HJM.out.keeps hk2 (fun k hk hj => ?_)
                have h1 := (HOWNC.out k hj).1
                have h2 := HJ1.out.foot_lt k (HFT.out k hk)
                omega
              have hw1 : w.heap.size ≤ w1.heap.size := HK1.out.size
              clear HK1 HX1 HEM HJ1 hkc hk2 HROWC hv
              subst hu14
              go_wp2
              go_loopw [6, 120] (fun v6 i wx => ∃ (k : Nat) (cbs : List Nat), k ≤ d.length ∧ i = .int .i64 k ∧ cbs.length = k ∧ Hid (RowOf wx w2.heap.size 87 encP 1 v6 cbs) ∧ Hid (RowKit.Below w2.heap.size w2 wx) ∧
                Hid (∀ i (h1 : i < cbs.length) (h2 : i < d.length), BlkAt wx cbs[i] (cookC d[i])) ∧ Hid (∀ x ∈ cbs, w2.heap.size ≤ x ∧ v6.ownBlock ≠ some x)) (fun _ i _ => d.length - (intOf i).toNat)
              case atStart =>
                exact ⟨0, [], Nat.zero_le _, rfl, rfl, RowOf.nil _ _ _ _ _, Below.refl _ _, fun i h1 _ => absurd h1 (Nat.not_lt_zero _), fun x hx => by cases hx⟩
              case round =>
                obtain ⟨k, cbs, hk, rfl, hcl, hr6, hbl, hcs, hob⟩ := hrel
                by_cases hlt : k < d.length
                · rcases hA.out with h0 | ⟨g, rfl, hH⟩
                  · omega
                  have hrw := (HoldsK.row encE_len hH (i := k) (by simpa using hlt)).below hbl.out
                  obtain ⟨x, hx⟩ : ∃ x, x = d[k] := ⟨_, rfl⟩
                  rw [show d.toArray[k]! = x by rw [hx, getElem!_pos d.toArray k (by simpa using hlt)]; simp, Nat.zero_add] at hrw
                  have HX := Lib.hid hx; clear hx
                  have HL := Lib.hid (loadAt_agg Tryz.isAgg118 Tryz.sizeOf118 hrw rfl)
                  clear hrw hH
                  go_upto_region 35 with (first | ((with_reducible refine wpL_load HL.out ?_ ?_); rfl) | ((with_reducible refine wpL_store (storeNewE _ x) ?_ ?_ ?_); rfl; rfl))
                  have hE3 : BlkAt (wr.alloc (.cells (encE x).toArray 118)) wr.heap.size (encE x) := BlkAt.made wr (encE x) 118
                  have hb3 : RowKit.Below w2.heap.size w2 (wr.alloc (.cells (encE x).toArray 118)) := hbl.out.alloc (hbl.out.size) _
                  have hr3 : Hid (RowOf (wr.alloc (.cells (encE x).toArray 118)) w2.heap.size 87 encP 1 u6 cbs) := hr6.out.alloc _
                  have hc3 : Hid (∀ i (h1 : i < cbs.length) (h2 : i < d.length), BlkAt (wr.alloc (.cells (encE x).toArray 118)) cbs[i] (cookC d[i])) := fun i h1 h2 => (hcs.out i h1 h2).alloc _
                  have hB3 := Lib.hid hb3; clear hb3
                  rw [put_none]
                  clear HL hr6 hbl hcs
                  generalize wr.alloc (.cells (encE x).toArray 118) = w3 at hE3 hB3 hr3 hc3 ⊢
                  generalize wr.heap.size = bk at hE3 ⊢
                  have x0 := hE3.cell 0 rfl
                  have x1 := hE3.cell 1 rfl
                  have x2 := hE3.cell 2 rfl
                  have HBP := Lib.hid (buildP w3.heap.size (w3.alloc (.cells (cookC x).toArray 89)))
                  have hC4 : BlkAt ((w3.alloc (.cells (cookC x).toArray 89)).alloc (.cells (encP w3.heap.size).toArray 87)) w3.heap.size (cookC x) := (BlkAt.made w3 (cookC x) 89).alloc _
                  have hP4 : BlkAt ((w3.alloc (.cells (cookC x).toArray 89)).alloc (.cells (encP w3.heap.size).toArray 87)) (w3.alloc (.cells (cookC x).toArray 89)).heap.size (encP w3.heap.size) := BlkAt.made _ _ _
                  have hsz : (w3.alloc (.cells (cookC x).toArray 89)).heap.size = w3.heap.size + 1 := by simp
                  have hsz2 : ((w3.alloc (.cells (cookC x).toArray 89)).alloc (.cells (encP w3.heap.size).toArray 87)).heap.size = w3.heap.size + 2 := by simp
                  have hown6 := hr3.out.own
                  have hB3s := hB3.out.size
                  obtain ⟨v', w5, hap, hr5, hk5, hn5⟩ := appendP w3.heap.size _ ((hr3.out.alloc (.cells (cookC x).toArray 89)).alloc (.cells (encP w3.heap.size).toArray 87)) (by omega) (by omega) hP4 85
                  rw [hsz] at hap
                  have HAP : Hid ((Builtin.append_ #[85, 85] 85 #[u6, .slice (some ⟨w3.heap.size + 1, 0, none⟩) 1 1]).run Tryz.prog ((w3.alloc (.cells #[.string (bs x.name), .string (bs x.value), .bool x.quoted, .string ⟨#[]⟩, .string ⟨#[]⟩, .int .i64 0, .int .i64 0, .int .i64 0, .bool false, .bool false] 89)).alloc (.cells #[.pointer (some ⟨w3.heap.size, 0, none⟩)] 87)) = .ok v' w5) := hap
                  clear hap
                  have HR5 := Lib.hid hr5; clear hr5
                  have hB5 : Hid (RowKit.Below w2.heap.size w2 w5) := by
                    refine ((hB3.out.alloc hB3s _).alloc (by omega) _).trans (hk5.toBelow (by omega) (fun j hj => (hown6 j hj).1))
                  have hC5 : Hid (∀ i (h1 : i < (cbs ++ [w3.heap.size]).length) (h2 : i < d.length), BlkAt w5 (cbs ++ [w3.heap.size])[i] (cookC d[i])) := by
                    intro i h1 h2
                    by_cases hi : i < cbs.length
                    · rw [List.getElem_append_left hi]
                      exact (((hc3.out i hi h2).alloc _).alloc _).keeps hk5 (hob.out _ (List.getElem_mem hi)).2
                    · have hik : i = k := by simp at h1; omega
                      subst hik
                      rw [List.getElem_append_right (by omega)]
                      have : cbs.length = i := hcl
                      simp only [this, Nat.sub_self, List.getElem_cons_zero]
                      rw [← HX.out]
                      exact hC4.keeps hk5 (fun e => by have := (hown6 _ e).2; omega)
                  have hO5 : Hid (∀ y ∈ cbs ++ [w3.heap.size], w2.heap.size ≤ y ∧ v'.ownBlock ≠ some y) := by
                    intro y hy
                    have hn6 := hn5 y
                    rcases List.mem_append.1 hy with hy | hy
                    · refine ⟨(hob.out y hy).1, fun e => ?_⟩
                      rcases hn6 e with h1 | h1
                      · exact (hob.out y hy).2 h1
                      · obtain ⟨i, hi, ei⟩ := List.getElem_of_mem hy
                        have := World.block_lt_of_cell? w3 _ (hc3.out i hi (by omega) 0 _ rfl).1
                        simp only at this
                        omega
                    · rw [List.mem_singleton] at hy
                      subst hy
                      refine ⟨hB3s, fun e => ?_⟩
                      rcases hn6 e with h1 | h1
                      · have := (hown6 _ h1).2; omega
                      · omega
                  clear hE3 hk5 hn5 hC4 hP4 hob hc3 hr3 hown6
                  go_wp2_with (first | ((with_reducible refine wpL_append HAP.out ?_ ?_ ?_); rfl; rfl))
                  go_roundw
                  case rel =>
                    refine ⟨k + 1, cbs ++ [w3.heap.size], by omega, by go_num, by simp [hcl], HR5.out, hB5.out, hC5.out, hO5.out⟩
                  case measure => simp [intOf]; omega
                · have hke : k = d.length := Nat.le_antisymm hk (Nat.le_of_not_lt hlt)
                  go_wp2
                  refine bodyPost_ret (results_tmp rfl _ _ _) rfl ?_
                  have hfa : findA (strip JB) (keyOf listed ss (h.map lowB)) = some L0 := by rw [findA_strip, ← HKEY.out, HF.out]; rfl
                  have hsd : (fun e => sendB e (sch == httpsB) (h.map lowB) (askPath path)) = send := by rw [HSD.out, HPP.out]
                  refine ⟨_, d, rfl, ?_, HDS.out, ⟨_, cbs, hr6.out, by omega, hcs.out⟩, J', hj2.out.below hbl.out, ?_, hk2'.out.below hbl.out, ?_⟩
                  · rw [hsd, selA, hfa]
                    exact HDP.out.trans ((List.reverse_perm P).trans HPERM.out |>.filterMap _)
                  · rw [hsd, askA, hfa, ← HKEY.out]; exact HST.out
                  · intro j hj; exact Or.inl (HFT.out j hj)
          · have he0 : e ∈ L0 := lgo_mem heL heD
            have HRG := Lib.hid hrg3; clear hrg3
            have hkp2 : Hid (Keeps (fun k => k = b) w1 w2) := hkp.out.trans hkr (fun j hj => Or.inr (by rw [hj]; exact Nat.le_refl _))
            have hrow2 : Hid (RowOf w2 (w1.heap.size + 1) 118 encE 16 u14 (P.reverse.filterMap (selGo s send))) := hrow.out.keeps hkr (fun g hg e => by omega)
            clear hrow hkp hkr hrg
            have heD2 := Lib.hid heD; clear heD
            have heL2 := Lib.hid heL; clear heL
            go_upto_region 19 with (first | ((with_reducible refine wpL_store (storeNewE _ e) ?_ ?_ ?_); rfl; rfl))
            have hE3 : Hid (BlkAt (w2.alloc (.cells (encE e).toArray 118)) w2.heap.size (encE e)) := BlkAt.made w2 (encE e) 118
            have hkp3 : Hid (Keeps (fun k => k = b) w1 (w2.alloc (.cells (encE e).toArray 118))) := hkp2.out.alloc _
            have hrow3 : Hid (RowOf (w2.alloc (.cells (encE e).toArray 118)) (w1.heap.size + 1) 118 encE 16 u14 (P.reverse.filterMap (selGo s send))) := hrow2.out.alloc _
            have hrg3 : Hid (Rng (w2.alloc (.cells (encE e).toArray 118)) b w1.heap.size (idE e :: P.map idE) (LGo s send (P.map idE) L0) clk) := HRG.out.alloc _
            have hb73 : Hid (BlkAt (w2.alloc (.cells (encE e).toArray 118)) w.heap.size [.int .i64 s, .int .i64 0]) := HX1.out.keeps hkp3.out (fun e => hbw7 e.symm)
            have hrl2 := HRG.out.lt
            have hbk : w1.heap.size < w2.heap.size := hrl2.2
            have hown : ∀ j, u14.ownBlock = some j → w1.heap.size + 1 ≤ j ∧ j < w2.heap.size := hrow2.out.own
            have hbs : w2.heap.size < (w2.alloc (.cells (encE e).toArray 118)).heap.size := by show _ < (w2.heap.push _).size; rw [Array.size_push]; omega
            clear hkp2 hrow2 HRG
            generalize hgen : w2.alloc (.cells (encE e).toArray 118) = w3 at hE3 hkp3 hrow3 hrg3 hb73 hbs ⊢
            clear hgen hen
            generalize w2.heap.size = bk at hE3 hbk hbs hown ⊢
            have HOWN := Lib.hid hown; clear hown
            rw [put_none]
            go_cut [84] (fun s84 wx => s84 = .bool (deadE s e) ∧ RowKit.Below w3.heap.size w3 wx)
            case first =>
              have e7 := hE3.out.cell 7 rfl
              have e9 := hE3.out.cell 9 rfl
              have e10 := hE3.out.cell 10 rfl
              have b70 := hb73.out.cell 0 rfl
              have b71 := hb73.out.cell 1 rfl
              cases hper : e.persistent with
              | false =>
                rw [hper] at e7
                have hdd : Hid (deadE s e = false) := by rw [Hid, deadE, hper]; rfl
                go_wp2_with fail
                go_meet
                case rel => exact ⟨by rw [hdd.out], Below.refl _ _⟩
              | true =>
                rw [hper] at e7
                have hdd : Hid (deadE s e = !decide (s < e.exps)) := by rw [Hid, deadE, hper]; rfl
                go_wp2_with fail
                refine (after_any e.exps s _).mono ?_
                rintro r w4 ⟨rfl, hb4⟩
                have HB4 := Lib.hid hb4; clear hb4
                go_wp2_with fail
                go_meet
                case rel => exact ⟨by rw [hdd.out], HB4.out⟩
            case rest =>
              obtain ⟨rfl, hb4⟩ := hcut
              have hkp4 : Hid (Keeps (fun k => k = b) w1 wc) := hkp3.out.below hb4
              have hrow4 : Hid (RowOf wc (w1.heap.size + 1) 118 encE 16 u14 (P.reverse.filterMap (selGo s send))) := hrow3.out.below hb4
              have hrg4 : Hid (Rng wc b w1.heap.size (idE e :: P.map idE) (LGo s send (P.map idE) L0) clk) := hrg3.out.below hb4
              have hE4 : Hid (BlkAt wc bk (encE e)) := hE3.out.below hb4
              have hb74 : Hid (BlkAt wc w.heap.size [.int .i64 s, .int .i64 0]) := hb73.out.below hb4
              clear hkp3 hrow3 hrg3 hE3 hb73 hb4
              have hP2 : Hid (((e :: P).map idE).Nodup ∧ ∀ x ∈ e :: P, x ∈ L0) := by
                refine ⟨?_, ?_⟩
                · rw [List.map_cons, List.nodup_cons]; exact ⟨heD2.out, hpp2.out.1⟩
                · intro x hx
                  rcases List.mem_cons.1 hx with rfl | hx
                  · exact he0
                  · exact hpp2.out.2 x hx
              have hms : Hid ((L0.filter fun x => decide (idE x ∉ (e :: P).map idE)).length < (L0.filter fun x => decide (idE x ∉ P.map idE)).length) := by
                refine filter_less ?_ he0 (by simpa using heD2.out) (by simp)
                intro x hx
                simp only [List.map_cons, List.mem_cons, not_or, decide_eq_true_eq] at hx ⊢
                exact hx.2
              cases hdd : deadE s e with
              | true =>
                have hfg : fGo s send e = none := by rw [fGo, hdd]; rfl
                have htc : touchE s send e = true := by rw [touchE, hdd]; rfl
                have hsl : selGo s send e = none := by rw [selGo, hdd]; rfl
                obtain ⟨es5, clk5, hdl, hrg5⟩ := hrg4.out.delete heL2.out
                have HDL := Lib.hid (hdl 0); clear hdl
                rw [lgo_del HND.out he0 heD2.out hfg] at hrg5
                have HRG5 := Lib.hid hrg5; clear hrg5
                have HTC := Lib.hid htc; clear htc
                have HSL := Lib.hid hsl; clear hsl hfg
                have HDD := Lib.hid hdd; clear hdd
                go_wp2_with (first | ((with_reducible refine wpL_delete HDL.out ?_ ?_ ?_); rfl; rfl))
                go_roundg (L0.filter fun x => decide (idE x ∉ (e :: P).map idE)).length
                case measure => exact hms.out
                case rel =>
                  refine ⟨e :: P, rfl, ?_, HRG5.out, hkp4.out.setMap (Or.inl rfl) _ _, ?_, hP2.out⟩
                  · rw [List.any_cons, HTC.out]; rfl
                  · rw [List.reverse_cons, List.filterMap_append, List.filterMap_cons_none HSL.out, List.filterMap_nil, List.append_nil]
                    exact hrow4.out.keeps ((Keeps.refl (fun k => k = b) wc).setMap (Or.inl (show (fun k => k = b) b from rfl)) _ _) (fun g hg e => by omega)
              | false =>
                have HDD := Lib.hid hdd; clear hdd
                go_wp2_with fail
                have hppl : pp.length ≤ maxLen := by
                  rw [HPP.out, askPath]; split
                  · decide
                  · exact Nat.le_trans hpl (by decide)
                refine (shouldSend_any bk e _ (h.map lowB) pp _ hE4.out.ent (hokb.out.1 e he0) (Nat.le_trans hhl (by decide)) hppl).mono ?_
                rintro r w4 ⟨rfl, hb5⟩
                have hkp5 : Hid (Keeps (fun k => k = b) w1 w4) := hkp4.out.below hb5
                have hrow5 : Hid (RowOf w4 (w1.heap.size + 1) 118 encE 16 u14 (P.reverse.filterMap (selGo s send))) := hrow4.out.below hb5
                have hrg5 : Hid (Rng w4 b w1.heap.size (idE e :: P.map idE) (LGo s send (P.map idE) L0) clk) := hrg4.out.below hb5
                have hE5 : Hid (BlkAt w4 bk (encE e)) := hE4.out.below hb5
                have hb75 : Hid (BlkAt w4 w.heap.size [.int .i64 s, .int .i64 0]) := hb74.out.below hb5
                clear hkp4 hrow4 hrg4 hE4 hb74 hb5
                have hsx : sendB e (sch == [104, 116, 116, 112, 115]) (h.map lowB) pp = send e := by rw [HSD.out]; rfl
                rw [hsx]
                clear hsx
                cases hsn : send e with
                | false =>
                  have HFG : Hid (fGo s send e = some e) := by rw [Hid, fGo, HDD.out, hsn]; rfl
                  have HTC : Hid (touchE s send e = false) := by rw [Hid, touchE, HDD.out, hsn]; rfl
                  have HSL : Hid (selGo s send e = none) := by rw [Hid, selGo, HDD.out, hsn]; rfl
                  have HSN := Lib.hid hsn; clear hsn
                  go_wp2_with fail
                  go_roundg (L0.filter fun x => decide (idE x ∉ (e :: P).map idE)).length
                  case measure => exact hms.out
                  case rel =>
                    refine ⟨e :: P, rfl, ?_, ?_, hkp5.out, ?_, hP2.out⟩
                    · rw [List.any_cons, HTC.out]; rfl
                    · have := hrg5.out
                      rw [lgo_same HND.out he0 heD2.out HFG.out] at this; exact this
                    · rw [List.reverse_cons, List.filterMap_append, List.filterMap_cons_none HSL.out, List.filterMap_nil, List.append_nil]
                      exact hrow5.out
                | true =>
                  obtain ⟨y, hy⟩ : ∃ y : Ent, y = { e with las := s } := ⟨_, rfl⟩
                  have HFG : Hid (fGo s send e = some y) := by rw [Hid, fGo, HDD.out, hsn, hy]; rfl
                  have HTC : Hid (touchE s send e = true) := by rw [Hid, touchE, HDD.out, hsn]; rfl
                  have HSL : Hid (selGo s send e = some y) := by rw [Hid, selGo, HDD.out, hsn, hy]; rfl
                  have HSN := Lib.hid hsn; clear hsn
                  have z0 := hb75.out.cell 0 rfl
                  have z1 := hb75.out.cell 1 rfl
                  have e13 := hE5.out 13 _ rfl
                  have e14 := hE5.out 14 _ rfl
                  have f1 := BlkAt.setCell hE5.out 13 (.int .i64 s) (show _ < _ from (by decide : 13 < 16))
                  have f2 := BlkAt.setCell f1 14 (.int .i64 0) (show _ < _ from (by decide : 14 < 16))
                  change BlkAt _ _ (encE { e with las := s }) at f2
                  rw [← hy] at f2
                  have HYY := Lib.hid hy; clear hy
                  have hbk3 : b ≠ bk := by omega
                  have hk5 : Keeps (fun k => k = bk) w4 ((w4.setCell ⟨bk, 13, none⟩ (.int .i64 s)).setCell ⟨bk, 14, none⟩ (.int .i64 0)) := ((Keeps.refl (fun k => k = bk) w4).setCell (Or.inl (show (fun k => k = bk) bk from rfl)) 13 _).setCell (Or.inl (show (fun k => k = bk) bk from rfl)) 14 _
                  have hE6 := Lib.hid f2; clear f1 f2
                  have hkp6 : Hid (Keeps (fun k => k = b) w1 ((w4.setCell ⟨bk, 13, none⟩ (.int .i64 s)).setCell ⟨bk, 14, none⟩ (.int .i64 0))) := hkp5.out.trans hk5 (fun j hj => Or.inr (by rw [hj]; omega))
                  have hrg6 : Hid (Rng ((w4.setCell ⟨bk, 13, none⟩ (.int .i64 s)).setCell ⟨bk, 14, none⟩ (.int .i64 0)) b w1.heap.size (idE e :: P.map idE) (LGo s send (P.map idE) L0) clk) := hrg5.out.keeps hk5 hbk3 (by omega)
                  have hrow6 : Hid (RowOf ((w4.setCell ⟨bk, 13, none⟩ (.int .i64 s)).setCell ⟨bk, 14, none⟩ (.int .i64 0)) (w1.heap.size + 1) 118 encE 16 u14 (P.reverse.filterMap (selGo s send))) := by
                    exact hrow5.out.keepsOwn hk5 (fun g hg e => by have := (HOWN.out g hg).2; omega)
                  clear hrow5 hrg5 hE5 hkp5
                  go_upto_region 24 with (fail)
                  clear e13 e14 z0 z1
                  generalize (w4.setCell ⟨bk, 13, none⟩ (.int .i64 s)).setCell ⟨bk, 14, none⟩ (.int .i64 0) = w5 at hE6 hkp6 hrg6 hrow6 hk5 ⊢
                  clear hk5
                  have hidy : idE y = idE e := fGo_id HFG.out
                  obtain ⟨es6, clk6, hup, hrg7⟩ := hrg6.out.update heL2.out y hidy
                  rw [lgo_put HND.out he0 heD2.out HFG.out] at hrg7
                  have HUP := Lib.hid hup; clear hup
                  have HRG7 := Lib.hid hrg7; clear hrg7
                  have HL1 := Lib.hid (loadAtE hE6.out)
                  have hE7 : BlkAt (setMap w5 b es6 clk6) bk (encE y) := hE6.out.setMap (fun e => hbk3 e.symm) _ _
                  have HL2 := Lib.hid (loadAtE hE7)
                  have hsm : Keeps (fun k => k = b) w5 (setMap w5 b es6 clk6) := (Keeps.refl (fun k => k = b) w5).setMap (Or.inl (show (fun k => k = b) b from rfl)) _ _
                  have hrow7 : Hid (RowOf (setMap w5 b es6 clk6) (w1.heap.size + 1) 118 encE 16 u14 (P.reverse.filterMap (selGo s send))) := hrow6.out.keepsOwn hsm (fun g hg e => by have := (HOWN.out g hg).1; omega)
                  have hkp7 : Hid (Keeps (fun k => k = b) w1 (setMap w5 b es6 clk6)) := hkp6.out.setMap (Or.inl rfl) _ _
                  clear hE7 hsm hE6 hrow6 hkp6 hrg6
                  go_upto_region 25 with (first | ((with_reducible refine wpL_load HL1.out ?_ ?_); rfl) | ((with_reducible refine wpL_mapUpdate HUP.out ?_ ?_ ?_ ?_); rfl; rfl; rfl))
                  clear HL1 HUP
                  generalize setMap w5 b es6 clk6 = w6 at HRG7 HL2 hrow7 hkp7 ⊢
                  have HBE := Lib.hid (buildE y w6)
                  have hE8 : BlkAt (w6.alloc (.cells (encE y).toArray 118)) w6.heap.size (encE y) := BlkAt.made w6 (encE y) 118
                  have hll : (P.reverse.filterMap (selGo s send)).length ≤ 100000000 := by
                    have h1 := List.length_filterMap_le (selGo s send) P.reverse
                    have h2 := plen_le hpp2.out.1 hpp2.out.2
                    have h3 := hokb.out.2
                    rw [List.length_reverse] at h1
                    omega
                  have hrow8 := hrow7.out.alloc (.cells (encE y).toArray 118)
                  obtain ⟨v', w7, hap, hrow9, hk9, _⟩ := appendE y w6.heap.size hrow8 hll (by show _ ≤ (w6.heap.push _).size; rw [Array.size_push]; have := hkp7.out.size; omega) hE8 116
                  have HAP := Lib.hid hap; clear hap
                  have HRG9 : Hid (Rng w7 b w1.heap.size (idE e :: P.map idE) (LGo s send (idE e :: P.map idE) L0) clk) :=
                    (HRG7.out.alloc (.cells (encE y).toArray 118)).keeps hk9 (fun e => by have := (HOWN.out _ e).1; omega) (fun e => by have := (HOWN.out _ e).1; omega)
                  have HKP9 : Hid (Keeps (fun k => k = b) w1 w7) := (hkp7.out.alloc (.cells (encE y).toArray 118)).trans hk9 (fun j e => by have := (HOWN.out _ e).1; right; omega)
                  have HROW9 := Lib.hid hrow9; clear hrow9 hrow8 hk9 hE8
                  go_wp2_with (first | ((with_reducible refine wpL_load HL2.out ?_ ?_); rfl) | ((with_reducible refine wpL_build1 HBE.out ?_ ?_); rfl) | ((with_reducible refine wpL_append HAP.out ?_ ?_ ?_); rfl; rfl))
                  go_roundg (L0.filter fun x => decide (idE x ∉ (e :: P).map idE)).length
                  case measure => exact hms.out
                  case rel =>
                    refine ⟨e :: P, rfl, ?_, HRG9.out, HKP9.out, ?_, hP2.out⟩
                    · rw [List.any_cons, HTC.out]; rfl
                    · rw [List.reverse_cons, List.filterMap_append, List.filterMap_cons_some HSL.out, List.filterMap_nil]
                      exact HROW9.out
end Go.Proofs.YtckfgnbilcjdpaaGreatDoor
/- CookiesAt: the cookies of a step that asks. -/
namespace Go.Proofs.YtckfgnbilcjdpaaGreatDoor
open Go.RowKit Go.Sort
set_option maxRecDepth 100000

/-- What is sent to an address. -/
def sendTo (sch h path : List UInt8) (e : Ent) : Bool := sendB e (sch == httpsB) (h.map lowB) (askPath path)
/-- What a step that asks makes of the jar. -/
def stepAsk (listed : Bool) (ss : List (List UInt8)) (J : List (List UInt8 × List Ent)) (sch h path : List UInt8) (s : Int) : List (List UInt8 × List Ent) :=
  if sch = httpB ∨ sch = httpsB then askA J (keyOf listed ss (h.map lowB)) s (sendTo sch h path) else J
/-- What a step that asks is given. -/
def stepSel (listed : Bool) (ss : List (List UInt8)) (J : List (List UInt8 × List Ent)) (sch h path : List UInt8) (s : Int) : List Ent :=
  if sch = httpB ∨ sch = httpsB then selA J (keyOf listed ss (h.map lowB)) s (sendTo sch h path) else []

theorem OutAt.nil (w : World) : OutAt w (.slice none 0 0) [] := ⟨0, [], RowOf.nil _ _ _ _ _, rfl, fun _ h1 _ => absurd h1 (Nat.not_lt_zero _)⟩

set_option maxHeartbeats 2000000 in
theorem cookies_else (jb eb : Nat) (pv : Value) (J : JB) (seq : Nat) (w : World) (ub : Nat) (s : Int) (sch : List UInt8) (hj : JarMem w jb eb pv J seq)
    (hu : w.cell? ⟨ub, 0, none⟩ = some (.string (bs sch))) (h1 : sch ≠ httpB) (h2 : sch ≠ httpsB) :
    Calls Tryz.prog 58 #[.pointer (some ⟨jb, 0, none⟩), .pointer (some ⟨ub, 0, none⟩), tm s 0] w fun e w' => e = .returned (.slice none 0 0) ∧ JarTo w w' jb eb pv J (strip J, seq) := by
  have HJ := Lib.hid hj; clear hj
  have hub : ub < w.heap.size := World.block_lt_of_cell? w _ hu
  have e1 : (sch == ([104, 116, 116, 112] : List UInt8)) = false := by rw [beq_eq_false_iff_ne]; exact h1
  have e2 : (sch == ([104, 116, 116, 112, 115] : List UInt8)) = false := by rw [beq_eq_false_iff_ne]; exact h2
  go_enter Tryz.func58, Tryz.ntmps58
  go_wp2_with fail
  go_ret
  have hb : RowKit.Below w.heap.size w (w.alloc (.cells #[.int .i64 s, .int .i64 0] 83)) := (Below.refl _ _).alloc (Nat.le_refl _) _
  exact ⟨rfl, J, HJ.out.below hb, rfl, (Keeps.refl _ _).below hb, fun _ hk => Or.inl hk⟩

/-- CookiesAt. -/
theorem cookiesAt_any (jb eb : Nat) (pv : Value) (listed : Bool) (ss : List (List UInt8)) (JB : JB) (seq : Nat) (wb w : World)
    (ub : Nat) (s : Int) (raw h sch path : List UInt8)
    (hB : RowKit.Below wb.heap.size wb w) (hp : PslAt wb pv listed ss) (hn : ss.length ≤ maxLen) (hs : ∀ s ∈ ss, s.length ≤ maxLen)
    (hj : JarMem w jb eb pv JB seq) (hbase : ∀ k ∈ footJ jb eb JB, wb.heap.size ≤ k)
    (hok : ∀ p ∈ JB, (∀ e ∈ p.2.2, EntOk e) ∧ p.2.2.length ≤ 1000000)
    (hu : RowAt w ub 0 [.string (bs sch), .string (bs raw), .string (bs path)])
    (hgh : GoodHost h) (hraw : HostOf raw h) (hrl : raw.length ≤ 2147483647) (hpl : path.length ≤ 2147483647) :
    Calls Tryz.prog 38 #[.pointer (some ⟨jb, 0, none⟩), .pointer (some ⟨ub, 0, none⟩), tm s 0] w fun e w' => ∃ v d, e = .returned v ∧ d.Perm (stepSel listed ss (strip JB) sch h path s) ∧
      d.Pairwise (fun x y => ltOf cmpSel y x = false) ∧ OutAt w' v d ∧ JarTo w w' jb eb pv JB (stepAsk listed ss (strip JB) sch h path s, seq) := by
  have hbb : RowKit.Below w.heap.size w (w.alloc (.cells #[.int .i64 s, .int .i64 0] 83)) := (Below.refl _ _).alloc (Nat.le_refl _) _
  have hall : Hid (∀ w0, RowKit.Below w.heap.size w w0 → Calls Tryz.prog 58 #[.pointer (some ⟨jb, 0, none⟩), .pointer (some ⟨ub, 0, none⟩), tm s 0] w0 fun e w' => ∃ v d, e = .returned v ∧ d.Perm (stepSel listed ss (strip JB) sch h path s) ∧
      d.Pairwise (fun x y => ltOf cmpSel y x = false) ∧ OutAt w' v d ∧ JarTo w0 w' jb eb pv JB (stepAsk listed ss (strip JB) sch h path s, seq)) := by
    intro w0 hb0
    by_cases hsch : sch = httpB ∨ sch = httpsB
    · rw [stepSel, if_pos hsch, stepAsk, if_pos hsch]
      exact cookies_web jb eb pv listed ss JB seq wb w0 ub s raw h sch path (hB.trans (hb0.mono hB.size)) hp hn hs (hj.below hb0) hbase hok (hu.below hb0) hsch hgh hraw hrl hpl
    · rw [stepSel, if_neg hsch, stepAsk, if_neg hsch]
      refine (cookies_else jb eb pv JB seq w0 ub s sch (hj.below hb0) (by have := (hu.below hb0) 0 _ rfl; rw [Nat.zero_add] at this; exact this) (fun e => hsch (Or.inl e)) (fun e => hsch (Or.inr e))).mono ?_
      rintro e w' ⟨rfl, hto⟩
      exact ⟨_, [], rfl, List.Perm.refl _, List.Pairwise.nil, OutAt.nil _, hto⟩
  have hbb2 := Lib.hid hbb; clear hbb
  clear hB hp hn hs hj hbase hok hu hgh hraw
  go_enter Tryz.func38, Tryz.ntmps38
  go_wp2_with fail
  refine (hall.out _ hbb2.out).mono ?_
  rintro e w1 ⟨v, d, rfl, hdp, hds, ho, hto⟩
  have HT := Lib.hid hto; clear hto
  have HD := Lib.hid hdp; clear hdp
  have HS := Lib.hid hds; clear hds
  have HO := Lib.hid ho; clear ho
  go_wp2
  go_ret
  refine ⟨v, d, rfl, HD.out, HS.out, HO.out, ?_⟩
  obtain ⟨J', h1, h2, h3, h4⟩ := HT.out
  refine ⟨J', h1, h2, ((Keeps.refl (fun k => k ∈ footJ jb eb JB) w).below hbb2.out).trans h3 (fun j hj => Or.inl hj), ?_⟩
  intro k hk
  rcases h4 k hk with h | h
  · exact Or.inl h
  · exact Or.inr (Nat.le_trans hbb2.out.size h)
end Go.Proofs.YtckfgnbilcjdpaaGreatDoor
/- impl.cookie: a cookie of the package. -/
namespace Go.Proofs.YtckfgnbilcjdpaaGreatDoor
open Go.RowKit Go.Sort
set_option maxRecDepth 100000

/-- The cells of a cookie as a step has it. -/
def encI (c : Ck) : List Value := [.string (bs c.name), .string (bs c.value), .string (bs c.domain), .string (bs c.path), .int .i64 c.age, .int .i64 c.exps, .bool c.secure]

set_option maxHeartbeats 2000000 in
theorem cookie_any (c : Ck) (w : World) (h0 : 0 ≤ c.exps) (h1 : c.exps ≤ 4294967296) :
    Calls Tryz.prog 39 #[.agg (encI c).toArray] w fun e w' => ∃ b, e = .returned (.pointer (some ⟨b, 0, none⟩)) ∧ w.heap.size ≤ b ∧ BlkAt w' b (encC c) ∧ Below w.heap.size w w' := by
  have hI : Hid (BlkAt (w.alloc (.cells (encI c).toArray 47)) w.heap.size (encI c)) := BlkAt.made w (encI c) 47
  have hb : Hid (RowKit.Below w.heap.size w (w.alloc (.cells (encI c).toArray 47))) := (Below.refl _ _).alloc (Nat.le_refl _) _
  go_enter Tryz.func39, Tryz.ntmps39
  go_upto_region 1 with (fail)
  generalize hgen : w.alloc (.cells (encI c).toArray 47) = w1 at hI hb ⊢
  clear hgen
  have i0 := hI.out.cell 0 rfl
  have i1 := hI.out.cell 1 rfl
  have i2 := hI.out.cell 2 rfl
  have i3 := hI.out.cell 3 rfl
  have i4 := hI.out.cell 4 rfl
  have i5 := hI.out.cell 5 rfl
  have i6 := hI.out.cell 6 rfl
  have hs := hb.out.size
  clear hI
  obtain ⟨bi, hbi0⟩ : ∃ bi, bi = w.heap.size := ⟨_, rfl⟩
  rw [← hbi0] at i0 i1 i2 i3 i4 i5 i6 ⊢
  have HBI := Lib.hid hbi0; clear hbi0
  have hbi : bi < w1.heap.size := World.block_lt_of_cell? w1 _ i0
  have hms : Hid (BlkAt (w1.alloc (.cells #[.string (bs c.name), .string (bs c.value), .bool false, .string (bs c.path), .string (bs c.domain), .int .i64 0, .int .i64 0, .int .i64 c.age, .bool c.secure, .bool false] 89)) w1.heap.size (encC { c with exps := 0 })) := BlkAt.made w1 (encC { c with exps := 0 }) 89
  by_cases he : c.exps = 0
  · have he1 : (c.exps == 0) = true := beq_iff_eq.2 he
    have he2 : (c.exps != 0) = false := by rw [bne, he1]; rfl
    have HE := Lib.hid he; clear he
    go_wp2_with fail
    go_ret
    refine ⟨_, rfl, hs, ?_, hb.out.alloc hs _⟩
    have h2 := hms.out
    rw [show ({ c with exps := 0 } : Ck) = c by have := HE.out; cases c; simp only at this; subst this; rfl] at h2
    exact h2
  · have he1 : (c.exps == 0) = false := by rw [beq_eq_false_iff_ne]; exact he
    have he2 : (c.exps != 0) = true := by rw [bne, he1]; rfl
    clear he
    go_wp2_with fail
    refine (unix_any c.exps 0 _).mono ?_
    rintro e w3 ⟨rfl, hb3⟩
    have hm3 : BlkAt w3 w1.heap.size (encC { c with exps := 0 }) := hms.out.below hb3
    have hb4 : Hid (RowKit.Below w.heap.size w w3) := by
      have h1 := hb.out.alloc hs (.cells #[.string (bs c.name), .string (bs c.value), .bool false, .string (bs c.path), .string (bs c.domain), .int .i64 0, .int .i64 0, .int .i64 c.age, .bool c.secure, .bool false] 89)
      exact h1.trans (hb3.mono h1.size)
    have q5 := hm3 5 _ rfl
    have q6 := hm3 6 _ rfl
    have f1 := BlkAt.setCell hm3 5 (.int .i64 c.exps) (show _ < _ from (by decide : 5 < 10))
    have f2 := BlkAt.setCell f1 6 (.int .i64 0) (show _ < _ from (by decide : 6 < 10))
    have F2 := Lib.hid f2; clear f1 f2 hb3 hm3 hms
    go_wp2_with fail
    go_ret
    refine ⟨_, rfl, hs, F2.out, ?_⟩
    exact (hb4.out.setCell (p := ⟨w1.heap.size, 5, none⟩) hs _).setCell (p := ⟨w1.heap.size, 6, none⟩) hs _

set_option maxHeartbeats 2000000 in
/-- New, on options that lie in memory. -/
theorem new_any (ob : Nat) (pv : Value) (w : World) (h : w.cell? ⟨ob, 0, none⟩ = some pv) (hpv : pv = .nilIface ∨ ∃ t v, pv = .iface t v) :
    Calls Tryz.prog 36 #[.pointer (some ⟨ob, 0, none⟩)] w fun e w' => ∃ jb eb, e = .returned (.tuple #[.pointer (some ⟨jb, 0, none⟩), .nilIface]) ∧ w.heap.size ≤ eb ∧ w.heap.size ≤ jb ∧ JarMem w' jb eb pv [] 0 ∧ Below w.heap.size w w' := by
  have hob : ob < w.heap.size := World.block_lt_of_cell? w _ h
  have hmk := @run_makeMap Tryz.prog
  have hm : Hid (MapMem (w.alloc (.map #[] 0)) w.heap.size [] #[] 0) := MapMem.made w
  have hb1 : RowKit.Below w.heap.size w (w.alloc (.map #[] 0)) := (Below.refl _ _).alloc (Nat.le_refl _) _
  have hs1 : (w.alloc (.map #[] 0)).heap.size = w.heap.size + 1 := by simp
  have hB : Hid (BlkAt ((w.alloc (.map #[] 0)).alloc (.cells #[pv, .map (some w.heap.size), .int .u64 0] 109)) (w.heap.size + 1) [pv, .map (some w.heap.size), .int .u64 0]) := by
    have := BlkAt.made (w.alloc (.map #[] 0)) [pv, .map (some w.heap.size), .int .u64 0] 109
    rw [hs1] at this; exact this
  have hM2 : Hid (MapMem ((w.alloc (.map #[] 0)).alloc (.cells #[pv, .map (some w.heap.size), .int .u64 0] 109)) w.heap.size [] #[] 0) := hm.out.alloc _
  have hb2 : Hid (RowKit.Below w.heap.size w ((w.alloc (.map #[] 0)).alloc (.cells #[pv, .map (some w.heap.size), .int .u64 0] 109))) := hb1.alloc (by omega) _
  clear hb1
  rcases hpv with rfl | ⟨t, v, rfl⟩
  all_goals
    go_enter Tryz.func36, Tryz.ntmps36
    go_wp2_with fail
    go_ret2
    refine ⟨_, w.heap.size, rfl, Nat.le_refl _, Nat.le_succ _, ⟨hB.out, ⟨#[], 0, hM2.out⟩, by simp, ?_⟩, hb2.out⟩
    simp [footJ]
end Go.Proofs.YtckfgnbilcjdpaaGreatDoor
