/- The contract of newEntry. -/
import Derived.Test.YtckfgnbilcjdpaaGreatDoorQ02
import Derived.StillTailTactics
namespace Go.Proofs.YtckfgnbilcjdpaaGreatDoor
open Go.RowKit
set_option maxRecDepth 100000

/-- A cookie lies at block b. -/
def CkAt (w : World) (b : Nat) (c : Ck) : Prop := ∀ j u, (encC c)[j]? = some u → w.cell? ⟨b, j, none⟩ = some u
theorem CkAt.below {w w' : World} {b : Nat} {c : Ck} (h : CkAt w b c) (hb : Below w.heap.size w w') : CkAt w' b c := fun j u hj => by
  have h1 := h j u hj
  rw [hb.cell (World.block_lt_of_cell? w _ h1)]; exact h1
theorem CkAt.lt {w : World} {b : Nat} {c : Ck} (h : CkAt w b c) : b < w.heap.size := World.block_lt_of_cell? w _ (h 0 _ rfl)

/-- What newEntry asks of a cookie. -/
structure CkOk (c : Ck) : Prop where
  nlen : c.name.length ≤ maxLen
  dlen : c.domain.length ≤ maxLen
  plen : c.path.length ≤ maxLen
  dom : DomOk c.domain
  age : c.age ≤ 4294967296
  exps : 0 ≤ c.exps ∧ c.exps ≤ 4294967296

theorem results_cell_tmp2 {fn : Func} {p u v : Tmp} {ty : TypeId} (h : fn.results = #[.cell p ty, .tmp u, .tmp v]) (tmps : Array Value) (P : Program) (w : World) :
    (results fn tmps).run P w =
      ((asAddr (tmps.getD p undef)).run P w).andThen fun a w₁ => ((loadVar ty a).run P w₁).andThen fun x w₂ => .ok (.tuple #[x, tmps.getD u undef, tmps.getD v undef]) w₂ := by
  simp only [results, h]
  simp [Sem.run_bind, Result.andThen]

theorem res70 {w : World} {b : Nat} {x : Ent} (h : BlkAt w b (encE x)) {tmps : Array Value} {u v : Value} (h10 : tmps.getD 10 undef = .pointer (some ⟨b, 0, none⟩)) (h11 : tmps.getD 11 undef = u) (h12 : tmps.getD 12 undef = v) :
    (results Tryz.f70 tmps).run Tryz.prog w = .ok (.tuple #[.agg (encE x).toArray, u, v]) w := by
  have hl := loadVar_agg Tryz.isAgg118 Tryz.sizeOf118 h.row rfl
  rw [results_cell_tmp2 (p := 10) (u := 11) (v := 12) (ty := 118) rfl, h10, h11, h12]
  simp only [asAddr, Sem.run_pure, Result.andThen, hl]

theorem newRet {w0 w : World} {b : Nat} {R : Ending → Prop} (x : Ent) (h : BlkAt w b (encE x)) {tmps : Array Value} {u v : Value} (h10 : tmps.getD 10 undef = .pointer (some ⟨b, 0, none⟩)) (h11 : tmps.getD 11 undef = u) (h12 : tmps.getD 12 undef = v)
    (hR : R (.returned (.tuple #[.agg (encE x).toArray, u, v]))) (hb : Below w0.heap.size w0 w) (hB : w0.heap.size ≤ b) :
    bodyPost Tryz.prog Tryz.f70 (fun e w' => R e ∧ Below w0.heap.size w0 w') Exit.ret { tmps := tmps, defers := [] } (w.setCells b 0 (encE x)) :=
  bodyPost_ret (res70 (h.put rfl) h10 h11 h12) rfl ⟨hR, setCells_below hB _ _ hb⟩

theorem newEnd_none {t0 : TypeId} {v0 : Value} {r : Option (List UInt8 × Bool)} {c : Ck} {dp : List UInt8} {now : Int} (h : r = none) (x : Ent) :
    newEnd t0 v0 r c dp now (.returned (.tuple #[.agg (encE x).toArray, .bool false, .iface t0 v0])) := by
  rw [h]; exact ⟨x, rfl⟩
theorem newEnd_remove {t0 : TypeId} {v0 : Value} {r : Option (List UInt8 × Bool)} {c : Ck} {dp : List UInt8} {now : Int} {d : List UInt8} {a : Bool} (h : r = some (d, a)) (h2 : endOf c now = none) (x : Ent)
    (h3 : x.name = c.name) (h4 : x.domain = d) (h5 : pathOf c dp = x.path) :
    newEnd t0 v0 r c dp now (.returned (.tuple #[.agg (encE x).toArray, .bool true, .nilIface])) := by
  rw [h]; show newEnd t0 v0 (some (d, a)) c dp now _; unfold newEnd; simp only [h2]; exact ⟨x, rfl, h3, h4, h5.symm⟩
theorem newEnd_keep {t0 : TypeId} {v0 : Value} {r : Option (List UInt8 × Bool)} {c : Ck} {dp : List UInt8} {now : Int} {d : List UInt8} {a : Bool} {t : Int} {p : Bool} (h : r = some (d, a)) (h2 : endOf c now = some (t, p)) {q : List UInt8} (h5 : pathOf c dp = q) :
    newEnd t0 v0 r c dp now (.returned (.tuple #[.agg (encE { name := c.name, value := c.value, quoted := false, domain := d, path := q, secure := c.secure, httpOnly := false, persistent := p, hostOnly := a, exps := t, crs := 0, las := 0, seq := 0 }).toArray, .bool false, .nilIface])) := by
  rw [h]; show newEnd t0 v0 (some (d, a)) c dp now _; unfold newEnd; simp only [h2, h5]

set_option maxHeartbeats 4000000 in
theorem newEntry_slash (jb cb : Nat) (c : Ck) (s : Int) (dp host : List UInt8) (w : World) (t0 : TypeId) (v0 : Value) (hg : w.cell? ⟨0, 0, none⟩ = some (.iface t0 v0))
    (hpth : c.path.head? = some 47) (hc : CkAt w cb c) (hok : CkOk c) (hs0 : 0 ≤ s) (hs1 : s ≤ 4294967296)
    (h58 : 58 ∉ host) (h37 : 37 ∉ host) (hh : host.length ≤ maxLen) (_hdp : dp.length ≤ maxLen)
    (listed : Bool) (ss : List (List UInt8)) (hp : JarPsl w jb listed ss) (hn : ss.length ≤ maxLen) (hs : ∀ s ∈ ss, s.length ≤ maxLen) :
    Calls Tryz.prog 70 #[.pointer (some ⟨jb, 0, none⟩), .pointer (some ⟨cb, 0, none⟩), tm s 0, .string (bs dp), .string (bs host)] w
      fun e w' => newEnd t0 v0 (domType listed ss host c.domain) c dp s e ∧ Below w.heap.size w w' := by
  have HC := Lib.hid hc
  have c0 := hc 0 _ rfl
  have c3 := hc 3 _ rfl
  have c4 := hc 4 _ rfl
  have hcl : cb < w.heap.size := hc.lt
  have HG := Lib.hid hg; clear hg
  have HP := Lib.hid hp; clear hp
  have HO := Lib.hid hok; clear hok
  have HS := Lib.hid hs; clear hs
  have HN := Lib.hid hn; clear hn
  have HH := Lib.hid hh; clear hh
  have H1 := Lib.hid h58; clear h58
  have H2 := Lib.hid h37; clear h37
  clear hc
  have hne : c.path.isEmpty = false := by cases h : c.path with
    | nil => rw [h] at hpth; cases hpth
    | cons => rfl
  have h0 : 0 < c.path.length := by cases h : c.path with
    | nil => rw [h] at hpth; cases hpth
    | cons => simp
  have hb0 : ((c.path[0].toNat : Int) != 47) = false := by
    rw [List.head?_eq_getElem?, List.getElem?_eq_getElem h0] at hpth
    rw [Option.some.inj hpth]; rfl
  have PO : Hid (pathOf c dp = c.path) := by rw [Hid, pathOf, if_pos hpth]
  clear hpth
  generalize c.path = q at *
  go_enter Tryz.func70, Tryz.ntmps70
  go_wp2_with fail
  have B0 := (BlkAt.made w [.int .i64 s, .int .i64 0] 83).alloc (.cells #[.string (bs c.name), .string ⟨#[]⟩, .bool false, .string ⟨#[]⟩, .string (bs q), .bool false, .bool false, .bool false, .bool false, .int .i64 0, .int .i64 0, .int .i64 0, .int .i64 0, .int .i64 0, .int .i64 0, .int .u64 0] 118)
  have B1 := BlkAt.made (w.alloc (.cells #[.int .i64 s, .int .i64 0] 83)) [.string (bs c.name), .string ⟨#[]⟩, .bool false, .string ⟨#[]⟩, .string (bs q), .bool false, .bool false, .bool false, .bool false, .int .i64 0, .int .i64 0, .int .i64 0, .int .i64 0, .int .i64 0, .int .i64 0, .int .u64 0] 118
  rw [show (w.alloc (.cells #[.int .i64 s, .int .i64 0] 83)).heap.size = w.heap.size + 1 by simp] at B1
  have BB : Below w.heap.size w ((w.alloc (.cells #[.int .i64 s, .int .i64 0] 83)).alloc (.cells #[.string (bs c.name), .string ⟨#[]⟩, .bool false, .string ⟨#[]⟩, .string (bs q), .bool false, .bool false, .bool false, .bool false, .int .i64 0, .int .i64 0, .int .i64 0, .int .i64 0, .int .i64 0, .int .i64 0, .int .u64 0] 118)) :=
    ((Below.refl _ _).alloc (Nat.le_refl _) _).alloc (by simp) _
  have BS : ((w.alloc (.cells #[.int .i64 s, .int .i64 0] 83)).alloc (.cells #[.string (bs c.name), .string ⟨#[]⟩, .bool false, .string ⟨#[]⟩, .string (bs q), .bool false, .bool false, .bool false, .bool false, .int .i64 0, .int .i64 0, .int .i64 0, .int .i64 0, .int .i64 0, .int .i64 0, .int .u64 0] 118)).heap.size = w.heap.size + 2 := by simp
  clear c0 c3 c4 hne hb0
  refine (domainAndType_any jb host c.domain _ t0 v0 (by rw [BB.cell (World.block_lt_of_cell? w _ HG.out)]; exact HG.out) HO.out.dom H1.out H2.out HH.out HO.out.dlen listed ss (HP.out.below BB) HN.out HS.out).mono ?_
  rintro e w1 ⟨he, hb⟩
  have HX := Lib.hid (B0.below hb); clear B0
  have HY := Lib.hid (B1.below hb); clear B1
  have HC1 := Lib.hid ((HC.out.below BB).below hb)
  have hsz : w.heap.size + 2 ≤ w1.heap.size := by have := hb.size; rw [BS] at this; exact this
  have HB := Lib.hid (BB.trans (hb.mono BB.size)); clear hb
  clear BB BS HC
  cases hdt : domType listed ss host c.domain with
  | none =>
    rw [hdt] at he
    have HE := Lib.hid hdt; clear hdt
    change e = _ at he
    subst he
    have hu := Tryz.underlying77
    have y3 := (HY.out 3 _ rfl)
    have y8 := (HY.out 8 _ rfl)
    obtain ⟨x, hx⟩ : ∃ x : Ent, x = { name := c.name, value := [], quoted := false, domain := [], path := q, secure := false, httpOnly := false, persistent := false, hostOnly := false, exps := 0, crs := 0, las := 0, seq := 0 } := ⟨_, rfl⟩
    have HY2 : BlkAt ((w1.setCell ⟨w.heap.size + 1, 3, none⟩ (.string (bs []))).setCell ⟨w.heap.size + 1, 8, none⟩ (.bool false)) (w.heap.size + 1) (encE x) := by
      rw [hx]; exact BlkAt.setCell (BlkAt.setCell HY.out 3 (.string (bs [])) (show _ < _ from (by decide : 3 < 16))) 8 (.bool false) (show _ < _ from (by decide : 8 < 16))
    have hld := loadAtE HY2
    have hst := storeAtE x HY2 rfl
    have HB2 := Lib.hid ((HB.out.setCell (p := ⟨w.heap.size + 1, 3, none⟩) (Nat.le_succ _) (.string (bs []))).setCell (p := ⟨w.heap.size + 1, 8, none⟩) (Nat.le_succ _) (.bool false))
    have HY3 := Lib.hid HY2; clear HY2 hx
    have HL := Lib.hid hld; clear hld
    have HT := Lib.hid hst; clear hst
    go_wp2_with (first | ((with_reducible refine wpL_load HL.out ?_ ?_); rfl) | ((with_reducible refine wpL_store HT.out ?_ ?_ ?_); rfl; rfl))
    exact newRet (R := newEnd t0 v0 (domType listed ss host c.domain) c dp s) (u := .bool false) (v := .iface t0 v0) x HY3.out (by rfl) (by rfl) (by rfl) (newEnd_none HE.out _) HB2.out (Nat.le_succ _)
  | some r =>
    obtain ⟨d, al⟩ := r
    rw [hdt] at he
    have HE := Lib.hid hdt; clear hdt
    change e = _ at he
    subst he
    have hu := Tryz.underlying77
    have y3 := (HY.out 3 _ rfl)
    have y8 := (HY.out 8 _ rfl)
    have k1 := HC1.out 1 _ rfl
    have k2 := HC1.out 2 _ rfl
    have k5 := HC1.out 5 _ rfl
    have k6 := HC1.out 6 _ rfl
    have k7 := HC1.out 7 _ rfl
    have k8 := HC1.out 8 _ rfl
    have k9 := HC1.out 9 _ rfl
    have hne1 : w.heap.size + 1 ≠ cb := by omega
    by_cases ha : c.age < 0
    · have hend : Hid (endOf c s = none) := by rw [Hid, endOf, if_pos ha]
      obtain ⟨x, hx⟩ : ∃ x : Ent, x = { name := c.name, value := [], quoted := false, domain := d, path := q, secure := false, httpOnly := false, persistent := false, hostOnly := al, exps := 0, crs := 0, las := 0, seq := 0 } := ⟨_, rfl⟩
      have HY2 : BlkAt ((w1.setCell ⟨w.heap.size + 1, 3, none⟩ (.string (bs d))).setCell ⟨w.heap.size + 1, 8, none⟩ (.bool al)) (w.heap.size + 1) (encE x) := by
        rw [hx]; exact BlkAt.setCell (BlkAt.setCell HY.out 3 (.string (bs d)) (show _ < _ from (by decide : 3 < 16))) 8 (.bool al) (show _ < _ from (by decide : 8 < 16))
      have HL := Lib.hid (loadAtE HY2)
      have HT := Lib.hid (storeAtE x HY2 rfl)
      have HB2 := Lib.hid ((HB.out.setCell (p := ⟨w.heap.size + 1, 3, none⟩) (Nat.le_succ _) (.string (bs d))).setCell (p := ⟨w.heap.size + 1, 8, none⟩) (Nat.le_succ _) (.bool al))
      have HY3 := Lib.hid HY2; clear HY2
      have HXx := Lib.hid hx; clear hx
      go_wp2_with (first | ((with_reducible refine wpL_load HL.out ?_ ?_); rfl) | ((with_reducible refine wpL_store HT.out ?_ ?_ ?_); rfl; rfl))
      exact newRet (R := newEnd t0 v0 (domType listed ss host c.domain) c dp s) (u := .bool true) (v := .nilIface) x HY3.out (by rfl) (by rfl) (by rfl)
        (newEnd_remove HE.out hend.out _ (by rw [HXx.out]) (by rw [HXx.out]) (by rw [HXx.out]; exact PO.out)) HB2.out (Nat.le_succ _)
    · have HA := Lib.hid ha
      have HXb : Hid (BlkAt ((w1.setCell ⟨w.heap.size + 1, 3, none⟩ (.string (bs d))).setCell ⟨w.heap.size + 1, 8, none⟩ (.bool al)) w.heap.size [.int .i64 s, .int .i64 0]) :=
        (HX.out.setOther 3 _ (by omega)).setOther 8 _ (by omega)
      have HCb : Hid (CkAt ((w1.setCell ⟨w.heap.size + 1, 3, none⟩ (.string (bs d))).setCell ⟨w.heap.size + 1, 8, none⟩ (.bool al)) cb c) := fun j u hj => by
        rw [World.cell?_setCell_other _ _ _ _ (by intro h; injection h with h1 _; exact hne1 h1), World.cell?_setCell_other _ _ _ _ (by intro h; injection h with h1 _; exact hne1 h1)]
        exact HC1.out j u hj
      have HY2 : BlkAt ((w1.setCell ⟨w.heap.size + 1, 3, none⟩ (.string (bs d))).setCell ⟨w.heap.size + 1, 8, none⟩ (.bool al)) (w.heap.size + 1) _ :=
        BlkAt.setCell (BlkAt.setCell HY.out 3 (.string (bs d)) (show _ < _ from (by decide : 3 < 16))) 8 (.bool al) (show _ < _ from (by decide : 8 < 16))
      have HB2 := Lib.hid ((HB.out.setCell (p := ⟨w.heap.size + 1, 3, none⟩) (Nat.le_succ _) (.string (bs d))).setCell (p := ⟨w.heap.size + 1, 8, none⟩) (Nat.le_succ _) (.bool al))
      have HY3 := Lib.hid HY2; clear HY2
      by_cases ha2 : 0 < c.age
      · have hend : Hid (endOf c s = some (s + c.age, true)) := by rw [Hid, endOf, if_neg (show ¬ c.age < 0 by have := HA.out; omega), if_pos ha2]
        have hmul : IntKind.i64.wrap (c.age * 1000000000) = c.age * 1000000000 := IntWalk.i64_in _ (by have := HO.out.age; omega)
        have hage := HO.out.age
        go_wp2
        clear k1 k2 k5 k6 k7 k8 k9
        generalize (w1.setCell ⟨w.heap.size + 1, 3, none⟩ (.string (bs d))).setCell ⟨w.heap.size + 1, 8, none⟩ (.bool al) = w2 at HY3 HB2 HXb HCb ⊢
        clear HX HY HC1 hsz HB y3 y8
        have x0 := HXb.out.cell 0 rfl
        have x1 := HXb.out.cell 1 rfl
        have k7 := HCb.out 7 _ rfl
        refine wp_region_still_tail 6 (by kernel_rfl) (by kernel_rfl) ?_
        simp only [List.take_succ_cons, List.take_zero, List.drop_succ_cons, List.drop_zero]
        change wpStill _ _ w2.drew (fun a' => wpList _ _ _ _ a' w2.drew) _ _
        repeat still_step
        refine wpStill_nil ?_
        go_wp2_with fail
        clear hmul x0 x1 k7
        refine (add_any s c.age ha2 hage hs0 hs1 _).mono ?_
        rintro e w3 ⟨rfl, hb⟩
        have HY4 := Lib.hid (BlkAt.below (w := w2.drew) HY3.out hb)
        have HC4 := Lib.hid (CkAt.below (w := w2.drew) HCb.out hb)
        have HB4 := Lib.hid (HB2.out.drew.trans (hb.mono HB2.out.size))
        clear hb HY3 HCb HB2 HXb
        have y1 := HY4.out 1 _ rfl
        have y2 := HY4.out 2 _ rfl
        have y5 := HY4.out 5 _ rfl
        have y6 := HY4.out 6 _ rfl
        have y7 := HY4.out 7 _ rfl
        have y9 := HY4.out 9 _ rfl
        have y10 := HY4.out 10 _ rfl
        have k1 := HC4.out 1 _ rfl
        have k2 := HC4.out 2 _ rfl
        have k8 := HC4.out 8 _ rfl
        have k9 := HC4.out 9 _ rfl
        have h9 := BlkAt.setCell HY4.out 9 (.int .i64 (s + c.age)) (show _ < _ from (by decide : 9 < 16))
        have h10 := BlkAt.setCell h9 10 (.int .i64 0) (show _ < _ from (by decide : 10 < 16))
        have h7 := BlkAt.setCell h10 7 (.bool true) (show _ < _ from (by decide : 7 < 16))
        have h1 := BlkAt.setCell h7 1 (.string (bs c.value)) (show _ < _ from (by decide : 1 < 16))
        have h2 := BlkAt.setCell h1 2 (.bool false) (show _ < _ from (by decide : 2 < 16))
        have h5 := BlkAt.setCell h2 5 (.bool c.secure) (show _ < _ from (by decide : 5 < 16))
        have h6 := BlkAt.setCell h5 6 (.bool false) (show _ < _ from (by decide : 6 < 16))
        obtain ⟨x, hx⟩ : ∃ x : Ent, x = { name := c.name, value := c.value, quoted := false, domain := d, path := q, secure := c.secure, httpOnly := false, persistent := true, hostOnly := al, exps := (s + c.age), crs := 0, las := 0, seq := 0 } := ⟨_, rfl⟩
        have HBz := Lib.hid (((((((HB4.out.setCell (p := ⟨w.heap.size + 1, 9, none⟩) (Nat.le_succ _) (.int .i64 (s + c.age))).setCell (p := ⟨w.heap.size + 1, 10, none⟩) (Nat.le_succ _) (.int .i64 0)).setCell (p := ⟨w.heap.size + 1, 7, none⟩) (Nat.le_succ _) (.bool true)).setCell (p := ⟨w.heap.size + 1, 1, none⟩) (Nat.le_succ _) (.string (bs c.value))).setCell (p := ⟨w.heap.size + 1, 2, none⟩) (Nat.le_succ _) (.bool false)).setCell (p := ⟨w.heap.size + 1, 5, none⟩) (Nat.le_succ _) (.bool c.secure)).setCell (p := ⟨w.heap.size + 1, 6, none⟩) (Nat.le_succ _) (.bool false))
        change BlkAt _ _ (encE { name := c.name, value := c.value, quoted := false, domain := d, path := q, secure := c.secure, httpOnly := false, persistent := true, hostOnly := al, exps := (s + c.age), crs := 0, las := 0, seq := 0 }) at h6
        rw [← hx] at h6
        have HL := Lib.hid (loadAtE h6)
        have HT := Lib.hid (storeAtE x h6 rfl)
        have HZ := Lib.hid h6
        have HXx := Lib.hid hx
        clear h9 h10 h7 h1 h2 h5 h6 hx
        go_wp2_with (first | ((with_reducible refine wpL_load HL.out ?_ ?_); rfl) | ((with_reducible refine wpL_store HT.out ?_ ?_ ?_); rfl; rfl))
        refine newRet (R := newEnd t0 v0 (domType listed ss host c.domain) c dp s) (u := .bool false) (v := .nilIface) x HZ.out (by rfl) (by rfl) (by rfl) ?_ HBz.out (Nat.le_succ _)
        rw [HXx.out]
        exact newEnd_keep HE.out hend.out PO.out
      · have HA2 := Lib.hid ha2
        have hag : Hid (c.age = 0) := by rw [Hid]; omega
        have hd0 : decide (c.age < 0) = false := by simp; omega
        have hd1 : decide (0 < c.age) = false := by simp; omega
        by_cases he0 : c.exps = 0
        · have hend : Hid (endOf c s = some (253402300799, false)) := by rw [Hid, endOf, if_neg (show ¬ c.age < 0 by have := HA.out; omega), if_neg (show ¬ 0 < c.age by have := HA2.out; omega), if_pos he0]
          have hz : (c.exps == 0 && (0 : Int) == 0) = true := by rw [he0]; rfl
          have HZ0 := Lib.hid hz; clear hz he0
          go_wp2_with fail
          refine (isZero_any c.exps 0 _).mono ?_
          rintro e w3 ⟨rfl, hb⟩
          rw [HZ0.out]
          clear k1 k2 k5 k6 k7 k8 k9
          have HY4 := Lib.hid (BlkAt.below HY3.out hb)
          have HC4 := Lib.hid (CkAt.below HCb.out hb)
          have HB4 := Lib.hid (HB2.out.trans (hb.mono HB2.out.size))
          clear hb HY3 HCb HB2 HXb HX HY HC1 hsz HB y3 y8
          go_wp2_with fail
          refine (endOfTime_any _).mono ?_
          rintro e w4 ⟨rfl, hb⟩
          have HY5 := Lib.hid (BlkAt.below HY4.out hb)
          have HC5 := Lib.hid (CkAt.below HC4.out hb)
          have HB5 := Lib.hid (HB4.out.trans (hb.mono HB4.out.size))
          clear hb HY4 HC4 HB4
          have y1 := HY5.out 1 _ rfl
          have y2 := HY5.out 2 _ rfl
          have y5 := HY5.out 5 _ rfl
          have y6 := HY5.out 6 _ rfl
          have y7 := HY5.out 7 _ rfl
          have y9 := HY5.out 9 _ rfl
          have y10 := HY5.out 10 _ rfl
          have k1 := HC5.out 1 _ rfl
          have k2 := HC5.out 2 _ rfl
          have k8 := HC5.out 8 _ rfl
          have k9 := HC5.out 9 _ rfl
          have h9 := BlkAt.setCell HY5.out 9 (.int .i64 253402300799) (show _ < _ from (by decide : 9 < 16))
          have h10 := BlkAt.setCell h9 10 (.int .i64 0) (show _ < _ from (by decide : 10 < 16))
          have h7 := BlkAt.setCell h10 7 (.bool false) (show _ < _ from (by decide : 7 < 16))
          have h1 := BlkAt.setCell h7 1 (.string (bs c.value)) (show _ < _ from (by decide : 1 < 16))
          have h2 := BlkAt.setCell h1 2 (.bool false) (show _ < _ from (by decide : 2 < 16))
          have h5 := BlkAt.setCell h2 5 (.bool c.secure) (show _ < _ from (by decide : 5 < 16))
          have h6 := BlkAt.setCell h5 6 (.bool false) (show _ < _ from (by decide : 6 < 16))
          obtain ⟨x, hx⟩ : ∃ x : Ent, x = { name := c.name, value := c.value, quoted := false, domain := d, path := q, secure := c.secure, httpOnly := false, persistent := false, hostOnly := al, exps := 253402300799, crs := 0, las := 0, seq := 0 } := ⟨_, rfl⟩
          have HBz := Lib.hid (((((((HB5.out.setCell (p := ⟨w.heap.size + 1, 9, none⟩) (Nat.le_succ _) (.int .i64 253402300799)).setCell (p := ⟨w.heap.size + 1, 10, none⟩) (Nat.le_succ _) (.int .i64 0)).setCell (p := ⟨w.heap.size + 1, 7, none⟩) (Nat.le_succ _) (.bool false)).setCell (p := ⟨w.heap.size + 1, 1, none⟩) (Nat.le_succ _) (.string (bs c.value))).setCell (p := ⟨w.heap.size + 1, 2, none⟩) (Nat.le_succ _) (.bool false)).setCell (p := ⟨w.heap.size + 1, 5, none⟩) (Nat.le_succ _) (.bool c.secure)).setCell (p := ⟨w.heap.size + 1, 6, none⟩) (Nat.le_succ _) (.bool false))
          change BlkAt _ _ (encE { name := c.name, value := c.value, quoted := false, domain := d, path := q, secure := c.secure, httpOnly := false, persistent := false, hostOnly := al, exps := 253402300799, crs := 0, las := 0, seq := 0 }) at h6
          rw [← hx] at h6
          have HL := Lib.hid (loadAtE h6)
          have HT := Lib.hid (storeAtE x h6 rfl)
          have HZ := Lib.hid h6
          have HXx := Lib.hid hx
          clear h9 h10 h7 h1 h2 h5 h6 hx
          go_wp2_with (first | ((with_reducible refine wpL_load HL.out ?_ ?_); rfl) | ((with_reducible refine wpL_store HT.out ?_ ?_ ?_); rfl; rfl))
          refine newRet (R := newEnd t0 v0 (domType listed ss host c.domain) c dp s) (u := .bool false) (v := .nilIface) x HZ.out (by rfl) (by rfl) (by rfl) ?_ HBz.out (Nat.le_succ _)
          rw [HXx.out]
          exact newEnd_keep HE.out hend.out PO.out
        · have hz : (c.exps == 0 && (0 : Int) == 0) = false := by rw [Bool.eq_false_iff]; intro h; simp at h; exact he0 h
          have HZ0 := Lib.hid hz; clear hz
          have HE0 := Lib.hid he0; clear he0
          go_wp2_with fail
          refine (isZero_any c.exps 0 _).mono ?_
          rintro e w3 ⟨rfl, hb⟩
          rw [HZ0.out]
          clear k1 k2 k5 k6 k7 k8 k9
          have HY4 := Lib.hid (BlkAt.below HY3.out hb)
          have HC4 := Lib.hid (CkAt.below HCb.out hb)
          have HX4 := Lib.hid (BlkAt.below HXb.out hb)
          have HB4 := Lib.hid (HB2.out.trans (hb.mono HB2.out.size))
          clear hb HY3 HCb HB2 HXb HX HY HC1 hsz HB y3 y8
          go_wp2
          have x0 := HX4.out.cell 0 rfl
          have x1 := HX4.out.cell 1 rfl
          have k5 := HC4.out 5 _ rfl
          have k6 := HC4.out 6 _ rfl
          refine wp_region_still_tail 5 (by kernel_rfl) (by kernel_rfl) ?_
          simp only [List.take_succ_cons, List.take_zero, List.drop_succ_cons, List.drop_zero]
          change wpStill _ _ w3.drew (fun a' => wpList _ _ _ _ a' w3.drew) _ _
          repeat still_step
          refine wpStill_nil ?_
          go_wp2_with fail
          clear x0 x1 k5 k6
          refine (after_any c.exps s _).mono ?_
          rintro e w4 ⟨rfl, hb⟩
          have HY5 := Lib.hid (BlkAt.below (w := w3.drew) HY4.out hb)
          have HC5 := Lib.hid (CkAt.below (w := w3.drew) HC4.out hb)
          have HB5 := Lib.hid (HB4.out.drew.trans (hb.mono HB4.out.size))
          clear hb HY4 HC4 HB4 HX4
          by_cases hs3 : s < c.exps
          · have hend : Hid (endOf c s = some (c.exps, true)) := by rw [Hid, endOf, if_neg (show ¬ c.age < 0 by have := HA.out; omega), if_neg (show ¬ 0 < c.age by have := HA2.out; omega), if_neg HE0.out, if_pos hs3]
            have k5 := HC5.out 5 _ rfl
            have k6 := HC5.out 6 _ rfl
            rw [decide_eq_true hs3]
            have y1 := HY5.out 1 _ rfl
            have y2 := HY5.out 2 _ rfl
            have y5 := HY5.out 5 _ rfl
            have y6 := HY5.out 6 _ rfl
            have y7 := HY5.out 7 _ rfl
            have y9 := HY5.out 9 _ rfl
            have y10 := HY5.out 10 _ rfl
            have k1 := HC5.out 1 _ rfl
            have k2 := HC5.out 2 _ rfl
            have k8 := HC5.out 8 _ rfl
            have k9 := HC5.out 9 _ rfl
            have h9 := BlkAt.setCell HY5.out 9 (.int .i64 c.exps) (show _ < _ from (by decide : 9 < 16))
            have h10 := BlkAt.setCell h9 10 (.int .i64 0) (show _ < _ from (by decide : 10 < 16))
            have h7 := BlkAt.setCell h10 7 (.bool true) (show _ < _ from (by decide : 7 < 16))
            have h1 := BlkAt.setCell h7 1 (.string (bs c.value)) (show _ < _ from (by decide : 1 < 16))
            have h2 := BlkAt.setCell h1 2 (.bool false) (show _ < _ from (by decide : 2 < 16))
            have h5 := BlkAt.setCell h2 5 (.bool c.secure) (show _ < _ from (by decide : 5 < 16))
            have h6 := BlkAt.setCell h5 6 (.bool false) (show _ < _ from (by decide : 6 < 16))
            obtain ⟨x, hx⟩ : ∃ x : Ent, x = { name := c.name, value := c.value, quoted := false, domain := d, path := q, secure := c.secure, httpOnly := false, persistent := true, hostOnly := al, exps := c.exps, crs := 0, las := 0, seq := 0 } := ⟨_, rfl⟩
            have HBz := Lib.hid (((((((HB5.out.setCell (p := ⟨w.heap.size + 1, 9, none⟩) (Nat.le_succ _) (.int .i64 c.exps)).setCell (p := ⟨w.heap.size + 1, 10, none⟩) (Nat.le_succ _) (.int .i64 0)).setCell (p := ⟨w.heap.size + 1, 7, none⟩) (Nat.le_succ _) (.bool true)).setCell (p := ⟨w.heap.size + 1, 1, none⟩) (Nat.le_succ _) (.string (bs c.value))).setCell (p := ⟨w.heap.size + 1, 2, none⟩) (Nat.le_succ _) (.bool false)).setCell (p := ⟨w.heap.size + 1, 5, none⟩) (Nat.le_succ _) (.bool c.secure)).setCell (p := ⟨w.heap.size + 1, 6, none⟩) (Nat.le_succ _) (.bool false))
            change BlkAt _ _ (encE { name := c.name, value := c.value, quoted := false, domain := d, path := q, secure := c.secure, httpOnly := false, persistent := true, hostOnly := al, exps := c.exps, crs := 0, las := 0, seq := 0 }) at h6
            rw [← hx] at h6
            have HL := Lib.hid (loadAtE h6)
            have HT := Lib.hid (storeAtE x h6 rfl)
            have HZ := Lib.hid h6
            have HXx := Lib.hid hx
            clear h9 h10 h7 h1 h2 h5 h6 hx
            go_wp2_with (first | ((with_reducible refine wpL_load HL.out ?_ ?_); rfl) | ((with_reducible refine wpL_store HT.out ?_ ?_ ?_); rfl; rfl))
            refine newRet (R := newEnd t0 v0 (domType listed ss host c.domain) c dp s) (u := .bool false) (v := .nilIface) x HZ.out (by rfl) (by rfl) (by rfl) ?_ HBz.out (Nat.le_succ _)
            rw [HXx.out]
            exact newEnd_keep HE.out hend.out PO.out
          · have hend : Hid (endOf c s = none) := by rw [Hid, endOf, if_neg (show ¬ c.age < 0 by have := HA.out; omega), if_neg (show ¬ 0 < c.age by have := HA2.out; omega), if_neg HE0.out, if_neg (show ¬ s < c.exps by omega)]
            rw [decide_eq_false hs3]
            obtain ⟨x, hx⟩ : ∃ x : Ent, x = { name := c.name, value := [], quoted := false, domain := d, path := q, secure := false, httpOnly := false, persistent := false, hostOnly := al, exps := 0, crs := 0, las := 0, seq := 0 } := ⟨_, rfl⟩
            have h6 : BlkAt w4 (w.heap.size + 1) (encE x) := by rw [hx]; exact HY5.out
            have HL := Lib.hid (loadAtE h6)
            have HT := Lib.hid (storeAtE x h6 rfl)
            have HZ := Lib.hid h6
            have HXx := Lib.hid hx
            clear h6 hx
            go_wp2_with (first | ((with_reducible refine wpL_load HL.out ?_ ?_); rfl) | ((with_reducible refine wpL_store HT.out ?_ ?_ ?_); rfl; rfl))
            exact newRet (R := newEnd t0 v0 (domType listed ss host c.domain) c dp s) (u := .bool true) (v := .nilIface) x HZ.out (by rfl) (by rfl) (by rfl)
              (newEnd_remove HE.out hend.out _ (by rw [HXx.out]) (by rw [HXx.out]) (by rw [HXx.out]; exact PO.out)) HB5.out (Nat.le_succ _)


set_option maxHeartbeats 4000000 in
theorem newEntry_empty (jb cb : Nat) (c : Ck) (s : Int) (dp host : List UInt8) (w : World) (t0 : TypeId) (v0 : Value) (hg : w.cell? ⟨0, 0, none⟩ = some (.iface t0 v0))
    (hpth : c.path = []) (hc : CkAt w cb c) (hok : CkOk c) (hs0 : 0 ≤ s) (hs1 : s ≤ 4294967296)
    (h58 : 58 ∉ host) (h37 : 37 ∉ host) (hh : host.length ≤ maxLen) (_hdp : dp.length ≤ maxLen)
    (listed : Bool) (ss : List (List UInt8)) (hp : JarPsl w jb listed ss) (hn : ss.length ≤ maxLen) (hs : ∀ s ∈ ss, s.length ≤ maxLen) :
    Calls Tryz.prog 70 #[.pointer (some ⟨jb, 0, none⟩), .pointer (some ⟨cb, 0, none⟩), tm s 0, .string (bs dp), .string (bs host)] w
      fun e w' => newEnd t0 v0 (domType listed ss host c.domain) c dp s e ∧ Below w.heap.size w w' := by
  have HC := Lib.hid hc
  have c0 := hc 0 _ rfl
  have c3 := hc 3 _ rfl
  have c4 := hc 4 _ rfl
  have hcl : cb < w.heap.size := hc.lt
  have HG := Lib.hid hg; clear hg
  have HP := Lib.hid hp; clear hp
  have HO := Lib.hid hok; clear hok
  have HS := Lib.hid hs; clear hs
  have HN := Lib.hid hn; clear hn
  have HH := Lib.hid hh; clear hh
  have H1 := Lib.hid h58; clear h58
  have H2 := Lib.hid h37; clear h37
  clear hc
  have PO : Hid (pathOf c dp = dp) := by rw [Hid, pathOf, hpth]; rfl
  rw [hpth] at c3
  clear hpth
  go_enter Tryz.func70, Tryz.ntmps70
  go_wp2_with fail
  have B0 := (BlkAt.made w [.int .i64 s, .int .i64 0] 83).alloc (.cells #[.string (bs c.name), .string ⟨#[]⟩, .bool false, .string ⟨#[]⟩, .string (bs dp), .bool false, .bool false, .bool false, .bool false, .int .i64 0, .int .i64 0, .int .i64 0, .int .i64 0, .int .i64 0, .int .i64 0, .int .u64 0] 118)
  have B1 := BlkAt.made (w.alloc (.cells #[.int .i64 s, .int .i64 0] 83)) [.string (bs c.name), .string ⟨#[]⟩, .bool false, .string ⟨#[]⟩, .string (bs dp), .bool false, .bool false, .bool false, .bool false, .int .i64 0, .int .i64 0, .int .i64 0, .int .i64 0, .int .i64 0, .int .i64 0, .int .u64 0] 118
  rw [show (w.alloc (.cells #[.int .i64 s, .int .i64 0] 83)).heap.size = w.heap.size + 1 by simp] at B1
  have BB : Below w.heap.size w ((w.alloc (.cells #[.int .i64 s, .int .i64 0] 83)).alloc (.cells #[.string (bs c.name), .string ⟨#[]⟩, .bool false, .string ⟨#[]⟩, .string (bs dp), .bool false, .bool false, .bool false, .bool false, .int .i64 0, .int .i64 0, .int .i64 0, .int .i64 0, .int .i64 0, .int .i64 0, .int .u64 0] 118)) :=
    ((Below.refl _ _).alloc (Nat.le_refl _) _).alloc (by simp) _
  have BS : ((w.alloc (.cells #[.int .i64 s, .int .i64 0] 83)).alloc (.cells #[.string (bs c.name), .string ⟨#[]⟩, .bool false, .string ⟨#[]⟩, .string (bs dp), .bool false, .bool false, .bool false, .bool false, .int .i64 0, .int .i64 0, .int .i64 0, .int .i64 0, .int .i64 0, .int .i64 0, .int .u64 0] 118)).heap.size = w.heap.size + 2 := by simp
  clear c0 c3 c4
  refine (domainAndType_any jb host c.domain _ t0 v0 (by rw [BB.cell (World.block_lt_of_cell? w _ HG.out)]; exact HG.out) HO.out.dom H1.out H2.out HH.out HO.out.dlen listed ss (HP.out.below BB) HN.out HS.out).mono ?_
  rintro e w1 ⟨he, hb⟩
  have HX := Lib.hid (B0.below hb); clear B0
  have HY := Lib.hid (B1.below hb); clear B1
  have HC1 := Lib.hid ((HC.out.below BB).below hb)
  have hsz : w.heap.size + 2 ≤ w1.heap.size := by have := hb.size; rw [BS] at this; exact this
  have HB := Lib.hid (BB.trans (hb.mono BB.size)); clear hb
  clear BB BS HC
  cases hdt : domType listed ss host c.domain with
  | none =>
    rw [hdt] at he
    have HE := Lib.hid hdt; clear hdt
    change e = _ at he
    subst he
    have hu := Tryz.underlying77
    have y3 := (HY.out 3 _ rfl)
    have y8 := (HY.out 8 _ rfl)
    obtain ⟨x, hx⟩ : ∃ x : Ent, x = { name := c.name, value := [], quoted := false, domain := [], path := dp, secure := false, httpOnly := false, persistent := false, hostOnly := false, exps := 0, crs := 0, las := 0, seq := 0 } := ⟨_, rfl⟩
    have HY2 : BlkAt ((w1.setCell ⟨w.heap.size + 1, 3, none⟩ (.string (bs []))).setCell ⟨w.heap.size + 1, 8, none⟩ (.bool false)) (w.heap.size + 1) (encE x) := by
      rw [hx]; exact BlkAt.setCell (BlkAt.setCell HY.out 3 (.string (bs [])) (show _ < _ from (by decide : 3 < 16))) 8 (.bool false) (show _ < _ from (by decide : 8 < 16))
    have hld := loadAtE HY2
    have hst := storeAtE x HY2 rfl
    have HB2 := Lib.hid ((HB.out.setCell (p := ⟨w.heap.size + 1, 3, none⟩) (Nat.le_succ _) (.string (bs []))).setCell (p := ⟨w.heap.size + 1, 8, none⟩) (Nat.le_succ _) (.bool false))
    have HY3 := Lib.hid HY2; clear HY2 hx
    have HL := Lib.hid hld; clear hld
    have HT := Lib.hid hst; clear hst
    go_wp2_with (first | ((with_reducible refine wpL_load HL.out ?_ ?_); rfl) | ((with_reducible refine wpL_store HT.out ?_ ?_ ?_); rfl; rfl))
    exact newRet (R := newEnd t0 v0 (domType listed ss host c.domain) c dp s) (u := .bool false) (v := .iface t0 v0) x HY3.out (by rfl) (by rfl) (by rfl) (newEnd_none HE.out _) HB2.out (Nat.le_succ _)
  | some r =>
    obtain ⟨d, al⟩ := r
    rw [hdt] at he
    have HE := Lib.hid hdt; clear hdt
    change e = _ at he
    subst he
    have hu := Tryz.underlying77
    have y3 := (HY.out 3 _ rfl)
    have y8 := (HY.out 8 _ rfl)
    have k1 := HC1.out 1 _ rfl
    have k2 := HC1.out 2 _ rfl
    have k5 := HC1.out 5 _ rfl
    have k6 := HC1.out 6 _ rfl
    have k7 := HC1.out 7 _ rfl
    have k8 := HC1.out 8 _ rfl
    have k9 := HC1.out 9 _ rfl
    have hne1 : w.heap.size + 1 ≠ cb := by omega
    by_cases ha : c.age < 0
    · have hend : Hid (endOf c s = none) := by rw [Hid, endOf, if_pos ha]
      obtain ⟨x, hx⟩ : ∃ x : Ent, x = { name := c.name, value := [], quoted := false, domain := d, path := dp, secure := false, httpOnly := false, persistent := false, hostOnly := al, exps := 0, crs := 0, las := 0, seq := 0 } := ⟨_, rfl⟩
      have HY2 : BlkAt ((w1.setCell ⟨w.heap.size + 1, 3, none⟩ (.string (bs d))).setCell ⟨w.heap.size + 1, 8, none⟩ (.bool al)) (w.heap.size + 1) (encE x) := by
        rw [hx]; exact BlkAt.setCell (BlkAt.setCell HY.out 3 (.string (bs d)) (show _ < _ from (by decide : 3 < 16))) 8 (.bool al) (show _ < _ from (by decide : 8 < 16))
      have HL := Lib.hid (loadAtE HY2)
      have HT := Lib.hid (storeAtE x HY2 rfl)
      have HB2 := Lib.hid ((HB.out.setCell (p := ⟨w.heap.size + 1, 3, none⟩) (Nat.le_succ _) (.string (bs d))).setCell (p := ⟨w.heap.size + 1, 8, none⟩) (Nat.le_succ _) (.bool al))
      have HY3 := Lib.hid HY2; clear HY2
      have HXx := Lib.hid hx; clear hx
      go_wp2_with (first | ((with_reducible refine wpL_load HL.out ?_ ?_); rfl) | ((with_reducible refine wpL_store HT.out ?_ ?_ ?_); rfl; rfl))
      exact newRet (R := newEnd t0 v0 (domType listed ss host c.domain) c dp s) (u := .bool true) (v := .nilIface) x HY3.out (by rfl) (by rfl) (by rfl)
        (newEnd_remove HE.out hend.out _ (by rw [HXx.out]) (by rw [HXx.out]) (by rw [HXx.out]; exact PO.out)) HB2.out (Nat.le_succ _)
    · have HA := Lib.hid ha
      have HXb : Hid (BlkAt ((w1.setCell ⟨w.heap.size + 1, 3, none⟩ (.string (bs d))).setCell ⟨w.heap.size + 1, 8, none⟩ (.bool al)) w.heap.size [.int .i64 s, .int .i64 0]) :=
        (HX.out.setOther 3 _ (by omega)).setOther 8 _ (by omega)
      have HCb : Hid (CkAt ((w1.setCell ⟨w.heap.size + 1, 3, none⟩ (.string (bs d))).setCell ⟨w.heap.size + 1, 8, none⟩ (.bool al)) cb c) := fun j u hj => by
        rw [World.cell?_setCell_other _ _ _ _ (by intro h; injection h with h1 _; exact hne1 h1), World.cell?_setCell_other _ _ _ _ (by intro h; injection h with h1 _; exact hne1 h1)]
        exact HC1.out j u hj
      have HY2 : BlkAt ((w1.setCell ⟨w.heap.size + 1, 3, none⟩ (.string (bs d))).setCell ⟨w.heap.size + 1, 8, none⟩ (.bool al)) (w.heap.size + 1) _ :=
        BlkAt.setCell (BlkAt.setCell HY.out 3 (.string (bs d)) (show _ < _ from (by decide : 3 < 16))) 8 (.bool al) (show _ < _ from (by decide : 8 < 16))
      have HB2 := Lib.hid ((HB.out.setCell (p := ⟨w.heap.size + 1, 3, none⟩) (Nat.le_succ _) (.string (bs d))).setCell (p := ⟨w.heap.size + 1, 8, none⟩) (Nat.le_succ _) (.bool al))
      have HY3 := Lib.hid HY2; clear HY2
      by_cases ha2 : 0 < c.age
      · have hend : Hid (endOf c s = some (s + c.age, true)) := by rw [Hid, endOf, if_neg (show ¬ c.age < 0 by have := HA.out; omega), if_pos ha2]
        have hmul : IntKind.i64.wrap (c.age * 1000000000) = c.age * 1000000000 := IntWalk.i64_in _ (by have := HO.out.age; omega)
        have hage := HO.out.age
        go_wp2
        clear k1 k2 k5 k6 k7 k8 k9
        generalize (w1.setCell ⟨w.heap.size + 1, 3, none⟩ (.string (bs d))).setCell ⟨w.heap.size + 1, 8, none⟩ (.bool al) = w2 at HY3 HB2 HXb HCb ⊢
        clear HX HY HC1 hsz HB y3 y8
        have x0 := HXb.out.cell 0 rfl
        have x1 := HXb.out.cell 1 rfl
        have k7 := HCb.out 7 _ rfl
        refine wp_region_still_tail 6 (by kernel_rfl) (by kernel_rfl) ?_
        simp only [List.take_succ_cons, List.take_zero, List.drop_succ_cons, List.drop_zero]
        change wpStill _ _ w2.drew (fun a' => wpList _ _ _ _ a' w2.drew) _ _
        repeat still_step
        refine wpStill_nil ?_
        go_wp2_with fail
        clear hmul x0 x1 k7
        refine (add_any s c.age ha2 hage hs0 hs1 _).mono ?_
        rintro e w3 ⟨rfl, hb⟩
        have HY4 := Lib.hid (BlkAt.below (w := w2.drew) HY3.out hb)
        have HC4 := Lib.hid (CkAt.below (w := w2.drew) HCb.out hb)
        have HB4 := Lib.hid (HB2.out.drew.trans (hb.mono HB2.out.size))
        clear hb HY3 HCb HB2 HXb
        have y1 := HY4.out 1 _ rfl
        have y2 := HY4.out 2 _ rfl
        have y5 := HY4.out 5 _ rfl
        have y6 := HY4.out 6 _ rfl
        have y7 := HY4.out 7 _ rfl
        have y9 := HY4.out 9 _ rfl
        have y10 := HY4.out 10 _ rfl
        have k1 := HC4.out 1 _ rfl
        have k2 := HC4.out 2 _ rfl
        have k8 := HC4.out 8 _ rfl
        have k9 := HC4.out 9 _ rfl
        have h9 := BlkAt.setCell HY4.out 9 (.int .i64 (s + c.age)) (show _ < _ from (by decide : 9 < 16))
        have h10 := BlkAt.setCell h9 10 (.int .i64 0) (show _ < _ from (by decide : 10 < 16))
        have h7 := BlkAt.setCell h10 7 (.bool true) (show _ < _ from (by decide : 7 < 16))
        have h1 := BlkAt.setCell h7 1 (.string (bs c.value)) (show _ < _ from (by decide : 1 < 16))
        have h2 := BlkAt.setCell h1 2 (.bool false) (show _ < _ from (by decide : 2 < 16))
        have h5 := BlkAt.setCell h2 5 (.bool c.secure) (show _ < _ from (by decide : 5 < 16))
        have h6 := BlkAt.setCell h5 6 (.bool false) (show _ < _ from (by decide : 6 < 16))
        obtain ⟨x, hx⟩ : ∃ x : Ent, x = { name := c.name, value := c.value, quoted := false, domain := d, path := dp, secure := c.secure, httpOnly := false, persistent := true, hostOnly := al, exps := (s + c.age), crs := 0, las := 0, seq := 0 } := ⟨_, rfl⟩
        have HBz := Lib.hid (((((((HB4.out.setCell (p := ⟨w.heap.size + 1, 9, none⟩) (Nat.le_succ _) (.int .i64 (s + c.age))).setCell (p := ⟨w.heap.size + 1, 10, none⟩) (Nat.le_succ _) (.int .i64 0)).setCell (p := ⟨w.heap.size + 1, 7, none⟩) (Nat.le_succ _) (.bool true)).setCell (p := ⟨w.heap.size + 1, 1, none⟩) (Nat.le_succ _) (.string (bs c.value))).setCell (p := ⟨w.heap.size + 1, 2, none⟩) (Nat.le_succ _) (.bool false)).setCell (p := ⟨w.heap.size + 1, 5, none⟩) (Nat.le_succ _) (.bool c.secure)).setCell (p := ⟨w.heap.size + 1, 6, none⟩) (Nat.le_succ _) (.bool false))
        change BlkAt _ _ (encE { name := c.name, value := c.value, quoted := false, domain := d, path := dp, secure := c.secure, httpOnly := false, persistent := true, hostOnly := al, exps := (s + c.age), crs := 0, las := 0, seq := 0 }) at h6
        rw [← hx] at h6
        have HL := Lib.hid (loadAtE h6)
        have HT := Lib.hid (storeAtE x h6 rfl)
        have HZ := Lib.hid h6
        have HXx := Lib.hid hx
        clear h9 h10 h7 h1 h2 h5 h6 hx
        go_wp2_with (first | ((with_reducible refine wpL_load HL.out ?_ ?_); rfl) | ((with_reducible refine wpL_store HT.out ?_ ?_ ?_); rfl; rfl))
        refine newRet (R := newEnd t0 v0 (domType listed ss host c.domain) c dp s) (u := .bool false) (v := .nilIface) x HZ.out (by rfl) (by rfl) (by rfl) ?_ HBz.out (Nat.le_succ _)
        rw [HXx.out]
        exact newEnd_keep HE.out hend.out PO.out
      · have HA2 := Lib.hid ha2
        have hag : Hid (c.age = 0) := by rw [Hid]; omega
        have hd0 : decide (c.age < 0) = false := by simp; omega
        have hd1 : decide (0 < c.age) = false := by simp; omega
        by_cases he0 : c.exps = 0
        · have hend : Hid (endOf c s = some (253402300799, false)) := by rw [Hid, endOf, if_neg (show ¬ c.age < 0 by have := HA.out; omega), if_neg (show ¬ 0 < c.age by have := HA2.out; omega), if_pos he0]
          have hz : (c.exps == 0 && (0 : Int) == 0) = true := by rw [he0]; rfl
          have HZ0 := Lib.hid hz; clear hz he0
          go_wp2_with fail
          refine (isZero_any c.exps 0 _).mono ?_
          rintro e w3 ⟨rfl, hb⟩
          rw [HZ0.out]
          clear k1 k2 k5 k6 k7 k8 k9
          have HY4 := Lib.hid (BlkAt.below HY3.out hb)
          have HC4 := Lib.hid (CkAt.below HCb.out hb)
          have HB4 := Lib.hid (HB2.out.trans (hb.mono HB2.out.size))
          clear hb HY3 HCb HB2 HXb HX HY HC1 hsz HB y3 y8
          go_wp2_with fail
          refine (endOfTime_any _).mono ?_
          rintro e w4 ⟨rfl, hb⟩
          have HY5 := Lib.hid (BlkAt.below HY4.out hb)
          have HC5 := Lib.hid (CkAt.below HC4.out hb)
          have HB5 := Lib.hid (HB4.out.trans (hb.mono HB4.out.size))
          clear hb HY4 HC4 HB4
          have y1 := HY5.out 1 _ rfl
          have y2 := HY5.out 2 _ rfl
          have y5 := HY5.out 5 _ rfl
          have y6 := HY5.out 6 _ rfl
          have y7 := HY5.out 7 _ rfl
          have y9 := HY5.out 9 _ rfl
          have y10 := HY5.out 10 _ rfl
          have k1 := HC5.out 1 _ rfl
          have k2 := HC5.out 2 _ rfl
          have k8 := HC5.out 8 _ rfl
          have k9 := HC5.out 9 _ rfl
          have h9 := BlkAt.setCell HY5.out 9 (.int .i64 253402300799) (show _ < _ from (by decide : 9 < 16))
          have h10 := BlkAt.setCell h9 10 (.int .i64 0) (show _ < _ from (by decide : 10 < 16))
          have h7 := BlkAt.setCell h10 7 (.bool false) (show _ < _ from (by decide : 7 < 16))
          have h1 := BlkAt.setCell h7 1 (.string (bs c.value)) (show _ < _ from (by decide : 1 < 16))
          have h2 := BlkAt.setCell h1 2 (.bool false) (show _ < _ from (by decide : 2 < 16))
          have h5 := BlkAt.setCell h2 5 (.bool c.secure) (show _ < _ from (by decide : 5 < 16))
          have h6 := BlkAt.setCell h5 6 (.bool false) (show _ < _ from (by decide : 6 < 16))
          obtain ⟨x, hx⟩ : ∃ x : Ent, x = { name := c.name, value := c.value, quoted := false, domain := d, path := dp, secure := c.secure, httpOnly := false, persistent := false, hostOnly := al, exps := 253402300799, crs := 0, las := 0, seq := 0 } := ⟨_, rfl⟩
          have HBz := Lib.hid (((((((HB5.out.setCell (p := ⟨w.heap.size + 1, 9, none⟩) (Nat.le_succ _) (.int .i64 253402300799)).setCell (p := ⟨w.heap.size + 1, 10, none⟩) (Nat.le_succ _) (.int .i64 0)).setCell (p := ⟨w.heap.size + 1, 7, none⟩) (Nat.le_succ _) (.bool false)).setCell (p := ⟨w.heap.size + 1, 1, none⟩) (Nat.le_succ _) (.string (bs c.value))).setCell (p := ⟨w.heap.size + 1, 2, none⟩) (Nat.le_succ _) (.bool false)).setCell (p := ⟨w.heap.size + 1, 5, none⟩) (Nat.le_succ _) (.bool c.secure)).setCell (p := ⟨w.heap.size + 1, 6, none⟩) (Nat.le_succ _) (.bool false))
          change BlkAt _ _ (encE { name := c.name, value := c.value, quoted := false, domain := d, path := dp, secure := c.secure, httpOnly := false, persistent := false, hostOnly := al, exps := 253402300799, crs := 0, las := 0, seq := 0 }) at h6
          rw [← hx] at h6
          have HL := Lib.hid (loadAtE h6)
          have HT := Lib.hid (storeAtE x h6 rfl)
          have HZ := Lib.hid h6
          have HXx := Lib.hid hx
          clear h9 h10 h7 h1 h2 h5 h6 hx
          go_wp2_with (first | ((with_reducible refine wpL_load HL.out ?_ ?_); rfl) | ((with_reducible refine wpL_store HT.out ?_ ?_ ?_); rfl; rfl))
          refine newRet (R := newEnd t0 v0 (domType listed ss host c.domain) c dp s) (u := .bool false) (v := .nilIface) x HZ.out (by rfl) (by rfl) (by rfl) ?_ HBz.out (Nat.le_succ _)
          rw [HXx.out]
          exact newEnd_keep HE.out hend.out PO.out
        · have hz : (c.exps == 0 && (0 : Int) == 0) = false := by rw [Bool.eq_false_iff]; intro h; simp at h; exact he0 h
          have HZ0 := Lib.hid hz; clear hz
          have HE0 := Lib.hid he0; clear he0
          go_wp2_with fail
          refine (isZero_any c.exps 0 _).mono ?_
          rintro e w3 ⟨rfl, hb⟩
          rw [HZ0.out]
          clear k1 k2 k5 k6 k7 k8 k9
          have HY4 := Lib.hid (BlkAt.below HY3.out hb)
          have HC4 := Lib.hid (CkAt.below HCb.out hb)
          have HX4 := Lib.hid (BlkAt.below HXb.out hb)
          have HB4 := Lib.hid (HB2.out.trans (hb.mono HB2.out.size))
          clear hb HY3 HCb HB2 HXb HX HY HC1 hsz HB y3 y8
          go_wp2
          have x0 := HX4.out.cell 0 rfl
          have x1 := HX4.out.cell 1 rfl
          have k5 := HC4.out 5 _ rfl
          have k6 := HC4.out 6 _ rfl
          refine wp_region_still_tail 5 (by kernel_rfl) (by kernel_rfl) ?_
          simp only [List.take_succ_cons, List.take_zero, List.drop_succ_cons, List.drop_zero]
          change wpStill _ _ w3.drew (fun a' => wpList _ _ _ _ a' w3.drew) _ _
          repeat still_step
          refine wpStill_nil ?_
          go_wp2_with fail
          clear x0 x1 k5 k6
          refine (after_any c.exps s _).mono ?_
          rintro e w4 ⟨rfl, hb⟩
          have HY5 := Lib.hid (BlkAt.below (w := w3.drew) HY4.out hb)
          have HC5 := Lib.hid (CkAt.below (w := w3.drew) HC4.out hb)
          have HB5 := Lib.hid (HB4.out.drew.trans (hb.mono HB4.out.size))
          clear hb HY4 HC4 HB4 HX4
          by_cases hs3 : s < c.exps
          · have hend : Hid (endOf c s = some (c.exps, true)) := by rw [Hid, endOf, if_neg (show ¬ c.age < 0 by have := HA.out; omega), if_neg (show ¬ 0 < c.age by have := HA2.out; omega), if_neg HE0.out, if_pos hs3]
            have k5 := HC5.out 5 _ rfl
            have k6 := HC5.out 6 _ rfl
            rw [decide_eq_true hs3]
            have y1 := HY5.out 1 _ rfl
            have y2 := HY5.out 2 _ rfl
            have y5 := HY5.out 5 _ rfl
            have y6 := HY5.out 6 _ rfl
            have y7 := HY5.out 7 _ rfl
            have y9 := HY5.out 9 _ rfl
            have y10 := HY5.out 10 _ rfl
            have k1 := HC5.out 1 _ rfl
            have k2 := HC5.out 2 _ rfl
            have k8 := HC5.out 8 _ rfl
            have k9 := HC5.out 9 _ rfl
            have h9 := BlkAt.setCell HY5.out 9 (.int .i64 c.exps) (show _ < _ from (by decide : 9 < 16))
            have h10 := BlkAt.setCell h9 10 (.int .i64 0) (show _ < _ from (by decide : 10 < 16))
            have h7 := BlkAt.setCell h10 7 (.bool true) (show _ < _ from (by decide : 7 < 16))
            have h1 := BlkAt.setCell h7 1 (.string (bs c.value)) (show _ < _ from (by decide : 1 < 16))
            have h2 := BlkAt.setCell h1 2 (.bool false) (show _ < _ from (by decide : 2 < 16))
            have h5 := BlkAt.setCell h2 5 (.bool c.secure) (show _ < _ from (by decide : 5 < 16))
            have h6 := BlkAt.setCell h5 6 (.bool false) (show _ < _ from (by decide : 6 < 16))
            obtain ⟨x, hx⟩ : ∃ x : Ent, x = { name := c.name, value := c.value, quoted := false, domain := d, path := dp, secure := c.secure, httpOnly := false, persistent := true, hostOnly := al, exps := c.exps, crs := 0, las := 0, seq := 0 } := ⟨_, rfl⟩
            have HBz := Lib.hid (((((((HB5.out.setCell (p := ⟨w.heap.size + 1, 9, none⟩) (Nat.le_succ _) (.int .i64 c.exps)).setCell (p := ⟨w.heap.size + 1, 10, none⟩) (Nat.le_succ _) (.int .i64 0)).setCell (p := ⟨w.heap.size + 1, 7, none⟩) (Nat.le_succ _) (.bool true)).setCell (p := ⟨w.heap.size + 1, 1, none⟩) (Nat.le_succ _) (.string (bs c.value))).setCell (p := ⟨w.heap.size + 1, 2, none⟩) (Nat.le_succ _) (.bool false)).setCell (p := ⟨w.heap.size + 1, 5, none⟩) (Nat.le_succ _) (.bool c.secure)).setCell (p := ⟨w.heap.size + 1, 6, none⟩) (Nat.le_succ _) (.bool false))
            change BlkAt _ _ (encE { name := c.name, value := c.value, quoted := false, domain := d, path := dp, secure := c.secure, httpOnly := false, persistent := true, hostOnly := al, exps := c.exps, crs := 0, las := 0, seq := 0 }) at h6
            rw [← hx] at h6
            have HL := Lib.hid (loadAtE h6)
            have HT := Lib.hid (storeAtE x h6 rfl)
            have HZ := Lib.hid h6
            have HXx := Lib.hid hx
            clear h9 h10 h7 h1 h2 h5 h6 hx
            go_wp2_with (first | ((with_reducible refine wpL_load HL.out ?_ ?_); rfl) | ((with_reducible refine wpL_store HT.out ?_ ?_ ?_); rfl; rfl))
            refine newRet (R := newEnd t0 v0 (domType listed ss host c.domain) c dp s) (u := .bool false) (v := .nilIface) x HZ.out (by rfl) (by rfl) (by rfl) ?_ HBz.out (Nat.le_succ _)
            rw [HXx.out]
            exact newEnd_keep HE.out hend.out PO.out
          · have hend : Hid (endOf c s = none) := by rw [Hid, endOf, if_neg (show ¬ c.age < 0 by have := HA.out; omega), if_neg (show ¬ 0 < c.age by have := HA2.out; omega), if_neg HE0.out, if_neg (show ¬ s < c.exps by omega)]
            rw [decide_eq_false hs3]
            obtain ⟨x, hx⟩ : ∃ x : Ent, x = { name := c.name, value := [], quoted := false, domain := d, path := dp, secure := false, httpOnly := false, persistent := false, hostOnly := al, exps := 0, crs := 0, las := 0, seq := 0 } := ⟨_, rfl⟩
            have h6 : BlkAt w4 (w.heap.size + 1) (encE x) := by rw [hx]; exact HY5.out
            have HL := Lib.hid (loadAtE h6)
            have HT := Lib.hid (storeAtE x h6 rfl)
            have HZ := Lib.hid h6
            have HXx := Lib.hid hx
            clear h6 hx
            go_wp2_with (first | ((with_reducible refine wpL_load HL.out ?_ ?_); rfl) | ((with_reducible refine wpL_store HT.out ?_ ?_ ?_); rfl; rfl))
            exact newRet (R := newEnd t0 v0 (domType listed ss host c.domain) c dp s) (u := .bool true) (v := .nilIface) x HZ.out (by rfl) (by rfl) (by rfl)
              (newEnd_remove HE.out hend.out _ (by rw [HXx.out]) (by rw [HXx.out]) (by rw [HXx.out]; exact PO.out)) HB5.out (Nat.le_succ _)


set_option maxHeartbeats 4000000 in
theorem newEntry_other (jb cb : Nat) (c : Ck) (s : Int) (dp host : List UInt8) (w : World) (t0 : TypeId) (v0 : Value) (hg : w.cell? ⟨0, 0, none⟩ = some (.iface t0 v0))
    (hpth : c.path ≠ [] ∧ c.path.head? ≠ some 47) (hc : CkAt w cb c) (hok : CkOk c) (hs0 : 0 ≤ s) (hs1 : s ≤ 4294967296)
    (h58 : 58 ∉ host) (h37 : 37 ∉ host) (hh : host.length ≤ maxLen) (_hdp : dp.length ≤ maxLen)
    (listed : Bool) (ss : List (List UInt8)) (hp : JarPsl w jb listed ss) (hn : ss.length ≤ maxLen) (hs : ∀ s ∈ ss, s.length ≤ maxLen) :
    Calls Tryz.prog 70 #[.pointer (some ⟨jb, 0, none⟩), .pointer (some ⟨cb, 0, none⟩), tm s 0, .string (bs dp), .string (bs host)] w
      fun e w' => newEnd t0 v0 (domType listed ss host c.domain) c dp s e ∧ Below w.heap.size w w' := by
  have HC := Lib.hid hc
  have c0 := hc 0 _ rfl
  have c3 := hc 3 _ rfl
  have c4 := hc 4 _ rfl
  have hcl : cb < w.heap.size := hc.lt
  have HG := Lib.hid hg; clear hg
  have HP := Lib.hid hp; clear hp
  have HO := Lib.hid hok; clear hok
  have HS := Lib.hid hs; clear hs
  have HN := Lib.hid hn; clear hn
  have HH := Lib.hid hh; clear hh
  have H1 := Lib.hid h58; clear h58
  have H2 := Lib.hid h37; clear h37
  clear hc
  obtain ⟨hp1, hp2⟩ := hpth
  have hne : c.path.isEmpty = false := by simpa using hp1
  have h0 : 0 < c.path.length := List.length_pos_iff.2 hp1
  have hb0 : ((c.path[0].toNat : Int) != 47) = true := by
    rw [List.head?_eq_getElem?, List.getElem?_eq_getElem h0] at hp2
    rw [bne_iff_ne]; intro h
    exact hp2 (congrArg some (u8_eq.1 (show ((c.path[0].toNat : Int) == ((47 : UInt8).toNat : Int)) = true by rw [h]; rfl)))
  have PO : Hid (pathOf c dp = dp) := by rw [Hid, pathOf, if_neg hp2]
  clear hp1 hp2
  generalize c.path = pq at *
  go_enter Tryz.func70, Tryz.ntmps70
  go_wp2_with fail
  have B0 := (BlkAt.made w [.int .i64 s, .int .i64 0] 83).alloc (.cells #[.string (bs c.name), .string ⟨#[]⟩, .bool false, .string ⟨#[]⟩, .string (bs dp), .bool false, .bool false, .bool false, .bool false, .int .i64 0, .int .i64 0, .int .i64 0, .int .i64 0, .int .i64 0, .int .i64 0, .int .u64 0] 118)
  have B1 := BlkAt.made (w.alloc (.cells #[.int .i64 s, .int .i64 0] 83)) [.string (bs c.name), .string ⟨#[]⟩, .bool false, .string ⟨#[]⟩, .string (bs dp), .bool false, .bool false, .bool false, .bool false, .int .i64 0, .int .i64 0, .int .i64 0, .int .i64 0, .int .i64 0, .int .i64 0, .int .u64 0] 118
  rw [show (w.alloc (.cells #[.int .i64 s, .int .i64 0] 83)).heap.size = w.heap.size + 1 by simp] at B1
  have BB : Below w.heap.size w ((w.alloc (.cells #[.int .i64 s, .int .i64 0] 83)).alloc (.cells #[.string (bs c.name), .string ⟨#[]⟩, .bool false, .string ⟨#[]⟩, .string (bs dp), .bool false, .bool false, .bool false, .bool false, .int .i64 0, .int .i64 0, .int .i64 0, .int .i64 0, .int .i64 0, .int .i64 0, .int .u64 0] 118)) :=
    ((Below.refl _ _).alloc (Nat.le_refl _) _).alloc (by simp) _
  have BS : ((w.alloc (.cells #[.int .i64 s, .int .i64 0] 83)).alloc (.cells #[.string (bs c.name), .string ⟨#[]⟩, .bool false, .string ⟨#[]⟩, .string (bs dp), .bool false, .bool false, .bool false, .bool false, .int .i64 0, .int .i64 0, .int .i64 0, .int .i64 0, .int .i64 0, .int .i64 0, .int .u64 0] 118)).heap.size = w.heap.size + 2 := by simp
  clear c0 c3 c4 hne hb0
  refine (domainAndType_any jb host c.domain _ t0 v0 (by rw [BB.cell (World.block_lt_of_cell? w _ HG.out)]; exact HG.out) HO.out.dom H1.out H2.out HH.out HO.out.dlen listed ss (HP.out.below BB) HN.out HS.out).mono ?_
  rintro e w1 ⟨he, hb⟩
  have HX := Lib.hid (B0.below hb); clear B0
  have HY := Lib.hid (B1.below hb); clear B1
  have HC1 := Lib.hid ((HC.out.below BB).below hb)
  have hsz : w.heap.size + 2 ≤ w1.heap.size := by have := hb.size; rw [BS] at this; exact this
  have HB := Lib.hid (BB.trans (hb.mono BB.size)); clear hb
  clear BB BS HC
  cases hdt : domType listed ss host c.domain with
  | none =>
    rw [hdt] at he
    have HE := Lib.hid hdt; clear hdt
    change e = _ at he
    subst he
    have hu := Tryz.underlying77
    have y3 := (HY.out 3 _ rfl)
    have y8 := (HY.out 8 _ rfl)
    obtain ⟨x, hx⟩ : ∃ x : Ent, x = { name := c.name, value := [], quoted := false, domain := [], path := dp, secure := false, httpOnly := false, persistent := false, hostOnly := false, exps := 0, crs := 0, las := 0, seq := 0 } := ⟨_, rfl⟩
    have HY2 : BlkAt ((w1.setCell ⟨w.heap.size + 1, 3, none⟩ (.string (bs []))).setCell ⟨w.heap.size + 1, 8, none⟩ (.bool false)) (w.heap.size + 1) (encE x) := by
      rw [hx]; exact BlkAt.setCell (BlkAt.setCell HY.out 3 (.string (bs [])) (show _ < _ from (by decide : 3 < 16))) 8 (.bool false) (show _ < _ from (by decide : 8 < 16))
    have hld := loadAtE HY2
    have hst := storeAtE x HY2 rfl
    have HB2 := Lib.hid ((HB.out.setCell (p := ⟨w.heap.size + 1, 3, none⟩) (Nat.le_succ _) (.string (bs []))).setCell (p := ⟨w.heap.size + 1, 8, none⟩) (Nat.le_succ _) (.bool false))
    have HY3 := Lib.hid HY2; clear HY2 hx
    have HL := Lib.hid hld; clear hld
    have HT := Lib.hid hst; clear hst
    go_wp2_with (first | ((with_reducible refine wpL_load HL.out ?_ ?_); rfl) | ((with_reducible refine wpL_store HT.out ?_ ?_ ?_); rfl; rfl))
    exact newRet (R := newEnd t0 v0 (domType listed ss host c.domain) c dp s) (u := .bool false) (v := .iface t0 v0) x HY3.out (by rfl) (by rfl) (by rfl) (newEnd_none HE.out _) HB2.out (Nat.le_succ _)
  | some r =>
    obtain ⟨d, al⟩ := r
    rw [hdt] at he
    have HE := Lib.hid hdt; clear hdt
    change e = _ at he
    subst he
    have hu := Tryz.underlying77
    have y3 := (HY.out 3 _ rfl)
    have y8 := (HY.out 8 _ rfl)
    have k1 := HC1.out 1 _ rfl
    have k2 := HC1.out 2 _ rfl
    have k5 := HC1.out 5 _ rfl
    have k6 := HC1.out 6 _ rfl
    have k7 := HC1.out 7 _ rfl
    have k8 := HC1.out 8 _ rfl
    have k9 := HC1.out 9 _ rfl
    have hne1 : w.heap.size + 1 ≠ cb := by omega
    by_cases ha : c.age < 0
    · have hend : Hid (endOf c s = none) := by rw [Hid, endOf, if_pos ha]
      obtain ⟨x, hx⟩ : ∃ x : Ent, x = { name := c.name, value := [], quoted := false, domain := d, path := dp, secure := false, httpOnly := false, persistent := false, hostOnly := al, exps := 0, crs := 0, las := 0, seq := 0 } := ⟨_, rfl⟩
      have HY2 : BlkAt ((w1.setCell ⟨w.heap.size + 1, 3, none⟩ (.string (bs d))).setCell ⟨w.heap.size + 1, 8, none⟩ (.bool al)) (w.heap.size + 1) (encE x) := by
        rw [hx]; exact BlkAt.setCell (BlkAt.setCell HY.out 3 (.string (bs d)) (show _ < _ from (by decide : 3 < 16))) 8 (.bool al) (show _ < _ from (by decide : 8 < 16))
      have HL := Lib.hid (loadAtE HY2)
      have HT := Lib.hid (storeAtE x HY2 rfl)
      have HB2 := Lib.hid ((HB.out.setCell (p := ⟨w.heap.size + 1, 3, none⟩) (Nat.le_succ _) (.string (bs d))).setCell (p := ⟨w.heap.size + 1, 8, none⟩) (Nat.le_succ _) (.bool al))
      have HY3 := Lib.hid HY2; clear HY2
      have HXx := Lib.hid hx; clear hx
      go_wp2_with (first | ((with_reducible refine wpL_load HL.out ?_ ?_); rfl) | ((with_reducible refine wpL_store HT.out ?_ ?_ ?_); rfl; rfl))
      exact newRet (R := newEnd t0 v0 (domType listed ss host c.domain) c dp s) (u := .bool true) (v := .nilIface) x HY3.out (by rfl) (by rfl) (by rfl)
        (newEnd_remove HE.out hend.out _ (by rw [HXx.out]) (by rw [HXx.out]) (by rw [HXx.out]; exact PO.out)) HB2.out (Nat.le_succ _)
    · have HA := Lib.hid ha
      have HXb : Hid (BlkAt ((w1.setCell ⟨w.heap.size + 1, 3, none⟩ (.string (bs d))).setCell ⟨w.heap.size + 1, 8, none⟩ (.bool al)) w.heap.size [.int .i64 s, .int .i64 0]) :=
        (HX.out.setOther 3 _ (by omega)).setOther 8 _ (by omega)
      have HCb : Hid (CkAt ((w1.setCell ⟨w.heap.size + 1, 3, none⟩ (.string (bs d))).setCell ⟨w.heap.size + 1, 8, none⟩ (.bool al)) cb c) := fun j u hj => by
        rw [World.cell?_setCell_other _ _ _ _ (by intro h; injection h with h1 _; exact hne1 h1), World.cell?_setCell_other _ _ _ _ (by intro h; injection h with h1 _; exact hne1 h1)]
        exact HC1.out j u hj
      have HY2 : BlkAt ((w1.setCell ⟨w.heap.size + 1, 3, none⟩ (.string (bs d))).setCell ⟨w.heap.size + 1, 8, none⟩ (.bool al)) (w.heap.size + 1) _ :=
        BlkAt.setCell (BlkAt.setCell HY.out 3 (.string (bs d)) (show _ < _ from (by decide : 3 < 16))) 8 (.bool al) (show _ < _ from (by decide : 8 < 16))
      have HB2 := Lib.hid ((HB.out.setCell (p := ⟨w.heap.size + 1, 3, none⟩) (Nat.le_succ _) (.string (bs d))).setCell (p := ⟨w.heap.size + 1, 8, none⟩) (Nat.le_succ _) (.bool al))
      have HY3 := Lib.hid HY2; clear HY2
      by_cases ha2 : 0 < c.age
      · have hend : Hid (endOf c s = some (s + c.age, true)) := by rw [Hid, endOf, if_neg (show ¬ c.age < 0 by have := HA.out; omega), if_pos ha2]
        have hmul : IntKind.i64.wrap (c.age * 1000000000) = c.age * 1000000000 := IntWalk.i64_in _ (by have := HO.out.age; omega)
        have hage := HO.out.age
        go_wp2
        clear k1 k2 k5 k6 k7 k8 k9
        generalize (w1.setCell ⟨w.heap.size + 1, 3, none⟩ (.string (bs d))).setCell ⟨w.heap.size + 1, 8, none⟩ (.bool al) = w2 at HY3 HB2 HXb HCb ⊢
        clear HX HY HC1 hsz HB y3 y8
        have x0 := HXb.out.cell 0 rfl
        have x1 := HXb.out.cell 1 rfl
        have k7 := HCb.out 7 _ rfl
        refine wp_region_still_tail 6 (by kernel_rfl) (by kernel_rfl) ?_
        simp only [List.take_succ_cons, List.take_zero, List.drop_succ_cons, List.drop_zero]
        change wpStill _ _ w2.drew (fun a' => wpList _ _ _ _ a' w2.drew) _ _
        repeat still_step
        refine wpStill_nil ?_
        go_wp2_with fail
        clear hmul x0 x1 k7
        refine (add_any s c.age ha2 hage hs0 hs1 _).mono ?_
        rintro e w3 ⟨rfl, hb⟩
        have HY4 := Lib.hid (BlkAt.below (w := w2.drew) HY3.out hb)
        have HC4 := Lib.hid (CkAt.below (w := w2.drew) HCb.out hb)
        have HB4 := Lib.hid (HB2.out.drew.trans (hb.mono HB2.out.size))
        clear hb HY3 HCb HB2 HXb
        have y1 := HY4.out 1 _ rfl
        have y2 := HY4.out 2 _ rfl
        have y5 := HY4.out 5 _ rfl
        have y6 := HY4.out 6 _ rfl
        have y7 := HY4.out 7 _ rfl
        have y9 := HY4.out 9 _ rfl
        have y10 := HY4.out 10 _ rfl
        have k1 := HC4.out 1 _ rfl
        have k2 := HC4.out 2 _ rfl
        have k8 := HC4.out 8 _ rfl
        have k9 := HC4.out 9 _ rfl
        have h9 := BlkAt.setCell HY4.out 9 (.int .i64 (s + c.age)) (show _ < _ from (by decide : 9 < 16))
        have h10 := BlkAt.setCell h9 10 (.int .i64 0) (show _ < _ from (by decide : 10 < 16))
        have h7 := BlkAt.setCell h10 7 (.bool true) (show _ < _ from (by decide : 7 < 16))
        have h1 := BlkAt.setCell h7 1 (.string (bs c.value)) (show _ < _ from (by decide : 1 < 16))
        have h2 := BlkAt.setCell h1 2 (.bool false) (show _ < _ from (by decide : 2 < 16))
        have h5 := BlkAt.setCell h2 5 (.bool c.secure) (show _ < _ from (by decide : 5 < 16))
        have h6 := BlkAt.setCell h5 6 (.bool false) (show _ < _ from (by decide : 6 < 16))
        obtain ⟨x, hx⟩ : ∃ x : Ent, x = { name := c.name, value := c.value, quoted := false, domain := d, path := dp, secure := c.secure, httpOnly := false, persistent := true, hostOnly := al, exps := (s + c.age), crs := 0, las := 0, seq := 0 } := ⟨_, rfl⟩
        have HBz := Lib.hid (((((((HB4.out.setCell (p := ⟨w.heap.size + 1, 9, none⟩) (Nat.le_succ _) (.int .i64 (s + c.age))).setCell (p := ⟨w.heap.size + 1, 10, none⟩) (Nat.le_succ _) (.int .i64 0)).setCell (p := ⟨w.heap.size + 1, 7, none⟩) (Nat.le_succ _) (.bool true)).setCell (p := ⟨w.heap.size + 1, 1, none⟩) (Nat.le_succ _) (.string (bs c.value))).setCell (p := ⟨w.heap.size + 1, 2, none⟩) (Nat.le_succ _) (.bool false)).setCell (p := ⟨w.heap.size + 1, 5, none⟩) (Nat.le_succ _) (.bool c.secure)).setCell (p := ⟨w.heap.size + 1, 6, none⟩) (Nat.le_succ _) (.bool false))
        change BlkAt _ _ (encE { name := c.name, value := c.value, quoted := false, domain := d, path := dp, secure := c.secure, httpOnly := false, persistent := true, hostOnly := al, exps := (s + c.age), crs := 0, las := 0, seq := 0 }) at h6
        rw [← hx] at h6
        have HL := Lib.hid (loadAtE h6)
        have HT := Lib.hid (storeAtE x h6 rfl)
        have HZ := Lib.hid h6
        have HXx := Lib.hid hx
        clear h9 h10 h7 h1 h2 h5 h6 hx
        go_wp2_with (first | ((with_reducible refine wpL_load HL.out ?_ ?_); rfl) | ((with_reducible refine wpL_store HT.out ?_ ?_ ?_); rfl; rfl))
        refine newRet (R := newEnd t0 v0 (domType listed ss host c.domain) c dp s) (u := .bool false) (v := .nilIface) x HZ.out (by rfl) (by rfl) (by rfl) ?_ HBz.out (Nat.le_succ _)
        rw [HXx.out]
        exact newEnd_keep HE.out hend.out PO.out
      · have HA2 := Lib.hid ha2
        have hag : Hid (c.age = 0) := by rw [Hid]; omega
        have hd0 : decide (c.age < 0) = false := by simp; omega
        have hd1 : decide (0 < c.age) = false := by simp; omega
        by_cases he0 : c.exps = 0
        · have hend : Hid (endOf c s = some (253402300799, false)) := by rw [Hid, endOf, if_neg (show ¬ c.age < 0 by have := HA.out; omega), if_neg (show ¬ 0 < c.age by have := HA2.out; omega), if_pos he0]
          have hz : (c.exps == 0 && (0 : Int) == 0) = true := by rw [he0]; rfl
          have HZ0 := Lib.hid hz; clear hz he0
          go_wp2_with fail
          refine (isZero_any c.exps 0 _).mono ?_
          rintro e w3 ⟨rfl, hb⟩
          rw [HZ0.out]
          clear k1 k2 k5 k6 k7 k8 k9
          have HY4 := Lib.hid (BlkAt.below HY3.out hb)
          have HC4 := Lib.hid (CkAt.below HCb.out hb)
          have HB4 := Lib.hid (HB2.out.trans (hb.mono HB2.out.size))
          clear hb HY3 HCb HB2 HXb HX HY HC1 hsz HB y3 y8
          go_wp2_with fail
          refine (endOfTime_any _).mono ?_
          rintro e w4 ⟨rfl, hb⟩
          have HY5 := Lib.hid (BlkAt.below HY4.out hb)
          have HC5 := Lib.hid (CkAt.below HC4.out hb)
          have HB5 := Lib.hid (HB4.out.trans (hb.mono HB4.out.size))
          clear hb HY4 HC4 HB4
          have y1 := HY5.out 1 _ rfl
          have y2 := HY5.out 2 _ rfl
          have y5 := HY5.out 5 _ rfl
          have y6 := HY5.out 6 _ rfl
          have y7 := HY5.out 7 _ rfl
          have y9 := HY5.out 9 _ rfl
          have y10 := HY5.out 10 _ rfl
          have k1 := HC5.out 1 _ rfl
          have k2 := HC5.out 2 _ rfl
          have k8 := HC5.out 8 _ rfl
          have k9 := HC5.out 9 _ rfl
          have h9 := BlkAt.setCell HY5.out 9 (.int .i64 253402300799) (show _ < _ from (by decide : 9 < 16))
          have h10 := BlkAt.setCell h9 10 (.int .i64 0) (show _ < _ from (by decide : 10 < 16))
          have h7 := BlkAt.setCell h10 7 (.bool false) (show _ < _ from (by decide : 7 < 16))
          have h1 := BlkAt.setCell h7 1 (.string (bs c.value)) (show _ < _ from (by decide : 1 < 16))
          have h2 := BlkAt.setCell h1 2 (.bool false) (show _ < _ from (by decide : 2 < 16))
          have h5 := BlkAt.setCell h2 5 (.bool c.secure) (show _ < _ from (by decide : 5 < 16))
          have h6 := BlkAt.setCell h5 6 (.bool false) (show _ < _ from (by decide : 6 < 16))
          obtain ⟨x, hx⟩ : ∃ x : Ent, x = { name := c.name, value := c.value, quoted := false, domain := d, path := dp, secure := c.secure, httpOnly := false, persistent := false, hostOnly := al, exps := 253402300799, crs := 0, las := 0, seq := 0 } := ⟨_, rfl⟩
          have HBz := Lib.hid (((((((HB5.out.setCell (p := ⟨w.heap.size + 1, 9, none⟩) (Nat.le_succ _) (.int .i64 253402300799)).setCell (p := ⟨w.heap.size + 1, 10, none⟩) (Nat.le_succ _) (.int .i64 0)).setCell (p := ⟨w.heap.size + 1, 7, none⟩) (Nat.le_succ _) (.bool false)).setCell (p := ⟨w.heap.size + 1, 1, none⟩) (Nat.le_succ _) (.string (bs c.value))).setCell (p := ⟨w.heap.size + 1, 2, none⟩) (Nat.le_succ _) (.bool false)).setCell (p := ⟨w.heap.size + 1, 5, none⟩) (Nat.le_succ _) (.bool c.secure)).setCell (p := ⟨w.heap.size + 1, 6, none⟩) (Nat.le_succ _) (.bool false))
          change BlkAt _ _ (encE { name := c.name, value := c.value, quoted := false, domain := d, path := dp, secure := c.secure, httpOnly := false, persistent := false, hostOnly := al, exps := 253402300799, crs := 0, las := 0, seq := 0 }) at h6
          rw [← hx] at h6
          have HL := Lib.hid (loadAtE h6)
          have HT := Lib.hid (storeAtE x h6 rfl)
          have HZ := Lib.hid h6
          have HXx := Lib.hid hx
          clear h9 h10 h7 h1 h2 h5 h6 hx
          go_wp2_with (first | ((with_reducible refine wpL_load HL.out ?_ ?_); rfl) | ((with_reducible refine wpL_store HT.out ?_ ?_ ?_); rfl; rfl))
          refine newRet (R := newEnd t0 v0 (domType listed ss host c.domain) c dp s) (u := .bool false) (v := .nilIface) x HZ.out (by rfl) (by rfl) (by rfl) ?_ HBz.out (Nat.le_succ _)
          rw [HXx.out]
          exact newEnd_keep HE.out hend.out PO.out
        · have hz : (c.exps == 0 && (0 : Int) == 0) = false := by rw [Bool.eq_false_iff]; intro h; simp at h; exact he0 h
          have HZ0 := Lib.hid hz; clear hz
          have HE0 := Lib.hid he0; clear he0
          go_wp2_with fail
          refine (isZero_any c.exps 0 _).mono ?_
          rintro e w3 ⟨rfl, hb⟩
          rw [HZ0.out]
          clear k1 k2 k5 k6 k7 k8 k9
          have HY4 := Lib.hid (BlkAt.below HY3.out hb)
          have HC4 := Lib.hid (CkAt.below HCb.out hb)
          have HX4 := Lib.hid (BlkAt.below HXb.out hb)
          have HB4 := Lib.hid (HB2.out.trans (hb.mono HB2.out.size))
          clear hb HY3 HCb HB2 HXb HX HY HC1 hsz HB y3 y8
          go_wp2
          have x0 := HX4.out.cell 0 rfl
          have x1 := HX4.out.cell 1 rfl
          have k5 := HC4.out 5 _ rfl
          have k6 := HC4.out 6 _ rfl
          refine wp_region_still_tail 5 (by kernel_rfl) (by kernel_rfl) ?_
          simp only [List.take_succ_cons, List.take_zero, List.drop_succ_cons, List.drop_zero]
          change wpStill _ _ w3.drew (fun a' => wpList _ _ _ _ a' w3.drew) _ _
          repeat still_step
          refine wpStill_nil ?_
          go_wp2_with fail
          clear x0 x1 k5 k6
          refine (after_any c.exps s _).mono ?_
          rintro e w4 ⟨rfl, hb⟩
          have HY5 := Lib.hid (BlkAt.below (w := w3.drew) HY4.out hb)
          have HC5 := Lib.hid (CkAt.below (w := w3.drew) HC4.out hb)
          have HB5 := Lib.hid (HB4.out.drew.trans (hb.mono HB4.out.size))
          clear hb HY4 HC4 HB4 HX4
          by_cases hs3 : s < c.exps
          · have hend : Hid (endOf c s = some (c.exps, true)) := by rw [Hid, endOf, if_neg (show ¬ c.age < 0 by have := HA.out; omega), if_neg (show ¬ 0 < c.age by have := HA2.out; omega), if_neg HE0.out, if_pos hs3]
            have k5 := HC5.out 5 _ rfl
            have k6 := HC5.out 6 _ rfl
            rw [decide_eq_true hs3]
            have y1 := HY5.out 1 _ rfl
            have y2 := HY5.out 2 _ rfl
            have y5 := HY5.out 5 _ rfl
            have y6 := HY5.out 6 _ rfl
            have y7 := HY5.out 7 _ rfl
            have y9 := HY5.out 9 _ rfl
            have y10 := HY5.out 10 _ rfl
            have k1 := HC5.out 1 _ rfl
            have k2 := HC5.out 2 _ rfl
            have k8 := HC5.out 8 _ rfl
            have k9 := HC5.out 9 _ rfl
            have h9 := BlkAt.setCell HY5.out 9 (.int .i64 c.exps) (show _ < _ from (by decide : 9 < 16))
            have h10 := BlkAt.setCell h9 10 (.int .i64 0) (show _ < _ from (by decide : 10 < 16))
            have h7 := BlkAt.setCell h10 7 (.bool true) (show _ < _ from (by decide : 7 < 16))
            have h1 := BlkAt.setCell h7 1 (.string (bs c.value)) (show _ < _ from (by decide : 1 < 16))
            have h2 := BlkAt.setCell h1 2 (.bool false) (show _ < _ from (by decide : 2 < 16))
            have h5 := BlkAt.setCell h2 5 (.bool c.secure) (show _ < _ from (by decide : 5 < 16))
            have h6 := BlkAt.setCell h5 6 (.bool false) (show _ < _ from (by decide : 6 < 16))
            obtain ⟨x, hx⟩ : ∃ x : Ent, x = { name := c.name, value := c.value, quoted := false, domain := d, path := dp, secure := c.secure, httpOnly := false, persistent := true, hostOnly := al, exps := c.exps, crs := 0, las := 0, seq := 0 } := ⟨_, rfl⟩
            have HBz := Lib.hid (((((((HB5.out.setCell (p := ⟨w.heap.size + 1, 9, none⟩) (Nat.le_succ _) (.int .i64 c.exps)).setCell (p := ⟨w.heap.size + 1, 10, none⟩) (Nat.le_succ _) (.int .i64 0)).setCell (p := ⟨w.heap.size + 1, 7, none⟩) (Nat.le_succ _) (.bool true)).setCell (p := ⟨w.heap.size + 1, 1, none⟩) (Nat.le_succ _) (.string (bs c.value))).setCell (p := ⟨w.heap.size + 1, 2, none⟩) (Nat.le_succ _) (.bool false)).setCell (p := ⟨w.heap.size + 1, 5, none⟩) (Nat.le_succ _) (.bool c.secure)).setCell (p := ⟨w.heap.size + 1, 6, none⟩) (Nat.le_succ _) (.bool false))
            change BlkAt _ _ (encE { name := c.name, value := c.value, quoted := false, domain := d, path := dp, secure := c.secure, httpOnly := false, persistent := true, hostOnly := al, exps := c.exps, crs := 0, las := 0, seq := 0 }) at h6
            rw [← hx] at h6
            have HL := Lib.hid (loadAtE h6)
            have HT := Lib.hid (storeAtE x h6 rfl)
            have HZ := Lib.hid h6
            have HXx := Lib.hid hx
            clear h9 h10 h7 h1 h2 h5 h6 hx
            go_wp2_with (first | ((with_reducible refine wpL_load HL.out ?_ ?_); rfl) | ((with_reducible refine wpL_store HT.out ?_ ?_ ?_); rfl; rfl))
            refine newRet (R := newEnd t0 v0 (domType listed ss host c.domain) c dp s) (u := .bool false) (v := .nilIface) x HZ.out (by rfl) (by rfl) (by rfl) ?_ HBz.out (Nat.le_succ _)
            rw [HXx.out]
            exact newEnd_keep HE.out hend.out PO.out
          · have hend : Hid (endOf c s = none) := by rw [Hid, endOf, if_neg (show ¬ c.age < 0 by have := HA.out; omega), if_neg (show ¬ 0 < c.age by have := HA2.out; omega), if_neg HE0.out, if_neg (show ¬ s < c.exps by omega)]
            rw [decide_eq_false hs3]
            obtain ⟨x, hx⟩ : ∃ x : Ent, x = { name := c.name, value := [], quoted := false, domain := d, path := dp, secure := false, httpOnly := false, persistent := false, hostOnly := al, exps := 0, crs := 0, las := 0, seq := 0 } := ⟨_, rfl⟩
            have h6 : BlkAt w4 (w.heap.size + 1) (encE x) := by rw [hx]; exact HY5.out
            have HL := Lib.hid (loadAtE h6)
            have HT := Lib.hid (storeAtE x h6 rfl)
            have HZ := Lib.hid h6
            have HXx := Lib.hid hx
            clear h6 hx
            go_wp2_with (first | ((with_reducible refine wpL_load HL.out ?_ ?_); rfl) | ((with_reducible refine wpL_store HT.out ?_ ?_ ?_); rfl; rfl))
            exact newRet (R := newEnd t0 v0 (domType listed ss host c.domain) c dp s) (u := .bool true) (v := .nilIface) x HZ.out (by rfl) (by rfl) (by rfl)
              (newEnd_remove HE.out hend.out _ (by rw [HXx.out]) (by rw [HXx.out]) (by rw [HXx.out]; exact PO.out)) HB5.out (Nat.le_succ _)


theorem newEntry_any (jb cb : Nat) (c : Ck) (s : Int) (dp host : List UInt8) (w : World) (t0 : TypeId) (v0 : Value) (hg : w.cell? ⟨0, 0, none⟩ = some (.iface t0 v0))
    (hc : CkAt w cb c) (hok : CkOk c) (hs0 : 0 ≤ s) (hs1 : s ≤ 4294967296)
    (h58 : 58 ∉ host) (h37 : 37 ∉ host) (hh : host.length ≤ maxLen) (hdp : dp.length ≤ maxLen)
    (listed : Bool) (ss : List (List UInt8)) (hp : JarPsl w jb listed ss) (hn : ss.length ≤ maxLen) (hs : ∀ s ∈ ss, s.length ≤ maxLen) :
    Calls Tryz.prog 70 #[.pointer (some ⟨jb, 0, none⟩), .pointer (some ⟨cb, 0, none⟩), tm s 0, .string (bs dp), .string (bs host)] w
      fun e w' => newEnd t0 v0 (domType listed ss host c.domain) c dp s e ∧ Below w.heap.size w w' := by
  by_cases h1 : c.path = []
  · exact newEntry_empty jb cb c s dp host w t0 v0 hg h1 hc hok hs0 hs1 h58 h37 hh hdp listed ss hp hn hs
  · by_cases h2 : c.path.head? = some 47
    · exact newEntry_slash jb cb c s dp host w t0 v0 hg h2 hc hok hs0 hs1 h58 h37 hh hdp listed ss hp hn hs
    · exact newEntry_other jb cb c s dp host w t0 v0 hg ⟨h1, h2⟩ hc hok hs0 hs1 h58 h37 hh hdp listed ss hp hn hs
end Go.Proofs.YtckfgnbilcjdpaaGreatDoor
/- Maps with strings as keys, in memory. -/
namespace Go.Proofs.YtckfgnbilcjdpaaGreatDoor
open Go.RowKit
set_option maxRecDepth 100000

/-- A map's entries as pairs. -/
abbrev KV := List UInt8 × Value
/-- Block b is a map with these pairs, in the order in which they came. -/
structure MapMem (w : World) (b : Nat) (kvs : List KV) (es : Array MapEntry) (clock : Nat) : Prop where
  blk : w.heap[b]? = some (.map es clock)
  sh : es.toList.map (fun e => (e.key, e.val)) = kvs.map (fun p => (Value.string (bs p.1), p.2))
  born : ∀ e ∈ es.toList, e.born < clock
  nob : (es.toList.map MapEntry.born).Nodup
  nok : (kvs.map Prod.fst).Nodup

/-- What a map has at a key. -/
def look (kvs : List KV) (k : List UInt8) : Option Value := (kvs.find? fun p => decide (p.1 = k)).map Prod.snd
/-- A map behind a store. -/
def putKV (kvs : List KV) (k : List UInt8) (v : Value) : List KV :=
  if k ∈ kvs.map Prod.fst then kvs.map (fun p => if p.1 = k then (k, v) else p) else kvs ++ [(k, v)]
/-- A map behind a delete. -/
def delKV (kvs : List KV) (k : List UInt8) : List KV := kvs.filter fun p => decide (p.1 ≠ k)

theorem bs_beq (a b : List UInt8) : (bs a == bs b) = decide (a = b) := by
  rw [beq_toListBytes, bs_toList, bs_toList, toList_beq]

/-- Where a key stands. -/
def idxKV : List KV → List UInt8 → Nat → Option (Nat × Value)
  | [], _, _ => none
  | p :: r, k, i => if p.1 = k then some (i, p.2) else idxKV r k (i + 1)

theorem findNow_kv (k : List UInt8) : ∀ (es : List MapEntry) (kvs : List KV) (i : Nat), es.map (fun e => (e.key, e.val)) = kvs.map (fun p => (Value.string (bs p.1), p.2)) →
    Instr.findNow .string (.string (bs k)) es i = some (idxKV kvs k i)
  | [], [], _, _ => rfl
  | [], _ :: _, _, h => by simp at h
  | _ :: _, [], _, h => by simp at h
  | e :: es, p :: kvs, i, h => by
    simp only [List.map_cons, List.cons.injEq, Prod.mk.injEq] at h
    obtain ⟨⟨hk, hv⟩, hr⟩ := h
    simp only [Instr.findNow, hk, Instr.sameNow, idxKV]
    rw [show (bs k == bs p.1) = decide (p.1 = k) by rw [bs_beq, decide_eq_decide]; exact eq_comm]
    by_cases e : p.1 = k
    · simp [e, hv]
    · simp [e, findNow_kv k es kvs (i + 1) hr]

theorem run_findKey {w : World} (k : List UInt8) (es : List MapEntry) (kvs : List KV) (h : es.map (fun e => (e.key, e.val)) = kvs.map (fun p => (Value.string (bs p.1), p.2))) :
    (Instr.findKey 9 (.string (bs k)) es).run Tryz.prog w = .ok (idxKV kvs k 0) w := by
  simp only [Instr.findKey, Sem.run_bind, run_underlying Tryz.underlying9, Result.andThen, findNow_kv k es kvs 0 h, Sem.run_pure]

theorem run_checkKeyS {w : World} (em : Bool) (k : List UInt8) : (Instr.checkKey em 10000 9 (.string (bs k))).run Tryz.prog w = .ok () w := by
  rw [show (10000 : Nat) = 9999 + 1 from rfl, Instr.checkKey]
  simp only [Sem.run_bind, run_underlying Tryz.underlying9, Result.andThen, Sem.run_pure]

theorem idxKV_shift (k : List UInt8) : ∀ (kvs : List KV) (i : Nat), idxKV kvs k i = (idxKV kvs k 0).map fun q => (q.1 + i, q.2)
  | [], _ => rfl
  | p :: r, i => by
    simp only [idxKV]
    split
    · simp
    · rw [idxKV_shift k r (i + 1), idxKV_shift k r 1]
      cases idxKV r k 0 <;> simp; omega

theorem idxKV_look (k : List UInt8) : ∀ (kvs : List KV) (i : Nat), (idxKV kvs k i).map Prod.snd = look kvs k
  | [], _ => rfl
  | p :: r, i => by
    simp only [idxKV, look, List.find?_cons]
    by_cases e : p.1 = k
    · simp [e]
    · simp only [e, if_false, decide_false]; exact idxKV_look k r (i + 1)

theorem idxKV_some {k : List UInt8} : ∀ {kvs : List KV} {j : Nat} {v : Value}, idxKV kvs k 0 = some (j, v) → kvs[j]? = some (k, v)
  | [], _, _, h => by cases h
  | p :: r, j, v, h => by
    simp only [idxKV] at h
    split at h
    · rename_i e; cases h; simp [← e]
    · rw [idxKV_shift] at h
      cases hq : idxKV r k 0 with
      | none => rw [hq] at h; cases h
      | some q =>
        rw [hq] at h
        obtain ⟨j', v'⟩ := q
        simp only [Option.map_some, Option.some.injEq, Prod.mk.injEq] at h
        obtain ⟨rfl, rfl⟩ := h
        simpa using idxKV_some hq

theorem idxKV_none {k : List UInt8} : ∀ {kvs : List KV} {i : Nat}, idxKV kvs k i = none → k ∉ kvs.map Prod.fst
  | [], _, _ => by simp
  | p :: r, i, h => by
    simp only [idxKV] at h
    split at h
    · cases h
    · rename_i e
      rw [List.map_cons, List.mem_cons]
      rintro (h' | h')
      · exact e h'.symm
      · exact idxKV_none h h'

theorem MapMem.lookup_ok {w : World} {b : Nat} {kvs : List KV} {es : Array MapEntry} {clock : Nat} (h : MapMem w b kvs es clock) {t elem : TypeId} {z : Value} (ht : Tryz.prog.underlying t = some (.map 9 elem))
    (hz : ∀ w, (zeroValue elem).run Tryz.prog w = .ok z w) (k : List UInt8) :
    (Instr.lookup t (.map (some b)) (.string (bs k)) true).run Tryz.prog w = .ok (.tuple #[(look kvs k).getD z, .bool (look kvs k).isSome]) w := by
  have hf := run_findKey (w := w) k es.toList kvs h.sh
  simp only [Instr.lookup, Sem.run_bind, run_underlying ht, Result.andThen, MapKept.run_getObj_map h.blk, Sem.run_pure, run_checkKeyS, hf]
  rw [← idxKV_look k kvs 0]
  cases idxKV kvs k 0 <;> simp [hz]

theorem MapMem.lookup {w : World} {b : Nat} {kvs : List KV} {es : Array MapEntry} {clock : Nat} (h : MapMem w b kvs es clock) {t elem : TypeId} {z : Value} (ht : Tryz.prog.underlying t = some (.map 9 elem))
    (hz : ∀ w, (zeroValue elem).run Tryz.prog w = .ok z w) (k : List UInt8) :
    (Instr.lookup t (.map (some b)) (.string (bs k)) false).run Tryz.prog w = .ok ((look kvs k).getD z) w := by
  have hf := run_findKey (w := w) k es.toList kvs h.sh
  simp only [Instr.lookup, Sem.run_bind, run_underlying ht, Result.andThen, MapKept.run_getObj_map h.blk, Sem.run_pure, run_checkKeyS, hf]
  rw [← idxKV_look k kvs 0]
  cases idxKV kvs k 0 <;> simp [hz]

theorem MapMem.len {w : World} {b : Nat} {kvs : List KV} {es : Array MapEntry} {clock : Nat} (h : MapMem w b kvs es clock) {t elem ty : TypeId} (ht : Tryz.prog.underlying t = some (.map 9 elem)) :
    (Builtin.len_ #[t] ty #[.map (some b)]).run Tryz.prog w = .ok (.int .i64 kvs.length) w := by
  have hl : es.size = kvs.length := by have := congrArg List.length h.sh; simpa using this
  simp [Builtin.len_, Sem.run_bind, run_underlying ht, Result.andThen, MapKept.run_getObj_map h.blk, goInt, hl]

theorem nodup_inj {α : Type} {l : List α} (h : l.Nodup) {i j : Nat} {x : α} (hi : l[i]? = some x) (hj : l[j]? = some x) : i = j := by
  obtain ⟨l1, e1⟩ := List.getElem?_eq_some_iff.1 hi
  obtain ⟨l2, e2⟩ := List.getElem?_eq_some_iff.1 hj
  rcases Nat.lt_trichotomy i j with h1 | h1 | h1
  · exact absurd (e1.trans e2.symm) (List.pairwise_iff_getElem.1 h i j l1 l2 h1)
  · exact h1
  · exact absurd (e2.trans e1.symm) (List.pairwise_iff_getElem.1 h j i l2 l1 h1)

/-- The world with another map in block b. -/
def setMap (w : World) (b : Nat) (es : Array MapEntry) (clock : Nat) : World := { w with heap := w.heap.setIfInBounds b (.map es clock) }

theorem nodup_snoc {l : List Nat} {x : Nat} (h : l.Nodup) (hx : x ∉ l) : (l ++ [x]).Nodup := by
  rw [List.nodup_append]
  exact ⟨h, by simp, fun a ha b hb => by rw [List.mem_singleton] at hb; subst hb; rintro rfl; exact hx ha⟩
theorem nodup_snocS {l : List (List UInt8)} {x : List UInt8} (h : l.Nodup) (hx : x ∉ l) : (l ++ [x]).Nodup := by
  rw [List.nodup_append]
  exact ⟨h, by simp, fun a ha b hb => by rw [List.mem_singleton] at hb; subst hb; rintro rfl; exact hx ha⟩

theorem setMap_grown (w : World) (b : Nat) (es : Array MapEntry) (clock : Nat) : w.grownBy (setMap w b es clock) (some b) :=
  ⟨rfl, rfl, rfl, by simp [setMap], fun k _ hk => by
    show (w.heap.setIfInBounds b _)[k]? = w.heap[k]?
    rw [Array.getElem?_setIfInBounds_ne (fun e => hk (by rw [e]))]⟩
theorem setMap_size (w : World) (b : Nat) (es : Array MapEntry) (clock : Nat) : (setMap w b es clock).heap.size = w.heap.size := by simp [setMap]

theorem setMap_at {w : World} {b : Nat} {es : Array MapEntry} {clock : Nat} {o' : Obj} (h : w.heap[b]? = some o') : (setMap w b es clock).heap[b]? = some (.map es clock) := by
  have hlt := (Array.getElem?_eq_some_iff.1 h).1
  show (w.heap.setIfInBounds b _)[b]? = some _
  rw [Array.getElem?_setIfInBounds_self_of_lt hlt]

theorem putKV_keys (kvs : List KV) (k : List UInt8) (v : Value) (h : k ∈ kvs.map Prod.fst) : (putKV kvs k v).map Prod.fst = kvs.map Prod.fst := by
  rw [putKV, if_pos h, List.map_map]
  apply List.map_congr_left
  intro p _
  simp only [Function.comp]
  split
  · rename_i e; exact e.symm
  · rfl

theorem map_modify_kv {es : Array MapEntry} {kvs : List KV} {j : Nat} {k : List UInt8} {v : Value} (hsh : es.toList.map (fun e => (e.key, e.val)) = kvs.map (fun p => (Value.string (bs p.1), p.2)))
    (nok : (kvs.map Prod.fst).Nodup) {v0 : Value} (hj : kvs[j]? = some (k, v0)) :
    (es.modify j fun e => { e with key := .string (bs k), val := v }).toList.map (fun e => (e.key, e.val)) = (putKV kvs k v).map (fun p => (Value.string (bs p.1), p.2)) := by
  have hk : k ∈ kvs.map Prod.fst := List.mem_map.2 ⟨_, List.mem_of_getElem? hj, rfl⟩
  rw [putKV, if_pos hk]
  apply List.ext_getElem?
  intro i
  have hi : (es.toList.map (fun e => (e.key, e.val)))[i]? = (kvs.map (fun p => (Value.string (bs p.1), p.2)))[i]? := by rw [hsh]
  simp only [List.getElem?_map, Array.getElem?_toList] at hi ⊢
  rw [Array.getElem?_modify]
  by_cases e : j = i
  · subst e
    rw [if_pos rfl]
    rw [hj] at hi ⊢
    cases hq : es[j]? with
    | none => rw [hq] at hi; cases hi
    | some x => simp
  · rw [if_neg e, hi]
    cases hq : kvs[i]? with
    | none => rfl
    | some p =>
      simp only [Option.map_some, Option.some.injEq]
      rw [if_neg]
      intro hp
      have h1 : (kvs.map Prod.fst)[i]? = some k := by rw [List.getElem?_map, hq, Option.map_some, hp]
      have h2 : (kvs.map Prod.fst)[j]? = some k := by rw [List.getElem?_map, hj]; rfl
      exact e (nodup_inj nok h2 h1)

theorem MapMem.update_new {w : World} {b : Nat} {kvs : List KV} {es : Array MapEntry} {clock : Nat} (h : MapMem w b kvs es clock) {t elem : TypeId} (ht : Tryz.prog.underlying t = some (.map 9 elem)) {k : List UInt8} (v : Value) (hk : k ∉ kvs.map Prod.fst) :
    (Instr.mapUpdate t (.map (some b)) (.string (bs k)) v).run Tryz.prog w = .ok () (setMap w b (es.push { key := .string (bs k), val := v, born := clock }) (clock + 1)) ∧
      MapMem (setMap w b (es.push { key := .string (bs k), val := v, born := clock }) (clock + 1)) b (kvs ++ [(k, v)]) (es.push { key := .string (bs k), val := v, born := clock }) (clock + 1) := by
  have hf := run_findKey (w := w) k es.toList kvs h.sh
  cases hi : idxKV kvs k 0 with
  | some q =>
    obtain ⟨j, v0⟩ := q
    exact absurd (List.mem_map.2 ⟨_, List.mem_of_getElem? (idxKV_some hi), rfl⟩) hk
  | none =>
    rw [hi] at hf
    refine ⟨?_, ?_⟩
    · simp only [Instr.mapUpdate, Sem.run_bind, run_underlying ht, Result.andThen, MapKept.run_getObj_map h.blk, run_checkKeyS, hf, MapKept.run_setObj_map _ h.blk, setMap]
    · refine ⟨setMap_at h.blk, ?_, ?_, ?_, ?_⟩
      · simp [h.sh]
      · intro e he
        simp only [Array.toList_push, List.mem_append, List.mem_singleton] at he
        rcases he with he | rfl
        · have := h.born e he; omega
        · exact Nat.lt_succ_self _
      · simp only [Array.toList_push, List.map_append, List.map_cons, List.map_nil]
        refine nodup_snoc h.nob ?_
        intro hm
        obtain ⟨e, he, hb⟩ := List.mem_map.1 hm
        have := h.born e he; omega
      · rw [List.map_append]; exact nodup_snocS h.nok hk

theorem MapMem.idx {w : World} {b : Nat} {kvs : List KV} {es : Array MapEntry} {clock : Nat} (h : MapMem w b kvs es clock) {k : List UInt8} {j : Nat} {v0 : Value} (hj : kvs[j]? = some (k, v0)) : idxKV kvs k 0 = some (j, v0) := by
  cases hi : idxKV kvs k 0 with
  | none => exact absurd (List.mem_map.2 ⟨_, List.mem_of_getElem? hj, rfl⟩) (idxKV_none hi)
  | some q =>
    obtain ⟨i, v⟩ := q
    have h1 := idxKV_some hi
    have e := nodup_inj h.nok (show (kvs.map Prod.fst)[i]? = some k by rw [List.getElem?_map, h1]; rfl) (show (kvs.map Prod.fst)[j]? = some k by rw [List.getElem?_map, hj]; rfl)
    subst e
    rw [hj] at h1
    rw [show v0 = v from (Prod.mk.inj (Option.some.inj h1)).2]

theorem MapMem.update_at {w : World} {b : Nat} {kvs : List KV} {es : Array MapEntry} {clock : Nat} (h : MapMem w b kvs es clock) {t elem : TypeId} (ht : Tryz.prog.underlying t = some (.map 9 elem)) {k : List UInt8} (v : Value) {j : Nat} {v0 : Value} (hj : kvs[j]? = some (k, v0)) :
    ∃ es', es'.toList.map MapEntry.born = es.toList.map MapEntry.born ∧ (Instr.mapUpdate t (.map (some b)) (.string (bs k)) v).run Tryz.prog w = .ok () (setMap w b es' clock) ∧ MapMem (setMap w b es' clock) b (putKV kvs k v) es' clock := by
  have hf := run_findKey (w := w) k es.toList kvs h.sh
  have hk : k ∈ kvs.map Prod.fst := List.mem_map.2 ⟨_, List.mem_of_getElem? hj, rfl⟩
  rw [h.idx hj] at hf
  have hkey : (((es[j]?).map (·.key)).getD (.string (bs k))) = .string (bs k) := by
    have hx : (es.toList.map (fun e => (e.key, e.val)))[j]? = (kvs.map (fun p => (Value.string (bs p.1), p.2)))[j]? := by rw [h.sh]
    simp only [List.getElem?_map, Array.getElem?_toList, hj, Option.map_some] at hx
    cases hq : es[j]? with
    | none => rfl
    | some x => rw [hq] at hx; simp at hx; simp [hx.1]
  have hstay : (Instr.keyThatStays (.string (bs k)) (.string (bs k))).run Tryz.prog w = .ok (.string (bs k)) w := by
    have : Instr.sameBits 10000 (.string (bs k)) (.string (bs k)) = true := by
      simp [Instr.sameBits, bs_beq]
    simp only [Instr.keyThatStays, this, if_true, Sem.run_pure]
  have hborn : (es.modify j fun e => { e with key := .string (bs k), val := v }).toList.map MapEntry.born = es.toList.map MapEntry.born := by
    apply List.ext_getElem?
    intro i
    simp only [List.getElem?_map, Array.getElem?_toList, Array.getElem?_modify]
    split <;> cases es[i]? <;> rfl
  refine ⟨es.modify j fun e => { e with key := .string (bs k), val := v }, hborn, ?_, ?_⟩
  · simp only [Instr.mapUpdate, Sem.run_bind, run_underlying ht, Result.andThen, MapKept.run_getObj_map h.blk, run_checkKeyS, hf, hkey, hstay, MapKept.run_setObj_map _ h.blk, setMap]
  · refine ⟨setMap_at h.blk, map_modify_kv h.sh h.nok hj, ?_, ?_, ?_⟩
    · intro e he
      have : e.born ∈ es.toList.map MapEntry.born := by rw [← hborn]; exact List.mem_map.2 ⟨e, he, rfl⟩
      obtain ⟨x, hx, hxb⟩ := List.mem_map.1 this
      rw [← hxb]; exact h.born x hx
    · rw [hborn]; exact h.nob
    · rw [putKV_keys kvs k v hk]; exact h.nok

/-- A store, whether the key is there or not. -/
theorem MapMem.update {w : World} {b : Nat} {kvs : List KV} {es : Array MapEntry} {clock : Nat} (h : MapMem w b kvs es clock) {t elem : TypeId} (ht : Tryz.prog.underlying t = some (.map 9 elem)) (k : List UInt8) (v : Value) :
    ∃ es' clock', (Instr.mapUpdate t (.map (some b)) (.string (bs k)) v).run Tryz.prog w = .ok () (setMap w b es' clock') ∧ MapMem (setMap w b es' clock') b (putKV kvs k v) es' clock' := by
  cases hi : idxKV kvs k 0 with
  | none =>
    have hk := idxKV_none hi
    obtain ⟨h1, h2⟩ := h.update_new ht v hk
    rw [show putKV kvs k v = kvs ++ [(k, v)] by rw [putKV, if_neg hk]]
    exact ⟨_, _, h1, h2⟩
  | some q =>
    obtain ⟨j, v0⟩ := q
    obtain ⟨es', _, h1, h2⟩ := h.update_at ht v (idxKV_some hi)
    exact ⟨_, _, h1, h2⟩

theorem eraseIdx_filter {k : List UInt8} : ∀ {kvs : List KV} {j : Nat} {v0 : Value}, (kvs.map Prod.fst).Nodup → kvs[j]? = some (k, v0) → kvs.eraseIdx j = delKV kvs k
  | [], _, _, _, h => by simp at h
  | p :: r, 0, v0, hn, h => by
    simp only [List.getElem?_cons_zero, Option.some.injEq] at h
    subst h
    simp only [List.map_cons, List.nodup_cons] at hn
    simp only [List.eraseIdx_cons_zero, delKV]
    rw [List.filter_cons_of_neg (by simp), List.filter_eq_self.2]
    intro q hq
    simp only [ne_eq, decide_not, Bool.not_eq_true', decide_eq_false_iff_not]
    intro e
    exact hn.1 (List.mem_map.2 ⟨q, hq, e⟩)
  | p :: r, j + 1, v0, hn, h => by
    simp only [List.getElem?_cons_succ] at h
    simp only [List.map_cons, List.nodup_cons] at hn
    have hp : p.1 ≠ k := fun e => hn.1 (by rw [e]; exact List.mem_map.2 ⟨_, List.mem_of_getElem? h, rfl⟩)
    simp only [List.eraseIdx_cons_succ, delKV]
    rw [List.filter_cons_of_pos (by simpa using hp), eraseIdx_filter hn.2 h]; rfl

theorem delKV_absent {k : List UInt8} {kvs : List KV} (h : k ∉ kvs.map Prod.fst) : delKV kvs k = kvs := by
  rw [delKV, List.filter_eq_self]
  intro q hq
  simp only [ne_eq, decide_not, Bool.not_eq_true', decide_eq_false_iff_not]
  intro e
  exact h (List.mem_map.2 ⟨q, hq, e⟩)

theorem MapMem.delete_at {w : World} {b : Nat} {kvs : List KV} {es : Array MapEntry} {clock : Nat} (h : MapMem w b kvs es clock) {t elem u ty : TypeId} (ht : Tryz.prog.underlying t = some (.map 9 elem)) {k : List UInt8} {j : Nat} {v0 : Value} (hj : kvs[j]? = some (k, v0)) :
    (Builtin.delete_ #[t, u] ty #[.map (some b), .string (bs k)]).run Tryz.prog w = .ok (.tuple #[]) (setMap w b (es.eraseIdxIfInBounds j) clock) ∧ MapMem (setMap w b (es.eraseIdxIfInBounds j) clock) b (delKV kvs k) (es.eraseIdxIfInBounds j) clock ∧
      (es.eraseIdxIfInBounds j).toList = es.toList.eraseIdx j := by
  have hf := run_findKey (w := w) k es.toList kvs h.sh
  rw [h.idx hj] at hf
  have hjl : j < es.size := by
    have hl : es.size = kvs.length := by have := congrArg List.length h.sh; simpa using this
    have := (List.getElem?_eq_some_iff.1 hj).1; omega
  have hel : (es.eraseIdxIfInBounds j).toList = es.toList.eraseIdx j := by
    rw [Array.eraseIdxIfInBounds_eq, dif_pos hjl, Array.toList_eraseIdx]
  refine ⟨?_, ?_, hel⟩
  · simp [Builtin.delete_, Sem.run_bind, run_underlying ht, Result.andThen, MapKept.run_getObj_map h.blk, run_checkKeyS, hf, MapKept.run_setObj_map _ h.blk, setMap]
  · refine ⟨setMap_at h.blk, ?_, ?_, ?_, ?_⟩
    · rw [hel, ← eraseIdx_filter h.nok hj, ChangeMaps.map_eraseIdx, ChangeMaps.map_eraseIdx, h.sh]
    · intro e he
      rw [hel] at he
      exact h.born e (List.mem_of_mem_eraseIdx he)
    · rw [hel, ChangeMaps.map_eraseIdx]; exact h.nob.sublist (List.eraseIdx_sublist _ _)
    · rw [← eraseIdx_filter h.nok hj, ChangeMaps.map_eraseIdx]; exact h.nok.sublist (List.eraseIdx_sublist _ _)

theorem MapMem.delete {w : World} {b : Nat} {kvs : List KV} {es : Array MapEntry} {clock : Nat} (h : MapMem w b kvs es clock) {t elem u ty : TypeId} (ht : Tryz.prog.underlying t = some (.map 9 elem)) (k : List UInt8) :
    ∃ es', (Builtin.delete_ #[t, u] ty #[.map (some b), .string (bs k)]).run Tryz.prog w = .ok (.tuple #[]) (setMap w b es' clock) ∧ MapMem (setMap w b es' clock) b (delKV kvs k) es' clock := by
  cases hi : idxKV kvs k 0 with
  | none =>
    have hf := run_findKey (w := w) k es.toList kvs h.sh
    have hk := idxKV_none hi
    rw [hi] at hf
    refine ⟨es, ?_, ?_⟩
    · simp [Builtin.delete_, Sem.run_bind, run_underlying ht, Result.andThen, MapKept.run_getObj_map h.blk, run_checkKeyS, hf, MapKept.run_setObj_map _ h.blk, setMap]
    · refine ⟨setMap_at h.blk, ?_, h.born, h.nob, ?_⟩ <;> rw [delKV_absent hk]
      · exact h.sh
      · exact h.nok
  | some q =>
    obtain ⟨j, v0⟩ := q
    obtain ⟨h1, h2, _⟩ := h.delete_at (u := u) (ty := ty) ht (idxKV_some hi)
    exact ⟨_, h1, h2⟩
end Go.Proofs.YtckfgnbilcjdpaaGreatDoor
