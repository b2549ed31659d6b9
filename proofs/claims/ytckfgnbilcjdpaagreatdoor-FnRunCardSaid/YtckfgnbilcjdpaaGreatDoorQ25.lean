/- A cookie that is set is sent again: alive. -/
import Derived.Test.YtckfgnbilcjdpaaGreatDoorQ09
import Derived.Test.YtckfgnbilcjdpaaGreatDoorQ21
namespace Go.Proofs.YtckfgnbilcjdpaaGreatDoor
open Go.RowKit Go.Sort
set_option maxRecDepth 100000

instance : Inhabited SlV := ⟨⟨none, 0, 0⟩⟩
theorem results_cell {fn : Func} {p : Tmp} {ty : TypeId} (h : fn.results = #[.cell p ty]) (tmps : Array Value) (P : Program) (w : World) :
    (results fn tmps).run P w = ((asAddr (tmps.getD p undef)).run P w).andThen fun a w₁ => (loadVar ty a).run P w₁ := by
  simp only [results, h]
  simp [Sem.run_bind, Result.andThen]
theorem res_cell {fn : Func} {p : Tmp} {ty : TypeId} (h : fn.results = #[.cell p ty]) {n : Nat} (ha : ∀ w, (isAgg ty).run Tryz.prog w = .ok true w) (hz : ∀ w, (Go.sizeOf ty).run Tryz.prog w = .ok n w) {w : World} {b : Nat} {cs : List Value} (hb : RowAt w b 0 cs) (hn : cs.length = n) {tmps : Array Value} (h1 : tmps.getD p undef = .pointer (some ⟨b, 0, none⟩)) :
    (results fn tmps).run Tryz.prog w = .ok (.agg cs.toArray) w := by
  have hl := loadVar_agg ha hz hb hn
  rw [results_cell h, h1]
  simp only [asAddr, Sem.run_pure, Result.andThen, hl]

set_option maxHeartbeats 4000000 in
theorem lawSet_any (at' : Int) (sch host path : List UInt8) (c : Ck) (w : World) :
    Calls Tryz.prog 34 #[.int .i64 at', .agg #[.string (bs sch), .string (bs host), .string (bs path)], .agg (encI c).toArray] w fun e w' => ∃ g, w.heap.size ≤ g ∧ e = .returned (.agg (encS ⟨true, at', sch, host, path, [c]⟩ (.slice (some ⟨g, 0, none⟩) 1 1)).toArray) ∧ BlkAt w' g (encI c) ∧ RowKit.Below w.heap.size w w' := by
  simp only [encI, encS]
  go_enter Tryz.func34, Tryz.ntmps34
  go_wp2_with fail
  refine bodyPost_ret (res_cell (p := 6) (ty := 40) rfl Tryz.isAgg40 Tryz.sizeOf40 (((BlkAt.made _ _ 40).alloc _).row) rfl ?_) rfl ?_
  · simp
  · refine ⟨w.heap.size + 3, by omega, rfl, ?_, ((((Below.refl _ _).alloc (Nat.le_refl _) _).alloc (by simp) _).alloc (by simp; omega) _).alloc (by simp; omega) _⟩
    have hq := BlkAt.made (((w.alloc (Obj.cells #[Value.string (bs sch), Value.string (bs host), Value.string (bs path)] 37)).alloc (Obj.cells (encI c).toArray 47)).alloc (Obj.cells (encS ⟨true, at', sch, host, path, [c]⟩ (.slice (some ⟨w.heap.size + 1 + 1 + 1, 0, none⟩) 1 1)).toArray 40)) (encI c) 47
    rw [show (((w.alloc (Obj.cells #[Value.string (bs sch), Value.string (bs host), Value.string (bs path)] 37)).alloc (Obj.cells (encI c).toArray 47)).alloc (Obj.cells (encS ⟨true, at', sch, host, path, [c]⟩ (.slice (some ⟨w.heap.size + 1 + 1 + 1, 0, none⟩) 1 1)).toArray 40)).heap.size = w.heap.size + 3 by simp] at hq
    exact hq

set_option maxHeartbeats 4000000 in
theorem lawAsk_any (at' : Int) (sch host path : List UInt8) (w : World) :
    Calls Tryz.prog 35 #[.int .i64 at', .agg #[.string (bs sch), .string (bs host), .string (bs path)]] w fun e w' => e = .returned (.agg (encS ⟨false, at', sch, host, path, []⟩ (.slice none 0 0)).toArray) ∧ RowKit.Below w.heap.size w w' := by
  simp only [encS]
  go_enter Tryz.func35, Tryz.ntmps35
  go_wp2_with fail
  refine bodyPost_ret (res_cell (p := 4) (ty := 40) rfl Tryz.isAgg40 Tryz.sizeOf40 (BlkAt.made _ _ 40).row rfl ?_) rfl ?_
  · simp
  · exact ⟨rfl, (((Below.refl _ _).alloc (Nat.le_refl _) _).alloc (by simp) _)⟩

set_option maxHeartbeats 4000000 in
/-- last, where one step asks. -/
theorem last_one (listed : Bool) (ss : List (List UInt8)) (A : Option Addr) (cap : Nat) (v2 : Value) (l : List (St × Value)) (w : World) (t0 : TypeId) (v0 : Value)
    (hg : w.cell? ⟨0, 0, none⟩ = some (.iface t0 v0)) (hss : CellsAt w A (strCells ss)) (hn : ss.length ≤ maxLen) (hs : ∀ s ∈ ss, s.length ≤ maxLen)
    (hst : StSl w v2 l) (hok : ∀ p ∈ l, StOk p.1) (hl : l.length ≤ 64) (x : List Ent) (hx : expAt listed ss (l.map Prod.fst) l.length = [x]) :
    Calls Tryz.prog 33 #[.bool listed, .slice A ss.length cap, v2] w fun e w' => ∃ v d, e = .returned v ∧ d.Perm x ∧ RowOf w' w.heap.size 68 encPr 2 v d ∧ RowKit.Below w.heap.size w w' := by
  have hcon := run_any listed ss A cap v2 l w t0 v0 hg hss hn hs hst hok hl
  have HC := Lib.hid hcon; clear hcon
  have HX := Lib.hid hx; clear hx
  clear hg hss hs hst hok
  go_enter Tryz.func33, Tryz.ntmps33
  go_wp2_with fail
  refine HC.out.mono ?_
  rintro e w1 ⟨v, outs, vs, rfl, ho, hr, hvl, hvs, hb⟩
  rw [HX.out] at ho
  obtain ⟨d, rfl⟩ : ∃ d, outs = [d] := List.length_eq_one_iff.1 ho.1
  obtain ⟨sv, rfl⟩ : ∃ sv, vs = [sv] := List.length_eq_one_iff.1 hvl
  have hd : d.Perm x := (ho.2 0 (by simp) (by simp)).1
  have hrd := hvs 0 (by simp) (by simp)
  simp only [List.getElem_cons_zero] at hrd
  rcases hr.form with ⟨_, h⟩ | ⟨g, cap', rfl, _, _⟩
  · cases h
  have hH := (RowOf.holds (enc := encSV) (k := 1) (fun _ => rfl) (by decide) hr).2.1
  have hc := (hH.cell (i := 0) (c := 0) (by simp) (by decide)).1
  have hc' : w1.cell? ⟨g, 0, none⟩ = some sv.val := hc
  have HR := Lib.hid hrd
  have HP := Lib.hid hd
  have HB := Lib.hid hb
  clear ho hr hvl hvs hb hd hrd hH hc
  unfold SlV.val at hc'
  go_wp2
  go_ret
  exact ⟨_, d, rfl, HP.out, HR.out, HB.out⟩

theorem eqPair (a b c d : List UInt8) (w : World) : (binOp .eql 68 (.agg #[.string (bs a), .string (bs b)]) (.agg #[.string (bs c), .string (bs d)])).run Tryz.prog w = .ok (.bool (a == c && b == d)) w := by
  have u9 := Tryz.underlying9
  have a9 := Tryz.isAgg9
  have z9 := Tryz.sizeOf9
  have hS : Tryz.prog.underlying 68 = some (.struct (Tryz.prog.fieldsOf 68)) := by kernel_rfl
  have hp : Tryz.prog.stoodInHeld 68 = false := by kernel_rfl
  rw [run_eql_struct, show (10000 : Nat) = 9999 + 1 from rfl, run_equalIn_agg w 9999 68 _ _ hS hp]
  simp only [Program.fieldsOf, Tryz.underlying68]
  go_simp
  by_cases h1 : a = c <;> by_cases h2 : b = d <;> simp [h1, h2]
theorem guardPair (x y : Operand) (a b c d : List UInt8) (w : World) : (eqGuard .eql 68 x y (.agg #[.string (bs a), .string (bs b)]) (.agg #[.string (bs c), .string (bs d)])).run Tryz.prog w = .ok () w :=
  run_eqGuard_agg w .eql 68 x y _ _ (by kernel_rfl)

def aliveHost : List UInt8 := [119, 119, 119, 46, 101, 120, 97, 109, 112, 108, 101, 46, 111, 114, 103]
def aliveCk : Ck := ⟨[110], [118], [], [], 0, 0, false⟩
def aliveSet : St := ⟨true, 1, httpB, aliveHost, [47], [aliveCk]⟩
def aliveAsk : St := ⟨false, 2, httpB, aliveHost, [47], []⟩
theorem alive_exp : (expAt false [] [aliveSet, aliveAsk] 2).map (List.map fun e => (e.name, e.value)) = [[([110], [118])]] := by decide +kernel
theorem alive_host : isHostB aliveHost = true ∧ hostPart aliveHost = aliveHost ∧ aliveHost.map lowB = aliveHost := by decide +kernel
theorem alive_ok (b : Bool) (t : Int) (h0 : 0 ≤ t) (h1 : t ≤ 4294967296) (cs : List Ck) (hc : cs = [] ∨ cs = [aliveCk]) : StOk ⟨b, t, httpB, aliveHost, [47], cs⟩ := by
  obtain ⟨a1, a2, a3⟩ := alive_host
  refine ⟨h0, h1, ?_, ?_, ?_, (by decide : aliveHost.length ≤ 2147483647), (by decide : [(47 : UInt8)].length ≤ 2147483647), ?_, ?_⟩
  · show GoodHost (hostPart aliveHost); rw [a2]; exact host_good a1
  · show HostOf aliveHost (hostPart aliveHost); rw [a2]; exact Or.inl rfl
  · show EntDom ((hostPart aliveHost).map lowB); rw [a2, a3]; exact ⟨(host_full a1).last, host_local a1, host_loop a1⟩
  · rcases hc with rfl | rfl
    · exact (by decide : (0 : Nat) ≤ 64)
    · exact (by decide : (1 : Nat) ≤ 64)
  · intro c h
    rcases hc with rfl | rfl
    · cases h
    · rw [List.mem_singleton] at h; subst h
      exact ⟨⟨by decide, by decide, by decide, ⟨by decide, by decide, by decide, Or.inl rfl, by decide, by decide⟩⟩, Or.inl rfl⟩

theorem cells3 {w w' : World} {b : Nat} {u0 u1 u2 : Value} (hb : RowKit.Below w.heap.size w w') (h : w.cell? ⟨b, 0, none⟩ = some u0 ∧ w.cell? ⟨b, 1, none⟩ = some u1 ∧ w.cell? ⟨b, 2, none⟩ = some u2) :
    w'.cell? ⟨b, 0, none⟩ = some u0 ∧ w'.cell? ⟨b, 1, none⟩ = some u1 ∧ w'.cell? ⟨b, 2, none⟩ = some u2 := by
  have hl : b < w.heap.size := World.block_lt_of_cell? w _ h.1
  exact ⟨by rw [hb.cell (show (⟨b, 0, none⟩ : Addr).block < _ from hl)]; exact h.1, by rw [hb.cell (show (⟨b, 1, none⟩ : Addr).block < _ from hl)]; exact h.2.1, by rw [hb.cell (show (⟨b, 2, none⟩ : Addr).block < _ from hl)]; exact h.2.2⟩

theorem aliveSet_call (w : World) : Calls Tryz.prog 34 #[.int .i64 1, .agg #[.string (bs httpB), .string (bs aliveHost), .string (bs [47])], .agg #[.string (bs [110]), .string (bs [118]), .string (bs []), .string (bs []), .int .i64 0, .int .i64 0, .bool false]] w
    fun e w' => ∃ g, w.heap.size ≤ g ∧ e = .returned (.agg #[.bool true, .int .i64 1, .string (bs httpB), .string (bs aliveHost), .string (bs [47]), .slice (some ⟨g, 0, none⟩) 1 1]) ∧ BlkAt w' g (encI aliveCk) ∧ RowKit.Below w.heap.size w w' :=
  lawSet_any 1 httpB aliveHost [47] aliveCk w
theorem aliveAsk_call (w : World) : Calls Tryz.prog 35 #[.int .i64 2, .agg #[.string (bs httpB), .string (bs aliveHost), .string (bs [47])]] w
    fun e w' => e = .returned (.agg #[.bool false, .int .i64 2, .string (bs httpB), .string (bs aliveHost), .string (bs [47]), .slice none 0 0]) ∧ RowKit.Below w.heap.size w w' :=
  lawAsk_any 2 httpB aliveHost [47] w

def alive12 (g : Nat) : List Value := [.bool true, .int .i64 1, .string (bs httpB), .string (bs aliveHost), .string (bs [47]), .slice (some ⟨g, 0, none⟩) 1 1, .bool false, .int .i64 2, .string (bs httpB), .string (bs aliveHost), .string (bs [47]), .slice none 0 0]
theorem alive_last (w : World) (g b cap : Nat) (t0 : TypeId) (v0 : Value) (hg : w.cell? ⟨0, 0, none⟩ = some (.iface t0 v0)) (hb : BlkAt w b (alive12 g)) (hc : BlkAt w g (encI aliveCk)) :
    Calls Tryz.prog 33 #[.bool false, .slice none 0 0, .slice (some ⟨b, 0, none⟩) 2 cap] w fun e w' => ∃ v x, e = .returned v ∧ x.name = [110] ∧ x.value = [118] ∧ RowOf w' w.heap.size 68 encPr 2 v [x] ∧ RowKit.Below w.heap.size w w' := by
  obtain ⟨xe, hxe, hn, hv⟩ : ∃ xe, expAt false [] [aliveSet, aliveAsk] 2 = [[xe]] ∧ xe.name = [110] ∧ xe.value = [118] := by
    have h := alive_exp
    obtain ⟨l, hl⟩ : ∃ l, l = expAt false [] [aliveSet, aliveAsk] 2 := ⟨_, rfl⟩
    rw [← hl] at h ⊢
    match l, h with
    | [[x]], h =>
      simp only [List.map_cons, List.map_nil, List.cons.injEq, Prod.mk.injEq, and_true] at h
      exact ⟨x, rfl, h.1, h.2⟩
  have hst : StSl w (.slice (some ⟨b, 0, none⟩) 2 cap) [(aliveSet, .slice (some ⟨g, 0, none⟩) 1 1), (aliveAsk, .slice none 0 0)] := by
    refine ⟨_, cap, rfl, Or.inr ⟨b, 0, rfl, ?_⟩, ?_⟩
    · intro i hi j u hj
      have h6 : j < 6 := by
        have := (List.getElem?_eq_some_iff.1 hj).1
        simpa [encS] using this
      match i, hi with
      | 0, _ =>
        refine (hb (0 + 0 * 6 + j) u ?_).1
        rw [show 0 + 0 * 6 + j = j by omega]
        have hp : (encS aliveSet (.slice (some ⟨g, 0, none⟩) 1 1))[j]? = some u := hj
        rw [show alive12 g = encS aliveSet (.slice (some ⟨g, 0, none⟩) 1 1) ++ encS aliveAsk (.slice none 0 0) from rfl, List.getElem?_append_left (by simpa [encS] using h6)]; exact hp
      | 1, _ =>
        refine (hb (0 + 1 * 6 + j) u ?_).1
        have hp : (encS aliveAsk (.slice none 0 0))[j]? = some u := hj
        rw [show alive12 g = encS aliveSet (.slice (some ⟨g, 0, none⟩) 1 1) ++ encS aliveAsk (.slice none 0 0) from rfl, List.getElem?_append_right (by simp [encS])]
        rw [show 0 + 1 * 6 + j - (encS aliveSet (.slice (some ⟨g, 0, none⟩) 1 1)).length = j by simp [encS]]; exact hp
    · intro p hp
      rcases List.mem_cons.1 hp with rfl | hp
      · refine ⟨_, 1, rfl, Or.inr ⟨g, 0, rfl, ?_⟩⟩
        intro j hj k u hk
        have hj' : j < 1 := hj
        match j, hj' with
        | 0, _ =>
          rw [show 0 + 0 * 7 + k = k by omega]
          exact (hc k u hk).1
      · rw [List.mem_singleton] at hp; subst hp
        exact ⟨none, 0, rfl, Or.inl rfl⟩
  refine (last_one false [] none 0 _ [(aliveSet, .slice (some ⟨g, 0, none⟩) 1 1), (aliveAsk, .slice none 0 0)] w t0 v0 hg (CellsAt.nil _ _) (by decide) (fun s h => by cases h) hst ?_ (by decide : 2 ≤ 64) [xe] hxe).mono ?_
  · intro p hp
    rcases List.mem_cons.1 hp with rfl | hp
    · exact alive_ok true 1 (by decide) (by decide) _ (Or.inr rfl)
    · rw [List.mem_singleton] at hp; subst hp
      exact alive_ok false 2 (by decide) (by decide) _ (Or.inl rfl)
  · rintro e w' ⟨v, d, rfl, hp, hr, hb⟩
    have hd := List.perm_singleton.1 hp
    subst hd
    exact ⟨v, xe, rfl, hn, hv, hr, hb⟩

set_option maxHeartbeats 8000000 in
theorem alive_any (w : World) (t0 : TypeId) (v0 : Value) (hg : w.cell? ⟨0, 0, none⟩ = some (.iface t0 v0)) :
    Calls Tryz.prog 8 #[] w fun e w' => e = .returned (.bool true) ∧ RowKit.Below w.heap.size w w' := by
  have HG := Lib.hid hg; clear hg
  go_enter Tryz.func8, Tryz.ntmps8
  go_upto_region 2 with (fail)
  have hA : BlkAt (w.alloc (.cells #[.string (bs httpB), .string (bs aliveHost), .string (bs [47])] 37)) w.heap.size [.string (bs httpB), .string (bs aliveHost), .string (bs [47])] := BlkAt.made _ _ _
  have hB0 : Hid (RowKit.Below w.heap.size w (w.alloc (.cells #[.string (bs httpB), .string (bs aliveHost), .string (bs [47])] 37))) := (Below.refl _ _).alloc (Nat.le_refl _) _
  change Code.wp _ _ _ _ (w.alloc (.cells #[.string (bs httpB), .string (bs aliveHost), .string (bs [47])] 37))
  generalize hwa : w.alloc (.cells #[.string (bs httpB), .string (bs aliveHost), .string (bs [47])] 37) = wa at hA hB0 ⊢
  clear hwa
  have hS0 : wa.cell? ⟨w.heap.size, 0, none⟩ = some (.string (bs httpB)) ∧ wa.cell? ⟨w.heap.size, 1, none⟩ = some (.string (bs aliveHost)) ∧ wa.cell? ⟨w.heap.size, 2, none⟩ = some (.string (bs [47])) := ⟨hA.cell 0 rfl, hA.cell 1 rfl, hA.cell 2 rfl⟩
  obtain ⟨s0, s1, s2⟩ := hS0
  go_region_held3 (fun w' => w'.cell? ⟨w.heap.size, 0, none⟩ = some (.string (bs httpB)) ∧ w'.cell? ⟨w.heap.size, 1, none⟩ = some (.string (bs aliveHost)) ∧ w'.cell? ⟨w.heap.size, 2, none⟩ = some (.string (bs [47]))) (first | go_keep | assumption | exact cells3 (by assumption) (by assumption))
    (first
      | (go_at_call 34; refine (aliveSet_call _).mono ?_; rintro e w1 ⟨g1, hg1, rfl, hk1, hb1⟩)
      | (go_at_call 35; refine (aliveAsk_call _).mono ?_; rintro e w2 ⟨rfl, hb2⟩)
      | (go_at_call 33
         have z1 := hB0.out.size
         have z2 : wa.heap.size ≤ w1.heap.size := hb1.size
         have z3 := hb2.size
         have hw2 : RowKit.Below w.heap.size w w2 := (hB0.out.drew.trans (hb1.mono z1)).trans (hb2.mono (Nat.le_trans z1 z2))
         have hl0 : (⟨0, 0, none⟩ : Addr).block < w.heap.size := World.block_lt_of_cell? w _ HG.out
         refine (alive_last _ g1 _ _ t0 v0 ?_ (BlkAt.made w2 (alive12 g1) 40) ((hk1.below hb2).alloc _)).mono ?_
         · exact (((hw2.alloc (by omega) _).cell hl0).trans HG.out)
         rintro e w3 ⟨v, x, rfl, hxn, hxv, hr, hb3⟩
         have hb4 : Hid (RowKit.Below w.heap.size w w3) := (hw2.alloc (by omega) _).trans (hb3.mono (by simp; omega))
         have hwa2 : RowKit.Below wa.heap.size wa w2 := ((Below.refl _ wa).drew.trans hb1).trans (hb2.mono z2)
         have hS3 := cells3 ((hwa2.alloc (Nat.le_trans z2 z3) _).trans (hb3.mono (by simp; omega))) ⟨s0, s1, s2⟩
         have HR := Lib.hid hr
         clear hr hb1 hb2 hb3 hk1 hw2 hwa2))
  clear s0 s1 s2
  rcases HR.out.form with ⟨_, h⟩ | ⟨g, cap', rfl, _, _⟩
  · cases h
  have hH := (RowOf.holds (enc := encPr) (k := 2) (fun _ => rfl) (by decide) HR.out).2.1
  have hrow : RowAt w3 g (0 + 0 * 2) (encPr x) := HoldsK.row (enc := encPr) (k := 2) (d := #[x]) (fun _ => rfl) hH (i := 0) (by simp)
  have c0 := hrow 0 _ rfl
  have c1 := hrow 1 _ rfl
  rw [hxn] at c0
  rw [hxv] at c1
  have hEQ := eqPair [110] [118] [110] [118] w3
  have hGQ := fun x y => guardPair x y [110] [118] [110] [118] w3
  clear hrow hH
  go_wp2_with fail
  go_ret
  exact ⟨rfl, hb4.out⟩
end Go.Proofs.YtckfgnbilcjdpaaGreatDoor
