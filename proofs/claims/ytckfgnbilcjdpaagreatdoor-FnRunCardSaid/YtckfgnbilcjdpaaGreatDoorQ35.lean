/- The statement is proved: whatever is set and asked for, FnRun returns true, and its arguments read as they did (the row; the card ties the two listed error variables to the program's text). -/
import Derived.Test.YtckfgnbilcjdpaaGreatDoorQ33
import Derived.Test.YtckfgnbilcjdpaaGreatDoorQ34
import Derived.Test.YtckfgnbilcjdpaaGreatDoorRows
import Derived.Test.YtckfgnbilcjdpaaGreatDoorCards
import Derived.Test.YtckfgnbilcjdpaaGreatDoorTie
import Derived.ProofKit
import Derived.LaidMore
import Derived.OpenShut
import Derived.Stop.Joined
import Derived.Stop.LaidErr
import Derived.Carry
import Derived.SevenTiedAt
namespace Go.Proofs.YtckfgnbilcjdpaaGreatDoor
open Go.ChangeShapes Go.WideShapes Go.ChangeAt Go.WideElems Go.RowKit
set_option maxRecDepth 100000

theorem own : ownKnob Tryz.prog.godebug = none := by kernel_rfl
theorem gIll : Tryz.prog.globalNamed "pub-cookiejars/pub/cookiejar.errIllegalDomain" = some 0 := by kernel_rfl
theorem gIllType : (Tryz.prog.globals[0]?).map (·.type) = some 77 := by kernel_rfl
theorem cz148 : Tryz.prog.cellsOf 148 = 1 := by kernel_rfl
theorem starE : "*" ++ "errors.errorString" = "*errors.errorString" := by decide
theorem row146 (u : TypeId) (h : Tryz.prog.typeName? 3 u = some "*errors.errorString") : u = 146 :=
  typeName_ptr_named (nm := "errors.errorString") (by rw [starE]; kernel_rfl) (by kernel_rfl) (by decide) u (by rw [starE]; exact h)
theorem laidOut : laidOutB Tryz.prog = true := by kernel_rfl

/-- The door's own heap meets the condition. -/
theorem door_met (os : Os) (args : Array Value) : laidMetH Tryz.prog Rows.fnRunRow.laid ((World.doorLaid Tryz.prog 400 os).forCall (fun _ _ => 0) ⟨#[], args, []⟩).memory :=
  laidMetH_of_parts3 (fuel := 8) (laidMet_of_run' 8 (by kernel_rfl) (by kernel_rfl)) (by kernel_rfl) (by kernel_rfl)

/-- What the condition gives: the error's cell. -/
theorem of_laid {W : World} (h : laidMetH Tryz.prog Rows.fnRunRow.laid W) : ∃ t0 v0, W.cell? ⟨0, 0, none⟩ = some (.iface t0 v0) := by
  rw [MakeChecks.laidMetH_plain _ _ _ (by kernel_rfl)] at h
  obtain ⟨a1, s1, hv1, _⟩ := laid_sentinel h gIll gIllType Tryz.underlying77 row146 Tryz.underlying146 Tryz.underlying148 rfl rfl Tryz.underlying9 cz148 cz9
  exact ⟨146, .pointer (some a1), by simpa using World.var?_cell gIll hv1 0⟩

theorem fnRun_lifted (os : Os) (started : os.Started) (H : Type) (enc : TypeId × Value → H) :
    ReturnsInHanded {} Tryz.checked os 3 .any (fun w args => (Rows.fnRunSpec.pre enc Tryz.prog Tryz.f3 [] false w args ∧ laidMetH Tryz.prog Rows.fnRunRow.laid w) ∧ sizedMet enc Tryz.prog Tryz.f3 (OpenSpec.ofChange Rows.fnRunSpec) false w args)
      (Rows.fnRunSpec.post enc Tryz.prog Tryz.f3 false true false false) := by
  refine returnsInHanded_of_change_and (C := Tryz.checked) (X := fun w _ => laidMetH Tryz.prog Rows.fnRunRow.laid w) (fun _ _ _ hh h => h.of_heap hh) own started (by kernel_rfl) Tryz.func3
    (ChangeSpec.witness_shaped (enc := enc) (C := Tryz.checked) (os := os) (X := fun w _ => laidMetH Tryz.prog Rows.fnRunRow.laid w) false (World.doorLaid Tryz.prog 400 os) #[.bool false, .slice none 0 0, .slice none 0 0] 8 rfl (World.shaped_of_RefB (by kernel_rfl) (by kernel_rfl)) (by kernel_rfl) (by kernel_rfl) (by kernel_rfl) (door_met os _)) ?_
  intro W base args ds gs before hval0 hW _ _ hL _
  have hval : ∀ (j : Nat) t v, Tryz.f3.params[j]? = some t → args[j]? = some v → Value.okWide Tryz.prog W .any base t v := hval0
  have hW' := hW
  obtain ⟨p, q, hA0, hV, rfl, hfz, hnd⟩ := hW
  have hA : DataW.TrodAll enc Tryz.prog W 0 (fun _ => true) true Tryz.f3.params.toList args.toList ds p := hA0
  rw [Tryz.params3] at hA hval
  obtain ⟨x0, x1, x2, d0, d1, d2, p0, p1, p2, rfl, rfl, rfl, h0, h1, h2⟩ := trodAll_three hA
  obtain ⟨rfl, rfl⟩ := trodVars_none hV
  have h0k := h0
  obtain ⟨listed, rfl, rfl, rfl⟩ := open_bool Tryz.underlying4 (hval 0 4 x0 rfl rfl) h0
  obtain ⟨ss, A, cap, rfl, hss⟩ := open_sufs (okWide_slice Tryz.underlying22 (hval 1 22 x1 rfl rfl)) h1
  obtain ⟨l, hst, hage⟩ := open_sts (okWide_slice Tryz.underlying23 (hval 2 23 x2 rfl rfl)) h2
  obtain ⟨t0, v0, hg⟩ := of_laid hL
  have hlt : ∀ x ∈ [] ++ p1 ++ p2, x.block < W.heap.size := fun x hx => hW'.lt x (List.mem_append_left _ hx)
  refine (fnRun_any listed ss A cap x2 l W t0 v0 hg hss hst hage).mono fun e W' ⟨he, hb⟩ => ?_
  subst he
  refine ⟨_, rfl, _, _, _, [], [] ++ (p1 ++ p2), [], hW', ?_, ?_, ?_, hb.frame _, fun h => by cases h⟩
  · exact trodAll_mk1 (shut_bool Tryz.underlying4 true)
  · exact trodAll_mk3 (Below.trod laidOut (by kernel_rfl) (of_decide_eq_true (by kernel_rfl)) h0k hb (fun x hx => by cases hx)) (Below.trod laidOut (by kernel_rfl) (of_decide_eq_true (by kernel_rfl)) h1 hb (fun x hx => hlt x (List.mem_append_left _ (List.mem_append_right _ hx))))
      (Below.trod laidOut (by kernel_rfl) (of_decide_eq_true (by kernel_rfl)) h2 hb (fun x hx => hlt x (List.mem_append_right _ hx)))
  · rfl

/-- The row. -/
theorem fnRun_row : Rows.FnRunSaid :=
  OpenClaim.holds_of_wide 3 Tryz.f3 rfl rfl rfl rfl rfl rfl rfl ⟨rfl, rfl, rfl, rfl, rfl⟩ rfl rfl rfl rfl rfl (by kernel_rfl) Tryz.func3 (by kernel_rfl)
    (of_decide_eq_true (by kernel_rfl)) (by unfold Func.isWrapper; first | (rw [if_pos (by decide +kernel)]; kernel_rfl) | (rw [if_neg (by decide +kernel)]; exact ⟨rfl, rfl⟩))
    (fun os started H enc _ => fnRun_lifted os started H enc)

/-- The tied card. -/
theorem fnRun_holds : Rows.FnRunCardSaid :=
  Claim7.holds_tied_plain_at .later [] [.sentinel, .sentinel] true (true, "8cd3216bcfb7a02b00e2652a7d57bbadf5bb86ee581cca87856c755bda93ed9d") false
    fnRun_row (fun _ h => by cases h) (by kernel_rfl) (fun _ h => by cases h) fnRun_row_tie rfl ⟨rfl, rfl⟩ (by kernel_rfl) rfl
    (fun f fn hf hfn => by
      obtain rfl : f = 3 := Option.some.inj ((show Tryz.prog.funcNamed "pub-cookiejars/laws.FnRun" = some 3 by kernel_rfl).symm.trans hf) |>.symm
      obtain rfl : fn = Tryz.f3 := (Option.some.inj (Tryz.func3.symm.trans hfn)).symm
      exact ⟨by kernel_rfl, fun j t ht => by
        rw [Tryz.params3] at ht
        have hm : t ∈ [4, 22, 23] := by simpa using Array.mem_of_getElem? ht
        have hall : ([4, 22, 23].all fun u => !Tryz.prog.wantsStandIn u) = true := by kernel_rfl
        exact (show Tryz.prog.wantsStandIn t = false by simpa using List.all_eq_true.1 hall t hm)⟩)
    (by kernel_rfl)
#print axioms fnRun_holds
end Go.Proofs.YtckfgnbilcjdpaaGreatDoor
