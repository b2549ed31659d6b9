/- What follows of a valid input (plain laws). -/
import Derived.Test.YtckfgnbilcjdpaaGreatDoorQ28
import Derived.Test.YtckfgnbilcjdpaaGreatDoorQ29
namespace Go.Proofs.YtckfgnbilcjdpaaGreatDoor
open Go.RowKit Go.Sort

theorem raw_of {raw : List UInt8} (h : digB (splitB raw).2 = true) : HostOf raw (hostPart raw) := by
  unfold splitB at h
  by_cases hm : (58 : UInt8) ∈ raw
  · right
    rw [if_pos hm] at h
    have h1 := List.takeWhile_append_dropWhile (p := fun c : UInt8 => c != 58) (l := raw)
    cases hd : raw.dropWhile (fun c => c != 58) with
    | nil =>
      rw [hd, List.append_nil] at h1
      have : (58 : UInt8) ∈ raw.takeWhile (fun c => c != 58) := by rw [h1]; exact hm
      have h2 := List.all_eq_true.1 (List.all_takeWhile (p := fun c : UInt8 => c != 58) (l := raw)) 58 this
      simp at h2
    | cons x r =>
      have hx : x = 58 := by
        have h2 := List.head?_dropWhile_not (p := fun c : UInt8 => c != 58) (l := raw)
        rw [hd] at h2
        simpa using h2
      subst hx
      rw [hd] at h h1
      refine ⟨r, h1.symm, ?_⟩
      intro c hc
      have h3 := dig_all h
      have h4 := List.all_eq_true.1 h3 c hc
      simp only [digCh, Bool.and_eq_true, decide_eq_true_eq] at h4
      exact h4
  · left
    have h1 := List.takeWhile_append_of_pos (p := fun c : UInt8 => c != 58) (l₁ := raw) (l₂ := []) (fun c hc => by
      rw [bne_iff_ne]; intro e; subst e; exact hm hc)
    simp only [List.append_nil, List.takeWhile_nil] at h1
    exact h1.symm

theorem entDom_of {d : List UInt8} (h : isHostB d = true) : EntDom d := ⟨(host_full h).last, host_local h, host_loop h⟩

theorem stok_of {listed : Bool} {st : St} (hv : StV listed st) (ht : 1 ≤ st.at') (hf : FitSt st) : StOk st := by
  have hh : isHostB (hostPart st.host) = true := hv.host
  refine ⟨by omega, hv.at', host_good hh, raw_of hv.port, entDom_of (isHost_low hh), hf.host, hf.path, hv.clen, ?_⟩
  intro c hc
  have hcv := hv.cks c hc
  have hcf := hf.cks c hc
  have m : ∀ n : Nat, n ≤ 2147483647 → n ≤ maxLen := fun n h => Nat.le_trans h (by decide)
  rcases plain_cases hcv.dom with h0 | ⟨h1, _, h3, _⟩
  · exact ⟨⟨hcf.name, hcf.dom, hcf.path, ⟨m _ hcf.name, m _ hcf.dom, m _ hcf.path, Or.inl h0, hcv.age, hcv.exps⟩⟩, Or.inl h0⟩
  · exact ⟨⟨hcf.name, hcf.dom, hcf.path, ⟨m _ hcf.name, m _ hcf.dom, m _ hcf.path, Or.inr ⟨host_good h3, (host_full h3).head⟩, hcv.age, hcv.exps⟩⟩, Or.inr (entDom_of (isHost_low h3))⟩

theorem stval_of {listed : Bool} {st : St} (hv : StV listed st) : StVal listed st :=
  ⟨hv.host, hv.path, fun c hc => ⟨(hv.cks c hc).dom, (hv.cks c hc).path⟩⟩

theorem Times.ge : ∀ {s : Int} {l : List St}, Times s l → ∀ x ∈ l, s ≤ x.at'
  | _, [], _, x, hx => by cases hx
  | _, a :: r, h, x, hx => by
    rcases List.mem_cons.1 hx with rfl | hx
    · exact h.1
    · exact Int.le_trans h.1 (Times.ge h.2 x hx)

theorem specTo_outs (listed : Bool) (ss : List (List UInt8)) (sts : List St) (ho : ∀ st ∈ sts, StOk st) (hl : sts.length ≤ 64) : ∀ k, k ≤ sts.length → ∀ W ∈ (specTo listed ss sts k).outs, W.length ≤ 4096
  | 0, _, W, hW => by simp [specTo, runS] at hW
  | k + 1, hk, W, hW => by
    have ih := specTo_outs listed ss sts ho hl k (by omega)
    have hj := (jarL_ok (specTo_ok listed ss sts ho hl k (by omega)) sts[k].at').2
    rw [specTo_succ _ _ _ _ (by omega)] at hW
    unfold stepS at hW
    split at hW
    · split at hW
      · exact ih W hW
      · exact ih W hW
    · split at hW
      · rcases List.mem_append.1 hW with hW | hW
        · exact ih W hW
        · rw [List.mem_singleton] at hW
          rw [hW, List.length_map]
          have := List.length_filter_le (sentB (sts[k].sch == httpsB) ((hostPart sts[k].host).map lowB) (askPath sts[k].path)) (jarL (specTo listed ss sts k) sts[k].at')
          omega
      · rcases List.mem_append.1 hW with hW | hW
        · exact ih W hW
        · rw [List.mem_singleton] at hW
          rw [hW]; exact Nat.zero_le _
end Go.Proofs.YtckfgnbilcjdpaaGreatDoor
