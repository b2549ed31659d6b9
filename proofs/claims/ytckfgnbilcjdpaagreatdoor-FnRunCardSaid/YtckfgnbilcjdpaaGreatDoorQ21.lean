/- Contracts of the reference's functions over strings: ends, split, digits, paths, words. -/
import Derived.Test.YtckfgnbilcjdpaaGreatDoorQ01
import Derived.Test.YtckfgnbilcjdpaaGreatDoorQ02
namespace Go.Proofs.YtckfgnbilcjdpaaGreatDoor
open Go.RowKit
set_option maxRecDepth 100000

/-- A digit. -/
def digCh (c : UInt8) : Bool := decide (48 ≤ c.toNat) && decide (c.toNat ≤ 57)
/-- At most five digits. -/
def digB (l : List UInt8) : Bool := l.all digCh && (!l.isEmpty && decide (l.length ≤ 5))

theorem all_take_succ {l : List UInt8} {p : UInt8 → Bool} {k : Nat} (h : k < l.length) (ha : (l.take k).all p = true) (hp : p l[k] = true) : (l.take (k + 1)).all p = true := by
  rw [List.take_succ_eq_append_getElem h, List.all_append, ha]; simp [hp]
theorem all_no {l : List UInt8} {p : UInt8 → Bool} {k : Nat} (h : k < l.length) (hp : p l[k] = false) : l.all p = false := by
  rw [List.all_eq_false]; exact ⟨l[k], List.getElem_mem h, by simp [hp]⟩

set_option maxHeartbeats 1000000 in
theorem digits_any (l : List UInt8) (w : World) (hs : l.length ≤ maxLen) :
    Calls Tryz.prog 16 #[.string (bs l)] w fun e w' => e = .returned (.bool (digB l)) ∧ w = w' := by
  unfold maxLen at hs
  go_enter Tryz.func16, Tryz.ntmps16
  go_wp2
  go_loop [6] (fun i => ∃ k : Nat, k ≤ l.length ∧ i = .int .i64 k ∧ Hid ((l.take k).all digCh = true)) (fun i => l.length - (intOf i).toNat)
  case atStart => exact ⟨0, Nat.zero_le _, rfl, rfl⟩
  case round =>
    obtain ⟨k, hk, rfl, HA⟩ := hrel
    by_cases hlt : k < l.length
    · cases hd : digCh l[k] with
      | true =>
        have HD := Lib.hid (all_take_succ hlt HA.out hd)
        simp only [digCh, Bool.and_eq_true, decide_eq_true_eq] at hd
        obtain ⟨h1, h2⟩ := hd
        go_wp2
        go_round
        case rel => exact ⟨k + 1, by omega, by go_num, HD⟩
        case measure => simp [intOf]; omega
      | false =>
        have HD := Lib.hid (all_no hlt hd)
        simp only [digCh, Bool.and_eq_false_iff, decide_eq_false_iff_not] at hd
        by_cases h1 : l[k].toNat < 48
        · go_wp2
          go_ret
          exact ⟨ret_bool (by rw [digB, HD.out]; rfl), rfl⟩
        · have h2 : 57 < l[k].toNat := by omega
          go_wp2
          go_ret
          exact ⟨ret_bool (by rw [digB, HD.out]; rfl), rfl⟩
    · obtain rfl : k = l.length := by omega
      have HD : Hid (digB l = (!l.isEmpty && decide (l.length ≤ 5))) := by
        have := HA.out; rw [List.take_length] at this; rw [Hid, digB, this]; rfl
      cases l with
      | nil =>
        go_wp2
        go_ret
        exact ⟨rfl, rfl⟩
      | cons x l =>
        go_wp2
        go_ret
        exact ⟨ret_bool (by rw [HD.out, Bool.eq_iff_iff]; simp; omega), rfl⟩

/-- A string ends with another one: the reference's test. -/
def endsB (s t : List UInt8) : Bool := decide (t <:+ s)
theorem suffix_iff {s t : List UInt8} (_h : t.length ≤ s.length) : t <:+ s ↔ s.drop (s.length - t.length) = t := by
  rw [List.suffix_iff_eq_drop]; exact eq_comm
set_option maxHeartbeats 1000000 in
theorem specEnds_any (s t : List UInt8) (w : World) (hs : s.length ≤ maxLen) (ht : t.length ≤ maxLen) :
    Calls Tryz.prog 54 #[.string (bs s), .string (bs t)] w fun e w' => e = .returned (.bool (endsB s t)) ∧ w = w' := by
  unfold maxLen at hs ht
  by_cases h1 : t.length ≤ s.length
  · have HI := Lib.hid (suffix_iff h1)
    go_enter Tryz.func54, Tryz.ntmps54
    go_wp2
    go_ret
    exact ⟨ret_bool (by rw [endsB, Bool.eq_iff_iff, beq_iff_eq, decide_eq_true_eq]; exact HI.out.symm), rfl⟩
  · have h2 : decide ((t.length : Int) ≤ (s.length : Int)) = false := by simp; omega
    have HE : Hid (endsB s t = false) := by rw [Hid, endsB, decide_eq_false_iff_not]; intro h; exact h1 h.length_le
    go_enter Tryz.func54, Tryz.ntmps54
    go_wp2
    go_ret
    exact ⟨ret_bool HE.out.symm, rfl⟩

/-- A host and its port, or 0. -/
def splitB (l : List UInt8) : List UInt8 × List UInt8 :=
  (l.takeWhile (· != 58), if 58 ∈ l then (l.dropWhile (· != 58)).drop 1 else [48])
theorem splitB_at {l : List UInt8} {k : Nat} (h : k < l.length) (ha : (l.take k).all (· != 58) = true) (he : l[k] = 58) : splitB l = (l.take k, l.drop (k + 1)) := by
  have h1 : l = l.take k ++ 58 :: l.drop (k + 1) := by rw [← he, List.getElem_cons_drop, List.take_append_drop]
  have h2 : l.takeWhile (· != 58) = l.take k := by
    conv => lhs; rw [h1]
    rw [List.takeWhile_append_of_pos (by simpa using ha)]; simp
  have h3 : l.dropWhile (· != 58) = 58 :: l.drop (k + 1) := by
    conv => lhs; rw [h1]
    rw [List.dropWhile_append_of_pos (by simpa using ha)]; simp
  rw [splitB, h2, h3, if_pos (he ▸ List.getElem_mem h)]; rfl
theorem splitB_no {l : List UInt8} (ha : l.all (· != 58) = true) : splitB l = (l, [48]) := by
  have h1 : 58 ∉ l := by intro h; have := List.all_eq_true.1 ha _ h; simp at this
  have h2 : l.takeWhile (· != 58) = l := by
    have := List.takeWhile_append_of_pos (p := (· != (58 : UInt8))) (l₁ := l) (l₂ := []) (by simpa using ha)
    simpa using this
  rw [splitB, if_neg h1, h2]

theorem ret_two {a b c d : List UInt8} (h : (a, b) = (c, d)) : Ending.returned (.tuple #[.string (bs a), .string (bs b)]) = .returned (.tuple #[.string (bs c), .string (bs d)]) := by
  cases h; rfl
set_option maxHeartbeats 1000000 in
theorem split_any (l : List UInt8) (w : World) (hs : l.length ≤ maxLen) :
    Calls Tryz.prog 15 #[.string (bs l)] w fun e w' => e = .returned (.tuple #[.string (bs (splitB l).1), .string (bs (splitB l).2)]) ∧ Below w.heap.size w w' := by
  unfold maxLen at hs
  go_enter Tryz.func15, Tryz.ntmps15
  go_wp2
  go_loop [7] (fun i => ∃ k : Nat, k ≤ l.length ∧ i = .int .i64 k ∧ Hid ((l.take k).all (· != 58) = true)) (fun i => l.length - (intOf i).toNat)
  case atStart => exact ⟨0, Nat.zero_le _, rfl, rfl⟩
  case round =>
    obtain ⟨k, hk, rfl, HA⟩ := hrel
    by_cases hlt : k < l.length
    · by_cases hc : l[k] = 58
      · have h1 : ((l[k].toNat : Int) == 58) = true := by rw [hc]; rfl
        have HD := Lib.hid (splitB_at hlt HA.out hc)
        clear hc
        go_wp2_with fail
        have q1 : IntKind.i64.wrap ((k : Int) + 1) = (k : Int) + 1 := IntWalk.i64_in _ (by omega)
        go_quiet (fail)
        go_wp2
        go_ret2
        exact ⟨ret_two HD.out.symm, Below.drewN' _ _⟩
      · have h1 : ((l[k].toNat : Int) == 58) = false := by
          rw [Bool.eq_false_iff]; intro e; exact hc (u8_eq.1 (show ((l[k].toNat : Int) == ((58 : UInt8).toNat : Int)) = true from e))
        have HD := Lib.hid (all_take_succ (p := (· != 58)) hlt HA.out (by simpa using hc))
        clear hc
        go_wp2
        go_round
        case rel => exact ⟨k + 1, by omega, by go_num, HD⟩
        case measure => simp [intOf]; omega
    · obtain rfl : k = l.length := by omega
      have HD : Hid (splitB l = (l, [48])) := splitB_no (by have := HA.out; rwa [List.take_length] at this)
      go_wp2
      go_ret2
      exact ⟨ret_two (by rw [HD.out]), Below.refl _ _⟩

/-- A sign of a path. -/
def pathCh (c : UInt8) : Bool := (decide (97 ≤ c.toNat) && decide (c.toNat ≤ 122)) || digCh c || c == 47 || c == 45
/-- A path here. -/
def isPathB (l : List UInt8) : Bool := l.all pathCh && (l.isEmpty || l.head? == some 47)
theorem pathCh_no {c : UInt8} (h : pathCh c = false) : (c.toNat < 97 ∨ 122 < c.toNat) ∧ (c.toNat < 48 ∨ 57 < c.toNat) ∧ c ≠ 47 ∧ c ≠ 45 := by
  simp only [pathCh, digCh, Bool.or_eq_false_iff, Bool.and_eq_false_iff, decide_eq_false_iff_not, beq_eq_false_iff_ne] at h
  obtain ⟨⟨⟨h1, h2⟩, h3⟩, h4⟩ := h
  exact ⟨by omega, by omega, h3, h4⟩
theorem u8_neq {c d : UInt8} (h : c ≠ d) : ((c.toNat : Int) != (d.toNat : Int)) = true := by
  rw [bne_iff_ne]; intro e; exact h (u8_eq.1 (beq_iff_eq.2 e))
theorem u8_isf {c d : UInt8} (h : c = d) : ((c.toNat : Int) != (d.toNat : Int)) = false := by
  rw [h]; simp
theorem u8_nbeq {c d : UInt8} (h : c ≠ d) : ((c.toNat : Int) == (d.toNat : Int)) = false := by
  rw [Bool.eq_false_iff]; intro e; exact h (u8_eq.1 e)

set_option maxHeartbeats 2000000 in
theorem isPath_any (l : List UInt8) (w : World) (hs : l.length ≤ maxLen) :
    Calls Tryz.prog 17 #[.string (bs l)] w fun e w' => e = .returned (.bool (isPathB l)) ∧ w = w' := by
  unfold maxLen at hs
  go_enter Tryz.func17, Tryz.ntmps17
  go_wp2
  go_loop [7] (fun i => ∃ k : Nat, k ≤ l.length ∧ i = .int .i64 k ∧ Hid ((l.take k).all pathCh = true)) (fun i => l.length - (intOf i).toNat)
  case atStart => exact ⟨0, Nat.zero_le _, rfl, rfl⟩
  case round =>
    obtain ⟨k, hk, rfl, HA⟩ := hrel
    by_cases hlt : k < l.length
    · cases hd : pathCh l[k] with
      | true =>
        have HD := Lib.hid (all_take_succ hlt HA.out hd)
        have hlt' := u8_lt l[k]
        simp only [pathCh, digCh, Bool.or_eq_true, Bool.and_eq_true, decide_eq_true_eq, beq_iff_eq] at hd
        rcases hd with ((hd | hd) | hd) | hd
        · obtain ⟨h1, h2⟩ := hd
          go_wp2
          go_round
          case rel => exact ⟨k + 1, by omega, by go_num, HD⟩
          case measure => simp [intOf]; omega
        · obtain ⟨h1, h2⟩ := hd
          go_wp2
          go_round
          case rel => exact ⟨k + 1, by omega, by go_num, HD⟩
          case measure => simp [intOf]; omega
        · have h3 : ((l[k].toNat : Int) != 47) = false := u8_isf hd
          have h4 : l[k].toNat = 47 := by rw [hd]; rfl
          clear hd
          go_wp2
          go_round
          case rel => exact ⟨k + 1, by omega, by go_num, HD⟩
          case measure => simp [intOf]; omega
        · have h3 : ((l[k].toNat : Int) != 45) = false := u8_isf hd
          have h5 : ((l[k].toNat : Int) != 47) = true := u8_neq (c := l[k]) (d := 47) (by rw [hd]; decide)
          have h4 : l[k].toNat = 45 := by rw [hd]; rfl
          clear hd
          go_wp2
          go_round
          case rel => exact ⟨k + 1, by omega, by go_num, HD⟩
          case measure => simp [intOf]; omega
      | false =>
        have HD := Lib.hid (all_no hlt hd)
        obtain ⟨h1, h2, h3, h4⟩ := pathCh_no hd
        have h3' : ((l[k].toNat : Int) != 47) = true := u8_neq h3
        have h4' : ((l[k].toNat : Int) != 45) = true := u8_neq h4
        clear hd h3 h4
        rcases h1 with h1 | h1 <;> rcases h2 with h2 | h2
        all_goals try (exfalso; omega)
        all_goals
          go_wp2
          go_ret
          exact ⟨ret_bool (by rw [isPathB, HD.out]; rfl), rfl⟩
    · obtain rfl : k = l.length := by omega
      have HD : Hid (isPathB l = (l.isEmpty || l.head? == some 47)) := by
        have := HA.out; rw [List.take_length] at this; rw [Hid, isPathB, this]; rfl
      cases l with
      | nil =>
        go_wp2
        go_ret
        exact ⟨rfl, rfl⟩
      | cons x l =>
        go_wp2
        go_ret
        exact ⟨ret_bool (by rw [HD.out, Bool.eq_iff_iff]; simp only [List.isEmpty_cons, Bool.false_or, List.head?_cons, Option.some_beq_some, beq_iff_eq]; exact (u8_eq (a := x) (b := 47)).symm.trans beq_iff_eq |>.symm), rfl⟩

theorem or32 (c : UInt8) : bits BinOp.or IntKind.u8 (c.toNat : Int) 32 = ((c ||| 32).toNat : Int) := by
  have h : ∀ c : Fin 256, bits BinOp.or IntKind.u8 ((UInt8.ofFin c).toNat : Int) 32 = ((UInt8.ofFin c ||| 32).toNat : Int) := by decide +kernel
  exact h c.toFin
/-- A letter or a digit. -/
def wordCh (c : UInt8) : Bool := (decide (97 ≤ (c ||| 32).toNat) && decide ((c ||| 32).toNat ≤ 122)) || digCh c
set_option maxHeartbeats 2000000 in
theorem isWord_any (l : List UInt8) (w : World) (hs : l.length ≤ maxLen) :
    Calls Tryz.prog 18 #[.string (bs l)] w fun e w' => e = .returned (.bool (l.all wordCh)) ∧ w = w' := by
  unfold maxLen at hs
  go_enter Tryz.func18, Tryz.ntmps18
  go_wp2
  go_loop [7] (fun i => ∃ k : Nat, k ≤ l.length ∧ i = .int .i64 k ∧ Hid ((l.take k).all wordCh = true)) (fun i => l.length - (intOf i).toNat)
  case atStart => exact ⟨0, Nat.zero_le _, rfl, rfl⟩
  case round =>
    obtain ⟨k, hk, rfl, HA⟩ := hrel
    by_cases hlt : k < l.length
    · cases hd : wordCh l[k] with
      | true =>
        have HD := Lib.hid (all_take_succ hlt HA.out hd)
        simp only [wordCh, digCh, Bool.or_eq_true, Bool.and_eq_true, decide_eq_true_eq] at hd
        have hb := or32 l[k]
        obtain ⟨y, hy⟩ : ∃ y, y = bits BinOp.or IntKind.u8 (l[k].toNat : Int) 32 := ⟨_, rfl⟩
        have hd' : (97 ≤ bits BinOp.or IntKind.u8 (l[k].toNat : Int) 32 ∧ bits BinOp.or IntKind.u8 (l[k].toNat : Int) 32 ≤ 122) ∨ (48 ≤ l[k].toNat ∧ l[k].toNat ≤ 57) := by rw [hb]; omega
        clear hd hb hy y
        rcases hd' with ⟨h1, h2⟩ | ⟨h1, h2⟩
        · go_wp2
          go_round
          case rel => exact ⟨k + 1, by omega, by go_num, HD⟩
          case measure => simp [intOf]; omega
        · go_wp2
          all_goals
            go_round
            case rel => exact ⟨k + 1, by omega, by go_num, HD⟩
            case measure => simp [intOf]; omega
      | false =>
        have HD := Lib.hid (all_no hlt hd)
        simp only [wordCh, digCh, Bool.or_eq_false_iff, Bool.and_eq_false_iff, decide_eq_false_iff_not] at hd
        have hb := or32 l[k]
        have hd1 : (bits BinOp.or IntKind.u8 (l[k].toNat : Int) 32 < 97 ∨ 122 < bits BinOp.or IntKind.u8 (l[k].toNat : Int) 32) := by rw [hb]; omega
        have hd2 : l[k].toNat < 48 ∨ 57 < l[k].toNat := by omega
        clear hd hb
        rcases hd1 with h1 | h1 <;> rcases hd2 with h2 | h2
        all_goals
          go_wp2
          go_ret
          exact ⟨ret_bool HD.out.symm, rfl⟩
    · obtain rfl : k = l.length := by omega
      have HD : Hid (l.all wordCh = true) := by
        have := HA.out; rwa [List.take_length] at this
      go_wp2
      go_ret
      exact ⟨ret_bool HD.out.symm, rfl⟩

set_option maxHeartbeats 2000000 in
theorem pathMatches_any (path p : List UInt8) (w : World) (hd : p.length ≤ maxLen) (_hh : path.length ≤ maxLen) (hne : p ≠ []) :
    Calls Tryz.prog 51 #[.string (bs path), .string (bs p)] w fun r w' => r = .returned (.bool (pathB path p)) ∧ w = w' := by
  have hpos : 0 < p.length := List.length_pos_iff.2 hne
  have HN := Lib.hid hne; clear hne
  unfold maxLen at hd _hh
  by_cases h1 : path = p
  · have h1' : (path == p) = true := beq_iff_eq.2 h1
    have H1 := Lib.hid h1; clear h1
    go_enter Tryz.func51, Tryz.ntmps51
    go_wp2
    go_ret
    exact ⟨ret_bool (by rw [pathB, decide_eq_true H1.out]; rfl), rfl⟩
  · have h1' : (path == p) = false := by rw [Bool.eq_false_iff]; intro h; exact h1 (beq_iff_eq.1 h)
    by_cases h2 : p <+: path
    · have hlt : p.length < path.length := by
        rcases Nat.lt_or_ge p.length path.length with h | h
        · exact h
        · exact absurd (List.IsPrefix.eq_of_length_le h2 h).symm h1
      have hP : Hid (pathB path p = (decide (p.getLast? = some 47) || decide (path[p.length]? = some 47))) := by
        rw [Hid, pathB, decide_eq_false h1, decide_eq_true h2]; simp
      have h6 : (path.take p.length == p) = true := by rw [beq_iff_eq]; exact (List.prefix_iff_eq_take.1 h2).symm
      clear h1 h2
      have H3 : Hid ((((p[p.length - 1].toNat : Int) == 47) || ((path[p.length].toNat : Int) == 47)) = (decide (p.getLast? = some 47) || decide (path[p.length]? = some 47))) := by
        rw [Hid, List.getLast?_eq_getElem?, List.getElem?_eq_getElem (by omega), List.getElem?_eq_getElem hlt]
        have hu : ∀ c : UInt8, ((c.toNat : Int) == 47) = decide (some c = some 47) := fun c => by
          rw [Bool.eq_iff_iff, decide_eq_true_eq, Option.some_inj]; exact u8_eq (b := 47)
        rw [hu, hu]
      have q1 : IntKind.i64.wrap ((p.length : Int) - 1) = (p.length : Int) - 1 := IntWalk.i64_in _ (by omega)
      have q2 := index_bs p (p.length - 1) ((p.length : Int) - 1) (by omega) (by omega)
      cases h3 : ((p[p.length - 1].toNat : Int) == 47) with
      | true =>
        go_enter Tryz.func51, Tryz.ntmps51
        go_wp2
        go_ret
        exact ⟨ret_bool (by rw [hP.out, ← H3.out]; simp [h3]), rfl⟩
      | false =>
        go_enter Tryz.func51, Tryz.ntmps51
        go_wp2
        go_ret
        exact ⟨ret_bool (by rw [hP.out, ← H3.out]; simp [h3]), rfl⟩
    · have hP : Hid (pathB path p = false) := by
        rw [Hid, pathB, decide_eq_false h1, decide_eq_false h2]; rfl
      by_cases h5 : p.length < path.length
      · have h6 : (path.take p.length == p) = false := by
          rw [Bool.eq_false_iff]; intro h; exact h2 (List.prefix_iff_eq_take.2 (beq_iff_eq.1 h).symm)
        clear h1 h2
        go_enter Tryz.func51, Tryz.ntmps51
        go_wp2
        go_ret
        exact ⟨ret_bool hP.out.symm, rfl⟩
      · have h6 : decide ((p.length : Int) < (path.length : Int)) = false := by simp; omega
        clear h1 h2
        go_enter Tryz.func51, Tryz.ntmps51
        go_wp2
        go_ret
        exact ⟨ret_bool hP.out.symm, rfl⟩

/-- The reference's path of a cookie that has none. -/
def defPathS (p : List UInt8) : List UInt8 := if lastIdx p 47 p.length ≤ 0 then [47] else p.take (lastIdx p 47 p.length).toNat
set_option maxHeartbeats 1000000 in
theorem specDefaultPath_any (p : List UInt8) (w : World) (hp : p.length ≤ maxLen) :
    Calls Tryz.prog 56 #[.string (bs p)] w fun e w' => e = .returned (.string (bs (defPathS p))) ∧ w = w' := by
  unfold maxLen at hp
  go_enter Tryz.func56, Tryz.ntmps56
  go_wp2
  go_loop [3] (fun i => ∃ k : Nat, k ≤ p.length ∧ i = .int .i64 ((k : Int) - 1) ∧ Hid (lastIdx p 47 p.length = lastIdx p 47 k)) (fun i => (intOf i + 1).toNat)
  case atStart => exact ⟨p.length, Nat.le_refl _, rfl, rfl⟩
  case round =>
    obtain ⟨k, hk, rfl, hh⟩ := hrel
    by_cases hlt : 1 < k
    · cases hc : ((p[k - 1].toNat : Int) == 47) with
      | true =>
        have hc' : ((p[k - 1].toNat : Int) != 47) = false := by rw [bne, hc]; rfl
        have HL : Hid (lastIdx p 47 p.length = (k : Int) - 1) := by rw [Hid, hh.out, lastIdx_hit (by omega) (by omega) hc]
        go_wp2
        go_ret
        refine ⟨ret_str ?_, rfl⟩
        rw [defPathS, HL.out, if_neg (by omega)]
        congr 1
        omega
      | false =>
        have hc' : ((p[k - 1].toNat : Int) != 47) = true := by rw [bne, hc]; rfl
        have HL : Hid (lastIdx p 47 p.length = lastIdx p 47 (k - 1)) := by rw [Hid, hh.out, lastIdx_miss (by omega) (by omega) hc]
        go_wp2
        go_round
        case rel => exact ⟨k - 1, by omega, by rw [show ((k - 1 : Nat) : Int) = (k : Int) - 1 by omega], HL⟩
        case measure => simp [intOf]; omega
    · have HL : Hid (defPathS p = [47]) := by
        rw [Hid, defPathS, hh.out, if_pos]
        have := (lastIdx_lt p 47 k).2; omega
      have hd : decide (0 < (k : Int) - 1) = false := by simp; omega
      go_wp2
      go_ret
      exact ⟨ret_str HL.out.symm, rfl⟩
end Go.Proofs.YtckfgnbilcjdpaaGreatDoor
/- The labels of a host, and what follows for the jar's key (plain laws). -/
namespace Go.Proofs.YtckfgnbilcjdpaaGreatDoor
open Go.RowKit

/-- The parts of a string between dots. -/
def labs : List UInt8 → List (List UInt8)
  | [] => [[]]
  | c :: r => if c = 46 then [] :: labs r else
      match labs r with
      | [] => [[c]]
      | a :: t => (c :: a) :: t

theorem labs_ne : ∀ l, labs l ≠ []
  | [] => by simp [labs]
  | c :: r => by
    simp only [labs]; split
    · simp
    · split <;> simp
theorem labs_app : ∀ (a r : List UInt8), labs (a ++ 46 :: r) = labs a ++ labs r
  | [], r => by simp [labs]
  | c :: a, r => by
    simp only [List.cons_append, labs]
    rw [labs_app a r]
    split
    · simp
    · cases h : labs a with
      | nil => exact absurd h (labs_ne a)
      | cons b t => simp
theorem labs_one : ∀ {l : List UInt8}, 46 ∉ l → labs l = [l]
  | [], _ => rfl
  | c :: r, h => by
    have h1 : c ≠ 46 := by intro e; exact h (by simp [e])
    have h2 : 46 ∉ r := fun e => h (List.mem_cons_of_mem _ e)
    simp only [labs, if_neg h1, labs_one h2]
theorem labs_nodot : ∀ {l x : List UInt8}, x ∈ labs l → 46 ∉ x
  | [], x, h => by simp only [labs, List.mem_singleton] at h; subst h; simp
  | c :: r, x, h => by
    simp only [labs] at h
    split at h
    · rcases List.mem_cons.1 h with h | h
      · subst h; simp
      · exact labs_nodot h
    · rename_i hc
      cases hr : labs r with
      | nil => exact absurd hr (labs_ne r)
      | cons a t =>
        rw [hr] at h
        rcases List.mem_cons.1 h with h | h
        · subst h
          have := labs_nodot (l := r) (x := a) (by rw [hr]; simp)
          intro e
          rcases List.mem_cons.1 e with e | e
          · exact hc e.symm
          · exact this e
        · exact labs_nodot (l := r) (by rw [hr]; exact List.mem_cons_of_mem _ h)
theorem labs_ch : ∀ {l x : List UInt8}, x ∈ labs l → ∀ c ∈ x, c ∈ l
  | [], x, h, c, hc => by simp only [labs, List.mem_singleton] at h; subst h; cases hc
  | d :: r, x, h, c, hc => by
    simp only [labs] at h
    split at h
    · rcases List.mem_cons.1 h with h | h
      · subst h; cases hc
      · exact List.mem_cons_of_mem _ (labs_ch h c hc)
    · cases hr : labs r with
      | nil => exact absurd hr (labs_ne r)
      | cons a t =>
        rw [hr] at h
        rcases List.mem_cons.1 h with h | h
        · subst h
          rcases List.mem_cons.1 hc with hc | hc
          · exact hc ▸ List.mem_cons_self
          · exact List.mem_cons_of_mem _ (labs_ch (l := r) (x := a) (by rw [hr]; simp) c hc)
        · exact List.mem_cons_of_mem _ (labs_ch (l := r) (by rw [hr]; exact List.mem_cons_of_mem _ h) c hc)
theorem mem_labs : ∀ {l : List UInt8} {c : UInt8}, c ∈ l → c = 46 ∨ ∃ x ∈ labs l, c ∈ x
  | d :: r, c, h => by
    simp only [labs]
    rcases List.mem_cons.1 h with h | h
    · subst h
      by_cases h1 : c = 46
      · exact Or.inl h1
      · right
        rw [if_neg h1]
        cases hr : labs r with
        | nil => exact absurd hr (labs_ne r)
        | cons a t => exact ⟨c :: a, by simp, by simp⟩
    · rcases mem_labs h with h | ⟨x, hx, hc⟩
      · exact Or.inl h
      · right
        by_cases h1 : d = 46
        · rw [if_pos h1]; exact ⟨x, List.mem_cons_of_mem _ hx, hc⟩
        · rw [if_neg h1]
          cases hr : labs r with
          | nil => exact absurd hr (labs_ne r)
          | cons a t =>
            rw [hr] at hx
            rcases List.mem_cons.1 hx with hx | hx
            · subst hx; exact ⟨d :: x, by simp, List.mem_cons_of_mem _ hc⟩
            · exact ⟨x, by simp [hx], hc⟩
theorem labs_map (f : UInt8 → UInt8) (hf : ∀ c, f c = 46 ↔ c = 46) : ∀ l, labs (l.map f) = (labs l).map (List.map f)
  | [] => rfl
  | c :: r => by
    simp only [List.map_cons, labs, labs_map f hf r]
    by_cases h : c = 46
    · rw [if_pos h, if_pos ((hf c).2 h)]; simp
    · rw [if_neg h, if_neg (fun e => h ((hf c).1 e))]
      cases hr : labs r with
      | nil => exact absurd hr (labs_ne r)
      | cons a t => simp

/-- A string with a dot, parted at its last one. -/
theorem last_dot : ∀ {l : List UInt8}, 46 ∈ l → ∃ a p, l = a ++ 46 :: p ∧ 46 ∉ p
  | c :: r, h => by
    by_cases hr : 46 ∈ r
    · obtain ⟨a, p, h1, h2⟩ := last_dot hr
      exact ⟨c :: a, p, by rw [h1]; rfl, h2⟩
    · rcases List.mem_cons.1 h with h | h
      · exact ⟨[], r, by rw [← h]; rfl, hr⟩
      · exact absurd h hr
theorem lastIdx_miss_all {l : List UInt8} {c : UInt8} (h : c ∉ l) : ∀ k, lastIdx l c k = -1
  | 0 => rfl
  | k + 1 => by
    rw [lastIdx, if_neg, lastIdx_miss_all h k]
    intro e; exact h (List.mem_of_getElem? e)
theorem lastLabel_one {l : List UInt8} (h : 46 ∉ l) : lastLabel l = l := by
  rw [lastLabel, lastIdx_miss_all h]; rfl
theorem lastIdx_at {a p : List UInt8} (h : 46 ∉ p) : lastIdx (a ++ 46 :: p) 46 (a ++ 46 :: p).length = a.length := by
  have := lastIdx_none h a p.length (Nat.le_refl _)
  rw [show (a ++ 46 :: p).length = a.length + 1 + p.length by simp; omega]
  exact this
theorem lastLabel_at {a p : List UInt8} (h : 46 ∉ p) : lastLabel (a ++ 46 :: p) = p := by
  rw [lastLabel, lastIdx_at h]
  rw [show ((a.length : Int) + 1).toNat = a.length + 1 by omega, show a.length + 1 = (a ++ [46]).length by simp, show a ++ 46 :: p = (a ++ [46]) ++ p by simp, List.drop_left]
theorem labs_last (l : List UInt8) : (labs l).getLast? = some (lastLabel l) := by
  by_cases h : 46 ∈ l
  · obtain ⟨a, p, rfl, hp⟩ := last_dot h
    rw [labs_app, labs_one hp, lastLabel_at hp]; simp
  · rw [labs_one h, lastLabel_one h]; rfl
theorem lastLabel_app (a p : List UInt8) : lastLabel (a ++ 46 :: p) = lastLabel p := by
  have h1 := labs_last (a ++ 46 :: p)
  have h2 := labs_last p
  rw [labs_app, List.getLast?_append, h2] at h1
  exact (Option.some.inj (by simpa using h1)).symm
theorem lastLabel_mem (l : List UInt8) : lastLabel l ∈ labs l := List.mem_of_getLast? (labs_last l)

theorem dotSuf_ex {h d : List UInt8} : dotSuf h d = true ↔ ∃ a, h = a ++ 46 :: d := by
  rw [dotSuf, decide_eq_true_eq]
  exact ⟨fun ⟨a, e⟩ => ⟨a, e.symm⟩, fun ⟨a, e⟩ => ⟨a, e.symm⟩⟩
theorem dotSuf_trans {a b c : List UInt8} (h1 : dotSuf a b = true) (h2 : dotSuf b c = true) : dotSuf a c = true := by
  obtain ⟨x, rfl⟩ := dotSuf_ex.1 h1
  obtain ⟨y, rfl⟩ := dotSuf_ex.1 h2
  exact dotSuf_ex.2 ⟨x ++ 46 :: y, by simp⟩
theorem dotSuf_cut {h d s : List UInt8} (h1 : dotSuf h d = true) (h2 : dotSuf h s = true) (hl : s.length < d.length) : dotSuf d s = true := by
  rw [dotSuf, decide_eq_true_eq] at *
  exact List.suffix_of_suffix_length_le h2 ((List.suffix_cons _ _).trans h1) (by simp; omega)

/-- What stands behind the first label ahead of which the jar's key ends. -/
def sufOf (listed : Bool) (ss : List (List UInt8)) (h : List UInt8) : List UInt8 := if listed then pubSuf ss h else lastLabel h

/-- All labels have signs. -/
def Full (h : List UInt8) : Prop := ∀ x ∈ labs h, x ≠ []

theorem Full.cut {a d : List UInt8} (h : Full (a ++ 46 :: d)) : Full a ∧ Full d := by
  unfold Full at *; rw [labs_app] at h
  exact ⟨fun x hx => h x (List.mem_append_left _ hx), fun x hx => h x (List.mem_append_right _ hx)⟩
theorem Full.ne {h : List UInt8} (f : Full h) : h ≠ [] := by rintro rfl; exact f [] (by simp [labs]) rfl
theorem Full.last {h : List UInt8} (f : Full h) : h.getLast? ≠ some 46 := by
  intro e
  obtain ⟨a, rfl⟩ : ∃ a, h = a ++ [46] := by
    rcases List.eq_nil_or_concat h with rfl | ⟨a, x, rfl⟩
    · cases e
    · rw [List.concat_eq_append] at *; simp at e; exact ⟨a, by rw [e]⟩
  exact f.cut.2 [] (by simp [labs]) rfl
theorem Full.head {h : List UInt8} (f : Full h) : h.head? ≠ some 46 := by
  intro e
  cases h with
  | nil => cases e
  | cons c r =>
    obtain rfl : c = 46 := Option.some.inj e
    exact f [] (by simp [labs]) rfl

theorem keyAt_eq (x s : List UInt8) : keyAt (x ++ 46 :: s) ((x ++ 46 :: s).length - s.length) = lastLabel x ++ 46 :: s := by
  unfold keyAt
  rw [show (x ++ 46 :: s).length - s.length - 1 = x.length by simp; omega, List.take_left]
  have h := (lastIdx_lt x 46 x.length)
  rw [List.drop_append_of_le_length (by omega), lastLabel]
theorem lastIdx_append (a b : List UInt8) (c : UInt8) : ∀ k, k ≤ a.length → lastIdx (a ++ b) c k = lastIdx a c k
  | 0, _ => rfl
  | k + 1, h => by rw [lastIdx, lastIdx, lastIdx_append a b c k (by omega), List.getElem?_append_left (by omega)]

/-- The key of a host that is not an address. -/
theorem keyOf_eq {listed : Bool} {ss : List (List UInt8)} {h x s : List UInt8} (f : Full h) (hi : ipB h = false) (hs : sufOf listed ss h = s) (hx : h = x ++ 46 :: s) : keyOf listed ss h = lastLabel x ++ 46 :: s := by
  rw [keyOf, if_neg (by rw [hi]; exact Bool.false_ne_true)]
  have hne : s ≠ h := by intro e; have := congrArg List.length hx; rw [e] at this; simp at this; omega
  cases listed with
  | true =>
    rw [sufOf, if_pos rfl] at hs
    rw [if_pos rfl, if_neg (by rw [hs]; exact hne), hs, hx, keyAt_eq]
  | false =>
    rw [sufOf, if_neg Bool.false_ne_true] at hs
    rw [if_neg Bool.false_ne_true]
    have hd : 46 ∉ s := hs ▸ labs_nodot (lastLabel_mem h)
    have hl : lastIdx h 46 h.length = x.length := by rw [hx]; exact lastIdx_at hd
    have hxf : Full x := (hx ▸ f : Full (x ++ 46 :: s)).cut.1
    have hx0 : 0 < x.length := List.length_pos_iff.2 hxf.ne
    rw [hl, if_neg (by omega), Int.toNat_natCast]
    unfold keyAt
    rw [hx, List.take_append_of_le_length (by omega)]
    rcases List.eq_nil_or_concat x with rfl | ⟨y, c, rfl⟩
    · simp at hx0
    · rw [List.concat_eq_append] at *
      rw [show (y ++ [c]).length - 1 = y.length by simp, List.take_left]
      have hc : c ≠ 46 := by intro e; exact hxf.last (by rw [e]; simp)
      have h1 : lastIdx (y ++ [c]) 46 (y ++ [c]).length = lastIdx y 46 y.length := by
        rw [show (y ++ [c]).length = y.length + 1 by simp, lastIdx, if_neg, lastIdx_append y [c] 46 _ (Nat.le_refl _)]
        rw [List.getElem?_append_right (Nat.le_refl _)]; simpa using hc
      have h := (lastIdx_lt y 46 y.length)
      rw [List.drop_append_of_le_length (by simp; omega), lastLabel, h1]
theorem keyOf_self {listed : Bool} {ss : List (List UInt8)} {h : List UInt8} (hs : sufOf listed ss h = h) : keyOf listed ss h = h := by
  rw [keyOf]
  split
  · rfl
  · cases listed with
    | true => rw [sufOf, if_pos rfl] at hs; rw [if_pos rfl, if_pos hs]
    | false =>
      rw [sufOf, if_neg Bool.false_ne_true] at hs
      have hd : 46 ∉ h := hs ▸ labs_nodot (lastLabel_mem h)
      rw [if_neg Bool.false_ne_true, if_pos (by rw [lastIdx_miss_all hd]; decide)]

theorem sufOf_suf (listed : Bool) (ss : List (List UInt8)) (h : List UInt8) : sufOf listed ss h = h ∨ dotSuf h (sufOf listed ss h) = true := by
  unfold sufOf; split
  · exact pubSuf_suf ss h
  · exact lastLabel_suf h

theorem best_ge (d : List UInt8) (ss : List (List UInt8)) : ∀ k, ∀ s ∈ ss.take k, sufB d s = true → ∃ b, bestTo d ss k = some b ∧ s.length ≤ b.length
  | 0, s, h, _ => by simp at h
  | k + 1, s, h, hs => by
    by_cases hk : k < ss.length
    · rw [List.take_succ_eq_append_getElem hk] at h
      rw [bestTo_succ d ss k hk, bestStep]
      rcases List.mem_append.1 h with h | h
      · obtain ⟨b, h1, h2⟩ := best_ge d ss k s h hs
        rw [h1]
        split
        · rename_i hc
          refine ⟨_, rfl, ?_⟩
          rcases hc.2 with h3 | h3
          · cases h3
          · simp only [Option.getD_some] at h3; omega
        · exact ⟨b, rfl, h2⟩
      · rw [List.mem_singleton] at h; subst h
        split
        · exact ⟨_, rfl, Nat.le_refl _⟩
        · rename_i hc
          cases hb : bestTo d ss k with
          | none => exact absurd ⟨hs, Or.inl hb⟩ hc
          | some b =>
            refine ⟨b, rfl, ?_⟩
            rcases Nat.lt_or_ge b.length ss[k].length with h3 | h3
            · exact absurd ⟨hs, Or.inr (by rw [hb]; exact h3)⟩ hc
            · exact h3
    · rw [List.take_of_length_le (by omega)] at h
      have := best_ge d ss k s (by rw [List.take_of_length_le (by omega)]; exact h) hs
      rw [bestTo, List.take_of_length_le (by omega)] at this ⊢
      exact this
theorem pubSuf_ge {d : List UInt8} {ss : List (List UInt8)} {s : List UInt8} (h : s ∈ ss) (hs : sufB d s = true) : s.length ≤ (pubSuf ss d).length := by
  obtain ⟨b, h1, h2⟩ := best_ge d ss ss.length s (by rw [List.take_length]; exact h) hs
  rw [pubSuf, h1]; exact h2
theorem foldl_best {d h : List UInt8} : ∀ (ss : List (List UInt8)) (o : Option (List UInt8)), (∀ s ∈ ss, sufB d s = sufB h s) → ss.foldl (bestStep d) o = ss.foldl (bestStep h) o
  | [], _, _ => rfl
  | s :: r, o, hh => by
    simp only [List.foldl_cons]
    rw [foldl_best r _ (fun x hx => hh x (List.mem_cons_of_mem _ hx)), bestStep, bestStep, hh s List.mem_cons_self]

theorem sufOf_sub {listed : Bool} {ss : List (List UInt8)} {h d : List UInt8} (hd : dotSuf h d = true) (hl : (sufOf listed ss h).length < d.length) : sufOf listed ss d = sufOf listed ss h := by
  have hla : lastLabel d = lastLabel h := by
    obtain ⟨a, rfl⟩ := dotSuf_ex.1 hd
    exact (lastLabel_app a d).symm
  unfold sufOf at *
  split
  · rename_i hli
    rw [if_pos hli] at hl
    have hall : ∀ s ∈ ss, sufB d s = sufB h s := by
      intro s hs
      rw [Bool.eq_iff_iff]
      constructor
      · intro h1
        simp only [sufB, Bool.or_eq_true, decide_eq_true_eq] at h1 ⊢
        rcases h1 with h1 | h1
        · subst h1; exact Or.inr hd
        · exact Or.inr (dotSuf_trans hd h1)
      · intro h1
        have h2 := pubSuf_ge hs h1
        simp only [sufB, Bool.or_eq_true, decide_eq_true_eq] at h1 ⊢
        have h3 : d.length < h.length := by obtain ⟨a, rfl⟩ := dotSuf_ex.1 hd; simp; omega
        rcases h1 with h1 | h1
        · subst h1; omega
        · exact Or.inr (dotSuf_cut hd h1 (by omega))
    have hb : bestTo d ss ss.length = bestTo h ss ss.length := foldl_best _ _ (fun s hs => hall s (List.mem_of_mem_take hs))
    rw [pubSuf, pubSuf, hb, hla]
  · exact hla

/-- A domain of a host has its key, unless it is above its suffix. -/
theorem key_sub {listed : Bool} {ss : List (List UInt8)} {h d : List UInt8} (fh : Full h) (ih : ipB h = false) (id : ipB d = false) (hd : dotSuf h d = true) (hl : (sufOf listed ss h).length < d.length) :
    keyOf listed ss h = keyOf listed ss d := by
  have hs := sufOf_sub hd hl
  obtain ⟨a, rfl⟩ := dotSuf_ex.1 hd
  have fd := fh.cut.2
  have h1 : dotSuf (a ++ 46 :: d) (sufOf listed ss (a ++ 46 :: d)) = true := by
    rcases sufOf_suf listed ss (a ++ 46 :: d) with h | h
    · have := congrArg List.length h; simp at this; omega
    · exact h
  have h2 := dotSuf_cut hd h1 hl
  obtain ⟨y, hy⟩ := dotSuf_ex.1 h2
  rw [keyOf_eq fd id hs hy, keyOf_eq (x := a ++ 46 :: y) fh ih rfl (by rw [List.append_assoc, List.cons_append, ← hy]), lastLabel_app]
end Go.Proofs.YtckfgnbilcjdpaaGreatDoor
/- The reference's tests of hosts, and the package's reader of addresses (plain laws). -/
namespace Go.Proofs.YtckfgnbilcjdpaaGreatDoor
open Go.RowKit

def nameCh (c : UInt8) : Bool := wordCh c || c == 45
/-- A label of a name. -/
def labB (l : List UInt8) : Bool := !l.isEmpty && l.head? != some 45 && l.getLast? != some 45 && l.all nameCh
def isNameB (s : List UInt8) : Bool := (labs s).all labB
/-- A number of an address. -/
def octB (x : List UInt8) : Bool := digB x && decide (x.length ≤ 3) && !(decide (x.length = 3) && (!Op.bytesLess x [50, 53, 53] && !(x == [50, 53, 53]))) && !(decide (1 < x.length) && x.head? == some 48)
def isAddrB (s : List UInt8) : Bool := (labs s).all octB && decide ((labs s).length = 4)
def numB (s : List UInt8) : Bool := (labs s).all digB
/-- A host that the statements speak of. -/
def isHostB (s : List UInt8) : Bool := isNameB s && ((lastLabel s).map lowB != localhostB) && (isAddrB s && (labs s).head? != some [49, 50, 55] || !numB (lastLabel s))

/-- The number that digits say. -/
def val (x : List UInt8) : Nat := x.foldl (fun v c => v * 10 + (c.toNat - 48)) 0
def octOk (x : List UInt8) : Prop := x ≠ [] ∧ x.all digCh = true ∧ (1 < x.length → x.head? ≠ some 48) ∧ val x ≤ 255

theorem fold_ge : ∀ (x : List UInt8) (v : Nat), v ≤ x.foldl (fun v c => v * 10 + (c.toNat - 48)) v
  | [], v => Nat.le_refl _
  | c :: r, v => by
    simp only [List.foldl_cons]
    exact Nat.le_trans (by omega) (fold_ge r _)
theorem val_app (x y : List UInt8) : val (x ++ y) = y.foldl (fun v c => v * 10 + (c.toNat - 48)) (val x) := by rw [val, List.foldl_append]; rfl
theorem val_snoc (x : List UInt8) (c : UInt8) : val (x ++ [c]) = val x * 10 + (c.toNat - 48) := by rw [val_app]; rfl

theorem octB_iff (x : List UInt8) : octB x = true ↔ octOk x := by
  unfold octB octOk digB
  match x with
  | [] => simp
  | [a] =>
    simp only [val, digCh, List.foldl_cons, List.foldl_nil, List.all_cons, List.all_nil, List.isEmpty_cons, List.length_cons, List.length_nil, Bool.and_eq_true, decide_eq_true_eq, Bool.not_eq_true', Bool.and_eq_false_iff, decide_eq_false_iff_not]
    simp; omega
  | [a, b] =>
    simp only [val, digCh, List.foldl_cons, List.foldl_nil, List.all_cons, List.all_nil, List.isEmpty_cons, List.length_cons, List.length_nil, Bool.and_eq_true, decide_eq_true_eq, Bool.not_eq_true', Bool.and_eq_false_iff, decide_eq_false_iff_not, List.head?_cons]
    simp; omega
  | [a, b, c] =>
    have h1 : Op.bytesLess [a, b, c] [50, 53, 53] = true ↔ (a.toNat < 50 ∨ a.toNat = 50 ∧ (b.toNat < 53 ∨ b.toNat = 53 ∧ c.toNat < 53)) := by
      simp only [Op.bytesLess, Bool.or_eq_true, Bool.and_eq_true, decide_eq_true_eq, beq_iff_eq, Bool.and_false, Bool.or_false, UInt8.lt_iff_toNat_lt, ← UInt8.toNat_inj]
      simp
    have h3 : ([a, b, c] == [50, 53, 53]) = true ↔ a.toNat = 50 ∧ b.toNat = 53 ∧ c.toNat = 53 := by
      rw [beq_iff_eq]; simp [← UInt8.toNat_inj]
    have h2 : (!Op.bytesLess [a, b, c] [50, 53, 53] && !([a, b, c] == [50, 53, 53])) = false ↔ ¬ (50 < a.toNat ∨ a.toNat = 50 ∧ (53 < b.toNat ∨ b.toNat = 53 ∧ 53 < c.toNat)) := by
      rw [Bool.and_eq_false_iff, Bool.not_eq_false', Bool.not_eq_false', h1, h3]; omega
    simp only [val, digCh, List.foldl_cons, List.foldl_nil, List.all_cons, List.all_nil, List.isEmpty_cons, List.length_cons, List.length_nil, Bool.and_eq_true, decide_eq_true_eq, Bool.not_eq_true', h2, Bool.and_eq_false_iff, decide_eq_false_iff_not, List.head?_cons]
    have ha : (a = 48) ↔ a.toNat = 48 := by rw [← UInt8.toNat_inj]; rfl
    simp [ha]; omega
  | a :: b :: c :: d :: r =>
    constructor
    · intro h; simp at h
    · rintro ⟨_, h2, h3, h4⟩
      exfalso
      have h5 := fold_ge r (val [a, b, c, d])
      rw [← val_app] at h5
      have ha : 48 ≤ a.toNat := by
        simp only [List.all_cons, Bool.and_eq_true, digCh, decide_eq_true_eq] at h2; exact h2.1.1
      have h6 : a ≠ 48 := by intro e; exact h3 (by simp) (by rw [e]; rfl)
      have h7 : a.toNat ≠ 48 := fun e => h6 (UInt8.toNat_inj.1 e)
      have h8 : val [a, b, c, d] = (((0 * 10 + (a.toNat - 48)) * 10 + (b.toNat - 48)) * 10 + (c.toNat - 48)) * 10 + (d.toNat - 48) := rfl
      have h9 : val ([a, b, c, d] ++ r) = val (a :: b :: c :: d :: r) := rfl
      omega

theorem labs_cons_dot (r : List UInt8) : labs (46 :: r) = [] :: labs r := by simp [labs]
theorem labs_cons (c : UInt8) (r : List UInt8) (h : c ≠ 46) {a : List UInt8} {t : List (List UInt8)} (hr : labs r = a :: t) : labs (c :: r) = (c :: a) :: t := by
  simp only [labs, if_neg h, hr]

/-- The reader of addresses from a state on: p are the digits that it has seen of a number. -/
theorem ip4_from : ∀ (r p : List UInt8) (f pos : Nat) (a : List UInt8) (t : List (List UInt8)), labs r = a :: t → p.all digCh = true → (1 < p.length → p.head? ≠ some 48) → val p ≤ 255 → pos ≤ 3 →
    ((ip4 r f (val p) pos p.length).2 = true ↔ octOk (p ++ a) ∧ (∀ x ∈ t, octOk x) ∧ pos + t.length = 3) ∧ ((ip4 r f (val p) pos p.length).2 = true → (ip4 r f (val p) pos p.length).1 = if pos = 0 then val (p ++ a) else f)
  | [], p, f, pos, a, t, hl, hd, hz, hv, hp => by
    simp only [labs, List.cons.injEq] at hl
    obtain ⟨rfl, rfl⟩ := hl
    simp only [ip4, List.append_nil, Bool.and_eq_true, decide_eq_true_eq, List.not_mem_nil, false_implies, implies_true, true_and, List.length_nil]
    refine ⟨⟨fun h => ⟨⟨List.length_pos_iff.1 h.2, hd, hz, hv⟩, by omega⟩, fun h => ⟨by omega, List.length_pos_iff.2 h.1.1⟩⟩, fun h => ?_⟩
    rw [if_neg (by omega)]
  | c :: r, p, f, pos, a, t, hl, hd, hz, hv, hp => by
    obtain ⟨b, u, hr⟩ : ∃ b u, labs r = b :: u := by
      cases h : labs r with
      | nil => exact absurd h (labs_ne r)
      | cons b u => exact ⟨b, u, rfl⟩
    by_cases h1 : 48 ≤ c.toNat ∧ c.toNat ≤ 57
    · have hc : c ≠ 46 := by rintro rfl; exact absurd h1.1 (by decide)
      rw [labs_cons c r hc hr] at hl
      simp only [List.cons.injEq] at hl
      obtain ⟨rfl, rfl⟩ := hl
      rw [ip4, if_pos h1]
      have hdc : digCh c = true := by simp [digCh, h1]
      by_cases h2 : p.length = 1 ∧ val p = 0
      · rw [if_pos h2]
        refine ⟨⟨fun h => absurd h (by decide), fun h => ?_⟩, fun h => absurd h (by decide)⟩
        exfalso
        obtain ⟨q, rfl⟩ : ∃ q, p = [q] := List.length_eq_one_iff.1 h2.1
        have h3 := h.1.2.2.1 (by simp)
        simp only [List.all_cons, List.all_nil, Bool.and_true, digCh, Bool.and_eq_true, decide_eq_true_eq] at hd
        have h4 : val [q] = 0 * 10 + (q.toNat - 48) := rfl
        apply h3
        have h5 : q.toNat = 48 := by omega
        rw [show q = 48 from UInt8.toNat_inj.1 h5]; rfl
      · rw [if_neg h2]
        have hz' : 1 < (p ++ [c]).length → (p ++ [c]).head? ≠ some 48 := by
          intro h
          cases p with
          | nil => simp at h
          | cons q p' =>
            cases p' with
            | nil =>
              intro e
              have e' : q = 48 := by simpa using e
              subst e'
              exact h2 ⟨rfl, rfl⟩
            | cons q' p'' =>
              have := hz (by simp)
              simpa using this
        by_cases h3 : 255 < val p * 10 + (c.toNat - 48)
        · rw [if_pos h3]
          refine ⟨⟨fun h => absurd h (by decide), fun h => ?_⟩, fun h => absurd h (by decide)⟩
          exfalso
          have h4 := h.1.2.2.2
          have h5 := fold_ge b (val (p ++ [c]))
          rw [← val_app, List.append_assoc, List.singleton_append, val_snoc] at h5
          omega
        · rw [if_neg h3]
          have ih := ip4_from r (p ++ [c]) f pos b u hr (by simp [hd, hdc]) hz' (by rw [val_snoc]; omega) hp
          rw [val_snoc, List.length_append, List.length_singleton, List.append_assoc, List.singleton_append] at ih
          exact ih
    · rw [ip4, if_neg h1]
      by_cases h2 : c.toNat = 46
      · obtain rfl : c = 46 := UInt8.toNat_inj.1 h2
        rw [labs_cons_dot, hr] at hl
        simp only [List.cons.injEq] at hl
        obtain ⟨rfl, rfl⟩ := hl
        rw [if_pos h2, List.append_nil]
        by_cases h3 : p.length = 0 ∨ r = [] ∨ pos = 3
        · rw [if_pos h3]
          refine ⟨⟨fun h => absurd h (by decide), fun h => ?_⟩, fun h => absurd h (by decide)⟩
          exfalso
          rcases h3 with h3 | h3 | h3
          · exact h.1.1 (List.length_eq_zero_iff.1 h3)
          · subst h3
            simp only [labs, List.cons.injEq] at hr
            exact (h.2.1 b (by simp)).1 hr.1.symm
          · have := h.2.2; simp at this; omega
        · rw [if_neg h3]
          have hpos : pos + 1 ≤ 3 := by omega
          have ih := ip4_from r [] (if pos = 0 then val p else f) (pos + 1) b u hr rfl (by simp) (by decide) hpos
          have hv0 : val [] = 0 := rfl
          rw [hv0, List.length_nil, List.nil_append, if_neg (Nat.succ_ne_zero pos)] at ih
          refine ⟨⟨fun h => ?_, fun h => ?_⟩, ih.2⟩
          · obtain ⟨i1, i2, i3⟩ := ih.1.1 h
            refine ⟨⟨fun e => h3 (Or.inl (by rw [e]; rfl)), hd, hz, hv⟩, ?_, by simp; omega⟩
            intro x hx
            rcases List.mem_cons.1 hx with rfl | hx
            · exact i1
            · exact i2 x hx
          · refine ih.1.2 ⟨h.2.1 b (by simp), fun x hx => h.2.1 x (by simp [hx]), ?_⟩
            have := h.2.2; simp at this; omega
      · rw [if_neg h2]
        have hc : c ≠ 46 := fun e => h2 (by rw [e]; rfl)
        rw [labs_cons c r hc hr] at hl
        simp only [List.cons.injEq] at hl
        obtain ⟨rfl, rfl⟩ := hl
        refine ⟨⟨fun h => absurd h (by decide), fun h => ?_⟩, fun h => absurd h (by decide)⟩
        exfalso
        have h4 := h.1.2.1
        simp only [List.all_append, List.all_cons, Bool.and_eq_true, digCh, decide_eq_true_eq] at h4
        exact h1 h4.2.1

theorem ip4_all (s : List UInt8) : ipB s = isAddrB s ∧ (ipB s = true → (ip4 s 0 0 0 0).1 = val ((labs s).headD [])) := by
  obtain ⟨a, t, hl⟩ : ∃ b u, labs s = b :: u := by
    cases h : labs s with
    | nil => exact absurd h (labs_ne s)
    | cons b u => exact ⟨b, u, rfl⟩
  have h := ip4_from s [] 0 0 a t hl rfl (by simp) (by decide) (by omega)
  have hv0 : val [] = 0 := rfl
  rw [hv0, List.length_nil, List.nil_append, if_pos rfl] at h
  refine ⟨?_, fun hi => by rw [hl]; exact h.2 hi⟩
  rw [Bool.eq_iff_iff, ipB, h.1, isAddrB, hl]
  simp only [List.all_cons, Bool.and_eq_true, octB_iff, List.all_eq_true, decide_eq_true_eq, List.length_cons, Nat.zero_add, and_assoc, Nat.reduceEqDiff]
theorem ipB_eq (s : List UInt8) : ipB s = isAddrB s := (ip4_all s).1

theorem val_127 {x : List UInt8} (h : octOk x) (hv : val x = 127) : x = [49, 50, 55] := by
  have h0 := (octB_iff x).2 h
  obtain ⟨h1, h2, h3, h4⟩ := h
  match x with
  | [] => exact absurd rfl h1
  | [a] =>
    have : val [a] = 0 * 10 + (a.toNat - 48) := rfl
    simp only [List.all_cons, digCh, Bool.and_eq_true, decide_eq_true_eq] at h2; omega
  | [a, b] =>
    have : val [a, b] = (0 * 10 + (a.toNat - 48)) * 10 + (b.toNat - 48) := rfl
    simp only [List.all_cons, digCh, Bool.and_eq_true, decide_eq_true_eq] at h2; omega
  | [a, b, c] =>
    have h5 : val [a, b, c] = ((0 * 10 + (a.toNat - 48)) * 10 + (b.toNat - 48)) * 10 + (c.toNat - 48) := rfl
    simp only [List.all_cons, digCh, Bool.and_eq_true, decide_eq_true_eq] at h2
    have e1 : a.toNat = 49 := by omega
    have e2 : b.toNat = 50 := by omega
    have e3 : c.toNat = 55 := by omega
    rw [show a = 49 from UInt8.toNat_inj.1 e1, show b = 50 from UInt8.toNat_inj.1 e2, show c = 55 from UInt8.toNat_inj.1 e3]
  | a :: b :: c :: d :: r => exfalso; simp [octB] at h0
end Go.Proofs.YtckfgnbilcjdpaaGreatDoor
/- What follows for hosts and domains that the statements speak of (plain laws). -/
namespace Go.Proofs.YtckfgnbilcjdpaaGreatDoor
open Go.RowKit

theorem u8_all {p : UInt8 → Prop} [DecidablePred p] (h : ∀ n : Fin 256, p (UInt8.ofFin n)) (c : UInt8) : p c := h c.toFin
theorem name_host (c : UInt8) : nameCh c = true → (65 ≤ c.toNat ∧ c.toNat ≤ 90) ∨ (97 ≤ c.toNat ∧ c.toNat ≤ 122) ∨ (48 ≤ c.toNat ∧ c.toNat ≤ 57) ∨ c.toNat = 45 :=
  u8_all (p := fun c => nameCh c = true → (65 ≤ c.toNat ∧ c.toNat ≤ 90) ∨ (97 ≤ c.toNat ∧ c.toNat ≤ 122) ∨ (48 ≤ c.toNat ∧ c.toNat ≤ 57) ∨ c.toNat = 45) (by decide +kernel) c
theorem low46 (c : UInt8) : lowB c = 46 ↔ c = 46 := u8_all (p := fun c => lowB c = 46 ↔ c = 46) (by decide +kernel) c
theorem low45 (c : UInt8) : lowB c = 45 ↔ c = 45 := u8_all (p := fun c => lowB c = 45 ↔ c = 45) (by decide +kernel) c
theorem low_name (c : UInt8) : nameCh (lowB c) = nameCh c := u8_all (p := fun c => nameCh (lowB c) = nameCh c) (by decide +kernel) c
theorem low_dig (c : UInt8) : digCh (lowB c) = digCh c := u8_all (p := fun c => digCh (lowB c) = digCh c) (by decide +kernel) c
theorem dig_low (c : UInt8) : digCh c = true → lowB c = c := u8_all (p := fun c => digCh c = true → lowB c = c) (by decide +kernel) c
theorem low_low (c : UInt8) : lowB (lowB c) = lowB c := u8_all (p := fun c => lowB (lowB c) = lowB c) (by decide +kernel) c

theorem map_low_dig {x : List UInt8} (h : x.all digCh = true) : x.map lowB = x := by
  conv => rhs; rw [← List.map_id x]
  exact List.map_congr_left fun c hc => dig_low c (List.all_eq_true.1 h c hc)
theorem map_low_low (x : List UInt8) : (x.map lowB).map lowB = x.map lowB := by
  rw [List.map_map]; exact List.map_congr_left fun c _ => low_low c
theorem all_low (p : UInt8 → Bool) (h : ∀ c, p (lowB c) = p c) (x : List UInt8) : (x.map lowB).all p = x.all p := by
  rw [List.all_map]; congr 1; funext c; exact h c
theorem dig_lowB (x : List UInt8) : digB (x.map lowB) = digB x := by
  rw [digB, digB, all_low _ low_dig]; simp
theorem oct_lowB (x : List UInt8) : octB (x.map lowB) = octB x := by
  cases h : x.all digCh with
  | true => rw [map_low_dig h]
  | false =>
    have h1 : digB x = false := by rw [digB, h]; rfl
    rw [octB, octB, dig_lowB, h1]; rfl
theorem lab_lowB (x : List UInt8) : labB (x.map lowB) = labB x := by
  have h : ∀ o : Option UInt8, (o.map lowB != some 45) = (o != some 45) := by
    intro o
    cases o with
    | none => rfl
    | some c =>
      rw [Bool.eq_iff_iff, bne_iff_ne, bne_iff_ne]
      simp [low45]
  rw [labB, labB, List.head?_map, List.getLast?_map, h, h, all_low _ low_name]
  simp
theorem labs_low (s : List UInt8) : labs (s.map lowB) = (labs s).map (List.map lowB) := labs_map lowB low46 s
theorem lastLabel_low (s : List UInt8) : lastLabel (s.map lowB) = (lastLabel s).map lowB := by
  have h1 := labs_last (s.map lowB)
  rw [labs_low, List.getLast?_map, labs_last] at h1
  exact (Option.some.inj h1).symm
theorem all_labs_low (p : List UInt8 → Bool) (h : ∀ x, p (x.map lowB) = p x) (s : List UInt8) : (labs (s.map lowB)).all p = (labs s).all p := by
  rw [labs_low, List.all_map]; congr 1; funext c; exact h c
theorem isAddr_low (s : List UInt8) : isAddrB (s.map lowB) = isAddrB s := by
  rw [isAddrB, isAddrB, all_labs_low _ oct_lowB, labs_low, List.length_map]
theorem oct_dig {x : List UInt8} (h : octB x = true) : digB x = true := by
  simp only [octB, Bool.and_eq_true] at h; exact h.1.1.1
theorem dig_all {x : List UInt8} (h : digB x = true) : x.all digCh = true := by
  simp only [digB, Bool.and_eq_true] at h; exact h.1
theorem addr_dig {s : List UInt8} (h : isAddrB s = true) : ∀ c ∈ s, c = 46 ∨ digCh c = true := by
  intro c hc
  rcases mem_labs hc with h1 | ⟨x, hx, h2⟩
  · exact Or.inl h1
  · right
    simp only [isAddrB, Bool.and_eq_true] at h
    exact List.all_eq_true.1 (dig_all (oct_dig (List.all_eq_true.1 h.1 x hx))) c h2
theorem addr_low {s : List UInt8} (h : isAddrB s = true) : s.map lowB = s := by
  conv => rhs; rw [← List.map_id s]
  refine List.map_congr_left fun c hc => ?_
  rcases addr_dig h c hc with h1 | h1
  · subst h1; rfl
  · exact dig_low c h1
theorem isHost_low {s : List UInt8} (h : isHostB s = true) : isHostB (s.map lowB) = true := by
  have h1 : numB (lastLabel (s.map lowB)) = numB (lastLabel s) := by rw [lastLabel_low, numB, all_labs_low _ dig_lowB, numB]
  have h2 : isNameB (s.map lowB) = isNameB s := by rw [isNameB, all_labs_low _ lab_lowB, isNameB]
  rw [isHostB] at h ⊢
  rw [h1, h2, isAddr_low, lastLabel_low, map_low_low]
  cases ha : isAddrB s with
  | false => rw [ha] at h; exact h
  | true => rw [addr_low ha]; rw [ha] at h; exact h

theorem labB_ne {x : List UInt8} (h : labB x = true) : x ≠ [] := by rintro rfl; simp [labB] at h
theorem host_full {s : List UInt8} (h : isHostB s = true) : Full s := by
  intro x hx
  simp only [isHostB, Bool.and_eq_true] at h
  exact labB_ne (List.all_eq_true.1 h.1.1 x hx)
theorem host_ch {s : List UInt8} (h : isHostB s = true) : ∀ c ∈ s, hostCh c := by
  intro c hc
  rcases mem_labs hc with h1 | ⟨x, hx, h2⟩
  · subst h1; right; right; right; right; rfl
  · simp only [isHostB, Bool.and_eq_true] at h
    have := List.all_eq_true.1 h.1.1 x hx
    simp only [labB, Bool.and_eq_true] at this
    rcases name_host c (List.all_eq_true.1 this.2 c h2) with h3 | h3 | h3 | h3
    · exact Or.inl h3
    · exact Or.inr (Or.inl h3)
    · exact Or.inr (Or.inr (Or.inl h3))
    · exact Or.inr (Or.inr (Or.inr (Or.inl h3)))
theorem host_good {s : List UInt8} (h : isHostB s = true) : GoodHost s := ⟨host_ch h, (host_full h).last, (host_full h).ne⟩
theorem host_local {s : List UInt8} (h : isHostB s = true) : (lastLabel s).map lowB ≠ localhostB := by
  simp only [isHostB, Bool.and_eq_true, bne_iff_ne] at h; exact h.1.2
theorem addr_last {s : List UInt8} (h : isAddrB s = true) : numB (lastLabel s) = true := by
  simp only [isAddrB, Bool.and_eq_true] at h
  have h1 := oct_dig (List.all_eq_true.1 h.1 _ (lastLabel_mem s))
  rw [numB, labs_one (labs_nodot (lastLabel_mem s))]; simp [h1]
theorem host_num {s : List UInt8} (h : isHostB s = true) (hn : numB (lastLabel s) = true) : isAddrB s = true ∧ (labs s).head? ≠ some [49, 50, 55] := by
  simp only [isHostB, hn, Bool.not_true, Bool.or_false, Bool.and_eq_true, bne_iff_ne] at h
  exact h.2
theorem host_loop {s : List UInt8} (h : isHostB s = true) : ¬ loopB s := by
  rintro ⟨h1, h2⟩
  have ha : isAddrB s = true := by rw [← ipB_eq]; exact h1
  have h3 := host_num h (addr_last ha)
  rw [(ip4_all s).2 h1] at h2
  cases hl : labs s with
  | nil => exact labs_ne s hl
  | cons a t =>
    rw [hl] at h2 h3
    have ho : octOk a := by
      simp only [isAddrB, Bool.and_eq_true] at ha
      exact (octB_iff a).1 (List.all_eq_true.1 ha.1 a (by rw [hl]; simp))
    exact h3.2 (by rw [val_127 ho h2]; rfl)

/-- No address ends with a host behind a dot, and no host with an address. -/
theorem sub_addr {h d : List UInt8} (hh : isHostB h = true) (hd : isHostB d = true) (hs : dotSuf h d = true) : isAddrB h = false ∧ isAddrB d = false := by
  obtain ⟨a, rfl⟩ := dotSuf_ex.1 hs
  have hl := lastLabel_app a d
  have key : ¬ (isAddrB (a ++ 46 :: d) = true ∧ isAddrB d = true) := by
    rintro ⟨h1, h2⟩
    simp only [isAddrB, Bool.and_eq_true, decide_eq_true_eq] at h1 h2
    have h3 := h1.2
    rw [labs_app, List.length_append, h2.2] at h3
    have := List.length_pos_iff.2 (labs_ne a)
    omega
  constructor
  · rw [Bool.eq_false_iff]; intro h1
    exact key ⟨h1, (host_num hd (hl ▸ addr_last h1)).1⟩
  · rw [Bool.eq_false_iff]; intro h1
    exact key ⟨(host_num hh (hl ▸ addr_last h1)).1, h1⟩

/-- The reference's public suffix. -/
def sufS (ss : List (List UInt8)) (d : List UInt8) : List UInt8 :=
  let out := ss.foldl (fun out s => if sufB d s = true ∧ out.length < s.length then s else out) []
  if out = [] then lastLabel d else out
theorem sufS_eq {ss : List (List UInt8)} (d : List UInt8) (h : ∀ s ∈ ss, s ≠ []) : sufS ss d = pubSuf ss d := by
  have key : ∀ (l : List (List UInt8)) (o : Option (List UInt8)), (∀ s ∈ l, s ≠ []) → (∀ s, o = some s → s ≠ []) →
      l.foldl (fun out s => if sufB d s = true ∧ out.length < s.length then s else out) (o.getD []) = (l.foldl (bestStep d) o).getD [] ∧ (∀ s, l.foldl (bestStep d) o = some s → s ≠ []) := by
    intro l
    induction l with
    | nil => intro o _ ho; exact ⟨rfl, ho⟩
    | cons s r ih =>
      intro o hl ho
      simp only [List.foldl_cons]
      have hs := hl s List.mem_cons_self
      have hstep : (if sufB d s = true ∧ (o.getD []).length < s.length then s else o.getD []) = (bestStep d o s).getD [] := by
        unfold bestStep
        by_cases h1 : sufB d s = true
        · cases o with
          | none =>
            rw [if_pos ⟨h1, List.length_pos_iff.2 hs⟩, if_pos ⟨h1, Or.inl rfl⟩]; rfl
          | some b =>
            by_cases h2 : b.length < s.length
            · rw [if_pos ⟨h1, h2⟩, if_pos ⟨h1, Or.inr h2⟩]; rfl
            · rw [if_neg (fun h => h2 h.2), if_neg]
              rintro ⟨_, h3 | h3⟩
              · cases h3
              · exact h2 h3
        · rw [if_neg (fun h => h1 h.1), if_neg (fun h => h1 h.1)]
      rw [hstep]
      refine ih _ (fun x hx => hl x (List.mem_cons_of_mem _ hx)) ?_
      intro x hx
      unfold bestStep at hx
      split at hx
      · cases hx; exact hs
      · exact ho x hx
  obtain ⟨k1, k2⟩ := key ss none h (fun s hs => by cases hs)
  simp only [sufS, pubSuf, bestTo, List.take_length]
  rw [Option.getD_none] at k1
  rw [k1]
  cases hb : ss.foldl (bestStep d) none with
  | none => simp
  | some s => simp [k2 s hb]

def withinB (h d : List UInt8) : Bool := decide (h = d) || !isAddrB h && dotSuf h d
/-- A cookie's domain by the reference, whether it is its host's alone, and whether it is taken. -/
def domS (listed : Bool) (ss : List (List UInt8)) (host raw : List UInt8) : List UInt8 × Bool × Bool :=
  let d := (trimPre raw 46).map lowB
  if d = [] then (host, true, true)
  else if (listed = true ∧ isAddrB d = false) ∧ sufS ss d = d then (host, true, decide (d = host))
  else (d, false, withinB host d)
/-- The statements speak of a cookie's domain. -/
def plainB (listed : Bool) (s : List UInt8) : Bool :=
  s.isEmpty || ((!(s.head? == some 46) || !isAddrB (trimPre s 46)) && isHostB (trimPre s 46) && (listed || decide (1 < (labs (trimPre s 46)).length)))
/-- Suffixes that the statements speak of. -/
def SufOk (ss : List (List UInt8)) : Prop := ∀ s ∈ ss, isHostB s = true ∧ isAddrB s = false ∧ s.map lowB = s

theorem dotSuf_self (d : List UInt8) : dotSuf d d = false := by
  rw [Bool.eq_false_iff]; intro h
  obtain ⟨a, e⟩ := dotSuf_ex.1 h
  have := congrArg List.length e; simp at this; omega
theorem pubSuf_mem (ss : List (List UInt8)) (d : List UInt8) : pubSuf ss d ∈ ss ∨ pubSuf ss d = lastLabel d := by
  have key : ∀ (l : List (List UInt8)) (o : Option (List UInt8)) (s : List UInt8), l.foldl (bestStep d) o = some s → s ∈ l ∨ o = some s := by
    intro l
    induction l with
    | nil => intro o s h; exact Or.inr h
    | cons x r ih =>
      intro o s h
      rcases ih _ s h with h1 | h1
      · exact Or.inl (List.mem_cons_of_mem _ h1)
      · unfold bestStep at h1
        split at h1
        · cases h1; exact Or.inl List.mem_cons_self
        · exact Or.inr h1
  rw [pubSuf, bestTo, List.take_length]
  cases hb : ss.foldl (bestStep d) none with
  | none => exact Or.inr rfl
  | some s =>
    rcases key ss none s hb with h | h
    · exact Or.inl h
    · cases h
theorem pubSuf_noaddr {ss : List (List UInt8)} {d : List UInt8} (hs : SufOk ss) (h : pubSuf ss d = d) : isAddrB d = false := by
  rcases pubSuf_mem ss d with h1 | h1
  · rw [h] at h1; exact (hs d h1).2.1
  · rw [h] at h1
    rw [Bool.eq_false_iff]; intro h2
    simp only [isAddrB, Bool.and_eq_true, decide_eq_true_eq] at h2
    have h3 := h2.2
    rw [labs_one (h1 ▸ labs_nodot (lastLabel_mem d))] at h3
    simp at h3
end Go.Proofs.YtckfgnbilcjdpaaGreatDoor
/- Domains, keys and what is sent: the package's rules and the reference's (plain laws). -/
namespace Go.Proofs.YtckfgnbilcjdpaaGreatDoor
open Go.RowKit

theorem plain_cases {listed : Bool} {raw : List UInt8} (h : plainB listed raw = true) : raw = [] ∨ raw ≠ [] ∧ (raw.head? = some 46 → isAddrB (trimPre raw 46) = false) ∧ isHostB (trimPre raw 46) = true ∧ (listed = true ∨ 1 < (labs (trimPre raw 46)).length) := by
  unfold plainB at h
  cases raw with
  | nil => exact Or.inl rfl
  | cons c r =>
    right
    simp only [List.isEmpty_cons, Bool.false_or, Bool.and_eq_true, Bool.or_eq_true, Bool.not_eq_true', beq_eq_false_iff_ne, decide_eq_true_eq] at h
    refine ⟨by simp, fun h1 => ?_, h.1.2, h.2⟩
    rcases h.1.1 with h2 | h2
    · exact absurd h1 h2
    · exact h2

theorem trim_low (raw : List UInt8) : trimPre (raw.map lowB) 46 = (trimPre raw 46).map lowB := by
  unfold trimPre
  rw [List.head?_map]
  cases raw with
  | nil => rfl
  | cons c r =>
    simp only [List.head?_cons, Option.map_some, Option.some.injEq, low46, List.map_cons, List.tail_cons]
    split <;> rfl
theorem trim_no {raw : List UInt8} (h : raw.head? ≠ some 46) : trimPre raw 46 = raw := by rw [trimPre, if_neg h]

theorem low_to_addr {x h : List UInt8} (ha : isAddrB h = true) (he : x.map lowB = h) : x = h := by
  subst he
  conv => lhs; rw [← List.map_id x]
  refine List.map_congr_left fun c hc => ?_
  have h1 := addr_dig ha (lowB c) (List.mem_map_of_mem hc)
  revert h1
  exact u8_all (p := fun c => lowB c = 46 ∨ digCh (lowB c) = true → id c = lowB c) (by decide +kernel) c

/-- The package's rule and the reference's say the same of a cookie's domain. -/
theorem dom_eq {listed : Bool} {ss : List (List UInt8)} {host raw : List UInt8} (hs : SufOk ss) (hh : isHostB host = true) (hp : plainB listed raw = true) :
    ((domS listed ss host raw).2.2 = false ∧ domType listed ss host raw = none) ∨
    ((domS listed ss host raw).2.2 = true ∧ ∃ al, domType listed ss host raw = some ((domS listed ss host raw).1, al) ∧ ((domS listed ss host raw).2.1 = true → al = true) ∧ (al = true → (domS listed ss host raw).2.1 = true ∨ isAddrB (domS listed ss host raw).1 = true)) := by
  rcases plain_cases hp with rfl | ⟨hne, hdot, hd, -⟩
  · right
    refine ⟨rfl, true, ?_, fun _ => rfl, fun _ => Or.inl rfl⟩
    rw [domType, if_pos rfl]; rfl
  · have hlow := isHost_low hd
    have hdn : (trimPre raw 46).map lowB ≠ [] := (host_full hlow).ne
    have hsne : ∀ s ∈ ss, s ≠ [] := fun s hm => (host_full (hs s hm).1).ne
    have hD : domS listed ss host raw = (if (listed = true ∧ isAddrB ((trimPre raw 46).map lowB) = false) ∧ pubSuf ss ((trimPre raw 46).map lowB) = (trimPre raw 46).map lowB then (host, true, decide ((trimPre raw 46).map lowB = host)) else ((trimPre raw 46).map lowB, false, withinB host ((trimPre raw 46).map lowB))) := by
      unfold domS
      simp only [if_neg hdn, sufS_eq _ hsne]
    rw [hD, domType, if_neg hne, ipB_eq]
    have haddr : isAddrB ((trimPre raw 46).map lowB) = isAddrB (trimPre raw 46) := isAddr_low _
    have htr : isAddrB host = true → ((trimPre raw 46).map lowB = host ↔ host = raw) := by
      intro ha
      constructor
      · intro e
        have h1 := low_to_addr ha e
        by_cases h2 : raw.head? = some 46
        · have := hdot h2; rw [h1, ha] at this; cases this
        · rw [trim_no h2] at h1; exact h1.symm
      · intro e
        subst e
        rw [trim_no (host_full hh).head]; exact addr_low ha
    generalize (trimPre raw 46).map lowB = d at *
    clear hD hdot hd
    by_cases ha : isAddrB host = true
    · rw [if_pos ha]
      have htr := htr ha
      by_cases hc : (listed = true ∧ isAddrB d = false) ∧ pubSuf ss d = d
      · rw [if_pos hc]
        have hne' : ¬ d = host := by rintro rfl; rw [hc.1.2] at ha; cases ha
        left
        refine ⟨by simp [hne'], ?_⟩
        rw [if_neg (fun e => hne' (htr.2 e))]
      · rw [if_neg hc]
        by_cases he : host = raw
        · right
          have hd' : d = host := htr.2 he
          refine ⟨by simp [withinB, hd'], true, by rw [if_pos he, hd'], fun _ => rfl, fun _ => Or.inr (by rw [hd']; exact ha)⟩
        · left
          refine ⟨?_, by rw [if_neg he]⟩
          simp only [withinB, ha, Bool.not_true, Bool.false_and, Bool.or_false, decide_eq_false_iff_not]
          exact fun e => he (htr.1 e.symm)
    · have ha' : isAddrB host = false := by simpa using ha
      rw [if_neg ha]
      have hcond : (listed = true ∧ pubSuf ss d ≠ [] ∧ dotSuf d (pubSuf ss d) = false) ↔ ((listed = true ∧ isAddrB d = false) ∧ pubSuf ss d = d) := by
        constructor
        · rintro ⟨h1, _, h3⟩
          have h4 : pubSuf ss d = d := by
            rcases pubSuf_suf ss d with h | h
            · exact h
            · rw [h3] at h; cases h
          exact ⟨⟨h1, pubSuf_noaddr hs h4⟩, h4⟩
        · rintro ⟨⟨h1, _⟩, h3⟩
          rw [h3]; exact ⟨h1, hdn, dotSuf_self d⟩
      by_cases hc : (listed = true ∧ isAddrB d = false) ∧ pubSuf ss d = d
      · rw [if_pos hc, if_pos (hcond.2 hc)]
        by_cases he : host = d
        · right; exact ⟨by simp [he], true, by rw [if_pos he], fun _ => rfl, fun _ => Or.inl rfl⟩
        · left; exact ⟨by simp [Ne.symm he], by rw [if_neg he]⟩
      · rw [if_neg hc, if_neg (fun h => hc (hcond.1 h))]
        by_cases he : host = d ∨ dotSuf host d = true
        · right
          refine ⟨?_, false, by rw [if_pos he], fun h => (Bool.false_ne_true h).elim, fun h => (Bool.false_ne_true h).elim⟩
          simp only [withinB, ha', Bool.not_false, Bool.true_and, Bool.or_eq_true, decide_eq_true_eq]; exact he
        · left
          refine ⟨?_, by rw [if_neg he]⟩
          rw [not_or] at he
          simp only [withinB, ha', Bool.not_false, Bool.true_and, Bool.or_eq_false_iff, decide_eq_false_iff_not]
          exact ⟨he.1, by simpa using he.2⟩

/-- What is known of a domain that is taken. -/
theorem dom_ok {listed : Bool} {ss : List (List UInt8)} {host raw : List UInt8} (hh : isHostB host = true) (hp : plainB listed raw = true) (hok : (domS listed ss host raw).2.2 = true) :
    isHostB (domS listed ss host raw).1 = true ∧ ((domS listed ss host raw).1 = host ∨ dotSuf host (domS listed ss host raw).1 = true) ∧ ((domS listed ss host raw).2.1 = true → (domS listed ss host raw).1 = host) ∧
    ((domS listed ss host raw).2.1 = false → (listed = true ∨ 1 < (labs (domS listed ss host raw).1).length)) := by
  rcases plain_cases hp with rfl | ⟨hne, hdot, hd, hl⟩
  · exact ⟨hh, Or.inl rfl, fun _ => rfl, fun h => absurd h (show ¬ (true = false) by decide)⟩
  · have hlow := isHost_low hd
    have hdn : (trimPre raw 46).map lowB ≠ [] := (host_full hlow).ne
    have hll : (labs ((trimPre raw 46).map lowB)).length = (labs (trimPre raw 46)).length := by rw [labs_low, List.length_map]
    by_cases hc : (listed = true ∧ isAddrB ((trimPre raw 46).map lowB) = false) ∧ sufS ss ((trimPre raw 46).map lowB) = (trimPre raw 46).map lowB
    · have hD : domS listed ss host raw = (host, true, decide ((trimPre raw 46).map lowB = host)) := by unfold domS; simp only [if_neg hdn, if_pos hc]
      rw [hD]
      exact ⟨hh, Or.inl rfl, fun _ => rfl, fun h => absurd h (by simp)⟩
    · have hD : domS listed ss host raw = ((trimPre raw 46).map lowB, false, withinB host ((trimPre raw 46).map lowB)) := by unfold domS; simp only [if_neg hdn, if_neg hc]
      rw [hD] at hok ⊢
      dsimp only at hok ⊢
      refine ⟨hlow, ?_, fun h => absurd h Bool.false_ne_true, fun _ => by rw [hll]; exact hl⟩
      simp only [withinB, Bool.or_eq_true, decide_eq_true_eq, Bool.and_eq_true] at hok
      rcases hok with h | h
      · exact Or.inl h.symm
      · exact Or.inr h.2

theorem within_iff {h d : List UInt8} (hh : isHostB h = true) (hd : isHostB d = true) : withinB h d = true ↔ h = d ∨ dotSuf h d = true := by
  simp only [withinB, Bool.or_eq_true, decide_eq_true_eq, Bool.and_eq_true, Bool.not_eq_true']
  constructor
  · rintro (h1 | ⟨_, h1⟩)
    · exact Or.inl h1
    · exact Or.inr h1
  · rintro (h1 | h1)
    · exact Or.inl h1
    · exact Or.inr ⟨(sub_addr hh hd h1).1, h1⟩

/-- The reference's word of domains above the public suffix of a host. -/
def aboveB (listed : Bool) (ss : List (List UInt8)) (host d : List UInt8) : Bool := listed && !decide (host = d) && decide (d.length ≤ (sufS ss host).length)

/-- A domain that a host ends with, and that is not above, has the host's key. -/
theorem key_of {listed : Bool} {ss : List (List UInt8)} {h d : List UInt8} (hs : SufOk ss) (hh : isHostB h = true) (hd : isHostB d = true) (hw : h = d ∨ dotSuf h d = true) (hl : h = d ∨ listed = true ∨ 1 < (labs d).length)
    (ha : aboveB listed ss h d = false) : keyOf listed ss h = keyOf listed ss d := by
  by_cases he : h = d
  · rw [he]
  · have hw := hw.resolve_left he
    have hl2 := hl.resolve_left he
    clear hl
    obtain ⟨a1, a2⟩ := sub_addr hh hd hw
    refine key_sub (host_full hh) (by rw [ipB_eq]; exact a1) (by rw [ipB_eq]; exact a2) hw ?_
    cases listed with
    | true =>
      simp only [aboveB, Bool.true_and, decide_eq_false he, Bool.not_false, decide_eq_false_iff_not] at ha
      rw [sufOf, if_pos rfl, ← sufS_eq h (fun s hm => (host_full (hs s hm).1).ne)]; omega
    | false =>
      rw [sufOf, if_neg Bool.false_ne_true]
      obtain ⟨a, rfl⟩ := dotSuf_ex.1 hw
      rw [lastLabel_app]
      have h2 : 1 < (labs d).length := hl2.resolve_left Bool.false_ne_true
      rcases lastLabel_suf d with h3 | h3
      · have h4 := labs_one (h3 ▸ labs_nodot (lastLabel_mem d))
        rw [h4] at h2; simp at h2
      · obtain ⟨y, hy⟩ := dotSuf_ex.1 h3
        have := congrArg List.length hy; simp at this; omega

/-- Which hosts a cookie is sent to: both rules say the same. -/
theorem send_host {h d : List UInt8} {al ho : Bool} (hh : isHostB h = true) (hd : isHostB d = true) (h1 : al = true → ho = true) (h2 : ho = true → al = true ∨ isAddrB d = true) :
    (decide (h = d) || (!al && withinB h d)) = (decide (d = h) || (!ho && dotSuf h d)) := by
  by_cases he : h = d
  · simp [he]
  · rw [decide_eq_false he, decide_eq_false (Ne.symm he), Bool.false_or, Bool.false_or]
    cases hs : dotSuf h d with
    | false =>
      have : withinB h d = false := by rw [Bool.eq_false_iff]; intro hw; rcases (within_iff hh hd).1 hw with h3 | h3; exact he h3; rw [hs] at h3; cases h3
      rw [this]; simp
    | true =>
      have hw : withinB h d = true := (within_iff hh hd).2 (Or.inr hs)
      have ha := (sub_addr hh hd hs).2
      rw [hw, Bool.and_true, Bool.and_true]
      cases al <;> cases ho <;> simp_all
end Go.Proofs.YtckfgnbilcjdpaaGreatDoor
