/- Contracts of the reference's functions over labels. -/
import Derived.Test.YtckfgnbilcjdpaaGreatDoorQ21
import Derived.Test.YtckfgnbilcjdpaaGreatDoorQ06
import Derived.Test.YtckfgnbilcjdpaaGreatDoorQ07
namespace Go.Proofs.YtckfgnbilcjdpaaGreatDoor
open Go.RowKit
set_option maxRecDepth 100000

theorem info9 : (Tryz.prog.info? 9).map (fun i => (i.zero, i.size, i.bytes)) = some (some (.string ⟨#[]⟩), 1, 16) := by kernel_rfl
def encStr (x : List UInt8) : List Value := [.string (bs x)]

/-- One struct is appended to a slice that the call owns, of up to 2^32 structs. -/
theorem append_big {α : Type} {t e : TypeId} {i : TypeInfo} {z : Value} {enc : α → List Value} {k bytes : Nat} (hk : ∀ x, (enc x).length = k) (hone : ∀ x, ∀ u ∈ enc x, u.oneCell' = true) (hu : Tryz.prog.underlying t = some (.slice e)) (hi : Tryz.prog.info? e = some i) (hz : i.zero = some z) (hsz : i.size = k) (hby : i.bytes = bytes) (hzs : z.cells.size = k) (h0 : 0 < k) (hb : bytes ≤ 1000)
    {base : Nat} {v : Value} {L : List α} {w : World} (x : α) (g : Nat) (hr : RowOf w base e enc k v L) (hl : L.length ≤ 4294967296) (hbase : base ≤ w.heap.size) (hx : BlkAt w g (enc x)) :
    ∀ ty, ∃ v' w', (Builtin.append_ #[t, t] ty #[v, .slice (some ⟨g, 0, none⟩) 1 1]).run Tryz.prog w = .ok v' w' ∧ RowOf w' base e enc k v' (L ++ [x]) ∧ Keeps (fun j => v.ownBlock = some j) w w' ∧ (∀ j, v'.ownBlock = some j → v.ownBlock = some j ∨ j = w.heap.size) := by
  intro ty
  have hbyt : (L.length + 1) * bytes ≤ 140737488355328 := by
    have : (L.length + 1) * bytes ≤ 4294967297 * 1000 := Nat.mul_le_mul (by omega) hb
    omega
  obtain ⟨g', cap, w', h1, h2, h3, h4, _⟩ := run_append_lies (P := Tryz.prog) w t ty base e i z k bytes hu hi hz hsz hby hzs h0 v L.length (L.flatMap enc) hr ⟨g, 0, none⟩ 1 1 (enc x) (by rw [hk, Nat.one_mul])
    (fun j u hj => by rw [Addr.add_lit, Nat.zero_add]; exact (hx j u hj).1) (hone x) (by decide) (by simp only [maxLen]; omega) hbyt hbase w.heap.size rfl
  refine ⟨_, w', h1, ?_, ⟨h3.os, h3.tape, h3.output, h3.size, fun j hj hne => h3.block j hj (fun e => hne e.symm)⟩, ?_⟩
  case refine_2 => intro j hj; cases hj; exact h4
  unfold RowOf
  rw [List.length_append, List.flatMap_append]
  simpa using h2

theorem buildStr (x : List UInt8) (w : World) : (Instr.buildSlice 22 1 #[(0, .string (bs x))]).run Tryz.prog w = .ok (.slice (some ⟨w.heap.size, 0, none⟩) 1 1) (w.alloc (.cells (encStr x).toArray 9)) := by
  obtain ⟨i, hi, hz, hs, _⟩ := info_parts info9
  exact build_one (cs := encStr x) Tryz.underlying22 hi hz hs rfl (by decide : 0 < 1) (by decide : 1 ≤ 1000) _ rfl w
theorem appendStr {base : Nat} {v : Value} {L : List (List UInt8)} {w : World} (x : List UInt8) (g : Nat) (hr : RowOf w base 9 encStr 1 v L) (hl : L.length ≤ 4294967296) (hbase : base ≤ w.heap.size) (hx : BlkAt w g (encStr x)) :
    ∀ ty, ∃ v' w', (Builtin.append_ #[22, 22] ty #[v, .slice (some ⟨g, 0, none⟩) 1 1]).run Tryz.prog w = .ok v' w' ∧ RowOf w' base 9 encStr 1 v' (L ++ [x]) ∧ Keeps (fun j => v.ownBlock = some j) w w' ∧ (∀ j, v'.ownBlock = some j → v.ownBlock = some j ∨ j = w.heap.size) := by
  obtain ⟨i, hi, hz, hs, hb⟩ := info_parts info9
  exact append_big (enc := encStr) (k := 1) (fun _ => rfl) (fun x u hu => by simp only [encStr, List.mem_singleton] at hu; subst hu; rfl) Tryz.underlying22 hi hz hs hb rfl (by decide) (by decide) x g hr hl hbase hx

/-- What has been cut by the time that place k is looked at; from f on no dot has been met. -/
def LabTo (l : List UInt8) (L : List (List UInt8)) (f k : Nat) : Prop :=
  L.length ≤ k ∧ ((k ≤ l.length ∧ f ≤ k ∧ labs l = L ++ labs (l.drop f) ∧ 46 ∉ (l.take k).drop f) ∨ (k = l.length + 1 ∧ f ≤ k ∧ labs l = L))
theorem LabTo.start (l : List UInt8) : LabTo l [] 0 0 := ⟨Nat.zero_le _, Or.inl ⟨Nat.zero_le _, Nat.le_refl _, by simp, by simp⟩⟩
theorem LabTo.fin {l : List UInt8} {L : List (List UInt8)} {f : Nat} (h : LabTo l L f l.length) : LabTo l (L ++ [l.drop f]) (l.length + 1) (l.length + 1) := by
  obtain ⟨h0, h | h⟩ := h
  · refine ⟨by simp; omega, Or.inr ⟨rfl, by omega, ?_⟩⟩
    have h1 := h.2.2.2
    rw [List.take_length] at h1
    rw [h.2.2.1, labs_one h1]
  · omega
theorem cut_at {l : List UInt8} {f k : Nat} (hf : f ≤ k) (hk : k < l.length) : l.drop f = (l.take k).drop f ++ l[k] :: l.drop (k + 1) := by
  conv => lhs; rw [← List.take_append_drop k l, List.drop_append_of_le_length (by rw [List.length_take]; omega)]
  rw [List.drop_eq_getElem_cons hk]
theorem LabTo.dot {l : List UInt8} {L : List (List UInt8)} {f k : Nat} (h : LabTo l L f k) (hk : k < l.length) (hc : l[k] = 46) : LabTo l (L ++ [(l.take k).drop f]) (k + 1) (k + 1) := by
  obtain ⟨h0, h | h⟩ := h
  · refine ⟨by simp; omega, Or.inl ⟨by omega, Nat.le_refl _, ?_, by simp⟩⟩
    rw [h.2.2.1, cut_at h.2.1 hk, hc, labs_app, labs_one h.2.2.2, List.append_assoc]
  · omega
theorem LabTo.go {l : List UInt8} {L : List (List UInt8)} {f k : Nat} (h : LabTo l L f k) (hk : k < l.length) (hc : l[k] ≠ 46) : LabTo l L f (k + 1) := by
  obtain ⟨h0, h | h⟩ := h
  · refine ⟨by omega, Or.inl ⟨by omega, by omega, h.2.2.1, ?_⟩⟩
    rw [List.take_succ_eq_append_getElem hk, List.drop_append_of_le_length (by rw [List.length_take]; omega)]
    intro hm
    rcases List.mem_append.1 hm with hm | hm
    · exact h.2.2.2 hm
    · rw [List.mem_singleton] at hm; exact hc hm.symm
  · omega
theorem LabTo.bound {l : List UInt8} {L : List (List UInt8)} {f k : Nat} (h : LabTo l L f k) (hk : k ≤ l.length) : f ≤ k := by
  obtain ⟨_, h | h⟩ := h
  · exact h.2.1
  · omega

set_option maxHeartbeats 4000000 in
theorem labels_any (l : List UInt8) (w : World) (hs : l.length ≤ 2147483648) :
    Calls Tryz.prog 47 #[.string (bs l)] w fun e w' => ∃ v, e = .returned v ∧ RowOf w' w.heap.size 9 encStr 1 v (labs l) ∧ RowKit.Below w.heap.size w w' := by
  go_enter Tryz.func47, Tryz.ntmps47
  go_wp2
  go_loopw [3, 4, 5] (fun v3 f i wx => ∃ (L : List (List UInt8)) (F k : Nat), k ≤ l.length + 1 ∧ F ≤ l.length + 1 ∧ i = .int .i64 k ∧ f = .int .i64 F ∧ Hid (LabTo l L F k) ∧ Hid (RowOf wx w.heap.size 9 encStr 1 v3 L) ∧ Hid (RowKit.Below w.heap.size w wx)) (fun _ _ i _ => l.length + 1 - (intOf i).toNat)
  case atStart => exact ⟨[], 0, 0, Nat.zero_le _, Nat.zero_le _, rfl, rfl, LabTo.start l, RowOf.nil _ _ _ _ _, Below.refl _ _⟩
  case round =>
    obtain ⟨L, F, k, hk, hF, rfl, rfl, hL, hr, hb⟩ := hrel
    by_cases hlt : k ≤ l.length
    · have hFk := hL.out.bound hlt
      have hLl : L.length ≤ 4294967296 := by have := hL.out.1; omega
      have hbs := hb.out.size
      by_cases hke : k = l.length
      · subst hke
        have hkb : (((l.length : Nat) : Int) == (l.length : Int)) = true := beq_iff_eq.2 rfl
        have HBV := Lib.hid (buildStr (l.drop F) wr)
        obtain ⟨v', w9, hap, hr9, hk9, hn9⟩ := appendStr (l.drop F) wr.heap.size (hr.out.alloc (.cells (encStr (l.drop F)).toArray 9)) hLl (by simp; omega) (BlkAt.made _ _ _) 22
        have HAP := Lib.hid hap; clear hap
        have HR9 := Lib.hid hr9; clear hr9
        have HB9 : Hid (RowKit.Below w.heap.size w w9) := (hb.out.alloc hbs _).trans (hk9.toBelow (by simp; omega) (fun g hg => (hr.out.own g hg).1))
        have HL9 := Lib.hid hL.out.fin
        clear hk9 hn9
        go_wp2_with (first | ((with_reducible refine wpL_build1 HBV.out ?_ ?_); rfl) | ((with_reducible refine wpL_append HAP.out ?_ ?_ ?_); rfl; rfl))
        exact ⟨⟨_, _, _, by omega, by omega, by go_num, by go_num, HL9, HR9, HB9⟩, by simp [intOf]⟩
      · have hkb : (((k : Nat) : Int) == (l.length : Int)) = false := by rw [Bool.eq_false_iff]; intro h; rw [beq_iff_eq] at h; omega
        have hkl : k < l.length := by omega
        by_cases hc : l[k] = 46
        · have hc' : ((l[k].toNat : Int) == 46) = true := by rw [hc]; rfl
          have HBV := Lib.hid (buildStr ((l.take k).drop F) wr)
          obtain ⟨v', w9, hap, hr9, hk9, hn9⟩ := appendStr ((l.take k).drop F) wr.heap.size (hr.out.alloc (.cells (encStr ((l.take k).drop F)).toArray 9)) hLl (by simp; omega) (BlkAt.made _ _ _) 22
          have HAP := Lib.hid hap; clear hap
          have HR9 := Lib.hid hr9; clear hr9
          have HB9 : Hid (RowKit.Below w.heap.size w w9) := (hb.out.alloc hbs _).trans (hk9.toBelow (by simp; omega) (fun g hg => (hr.out.own g hg).1))
          have HL9 := Lib.hid (hL.out.dot hkl hc)
          clear hk9 hn9 hc
          go_wp2_with (first | ((with_reducible refine wpL_build1 HBV.out ?_ ?_); rfl) | ((with_reducible refine wpL_append HAP.out ?_ ?_ ?_); rfl; rfl))
          exact ⟨⟨_, _, _, by omega, by omega, by go_num, by go_num, HL9, HR9, HB9⟩, by simp [intOf]; omega⟩
        · have hc' : ((l[k].toNat : Int) == 46) = false := u8_nbeq (d := 46) hc
          have HL9 := Lib.hid (hL.out.go hkl hc)
          clear hc
          go_wp2
          exact ⟨⟨_, _, _, by omega, by omega, by go_num, rfl, HL9, hr, hb⟩, by simp [intOf]; omega⟩
    · obtain rfl : k = l.length + 1 := by omega
      have hLL : Hid (labs l = L) := by
        obtain ⟨_, h | h⟩ := hL.out
        · omega
        · exact h.2.2
      go_wp2
      go_ret
      exact ⟨_, rfl, by rw [hLL.out]; exact hr.out, hb.out⟩
end Go.Proofs.YtckfgnbilcjdpaaGreatDoor
/- Contracts of the reference's tests of names, addresses and hosts. -/
namespace Go.Proofs.YtckfgnbilcjdpaaGreatDoor
open Go.RowKit
set_option maxRecDepth 100000

theorem RowOf.strs {w : World} {base : Nat} {v : Value} {L : List (List UInt8)} (h : RowOf w base 9 encStr 1 v L) : ∃ A cap, v = .slice A L.length cap ∧ CellsAt w A (strCells L) := by
  rcases h.form with ⟨rfl, rfl⟩ | ⟨g, cap, rfl, h1, h2⟩
  · exact ⟨none, 0, rfl, CellsAt.nil _ _⟩
  · refine ⟨_, cap, rfl, ?_⟩
    by_cases h0 : L = []
    · subst h0; exact CellsAt.nil _ _
    · right
      have hH := (RowOf.holds (enc := encStr) (k := 1) (fun _ => rfl) (by decide) h).2.1
      refine ⟨g, 0, rfl, ?_⟩
      intro j u hj
      have hjl : j < L.length := by
        have := (List.getElem?_eq_some_iff.1 hj).1; simpa [strCells] using this
      have hc := (hH.cell (i := j) (c := 0) (by simpa using hjl) (by decide)).1
      rw [show L.toArray[j]! = L[j] by rw [getElem!_pos L.toArray j (by simpa using hjl)]; simp] at hc
      have hu : u = .string (bs L[j]) := by
        simp only [strCells, List.getElem?_map, List.getElem?_eq_getElem hjl, Option.map_some, Option.some.injEq] at hj
        exact hj.symm
      rw [hu, show 0 + j = 0 + j * 1 + 0 by omega]; exact hc

theorem allG_take {α : Type} {l : List α} {p : α → Bool} {k : Nat} (h : k < l.length) (ha : (l.take k).all p = true) (hp : p l[k] = true) : (l.take (k + 1)).all p = true := by
  rw [List.take_succ_eq_append_getElem h, List.all_append, ha]; simp [hp]
theorem allG_no {α : Type} {l : List α} {p : α → Bool} {k : Nat} (h : k < l.length) (hp : p l[k] = false) : l.all p = false := by
  rw [List.all_eq_false]; exact ⟨l[k], List.getElem_mem h, by simp [hp]⟩

theorem labs_len : ∀ l : List UInt8, (labs l).length ≤ l.length + 1
  | [] => by simp [labs]
  | c :: r => by
    have ih := labs_len r
    simp only [labs]
    split
    · simp; omega
    · cases h : labs r with
      | nil => simp
      | cons a t => rw [h] at ih; simp at ih ⊢; omega
theorem labs_each : ∀ {l x : List UInt8}, x ∈ labs l → x.length ≤ l.length
  | [], x, h => by simp only [labs, List.mem_singleton] at h; subst h; simp
  | c :: r, x, h => by
    simp only [labs] at h
    split at h
    · rcases List.mem_cons.1 h with h | h
      · subst h; simp
      · exact Nat.le_trans (labs_each h) (by simp)
    · cases hr : labs r with
      | nil => exact absurd hr (labs_ne r)
      | cons a t =>
        rw [hr] at h
        rcases List.mem_cons.1 h with h | h
        · subst h
          have := labs_each (l := r) (x := a) (by rw [hr]; simp)
          simp; omega
        · exact Nat.le_trans (labs_each (l := r) (by rw [hr]; exact List.mem_cons_of_mem _ h)) (by simp)

set_option maxHeartbeats 4000000 in
theorem numbered_any (l : List UInt8) (w : World) (hs : l.length ≤ 2147483648) :
    Calls Tryz.prog 49 #[.string (bs l)] w fun e w' => e = .returned (.bool (numB l)) ∧ RowKit.Below w.heap.size w w' := by
  have HS := Lib.hid hs
  go_enter Tryz.func49, Tryz.ntmps49
  go_wp2_with fail
  refine (labels_any l _ HS.out).mono ?_
  rintro e w1 ⟨v, rfl, hr, hb⟩
  obtain ⟨A, cap, rfl, hA⟩ := hr.strs
  have HA := Lib.hid hA; clear hA hr
  have HB := Lib.hid hb; clear hb
  have hn := labs_len l
  go_wp2
  go_loop [8] (fun i => ∃ k : Nat, k ≤ (labs l).length ∧ i = .int .i64 k ∧ Hid (((labs l).take k).all digB = true)) (fun i => (labs l).length - (intOf i).toNat)
  case atStart => exact ⟨0, Nat.zero_le _, rfl, rfl⟩
  case round =>
    obtain ⟨k, hk, rfl, HT⟩ := hrel
    by_cases hlt : k < (labs l).length
    · obtain ⟨b, off, rfl, hc⟩ := strCells_get HA.out hlt
      have hx := labs_each (List.getElem_mem hlt)
      have HX : Hid ((labs l)[k].length ≤ maxLen) := by rw [Hid]; simp only [maxLen]; omega
      go_wp2_with fail
      refine (digits_any (labs l)[k] _ HX.out).mono ?_
      rintro e w2 ⟨rfl, rfl⟩
      cases hd : digB (labs l)[k] with
      | true =>
        have HD := Lib.hid (allG_take hlt HT.out hd); clear hd
        go_wp2
        go_round
        case rel => exact ⟨k + 1, by omega, by go_num, HD⟩
        case measure => simp [intOf]; omega
      | false =>
        have HD := Lib.hid (allG_no hlt hd); clear hd
        go_wp2
        go_ret
        exact ⟨ret_bool HD.out.symm, HB.out⟩
    · obtain rfl : k = (labs l).length := by omega
      have HD : Hid (numB l = true) := by have := HT.out; rwa [List.take_length] at this
      go_wp2
      go_ret
      exact ⟨ret_bool HD.out.symm, HB.out⟩

set_option maxHeartbeats 4000000 in
theorem isAddress_any (l : List UInt8) (w : World) (hs : l.length ≤ 2147483648) :
    Calls Tryz.prog 13 #[.string (bs l)] w fun e w' => e = .returned (.bool (isAddrB l)) ∧ RowKit.Below w.heap.size w w' := by
  have HS := Lib.hid hs
  go_enter Tryz.func13, Tryz.ntmps13
  go_wp2_with fail
  refine (labels_any l _ HS.out).mono ?_
  rintro e w1 ⟨v, rfl, hr, hb⟩
  obtain ⟨A, cap, rfl, hA⟩ := hr.strs
  have HA := Lib.hid hA; clear hA hr
  have HB := Lib.hid hb; clear hb
  have hn := labs_len l
  go_wp2
  go_loop [10] (fun i => ∃ k : Nat, k ≤ (labs l).length ∧ i = .int .i64 k ∧ Hid (((labs l).take k).all octB = true)) (fun i => (labs l).length - (intOf i).toNat)
  case atStart => exact ⟨0, Nat.zero_le _, rfl, rfl⟩
  case round =>
    obtain ⟨k, hk, rfl, HT⟩ := hrel
    by_cases hlt : k < (labs l).length
    · obtain ⟨b, off, rfl, hc⟩ := strCells_get HA.out hlt
      have hx := labs_each (List.getElem_mem hlt)
      have HX : Hid ((labs l)[k].length ≤ maxLen) := by rw [Hid]; simp only [maxLen]; omega
      obtain ⟨x, hxe⟩ : ∃ x, x = (labs l)[k] := ⟨_, rfl⟩
      have HK : Hid (octB x = true → ((labs l).take (k + 1)).all octB = true) := fun h => allG_take hlt HT.out (by rw [← hxe]; exact h)
      have HN : Hid (octB x = false → isAddrB l = false) := fun h => by rw [isAddrB, allG_no hlt (by rw [← hxe]; exact h)]; rfl
      rw [← hxe] at hc hx HX
      clear hxe
      go_wp2_with fail
      refine (digits_any x _ HX.out).mono ?_
      rintro e w2 ⟨rfl, rfl⟩
      cases hd : digB x with
      | false =>
        have HF := Lib.hid (HN.out (by rw [octB, hd]; rfl)); clear hd
        go_wp2
        go_ret
        exact ⟨ret_bool HF.out.symm, HB.out⟩
      | true =>
        have hpos : 0 < x.length := by
          cases x with
          | nil => exact absurd hd (by decide)
          | cons c r => simp
        have HDI := Lib.hid hd; clear hd
        have h0 : ((x[0].toNat : Int) == 48) = (x.head? == some 48) := by
          rw [Bool.eq_iff_iff, show x.head? = some x[0] by rw [List.head?_eq_getElem?, List.getElem?_eq_getElem hpos], beq_iff_eq, beq_iff_eq, Option.some_inj, ← UInt8.toNat_inj, show (48 : UInt8).toNat = 48 from rfl]; omega
        by_cases h3 : x.length ≤ 3
        · cases hg1 : Op.bytesLess x [50, 53, 53] <;> cases hg2 : (x == [50, 53, 53]) <;> cases hz : ((x[0].toNat : Int) == 48) <;> by_cases h4 : x.length = 3 <;> by_cases h5 : 1 < x.length
          all_goals try (exfalso; omega)
          all_goals
            first
            | (have HF : Hid (isAddrB l = false) := HN.out (by rw [octB, HDI.out, hg1, hg2, ← h0, hz]; simp [h3, h4, h5])
               clear h0
               go_wp2
               go_ret
               exact ⟨ret_bool HF.out.symm, HB.out⟩)
            | (have HF : Hid (((labs l).take (k + 1)).all octB = true) := HK.out (by rw [octB, HDI.out, hg1, hg2, ← h0, hz]; simp [h3, h4, h5])
               clear h0
               go_wp2
               go_round
               case rel => exact ⟨k + 1, by omega, by go_num, HF⟩
               case measure => simp [intOf]; omega)
        · have HF : Hid (isAddrB l = false) := HN.out (by rw [octB, HDI.out]; simp [h3])
          clear h0
          go_wp2
          go_ret
          exact ⟨ret_bool HF.out.symm, HB.out⟩
    · obtain rfl : k = (labs l).length := by omega
      have HD : Hid (isAddrB l = decide ((labs l).length = 4)) := by have := HT.out; rw [List.take_length] at this; rw [Hid, isAddrB, this]; rfl
      go_wp2
      go_ret
      exact ⟨ret_bool (by rw [HD.out, Bool.eq_iff_iff, beq_iff_eq, decide_eq_true_eq]; omega), HB.out⟩
end Go.Proofs.YtckfgnbilcjdpaaGreatDoor
/- Contracts of the reference's tests of names and hosts. -/
namespace Go.Proofs.YtckfgnbilcjdpaaGreatDoor
open Go.RowKit
set_option maxRecDepth 100000

theorem head_bool {x : List UInt8} (h : 0 < x.length) (d : UInt8) : ((x[0].toNat : Int) == (d.toNat : Int)) = (x.head? == some d) := by
  rw [Bool.eq_iff_iff, u8_eq, show x.head? = some x[0] by rw [List.head?_eq_getElem?, List.getElem?_eq_getElem h], beq_iff_eq, Option.some_inj]
theorem last_bool {x : List UInt8} (h : 0 < x.length) (d : UInt8) : ((x[x.length - 1].toNat : Int) == (d.toNat : Int)) = (x.getLast? == some d) := by
  rw [Bool.eq_iff_iff, u8_eq, List.getLast?_eq_getElem?, List.getElem?_eq_getElem (by omega), beq_iff_eq, Option.some_inj]
theorem nameCh_yes {c : UInt8} (h : nameCh c = true) : (97 ≤ bits BinOp.or IntKind.u8 (c.toNat : Int) 32 ∧ bits BinOp.or IntKind.u8 (c.toNat : Int) 32 ≤ 122) ∨ (48 ≤ c.toNat ∧ c.toNat ≤ 57) ∨ c = 45 := by
  simp only [nameCh, wordCh, digCh, Bool.or_eq_true, Bool.and_eq_true, decide_eq_true_eq, beq_iff_eq] at h
  rw [or32]
  rcases h with (h | h) | h
  · left; omega
  · right; left; exact h
  · right; right; exact h
theorem nameCh_no {c : UInt8} (h : nameCh c = false) : (bits BinOp.or IntKind.u8 (c.toNat : Int) 32 < 97 ∨ 122 < bits BinOp.or IntKind.u8 (c.toNat : Int) 32) ∧ (c.toNat < 48 ∨ 57 < c.toNat) ∧ c ≠ 45 := by
  simp only [nameCh, wordCh, digCh, Bool.or_eq_false_iff, Bool.and_eq_false_iff, decide_eq_false_iff_not, beq_eq_false_iff_ne] at h
  rw [or32]
  obtain ⟨⟨h1, h2⟩, h3⟩ := h
  exact ⟨by omega, by omega, h3⟩

set_option maxHeartbeats 8000000 in
theorem isName_any (l : List UInt8) (w : World) (hs : l.length ≤ 2147483648) :
    Calls Tryz.prog 48 #[.string (bs l)] w fun e w' => e = .returned (.bool (isNameB l)) ∧ RowKit.Below w.heap.size w w' := by
  have HS := Lib.hid hs
  go_enter Tryz.func48, Tryz.ntmps48
  go_wp2_with fail
  refine (labels_any l _ HS.out).mono ?_
  rintro e w1 ⟨v, rfl, hr, hb⟩
  obtain ⟨A, cap, rfl, hA⟩ := hr.strs
  have HA := Lib.hid hA; clear hA hr
  have HB := Lib.hid hb; clear hb
  have hn := labs_len l
  go_wp2
  go_loop [10] (fun i => ∃ k : Nat, k ≤ (labs l).length ∧ i = .int .i64 k ∧ Hid (((labs l).take k).all labB = true)) (fun i => (labs l).length - (intOf i).toNat)
  case atStart => exact ⟨0, Nat.zero_le _, rfl, rfl⟩
  case round =>
    obtain ⟨k, hk, rfl, HT⟩ := hrel
    by_cases hlt : k < (labs l).length
    · obtain ⟨b, off, rfl, hc⟩ := strCells_get HA.out hlt
      have hx := labs_each (List.getElem_mem hlt)
      obtain ⟨x, hxe⟩ : ∃ x, x = (labs l)[k] := ⟨_, rfl⟩
      have HK : Hid (labB x = true → ((labs l).take (k + 1)).all labB = true) := fun h => allG_take hlt HT.out (by rw [← hxe]; exact h)
      have HN : Hid (labB x = false → isNameB l = false) := fun h => by rw [isNameB, allG_no hlt (by rw [← hxe]; exact h)]
      rw [← hxe] at hc hx
      clear hxe
      cases x with
      | nil =>
        have HF := Lib.hid (HN.out rfl)
        go_wp2
        go_ret
        exact ⟨ret_bool HF.out.symm, HB.out⟩
      | cons c0 r0 =>
        have hpos : 0 < (c0 :: r0).length := by simp
        have hne : ((c0 :: r0) == []) = false := rfl
        generalize c0 :: r0 = x at *
        have q1 : IntKind.i64.wrap ((x.length : Int) - 1) = (x.length : Int) - 1 := IntWalk.i64_in _ (by omega)
        have q2 := index_bs x (x.length - 1) ((x.length : Int) - 1) (by omega) (by omega)
        have hemp : x.isEmpty = false := by cases x with | nil => simp at hpos | cons => rfl
        have hB : Hid (labB x = (x.head? != some 45 && x.getLast? != some 45 && x.all nameCh)) := by rw [Hid, labB, hemp]; rfl
        have HH := Lib.hid (head_bool hpos 45)
        have HLa := Lib.hid (last_bool hpos 45)
        cases hz : ((x[0].toNat : Int) == 45) with
        | true =>
          have HF := Lib.hid (HN.out (by rw [hB.out, bne, ← HH.out, show ((x[0].toNat : Int) == ((45 : UInt8).toNat : Int)) = true from hz]; rfl))
          go_wp2
          go_ret
          exact ⟨ret_bool HF.out.symm, HB.out⟩
        | false =>
          cases hy : ((x[x.length - 1].toNat : Int) == 45) with
          | true =>
            have HF := Lib.hid (HN.out (by rw [hB.out, bne, ← HH.out, show ((x[0].toNat : Int) == ((45 : UInt8).toNat : Int)) = false from hz, bne, ← HLa.out, show ((x[x.length - 1].toNat : Int) == ((45 : UInt8).toNat : Int)) = true from hy]; rfl))
            go_wp2
            go_ret
            exact ⟨ret_bool HF.out.symm, HB.out⟩
          | false =>
            have hB2 : Hid (labB x = x.all nameCh) := by
              rw [Hid, hB.out, bne, ← HH.out, show ((x[0].toNat : Int) == ((45 : UInt8).toNat : Int)) = false from hz, bne, ← HLa.out, show ((x[x.length - 1].toNat : Int) == ((45 : UInt8).toNat : Int)) = false from hy]; rfl
            clear hB HH HLa
            go_wp2
            go_loop [31] (fun i => ∃ j : Nat, j ≤ x.length ∧ i = .int .i64 j ∧ Hid ((x.take j).all nameCh = true)) (fun i => x.length - (intOf i).toNat)
            case atStart => exact ⟨0, Nat.zero_le _, rfl, rfl⟩
            case round =>
              obtain ⟨j, hj, rfl, HJ⟩ := hrel
              by_cases hjl : j < x.length
              · cases hd : nameCh x[j] with
                | true =>
                  have HD := Lib.hid (all_take_succ hjl HJ.out hd)
                  have hd' := nameCh_yes hd
                  clear hd
                  rcases hd' with ⟨h1, h2⟩ | ⟨h1, h2⟩ | h1
                  · go_wp2
                    go_round
                    case rel => exact ⟨j + 1, by omega, by go_num, HD⟩
                    case measure => simp [intOf]; omega
                  · go_wp2
                    all_goals
                      go_round
                      case rel => exact ⟨j + 1, by omega, by go_num, HD⟩
                      case measure => simp [intOf]; omega
                  · have h3 : ((x[j].toNat : Int) != 45) = false := u8_isf (d := 45) h1
                    have h4 : x[j].toNat = 45 := by rw [h1]; rfl
                    have h5 : bits BinOp.or IntKind.u8 (x[j].toNat : Int) 32 = 45 := by rw [h1]; decide
                    clear h1
                    go_wp2
                    go_round
                    case rel => exact ⟨j + 1, by omega, by go_num, HD⟩
                    case measure => simp [intOf]; omega
                | false =>
                  have HF := Lib.hid (HN.out (by rw [hB2.out]; exact all_no hjl hd))
                  obtain ⟨h1, h2, h3⟩ := nameCh_no hd
                  have h3' : ((x[j].toNat : Int) != 45) = true := u8_neq (d := 45) h3
                  clear hd h3
                  rcases h1 with h1 | h1 <;> rcases h2 with h2 | h2
                  all_goals
                    go_wp2
                    go_ret
                    exact ⟨ret_bool HF.out.symm, HB.out⟩
              · have hjd : j = x.length := Nat.le_antisymm hj (Nat.le_of_not_lt hjl)
                have HF : Hid (((labs l).take (k + 1)).all labB = true) := HK.out (by rw [hB2.out]; have := HJ.out; rwa [hjd, List.take_length] at this)
                go_wp2
                go_round
                case rel => exact ⟨k + 1, by omega, by go_num, HF⟩
                case measure => simp [intOf]; omega
    · obtain rfl : k = (labs l).length := by omega
      have HD : Hid (isNameB l = true) := by have := HT.out; rwa [List.take_length] at this
      go_wp2
      go_ret
      exact ⟨ret_bool HD.out.symm, HB.out⟩
end Go.Proofs.YtckfgnbilcjdpaaGreatDoor
/- Contracts of the reference's tests of hosts and domains. -/
namespace Go.Proofs.YtckfgnbilcjdpaaGreatDoor
open Go.RowKit
set_option maxRecDepth 100000

theorem labs_getLast (l : List UInt8) (h : (labs l).length - 1 < (labs l).length) : (labs l)[(labs l).length - 1] = lastLabel l := by
  have := labs_last l
  rw [List.getLast?_eq_getElem?, List.getElem?_eq_getElem h] at this
  exact Option.some.inj this

set_option maxHeartbeats 4000000 in
theorem isHost_any (l : List UInt8) (w : World) (hs : l.length ≤ 2147483648) :
    Calls Tryz.prog 12 #[.string (bs l)] w fun e w' => e = .returned (.bool (isHostB l)) ∧ RowKit.Below w.heap.size w w' := by
  have HS := Lib.hid hs
  go_enter Tryz.func12, Tryz.ntmps12
  go_wp2_with fail
  refine (labels_any l _ HS.out).mono ?_
  rintro e w1 ⟨v, rfl, hr, hb⟩
  obtain ⟨A, cap, rfl, hA⟩ := hr.strs
  have hpos : 0 < (labs l).length := List.length_pos_iff.2 (labs_ne l)
  obtain ⟨b, off, rfl, hc⟩ := strCells_get hA (show (labs l).length - 1 < (labs l).length by omega)
  rw [labs_getLast] at hc
  obtain ⟨_, _, hbo, hc0⟩ := strCells_get hA (show 0 < (labs l).length by omega)
  cases hbo
  obtain ⟨x0, hx0⟩ : ∃ x, x = (labs l)[0] := ⟨_, rfl⟩
  rw [← hx0] at hc0
  have hh0 : Hid ((labs l).head? = some x0) := by rw [Hid, List.head?_eq_getElem?, List.getElem?_eq_getElem hpos, hx0]
  have hbl : b < w1.heap.size := World.block_lt_of_cell? w1 _ hc
  have HA := Lib.hid hc0; clear hc0 hA hr hx0
  have HB := Lib.hid hb; clear hb
  have hn := labs_len l
  have hll := labs_each (lastLabel_mem l)
  obtain ⟨la, hla⟩ : ∃ la, la = lastLabel l := ⟨_, rfl⟩
  have HI : Hid (isHostB l = (isNameB l && (la.map lowB != localhostB) && (isAddrB l && (labs l).head? != some [49, 50, 55] || !numB la))) := by rw [Hid, hla]; rfl
  rw [← hla] at hc hll
  clear hla
  have q1 : IntKind.i64.wrap (((labs l).length : Int) - 1) = ((labs l).length : Int) - 1 := IntWalk.i64_in _ (by omega)
  have HLL : Hid (la.length ≤ 2147483648) := Nat.le_trans hll HS.out
  have HLM : Hid (la.length ≤ maxLen) := Nat.le_trans hll (Nat.le_trans HS.out (by decide))
  clear hll
  go_wp2_with fail
  refine (isName_any l _ HS.out).mono ?_
  rintro e w2 ⟨rfl, hb2⟩
  have HB2 : Hid (RowKit.Below w.heap.size w w2) := HB.out.trans (hb2.mono HB.out.size)
  have hA2 : Hid (w2.cell? ⟨b, off + 0, none⟩ = some (.string (bs x0))) := (hb2.cell (show (⟨b, off + 0, none⟩ : Addr).block < _ from hbl)).trans HA.out
  have hbl2 : b < w2.heap.size := Nat.lt_of_lt_of_le hbl hb2.size
  clear HA hb2 hc hbl HB
  cases hN : isNameB l with
  | false =>
    have HF : Hid (isHostB l = false) := by rw [Hid, HI.out, hN]; rfl
    clear hN
    go_wp2
    go_ret
    exact ⟨ret_bool HF.out.symm, HB2.out⟩
  | true =>
    rw [hN] at HI
    clear hN
    go_wp2_with fail
    refine (lower_any la _ HLM.out).mono ?_
    rintro e w3 ⟨rfl, hb3⟩
    have HB3 : Hid (RowKit.Below w.heap.size w w3) := HB2.out.trans (hb3.mono HB2.out.size)
    have hA3 : Hid (w3.cell? ⟨b, off + 0, none⟩ = some (.string (bs x0))) := (hb3.cell (show (⟨b, off + 0, none⟩ : Addr).block < _ from hbl2)).trans hA2.out
    have hbl3 : b < w3.heap.size := Nat.lt_of_lt_of_le hbl2 hb3.size
    clear hA2 hb3 hbl2 HB2
    cases hL : (la.map lowB == localhostB) with
    | true =>
      have HF : Hid (isHostB l = false) := by rw [Hid, HI.out, bne, hL]; rfl
      have hL' : (la.map lowB == [108, 111, 99, 97, 108, 104, 111, 115, 116]) = true := hL
      clear hL
      go_wp2
      go_ret
      exact ⟨ret_bool HF.out.symm, HB3.out⟩
    | false =>
      rw [bne, hL] at HI
      have hL' : (la.map lowB == [108, 111, 99, 97, 108, 104, 111, 115, 116]) = false := hL
      clear hL
      go_wp2_with fail
      refine (isAddress_any l _ HS.out).mono ?_
      rintro e w4 ⟨rfl, hb4⟩
      have HB4 : Hid (RowKit.Below w.heap.size w w4) := HB3.out.trans (hb4.mono HB3.out.size)
      have hA4 := (hb4.cell (show (⟨b, off + 0, none⟩ : Addr).block < _ from hbl3)).trans hA3.out
      rw [Nat.add_zero] at hA4
      clear hA3 hb4 hbl3 HB3 hL'
      have hnum : ∀ w0, RowKit.Below w.heap.size w w0 → Calls Tryz.prog 49 #[.string (bs la)] w0 fun e w' => e = .returned (.bool (numB la)) ∧ RowKit.Below w.heap.size w w' := fun w0 h0 =>
        (numbered_any la w0 HLL.out).mono (fun e w' h => ⟨h.1, h0.trans (h.2.mono h0.size)⟩)
      have HNUM := Lib.hid hnum; clear hnum
      cases hAd : isAddrB l with
      | false =>
        rw [hAd] at HI
        clear hAd
        go_wp2_with fail
        refine (HNUM.out _ HB4.out).mono ?_
        rintro e w5 ⟨rfl, hb5⟩
        have HB5 := Lib.hid hb5; clear hb5
        go_wp2
        go_ret
        exact ⟨ret_bool (by rw [HI.out]; rfl), HB5.out⟩
      | true =>
        rw [hAd] at HI
        clear hAd
        cases h127 : (x0 == [49, 50, 55]) with
        | false =>
          have HF : Hid (isHostB l = true) := by rw [Hid, HI.out, hh0.out, bne, Option.some_beq_some, h127]; rfl
          go_wp2
          go_ret
          exact ⟨ret_bool HF.out.symm, HB4.out⟩
        | true =>
          have HF : Hid (isHostB l = !numB la) := by rw [Hid, HI.out, hh0.out, bne, Option.some_beq_some, h127]; rfl
          go_wp2_with fail
          refine (HNUM.out _ HB4.out).mono ?_
          rintro e w5 ⟨rfl, hb5⟩
          have HB5 := Lib.hid hb5; clear hb5
          go_wp2
          go_ret
          exact ⟨ret_bool (by rw [HF.out]), HB5.out⟩
end Go.Proofs.YtckfgnbilcjdpaaGreatDoor
/- Contracts of the reference's rules of domains. -/
namespace Go.Proofs.YtckfgnbilcjdpaaGreatDoor
open Go.RowKit
set_option maxRecDepth 100000

theorem cat_dot (l : List UInt8) : ({ data := #[46] } : ByteArray) ++ bs l = bs (46 :: l) := by
  apply bs_ext; simp [bs]
theorem isHostB_nil : isHostB [] = false := by decide +kernel

set_option maxHeartbeats 4000000 in
theorem plainDomain_any (listed : Bool) (s0 : List UInt8) (w : World) (hs : s0.length ≤ 2147483648) :
    Calls Tryz.prog 19 #[.bool listed, .string (bs s0)] w fun e w' => e = .returned (.bool (plainB listed s0)) ∧ RowKit.Below w.heap.size w w' := by
  cases s0 with
  | nil =>
    go_enter Tryz.func19, Tryz.ntmps19
    go_wp2
    go_ret
    exact ⟨rfl, Below.refl _ _⟩
  | cons c r =>
    have hlr : r.length ≤ 2147483648 := by simp at hs; omega
    have HLR := Lib.hid hlr
    have HLC := Lib.hid hs
    by_cases hc : c = 46
    · subst hc
      have HP : Hid (plainB listed (46 :: r) = (!isAddrB r && isHostB r && (listed || decide (1 < (labs r).length)))) := by
        simp [Hid, plainB, trimPre]
      simp only [List.length_cons] at hs
      generalize hs0 : (46 :: r) = s0 at HP
      go_enter Tryz.func19, Tryz.ntmps19
      subst hs0
      go_wp2_with fail
      refine (isAddress_any r _ HLR.out).mono ?_
      rintro e w1 ⟨rfl, hb⟩
      have HB := Lib.hid hb; clear hb
      cases hA : isAddrB r with
      | true =>
        have HF : Hid (plainB listed (46 :: r) = false) := by rw [Hid, HP.out, hA]; rfl
        clear hA
        go_wp2
        go_ret
        exact ⟨ret_bool HF.out.symm, HB.out⟩
      | false =>
        rw [hA, Bool.not_false, Bool.true_and] at HP
        clear hA
        cases hne : (r == []) with
        | true =>
          have hS0 : r = [] := beq_iff_eq.1 hne
          have HF : Hid (plainB listed (46 :: r) = false) := by rw [Hid, HP.out, hS0, isHostB_nil]; rfl
          clear hS0
          go_wp2
          go_ret
          exact ⟨ret_bool HF.out.symm, HB.out⟩
        | false =>
          go_wp2_with fail
          refine (isHost_any r _ HLR.out).mono ?_
          rintro e w2 ⟨rfl, hb2⟩
          have HB2 : Hid (RowKit.Below w.heap.size w w2) := HB.out.trans (hb2.mono HB.out.size)
          clear hb2
          cases hH : isHostB r with
          | false =>
            have HF : Hid (plainB listed (46 :: r) = false) := by rw [Hid, HP.out, hH]; rfl
            clear hH
            go_wp2
            go_ret
            exact ⟨ret_bool HF.out.symm, HB2.out⟩
          | true =>
            rw [hH] at HP
            clear hH
            cases listed with
            | true =>
              have HF : Hid (plainB true (46 :: r) = true) := HP.out
              go_wp2
              go_ret
              exact ⟨ret_bool HF.out.symm, HB2.out⟩
            | false =>
              go_wp2_with fail
              refine (labels_any r _ HLR.out).mono ?_
              rintro e w3 ⟨v, rfl, hr, hb3⟩
              obtain ⟨A, cap, rfl, _⟩ := hr.strs
              have HB3 : Hid (RowKit.Below w.heap.size w w3) := HB2.out.trans (hb3.mono HB2.out.size)
              have hn := labs_len r
              have hls := HLR.out
              clear hr hb3
              go_wp2
              go_ret
              refine ⟨ret_bool ?_, HB3.out⟩
              rw [HP.out, Bool.eq_iff_iff]; simp; omega
    · have HP : Hid (plainB listed (c :: r) = (isHostB (c :: r) && (listed || decide (1 < (labs (c :: r)).length)))) := by
        have : ((c :: r).head? == some 46) = false := by rw [beq_eq_false_iff_ne]; simpa using hc
        rw [Hid, plainB, this, trim_no (by simpa using hc)]; simp
      have hb46 : ((c.toNat : Int) == 46) = false := u8_nbeq (d := 46) hc
      have HB : Hid (RowKit.Below w.heap.size w w) := Below.refl _ _
      clear hc
      go_enter Tryz.func19, Tryz.ntmps19
      have hne : ((c :: r) == []) = false := rfl
      go_wp2_with fail
      refine (isHost_any (c :: r) _ HLC.out).mono ?_
      rintro e w2 ⟨rfl, hb2⟩
      have HB2 : Hid (RowKit.Below w.heap.size w w2) := HB.out.trans (hb2.mono HB.out.size)
      clear hb2
      cases hH : isHostB (c :: r) with
      | false =>
        have HF : Hid (plainB listed (c :: r) = false) := by rw [Hid, HP.out, hH]; rfl
        clear hH
        go_wp2
        go_ret
        exact ⟨ret_bool HF.out.symm, HB2.out⟩
      | true =>
        rw [hH] at HP
        clear hH
        cases listed with
        | true =>
          have HF : Hid (plainB true (c :: r) = true) := HP.out
          go_wp2
          go_ret
          exact ⟨ret_bool HF.out.symm, HB2.out⟩
        | false =>
          go_wp2_with fail
          refine (labels_any (c :: r) _ HLC.out).mono ?_
          rintro e w3 ⟨v, rfl, hr, hb3⟩
          obtain ⟨A, cap, rfl, _⟩ := hr.strs
          have HB3 : Hid (RowKit.Below w.heap.size w w3) := HB2.out.trans (hb3.mono HB2.out.size)
          have hn := labs_len (c :: r)
          have hls := HLC.out
          clear hr hb3
          go_wp2
          go_ret
          refine ⟨ret_bool ?_, HB3.out⟩
          rw [HP.out, Bool.eq_iff_iff]; simp; omega

end Go.Proofs.YtckfgnbilcjdpaaGreatDoor
/- Contracts of the reference's rules of domains: Suffix, within, above, Host. -/
namespace Go.Proofs.YtckfgnbilcjdpaaGreatDoor
open Go.RowKit
set_option maxRecDepth 100000

/-- The longest suffix among the first k. -/
def sufTo (ss : List (List UInt8)) (d : List UInt8) (k : Nat) : List UInt8 := (ss.take k).foldl (fun out s => if sufB d s = true ∧ out.length < s.length then s else out) []
theorem sufTo_succ (ss : List (List UInt8)) (d : List UInt8) (k : Nat) (h : k < ss.length) : sufTo ss d (k + 1) = if sufB d ss[k] = true ∧ (sufTo ss d k).length < ss[k].length then ss[k] else sufTo ss d k := by
  rw [sufTo, List.take_succ_eq_append_getElem h, List.foldl_append]; rfl
theorem sufTo_len {ss : List (List UInt8)} {d : List UInt8} {n : Nat} (h : ∀ s ∈ ss, s.length ≤ n) : ∀ k, (sufTo ss d k).length ≤ n
  | 0 => by simp [sufTo]
  | k + 1 => by
    by_cases hk : k < ss.length
    · rw [sufTo_succ _ _ _ hk]; split
      · exact h _ (List.getElem_mem hk)
      · exact sufTo_len h k
    · have := sufTo_len (d := d) h k
      rw [sufTo, List.take_of_length_le (by omega)] at this ⊢; exact this

set_option maxHeartbeats 4000000 in
theorem suffix_any (A : Option Addr) (cap : Nat) (ss : List (List UInt8)) (d : List UInt8) (w : World) (hA : CellsAt w A (strCells ss)) (hd : d.length ≤ 2147483648) (hn : ss.length ≤ 2147483648) (hs : ∀ s ∈ ss, s.length ≤ 2147483648) :
    Calls Tryz.prog 55 #[.slice A ss.length cap, .string (bs d)] w fun e w' => e = .returned (.string (bs (sufS ss d))) ∧ RowKit.Below w.heap.size w w' := by
  have HA := Lib.hid hA; clear hA
  have HS := Lib.hid hs; clear hs
  have HD := Lib.hid hd
  go_enter Tryz.func55, Tryz.ntmps55
  go_wp2
  go_loop [5, 11] (fun b i => ∃ (k : Nat) (out : List UInt8), k ≤ ss.length ∧ i = .int .i64 k ∧ b = .string (bs out) ∧ Hid (out = sufTo ss d k) ∧ out.length ≤ 2147483648) (fun _ i => ss.length - (intOf i).toNat)
  case atStart => exact ⟨0, [], Nat.zero_le _, rfl, rfl, rfl, Nat.zero_le _⟩
  case round =>
    obtain ⟨k, out, hk, rfl, rfl, HB, hol⟩ := hrel
    by_cases hlt : k < ss.length
    · obtain ⟨b, off, rfl, hc⟩ := strCells_get HA.out hlt
      have HK := Lib.hid (sufTo_succ ss d k hlt)
      have hsl := HS.out _ (List.getElem_mem hlt)
      obtain ⟨s, hsk⟩ : ∃ s, s = ss[k] := ⟨_, rfl⟩
      rw [← hsk] at hc HK hsl
      clear hsk
      rw [← HB.out] at HK
      have HE : Hid (d.length ≤ maxLen ∧ (46 :: s).length ≤ maxLen) := ⟨Nat.le_trans HD.out (by decide), Nat.le_trans (by simpa using hsl) (by decide : 2147483649 ≤ maxLen)⟩
      have go : ∀ (y : Bool), sufB d s = y → Hid (sufTo ss d (k + 1) = if y = true ∧ out.length < s.length then s else out) := fun y hy => by rw [Hid, HK.out, hy]
      have GO := Lib.hid go; clear go
      cases h1 : (s == d) with
      | true =>
        have hy : Hid (sufB d s = true) := by rw [Hid, sufB, beq_iff_eq.1 h1]; simp
        have HG := GO.out true hy.out
        by_cases h2 : out.length < s.length
        · rw [if_pos ⟨rfl, h2⟩] at HG
          go_wp2
          go_round
          case rel => exact ⟨k + 1, s, by omega, by go_num, rfl, HG.out.symm, hsl⟩
          case measure => simp [intOf]; omega
        · rw [if_neg (fun h => h2 h.2)] at HG
          have h2' : decide ((out.length : Int) < (s.length : Int)) = false := by simp; omega
          go_wp2
          go_round
          case rel => exact ⟨k + 1, out, by omega, by go_num, rfl, HG.out.symm, hol⟩
          case measure => simp [intOf]; omega
      | false =>
        have hy : sufB d s = endsB d (46 :: s) := by
          have : ¬ d = s := by intro e; rw [e] at h1; simp at h1
          rw [sufB, decide_eq_false this, Bool.false_or]; rfl
        have HY := Lib.hid hy; clear hy
        go_wp2_with fail
        rw [cat_dot]
        refine (specEnds_any d (46 :: s) _ HE.out.1 HE.out.2).mono ?_
        rintro e w1 ⟨rfl, rfl⟩
        cases h3 : endsB d (46 :: s) with
        | false =>
          have HG := GO.out false (by rw [HY.out, h3])
          rw [if_neg (fun h => Bool.false_ne_true h.1)] at HG
          clear h3
          go_wp2
          go_round
          case rel => exact ⟨k + 1, out, by omega, by go_num, rfl, HG.out.symm, hol⟩
          case measure => simp [intOf]; omega
        | true =>
          have HG := GO.out true (by rw [HY.out, h3])
          clear h3
          by_cases h2 : out.length < s.length
          · rw [if_pos ⟨rfl, h2⟩] at HG
            go_wp2
            go_round
            case rel => exact ⟨k + 1, s, by omega, by go_num, rfl, HG.out.symm, hsl⟩
            case measure => simp [intOf]; omega
          · rw [if_neg (fun h => h2 h.2)] at HG
            have h2' : decide ((out.length : Int) < (s.length : Int)) = false := by simp; omega
            go_wp2
            go_round
            case rel => exact ⟨k + 1, out, by omega, by go_num, rfl, HG.out.symm, hol⟩
            case measure => simp [intOf]; omega
    · obtain rfl : k = ss.length := by omega
      have HF : Hid (sufS ss d = if out = [] then lastLabel d else out) := by
        have := HB.out; rw [sufTo, List.take_length] at this; rw [Hid, sufS, ← this]
      cases h0 : (out == []) with
      | false =>
        have HF2 : Hid (sufS ss d = out) := by rw [Hid, HF.out, if_neg (by simpa using h0)]
        go_wp2
        go_ret
        exact ⟨ret_str HF2.out.symm, Below.refl _ _⟩
      | true =>
        have HF2 : Hid (sufS ss d = lastLabel d) := by rw [Hid, HF.out, if_pos (by simpa using h0)]
        go_wp2_with fail
        refine (labels_any d _ HD.out).mono ?_
        rintro e w1 ⟨v, rfl, hr, hb⟩
        obtain ⟨A', cap', rfl, hA'⟩ := hr.strs
        have hpos : 0 < (labs d).length := List.length_pos_iff.2 (labs_ne d)
        obtain ⟨b, off, rfl, hc⟩ := strCells_get hA' (show (labs d).length - 1 < (labs d).length by omega)
        rw [labs_getLast] at hc
        have hn := labs_len d
        have q1 : IntKind.i64.wrap (((labs d).length : Int) - 1) = ((labs d).length : Int) - 1 := IntWalk.i64_in _ (by omega)
        have HB' := Lib.hid hb
        clear hA' hr hb
        go_wp2
        go_ret
        exact ⟨ret_str HF2.out.symm, HB'.out⟩

set_option maxHeartbeats 4000000 in
theorem within_any (h d : List UInt8) (w : World) (hh : h.length ≤ 2147483648) (hd : d.length ≤ 2147483648) :
    Calls Tryz.prog 28 #[.string (bs h), .string (bs d)] w fun e w' => e = .returned (.bool (withinB h d)) ∧ RowKit.Below w.heap.size w w' := by
  have HH := Lib.hid hh
  have HE : Hid (h.length ≤ maxLen ∧ (46 :: d).length ≤ maxLen) := ⟨Nat.le_trans hh (by decide), Nat.le_trans (by simpa using hd) (by decide : 2147483649 ≤ maxLen)⟩
  cases h1 : (h == d) with
  | true =>
    have HF : Hid (withinB h d = true) := by rw [Hid, withinB, beq_iff_eq.1 h1]; simp
    go_enter Tryz.func28, Tryz.ntmps28
    go_wp2
    go_ret
    exact ⟨ret_bool HF.out.symm, Below.refl _ _⟩
  | false =>
    have HF : Hid (withinB h d = (!isAddrB h && endsB h (46 :: d))) := by
      have : ¬ h = d := by intro e; rw [e] at h1; simp at h1
      rw [Hid, withinB, decide_eq_false this, Bool.false_or]; rfl
    go_enter Tryz.func28, Tryz.ntmps28
    go_wp2_with fail
    refine (isAddress_any h _ HH.out).mono ?_
    rintro e w1 ⟨rfl, hb⟩
    have HB := Lib.hid hb; clear hb
    cases hA : isAddrB h with
    | true =>
      have HF2 : Hid (withinB h d = false) := by rw [Hid, HF.out, hA]; rfl
      clear hA
      go_wp2
      go_ret
      exact ⟨ret_bool HF2.out.symm, HB.out⟩
    | false =>
      have HF2 : Hid (withinB h d = endsB h (46 :: d)) := by rw [Hid, HF.out, hA]; rfl
      clear hA
      go_wp2_with fail
      rw [cat_dot]
      refine (specEnds_any h (46 :: d) _ HE.out.1 HE.out.2).mono ?_
      rintro e w2 ⟨rfl, rfl⟩
      go_wp2
      go_ret
      exact ⟨ret_bool HF2.out.symm, HB.out⟩

set_option maxHeartbeats 4000000 in
theorem above_any (listed : Bool) (A : Option Addr) (cap : Nat) (ss : List (List UInt8)) (h d : List UInt8) (w : World) (hA : CellsAt w A (strCells ss)) (hh : h.length ≤ 2147483648) (_hd : d.length ≤ 2147483648) (hn : ss.length ≤ 2147483648) (hs : ∀ s ∈ ss, s.length ≤ 2147483648) :
    Calls Tryz.prog 29 #[.bool listed, .slice A ss.length cap, .string (bs h), .string (bs d)] w fun e w' => e = .returned (.bool (aboveB listed ss h d)) ∧ RowKit.Below w.heap.size w w' := by
  have HC := Lib.hid (suffix_any A cap ss h w hA hh hn hs)
  have hl : (sufS ss h).length ≤ 2147483648 := by
    have h1 := sufTo_len (d := h) hs ss.length
    rw [sufTo, List.take_length] at h1
    rw [sufS]; split
    · exact Nat.le_trans (labs_each (lastLabel_mem h)) hh
    · exact h1
  clear hA hs
  cases listed with
  | false =>
    go_enter Tryz.func29, Tryz.ntmps29
    go_wp2
    go_ret
    exact ⟨rfl, Below.refl _ _⟩
  | true =>
    cases h1 : (h == d) with
    | true =>
      have HF : Hid (aboveB true ss h d = false) := by rw [Hid, aboveB, beq_iff_eq.1 h1]; simp
      have h1' : (h != d) = false := by rw [bne, h1]; rfl
      go_enter Tryz.func29, Tryz.ntmps29
      go_wp2
      go_ret
      exact ⟨ret_bool HF.out.symm, Below.refl _ _⟩
    | false =>
      have HF : Hid (aboveB true ss h d = decide (d.length ≤ (sufS ss h).length)) := by
        have : ¬ h = d := by intro e; rw [e] at h1; simp at h1
        rw [Hid, aboveB, decide_eq_false this]; simp
      have h1' : (h != d) = true := by rw [bne, h1]; rfl
      go_enter Tryz.func29, Tryz.ntmps29
      go_wp2_with fail
      refine HC.out.mono ?_
      rintro e w1 ⟨rfl, hb⟩
      have HB := Lib.hid hb; clear hb
      go_wp2
      go_ret
      exact ⟨ret_bool (by rw [HF.out, Bool.eq_iff_iff]), HB.out⟩

set_option maxHeartbeats 4000000 in
theorem specHost_any (sch raw path : List UInt8) (w : World) (hr : raw.length ≤ 2147483648) :
    Calls Tryz.prog 25 #[.agg #[.string (bs sch), .string (bs raw), .string (bs path)]] w fun e w' => e = .returned (.string (bs (((splitB raw).1).map lowB))) ∧ RowKit.Below w.heap.size w w' := by
  have HR : Hid (raw.length ≤ maxLen) := Nat.le_trans hr (by decide)
  have HL : Hid ((splitB raw).1.length ≤ maxLen) := Nat.le_trans (List.takeWhile_sublist _).length_le HR.out
  have HB0 : Hid (RowKit.Below w.heap.size w (w.alloc (.cells #[.string (bs sch), .string (bs raw), .string (bs path)] 37))) := (Below.refl _ _).alloc (Nat.le_refl _) _
  go_enter Tryz.func25, Tryz.ntmps25
  go_wp2_with fail
  refine (split_any raw _ HR.out).mono ?_
  rintro e w1 ⟨rfl, hb⟩
  have HB1 : Hid (RowKit.Below w.heap.size w w1) := HB0.out.trans (hb.mono HB0.out.size)
  clear hb HB0
  go_wp2_with fail
  refine (lower_any _ _ HL.out).mono ?_
  rintro e w2 ⟨rfl, hb⟩
  have HB2 : Hid (RowKit.Below w.heap.size w w2) := HB1.out.trans (hb.mono HB1.out.size)
  clear hb HB1
  go_wp2
  go_ret
  exact ⟨rfl, HB2.out⟩
end Go.Proofs.YtckfgnbilcjdpaaGreatDoor
/- The contract of the reference's domainOf. -/
namespace Go.Proofs.YtckfgnbilcjdpaaGreatDoor
open Go.RowKit
set_option maxRecDepth 100000

theorem ret_dom {x : List UInt8 × Bool × Bool} {d : List UInt8} {a b : Bool} (h : x = (d, a, b)) : Ending.returned (.tuple #[.string (bs d), .bool a, .bool b]) = .returned (.tuple #[.string (bs x.1), .bool x.2.1, .bool x.2.2]) := by rw [h]

set_option maxHeartbeats 8000000 in
theorem domainOf_any (listed : Bool) (A : Option Addr) (cap : Nat) (ss : List (List UInt8)) (host : List UInt8) (c : Ck) (w : World) (hA : CellsAt w A (strCells ss)) (hh : host.length ≤ 2147483648) (hd : c.domain.length ≤ 2147483648) (hn : ss.length ≤ 2147483648) (hs : ∀ s ∈ ss, s.length ≤ 2147483648) :
    Calls Tryz.prog 32 #[.bool listed, .slice A ss.length cap, .string (bs host), .agg (encI c).toArray] w fun e w' => e = .returned (.tuple #[.string (bs (domS listed ss host c.domain).1), .bool (domS listed ss host c.domain).2.1, .bool (domS listed ss host c.domain).2.2]) ∧ RowKit.Below w.heap.size w w' := by
  have HA := Lib.hid hA; clear hA
  have HS := Lib.hid hs; clear hs
  have HN := Lib.hid hn
  have HH := Lib.hid hh
  have HLD : Hid (c.domain.length ≤ maxLen) := Nat.le_trans hd (by decide)
  obtain ⟨dd, hdd⟩ : ∃ dd, dd = trimPre (c.domain.map lowB) 46 := ⟨_, rfl⟩
  have hdl : dd.length ≤ 2147483648 := by
    rw [hdd]; unfold trimPre; split
    · rw [List.length_tail, List.length_map]; omega
    · rw [List.length_map]; exact hd
  have HDL := Lib.hid hdl
  have HDS : Hid (domS listed ss host c.domain = if dd = [] then (host, true, true) else if (listed = true ∧ isAddrB dd = false) ∧ sufS ss dd = dd then (host, true, decide (dd = host)) else (dd, false, withinB host dd)) := by
    rw [Hid, hdd, trim_low]; rfl
  have HDD := Lib.hid hdd; clear hdd
  have HBX : Hid (RowKit.Below w.heap.size w (w.alloc (.cells (encI c).toArray 47))) := (Below.refl _ _).alloc (Nat.le_refl _) _
  obtain ⟨r, hr⟩ : ∃ r, r = domS listed ss host c.domain := ⟨_, rfl⟩
  rw [← hr] at HDS ⊢
  clear hr
  simp only [encI] at HBX ⊢
  go_enter Tryz.func32, Tryz.ntmps32
  go_wp2_with fail
  refine (lower_any c.domain _ HLD.out).mono ?_
  rintro e w2 ⟨rfl, hb2⟩
  have HB2 : Hid (RowKit.Below w.heap.size w w2) := HBX.out.trans (hb2.mono HBX.out.size)
  clear hb2 HBX
  obtain ⟨lo, hlo⟩ : ∃ lo, lo = c.domain.map lowB := ⟨_, rfl⟩
  have hll : lo.length ≤ 2147483648 := by rw [hlo, List.length_map]; exact hd
  rw [← hlo] at HDD ⊢
  clear hlo hd HLD
  have hc3 : (lo = [] ∧ dd = []) ∨ (∃ r0, lo = 46 :: r0 ∧ dd = r0) ∨ (∃ x r0, lo = x :: r0 ∧ ((x.toNat : Int) == 46) = false ∧ dd = x :: r0) := by
    cases lo with
    | nil => exact Or.inl ⟨rfl, HDD.out⟩
    | cons x r0 =>
      right
      by_cases hx : x = 46
      · left; exact ⟨r0, by rw [hx], by rw [HDD.out, hx]; rfl⟩
      · right; exact ⟨x, r0, rfl, u8_nbeq (d := 46) hx, by rw [HDD.out, trim_no (by simpa using hx)]⟩
  clear HDD
  rcases hc3 with ⟨rfl, hq⟩ | ⟨r0, rfl, hq⟩ | ⟨x, r0, rfl, hx', hq⟩
  case inl =>
    have HF : Hid (r = (host, true, true)) := by rw [Hid, HDS.out, if_pos hq]
    clear hq
    go_wp2
    go_ret3
    exact ⟨ret_dom HF.out, HB2.out⟩
  all_goals simp only [List.length_cons] at hll
  all_goals have hll0 := hll
  all_goals go_upto_region 4 with (fail)
  all_goals rw [← hq]
  all_goals clear hq
  all_goals
    cases h0 : (dd == []) with
    | true =>
      have HF : Hid (r = (host, true, true)) := by rw [Hid, HDS.out, if_pos (by simpa using h0)]
      go_wp2
      go_ret3
      exact ⟨ret_dom HF.out, HB2.out⟩
    | false =>
      rw [if_neg (by simpa using h0)] at HDS
      have fin : ∀ (w0 : World), RowKit.Below w.heap.size w w0 → Calls Tryz.prog 28 #[.string (bs host), .string (bs dd)] w0 fun e w' => e = .returned (.bool (withinB host dd)) ∧ RowKit.Below w.heap.size w w' := fun w0 hb =>
        (within_any host dd w0 HH.out HDL.out).mono (fun e w' h => ⟨h.1, hb.trans (h.2.mono hb.size)⟩)
      have FIN := Lib.hid fin; clear fin
      cases listed with
      | false =>
        have HF : Hid (r = (dd, false, withinB host dd)) := by rw [Hid, HDS.out, if_neg (fun h => Bool.false_ne_true h.1.1)]
        go_wp2_with fail
        refine (FIN.out _ HB2.out).mono ?_
        rintro e w3 ⟨rfl, hb3⟩
        have HB3 := Lib.hid hb3; clear hb3
        go_wp2
        go_ret3
        exact ⟨ret_dom HF.out, HB3.out⟩
      | true =>
        go_wp2_with fail
        refine (isAddress_any dd _ HDL.out).mono ?_
        rintro e w3 ⟨rfl, hb3⟩
        have HB3 : Hid (RowKit.Below w.heap.size w w3) := HB2.out.trans (hb3.mono HB2.out.size)
        clear hb3
        cases hA : isAddrB dd with
        | true =>
          have HF : Hid (r = (dd, false, withinB host dd)) := by rw [Hid, HDS.out, if_neg (fun h => by rw [hA] at h; exact absurd h.1.2 (by decide))]
          clear hA
          go_wp2_with fail
          refine (FIN.out _ HB3.out).mono ?_
          rintro e w4 ⟨rfl, hb4⟩
          have HB4 := Lib.hid hb4; clear hb4
          go_wp2
          go_ret3
          exact ⟨ret_dom HF.out, HB4.out⟩
        | false =>
          go_wp2_with fail
          refine (suffix_any A cap ss dd _ (HA.out.below HB3.out) HDL.out HN.out HS.out).mono ?_
          rintro e w4 ⟨rfl, hb4⟩
          have HB4 : Hid (RowKit.Below w.heap.size w w4) := HB3.out.trans (hb4.mono HB3.out.size)
          clear hb4
          cases hq : (sufS ss dd == dd) with
          | true =>
            have HF : Hid (r = (host, true, decide (dd = host))) := by rw [Hid, HDS.out, if_pos ⟨⟨by trivial, hA⟩, by simpa using hq⟩]
            clear hA
            go_wp2
            go_ret3
            exact ⟨ret_dom (by rw [HF.out, toList_beq]), HB4.out⟩
          | false =>
            have HF : Hid (r = (dd, false, withinB host dd)) := by rw [Hid, HDS.out, if_neg (fun h => by simp [h.2] at hq)]
            clear hA
            go_wp2_with fail
            refine (FIN.out _ HB4.out).mono ?_
            rintro e w5 ⟨rfl, hb5⟩
            have HB5 := Lib.hid hb5; clear hb5
            go_wp2
            go_ret3
            exact ⟨ret_dom HF.out, HB5.out⟩
end Go.Proofs.YtckfgnbilcjdpaaGreatDoor
