/- The reference's kept cookies: their cells, and the small functions over them. -/
import Derived.Test.YtckfgnbilcjdpaaGreatDoorQ11
import Derived.Test.YtckfgnbilcjdpaaGreatDoorQ22
import Derived.Deep.Upon
namespace Go.Proofs.YtckfgnbilcjdpaaGreatDoor
open Go.RowKit
set_option maxRecDepth 100000

/-- A cookie that the reference keeps. -/
structure Kp where
  name : List UInt8
  value : List UInt8
  domain : List UInt8
  path : List UInt8
  alone : Bool
  secure : Bool
  ends : Bool
  fin : Int
  born : Int
  deriving Inhabited
def encK (x : Kp) : List Value := [.string (bs x.name), .string (bs x.value), .string (bs x.domain), .string (bs x.path), .bool x.alone, .bool x.secure, .bool x.ends, .int .i64 x.fin, .int .i64 x.born]
theorem encK_len (x : Kp) : (encK x).length = 9 := rfl
theorem encK_one (x : Kp) : ∀ u ∈ encK x, u.oneCell' = true := by
  intro u hu
  simp only [encK, List.mem_cons, List.not_mem_nil, or_false] at hu
  rcases hu with rfl | rfl | rfl | rfl | rfl | rfl | rfl | rfl | rfl <;> rfl

def livesB (x : Kp) (now : Int) : Bool := !x.ends || decide (now < x.fin)
def sameB (k x : Kp) : Bool := x.name == k.name && x.domain == k.domain && x.path == k.path

theorem boxK (x : Kp) (w : World) : RowKit.Below w.heap.size w (w.alloc (.cells (encK x).toArray 51)) := (Below.refl _ _).alloc (Nat.le_refl _) _

set_option maxHeartbeats 1000000 in
theorem lives_any (x : Kp) (now : Int) (w : World) :
    Calls Tryz.prog 20 #[.agg (encK x).toArray, .int .i64 now] w fun e w' => e = .returned (.bool (livesB x now)) ∧ RowKit.Below w.heap.size w w' := by
  have HB := Lib.hid (boxK x w)
  simp only [encK] at HB ⊢
  cases he : x.ends with
  | false =>
    rw [he] at HB
    go_enter Tryz.func20, Tryz.ntmps20
    go_wp2
    go_ret
    exact ⟨ret_bool (by simp [livesB, he]), HB.out⟩
  | true =>
    rw [he] at HB
    go_enter Tryz.func20, Tryz.ntmps20
    go_wp2
    go_ret
    exact ⟨ret_bool (by simp [livesB, he]), HB.out⟩

set_option maxHeartbeats 1000000 in
theorem dead23 (x : Kp) (bS : Nat) (now : Int) (w : World) (hc : w.cell? ⟨bS, 1, none⟩ = some (.int .i64 now)) :
    Calls Tryz.prog 23 #[.agg (encK x).toArray, .pointer (some ⟨bS, 0, none⟩)] w fun e w' => e = .returned (.bool (!livesB x now)) ∧ RowKit.Below w.heap.size w w' := by
  have HB := Lib.hid (boxK x w)
  have hbl := World.block_lt_of_cell? w _ hc
  have HL : Hid (∀ w1, Calls Tryz.prog 20 #[.agg #[.string (bs x.name), .string (bs x.value), .string (bs x.domain), .string (bs x.path), .bool x.alone, .bool x.secure, .bool x.ends, .int .i64 x.fin, .int .i64 x.born], .int .i64 now] w1 fun e w' => e = .returned (.bool (livesB x now)) ∧ RowKit.Below w1.heap.size w1 w') := fun w1 => lives_any x now w1
  simp only [encK] at HB ⊢
  go_enter Tryz.func23, Tryz.ntmps23
  go_wp2_with fail
  refine (HL.out _).mono ?_
  rintro e w1 ⟨rfl, hb⟩
  have HB1 := Lib.hid (HB.out.trans (hb.mono HB.out.size))
  clear hb
  go_wp2
  go_ret
  exact ⟨rfl, HB1.out⟩

theorem andB (a b c : Bool) : (a && b && c) = (if a then (if b then c else false) else false) := by cases a <;> cases b <;> cases c <;> rfl
set_option maxHeartbeats 2000000 in
theorem same57 (x k : Kp) (kb : Nat) (w : World) (hc : BlkAt w kb (encK k)) :
    Calls Tryz.prog 57 #[.agg (encK x).toArray, .pointer (some ⟨kb, 0, none⟩)] w fun e w' => e = .returned (.bool (sameB k x)) ∧ RowKit.Below w.heap.size w w' := by
  have HB := Lib.hid (boxK x w)
  have c0 := hc.cell 0 rfl
  have c2 := hc.cell 2 rfl
  have c3 := hc.cell 3 rfl
  have hbl := World.block_lt_of_cell? w _ c0
  clear hc
  have HS : Hid (sameB k x = (if (x.name == k.name) then (if (x.domain == k.domain) then (x.path == k.path) else false) else false)) := andB _ _ _
  simp only [encK] at HB ⊢
  cases h0 : (x.name == k.name) with
  | false =>
    rw [h0] at HS
    go_enter Tryz.func57, Tryz.ntmps57
    go_wp2
    go_ret
    exact ⟨ret_bool HS.out.symm, HB.out⟩
  | true =>
    rw [h0] at HS
    cases h2 : (x.domain == k.domain) with
    | false =>
      rw [h2] at HS
      go_enter Tryz.func57, Tryz.ntmps57
      go_wp2
      go_ret
      exact ⟨ret_bool HS.out.symm, HB.out⟩
    | true =>
      rw [h2] at HS
      go_enter Tryz.func57, Tryz.ntmps57
      go_wp2
      go_ret
      exact ⟨ret_bool HS.out.symm, HB.out⟩
set_option maxHeartbeats 2000000 in
theorem same31 (x k : Kp) (kb : Nat) (w : World) (hc : BlkAt w kb (encK k)) :
    Calls Tryz.prog 31 #[.agg (encK x).toArray, .pointer (some ⟨kb, 0, none⟩)] w fun e w' => e = .returned (.bool (sameB k x)) ∧ RowKit.Below w.heap.size w w' := by
  have HB := Lib.hid (boxK x w)
  have c0 := hc.cell 0 rfl
  have c2 := hc.cell 2 rfl
  have c3 := hc.cell 3 rfl
  have hbl := World.block_lt_of_cell? w _ c0
  clear hc
  have HS : Hid (sameB k x = (if (x.name == k.name) then (if (x.domain == k.domain) then (x.path == k.path) else false) else false)) := andB _ _ _
  simp only [encK] at HB ⊢
  cases h0 : (x.name == k.name) with
  | false =>
    rw [h0] at HS
    go_enter Tryz.func31, Tryz.ntmps31
    go_wp2
    go_ret
    exact ⟨ret_bool HS.out.symm, HB.out⟩
  | true =>
    rw [h0] at HS
    cases h2 : (x.domain == k.domain) with
    | false =>
      rw [h2] at HS
      go_enter Tryz.func31, Tryz.ntmps31
      go_wp2
      go_ret
      exact ⟨ret_bool HS.out.symm, HB.out⟩
    | true =>
      rw [h2] at HS
      go_enter Tryz.func31, Tryz.ntmps31
      go_wp2
      go_ret
      exact ⟨ret_bool HS.out.symm, HB.out⟩

/-- A cookie of which nothing is said at this host. -/
def oddB (listed : Bool) (ss : List (List UInt8)) (host : List UInt8) (x : Kp) : Bool := !x.alone && withinB host x.domain && aboveB listed ss host x.domain
set_option maxHeartbeats 4000000 in
theorem odd27 (listed : Bool) (A : Option Addr) (cap : Nat) (ss : List (List UInt8)) (host : List UInt8) (x : Kp) (hb lb sb : Nat) (w : World)
    (h1 : w.cell? ⟨hb, 0, none⟩ = some (.string (bs host))) (h2 : w.cell? ⟨lb, 0, none⟩ = some (.bool listed)) (h3 : w.cell? ⟨sb, 0, none⟩ = some (.slice A ss.length cap))
    (hA : CellsAt w A (strCells ss)) (hh : host.length ≤ 2147483648) (hd : x.domain.length ≤ 2147483648) (hn : ss.length ≤ 2147483648) (hs : ∀ s ∈ ss, s.length ≤ 2147483648) :
    Calls Tryz.prog 27 #[.agg (encK x).toArray, .pointer (some ⟨hb, 0, none⟩), .pointer (some ⟨lb, 0, none⟩), .pointer (some ⟨sb, 0, none⟩)] w fun e w' => e = .returned (.bool (oddB listed ss host x)) ∧ RowKit.Below w.heap.size w w' := by
  have HB := Lib.hid (boxK x w)
  have l1 := World.block_lt_of_cell? w _ h1
  have l2 := World.block_lt_of_cell? w _ h2
  have l3 := World.block_lt_of_cell? w _ h3
  have HA := Lib.hid hA; clear hA
  have HH := Lib.hid hh
  have HD := Lib.hid hd
  have HN := Lib.hid hn
  have HS := Lib.hid hs; clear hs
  have HO : Hid (oddB listed ss host x = (if !x.alone then (if withinB host x.domain then aboveB listed ss host x.domain else false) else false)) := andB _ _ _
  have H1 := Lib.hid h1
  have H2 := Lib.hid h2
  have H3 := Lib.hid h3
  have HX : Hid (BlkAt (w.alloc (.cells (encK x).toArray 51)) w.heap.size (encK x)) := BlkAt.made _ _ _
  simp only [encK] at HB HX ⊢
  cases ha : x.alone with
  | true =>
    rw [ha] at HO HB HX
    go_enter Tryz.func27, Tryz.ntmps27
    go_wp2
    go_ret
    exact ⟨ret_bool HO.out.symm, HB.out⟩
  | false =>
    rw [ha] at HO HB HX
    go_enter Tryz.func27, Tryz.ntmps27
    go_wp2_with fail
    refine (within_any host x.domain _ HH.out HD.out).mono ?_
    rintro e w1 ⟨rfl, hb1⟩
    have HB1 := Lib.hid (HB.out.trans (hb1.mono HB.out.size))
    have HX1 := HX.out.below hb1
    have x2 := HX1.cell 2 rfl
    clear hb1 HB HX HX1
    cases hw : withinB host x.domain with
    | false =>
      rw [hw] at HO
      clear hw
      go_wp2
      go_ret
      exact ⟨ret_bool HO.out.symm, HB1.out⟩
    | true =>
      rw [hw] at HO
      clear hw h1 h2 h3
      have h1 : w1.cell? ⟨hb, 0, none⟩ = some (.string (bs host)) := (HB1.out.cell (show (⟨hb, 0, none⟩ : Addr).block < _ from l1)).trans H1.out
      have h2 : w1.cell? ⟨lb, 0, none⟩ = some (.bool listed) := (HB1.out.cell (show (⟨lb, 0, none⟩ : Addr).block < _ from l2)).trans H2.out
      have h3 : w1.cell? ⟨sb, 0, none⟩ = some (.slice A ss.length cap) := (HB1.out.cell (show (⟨sb, 0, none⟩ : Addr).block < _ from l3)).trans H3.out
      go_wp2_with fail
      refine (above_any listed A cap ss host x.domain _ (HA.out.below HB1.out) HH.out HD.out HN.out HS.out).mono ?_
      rintro e w2 ⟨rfl, hb2⟩
      have HB2 := Lib.hid (HB1.out.trans (hb2.mono HB1.out.size))
      clear hb2
      go_wp2
      go_ret
      exact ⟨ret_bool HO.out.symm, HB2.out⟩
end Go.Proofs.YtckfgnbilcjdpaaGreatDoor
/- IndexFunc, ContainsFunc, Clone and DeleteFunc over kept cookies. -/
namespace Go.Proofs.YtckfgnbilcjdpaaGreatDoor
open Go.RowKit
set_option maxRecDepth 100000

theorem idxFrom_cases {α : Type} (p : α → Bool) (d : α) : ∀ (L : List α) (n : Nat), (Lib.idxByFrom (fun _ y => p y) d L n = -1 ∧ ∀ x ∈ L, p x = false) ∨ ∃ i, ∃ h : i < L.length, Lib.idxByFrom (fun _ y => p y) d L n = ((n + i : Nat) : Int) ∧ p L[i] = true ∧ ∀ j (hj : j < i), p (L[j]'(Nat.lt_trans hj h)) = false
  | [], n => Or.inl ⟨rfl, fun x hx => by cases hx⟩
  | y :: r, n => by
    cases hy : p y with
    | true => exact Or.inr ⟨0, by simp, by simp [Lib.idxByFrom, hy], by simpa using hy, fun j hj => absurd hj (Nat.not_lt_zero _)⟩
    | false =>
      rcases idxFrom_cases p d r (n + 1) with ⟨h1, h2⟩ | ⟨i, hi, h1, h2, h3⟩
      · left
        refine ⟨by simp [Lib.idxByFrom, hy, h1], ?_⟩
        intro x hx
        rcases List.mem_cons.1 hx with rfl | hx
        · exact hy
        · exact h2 x hx
      · right
        refine ⟨i + 1, by simp; omega, ?_, by simpa using h2, ?_⟩
        · simp only [Lib.idxByFrom, hy, Bool.false_eq_true, if_false, h1]; congr 1; omega
        · intro j hj
          cases j with
          | zero => simpa using hy
          | succ j => simpa using h3 j (by omega)
/-- The place of the first that p takes, or -1. -/
def idxP {α : Type} [Inhabited α] (p : α → Bool) (L : List α) : Int := Lib.idxBy (fun _ y => p y) L default
theorem idxP_cases {α : Type} [Inhabited α] (p : α → Bool) (L : List α) : (idxP p L = -1 ∧ ∀ x ∈ L, p x = false) ∨ ∃ i, ∃ h : i < L.length, idxP p L = (i : Int) ∧ p L[i] = true ∧ ∀ j (hj : j < i), p (L[j]'(Nat.lt_trans hj h)) = false := by
  have := idxFrom_cases p default L 0
  simpa [idxP, Lib.idxBy] using this

/-- What is asked of a predicate of kept cookies. -/
def PredK (S : Nat → Prop) (g : Nat) (lb : Array Value) (p : Kp → Bool) (w : World) (L : List Kp) : Prop :=
  ∀ (W : World) (x : Kp), x ∈ L → Keeps S w W → Calls Tryz.prog g (#[.agg (encK x).toArray] ++ lb) W fun e w' => e = .returned (.bool (p x)) ∧ RowKit.Below W.heap.size W w'

set_option maxHeartbeats 4000000 in
theorem indexK_any (g : Nat) (eg : ∀ args w, (callFunc g args).run Tryz.prog w = .ok (.enter g args) w) (lb : Array Value) (p : Kp → Bool) (base : Nat) (v : Value) (L : List Kp) (w : World) (hr : RowOf w base 51 encK 9 v L) (hl : L.length ≤ 1000000)
    (hp : PredK (fun _ => False) g lb p w L) :
    Calls Tryz.prog 50 #[v, .func (.func g) #[] lb] w fun e w' => e = .returned (.int .i64 (idxP p L)) ∧ RowKit.Below w.heap.size w w' := by
  have hv : ∃ A cap, v = .slice A L.length cap := by
    rcases hr.form with ⟨rfl, rfl⟩ | ⟨g, cap, rfl, _, _⟩
    · exact ⟨none, 0, rfl⟩
    · exact ⟨_, cap, rfl⟩
  obtain ⟨A, cap, rfl⟩ := hv
  have hrow : ∀ j (h : j < L.length), ∃ b, A = some ⟨b, 0, none⟩ ∧ b < w.heap.size ∧ RowAt w b (0 + j * 9) (encK L[j]) := by
    intro j h
    rcases hr.form with ⟨_, h2⟩ | ⟨b, cap', h1, h2, h3⟩
    · rw [h2] at h; exact absurd h (Nat.not_lt_zero _)
    · cases h1
      have hH := (RowOf.holds (enc := encK) (k := 9) encK_len (by decide) hr).2.1
      have := HoldsK.row (enc := encK) (k := 9) (d := L.toArray) encK_len hH (i := j) (by simpa using h)
      rw [show L.toArray[j]! = L[j] by rw [getElem!_pos L.toArray j (by simpa using h)]; simp] at this
      exact ⟨b, rfl, h3, this⟩
  have HR := Lib.hid hrow; clear hrow hr
  have HP := Lib.hid hp; clear hp
  have HC := Lib.hid (idxP_cases p L)
  go_enter Tryz.func50, Tryz.ntmps50
  go_wp2
  go_loopw [8] (fun i wx => ∃ j : Nat, j ≤ L.length ∧ i = .int .i64 j ∧ Hid (∀ q (h : q < j) (h2 : q < L.length), p L[q] = false) ∧ Hid (RowKit.Below w.heap.size w wx)) (fun i _ => L.length - (intOf i).toNat)
  case atStart => exact ⟨0, Nat.zero_le _, rfl, fun q h => absurd h (Nat.not_lt_zero _), Below.refl _ _⟩
  case round =>
    obtain ⟨j, hj, rfl, HF, HB⟩ := hrel
    by_cases hlt : j < L.length
    · obtain ⟨b, rfl, hb, hrow⟩ := HR.out j hlt
      have HL := Lib.hid (loadAt_agg Tryz.isAgg51 Tryz.sizeOf51 (hrow.below HB.out) rfl)
      have hcall := HP.out wr L[j] (List.getElem_mem hlt) ((Keeps.refl _ w).below HB.out)
      have HCALL := Lib.hid hcall; clear hcall hrow
      rw [Nat.zero_add] at HL
      go_wp2_with (first | ((with_reducible refine wpL_load HL.out ?_ ?_); rfl))
      refine HCALL.out.mono ?_
      rintro e w1 ⟨rfl, hb1⟩
      have HB1 : Hid (RowKit.Below w.heap.size w w1) := HB.out.trans (hb1.mono HB.out.size)
      clear hb1
      cases hpj : p L[j] with
      | true =>
        have hres : Hid (idxP p L = (j : Int)) := by
          rcases HC.out with ⟨_, h⟩ | ⟨i, hi, h1, h2, h3⟩
          · have := h _ (List.getElem_mem hlt); rw [hpj] at this; cases this
          · rcases Nat.lt_trichotomy i j with h | h | h
            · have := HF.out i h hi; rw [h2] at this; cases this
            · subst h; exact h1
            · have := h3 j h; rw [hpj] at this; cases this
        clear hpj
        go_wp2
        go_ret
        exact ⟨ret_int hres.out.symm, HB1.out⟩
      | false =>
        have hf : Hid (∀ q (h : q < j + 1) (h2 : q < L.length), p L[q] = false) := by
          intro q h h2
          by_cases e : q = j
          · subst e; exact hpj
          · exact HF.out q (by omega) h2
        clear hpj
        go_wp2
        exact ⟨⟨j + 1, by omega, by go_num, hf, HB1⟩, by simp [intOf]; omega⟩
    · obtain rfl : j = L.length := by omega
      have hres : Hid (idxP p L = -1) := by
        rcases HC.out with ⟨h, _⟩ | ⟨i, hi, h1, h2, h3⟩
        · exact h
        · have := HF.out i hi hi; rw [h2] at this; cases this
      go_wp2
      go_ret
      exact ⟨ret_int hres.out.symm, HB.out⟩

theorem PredK.none {S : Nat → Prop} {g : Nat} {lb : Array Value} {p : Kp → Bool} {w : World} {L : List Kp} (h : PredK S g lb p w L) : PredK (fun _ => False) g lb p w L :=
  fun W x hx hk => h W x hx (hk.mono (fun _ _ h => h.elim))

theorem idxP_any {α : Type} [Inhabited α] (p : α → Bool) (L : List α) : decide (0 ≤ idxP p L) = L.any p := by
  rcases idxP_cases p L with ⟨h1, h2⟩ | ⟨i, hi, h1, h2, h3⟩
  · rw [h1]; symm; rw [show decide ((0 : Int) ≤ -1) = false from rfl, List.any_eq_false]; exact fun x hx => by simp [h2 x hx]
  · rw [h1]; symm; rw [show decide ((0 : Int) ≤ (i : Int)) = true by simp, List.any_eq_true]; exact ⟨_, List.getElem_mem hi, h2⟩

set_option maxHeartbeats 2000000 in
theorem containsK_any (g : Nat) (eg : ∀ args w, (callFunc g args).run Tryz.prog w = .ok (.enter g args) w) (lb : Array Value) (p : Kp → Bool) (base : Nat) (v : Value) (L : List Kp) (w : World) (hr : RowOf w base 51 encK 9 v L) (hl : L.length ≤ 1000000)
    (hp : PredK (fun _ => False) g lb p w L) :
    Calls Tryz.prog 26 #[v, .func (.func g) #[] lb] w fun e w' => e = .returned (.bool (L.any p)) ∧ RowKit.Below w.heap.size w w' := by
  have HC := Lib.hid (indexK_any g eg lb p base v L w hr hl hp)
  have HA := Lib.hid (idxP_any p L)
  clear hr hp
  go_enter Tryz.func26, Tryz.ntmps26
  go_wp2_with fail
  refine HC.out.mono ?_
  rintro e w1 ⟨rfl, hb⟩
  have HB := Lib.hid hb; clear hb
  go_wp2
  go_ret
  exact ⟨ret_bool HA.out, HB.out⟩

/-- A clear whose run is known. -/
theorem wpL_clear {ops : Array Oper} {Q : Exit → Act → World → Prop} {a : Act} {w w' : World} {rest : List Oper} {ts : Array TypeId} {v0 v : Value} {x : Operand} {dst : Option Tmp} {ty : TypeId} {pos : String} {after : Array Edge} (h : (Builtin.clear_ ts ty #[v0]).run Tryz.prog w = .ok v w') (he : a.eval x = v0)
    (k : wpList Tryz.prog ops Q rest (a.put dst v) w') : wpList Tryz.prog ops Q (⟨dst, .call ⟨.builtin .clear, #[x], ts⟩, ty, pos, after, none⟩ :: rest) a w := by
  refine wpList_plain rfl (fun K hK => ?_)
  have hr : (execOp a.eval ⟨dst, .call ⟨.builtin .clear, #[x], ts⟩, ty, pos, after, none⟩).run Tryz.prog w = .ok (.value v) w' := by
    simp only [execOp, resolve, List.map_toArray, List.map_cons, List.map_nil, he, Sem.run_bind, Sem.run_pure, Result.andThen, invoke, builtin, h]
  simp only [Oper.wp, hr, Oper.upon]
  exact hK _ _ k

/-- What DeleteFunc keeps by the time that place j is looked at. -/
theorem del_step {p : Kp → Bool} {L : List Kp} {j : Nat} (h : j < L.length) : (L.take (j + 1)).filter (fun x => !p x) = (L.take j).filter (fun x => !p x) ++ (if p L[j] then [] else [L[j]]) := by
  rw [List.take_succ_eq_append_getElem h, List.filter_append]
  cases hp : p L[j] <;> simp [hp]

theorem storeNewK (w : World) (x : Kp) :
    (Instr.storeAt 51 (.pointer (some ⟨w.heap.size, 0, none⟩)) (.agg (encK x).toArray)).run Tryz.prog (w.alloc (.cells #[.string ⟨#[]⟩, .string ⟨#[]⟩, .string ⟨#[]⟩, .string ⟨#[]⟩, .bool false, .bool false, .bool false, .int .i64 0, .int .i64 0] 51)) = .ok () (w.alloc (.cells (encK x).toArray 51)) := by
  have h := storeAt_agg (t := 51) (k := 9) Tryz.sizeOf51 (BlkAt.made w [.string ⟨#[]⟩, .string ⟨#[]⟩, .string ⟨#[]⟩, .string ⟨#[]⟩, .bool false, .bool false, .bool false, .int .i64 0, .int .i64 0] 51) rfl (encK_len x) (encK_one x)
  rw [h]
  have := setCells_new (encK x) 0 [] [.string ⟨#[]⟩, .string ⟨#[]⟩, .string ⟨#[]⟩, .string ⟨#[]⟩, .bool false, .bool false, .bool false, .int .i64 0, .int .i64 0] w 51 rfl rfl
  simp only [List.nil_append] at this
  rw [this]

set_option maxHeartbeats 8000000 in
theorem deleteFunc_any (g : Nat) (eg : ∀ args w, (callFunc g args).run Tryz.prog w = .ok (.enter g args) w) (lb : Array Value) (p : Kp → Bool) (base : Nat) (v : Value) (L : List Kp) (w : World) (hr : RowOf w base 51 encK 9 v L) (hl : L.length ≤ 1000000)
    (hp : PredK (fun j => v.ownBlock = some j) g lb p w L) :
    Calls Tryz.prog 21 #[v, .func (.func g) #[] lb] w fun e w' => ∃ v', e = .returned v' ∧ RowOf w' base 51 encK 9 v' (L.filter fun x => !p x) ∧ Keeps (fun j => v.ownBlock = some j) w w' ∧ (∀ j, v'.ownBlock = some j → v.ownBlock = some j) := by
  have HC := Lib.hid (indexK_any g eg lb p base v L w hr hl hp.none)
  have HI := Lib.hid (idxP_cases p L)
  rcases hr.form with ⟨rfl, rfl⟩ | ⟨gb, cap, rfl, hgb, hgl⟩
  · have hi : idxP p ([] : List Kp) = -1 := by
      rcases HI.out with ⟨h, _⟩ | ⟨i, hi, _⟩
      · exact h
      · exact absurd hi (Nat.not_lt_zero _)
    have HR := Lib.hid hr; clear hr hp
    rw [hi] at HC
    clear hi
    go_enter Tryz.func21, Tryz.ntmps21
    go_wp2_with fail
    refine HC.out.mono ?_
    rintro e w1 ⟨rfl, hb⟩
    have HB := Lib.hid hb; clear hb
    go_wp2
    go_ret
    exact ⟨_, rfl, HR.out.below HB.out, (Keeps.refl _ _).below HB.out, fun _ h => h⟩
  · have HR := Lib.hid hr
    have hrows := (hr.rows encK_len).2.2
    have HROW := Lib.hid hrows
    have HP := Lib.hid hp
    have hcap := hrows.len
    clear hr hp hrows
    go_enter Tryz.func21, Tryz.ntmps21
    go_wp2_with fail
    refine HC.out.mono ?_
    rintro e w1 ⟨rfl, hb⟩
    have HB := Lib.hid hb; clear hb
    rcases HI.out with ⟨hm1, hall⟩ | ⟨i, hi, hie, hpi, hbefore⟩
    · have hf : Hid (L.filter (fun x => !p x) = L) := by
        rw [Hid, List.filter_eq_self]; intro x hx; simp [hall x hx]
      rw [hm1]
      clear hm1 hall
      go_wp2
      go_ret
      exact ⟨_, rfl, by rw [hf.out]; exact HR.out.below HB.out, (Keeps.refl _ _).below HB.out, fun _ h => h⟩
    · rw [hie]
      have hfi : (L.take i).filter (fun x => !p x) = L.take i := by
        rw [List.filter_eq_self]; intro x hx
        obtain ⟨q, hq, rfl⟩ := List.mem_iff_getElem.1 hx
        rw [List.length_take] at hq
        rw [List.getElem_take, hbefore q (by omega)]; rfl
      have hfi2 : Hid ((L.take (i + 1)).filter (fun x => !p x) = L.take i) := by rw [Hid, del_step hi, hfi, hpi]; simp
      have hii : ((i : Int) == -1) = false := by rw [Bool.eq_false_iff]; intro h; rw [beq_iff_eq] at h; omega
      clear hie hpi hbefore hfi
      go_wp2
      go_loopw [5, 6] (fun ti tj wx => ∃ (m j : Nat) (M : List Kp), j ≤ L.length ∧ m ≤ j ∧ ti = .int .i64 m ∧ tj = .int .i64 j ∧ Hid (M.length = L.length ∧ m = ((L.take j).filter (fun x => !p x)).length ∧ M.take m = (L.take j).filter (fun x => !p x) ∧ (∀ q (h : q < M.length) (h2 : q < L.length), j ≤ q → M[q] = L[q])) ∧ m < j ∧ Hid (Rows encK 9 51 wx gb cap M) ∧ Hid (Keeps (fun b => b = gb) w wx)) (fun _ tj _ => L.length - (intOf tj).toNat)
      case atStart =>
        refine ⟨i, i + 1, L, by omega, by omega, rfl, by go_num, ⟨rfl, ?_, ?_, fun _ _ _ _ => rfl⟩, by omega, HROW.out.below HB.out, (Keeps.refl _ _).below HB.out⟩
        · rw [hfi2.out, List.length_take]; omega
        · rw [hfi2.out]
      case round =>
        obtain ⟨m, j, M, hj, hmj, rfl, rfl, HM, hmj2, hrw, hkp⟩ := hrel
        by_cases hlt : j < L.length
        · obtain ⟨hM1, hM2, hM3, hM4⟩ := HM.out
          have hjM : j < M.length := by omega
          have hMj : M[j] = L[j] := hM4 j hjM hlt (Nat.le_refl _)
          have HMJ := Lib.hid hMj; clear hMj
          have HL1 := Lib.hid (hrw.out.load encK_len Tryz.isAgg51 Tryz.sizeOf51 hjM)
          rw [HMJ.out] at HL1
          clear hM2 hM3 hM4
          go_upto_region 8 with (first | ((with_reducible refine wpL_load HL1.out ?_ ?_); rfl) | ((with_reducible refine wpL_store (storeNewK _ L[j]) ?_ ?_ ?_); rfl; rfl))
          rw [put_none]
          have hI3 : Hid (BlkAt (wr.alloc (.cells (encK L[j]).toArray 51)) wr.heap.size (encK L[j])) := BlkAt.made wr _ 51
          have hrw3 : Hid (Rows encK 9 51 (wr.alloc (.cells (encK L[j]).toArray 51)) gb cap M) := hrw.out.alloc _
          have hkp3 : Hid (Keeps (fun b => b = gb) w (wr.alloc (.cells (encK L[j]).toArray 51))) := hkp.out.alloc _
          have hgw : gb < wr.heap.size := hrw.out.lt
          clear hrw hkp HL1
          generalize wr.alloc (.cells (encK L[j]).toArray 51) = w3 at hI3 hrw3 hkp3 ⊢
          generalize hbk : wr.heap.size = bk at hI3 hgw ⊢
          clear hbk
          obtain ⟨x, hx⟩ : ∃ x, x = L[j] := ⟨_, rfl⟩
          have HLX := Lib.hid (loadAt_agg Tryz.isAgg51 Tryz.sizeOf51 hI3.out.row rfl)
          have hcall := HP.out w3 L[j] (List.getElem_mem hlt) (hkp3.out.mono (fun b _ e => by rw [e]; rfl))
          rw [← hx] at hI3 HLX hcall
          have HX := Lib.hid hx; clear hx
          have HCALL := Lib.hid hcall; clear hcall
          go_wp2_with (first | ((with_reducible refine wpL_load HLX.out ?_ ?_); rfl))
          refine HCALL.out.mono ?_
          rintro e w4 ⟨rfl, hb4⟩
          have hI4 := hI3.out.below hb4
          have hrw4 : Hid (Rows encK 9 51 w4 gb cap M) := hrw3.out.below hb4
          have hkp4 : Hid (Keeps (fun b => b = gb) w w4) := hkp3.out.below hb4
          clear hI3 hrw3 hkp3 HLX HCALL hb4
          cases hpx : p x with
          | true =>
            have hM' : Hid (M.length = L.length ∧ m = ((L.take (j + 1)).filter (fun x => !p x)).length ∧ M.take m = (L.take (j + 1)).filter (fun x => !p x) ∧ (∀ q (h : q < M.length) (h2 : q < L.length), j + 1 ≤ q → M[q] = L[q])) := by
              obtain ⟨a1, a2, a3, a4⟩ := HM.out
              rw [Hid, del_step hlt, ← HX.out, hpx]
              simp only [if_true, List.append_nil]
              exact ⟨a1, a2, a3, fun q h h2 h3 => a4 q h h2 (by omega)⟩
            clear hpx
            go_wp2
            exact ⟨⟨m, j + 1, M, by omega, by omega, rfl, by go_num, hM', by omega, hrw4, hkp4⟩, by simp [intOf]; omega⟩
          | false =>
            have hmM : m < M.length := by omega
            have HLX := Lib.hid (loadAt_agg Tryz.isAgg51 Tryz.sizeOf51 hI4.row rfl)
            have HST := Lib.hid (hrw4.out.store encK_len encK_one Tryz.sizeOf51 hmM x)
            have hrw5 : Hid (Rows encK 9 51 (w4.setCells gb (m * 9) (encK x)) gb cap (M.set m x)) := hrw4.out.setCells encK_len x
            have hkp5 : Hid (Keeps (fun b => b = gb) w (w4.setCells gb (m * 9) (encK x))) := Keeps.setCells (S := fun b => b = gb) (b := gb) (Or.inl rfl) _ _ hkp4.out
            have hM' : Hid ((M.set m x).length = L.length ∧ m + 1 = ((L.take (j + 1)).filter (fun x => !p x)).length ∧ (M.set m x).take (m + 1) = (L.take (j + 1)).filter (fun x => !p x) ∧ (∀ q (h : q < (M.set m x).length) (h2 : q < L.length), j + 1 ≤ q → (M.set m x)[q] = L[q])) := by
              obtain ⟨a1, a2, a3, a4⟩ := HM.out
              rw [Hid, del_step hlt, ← HX.out, hpx]
              simp only [Bool.false_eq_true, if_false, List.length_append, List.length_singleton, List.length_set]
              refine ⟨a1, by omega, ?_, fun q h h2 h3 => ?_⟩
              · rw [List.take_succ_eq_append_getElem (by rw [List.length_set]; exact hmM), List.take_set_of_le (Nat.le_refl _), a3, List.getElem_set_self]
              · rw [List.getElem_set_ne (by omega)]
                exact a4 q (by omega) h2 (by omega)
            clear hpx hrw4 hkp4 hI4
            go_wp2_with (first | ((with_reducible refine wpL_load HLX.out ?_ ?_); rfl) | ((with_reducible refine wpL_store HST.out ?_ ?_ ?_); rfl; rfl))
            exact ⟨⟨m + 1, j + 1, M.set m x, by omega, by omega, by go_num, by go_num, hM', by omega, hrw5, hkp5⟩, by simp [intOf]; omega⟩
        · have hje : j = L.length := by omega
          subst hje
          obtain ⟨a1, a2, a3, _⟩ := HM.out
          rw [List.take_length] at a2 a3
          obtain ⟨vs, hcl⟩ := hrw.out.clear (t := 49) (z := .agg #[.string ⟨#[]⟩, .string ⟨#[]⟩, .string ⟨#[]⟩, .string ⟨#[]⟩, .bool false, .bool false, .bool false, .int .i64 0, .int .i64 0]) encK_len Tryz.underlying49 Tryz.zeroValue51 rfl (by simp [Value.oneCell', Value.cells]) (m := m) (by omega) 0 (cap - m)
          rw [a1] at hcl
          have HCL := Lib.hid hcl; clear hcl
          have hrw5 : Rows encK 9 51 (wr.setCells gb (m * 9) vs) gb cap (M.take m) := hrw.out.cut encK_len (Nat.le_refl _) (by omega)
          have hkp5 : Keeps (fun b => b = gb) w (wr.setCells gb (m * 9) vs) := Keeps.setCells (S := fun b => b = gb) (b := gb) (Or.inl rfl) _ _ hkp.out
          have hro := hrw5.toRow encK_len (base := base) hgb (m := m) (by rw [List.length_take]; omega)
          rw [List.take_take, Nat.min_self, a3] at hro
          have HRO := Lib.hid hro; clear hro hrw5
          have HKP := Lib.hid hkp5; clear hkp5
          clear a1 a2 a3
          go_wp2_with (first | ((with_reducible refine wpL_clear HCL.out ?_ ?_); rfl))
          go_ret
          exact ⟨_, rfl, HRO.out, HKP.out.mono (fun b _ e => by rw [e]; rfl), fun q h => by simpa [Value.ownBlock] using h⟩
end Go.Proofs.YtckfgnbilcjdpaaGreatDoor
/- Clone and append of kept cookies; what set makes (plain). -/
namespace Go.Proofs.YtckfgnbilcjdpaaGreatDoor
open Go.RowKit
set_option maxRecDepth 100000

def zeroK : Array Value := #[.string ⟨#[]⟩, .string ⟨#[]⟩, .string ⟨#[]⟩, .string ⟨#[]⟩, .bool false, .bool false, .bool false, .int .i64 0, .int .i64 0]
theorem info51 : (Tryz.prog.info? 51).map (fun i => (i.zero, i.size, i.bytes)) = some (some (.agg zeroK), 9, 88) := by kernel_rfl
theorem buildK (x : Kp) (w : World) : (Instr.buildSlice 49 1 #[(0, .agg (encK x).toArray)]).run Tryz.prog w = .ok (.slice (some ⟨w.heap.size, 0, none⟩) 1 1) (w.alloc (.cells (encK x).toArray 51)) := by
  obtain ⟨i, hi, hz, hs, _⟩ := info_parts info51
  exact build_one (cs := encK x) Tryz.underlying49 hi hz hs rfl (by rw [encK_len]; decide) (by rw [encK_len]; decide) _ rfl w
theorem appendK {base : Nat} {v : Value} {L : List Kp} {w : World} (x : Kp) (g : Nat) (hr : RowOf w base 51 encK 9 v L) (hl : L.length ≤ 100000000) (hbase : base ≤ w.heap.size) (hx : BlkAt w g (encK x)) :
    ∀ ty, ∃ v' w', (Builtin.append_ #[49, 49] ty #[v, .slice (some ⟨g, 0, none⟩) 1 1]).run Tryz.prog w = .ok v' w' ∧ RowOf w' base 51 encK 9 v' (L ++ [x]) ∧ Keeps (fun j => v.ownBlock = some j) w w' ∧ (∀ j, v'.ownBlock = some j → v.ownBlock = some j ∨ j = w.heap.size) := by
  obtain ⟨i, hi, hz, hs, hb⟩ := info_parts info51
  exact append_one encK_len encK_one Tryz.underlying49 hi hz hs hb rfl (by decide) (by decide) x g hr hl hbase hx

/-- Many structs are appended to a slice that the call owns. -/
theorem append_rows {α : Type} {t e : TypeId} {i : TypeInfo} {z : Value} {enc : α → List Value} {k bytes : Nat} (hk : ∀ x, (enc x).length = k) (hone : ∀ x, ∀ u ∈ enc x, u.oneCell' = true) (hu : Tryz.prog.underlying t = some (.slice e)) (hi : Tryz.prog.info? e = some i) (hz : i.zero = some z) (hsz : i.size = k) (hby : i.bytes = bytes) (hzs : z.cells.size = k) (h0 : 0 < k) (hb : bytes ≤ 1000)
    {base : Nat} {v : Value} {L N : List α} {w : World} (g o c : Nat) (hr : RowOf w base e enc k v L) (hl : L.length + N.length ≤ 4294967296) (hbase : base ≤ w.heap.size) (hx : ∀ q (h : q < N.length), RowAt w g (o + q * k) (enc N[q])) (hpos : 0 < N.length) :
    ∀ ty, ∃ v' w', (Builtin.append_ #[t, t] ty #[v, .slice (some ⟨g, o, none⟩) N.length c]).run Tryz.prog w = .ok v' w' ∧ RowOf w' base e enc k v' (L ++ N) ∧ Keeps (fun j => v.ownBlock = some j) w w' ∧ (∀ j, v'.ownBlock = some j → v.ownBlock = some j ∨ j = w.heap.size) := by
  intro ty
  have hbyt : (L.length + N.length) * bytes ≤ 140737488355328 := by
    have : (L.length + N.length) * bytes ≤ 4294967296 * 1000 := Nat.mul_le_mul (by omega) hb
    omega
  obtain ⟨g', cap, w', h1, h2, h3, h4, _⟩ := run_append_lies (P := Tryz.prog) w t ty base e i z k bytes hu hi hz hsz hby hzs h0 v L.length (L.flatMap enc) hr ⟨g, o, none⟩ N.length c (N.flatMap enc) (flat_length hk N)
    (fun j u hj => by
      obtain ⟨q, d, hq, hd, rfl, hu⟩ := flat_at hk _ _ _ hj
      have := hx q hq d u hu
      rw [Addr.add_lit, ← Nat.add_assoc]; exact this) (fun u hu => by
      obtain ⟨x, _, hx⟩ := List.mem_flatMap.1 hu
      exact hone x u hx) hpos (by simp only [maxLen]; omega) hbyt hbase w.heap.size rfl
  refine ⟨_, w', h1, ?_, ⟨h3.os, h3.tape, h3.output, h3.size, fun j hj hne => h3.block j hj (fun e => hne e.symm)⟩, ?_⟩
  case refine_2 => intro j hj; cases hj; exact h4
  unfold RowOf
  rw [List.length_append, List.flatMap_append]
  exact h2

theorem RowOf.rowAt {α : Type} {w : World} {base : Nat} {T : TypeId} {enc : α → List Value} {k : Nat} (hk : ∀ x, (enc x).length = k) {g n cap : Nat} {L : List α} (h : RowOf w base T enc k (.slice (some ⟨g, 0, none⟩) n cap) L) : ∀ q (hq : q < L.length), RowAt w g (q * k) (enc L[q]) :=
  fun _q hq => (h.rows hk).2.2.row hk hq

set_option maxHeartbeats 1000000 in
theorem cloneK_any (base : Nat) (v : Value) (L : List Kp) (w : World) (hr : RowOf w base 51 encK 9 v L) (hl : L.length ≤ 1000000) :
    Calls Tryz.prog 22 #[v] w fun e w' => ∃ v', e = .returned v' ∧ RowOf w' w.heap.size 51 encK 9 v' L ∧ RowKit.Below w.heap.size w w' := by
  rcases hr.form with ⟨rfl, rfl⟩ | ⟨g, cap, rfl, h1, h2⟩
  · refine Calls.mono (show Calls Tryz.prog 22 _ _ _ from AnyE.slices_Clone_nil (P := Tryz.prog) cloK 0 0 w) ?_
    rintro e w' ⟨rfl, rfl⟩
    exact ⟨_, rfl, RowOf.nil _ _ _ _ _, Below.refl _ _⟩
  · obtain ⟨i, hi, hz, hs, hb⟩ := info_parts info51
    have hrow := hr.rowAt encK_len
    refine Calls.mono (show Calls Tryz.prog 22 _ _ _ from AnyE.slices_Clone (P := Tryz.prog) cloK i (.agg zeroK) 9 88 hi hz hs hb rfl (by decide) Tryz.sizeOf51 g 0 L.length cap (L.flatMap encK) w (flat_length encK_len L) (by simp only [maxLen]; omega) (by omega)
      (fun j u hj => by
        obtain ⟨q, d, hq, hd, rfl, hu⟩ := flat_at encK_len _ _ _ hj
        have := hrow q hq d u hu
        rw [Nat.zero_add]; exact this) (fun u hu => by
        obtain ⟨x, _, hx⟩ := List.mem_flatMap.1 hu
        exact encK_one x u hx)) ?_
    rintro e w' ⟨v', rfl, ho, _, hb'⟩
    exact ⟨v', rfl, ho, hb'⟩

/-- A kept cookie is put among those that are there, or struck out. -/
def putS (L : List Kp) (k : Kp) (now : Int) : List Kp :=
  (if 0 ≤ idxP (sameB k) L then L.take (idxP (sameB k) L).toNat ++ L.drop ((idxP (sameB k) L).toNat + 1) else L) ++
  (if livesB k now then [if 0 ≤ idxP (sameB k) L then { k with born := (L.getD (idxP (sameB k) L).toNat default).born } else k] else [])
/-- The reference's path of a cookie. -/
def pathS (c : Ck) (p : List UInt8) : List UInt8 := if c.path.head? = some 47 then c.path else defPathS p
/-- The cookie that the reference makes. -/
def mkK (listed : Bool) (ss : List (List UInt8)) (host path : List UInt8) (now : Int) (c : Ck) : Kp :=
  { name := c.name, value := c.value, domain := (domS listed ss host c.domain).1, path := pathS c path, alone := (domS listed ss host c.domain).2.1, secure := c.secure, ends := c.age != 0 || c.exps != 0, fin := if c.age != 0 then now + c.age else if c.exps != 0 then c.exps else 0, born := now }
/-- What set makes of the kept cookies. -/
def setS (listed : Bool) (ss : List (List UInt8)) (L : List Kp) (host path : List UInt8) (now : Int) (c : Ck) : List Kp :=
  if (domS listed ss host c.domain).2.2 then putS L (mkK listed ss host path now c) now else L
end Go.Proofs.YtckfgnbilcjdpaaGreatDoor
/- A kept cookie is cut out of a row. -/
namespace Go.Proofs.YtckfgnbilcjdpaaGreatDoor
open Go.RowKit
set_option maxRecDepth 100000

theorem append_none {α : Type} {t e : TypeId} {i : TypeInfo} {enc : α → List Value} {k : Nat} (hu : Tryz.prog.underlying t = some (.slice e)) (hi : Tryz.prog.info? e = some i) {base : Nat} {v : Value} {L : List α} {w : World} (a : Option Addr) (c : Nat) (hr : RowOf w base e enc k v L) :
    ∀ ty, (Builtin.append_ #[t, t] ty #[v, .slice a 0 c]).run Tryz.prog w = .ok v w := by
  intro ty
  have hl : ∀ a : Addr, (loadCells a 0).run Tryz.prog w = .ok #[] w := fun a => by
    have := run_loadCells_list (P := Tryz.prog) w a [] (fun j v hj => by simp at hj)
    simpa using this
  rcases hr.2 with ⟨rfl, h0⟩ | ⟨g, cap, cur, rfl, _, _, hnc, _⟩
  · rw [h0] at *
    cases a with
    | none => simp [Builtin.append_, run_underlying hu, sizeOf, typeInfo, hi, Builtin.lenOf, Builtin.firstCells]
    | some a => simp [Builtin.append_, run_underlying hu, sizeOf, typeInfo, hi, Builtin.lenOf, Builtin.firstCells, hl a, Result.andThen]
  · cases a with
    | none => simp [Builtin.append_, run_underlying hu, sizeOf, typeInfo, hi, Builtin.lenOf, Builtin.firstCells, hnc, storeCells]
    | some a => simp [Builtin.append_, run_underlying hu, sizeOf, typeInfo, hi, Builtin.lenOf, Builtin.firstCells, hnc, storeCells, hl a, Result.andThen]

theorem rowOf_empty {α : Type} {T : TypeId} {enc : α → List Value} {k : Nat} (w : World) (base : Nat) (hb : base ≤ w.heap.size) : RowOf (w.alloc (.cells #[] T)) base T enc k (.slice (some ⟨w.heap.size, 0, none⟩) 0 0) [] :=
  ⟨by simp, Or.inr ⟨w.heap.size, 0, #[], rfl, hb, (by rw [show (w.alloc (.cells #[] T)).heap = w.heap.push (.cells #[] T) from rfl, Array.getElem?_push_size]), Nat.le_refl _, Nat.zero_le _, by simp, by simp⟩⟩

theorem splice_run {base : Nat} {g cap : Nat} {L : List Kp} {w : World} (hr : RowOf w base 51 encK 9 (.slice (some ⟨g, 0, none⟩) L.length cap) L) (hbase : base ≤ w.heap.size) (hl : L.length ≤ 1000000) {i : Nat} (hi : i < L.length) :
    ∃ v1 w2 v2 w3, (∀ ty, (Builtin.append_ #[49, 49] ty #[.slice (some ⟨w.heap.size, 0, none⟩) 0 0, .slice (some ⟨g, 0, none⟩) i cap]).run Tryz.prog (w.alloc (.cells #[] 51)) = .ok v1 w2) ∧
      (∀ ty, (Builtin.append_ #[49, 49] ty #[v1, .slice (some ⟨g, (i + 1) * 9, none⟩) (L.length - (i + 1)) (cap - (i + 1))]).run Tryz.prog w2 = .ok v2 w3) ∧
      (L.length - (i + 1) = 0 → ∀ ty a n c, n = 0 → (Builtin.append_ #[49, 49] ty #[v1, .slice a n c]).run Tryz.prog w2 = .ok v2 w3) ∧
      RowOf w3 base 51 encK 9 v2 (L.take i ++ L.drop (i + 1)) ∧ RowKit.Below w.heap.size w w3 ∧ ∀ j, v2.ownBlock = some j → w.heap.size ≤ j := by
  obtain ⟨i0, hi0, hz, hs, hb⟩ := info_parts info51
  have hgl : g < w.heap.size := (hr.own g rfl).2
  have hrow := hr.rowAt encK_len
  have he : RowOf (w.alloc (.cells #[] 51)) base 51 encK 9 (.slice (some ⟨w.heap.size, 0, none⟩) 0 0) ([] : List Kp) := rowOf_empty w base hbase
  have hB0 : RowKit.Below w.heap.size w (w.alloc (.cells #[] 51)) := (Below.refl _ _).alloc (Nat.le_refl _) _
  have h1 : ∃ v1 w2, (∀ ty, (Builtin.append_ #[49, 49] ty #[.slice (some ⟨w.heap.size, 0, none⟩) 0 0, .slice (some ⟨g, 0, none⟩) i cap]).run Tryz.prog (w.alloc (.cells #[] 51)) = .ok v1 w2) ∧ RowOf w2 base 51 encK 9 v1 (L.take i) ∧ RowKit.Below w.heap.size w w2 ∧ ∀ j, v1.ownBlock = some j → w.heap.size ≤ j := by
    by_cases h0 : i = 0
    · subst h0
      exact ⟨_, _, append_none Tryz.underlying49 hi0 _ cap he, by simpa using he, hB0, fun j hj => by cases hj; exact Nat.le_refl _⟩
    · have hn : (L.take i).length = i := by rw [List.length_take]; omega
      have hx : ∀ q (h : q < (L.take i).length), RowAt (w.alloc (.cells #[] 51)) g (0 + q * 9) (encK (L.take i)[q]) := by
        intro q h
        rw [List.getElem_take, Nat.zero_add]
        exact (hrow q (by omega)).below hB0
      have hap := append_rows (L := ([] : List Kp)) (N := L.take i) encK_len encK_one Tryz.underlying49 hi0 hz hs hb rfl (by decide) (by decide) g 0 cap he (by rw [hn]; simp; omega) (by simp; omega) hx (by omega)
      obtain ⟨v1, w2, g1, g2, g3, g4⟩ := hap 49
      rw [hn] at g1
      refine ⟨v1, w2, fun ty => g1, by simpa using g2, hB0.trans (g3.toBelow (by simp) (fun j hj => by cases hj; exact Nat.le_refl _)), fun j hj => ?_⟩
      rcases g4 j hj with h | h
      · cases h; exact Nat.le_refl _
      · rw [h]; simp
  obtain ⟨v1, w2, h1, hr1, hb1, ho1⟩ := h1
  by_cases h0 : L.length - (i + 1) = 0
  · refine ⟨v1, w2, v1, w2, h1, ?_, fun _ ty a n c hn => by subst hn; exact append_none Tryz.underlying49 hi0 a c hr1 ty, ?_, hb1, ho1⟩
    · rw [h0]; exact append_none Tryz.underlying49 hi0 _ _ hr1
    · rw [List.drop_of_length_le (by omega), List.append_nil]; exact hr1
  · have hn : (L.drop (i + 1)).length = L.length - (i + 1) := by rw [List.length_drop]
    have hx : ∀ q (h : q < (L.drop (i + 1)).length), RowAt w2 g ((i + 1) * 9 + q * 9) (encK (L.drop (i + 1))[q]) := by
      intro q h
      rw [List.getElem_drop, ← Nat.add_mul]
      exact (hrow (i + 1 + q) (by omega)).below hb1
    have hap := append_rows (L := L.take i) (N := L.drop (i + 1)) encK_len encK_one Tryz.underlying49 hi0 hz hs hb rfl (by decide) (by decide) g ((i + 1) * 9) (cap - (i + 1)) hr1 (by rw [hn, List.length_take]; omega) (Nat.le_trans hbase hb1.size) hx (by omega)
    obtain ⟨v2, w3, g1, g2, g3, g4⟩ := hap 49
    rw [hn] at g1
    refine ⟨v1, w2, v2, w3, h1, fun ty => g1, fun h => absurd h h0, g2, hb1.trans (g3.toBelow hb1.size ho1), fun j hj => ?_⟩
    rcases g4 j hj with h | h
    · exact ho1 j h
    · rw [h]; exact hb1.size
end Go.Proofs.YtckfgnbilcjdpaaGreatDoor
