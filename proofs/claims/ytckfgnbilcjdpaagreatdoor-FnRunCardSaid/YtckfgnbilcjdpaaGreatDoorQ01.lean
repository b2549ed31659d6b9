/- Words of this claim: strings as lists of bytes. -/
import Derived.Test.YtckfgnbilcjdpaaGreatDoorProg
import Derived.WalkKit
import Derived.WalkSpells
import Derived.WalkLawsBesides
import Derived.Lib.Hide
import Derived.Deep.QuietTactic
import Derived.BigQuiet
import Derived.Lib.ConvBytes
import Derived.Laws.BytesArg
import Derived.Laws.IdiomStrings
namespace Go.Proofs.YtckfgnbilcjdpaaGreatDoor
open Go.RowKit

/-- A string out of its bytes. -/
def bs (l : List UInt8) : ByteArray := ⟨l.toArray⟩
@[simp] theorem bs_size (l : List UInt8) : (bs l).size = l.length := by simp [bs, ByteArray.size]
@[simp] theorem bs_data (l : List UInt8) : (bs l).data.toList = l := by simp [bs]
@[simp] theorem bs_get (l : List UInt8) (k : Nat) (h : k < (bs l).size) : (bs l)[k] = l[k]'(by simpa using h) := by
  have h' : k < l.length := by simpa using h
  show l.toArray[k]'(by simpa using h') = _
  simp
theorem bs_eta (s : ByteArray) : s = bs s.data.toList := by cases s; simp [bs]
theorem bs_inj {a b : List UInt8} : bs a = bs b ↔ a = b := by
  constructor
  · intro h; have := congrArg (fun s : ByteArray => s.data.toList) h; simpa using this
  · rintro rfl; rfl
theorem bs_ext {s t : ByteArray} (h : s.data.toList = t.data.toList) : s = t := by
  rw [bs_eta s, bs_eta t, h]
@[simp] theorem bs_extract (l : List UInt8) (a b : Nat) : (bs l).extract a b = bs ((l.take b).drop a) := by
  apply bs_ext
  rw [ByteArray.data_extract]
  simp [bs, List.drop_take]

@[simp] theorem bs_toList (l : List UInt8) : (bs l).toList = l := by rw [ByteArray.toList_eq]; simp
/-- A string of the text, in this form. -/
theorem bs_mk (a : Array UInt8) : (⟨a⟩ : ByteArray) = bs a.toList := rfl

/-- Block b holds the bytes l, and none is frozen. -/
def BytesRow (w : World) (b : Nat) (l : List UInt8) : Prop :=
  ∀ j (h : j < l.length), w.cell? ⟨b, j, none⟩ = some (.int .u8 l[j].toNat) ∧ w.frozen? ⟨b, j, none⟩ = false

theorem conv_bytes (l : List UInt8) (w : World) :
    ∃ cap w1, (convert 9 101 (.string (bs l))).run Tryz.prog w = .ok (.slice (some ⟨w.heap.size, 0, none⟩) l.length cap) w1 ∧
      BytesRow w1 w.heap.size l ∧ Below w.heap.size w w1 ∧ w1.heap.size = w.heap.size + 1 := by
  refine ⟨_, _, by simpa using Lib.run_convert_string_bytes (P := Tryz.prog) w 9 101 5 (bs l) Tryz.underlying9 Tryz.underlying101 Tryz.underlying5, ?_, ?_, ?_⟩
  · intro j h
    refine ⟨?_, ?_⟩
    · rw [Lib.bytesWorld_cell w 5 (bs l) j (by simpa using h)]
      simp [List.getD, List.getElem?_eq_getElem h]
    · have hz : j < (Lib.bytesCells w 5 (bs l)).size := by
        simp only [Lib.bytesCells, Array.size_append, Array.size_map]
        have : (bs l).data.size = l.length := by simp [bs]
        omega
      simp only [World.frozen?, Lib.bytesWorld_at_new]
      simp; omega
  · exact ⟨rfl, rfl, rfl, by rw [Lib.bytesWorld_size]; omega, fun k hk => Lib.bytesWorld_at_old w 5 (bs l) k hk⟩
  · exact Lib.bytesWorld_size w 5 (bs l)

theorem back_bytes {l : List UInt8} {w : World} {b : Nat} (cap : Nat) (h : BytesRow w b l) :
    (convert 101 9 (.slice (some ⟨b, 0, none⟩) l.length cap)).run Tryz.prog w = .ok (.string (bs l)) w :=
  run_convert_bytes_back w 101 9 5 ⟨b, 0, none⟩ cap l Tryz.underlying101 Tryz.underlying5 Tryz.underlying9 (fun j hj => by
    have := (h j hj).1
    simpa [Addr.add_lit] using this)

theorem BytesRow.set {w : World} {b : Nat} {l : List UInt8} (h : BytesRow w b l) (k : Nat) (hk : k < l.length) (x : UInt8) :
    BytesRow (w.setCell ⟨b, k, none⟩ (.int .u8 x.toNat)) b (l.set k x) := by
  intro j hj
  have hj' : j < l.length := by simpa using hj
  refine ⟨?_, ?_⟩
  · by_cases e : k = j
    · subst e
      rw [World.cell?_setCell_same w _ _ (h k hk).1]
      simp
    · rw [World.cell?_setCell_other w _ _ _ (by intro h; injection h with _ h2; exact e h2), (h j hj').1]
      simp [e]
  · rw [World.frozen?_setCell]
    exact (h j hj').2

/-- A byte of a string, at a place that is reckoned. -/
theorem index_bs (l : List UInt8) (k : Nat) (n : Int) (hn : n = k) (h : k < l.length) (w : World) :
    (Instr.index 9 (.string (bs l)) (.int .i64 n)).run Tryz.prog w = .ok (.int .u8 l[k].toNat) w := by
  subst hn
  rw [run_index_string w 9 (bs l) .i64 k Tryz.underlying9, dif_pos (by simp; omega)]
  simp

theorem ret_int {k : IntKind} {a b : Int} (h : a = b) : Ending.returned (.int k a) = .returned (.int k b) := by rw [h]
theorem ret_bool {a b : Bool} (h : a = b) : Ending.returned (.bool a) = .returned (.bool b) := by rw [h]
theorem ret_str {a b : List UInt8} (h : a = b) : Ending.returned (.string (bs a)) = .returned (.string (bs b)) := by rw [h]

theorem u8_eq {a b : UInt8} : ((a.toNat : Int) == (b.toNat : Int)) = true ↔ a = b := by
  rw [beq_iff_eq, Int.natCast_inj, UInt8.toNat_inj]
theorem u8_lt (a : UInt8) : a.toNat < 256 := a.toNat_lt

end Go.Proofs.YtckfgnbilcjdpaaGreatDoor
/- Contracts of the cookie jar's functions over strings that search, count and look. -/
namespace Go.Proofs.YtckfgnbilcjdpaaGreatDoor
open Go.RowKit
set_option maxRecDepth 100000

/-- The last place of a byte among the first k, or -1. -/
def lastIdx (l : List UInt8) (c : UInt8) : Nat → Int
  | 0 => -1
  | k + 1 => if l[k]? = some c then (k : Int) else lastIdx l c k

theorem lastIdx_hit {l : List UInt8} {c : UInt8} {k : Nat} (h0 : 0 < k) (h : k - 1 < l.length) (e : ((l[k-1].toNat : Int) == (c.toNat : Int)) = true) : lastIdx l c k = (k : Int) - 1 := by
  obtain ⟨k, rfl⟩ : ∃ m, k = m + 1 := ⟨k - 1, by omega⟩
  have e' := u8_eq.1 e
  simp only [Nat.add_sub_cancel] at e' h
  simp [lastIdx, List.getElem?_eq_getElem h, e']
theorem lastIdx_miss {l : List UInt8} {c : UInt8} {k : Nat} (h0 : 0 < k) (h : k - 1 < l.length) (e : ((l[k-1].toNat : Int) == (c.toNat : Int)) = false) : lastIdx l c k = lastIdx l c (k - 1) := by
  obtain ⟨k, rfl⟩ : ∃ m, k = m + 1 := ⟨k - 1, by omega⟩
  have e' : ¬ l[k + 1 - 1] = c := fun h => by rw [u8_eq.2 h] at e; cases e
  simp only [Nat.add_sub_cancel] at e' h ⊢
  simp [lastIdx, List.getElem?_eq_getElem h, e']

set_option maxHeartbeats 400000 in
theorem zzLastIndex_any (l : List UInt8) (c : UInt8) (w : World) (hs : l.length ≤ maxLen) :
    Calls Tryz.prog 81 #[.string (bs l), .int .u8 c.toNat] w fun e w' => e = .returned (.int .i64 (lastIdx l c l.length)) ∧ w = w' := by
  unfold maxLen at hs
  go_enter Tryz.func81, Tryz.ntmps81
  go_wp2
  go_loop [5] (fun i => ∃ k : Nat, k ≤ l.length ∧ i = .int .i64 ((k : Int) - 1) ∧ Hid (lastIdx l c l.length = lastIdx l c k)) (fun i => (intOf i + 1).toNat)
  case atStart => exact ⟨l.length, Nat.le_refl _, rfl, rfl⟩
  case round =>
    obtain ⟨k, hk, rfl, hh⟩ := hrel
    by_cases hlt : 0 < k
    · go_wp2
      · go_ret
        exact ⟨ret_int (by rw [hh.out, lastIdx_hit hlt (by omega) ‹_›]), rfl⟩
      · go_round
        case rel => exact ⟨k - 1, by omega, by rw [show ((k - 1 : Nat) : Int) = (k : Int) - 1 by omega], by rw [Hid, hh.out, lastIdx_miss hlt (by omega) ‹_›]⟩
        case measure => simp [intOf]; omega
    · go_wp2
      go_ret
      obtain rfl : k = 0 := by omega
      exact ⟨ret_int (by rw [hh.out]; rfl), rfl⟩

theorem ne_of_not_mem {l : List UInt8} {c : UInt8} (h : c ∉ l) (k : Nat) (hk : k < l.length) : ((l[k].toNat : Int) == (c.toNat : Int)) = false := by
  rw [Bool.eq_false_iff]; intro e
  exact h (u8_eq.1 e ▸ List.getElem_mem hk)

set_option maxHeartbeats 400000 in
theorem zzIndex_none (l : List UInt8) (c : UInt8) (w : World) (hs : l.length ≤ maxLen) (hc : c ∉ l) :
    Calls Tryz.prog 94 #[.string (bs l), .int .u8 c.toNat] w fun e w' => e = .returned (.int .i64 (-1)) ∧ w = w' := by
  unfold maxLen at hs
  have HC := Lib.hid (ne_of_not_mem hc)
  clear hc
  go_enter Tryz.func94, Tryz.ntmps94
  go_wp2
  go_loop [5] (fun i => ∃ k : Nat, k ≤ l.length ∧ i = .int .i64 k) (fun i => l.length - (intOf i).toNat)
  case atStart => exact ⟨0, Nat.zero_le _, rfl⟩
  case round =>
    obtain ⟨k, hk, rfl⟩ := hrel
    by_cases hlt : k < l.length
    · have hne := HC.out k hlt
      go_wp2
      go_round
      case rel => exact ⟨k + 1, by omega, by go_num⟩
      case measure => simp [intOf]; omega
    · go_wp2
      go_ret
      exact ⟨rfl, rfl⟩

theorem count_succ (l : List UInt8) (c : UInt8) (k : Nat) (h : k < l.length) : (l.take (k + 1)).count c = (l.take k).count c + if ((l[k].toNat : Int) == (c.toNat : Int)) then 1 else 0 := by
  rw [List.take_succ_eq_append_getElem h, List.count_append, List.count_singleton]
  congr 1
  by_cases e : l[k] = c
  · simp [e]
  · have : ¬ ((l[k].toNat : Int) == (c.toNat : Int)) = true := fun h => e (u8_eq.1 h)
    simp [e, this]

set_option maxHeartbeats 400000 in
theorem zzCount_any (l : List UInt8) (c : UInt8) (w : World) (hs : l.length ≤ maxLen) :
    Calls Tryz.prog 92 #[.string (bs l), .int .u8 c.toNat] w fun e w' => e = .returned (.int .i64 (l.count c)) ∧ w = w' := by
  unfold maxLen at hs
  go_enter Tryz.func92, Tryz.ntmps92
  go_wp2
  go_loop [5, 6] (fun n i => ∃ k : Nat, k ≤ l.length ∧ i = .int .i64 k ∧ n = .int .i64 ((l.take k).count c)) (fun _ i => l.length - (intOf i).toNat)
  case atStart => exact ⟨0, Nat.zero_le _, rfl, rfl⟩
  case round =>
    obtain ⟨k, hk, rfl, rfl⟩ := hrel
    have hle : (l.take k).count c ≤ k := Nat.le_trans List.count_le_length (by simp; omega)
    by_cases hlt : k < l.length
    · have HS := Lib.hid (count_succ l c k hlt)
      go_wp2
      · go_round
        case rel => exact ⟨k + 1, by omega, by go_num, by rw [HS.out]; simp [*]⟩
        case measure => simp [intOf]; omega
      · go_round
        case rel => exact ⟨k + 1, by omega, by go_num, by rw [HS.out]; simp [*]⟩
        case measure => simp [intOf]; omega
    · go_wp2
      go_ret
      obtain rfl : k = l.length := by omega
      exact ⟨by simp, rfl⟩

set_option maxHeartbeats 400000 in
theorem zzASCII_yes (l : List UInt8) (w : World) (hs : l.length ≤ maxLen) (hc : ∀ x ∈ l, x.toNat ≤ 127) :
    Calls Tryz.prog 77 #[.string (bs l)] w fun e w' => e = .returned (.bool true) ∧ w = w' := by
  unfold maxLen at hs
  have HC := Lib.hid hc
  clear hc
  go_enter Tryz.func77, Tryz.ntmps77
  go_wp2
  go_loop [3] (fun i => ∃ k : Nat, k ≤ l.length ∧ i = .int .i64 k) (fun i => l.length - (intOf i).toNat)
  case atStart => exact ⟨0, Nat.zero_le _, rfl⟩
  case round =>
    obtain ⟨k, hk, rfl⟩ := hrel
    by_cases hlt : k < l.length
    · have hne := HC.out _ (List.getElem_mem hlt)
      go_wp2
      go_round
      case rel => exact ⟨k + 1, by omega, by go_num⟩
      case measure => simp [intOf]; omega
    · go_wp2
      go_ret
      exact ⟨rfl, rfl⟩

set_option maxHeartbeats 400000 in
theorem zzPrint_yes (l : List UInt8) (w : World) (hs : l.length ≤ maxLen) (hc : ∀ x ∈ l, 32 ≤ x.toNat ∧ x.toNat ≤ 126) :
    Calls Tryz.prog 95 #[.string (bs l)] w fun e w' => e = .returned (.bool true) ∧ w = w' := by
  unfold maxLen at hs
  have HC := Lib.hid hc
  clear hc
  go_enter Tryz.func95, Tryz.ntmps95
  go_wp2
  go_loop [3] (fun i => ∃ k : Nat, k ≤ l.length ∧ i = .int .i64 k) (fun i => l.length - (intOf i).toNat)
  case atStart => exact ⟨0, Nat.zero_le _, rfl⟩
  case round =>
    obtain ⟨k, hk, rfl⟩ := hrel
    by_cases hlt : k < l.length
    · obtain ⟨h1, h2⟩ := HC.out _ (List.getElem_mem hlt)
      go_wp2
      go_round
      case rel => exact ⟨k + 1, by omega, by go_num⟩
      case measure => simp [intOf]; omega
    · go_wp2
      go_ret
      exact ⟨rfl, rfl⟩

set_option maxHeartbeats 400000 in
theorem zzTrimSuffix_no (l : List UInt8) (c : UInt8) (w : World) (hs : l.length ≤ maxLen) (hc : l.getLast? ≠ some c) :
    Calls Tryz.prog 76 #[.string (bs l), .int .u8 c.toNat] w fun e w' => e = .returned (.string (bs l)) ∧ w = w' := by
  unfold maxLen at hs
  go_enter Tryz.func76, Tryz.ntmps76
  by_cases h0 : 0 < l.length
  · have hne : ((l[l.length - 1].toNat : Int) == (c.toNat : Int)) = false := by
      rw [Bool.eq_false_iff]; intro e
      apply hc; rw [List.getLast?_eq_getElem?, List.getElem?_eq_getElem (by omega), u8_eq.1 e]
    clear hc
    go_wp2
    go_ret
    exact ⟨rfl, rfl⟩
  · clear hc
    go_wp2
    go_ret
    exact ⟨rfl, rfl⟩

/-- A string without a byte at its beginning. -/
def trimPre (l : List UInt8) (c : UInt8) : List UInt8 := if l.head? = some c then l.tail else l

set_option maxHeartbeats 400000 in
theorem zzTrimPrefix_any (l : List UInt8) (c : UInt8) (w : World) (hs : l.length ≤ maxLen) :
    Calls Tryz.prog 111 #[.string (bs l), .int .u8 c.toNat] w fun e w' => e = .returned (.string (bs (trimPre l c))) ∧ w = w' := by
  unfold maxLen at hs
  go_enter Tryz.func111, Tryz.ntmps111
  cases l with
  | nil =>
    go_wp2
    go_ret
    exact ⟨rfl, rfl⟩
  | cons x l =>
    by_cases e : x = c
    · subst e
      simp only [List.length_cons] at hs
      go_wp2
      go_ret
      exact ⟨by simp [trimPre], rfl⟩
    · have hne : ((x.toNat : Int) == (c.toNat : Int)) = false := by
        rw [Bool.eq_false_iff]; intro h; exact e (u8_eq.1 h)
      simp only [List.length_cons] at hs
      have E := Lib.hid e; clear e
      go_wp2
      go_ret
      exact ⟨by simp [trimPre, E.out], rfl⟩
end Go.Proofs.YtckfgnbilcjdpaaGreatDoor
/- Contracts: lower case, beginnings and ends of strings. -/
namespace Go.Proofs.YtckfgnbilcjdpaaGreatDoor
open Go.RowKit
set_option maxRecDepth 100000

/-- A byte in lower case. -/
def lowB (c : UInt8) : UInt8 := if 65 ≤ c ∧ c ≤ 90 then c + 32 else c
/-- Lower case up to k. -/
def lowTo (l : List UInt8) (k : Nat) : List UInt8 := (l.take k).map lowB ++ l.drop k
@[simp] theorem lowTo_length (l : List UInt8) (k : Nat) : (lowTo l k).length = l.length := by simp [lowTo]; omega
theorem lowTo_all (l : List UInt8) : lowTo l l.length = l.map lowB := by simp [lowTo]
theorem lowTo_get (l : List UInt8) (k : Nat) (h : k < l.length) : (lowTo l k)[k]'(by simpa using h) = l[k] := by
  simp only [lowTo]
  rw [List.getElem_append_right (by simp; omega)]
  simp [Nat.min_eq_left (Nat.le_of_lt h)]
theorem lowTo_succ (l : List UInt8) (k : Nat) (h : k < l.length) : lowTo l (k + 1) = (lowTo l k).set k (lowB l[k]) := by
  simp only [lowTo]
  rw [List.take_succ_eq_append_getElem h, List.map_append, List.set_append_right _ _ (by simp; omega)]
  have : (List.drop k l).set (k - ((l.take k).map lowB).length) (lowB l[k]) = lowB l[k] :: List.drop (k + 1) l := by
    rw [List.drop_eq_getElem_cons h, show k - ((l.take k).map lowB).length = 0 by simp; omega]; rfl
  rw [this]; simp
theorem lowB_no {c : UInt8} (h : ¬ (65 ≤ c.toNat ∧ c.toNat ≤ 90)) : lowB c = c := by
  unfold lowB; rw [if_neg]; rw [UInt8.le_iff_toNat_le, UInt8.le_iff_toNat_le]; exact h
theorem lowB_yes {c : UInt8} (h1 : 65 ≤ c.toNat) (h2 : c.toNat ≤ 90) : ((lowB c).toNat : Int) = (c.toNat : Int) + 32 := by
  unfold lowB; rw [if_pos (by rw [UInt8.le_iff_toNat_le, UInt8.le_iff_toNat_le]; exact ⟨h1, h2⟩)]
  have : (c + 32).toNat = c.toNat + 32 := by rw [UInt8.toNat_add]; simp; omega
  omega

theorem Below.heap_lt {w w' : World} (h : Below w.heap.size w w') : w.heap.size ≤ w'.heap.size := h.size

set_option maxHeartbeats 400000 in
theorem zzLow_any (l : List UInt8) (w : World) (hs : l.length ≤ maxLen) :
    Calls Tryz.prog 96 #[.string (bs l)] w fun e w' => e = .returned (.string (bs (l.map lowB))) ∧ Below w.heap.size w w' := by
  unfold maxLen at hs
  obtain ⟨cap, w1, hconv, hrow, hb, hsz⟩ := conv_bytes l w
  have HR := Lib.hid hrow; clear hrow
  have HS := Lib.hid hsz; clear hsz
  have HB := Lib.hid hb; clear hb
  go_enter Tryz.func96, Tryz.ntmps96
  go_wp2
  clear hconv
  go_loopw [10] (fun i wr => ∃ k : Nat, k ≤ l.length ∧ i = .int .i64 k ∧ Hid (BytesRow wr w.heap.size (lowTo l k)) ∧ Hid (Below w.heap.size w wr)) (fun i _ => l.length - (intOf i).toNat)
  case atStart => exact ⟨0, Nat.zero_le _, rfl, by simpa [Hid, lowTo] using HR.out, HB.out⟩
  case round =>
    obtain ⟨k, hk, rfl, hrow, hb⟩ := hrel
    by_cases hlt : k < l.length
    · obtain ⟨hc, hf⟩ := hrow.out k (by simpa using hlt)
      rw [lowTo_get l k hlt] at hc
      by_cases h1 : 65 ≤ l[k].toNat
      · by_cases h2 : l[k].toNat ≤ 90
        · have hup := lowB_yes h1 h2
          have HU := Lib.hid hup; clear hup
          go_wp2
          go_roundw
          case rel =>
            refine ⟨k + 1, by omega, by go_num, ?_, ?_⟩
            · have := hrow.out.set k (by simpa using hlt) (lowB l[k])
              rw [← lowTo_succ l k hlt, HU.out] at this
              exact this
            · exact hb.out.setCell (Nat.le_refl _) _
          case measure => simp [intOf]; omega
        · go_wp2
          go_roundw
          case rel =>
            refine ⟨k + 1, by omega, by go_num, ?_, hb⟩
            rw [Hid, lowTo_succ l k hlt, lowB_no (by omega), ← lowTo_get l k hlt, List.set_getElem_self]
            exact hrow
          case measure => simp [intOf]; omega
      · go_wp2
        go_roundw
        case rel =>
          refine ⟨k + 1, by omega, by go_num, ?_, hb⟩
          rw [Hid, lowTo_succ l k hlt, lowB_no (by omega), ← lowTo_get l k hlt, List.set_getElem_self]
          exact hrow
        case measure => simp [intOf]; omega
    · obtain rfl : k = l.length := by omega
      have hback := back_bytes cap hrow.out
      rw [lowTo_all, List.length_map] at hback
      go_wp2
      go_ret
      exact ⟨rfl, hb.out⟩
set_option maxHeartbeats 400000 in
theorem lower_any (l : List UInt8) (w : World) (hs : l.length ≤ maxLen) :
    Calls Tryz.prog 14 #[.string (bs l)] w fun e w' => e = .returned (.string (bs (l.map lowB))) ∧ Below w.heap.size w w' := by
  unfold maxLen at hs
  obtain ⟨cap, w1, hconv, hrow, hb, hsz⟩ := conv_bytes l w
  have HR := Lib.hid hrow; clear hrow
  have HS := Lib.hid hsz; clear hsz
  have HB := Lib.hid hb; clear hb
  go_enter Tryz.func14, Tryz.ntmps14
  go_wp2
  clear hconv
  go_loopw [10] (fun i wr => ∃ k : Nat, k ≤ l.length ∧ i = .int .i64 k ∧ Hid (BytesRow wr w.heap.size (lowTo l k)) ∧ Hid (Below w.heap.size w wr)) (fun i _ => l.length - (intOf i).toNat)
  case atStart => exact ⟨0, Nat.zero_le _, rfl, by simpa [Hid, lowTo] using HR.out, HB.out⟩
  case round =>
    obtain ⟨k, hk, rfl, hrow, hb⟩ := hrel
    by_cases hlt : k < l.length
    · obtain ⟨hc, hf⟩ := hrow.out k (by simpa using hlt)
      rw [lowTo_get l k hlt] at hc
      by_cases h1 : 65 ≤ l[k].toNat
      · by_cases h2 : l[k].toNat ≤ 90
        · have hup := lowB_yes h1 h2
          have HU := Lib.hid hup; clear hup
          go_wp2
          go_roundw
          case rel =>
            refine ⟨k + 1, by omega, by go_num, ?_, ?_⟩
            · have := hrow.out.set k (by simpa using hlt) (lowB l[k])
              rw [← lowTo_succ l k hlt, HU.out] at this
              refine (?_ : Eq _ _).mp this
              congr 3
              omega
            · exact hb.out.setCell (Nat.le_refl _) _
          case measure => simp [intOf]; omega
        · go_wp2
          go_roundw
          case rel =>
            refine ⟨k + 1, by omega, by go_num, ?_, hb⟩
            rw [Hid, lowTo_succ l k hlt, lowB_no (by omega), ← lowTo_get l k hlt, List.set_getElem_self]
            exact hrow
          case measure => simp [intOf]; omega
      · go_wp2
        go_roundw
        case rel =>
          refine ⟨k + 1, by omega, by go_num, ?_, hb⟩
          rw [Hid, lowTo_succ l k hlt, lowB_no (by omega), ← lowTo_get l k hlt, List.set_getElem_self]
          exact hrow
        case measure => simp [intOf]; omega
    · obtain rfl : k = l.length := by omega
      have hback := back_bytes cap hrow.out
      rw [lowTo_all, List.length_map] at hback
      go_wp2
      go_ret
      exact ⟨rfl, hb.out⟩

theorem toList_beq (a b : List UInt8) : (a == b) = decide (a = b) := by
  rw [Bool.eq_iff_iff]; simp

set_option maxHeartbeats 400000 in
theorem zzHasPrefix_any (s t : List UInt8) (w : World) (_hs : s.length ≤ maxLen) (_ht : t.length ≤ maxLen) :
    Calls Tryz.prog 99 #[.string (bs s), .string (bs t)] w fun e w' => e = .returned (.bool (decide (t <+: s))) ∧ w = w' := by
  unfold maxLen at _hs _ht
  by_cases h1 : t.length ≤ s.length
  · go_enter Tryz.func99, Tryz.ntmps99
    go_wp2
    go_ret
    refine ⟨ret_bool ?_, rfl⟩
    rw [Bool.eq_iff_iff]; simp only [beq_iff_eq, decide_eq_true_eq, List.prefix_iff_eq_take]; exact eq_comm
  · go_enter Tryz.func99, Tryz.ntmps99
    go_wp2
    go_ret
    refine ⟨ret_bool ?_, rfl⟩
    symm; rw [decide_eq_false_iff_not]; intro h; exact h1 h.length_le

/-- A string that ends with another one behind a dot. -/
def dotSuf (s t : List UInt8) : Bool := decide ((46 :: t) <:+ s)

theorem dotSuf_iff {s t : List UInt8} (h1 : t.length < s.length) : dotSuf s t = true ↔ s[s.length - t.length - 1] = 46 ∧ s.drop (s.length - t.length) = t := by
  simp only [dotSuf, decide_eq_true_eq, List.suffix_iff_eq_drop, List.length_cons]
  rw [show s.length - (t.length + 1) = s.length - t.length - 1 by omega, List.drop_eq_getElem_cons (by omega), List.cons.injEq, show s.length - t.length - 1 + 1 = s.length - t.length by omega]
  exact and_congr eq_comm eq_comm

theorem u8_ne46 {c : UInt8} (h : ¬ c = 46) : ((c.toNat : Int) == 46) = false := by
  rw [Bool.eq_false_iff]; intro e
  exact h (u8_eq.1 (show ((c.toNat : Int) == ((46 : UInt8).toNat : Int)) = true from e))

set_option maxHeartbeats 400000 in
theorem hasDotSuffix_any (s t : List UInt8) (w : World) (_hs : s.length ≤ maxLen) (_ht : t.length ≤ maxLen) :
    Calls Tryz.prog 98 #[.string (bs s), .string (bs t)] w fun e w' => e = .returned (.bool (dotSuf s t)) ∧ w = w' := by
  unfold maxLen at _hs _ht
  by_cases h1 : t.length < s.length
  · have HI := Lib.hid (dotSuf_iff h1)
    by_cases h2 : s[s.length - t.length - 1] = 46
    · have h2' : ((s[s.length - t.length - 1].toNat : Int) == 46) = true := by rw [h2]; rfl
      have HD := Lib.hid h2; clear h2
      go_enter Tryz.func98, Tryz.ntmps98
      go_wp2
      go_ret
      refine ⟨ret_bool ?_, rfl⟩
      rw [Bool.eq_iff_iff, HI.out, beq_iff_eq]
      exact ⟨fun h => ⟨HD.out, h⟩, fun h => h.2⟩
    · have h2' := u8_ne46 h2
      have HD := Lib.hid h2; clear h2
      go_enter Tryz.func98, Tryz.ntmps98
      go_wp2
      go_ret
      refine ⟨ret_bool ?_, rfl⟩
      symm; rw [Bool.eq_false_iff]; intro h; exact HD.out (HI.out.1 h).1
  · have HI : Hid (dotSuf s t = false) := by
      rw [Hid, dotSuf, decide_eq_false_iff_not]; intro h; have := h.length_le; simp at this; omega
    have h1' : decide ((t.length : Int) < s.length) = false := by simp; omega
    go_enter Tryz.func98, Tryz.ntmps98
    go_wp2
    go_ret
    exact ⟨ret_bool HI.out.symm, rfl⟩
end Go.Proofs.YtckfgnbilcjdpaaGreatDoor
/- The contract of the cookie jar's reader of IPv4 addresses. -/
namespace Go.Proofs.YtckfgnbilcjdpaaGreatDoor
open Go.RowKit
set_option maxRecDepth 100000

/-- The reader of IPv4 addresses from a state on: the first number, and whether it is an address. -/
def ip4 : List UInt8 → Nat → Nat → Nat → Nat → Nat × Bool
  | [], first, _, pos, digits => (first, decide (pos = 3) && decide (0 < digits))
  | c :: r, first, val, pos, digits =>
    if 48 ≤ c.toNat ∧ c.toNat ≤ 57 then
      if digits = 1 ∧ val = 0 then (0, false)
      else if 255 < val * 10 + (c.toNat - 48) then (0, false)
      else ip4 r first (val * 10 + (c.toNat - 48)) pos (digits + 1)
    else if c.toNat = 46 then
      if digits = 0 ∨ r = [] ∨ pos = 3 then (0, false)
      else ip4 r (if pos = 0 then val else first) 0 (pos + 1) 0
    else (0, false)

def ipEnd (r : Nat × Bool) (e : Ending) : Prop := e = .returned (.tuple #[.int .i64 r.1, .bool r.2])
theorem ipEnd_no {r : Nat × Bool} (h : r = (0, false)) : ipEnd r (.returned (.tuple #[.int .i64 0, .bool false])) := by rw [h]; rfl

set_option maxHeartbeats 2000000 in
theorem zzIPv4_any (l : List UInt8) (w : World) (hs : l.length ≤ maxLen) :
    Calls Tryz.prog 97 #[.string (bs l)] w fun e w' => ipEnd (ip4 l 0 0 0 0) e ∧ w = w' := by
  unfold maxLen at hs
  go_enter Tryz.func97, Tryz.ntmps97
  go_wp2
  go_loop [2, 4, 5, 6, 7] (fun f v p d i => ∃ F V P D k : Nat, k ≤ l.length ∧ V ≤ 255 ∧ P ≤ 3 ∧ D ≤ k ∧ F ≤ 255 ∧ i = .int .i64 k ∧ f = .int .i64 F ∧ v = .int .i64 V ∧ p = .int .i64 P ∧ d = .int .i64 D ∧ Hid (ip4 l 0 0 0 0 = ip4 (l.drop k) F V P D)) (fun _ _ _ _ i => l.length - (intOf i).toNat)
  case atStart => exact ⟨0, 0, 0, 0, 0, by omega, by omega, by omega, by omega, by omega, rfl, rfl, rfl, rfl, rfl, rfl⟩
  case round =>
    obtain ⟨F, V, P, D, k, hk, hV, hP, hD, hF, rfl, rfl, rfl, rfl, rfl, HI⟩ := hrel
    by_cases hlt : k < l.length
    · have HC := Lib.hid (List.drop_eq_getElem_cons hlt)
      by_cases h1 : 48 ≤ l[k].toNat
      · by_cases h2 : l[k].toNat ≤ 57
        · by_cases h3 : D = 1
          · by_cases h4 : V = 0
            · subst h3; subst h4
              go_wp2
              go_ret2
              exact ⟨ipEnd_no (by rw [HI.out, HC.out, ip4]; simp [h1, h2]), rfl⟩
            · have h4' : ((V : Int) == 0) = false := by simpa using h4
              have H4 := Lib.hid h4; clear h4
              subst h3
              by_cases h5 : 255 < V * 10 + (l[k].toNat - 48)
              · go_wp2
                go_ret2
                exact ⟨ipEnd_no (by rw [HI.out, HC.out, ip4, if_pos ⟨h1, h2⟩, if_neg (fun h => H4.out h.2), if_pos h5]), rfl⟩
              · go_wp2
                go_round
                case rel =>
                  refine ⟨F, V * 10 + (l[k].toNat - 48), P, 2, k + 1, by omega, by omega, hP, by omega, hF, by go_num, rfl, by go_num, rfl, by go_num, ?_⟩
                  rw [Hid, HI.out, HC.out, ip4, if_pos ⟨h1, h2⟩, if_neg (fun h => H4.out h.2), if_neg h5]
                case measure => simp [intOf]; omega
          · have h3' : ((D : Int) == 1) = false := by rw [Bool.eq_false_iff]; intro h; rw [beq_iff_eq] at h; omega
            have H3 := Lib.hid h3; clear h3
            by_cases h5 : 255 < V * 10 + (l[k].toNat - 48)
            · go_wp2
              go_ret2
              exact ⟨ipEnd_no (by rw [HI.out, HC.out, ip4, if_pos ⟨h1, h2⟩, if_neg (fun h => H3.out h.1), if_pos h5]), rfl⟩
            · go_wp2
              go_round
              case rel =>
                refine ⟨F, V * 10 + (l[k].toNat - 48), P, D + 1, k + 1, by omega, by omega, hP, by omega, hF, by go_num, rfl, by go_num, rfl, by go_num, ?_⟩
                rw [Hid, HI.out, HC.out, ip4, if_pos ⟨h1, h2⟩, if_neg (fun h => H3.out h.1), if_neg h5]
              case measure => simp [intOf]; omega
        · have hne : ((l[k].toNat : Int) == 46) = false := by rw [Bool.eq_false_iff]; intro h; rw [beq_iff_eq] at h; omega
          go_wp2
          go_ret2
          exact ⟨ipEnd_no (by rw [HI.out, HC.out, ip4, if_neg (by omega), if_neg (by omega)]), rfl⟩
      · by_cases h2 : l[k].toNat = 46
        · have he : ((l[k].toNat : Int) == 46) = true := by rw [beq_iff_eq]; omega
          have H2 := Lib.hid h2; clear h2
          by_cases h3 : D = 0
          · subst h3
            go_wp2
            go_ret2
            exact ⟨ipEnd_no (by rw [HI.out, HC.out, ip4, if_neg (by omega), if_pos H2.out, if_pos (Or.inl rfl)]), rfl⟩
          · have h3' : ((D : Int) == 0) = false := by rw [Bool.eq_false_iff]; intro h; rw [beq_iff_eq] at h; omega
            have H3 := Lib.hid h3; clear h3
            by_cases h4 : k + 1 = l.length
            · have h4' : ((k : Int) == (l.length : Int) - 1) = true := by rw [beq_iff_eq]; omega
              have H4 := Lib.hid h4; clear h4
              go_wp2
              go_ret2
              exact ⟨ipEnd_no (by rw [HI.out, HC.out, ip4, if_neg (by omega), if_pos H2.out, if_pos (Or.inr (Or.inl (by rw [H4.out]; simp)))]), rfl⟩
            · have h4' : ((k : Int) == (l.length : Int) - 1) = false := by rw [Bool.eq_false_iff]; intro h; rw [beq_iff_eq] at h; omega
              have H4 : Hid (l.drop (k + 1) ≠ []) := by rw [Hid, ne_eq, List.drop_eq_nil_iff]; omega
              clear h4
              by_cases h5 : P = 3
              · subst h5
                go_wp2
                go_ret2
                exact ⟨ipEnd_no (by rw [HI.out, HC.out, ip4, if_neg (by omega), if_pos H2.out, if_pos (Or.inr (Or.inr rfl))]), rfl⟩
              · have h5' : ((P : Int) == 3) = false := by rw [Bool.eq_false_iff]; intro h; rw [beq_iff_eq] at h; omega
                by_cases h6 : P = 0
                · subst h6
                  have HE : Hid (ip4 (l.drop k) F V 0 D = ip4 (l.drop (k + 1)) V 0 1 0) := by
                    rw [Hid, HC.out, ip4, if_neg (by omega), if_pos H2.out, if_neg (by rintro (h | h | h); exact H3.out h; exact H4.out h; cases h), if_pos rfl]
                  go_wp2
                  go_round
                  case rel =>
                    exact ⟨V, 0, 1, 0, k + 1, by omega, by omega, by omega, by omega, hV, by go_num, rfl, rfl, rfl, rfl, by rw [Hid, HI.out, HE.out]⟩
                  case measure => simp [intOf]; omega
                · have h6' : ((P : Int) == 0) = false := by rw [Bool.eq_false_iff]; intro h; rw [beq_iff_eq] at h; omega
                  have HE : Hid (ip4 (l.drop k) F V P D = ip4 (l.drop (k + 1)) F 0 (P + 1) 0) := by
                    rw [Hid, HC.out, ip4, if_neg (by omega), if_pos H2.out, if_neg (by rintro (h | h | h); exact H3.out h; exact H4.out h; exact h5 h), if_neg h6]
                  have H5 := Lib.hid h5; clear h5
                  have H6 := Lib.hid h6; clear h6
                  go_wp2
                  go_round
                  case rel =>
                    exact ⟨F, 0, P + 1, 0, k + 1, by omega, by omega, by have := H5.out; omega, by omega, hF, by go_num, rfl, rfl, by go_num, rfl, by rw [Hid, HI.out, HE.out]⟩
                  case measure => simp [intOf]; omega
        · have he : ((l[k].toNat : Int) == 46) = false := by rw [Bool.eq_false_iff]; intro h; rw [beq_iff_eq] at h; omega
          have H2 := Lib.hid h2; clear h2
          go_wp2
          go_ret2
          exact ⟨ipEnd_no (by rw [HI.out, HC.out, ip4, if_neg (by omega), if_neg H2.out]), rfl⟩
    · have HZ : Hid (ip4 l 0 0 0 0 = (F, decide (P = 3) && decide (0 < D))) := by
        rw [Hid, HI.out, List.drop_eq_nil_of_le (by omega), ip4]
      by_cases h5 : P = 3
      · subst h5
        go_wp2
        go_ret2
        refine ⟨?_, rfl⟩
        rw [HZ.out]; simp [ipEnd]
      · have h5' : ((P : Int) == 3) = false := by rw [Bool.eq_false_iff]; intro h; rw [beq_iff_eq] at h; omega
        have H5 := Lib.hid h5; clear h5
        go_wp2
        go_ret2
        refine ⟨?_, rfl⟩
        rw [HZ.out]; simp [ipEnd, H5.out]
end Go.Proofs.YtckfgnbilcjdpaaGreatDoor
/- Contracts: hosts and ports, local hosts, addresses. -/
namespace Go.Proofs.YtckfgnbilcjdpaaGreatDoor
open Go.RowKit
set_option maxRecDepth 100000

set_option maxHeartbeats 400000 in
theorem zzEqualFold_any (s t : List UInt8) (w : World) (_hs : s.length ≤ maxLen) (_ht : t.length ≤ maxLen) :
    Calls Tryz.prog 113 #[.string (bs s), .string (bs t)] w fun e w' => e = .returned (.bool (decide (s.map lowB = t.map lowB))) ∧ Below w.heap.size w w' := by
  by_cases h1 : s.length = t.length
  · have h1' : ((s.length : Int) == (t.length : Int)) = true := by rw [beq_iff_eq]; omega
    have H1 := Lib.hid h1; clear h1
    have HA := Lib.hid _hs; clear _hs
    have HB := Lib.hid _ht; clear _ht
    go_enter Tryz.func113, Tryz.ntmps113
    go_wp2_with fail
    refine (zzLow_any _ _ HA.out).mono ?_
    rintro e w1 ⟨rfl, hb1⟩
    go_wp2_with fail
    refine (zzLow_any _ _ HB.out).mono ?_
    rintro e w2 ⟨rfl, hb2⟩
    go_wp2
    go_ret
    exact ⟨ret_bool (by rw [toList_beq]), hb1.trans (hb2.mono hb1.size)⟩
  · have h1' : ((s.length : Int) == (t.length : Int)) = false := by rw [Bool.eq_false_iff]; intro h; rw [beq_iff_eq] at h; omega
    have H1 := Lib.hid h1; clear h1
    go_enter Tryz.func113, Tryz.ntmps113
    go_wp2
    go_ret
    refine ⟨ret_bool ?_, Below.refl _ _⟩
    symm; rw [decide_eq_false_iff_not]; intro h
    have := congrArg List.length h
    simp at this; exact H1.out this

theorem lastIdx_lt (l : List UInt8) (c : UInt8) : ∀ k, -1 ≤ lastIdx l c k ∧ lastIdx l c k < k
  | 0 => by simp [lastIdx]
  | k + 1 => by
    have := lastIdx_lt l c k
    simp only [lastIdx]; split <;> omega

/-- What stands behind the last dot. -/
def lastLabel (l : List UInt8) : List UInt8 := l.drop (lastIdx l 46 l.length + 1).toNat
/-- The name of the local host. -/
def localhostB : List UInt8 := [108, 111, 99, 97, 108, 104, 111, 115, 116]

set_option maxHeartbeats 400000 in
theorem isLocalhost_no (l : List UInt8) (w : World) (hs : l.length ≤ maxLen) (hd : l.getLast? ≠ some 46) (hn : (lastLabel l).map lowB ≠ localhostB) :
    Calls Tryz.prog 100 #[.string (bs l)] w fun e w' => e = .returned (.bool false) ∧ Below w.heap.size w w' := by
  have HN := Lib.hid hn; clear hn
  have HD := Lib.hid hd; clear hd
  have HS := Lib.hid hs
  unfold maxLen at hs
  obtain ⟨h1, h2⟩ := lastIdx_lt l 46 l.length
  obtain ⟨i, hi⟩ : ∃ i, i = lastIdx l 46 l.length := ⟨_, rfl⟩
  have HI := Lib.hid hi
  rw [← hi] at h1 h2
  clear hi
  have HX : Hid ((l.drop (i + 1).toNat).map lowB ≠ localhostB) := by rw [Hid, HI.out]; exact HN.out
  have HL : Hid ((l.drop (i + 1).toNat).length ≤ maxLen) := Nat.le_trans (by simp) HS.out
  go_enter Tryz.func100, Tryz.ntmps100
  go_wp2_with fail
  refine (zzTrimSuffix_no l 46 _ HS.out HD.out).mono ?_
  rintro e w1 ⟨rfl, rfl⟩
  go_wp2_with fail
  refine (zzLastIndex_any l 46 _ HS.out).mono ?_
  rintro e w1 ⟨rfl, rfl⟩
  rw [← HI.out]
  go_wp2_with fail
  · refine (zzEqualFold_any _ localhostB _ HL.out (by decide)).mono ?_
    rintro e w1 ⟨rfl, hb⟩
    have HF : Hid (decide ((l.drop (i + 1).toNat).map lowB = localhostB.map lowB) = false) := by
      rw [Hid, decide_eq_false_iff_not]; exact HX.out
    rw [HF.out]
    go_wp2
    go_ret
    exact ⟨rfl, hb⟩
  · refine (zzEqualFold_any _ localhostB _ HS.out (by decide)).mono ?_
    rintro e w1 ⟨rfl, hb⟩
    have HF : Hid (decide (l.map lowB = localhostB.map lowB) = false) := by
      rw [Hid, decide_eq_false_iff_not]
      have := HX.out
      rw [show (i + 1).toNat = 0 by omega] at this
      exact this
    rw [HF.out]
    go_wp2
    go_ret
    exact ⟨rfl, hb⟩

set_option maxHeartbeats 400000 in
theorem zzToLower_yes (l : List UInt8) (w : World) (hs : l.length ≤ maxLen) (hc : ∀ x ∈ l, 32 ≤ x.toNat ∧ x.toNat ≤ 126) :
    Calls Tryz.prog 79 #[.string (bs l)] w fun e w' => e = .returned (.tuple #[.string (bs (l.map lowB)), .bool true]) ∧ Below w.heap.size w w' := by
  have HC := Lib.hid hc; clear hc
  go_enter Tryz.func79, Tryz.ntmps79
  go_wp2_with fail
  refine (zzPrint_yes l _ hs HC.out).mono ?_
  rintro e w1 ⟨rfl, rfl⟩
  go_wp2_with fail
  refine (zzLow_any l _ hs).mono ?_
  rintro e w1 ⟨rfl, hb⟩
  go_wp2
  go_ret2
  exact ⟨rfl, hb⟩

/-- What may stand in a host: letters, digits, dots and hyphens. -/
def hostCh (x : UInt8) : Prop := (65 ≤ x.toNat ∧ x.toNat ≤ 90) ∨ (97 ≤ x.toNat ∧ x.toNat ≤ 122) ∨ (48 ≤ x.toNat ∧ x.toNat ≤ 57) ∨ x.toNat = 45 ∨ x.toNat = 46
/-- A host as it may stand in an address. -/
structure GoodHost (h : List UInt8) : Prop where
  ch : ∀ x ∈ h, hostCh x
  last : h.getLast? ≠ some 46
  ne : h ≠ []
/-- An address's host: with a port or without. -/
def HostOf (raw h : List UInt8) : Prop := raw = h ∨ ∃ p, raw = h ++ 58 :: p ∧ ∀ x ∈ p, 48 ≤ x.toNat ∧ x.toNat ≤ 57

theorem GoodHost.no {h : List UInt8} (g : GoodHost h) {c : UInt8} (hc : ¬ hostCh c) : c ∉ h := fun hm => hc (g.ch c hm)
theorem not58 : ¬ hostCh 58 := by unfold hostCh; decide
theorem not37 : ¬ hostCh 37 := by unfold hostCh; decide
theorem not91 : ¬ hostCh 91 := by unfold hostCh; decide
theorem not93 : ¬ hostCh 93 := by unfold hostCh; decide

theorem port_no {p : List UInt8} (h : ∀ x ∈ p, 48 ≤ x.toNat ∧ x.toNat ≤ 57) {c : UInt8} (hc : ¬ (48 ≤ c.toNat ∧ c.toNat ≤ 57)) : c ∉ p := fun hm => hc (h c hm)

set_option maxHeartbeats 400000 in
theorem hasPort_no (h : List UInt8) (g : GoodHost h) (w : World) (hs : h.length ≤ maxLen) :
    Calls Tryz.prog 74 #[.string (bs h)] w fun e w' => e = .returned (.bool false) ∧ w = w' := by
  have hc : h.count 58 = 0 := List.count_eq_zero.2 (g.no not58)
  have HC := Lib.hid hc; clear hc
  have HG := Lib.hid g; clear g
  go_enter Tryz.func74, Tryz.ntmps74
  go_wp2_with fail
  refine (zzCount_any h 58 _ hs).mono ?_
  rintro e w1 ⟨rfl, rfl⟩
  rw [HC.out]
  go_wp2
  go_ret
  exact ⟨rfl, rfl⟩

set_option maxHeartbeats 400000 in
theorem hasPort_yes (h p : List UInt8) (g : GoodHost h) (hp : ∀ x ∈ p, 48 ≤ x.toNat ∧ x.toNat ≤ 57) (w : World) (hs : (h ++ 58 :: p).length ≤ maxLen) :
    Calls Tryz.prog 74 #[.string (bs (h ++ 58 :: p))] w fun e w' => e = .returned (.bool true) ∧ w = w' := by
  have hc : (h ++ 58 :: p).count 58 = 1 := by
    rw [List.count_append, List.count_cons_self, List.count_eq_zero.2 (g.no not58), List.count_eq_zero.2 (port_no hp (by decide))]
  obtain ⟨r, hr⟩ : ∃ r, h ++ 58 :: p = r := ⟨_, rfl⟩
  rw [hr] at hc hs ⊢
  clear hr
  have HC := Lib.hid hc; clear hc
  have HG := Lib.hid g; clear g
  have HP := Lib.hid hp; clear hp
  go_enter Tryz.func74, Tryz.ntmps74
  go_wp2_with fail
  refine (zzCount_any r 58 _ hs).mono ?_
  rintro e w1 ⟨rfl, rfl⟩
  rw [HC.out]
  go_wp2
  go_ret
  exact ⟨rfl, rfl⟩

theorem lastIdx_none {p : List UInt8} {c : UInt8} (h : c ∉ p) (a : List UInt8) : ∀ k, k ≤ p.length → lastIdx (a ++ c :: p) c (a.length + 1 + k) = a.length
  | 0, _ => by
    simp [lastIdx]
  | k + 1, hk => by
    rw [show a.length + 1 + (k + 1) = (a.length + 1 + k) + 1 by omega, lastIdx, if_neg, lastIdx_none h a k (by omega)]
    rw [List.getElem?_append_right (by omega), show a.length + 1 + k - a.length = k + 1 by omega, List.getElem?_cons_succ, List.getElem?_eq_getElem (by omega)]
    intro e
    exact h (Option.some.inj e ▸ List.getElem_mem _)

theorem not_mem_host {h p : List UInt8} (g : GoodHost h) (hp : ∀ x ∈ p, 48 ≤ x.toNat ∧ x.toNat ≤ 57) {c : UInt8} (h1 : ¬ hostCh c) (h2 : c ≠ 58) : c ∉ h ++ 58 :: p := by
  intro hm
  rcases List.mem_append.1 hm with hm | hm
  · exact h1 (g.ch c hm)
  · rcases List.mem_cons.1 hm with hm | hm
    · exact h2 hm
    · exact h1 (Or.inr (Or.inr (Or.inl (hp c hm))))

set_option maxHeartbeats 1000000 in
theorem zzSplitHostPort_yes (h p : List UInt8) (g : GoodHost h) (hp : ∀ x ∈ p, 48 ≤ x.toNat ∧ x.toNat ≤ 57) (w : World) (hs : (h ++ 58 :: p).length ≤ maxLen) :
    Calls Tryz.prog 75 #[.string (bs (h ++ 58 :: p))] w fun e w' => e = .returned (.tuple #[.string (bs h), .string (bs p), .nilIface]) ∧ w = w' := by
  have hlast : lastIdx (h ++ 58 :: p) 58 (h ++ 58 :: p).length = h.length := by
    have := lastIdx_none (port_no hp (c := 58) (by decide)) h p.length (Nat.le_refl _)
    rw [show (h ++ 58 :: p).length = h.length + 1 + p.length by simp; omega]; exact this
  have h91 : (91 : UInt8) ∉ h ++ 58 :: p := not_mem_host g hp not91 (by decide)
  have h93 : (93 : UInt8) ∉ h ++ 58 :: p := not_mem_host g hp not93 (by decide)
  have h58 : (58 : UInt8) ∉ h := g.no not58
  have hne := g.ne
  have hpos : 0 < h.length := List.length_pos_iff.2 hne
  have e1 : (h ++ 58 :: p).take h.length = h := by simp
  have e2 : (h ++ 58 :: p).drop (h.length + 1) = p := by simp
  have e3 : h.length < (h ++ 58 :: p).length := by simp
  obtain ⟨r, hr⟩ : ∃ r, h ++ 58 :: p = r := ⟨_, rfl⟩
  rw [hr] at hlast h91 h93 hs e1 e2 e3 ⊢
  clear hr
  have hr0 : 0 < r.length := Nat.lt_of_le_of_lt (Nat.zero_le _) e3
  have hb1 : ((r[0].toNat : Int) == 91) = false := by
    rw [Bool.eq_false_iff]; intro e
    have e' : r[0] = 91 := u8_eq.1 (show ((r[0].toNat : Int) == ((91 : UInt8).toNat : Int)) = true from e)
    exact h91 (e' ▸ List.getElem_mem hr0)
  have HS := Lib.hid hs
  have H1 := Lib.hid hlast; clear hlast
  have H2 := Lib.hid h91; clear h91
  have H3 := Lib.hid h93; clear h93
  have H4 := Lib.hid h58; clear h58
  have H5 := Lib.hid hne; clear hne
  have H6 := Lib.hid e1; clear e1
  have H7 := Lib.hid e2; clear e2
  have H8 := Lib.hid hp; clear hp
  have H9 := Lib.hid g; clear g
  unfold maxLen at hs
  go_enter Tryz.func75, Tryz.ntmps75
  go_wp2_with fail
  refine (zzLastIndex_any r 58 _ HS.out).mono ?_
  rintro e w1 ⟨rfl, rfl⟩
  rw [H1.out]
  go_wp2_with fail
  rw [H6.out]
  refine (zzIndex_none h 58 _ (by unfold maxLen; omega) H4.out).mono ?_
  rintro e w1 ⟨rfl, rfl⟩
  go_wp2_with fail
  refine (zzIndex_none r 91 _ HS.out H2.out).mono ?_
  rintro e w1 ⟨rfl, rfl⟩
  go_wp2_with fail
  refine (zzIndex_none r 93 _ HS.out H3.out).mono ?_
  rintro e w1 ⟨rfl, rfl⟩
  go_wp2
  go_ret3
  refine ⟨?_, rfl⟩
  rw [H7.out]
  rfl

theorem GoodHost.print {h : List UInt8} (g : GoodHost h) : ∀ x ∈ h, 32 ≤ x.toNat ∧ x.toNat ≤ 126 := by
  intro x hx
  have := g.ch x hx
  unfold hostCh at this
  omega

set_option maxHeartbeats 1000000 in
theorem canonicalHost_yes (raw h : List UInt8) (g : GoodHost h) (hr : HostOf raw h) (w : World) (hs : raw.length ≤ maxLen) :
    Calls Tryz.prog 62 #[.string (bs raw)] w fun e w' => e = .returned (.tuple #[.string (bs (h.map lowB)), .nilIface]) ∧ Below w.heap.size w w' := by
  have HP := Lib.hid g.print
  have HA : Hid (∀ x ∈ h, x.toNat ≤ 127) := fun x hx => by have := g.print x hx; omega
  have HL := Lib.hid g.last
  have HS := Lib.hid hs
  rcases hr with rfl | ⟨p, rfl, hp⟩
  · go_enter Tryz.func62, Tryz.ntmps62
    go_wp2_with fail
    refine (hasPort_no raw g _ HS.out).mono ?_
    rintro e w1 ⟨rfl, rfl⟩
    go_wp2_with fail
    refine (zzTrimSuffix_no raw 46 _ HS.out HL.out).mono ?_
    rintro e w1 ⟨rfl, rfl⟩
    go_wp2_with fail
    refine (zzASCII_yes raw _ HS.out HA.out).mono ?_
    rintro e w1 ⟨rfl, rfl⟩
    go_wp2_with fail
    refine (zzToLower_yes raw _ HS.out HP.out).mono ?_
    rintro e w1 ⟨rfl, hb⟩
    go_wp2
    go_ret2
    exact ⟨rfl, hb⟩
  · have HG := Lib.hid g; clear g
    have HQ := Lib.hid hp; clear hp
    have HT : Hid (h.length ≤ maxLen) := Nat.le_trans (by simp) hs
    go_enter Tryz.func62, Tryz.ntmps62
    go_wp2_with fail
    refine (hasPort_yes h p HG.out HQ.out _ HS.out).mono ?_
    rintro e w1 ⟨rfl, rfl⟩
    go_wp2_with fail
    refine (zzSplitHostPort_yes h p HG.out HQ.out _ HS.out).mono ?_
    rintro e w1 ⟨rfl, rfl⟩
    go_wp2_with fail
    refine (zzTrimSuffix_no h 46 _ HT.out HL.out).mono ?_
    rintro e w1 ⟨rfl, rfl⟩
    go_wp2_with fail
    refine (zzASCII_yes h _ HT.out HA.out).mono ?_
    rintro e w1 ⟨rfl, rfl⟩
    go_wp2_with fail
    refine (zzToLower_yes h _ HT.out HP.out).mono ?_
    rintro e w1 ⟨rfl, hb⟩
    go_wp2
    go_ret2
    exact ⟨rfl, hb⟩

/-- Whether it is an IPv4 address, as the cookie jar reads it. -/
def ipB (l : List UInt8) : Bool := (ip4 l 0 0 0 0).2

set_option maxHeartbeats 1000000 in
theorem isIP_any (l : List UInt8) (h1 : 58 ∉ l) (h2 : 37 ∉ l) (w : World) (hs : l.length ≤ maxLen) :
    Calls Tryz.prog 80 #[.string (bs l)] w fun e w' => e = .returned (.bool (ipB l)) ∧ w = w' := by
  have HS := Lib.hid hs
  have H1 := Lib.hid h1; clear h1
  have H2 := Lib.hid h2; clear h2
  go_enter Tryz.func80, Tryz.ntmps80
  go_wp2_with fail
  refine (zzIndex_none l 58 _ HS.out H1.out).mono ?_
  rintro e w1 ⟨rfl, rfl⟩
  go_wp2_with fail
  refine (zzIndex_none l 37 _ HS.out H2.out).mono ?_
  rintro e w1 ⟨rfl, rfl⟩
  go_wp2_with fail
  refine (zzIPv4_any l _ HS.out).mono ?_
  rintro e w1 ⟨he, rfl⟩
  unfold ipEnd at he
  obtain ⟨r1, r2, hr⟩ : ∃ r1 r2, ip4 l 0 0 0 0 = (r1, r2) := ⟨_, _, rfl⟩
  have HR := Lib.hid hr
  rw [hr] at he
  clear hr
  subst he
  go_wp2
  go_ret
  exact ⟨by rw [ipB, HR.out]; rfl, rfl⟩
end Go.Proofs.YtckfgnbilcjdpaaGreatDoor
/- Contracts: public suffixes, as the thin package's list gives them. -/
namespace Go.Proofs.YtckfgnbilcjdpaaGreatDoor
open Go.RowKit
set_option maxRecDepth 100000

/-- The cells cs lie one behind the other from A on. -/
def CellsAt (w : World) (A : Option Addr) (cs : List Value) : Prop :=
  cs = [] ∨ ∃ b off, A = some ⟨b, off, none⟩ ∧ ∀ j u, cs[j]? = some u → w.cell? ⟨b, off + j, none⟩ = some u

theorem CellsAt.nil (w : World) (A : Option Addr) : CellsAt w A [] := Or.inl rfl

theorem CellsAt.below {w w' : World} {A : Option Addr} {cs : List Value} (h : CellsAt w A cs) (hb : Below w.heap.size w w') : CellsAt w' A cs := by
  rcases h with h | ⟨b, off, hA, hc⟩
  · exact Or.inl h
  · refine Or.inr ⟨b, off, hA, fun j u hj => ?_⟩
    have h1 := hc j u hj
    rw [hb.cell (World.block_lt_of_cell? w _ h1)]; exact h1

theorem CellsAt.get {w : World} {A : Option Addr} {cs : List Value} (h : CellsAt w A cs) {k : Nat} (hk : k < cs.length) :
    ∃ b off, A = some ⟨b, off, none⟩ ∧ ∀ j u, cs[j]? = some u → w.cell? ⟨b, off + j, none⟩ = some u := by
  rcases h with h | h
  · subst h; simp at hk
  · exact h

/-- A slice of strings, as cells. -/
def strCells (ss : List (List UInt8)) : List Value := ss.map fun s => .string (bs s)
theorem strCells_get {w : World} {A : Option Addr} {ss : List (List UInt8)} (h : CellsAt w A (strCells ss)) {k : Nat} (hk : k < ss.length) :
    ∃ b off, A = some ⟨b, off, none⟩ ∧ w.cell? ⟨b, off + k, none⟩ = some (.string (bs ss[k])) := by
  obtain ⟨b, off, hA, hc⟩ := h.get (k := k) (by simpa [strCells] using hk)
  exact ⟨b, off, hA, hc k _ (by simp [strCells, hk])⟩

/-- A domain is a suffix, or ends with it behind a dot. -/
def sufB (d s : List UInt8) : Bool := decide (d = s) || dotSuf d s

set_option maxHeartbeats 1000000 in
theorem implEnds_any (d s : List UInt8) (w : World) (hd : d.length ≤ maxLen) (hs : s.length ≤ maxLen) :
    Calls Tryz.prog 137 #[.string (bs d), .string (bs s)] w fun e w' => e = .returned (.bool (sufB d s)) ∧ w = w' := by
  unfold maxLen at hd hs
  by_cases h0 : d.length = s.length
  · have h0' : ((d.length : Int) - (s.length : Int) == 0) = true := by rw [beq_iff_eq]; omega
    have HS : Hid (dotSuf d s = false) := by
      rw [Hid, dotSuf, decide_eq_false_iff_not]; intro h; have := h.length_le; simp at this; omega
    have H0 := Lib.hid h0; clear h0
    by_cases h1 : d = s
    · have h1' : (d == s) = true := by rw [beq_iff_eq]; exact h1
      have H1 := Lib.hid h1; clear h1
      go_enter Tryz.func137, Tryz.ntmps137
      go_wp2
      go_ret
      exact ⟨ret_bool (by simp [sufB, H1.out]), rfl⟩
    · have h1' : (d == s) = false := by rw [Bool.eq_false_iff]; intro h; exact h1 (beq_iff_eq.1 h)
      have H1 := Lib.hid h1; clear h1
      have h2 : decide (s.length < d.length) = false := by have := H0.out; simp; omega
      go_enter Tryz.func137, Tryz.ntmps137
      go_wp2
      go_ret
      exact ⟨ret_bool (by simp [sufB, H1.out, HS.out]), rfl⟩
  · have h0' : ((d.length : Int) - (s.length : Int) == 0) = false := by rw [Bool.eq_false_iff]; intro h; rw [beq_iff_eq] at h; omega
    have HN : Hid (decide (d = s) = false) := by rw [Hid, decide_eq_false_iff_not]; rintro rfl; exact h0 rfl
    have H0 := Lib.hid h0; clear h0
    by_cases h1 : s.length < d.length
    · have HI := Lib.hid (dotSuf_iff h1)
      by_cases h2 : d[d.length - s.length - 1] = 46
      · have h2' : ((d[d.length - s.length - 1].toNat : Int) == 46) = true := by rw [h2]; rfl
        have HD := Lib.hid h2; clear h2
        go_enter Tryz.func137, Tryz.ntmps137
        go_wp2
        go_ret
        refine ⟨ret_bool ?_, rfl⟩
        rw [sufB, HN.out, Bool.false_or, Bool.eq_iff_iff, HI.out, beq_iff_eq]
        exact ⟨fun h => ⟨HD.out, h⟩, fun h => h.2⟩
      · have h2' := u8_ne46 h2
        have HD := Lib.hid h2; clear h2
        go_enter Tryz.func137, Tryz.ntmps137
        go_wp2
        go_ret
        refine ⟨ret_bool ?_, rfl⟩
        rw [sufB, HN.out, Bool.false_or]
        symm; rw [Bool.eq_false_iff]; intro h; exact HD.out (HI.out.1 h).1
    · have HI : Hid (dotSuf d s = false) := by
        rw [Hid, dotSuf, decide_eq_false_iff_not]; intro h; have := h.length_le; simp at this; omega
      have h2 : decide (s.length < d.length) = false := by simp; omega
      go_enter Tryz.func137, Tryz.ntmps137
      go_wp2
      go_ret
      exact ⟨ret_bool (by rw [sufB, HN.out, HI.out]; rfl), rfl⟩

/-- One suffix more is looked at. -/
def bestStep (d : List UInt8) (best : Option (List UInt8)) (s : List UInt8) : Option (List UInt8) :=
  if sufB d s = true ∧ (best = none ∨ (best.getD []).length < s.length) then some s else best
/-- The longest suffix among the first k. -/
def bestTo (d : List UInt8) (ss : List (List UInt8)) (k : Nat) : Option (List UInt8) := (ss.take k).foldl (bestStep d) none
theorem bestTo_succ (d : List UInt8) (ss : List (List UInt8)) (k : Nat) (h : k < ss.length) : bestTo d ss (k + 1) = bestStep d (bestTo d ss k) ss[k] := by
  rw [bestTo, List.take_succ_eq_append_getElem h, List.foldl_append]; rfl
/-- The public suffix of a domain. -/
def pubSuf (ss : List (List UInt8)) (d : List UInt8) : List UInt8 :=
  match bestTo d ss ss.length with
  | some s => s
  | none => lastLabel d

set_option maxHeartbeats 2000000 in
theorem publicSuffix_any (A : Option Addr) (cap : Nat) (ss : List (List UInt8)) (d : List UInt8) (w : World) (hA : CellsAt w A (strCells ss)) (hd : d.length ≤ maxLen) (hn : ss.length ≤ maxLen)
    (hs : ∀ s ∈ ss, s.length ≤ maxLen) :
    Calls Tryz.prog 135 #[.slice A ss.length cap, .string (bs d)] w fun e w' => e = .returned (.string (bs (pubSuf ss d))) ∧ w = w' := by
  have HA := Lib.hid hA; clear hA
  have HS := Lib.hid hs; clear hs
  have HD := Lib.hid hd
  unfold maxLen at hd hn
  go_enter Tryz.func135, Tryz.ntmps135
  go_wp2
  go_loop [5, 6, 12] (fun b f i => ∃ (k : Nat) (best : Option (List UInt8)), k ≤ ss.length ∧ i = .int .i64 k ∧ f = .bool best.isSome ∧ b = .string (bs (best.getD [])) ∧ Hid (best = bestTo d ss k) ∧ Hid ((best.getD []).length ≤ maxLen)) (fun _ _ i => ss.length - (intOf i).toNat)
  case atStart => exact ⟨0, none, Nat.zero_le _, rfl, rfl, rfl, rfl, Nat.zero_le _⟩
  case round =>
    obtain ⟨k, best, hk, rfl, rfl, rfl, HB, HL⟩ := hrel
    by_cases hlt : k < ss.length
    · obtain ⟨b, off, rfl, hc⟩ := strCells_get HA.out hlt
      have HK := Lib.hid (bestTo_succ d ss k hlt)
      have HZ := Lib.hid (HS.out _ (List.getElem_mem hlt))
      obtain ⟨s, hsk⟩ : ∃ s, s = ss[k] := ⟨_, rfl⟩
      rw [← hsk] at hc HK HZ
      clear hsk
      rw [← HB.out] at HK
      by_cases h1 : sufB d s = true
      · cases hbest : best with
        | none =>
          subst hbest
          go_wp2_with fail
          refine (implEnds_any d s _ HD.out HZ.out).mono ?_
          rintro e w1 ⟨rfl, rfl⟩
          rw [h1]
          have H1 := Lib.hid h1; clear h1
          go_wp2
          go_round
          case rel => exact ⟨k + 1, some s, by omega, by go_num, rfl, rfl, by rw [Hid, HK.out, bestStep, if_pos ⟨H1.out, Or.inl rfl⟩], HZ⟩
          case measure => simp [intOf]; omega
        | some bb =>
          subst hbest
          by_cases h2 : bb.length < s.length
          · go_wp2_with fail
            refine (implEnds_any d s _ HD.out HZ.out).mono ?_
            rintro e w1 ⟨rfl, rfl⟩
            rw [h1]
            have H1 := Lib.hid h1; clear h1
            go_wp2
            go_round
            case rel => exact ⟨k + 1, some s, by omega, by go_num, rfl, rfl, by rw [Hid, HK.out, bestStep, if_pos ⟨H1.out, Or.inr h2⟩], HZ⟩
            case measure => simp [intOf]; omega
          · have h2' : decide ((bb.length : Int) < (s.length : Int)) = false := by simp; omega
            go_wp2_with fail
            refine (implEnds_any d s _ HD.out HZ.out).mono ?_
            rintro e w1 ⟨rfl, rfl⟩
            rw [h1]
            have H1 := Lib.hid h1; clear h1
            go_wp2
            go_round
            case rel =>
              refine ⟨k + 1, some bb, by omega, by go_num, rfl, rfl, ?_, HL⟩
              rw [Hid, HK.out, bestStep, if_neg]
              rintro ⟨_, h | h⟩
              · cases h
              · exact h2 h
            case measure => simp [intOf]; omega
      · rw [Bool.not_eq_true] at h1
        go_wp2_with fail
        refine (implEnds_any d s _ HD.out HZ.out).mono ?_
        rintro e w1 ⟨rfl, rfl⟩
        rw [h1]
        have H1 := Lib.hid h1; clear h1
        go_wp2
        go_round
        case rel => exact ⟨k + 1, best, by omega, by go_num, rfl, rfl, by rw [Hid, HK.out, bestStep, if_neg (fun h => by rw [H1.out] at h; cases h.1)], HL⟩
        case measure => simp [intOf]; omega
    · obtain rfl : k = ss.length := by omega
      cases hbest : best with
      | some bb =>
        subst hbest
        go_wp2
        go_ret
        exact ⟨ret_str (by rw [pubSuf, ← HB.out]), rfl⟩
      | none =>
        subst hbest
        have HP : Hid (pubSuf ss d = lastLabel d) := by rw [Hid, pubSuf, ← HB.out]
        go_wp2
        go_loop [9] (fun i => ∃ j : Nat, j ≤ d.length ∧ i = .int .i64 ((j : Int) - 1) ∧ Hid (lastIdx d 46 d.length = lastIdx d 46 j)) (fun i => (intOf i + 1).toNat)
        case atStart => exact ⟨d.length, Nat.le_refl _, rfl, rfl⟩
        case round =>
          obtain ⟨j, hj, rfl, hh⟩ := hrel
          by_cases hlj : 0 < j
          · go_wp2
            · go_ret
              have hX : lastIdx d 46 d.length = (j : Int) - 1 := by
                rw [hh.out, lastIdx_hit hlj (by omega) (by assumption)]
              refine ⟨ret_str ?_, rfl⟩
              rw [HP.out, lastLabel, hX]
              simp
            · go_round
              case rel => exact ⟨j - 1, by omega, by rw [show ((j - 1 : Nat) : Int) = (j : Int) - 1 by omega], by rw [Hid, hh.out, lastIdx_miss hlj (by omega) (by assumption)]⟩
              case measure => simp [intOf]; omega
          · go_wp2
            go_ret
            obtain rfl : j = 0 := by omega
            refine ⟨ret_str ?_, rfl⟩
            rw [HP.out, lastLabel, hh.out]
            simp [lastIdx]
end Go.Proofs.YtckfgnbilcjdpaaGreatDoor
/- Contracts: the jar's key of a host, the default path, the entry's own tests. -/
namespace Go.Proofs.YtckfgnbilcjdpaaGreatDoor
open Go.RowKit
set_option maxRecDepth 100000

theorem lastIdx_dot {l : List UInt8} {c : UInt8} : ∀ {k : Nat} (_ : k ≤ l.length) {i : Nat}, lastIdx l c k = i → i < l.length ∧ l[i]? = some c
  | 0, _, i, h => by simp [lastIdx] at h
  | k + 1, hk, i, h => by
    simp only [lastIdx] at h
    split at h
    · obtain rfl : k = i := by omega
      exact ⟨by omega, by assumption⟩
    · exact lastIdx_dot (by omega) h

theorem lastLabel_suf (l : List UInt8) : lastLabel l = l ∨ dotSuf l (lastLabel l) = true := by
  obtain ⟨h1, _⟩ := lastIdx_lt l 46 l.length
  by_cases h : lastIdx l 46 l.length = -1
  · left; simp [lastLabel, h]
  · right
    obtain ⟨i, hi⟩ : ∃ i : Nat, lastIdx l 46 l.length = i := ⟨(lastIdx l 46 l.length).toNat, by omega⟩
    obtain ⟨h3, h4⟩ := lastIdx_dot (Nat.le_refl _) hi
    rw [lastLabel, hi, dotSuf, decide_eq_true_eq, show ((i : Int) + 1).toNat = i + 1 by omega]
    rw [List.getElem?_eq_getElem h3] at h4
    rw [← Option.some.inj h4, ← List.drop_eq_getElem_cons h3]
    exact List.drop_suffix i l

theorem bestTo_suf (d : List UInt8) (ss : List (List UInt8)) : ∀ k s, bestTo d ss k = some s → sufB d s = true := by
  intro k
  induction k with
  | zero => intro s h; simp [bestTo] at h
  | succ k ih =>
    intro s h
    by_cases hk : k < ss.length
    · rw [bestTo_succ d ss k hk, bestStep] at h
      split at h
      · rename_i hc; cases h; exact hc.1
      · exact ih s h
    · rw [bestTo, List.take_of_length_le (by omega)] at h
      rw [bestTo, List.take_of_length_le (by omega)] at ih
      exact ih s h

theorem pubSuf_suf (ss : List (List UInt8)) (d : List UInt8) : pubSuf ss d = d ∨ dotSuf d (pubSuf ss d) = true := by
  unfold pubSuf
  split
  · rename_i s h
    have := bestTo_suf d ss _ s h
    simp only [sufB, Bool.or_eq_true, decide_eq_true_eq] at this
    rcases this with h | h
    · exact Or.inl h.symm
    · exact Or.inr h
  · exact lastLabel_suf d

/-- What a host has from one label ahead of a dot on: the dot stands ahead of place i. -/
def keyAt (h : List UInt8) (i : Nat) : List UInt8 := h.drop (lastIdx (h.take (i - 1)) 46 (h.take (i - 1)).length + 1).toNat
/-- The jar's key of a host. -/
def keyOf (listed : Bool) (ss : List (List UInt8)) (h : List UInt8) : List UInt8 :=
  if ipB h = true then h
  else if listed = true then (if pubSuf ss h = h then h else keyAt h (h.length - (pubSuf ss h).length))
  else (if lastIdx h 46 h.length ≤ 0 then h else keyAt h (lastIdx h 46 h.length).toNat)

/-- The list of suffixes as the jar has it: none, or a list of the thin package. -/
def PslAt (w : World) (v : Value) (listed : Bool) (ss : List (List UInt8)) : Prop :=
  if listed then ∃ A cap, v = .iface 74 (.slice A ss.length cap) ∧ CellsAt w A (strCells ss) else v = .nilIface

theorem PslAt.below {w w' : World} {v : Value} {listed : Bool} {ss : List (List UInt8)} (h : PslAt w v listed ss) (hb : Below w.heap.size w w') : PslAt w' v listed ss := by
  unfold PslAt at *
  split
  · rename_i hl
    rw [if_pos hl] at h
    obtain ⟨A, cap, hv, hc⟩ := h
    exact ⟨A, cap, hv, hc.below hb⟩
  · rename_i hl
    rwa [if_neg hl] at h

set_option maxHeartbeats 1000000 in
theorem jarKey_no (ss : List (List UInt8)) (h : List UInt8) (h1 : 58 ∉ h) (h2 : 37 ∉ h) (w : World) (hh : h.length ≤ maxLen) :
    Calls Tryz.prog 63 #[.string (bs h), .nilIface] w fun e w' => e = .returned (.string (bs (keyOf false ss h))) ∧ w = w' := by
  have HH := Lib.hid hh
  unfold maxLen at hh
  have H1 := Lib.hid h1; clear h1
  have H2 := Lib.hid h2; clear h2
  cases hip : ipB h with
  | true =>
    have HK : Hid (keyOf false ss h = h) := by rw [Hid, keyOf, if_pos hip]
    have HI := Lib.hid hip; clear hip
    go_enter Tryz.func63, Tryz.ntmps63
    go_wp2_with fail
    refine (isIP_any h H1.out H2.out _ HH.out).mono ?_
    rintro e w1 ⟨rfl, rfl⟩
    rw [HI.out]
    go_wp2
    go_ret
    exact ⟨ret_str HK.out.symm, rfl⟩
  | false =>
    obtain ⟨a1, a2⟩ := lastIdx_lt h 46 h.length
    obtain ⟨i, hi⟩ : ∃ i, i = lastIdx h 46 h.length := ⟨_, rfl⟩
    have HX := Lib.hid hi
    rw [← hi] at a1 a2
    have HK : Hid (keyOf false ss h = if i ≤ 0 then h else keyAt h i.toNat) := by
      rw [Hid, keyOf, if_neg (by rw [hip]; exact Bool.false_ne_true), if_neg Bool.false_ne_true, ← hi]
    have HI := Lib.hid hip; clear hip
    clear hi
    have HT : Hid ((h.take (i.toNat - 1)).length ≤ maxLen) := Nat.le_trans (by simp; omega) HH.out
    go_enter Tryz.func63, Tryz.ntmps63
    go_wp2_with fail
    refine (isIP_any h H1.out H2.out _ HH.out).mono ?_
    rintro e w1 ⟨rfl, rfl⟩
    rw [HI.out]
    go_wp2_with fail
    refine (zzLastIndex_any h 46 _ HH.out).mono ?_
    rintro e w1 ⟨rfl, rfl⟩
    rw [← HX.out]
    by_cases hz : i ≤ 0
    · rw [if_pos hz] at HK
      go_wp2
      go_ret
      exact ⟨ret_str HK.out.symm, rfl⟩
    · rw [if_neg hz] at HK
      obtain ⟨n, rfl⟩ : ∃ n : Nat, i = n := ⟨i.toNat, by omega⟩
      rw [Int.toNat_natCast] at HT HK
      obtain ⟨b1, b2⟩ := lastIdx_lt (h.take (n - 1)) 46 (h.take (n - 1)).length
      have b3 : (h.take (n - 1)).length ≤ h.length := by simp; omega
      obtain ⟨j, hj⟩ : ∃ j, j = lastIdx (h.take (n - 1)) 46 (h.take (n - 1)).length := ⟨_, rfl⟩
      have HJ := Lib.hid hj
      rw [← hj] at b1 b2
      clear hj
      have b4 : j + 1 ≤ h.length := by omega
      clear b2 b3
      go_wp2_with fail
      refine (zzLastIndex_any _ 46 _ HT.out).mono ?_
      rintro e w1 ⟨rfl, rfl⟩
      rw [← HJ.out]
      go_wp2
      go_ret
      exact ⟨ret_str (by rw [HK.out, keyAt, ← HJ.out]), rfl⟩

theorem method_ps (A : Option Addr) (n cap : Nat) (w : World) : (method 285 74 (.slice A n cap) "PublicSuffix").run Tryz.prog w = .ok (135, .slice A n cap) w := by kernel_rfl

set_option maxHeartbeats 1000000 in
theorem jarKey_yes (A : Option Addr) (cap : Nat) (ss : List (List UInt8)) (h : List UInt8) (h1 : 58 ∉ h) (h2 : 37 ∉ h) (w : World) (hh : h.length ≤ maxLen) (hA : CellsAt w A (strCells ss)) (hn : ss.length ≤ maxLen)
    (hs : ∀ s ∈ ss, s.length ≤ maxLen) :
    Calls Tryz.prog 63 #[.string (bs h), .iface 74 (.slice A ss.length cap)] w fun e w' => e = .returned (.string (bs (keyOf true ss h))) ∧ w = w' := by
  have HH := Lib.hid hh
  have HA := Lib.hid hA; clear hA
  have HS := Lib.hid hs; clear hs
  have HN := Lib.hid hn; clear hn
  unfold maxLen at hh
  have H1 := Lib.hid h1; clear h1
  have H2 := Lib.hid h2; clear h2
  have hu := Tryz.underlying71
  have hm := method_ps A ss.length cap
  go_enter Tryz.func63, Tryz.ntmps63
  go_wp2_with fail
  refine (isIP_any h H1.out H2.out _ HH.out).mono ?_
  rintro e w1 ⟨rfl, rfl⟩
  cases hip : ipB h with
  | true =>
    have HK : Hid (keyOf true ss h = h) := by rw [Hid, keyOf, if_pos hip]
    clear hip
    go_wp2
    go_ret
    exact ⟨ret_str HK.out.symm, rfl⟩
  | false =>
    have HK : Hid (keyOf true ss h = if pubSuf ss h = h then h else keyAt h (h.length - (pubSuf ss h).length)) := by
      rw [Hid, keyOf, if_neg (by rw [hip]; exact Bool.false_ne_true), if_pos rfl]
    clear hip
    have HF := Lib.hid (pubSuf_suf ss h)
    go_wp2_with fail
    refine (publicSuffix_any A cap ss h _ HA.out HH.out HN.out HS.out).mono ?_
    rintro e w1 ⟨rfl, rfl⟩
    clear hm
    obtain ⟨p, hp⟩ : ∃ p, p = pubSuf ss h := ⟨_, rfl⟩
    rw [← hp] at HK HF ⊢
    clear hp
    by_cases heq : p = h
    · subst heq
      rw [if_pos rfl] at HK
      go_wp2
      go_ret
      exact ⟨ret_str HK.out.symm, rfl⟩
    · rw [if_neg heq] at HK
      have hne : (p == h) = false := by rw [Bool.eq_false_iff]; intro hx; exact heq (beq_iff_eq.1 hx)
      have hd : dotSuf h p = true := HF.out.resolve_left heq
      have hlen : p.length < h.length := by
        have := (of_decide_eq_true hd).length_le; simp at this; omega
      have hdot : h[h.length - p.length - 1] = 46 := ((dotSuf_iff hlen).1 hd).1
      have hb : ((h[h.length - p.length - 1].toNat : Int) != 46) = false := by rw [hdot]; rfl
      have hle : decide (h.length ≤ p.length) = false := by simp; omega
      have H5 := Lib.hid hdot; clear hdot
      have H6 := Lib.hid hd; clear hd
      have H7 := Lib.hid heq; clear heq
      have HT : Hid ((h.take (h.length - p.length - 1)).length ≤ maxLen) := Nat.le_trans (by simp; omega) HH.out
      obtain ⟨b1, b2⟩ := lastIdx_lt (h.take (h.length - p.length - 1)) 46 (h.take (h.length - p.length - 1)).length
      have b3 : (h.take (h.length - p.length - 1)).length ≤ h.length := by simp; omega
      obtain ⟨j, hj⟩ : ∃ j, j = lastIdx (h.take (h.length - p.length - 1)) 46 (h.take (h.length - p.length - 1)).length := ⟨_, rfl⟩
      have HJ := Lib.hid hj
      rw [← hj] at b1 b2
      clear hj
      have b4 : j + 1 ≤ h.length := by omega
      clear b2 b3
      go_wp2_with fail
      refine (zzLastIndex_any _ 46 _ HT.out).mono ?_
      rintro e w1 ⟨rfl, rfl⟩
      rw [← HJ.out]
      go_wp2
      go_ret
      exact ⟨ret_str (by rw [HK.out, keyAt, ← HJ.out]), rfl⟩

theorem jarKey_any (pv : Value) (listed : Bool) (ss : List (List UInt8)) (h : List UInt8) (h1 : 58 ∉ h) (h2 : 37 ∉ h) (w : World) (hh : h.length ≤ maxLen) (hp : PslAt w pv listed ss) (hn : ss.length ≤ maxLen)
    (hs : ∀ s ∈ ss, s.length ≤ maxLen) :
    Calls Tryz.prog 63 #[.string (bs h), pv] w fun e w' => e = .returned (.string (bs (keyOf listed ss h))) ∧ w = w' := by
  unfold PslAt at hp
  cases listed with
  | false =>
    rw [if_neg Bool.false_ne_true] at hp
    subst hp
    exact jarKey_no ss h h1 h2 w hh
  | true =>
    rw [if_pos rfl] at hp
    obtain ⟨A, cap, rfl, hA⟩ := hp
    exact jarKey_yes A cap ss h h1 h2 w hh hA hn hs

/-- The path of a cookie that has none. -/
def defPath (p : List UInt8) : List UInt8 :=
  if p.head? = some 47 then (if lastIdx p 47 p.length = 0 then [47] else p.take (lastIdx p 47 p.length).toNat) else [47]

set_option maxHeartbeats 1000000 in
theorem defaultPath_any (p : List UInt8) (w : World) (hp : p.length ≤ maxLen) :
    Calls Tryz.prog 69 #[.string (bs p)] w fun e w' => e = .returned (.string (bs (defPath p))) ∧ w = w' := by
  have HP := Lib.hid hp
  cases p with
  | nil =>
    go_enter Tryz.func69, Tryz.ntmps69
    go_wp2
    go_ret
    exact ⟨rfl, rfl⟩
  | cons c r =>
    obtain ⟨p, rfl⟩ : ∃ p, p = c :: r := ⟨_, rfl⟩
    have hlen : 0 < (c :: r).length := by simp
    have h0 : (c :: r)[0] = c := rfl
    have hh : (c :: r).head? = some c := rfl
    generalize hq : c :: r = q at hlen h0 hh hp HP ⊢
    clear hq
    have HH := Lib.hid hh; clear hh
    have hl0 : ((q.length : Int) == 0) = false := by rw [Bool.eq_false_iff]; intro h; rw [beq_iff_eq] at h; omega
    by_cases hc : c = 47
    · have hb : ((q[0].toNat : Int) == 47) = true := by rw [h0, hc]; rfl
      have hb' : ((q[0].toNat : Int) != 47) = false := by rw [h0, hc]; rfl
      have HC := Lib.hid hc; clear hc
      clear h0
      obtain ⟨a1, a2⟩ := lastIdx_lt q 47 q.length
      have HD : Hid (defPath q = if lastIdx q 47 q.length = 0 then [47] else q.take (lastIdx q 47 q.length).toNat) := by
        rw [Hid, defPath, if_pos (by rw [HH.out, HC.out])]
      have a3 : 0 ≤ lastIdx q 47 q.length := by
        rcases Int.lt_or_le (lastIdx q 47 q.length) 0 with h | h
        · exfalso
          have hx : ∀ k, 0 < k → k ≤ q.length → lastIdx q 47 k ≠ -1 := by
            intro k
            induction k with
            | zero => intro h; omega
            | succ k ih =>
              intro _ hk
              simp only [lastIdx]
              split
              · omega
              · rename_i hne
                rcases Nat.eq_zero_or_pos k with rfl | hk0
                · exfalso; apply hne
                  rw [List.getElem?_eq_getElem (by omega)]
                  exact congrArg some (u8_eq.1 (show ((q[0].toNat : Int) == ((47 : UInt8).toNat : Int)) = true from hb))
                · exact ih hk0 (by omega)
          exact hx q.length hlen (Nat.le_refl _) (by omega)
        · exact h
      obtain ⟨i, hi⟩ : ∃ i : Nat, (i : Int) = lastIdx q 47 q.length := ⟨(lastIdx q 47 q.length).toNat, by omega⟩
      have HI := Lib.hid hi
      rw [← hi] at a1 a2 a3 HD
      clear hi
      unfold maxLen at hp
      go_enter Tryz.func69, Tryz.ntmps69
      go_wp2_with fail
      refine (zzLastIndex_any _ 47 _ HP.out).mono ?_
      rintro e w1 ⟨rfl, rfl⟩
      rw [← HI.out]
      by_cases hz : i = 0
      · subst hz
        go_wp2
        go_ret
        exact ⟨ret_str (by rw [HD.out]; rfl), rfl⟩
      · have hz' : ((i : Int) == 0) = false := by rw [Bool.eq_false_iff]; intro h; rw [beq_iff_eq] at h; omega
        rw [if_neg (by omega)] at HD
        go_wp2
        go_ret
        exact ⟨ret_str (by rw [HD.out]; rfl), rfl⟩
    · have hb : ((q[0].toNat : Int) != 47) = true := by
        rw [h0, bne_iff_ne]; intro h
        exact hc (u8_eq.1 (show ((c.toNat : Int) == ((47 : UInt8).toNat : Int)) = true by rw [h]; rfl))
      have HC := Lib.hid hc; clear hc
      clear h0
      go_enter Tryz.func69, Tryz.ntmps69
      go_wp2
      go_ret
      refine ⟨ret_str ?_, rfl⟩
      rw [defPath, if_neg]
      rw [HH.out]; intro h; exact HC.out (Option.some.inj h)
end Go.Proofs.YtckfgnbilcjdpaaGreatDoor
/- Contracts: times, and an entry's own tests. -/
namespace Go.Proofs.YtckfgnbilcjdpaaGreatDoor
open Go.RowKit
set_option maxRecDepth 100000

/-- A time: seconds, and nanoseconds below one second. -/
abbrev tm (s n : Int) : Value := .agg #[.int .i64 s, .int .i64 n]

theorem eqTime (a b c d : Int) (w : World) : (binOp .eql 83 (tm a b) (tm c d)).run Tryz.prog w = .ok (.bool (a == c && b == d)) w := by
  have u2 := Tryz.underlying2
  have a2 := Tryz.isAgg2
  have z2 := Tryz.sizeOf2
  have hS : Tryz.prog.underlying 83 = some (.struct (Tryz.prog.fieldsOf 83)) := by kernel_rfl
  have hp : Tryz.prog.stoodInHeld 83 = false := by kernel_rfl
  rw [run_eql_struct, show (10000 : Nat) = 9999 + 1 from rfl, run_equalIn_agg w 9999 83 _ _ hS hp]
  simp only [Program.fieldsOf, Tryz.underlying83]
  go_simp
  by_cases h1 : a = c <;> by_cases h2 : b = d <;> simp [h1, h2]
theorem guardTime (x y : Operand) (a b c d : Int) (w : World) : (eqGuard .eql 83 x y (tm a b) (tm c d)).run Tryz.prog w = .ok () w :=
  run_eqGuard_agg w .eql 83 x y _ _ (by kernel_rfl)

set_option maxHeartbeats 400000 in
theorem unix_any (s n : Int) (w : World) :
    Calls Tryz.prog 37 #[.int .i64 s, .int .i64 n] w fun e w' => e = .returned (tm s n) ∧ Below w.heap.size w w' := by
  go_enter Tryz.func37, Tryz.ntmps37
  go_wp2
  refine bodyPost_ret (v := tm s n) (by simp [results, Tryz.results37, go_sem]) rfl ⟨rfl, ?_⟩
  exact ((Below.refl _ _).alloc (Nat.le_refl _) _)

set_option maxHeartbeats 400000 in
theorem endOfTime_any (w : World) :
    Calls Tryz.prog 90 #[] w fun e w' => e = .returned (tm 253402300799 0) ∧ Below w.heap.size w w' := by
  go_enter Tryz.func90, Tryz.ntmps90
  go_wp2
  refine bodyPost_ret (v := tm 253402300799 0) (by simp [results, Tryz.results90, go_sem]) rfl ⟨rfl, ?_⟩
  exact ((Below.refl _ _).alloc (Nat.le_refl _) _)

set_option maxHeartbeats 400000 in
theorem isZero_any (s n : Int) (w : World) :
    Calls Tryz.prog 89 #[tm s n] w fun e w' => e = .returned (.bool (s == 0 && n == 0)) ∧ Below w.heap.size w w' := by
  have he := eqTime s n 0 0
  have hg := fun x y => guardTime x y s n 0 0
  go_enter Tryz.func89, Tryz.ntmps89
  go_wp2
  go_ret
  exact ⟨rfl, (Below.refl _ _).alloc (Nat.le_refl _) _⟩

/-- How two times compare. -/
def cmpT (a b : Int) : Int := if a < b then -1 else if a = b then 0 else 1

set_option maxHeartbeats 1000000 in
theorem compare_any (a b : Int) (w : World) :
    Calls Tryz.prog 68 #[tm a 0, tm b 0] w fun e w' => e = .returned (.int .i64 (cmpT a b)) ∧ Below w.heap.size w w' := by
  have he := eqTime a 0 b 0
  have hg := fun x y => guardTime x y a 0 b 0
  by_cases h1 : a < b
  · have HC : Hid (cmpT a b = -1) := by rw [Hid, cmpT, if_pos h1]
    go_enter Tryz.func68, Tryz.ntmps68
    go_wp2
    go_ret
    exact ⟨ret_int HC.out.symm, ((Below.refl _ _).alloc (Nat.le_refl _) _).alloc (by simp) _⟩
  · have h1' : decide (a < b) = false := decide_eq_false h1
    by_cases h2 : a = b
    · have h2' : (a == b) = true := beq_iff_eq.2 h2
      have HC : Hid (cmpT a b = 0) := by rw [Hid, cmpT, if_neg h1, if_pos h2]
      clear h2
      go_enter Tryz.func68, Tryz.ntmps68
      go_wp2
      go_ret
      exact ⟨ret_int HC.out.symm, ((Below.refl _ _).alloc (Nat.le_refl _) _).alloc (by simp) _⟩
    · have h2' : (a == b) = false := by rw [Bool.eq_false_iff]; intro h; exact h2 (beq_iff_eq.1 h)
      have HC : Hid (cmpT a b = 1) := by rw [Hid, cmpT, if_neg h1, if_neg h2]
      clear h2
      go_enter Tryz.func68, Tryz.ntmps68
      go_wp2
      go_ret
      exact ⟨ret_int HC.out.symm, ((Below.refl _ _).alloc (Nat.le_refl _) _).alloc (by simp) _⟩

set_option maxHeartbeats 1000000 in
theorem after_any (a b : Int) (w : World) :
    Calls Tryz.prog 64 #[tm a 0, tm b 0] w fun e w' => e = .returned (.bool (decide (b < a))) ∧ Below w.heap.size w w' := by
  have HC : Hid (decide (0 < cmpT a b) = decide (b < a)) := by
    rw [Hid, decide_eq_decide, cmpT]; split
    · omega
    · split <;> omega
  go_enter Tryz.func64, Tryz.ntmps64
  go_wp2_with fail
  refine (compare_any a b _).mono ?_
  rintro e w1 ⟨rfl, hb⟩
  have HB := Lib.hid hb; clear hb
  go_wp2
  go_ret
  refine ⟨ret_bool HC.out, ?_⟩
  first
    | exact HB.out
    | exact ((((Below.refl _ _).alloc (Nat.le_refl _) _).alloc (by simp) _).trans (HB.out.mono (by simp; omega)))

/-- The jar's entry. -/
structure Ent where
  name : List UInt8
  value : List UInt8
  quoted : Bool
  domain : List UInt8
  path : List UInt8
  secure : Bool
  httpOnly : Bool
  persistent : Bool
  hostOnly : Bool
  exps : Int
  crs : Int
  las : Int
  seq : Int
  deriving Inhabited

/-- An entry's cells. -/
def encE (e : Ent) : List Value :=
  [.string (bs e.name), .string (bs e.value), .bool e.quoted, .string (bs e.domain), .string (bs e.path), .bool e.secure, .bool e.httpOnly, .bool e.persistent, .bool e.hostOnly,
    .int .i64 e.exps, .int .i64 0, .int .i64 e.crs, .int .i64 0, .int .i64 e.las, .int .i64 0, .int .u64 e.seq]

/-- An entry lies at block b. -/
def EntAt (w : World) (b : Nat) (e : Ent) : Prop := ∀ j u, (encE e)[j]? = some u → w.cell? ⟨b, j, none⟩ = some u

theorem EntAt.below {w w' : World} {b : Nat} {e : Ent} (h : EntAt w b e) (hb : Below w.heap.size w w') : EntAt w' b e := fun j u hj => by
  have h1 := h j u hj
  rw [hb.cell (World.block_lt_of_cell? w _ h1)]; exact h1

theorem Below.drewN' (w : World) (n : Nat) : Below w.heap.size w (w.drewN n) := ⟨rfl, rfl, rfl, Nat.le_refl _, fun _ _ => rfl⟩

set_option maxHeartbeats 1000000 in
theorem domainMatch_any (b : Nat) (e : Ent) (host : List UInt8) (w : World) (he : EntAt w b e) (hd : e.domain.length ≤ maxLen) (hh : host.length ≤ maxLen) :
    Calls Tryz.prog 82 #[.pointer (some ⟨b, 0, none⟩), .string (bs host)] w fun r w' => r = .returned (.bool (decide (e.domain = host) || !e.hostOnly && dotSuf host e.domain)) ∧ w = w' := by
  have h3 := he 3 _ rfl
  have h8 := he 8 _ rfl
  have HE := Lib.hid he; clear he
  have HD := Lib.hid hd; clear hd
  have HH := Lib.hid hh; clear hh
  by_cases h1 : e.domain = host
  · have h1' : (e.domain == host) = true := beq_iff_eq.2 h1
    have H1 := Lib.hid h1; clear h1
    go_enter Tryz.func82, Tryz.ntmps82
    go_wp2
    go_ret
    exact ⟨ret_bool (by rw [decide_eq_true H1.out]; rfl), rfl⟩
  · have h1' : (e.domain == host) = false := by rw [Bool.eq_false_iff]; intro h; exact h1 (beq_iff_eq.1 h)
    have H1 := Lib.hid h1; clear h1
    cases ho : e.hostOnly with
    | true =>
      rw [ho] at h8
      clear ho
      go_enter Tryz.func82, Tryz.ntmps82
      go_wp2
      go_ret
      exact ⟨ret_bool (by rw [decide_eq_false H1.out]; rfl), rfl⟩
    | false =>
      rw [ho] at h8
      clear ho
      go_enter Tryz.func82, Tryz.ntmps82
      go_wp2_with fail
      refine (hasDotSuffix_any host e.domain _ HH.out HD.out).mono ?_
      rintro r w1 ⟨rfl, rfl⟩
      go_wp2
      go_ret
      exact ⟨ret_bool (by rw [decide_eq_false H1.out]; rfl), rfl⟩

/-- A cookie's path and the path that asks. -/
def pathB (path p : List UInt8) : Bool :=
  decide (path = p) || decide (p <+: path) && (decide (p.getLast? = some 47) || decide (path[p.length]? = some 47))

set_option maxHeartbeats 1000000 in
theorem pathMatch_any (b : Nat) (e : Ent) (path : List UInt8) (w : World) (he : EntAt w b e) (hd : e.path.length ≤ maxLen) (hh : path.length ≤ maxLen) (hne : e.path ≠ []) :
    Calls Tryz.prog 83 #[.pointer (some ⟨b, 0, none⟩), .string (bs path)] w fun r w' => r = .returned (.bool (pathB path e.path)) ∧ Below w.heap.size w w' := by
  have h4 := he 4 _ rfl
  have HE := Lib.hid he; clear he
  have HD := Lib.hid hd
  have HH := Lib.hid hh
  have hpos : 0 < e.path.length := List.length_pos_iff.2 hne
  have HN := Lib.hid hne; clear hne
  unfold maxLen at hd hh
  generalize e.path = p at h4 HD hd hpos HN ⊢
  by_cases h1 : path = p
  · have h1' : (path == p) = true := beq_iff_eq.2 h1
    have H1 := Lib.hid h1; clear h1
    go_enter Tryz.func83, Tryz.ntmps83
    go_wp2
    go_ret
    exact ⟨ret_bool (by rw [pathB, decide_eq_true H1.out]; rfl), Below.refl _ _⟩
  · have h1' : (path == p) = false := by rw [Bool.eq_false_iff]; intro h; exact h1 (beq_iff_eq.1 h)
    by_cases h2 : p <+: path
    · have hlt : p.length < path.length := by
        rcases Nat.lt_or_ge p.length path.length with h | h
        · exact h
        · exact absurd (List.IsPrefix.eq_of_length_le h2 h).symm h1
      have hP : Hid (pathB path p = (decide (p.getLast? = some 47) || decide (path[p.length]? = some 47))) := by
        rw [Hid, pathB, decide_eq_false h1, decide_eq_true h2]; simp
      have HP2 : Hid (decide (p <+: path) = true) := decide_eq_true h2
      clear h1 h2
      by_cases h3 : p[p.length - 1] = 47
      · have h3' : ((p[p.length - 1].toNat : Int) == 47) = true := by rw [h3]; rfl
        have H3 : Hid (p.getLast? = some 47) := by rw [Hid, List.getLast?_eq_getElem?, List.getElem?_eq_getElem (by omega), h3]
        clear h3
        go_enter Tryz.func83, Tryz.ntmps83
        go_wp2_with fail
        refine (zzHasPrefix_any path p _ HH.out HD.out).mono ?_
        rintro r w1 ⟨rfl, rfl⟩
        rw [HP2.out]
        go_wp2_with fail
        have q1 : IntKind.i64.wrap ((p.length : Int) - 1) = (p.length : Int) - 1 := IntWalk.i64_in _ (by omega)
        have q2 := index_bs p (p.length - 1) ((p.length : Int) - 1) (by omega) (by omega)
        go_quiet (fail)
        go_wp2
        go_ret
        exact ⟨ret_bool (by rw [hP.out, decide_eq_true H3.out]; rfl), Below.drewN' _ _⟩
      · have h3' : ((p[p.length - 1].toNat : Int) == 47) = false := by
          rw [Bool.eq_false_iff]; intro hx
          exact h3 (u8_eq.1 (show ((p[p.length - 1].toNat : Int) == ((47 : UInt8).toNat : Int)) = true from hx))
        have H3 : Hid (¬ p.getLast? = some 47) := by
          rw [Hid, List.getLast?_eq_getElem?, List.getElem?_eq_getElem (by omega)]
          intro hx; exact h3 (Option.some.inj hx)
        clear h3
        by_cases h5 : path[p.length] = 47
        · have h5' : ((path[p.length].toNat : Int) == 47) = true := by rw [h5]; rfl
          have H5 : Hid (path[p.length]? = some 47) := by rw [Hid, List.getElem?_eq_getElem hlt, h5]
          clear h5
          go_enter Tryz.func83, Tryz.ntmps83
          go_wp2_with fail
          refine (zzHasPrefix_any path p _ HH.out HD.out).mono ?_
          rintro r w1 ⟨rfl, rfl⟩
          rw [HP2.out]
          go_wp2_with fail
          have q1 : IntKind.i64.wrap ((p.length : Int) - 1) = (p.length : Int) - 1 := IntWalk.i64_in _ (by omega)
          have q2 := index_bs p (p.length - 1) ((p.length : Int) - 1) (by omega) (by omega)
          go_quiet (fail)
          go_wp2
          go_ret
          exact ⟨ret_bool (by rw [hP.out, decide_eq_true H5.out]; simp), Below.drewN' _ _⟩
        · have h5' : ((path[p.length].toNat : Int) == 47) = false := by
            rw [Bool.eq_false_iff]; intro hx
            exact h5 (u8_eq.1 (show ((path[p.length].toNat : Int) == ((47 : UInt8).toNat : Int)) = true from hx))
          have H5 : Hid (¬ path[p.length]? = some 47) := by
            rw [Hid, List.getElem?_eq_getElem hlt]; intro hx; exact h5 (Option.some.inj hx)
          clear h5
          go_enter Tryz.func83, Tryz.ntmps83
          go_wp2_with fail
          refine (zzHasPrefix_any path p _ HH.out HD.out).mono ?_
          rintro r w1 ⟨rfl, rfl⟩
          rw [HP2.out]
          go_wp2_with fail
          have q1 : IntKind.i64.wrap ((p.length : Int) - 1) = (p.length : Int) - 1 := IntWalk.i64_in _ (by omega)
          have q2 := index_bs p (p.length - 1) ((p.length : Int) - 1) (by omega) (by omega)
          go_quiet (fail)
          go_wp2
          go_ret
          exact ⟨ret_bool (by rw [hP.out, decide_eq_false H3.out, decide_eq_false H5.out]; rfl), Below.drewN' _ _⟩
    · have HP2 : Hid (decide (p <+: path) = false) := decide_eq_false h2
      have hP : Hid (pathB path p = false) := by
        rw [Hid, pathB, decide_eq_false h1, decide_eq_false h2]; rfl
      clear h1 h2
      go_enter Tryz.func83, Tryz.ntmps83
      go_wp2_with fail
      refine (zzHasPrefix_any path p _ HH.out HD.out).mono ?_
      rintro r w1 ⟨rfl, rfl⟩
      rw [HP2.out]
      go_wp2
      go_ret
      exact ⟨ret_bool hP.out.symm, Below.refl _ _⟩

/-- The first number of an address is 127. -/
def loopB (d : List UInt8) : Prop := (ip4 d 0 0 0 0).2 = true ∧ (ip4 d 0 0 0 0).1 = 127

set_option maxHeartbeats 1000000 in
theorem secureMatch_any (b : Nat) (e : Ent) (https : Bool) (w : World) (he : EntAt w b e) (hd : e.domain.length ≤ maxLen) (h1 : e.domain.getLast? ≠ some 46) (h2 : (lastLabel e.domain).map lowB ≠ localhostB)
    (h3 : ¬ loopB e.domain) :
    Calls Tryz.prog 84 #[.pointer (some ⟨b, 0, none⟩), .bool https] w fun r w' => r = .returned (.bool (!e.secure || https)) ∧ Below w.heap.size w w' := by
  have c3 := he 3 _ rfl
  have c5 := he 5 _ rfl
  have HD := Lib.hid hd; clear hd
  have H1 := Lib.hid h1; clear h1
  have H2 := Lib.hid h2; clear h2
  have H3 := Lib.hid h3; clear h3
  have HE := Lib.hid he; clear he
  cases hs : e.secure with
  | false =>
    rw [hs] at c5
    go_enter Tryz.func84, Tryz.ntmps84
    go_wp2
    go_ret
    exact ⟨rfl, Below.refl _ _⟩
  | true =>
    rw [hs] at c5
    cases https with
    | true =>
      go_enter Tryz.func84, Tryz.ntmps84
      go_wp2
      go_ret
      exact ⟨rfl, Below.refl _ _⟩
    | false =>
      clear hs
      go_enter Tryz.func84, Tryz.ntmps84
      go_wp2_with fail
      refine (isLocalhost_no e.domain _ HD.out H1.out H2.out).mono ?_
      rintro r w1 ⟨rfl, hb⟩
      have c3' := HE.out.below hb 3 _ rfl
      have HB := Lib.hid hb; clear hb
      go_wp2_with fail
      refine (zzIPv4_any e.domain _ HD.out).mono ?_
      rintro r w2 ⟨hr, rfl⟩
      unfold ipEnd at hr
      have H3' := Lib.hid H3.out
      clear H3
      rw [loopB] at H3'
      generalize ip4 e.domain 0 0 0 0 = p at hr H3'
      obtain ⟨F, ok⟩ := p
      subst hr
      cases ok with
      | false =>
        go_wp2
        go_ret
        exact ⟨rfl, HB.out⟩
      | true =>
        have hF : ((F : Int) == 127) = false := by
          rw [Bool.eq_false_iff]; intro h; rw [beq_iff_eq] at h
          exact H3'.out ⟨rfl, by omega⟩
        go_wp2
        go_ret
        exact ⟨rfl, HB.out⟩

/-- Whether an entry's cookie is sent to an address. -/
def sendB (e : Ent) (https : Bool) (host path : List UInt8) : Bool :=
  (decide (e.domain = host) || !e.hostOnly && dotSuf host e.domain) && pathB path e.path && (!e.secure || https)

/-- What the jar's own tests ask of an entry. -/
structure EntOk (e : Ent) : Prop where
  dlen : e.domain.length ≤ maxLen
  plen : e.path.length ≤ maxLen
  pne : e.path ≠ []
  last : e.domain.getLast? ≠ some 46
  local' : (lastLabel e.domain).map lowB ≠ localhostB
  loop : ¬ loopB e.domain

set_option maxHeartbeats 1000000 in
theorem shouldSend_any (b : Nat) (e : Ent) (https : Bool) (host path : List UInt8) (w : World) (he : EntAt w b e) (ho : EntOk e) (hh : host.length ≤ maxLen) (hp : path.length ≤ maxLen) :
    Calls Tryz.prog 65 #[.pointer (some ⟨b, 0, none⟩), .bool https, .string (bs host), .string (bs path)] w fun r w' => r = .returned (.bool (sendB e https host path)) ∧ Below w.heap.size w w' := by
  have HE := Lib.hid he; clear he
  have HO := Lib.hid ho; clear ho
  have HH := Lib.hid hh; clear hh
  have HP := Lib.hid hp; clear hp
  go_enter Tryz.func65, Tryz.ntmps65
  go_wp2_with fail
  refine (domainMatch_any b e host _ HE.out HO.out.dlen HH.out).mono ?_
  rintro r w1 ⟨rfl, rfl⟩
  cases h1 : (decide (e.domain = host) || !e.hostOnly && dotSuf host e.domain) with
  | false =>
    have HF : Hid (sendB e https host path = false) := by rw [Hid, sendB, h1]; rfl
    clear h1
    go_wp2
    go_ret
    exact ⟨ret_bool HF.out.symm, Below.refl _ _⟩
  | true =>
    have HF : Hid (sendB e https host path = (pathB path e.path && (!e.secure || https))) := by rw [Hid, sendB, h1]; simp
    clear h1
    go_wp2_with fail
    refine (pathMatch_any b e path _ HE.out HO.out.plen HP.out HO.out.pne).mono ?_
    rintro r w1 ⟨rfl, hb⟩
    have HB := Lib.hid hb; clear hb
    cases h2 : pathB path e.path with
    | false =>
      rw [h2] at HF
      clear h2
      go_wp2
      go_ret
      exact ⟨ret_bool (by rw [HF.out]; rfl), HB.out⟩
    | true =>
      rw [h2] at HF
      clear h2
      go_wp2_with fail
      refine (secureMatch_any b e https _ (HE.out.below HB.out) HO.out.dlen HO.out.last HO.out.local' HO.out.loop).mono ?_
      rintro r w2 ⟨rfl, hb⟩
      have HB2 := Lib.hid hb; clear hb
      go_wp2
      go_ret
      exact ⟨ret_bool (by rw [HF.out]; rfl), HB.out.trans (HB2.out.mono HB.out.size)⟩
end Go.Proofs.YtckfgnbilcjdpaaGreatDoor
