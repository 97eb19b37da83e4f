/-
  The walks of 'Rows.FnKindStringNamesEachKindApartCardSaid': Kind.String over the table's cells, and the law out of it.
-/
import Derived.Test.Qxb6608589aDoorRows
import Derived.WalkKit
namespace Go.Proofs.Qxb6608589aDoor.kindApart
open Go.RowKit

/-- The seven names that the table holds. -/
def nm : Nat → ByteArray
  | 0 => { data := #[] }
  | 1 => { data := #[108, 111, 99, 97, 108] }
  | 2 => { data := #[115, 101, 110, 100] }
  | 3 => { data := #[114, 101, 99, 101, 105, 118, 101] }
  | 4 => { data := #[101, 110, 116, 101, 114] }
  | 5 => { data := #[101, 120, 105, 116] }
  | _ => { data := #[97, 112, 112, 108, 121] }

/-! The plain law: below seven, two names are equal where the numbers are, and a name is empty at 0 alone. -/
theorem apart_all : ((List.range 7).all fun m => (List.range 7).all fun n => ((nm m).toList == (nm n).toList) == ((m : Int) == (n : Int))) = true := by
  decide +kernel
theorem empty_all : ((List.range 7).all fun m => (nm m).toList.isEmpty == ((m : Int) == 0)) = true := by
  decide +kernel
theorem apart_eq (m n : Nat) (hm : m < 7) (hn : n < 7) : ((nm m).toList == (nm n).toList) = ((m : Int) == (n : Int)) := by
  have h := List.all_eq_true.1 (List.all_eq_true.1 apart_all m (List.mem_range.2 hm)) n (List.mem_range.2 hn)
  exact eq_of_beq h
theorem empty_eq (m : Nat) (hm : m < 7) : (nm m).toList.isEmpty = ((m : Int) == 0) := by
  have h := List.all_eq_true.1 empty_all m (List.mem_range.2 hm)
  exact eq_of_beq h

/-! Kind.String at a kind below seven hands out the table's cell. -/
set_option maxHeartbeats 400000 in
theorem str_any (k : Nat) (hk : k < 7) (w : World) (hc : ∀ i, i < 7 → w.cell? ⟨0, i, none⟩ = some (.string (nm i))) :
    Calls Tryd.prog 6 #[.int .u8 k] w fun e w' => e = .returned (.string (nm k)) ∧ w' = w := by
  have h := hc k hk
  clear hc
  go_enter Tryd.func6, Tryd.ntmps6
  go_wp2
  go_ret
  exact ⟨rfl, rfl⟩

/-! The law, both kinds below seven. -/
set_option maxHeartbeats 400000 in
theorem walk_in (m n : Nat) (hm : m < 7) (hn : n < 7) (w : World) (hc : ∀ i, i < 7 → w.cell? ⟨0, i, none⟩ = some (.string (nm i))) :
    Calls Tryd.prog 3 #[.int .u8 m, .int .u8 n] w fun e w' => e = .returned (.bool true) ∧ w' = w := by
  have H : Hid (∀ i, i < 7 → w.cell? ⟨0, i, none⟩ = some (.string (nm i))) := hc
  clear hc
  have e1 := apart_eq m n hm hn
  have e2 := empty_eq m hm
  have e3 := empty_eq n hn
  go_enter Tryd.func3, Tryd.ntmps3
  go_wp2_with (go_at_call 6; refine (str_any _ (by assumption) _ H.out).mono ?_; rintro e w' ⟨rfl, rfl⟩)
  go_ret
  exact ⟨rfl, rfl⟩

/-! The law, one kind above six: true at once. -/
set_option maxHeartbeats 400000 in
theorem walk_first (a b : Int) (ha : 6 < a) (w : World) :
    Calls Tryd.prog 3 #[.int .u8 a, .int .u8 b] w fun e w' => e = .returned (.bool true) ∧ w' = w := by
  go_enter Tryd.func3, Tryd.ntmps3
  go_wp2
  go_ret
  exact ⟨rfl, rfl⟩
set_option maxHeartbeats 400000 in
theorem walk_second (a b : Int) (ha : a ≤ 6) (hb : 6 < b) (w : World) :
    Calls Tryd.prog 3 #[.int .u8 a, .int .u8 b] w fun e w' => e = .returned (.bool true) ∧ w' = w := by
  go_enter Tryd.func3, Tryd.ntmps3
  go_wp2
  go_ret
  exact ⟨rfl, rfl⟩

/-! The law at every pair of bytes. -/
theorem walk (a b : Int) (la : 0 ≤ a) (lb : 0 ≤ b) (w : World) (hc : ∀ i, i < 7 → w.cell? ⟨0, i, none⟩ = some (.string (nm i))) :
    Calls Tryd.prog 3 #[.int .u8 a, .int .u8 b] w fun e w' => e = .returned (.bool true) ∧ w' = w := by
  by_cases ha : 6 < a
  · exact walk_first a b ha w
  · by_cases hb : 6 < b
    · exact walk_second a b (by omega) hb w
    · obtain ⟨m, rfl⟩ := Int.eq_ofNat_of_zero_le la
      obtain ⟨n, rfl⟩ := Int.eq_ofNat_of_zero_le lb
      exact walk_in m n (by omega) (by omega) w hc
end Go.Proofs.Qxb6608589aDoor.kindApart
