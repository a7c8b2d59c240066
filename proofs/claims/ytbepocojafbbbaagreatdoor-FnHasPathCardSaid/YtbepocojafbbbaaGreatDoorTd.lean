/- The reserved words. -/
import Derived.Test.YtbepocojafbbbaaGreatDoorTc
namespace Go.Proofs.YtbepocojafbbbaaGreatDoor
open Go.RowKit
set_option maxRecDepth 100000

theorem index_spec (w : World) (g : Nat) (L : List ByteArray) (c : Nat) (v : ByteArray) (hL : L.length ≤ 1000000) (hc : ∀ i, i < L.length → w.cell? ⟨g, i, none⟩ = some (.string (L.getD i ⟨#[]⟩))) :
    Calls Tryz.prog 182 #[.slice (some ⟨g, 0, none⟩) L.length c, .string v] w fun e' w' => (∃ r : Int, e' = .returned (.int .i64 r) ∧ (decide (0 ≤ r)) = (L.any fun s => v.toList == s.toList)) ∧ w' = w := by
  have HC := Lib.hid hc
  clear hc
  go_enter Tryz.func182, Tryz.ntmps182
  go_wp2
  go_loopw [8] (fun i wr => ∃ k : Nat, k ≤ L.length ∧ i = .int .i64 k ∧ wr = w ∧ ∀ j (h : j < L.length), j < k → (v.toList == L[j].toList) = false) (fun i _ => L.length - (intOf i).toNat)
  case atStart => exact ⟨0, Nat.zero_le _, rfl, rfl, fun j _ hj => by omega⟩
  case round =>
    obtain ⟨k, hk, rfl, rfl, hno⟩ := hrel
    by_cases hlt : k < L.length
    · have hck := HC.out k hlt
      have hlt' := some_lt hck
      go_wp2
      · go_ret
        rename_i heq
        refine ⟨⟨k, rfl, ?_⟩, rfl⟩
        have : L.any (fun s => v.toList == s.toList) = true := List.any_eq_true.mpr ⟨L[k], List.getElem_mem hlt, heq⟩
        rw [this]; simp
      · rename_i hne
        refine ⟨⟨k + 1, by omega, by go_num, trivial, fun j hj hjk => ?_⟩, by simp [intOf]; omega⟩
        by_cases h : j = k
        · subst h; exact hne
        · exact hno j hj (by omega)
    · go_wp2
      go_ret
      refine ⟨⟨-1, rfl, ?_⟩, rfl⟩
      have : L.any (fun s => v.toList == s.toList) = false := by
        rw [List.any_eq_false]
        intro x hx
        obtain ⟨j, hj, rfl⟩ := List.getElem_of_mem hx
        simpa using hno j hj (by omega)
      rw [this]; rfl

def words : List ByteArray := [⟨#[116, 114, 117, 101]⟩, ⟨#[102, 97, 108, 115, 101]⟩, ⟨#[105, 102]⟩, ⟨#[116, 104, 101, 110]⟩, ⟨#[101, 108, 115, 101]⟩, ⟨#[105, 110]⟩, ⟨#[108, 105, 107, 101]⟩, ⟨#[104, 97, 115]⟩,
  ⟨#[105, 115]⟩, ⟨#[95, 95, 99, 101, 100, 97, 114]⟩]
def reserved (v : ByteArray) : Bool := words.any fun s => v.toList == s.toList

theorem reserved_spec (w : World) (v : ByteArray) : Calls Tryz.prog 133 #[.string v] w fun e' w' => e' = .returned (.bool (reserved v)) ∧ Ex No w w' := by
  go_enter Tryz.func133, Tryz.ntmps133
  go_wp2_with (first | (go_at_call 168; go_in) | (go_at_call 167; go_in))
  refine (index_spec (w.alloc (.cells (words.map Value.string).toArray 9)) w.heap.size words 10 v (by decide) ?_).mono ?_
  · intro i hi
    rw [new_cell]
    match i, hi with
    | 0, _ | 1, _ | 2, _ | 3, _ | 4, _ | 5, _ | 6, _ | 7, _ | 8, _ | 9, _ => rfl
  · rintro e' w1 ⟨⟨r, rfl, hr⟩, rfl⟩
    have HR := Lib.hid hr
    clear hr
    go_wp2
    go_ret
    refine ⟨?_, (Ex.refl _ _).alloc _⟩
    rw [HR.out]
    rfl
end Go.Proofs.YtbepocojafbbbaaGreatDoor
