/- The tokenizer. -/
import Derived.Test.YtbepocojafbbbaaGreatDoorTo
namespace Go.Proofs.YtbepocojafbbbaaGreatDoor
open Go.RowKit
set_option maxRecDepth 100000

theorem zc_size : Tryz.zeroCells241.size = 1044 := by kernel_rfl
theorem zc_0 : Tryz.zeroCells241[0]? = some .nilIface := by kernel_rfl
theorem zc_1 : Tryz.zeroCells241[1]? = some (.int .u8 0) := by kernel_rfl
theorem zc_1026 : Tryz.zeroCells241[1026]? = some (.int .i64 0) := by kernel_rfl
theorem zc_1027 : Tryz.zeroCells241[1027]? = some (.int .i64 0) := by kernel_rfl
theorem zc_1028 : Tryz.zeroCells241[1028]? = some (.int .i64 0) := by kernel_rfl
theorem zc_1029 : Tryz.zeroCells241[1029]? = some (.int .i64 0) := by kernel_rfl
theorem zc_1030 : Tryz.zeroCells241[1030]? = some (.int .i64 0) := by kernel_rfl
theorem zc_1031 : Tryz.zeroCells241[1031]? = some (.int .i64 0) := by kernel_rfl
theorem zc_1032 : Tryz.zeroCells241[1032]? = some (.int .i64 0) := by kernel_rfl
theorem zc_1033 : Tryz.zeroCells241[1033]? = some (.slice none 0 0) := by kernel_rfl
theorem zc_1034 : Tryz.zeroCells241[1034]? = some (.int .i64 0) := by kernel_rfl
theorem zc_1035 : Tryz.zeroCells241[1035]? = some (.int .i8 0) := by kernel_rfl
theorem zc_1036 : Tryz.zeroCells241[1036]? = some (.int .i64 0) := by kernel_rfl
theorem zc_1037 : Tryz.zeroCells241[1037]? = some (.int .i64 0) := by kernel_rfl
theorem zc_1038 : Tryz.zeroCells241[1038]? = some (.int .i32 0) := by kernel_rfl
theorem zc_1039 : Tryz.zeroCells241[1039]? = some .nilIface := by kernel_rfl
theorem zc_1040 : Tryz.zeroCells241[1040]? = some (.string ⟨#[]⟩) := by kernel_rfl
theorem zc_1041 : Tryz.zeroCells241[1041]? = some (.int .i64 0) := by kernel_rfl
theorem zc_1042 : Tryz.zeroCells241[1042]? = some (.int .i64 0) := by kernel_rfl
theorem zc_1043 : Tryz.zeroCells241[1043]? = some (.int .i64 0) := by kernel_rfl

theorem init_any (w : World) (b : Nat) (t : TypeId) (v : Value) (Z : Array Value) (hB : Blk w b Z 241) (zsize : Z.size = 1044) (z0 : Z[0]? = some .nilIface) (z1 : Z[1]? = some (.int .u8 0)) (z1026 : Z[1026]? = some (.int .i64 0)) (z1027 : Z[1027]? = some (.int .i64 0)) (z1028 : Z[1028]? = some (.int .i64 0)) (z1029 : Z[1029]? = some (.int .i64 0)) (z1030 : Z[1030]? = some (.int .i64 0)) (z1031 : Z[1031]? = some (.int .i64 0)) (z1032 : Z[1032]? = some (.int .i64 0)) (z1033 : Z[1033]? = some (.slice none 0 0)) (z1034 : Z[1034]? = some (.int .i64 0)) (z1035 : Z[1035]? = some (.int .i8 0)) (z1036 : Z[1036]? = some (.int .i64 0)) (z1037 : Z[1037]? = some (.int .i64 0)) (z1038 : Z[1038]? = some (.int .i32 0)) (z1039 : Z[1039]? = some .nilIface) (z1040 : Z[1040]? = some (.string ⟨#[]⟩)) (z1041 : Z[1041]? = some (.int .i64 0)) (z1042 : Z[1042]? = some (.int .i64 0)) (z1043 : Z[1043]? = some (.int .i64 0)) :
    Calls Tryz.prog 89 #[.pointer (some ⟨b, 0, none⟩), .iface t v] w fun e' w' => e' = .returned (.pointer (some ⟨b, 0, none⟩)) ∧ Ex (On b) w w' ∧ ∃ cs', Blk w' b cs' 241 ∧ Sa cs' ∧ cs'[0]? = some (.iface t v) ∧ cs'[1038]? = some (.int .i32 (-2)) := by
  have c0 := (hB.cell 0).trans z0
  have c1 := (hB.cell 1).trans z1
  have c1026 := (hB.cell 1026).trans z1026
  have c1027 := (hB.cell 1027).trans z1027
  have c1028 := (hB.cell 1028).trans z1028
  have c1029 := (hB.cell 1029).trans z1029
  have c1030 := (hB.cell 1030).trans z1030
  have c1031 := (hB.cell 1031).trans z1031
  have c1032 := (hB.cell 1032).trans z1032
  have c1036 := (hB.cell 1036).trans z1036
  have c1038 := (hB.cell 1038).trans z1038
  have c1042 := (hB.cell 1042).trans z1042
  have f := hB.free
  have lt := hB.lt
  have HB := Lib.hid hB
  clear hB
  go_enter Tryz.func89, Tryz.ntmps89
  go_wp2
  go_ret
  refine ⟨rfl, ?_, _, (((((((((((HB.out.set _ _).set _ _).set _ _).set _ _).set _ _).set _ _).set _ _).set _ _).set _ _).set _ _).set _ _).set _ _, ⟨by simp only [Array.size_setIfInBounds]; exact zsize, ?_, ?_, ?_, ⟨0, ?_⟩, ⟨1, ?_⟩, ⟨0, ?_⟩, ⟨0, ?_⟩, ⟨0, ?_⟩, ?_, ?_, ?_, ?_, ⟨0, ?_⟩, ?_, ⟨⟨#[]⟩, ?_⟩, ⟨0, ?_⟩, ⟨0, ?_⟩, ⟨0, ?_⟩⟩, ?_, ?_⟩
  · exact ((((((((((((Ex.refl _ _).own _ _).own _ _).own _ _).own _ _).own _ _).own _ _).own _ _).own _ _).own _ _).own _ _).own _ _).own _ _
  · (repeat (with_reducible first | exact z1 | refine set_at ?_ ?_ | refine set_ne ?_ ?_)) <;> (first | omega | (simp only [Array.size_setIfInBounds]; exact zsize))
  · (repeat (with_reducible first | exact z1026 | refine set_at ?_ ?_ | refine set_ne ?_ ?_)) <;> (first | omega | (simp only [Array.size_setIfInBounds]; exact zsize))
  · (repeat (with_reducible first | exact z1027 | refine set_at ?_ ?_ | refine set_ne ?_ ?_)) <;> (first | omega | (simp only [Array.size_setIfInBounds]; exact zsize))
  · (repeat (with_reducible first | exact z1028 | refine set_at ?_ ?_ | refine set_ne ?_ ?_)) <;> (first | omega | (simp only [Array.size_setIfInBounds]; exact zsize))
  · (repeat (with_reducible first | exact z1029 | refine set_at ?_ ?_ | refine set_ne ?_ ?_)) <;> (first | omega | (simp only [Array.size_setIfInBounds]; exact zsize))
  · (repeat (with_reducible first | exact z1030 | refine set_at ?_ ?_ | refine set_ne ?_ ?_)) <;> (first | omega | (simp only [Array.size_setIfInBounds]; exact zsize))
  · (repeat (with_reducible first | exact z1031 | refine set_at ?_ ?_ | refine set_ne ?_ ?_)) <;> (first | omega | (simp only [Array.size_setIfInBounds]; exact zsize))
  · (repeat (with_reducible first | exact z1032 | refine set_at ?_ ?_ | refine set_ne ?_ ?_)) <;> (first | omega | (simp only [Array.size_setIfInBounds]; exact zsize))
  · (repeat (with_reducible first | exact z1033 | refine set_at ?_ ?_ | refine set_ne ?_ ?_)) <;> (first | omega | (simp only [Array.size_setIfInBounds]; exact zsize))
  · (repeat (with_reducible first | exact z1034 | refine set_at ?_ ?_ | refine set_ne ?_ ?_)) <;> (first | omega | (simp only [Array.size_setIfInBounds]; exact zsize))
  · (repeat (with_reducible first | exact z1035 | refine set_at ?_ ?_ | refine set_ne ?_ ?_)) <;> (first | omega | (simp only [Array.size_setIfInBounds]; exact zsize))
  · (repeat (with_reducible first | exact z1036 | refine set_at ?_ ?_ | refine set_ne ?_ ?_)) <;> (first | omega | (simp only [Array.size_setIfInBounds]; exact zsize))
  · (repeat (with_reducible first | exact z1037 | refine set_at ?_ ?_ | refine set_ne ?_ ?_)) <;> (first | omega | (simp only [Array.size_setIfInBounds]; exact zsize))
  · (repeat (with_reducible first | exact z1039 | refine set_at ?_ ?_ | refine set_ne ?_ ?_)) <;> (first | omega | (simp only [Array.size_setIfInBounds]; exact zsize))
  · (repeat (with_reducible first | exact z1040 | refine set_at ?_ ?_ | refine set_ne ?_ ?_)) <;> (first | omega | (simp only [Array.size_setIfInBounds]; exact zsize))
  · (repeat (with_reducible first | exact z1041 | refine set_at ?_ ?_ | refine set_ne ?_ ?_)) <;> (first | omega | (simp only [Array.size_setIfInBounds]; exact zsize))
  · (repeat (with_reducible first | exact z1042 | refine set_at ?_ ?_ | refine set_ne ?_ ?_)) <;> (first | omega | (simp only [Array.size_setIfInBounds]; exact zsize))
  · (repeat (with_reducible first | exact z1043 | refine set_at ?_ ?_ | refine set_ne ?_ ?_)) <;> (first | omega | (simp only [Array.size_setIfInBounds]; exact zsize))
  · (repeat (with_reducible first | exact z0 | refine set_at ?_ ?_ | refine set_ne ?_ ?_)) <;> (first | omega | (simp only [Array.size_setIfInBounds]; exact zsize))
  · (repeat (with_reducible first | exact z1038 | refine set_at ?_ ?_ | refine set_ne ?_ ?_)) <;> (first | omega | (simp only [Array.size_setIfInBounds]; exact zsize))

theorem init_spec (w : World) (b : Nat) (t : TypeId) (v : Value) (hB : Blk w b Tryz.zeroCells241 241) :
    Calls Tryz.prog 89 #[.pointer (some ⟨b, 0, none⟩), .iface t v] w fun e' w' => e' = .returned (.pointer (some ⟨b, 0, none⟩)) ∧ Ex (On b) w w' ∧ ∃ cs', Blk w' b cs' 241 ∧ Sa cs' ∧ cs'[0]? = some (.iface t v) ∧ cs'[1038]? = some (.int .i32 (-2)) :=
  init_any w b t v _ hB zc_size zc_0 zc_1 zc_1026 zc_1027 zc_1028 zc_1029 zc_1030 zc_1031 zc_1032 zc_1033 zc_1034 zc_1035 zc_1036 zc_1037 zc_1038 zc_1039 zc_1040 zc_1041 zc_1042 zc_1043
end Go.Proofs.YtbepocojafbbbaaGreatDoor
