/- The scanner: the last token, and the end. -/
import Derived.Test.YtbepocojafbbbaaGreatDoorTk
namespace Go.Proofs.YtbepocojafbbbaaGreatDoor
open Go.RowKit
set_option maxRecDepth 100000

theorem z64_head (x : Nat) : (splice z64 0 [.int .u8 (x : Int)]).toArray[0]? = some (.int .u8 x) := by simp [splice, z64]

theorem tokText_end (w : World) (b g : Nat) (x : UInt8) (cs : Array Value) (hB : Blk w b cs 241) (hS : Sz cs g) (hte : cs[1037]? = some (.int .i64 0)) (hG : Blk w g (splice z64 0 [.int .u8 x.toNat]).toArray 5) (hgb : g ≠ b) :
    Calls Tryz.prog 132 #[.pointer (some ⟨b, 0, none⟩)] w fun e' w' => e' = .returned (.string ⟨#[x]⟩) ∧ Ex (On b) w w' ∧ Blk w' b cs 241 := by
  have HS := Lib.hid hS
  have HTE := Lib.hid hte
  have HG := Lib.hid hG
  have c1036 := (hB.cell 1036).trans hS.tp
  have c1033 := (hB.cell 1033).trans hS.tb
  have c1034 := (hB.cell 1034).trans hS.to
  have lt := hB.lt
  have HB := Lib.hid hB
  clear hS hte hG hB
  go_enter Tryz.func132, Tryz.ntmps132
  go_wp2_with (go_at_call 165; refine (len_spec _ b 1033 (some ⟨g, 0, none⟩) 1 64 0 (by omega) c1033 c1034 (by omega) (by omega)).mono ?_; rintro e' w1 ⟨rfl, hx⟩)
  have HB1 := Lib.hid (HB.out.ex hx no_)
  have HG1 := Lib.hid (HG.out.ex hx no_)
  have HX1 := Lib.hid hx
  clear HB HG hx c1036 c1033 c1034 lt
  have c1036 := (HB1.out.cell 1036).trans HS.out.tp
  have c1037 := (HB1.out.cell 1037).trans HTE.out
  have lt := HB1.out.lt
  have hsl : ∀ W, (Instr.sliceAt 235 (.pointer (some ⟨b, 1, none⟩)) (some (.int .i64 0)) (some (.int .i64 0)) none).run Tryz.prog W = .ok (.slice (some ⟨b, 1, none⟩) 0 1025) W := fun W => by simpa using slice_buf W b 0 0 (by omega) (by omega)
  go_still_tail 15, (by kernel_rfl)
  go_wp2_with fail
  refine (write_none _ b 1033 g 1025 (some ⟨b, 1, none⟩) cs 241 (HB1.out.ex ((Ex.refl _ _).drew) no_) HS.out.tb HS.out.tr).mono ?_
  rintro e' w2 ⟨rfl, hx2, hB2⟩
  have hx2' : Ex (On b) w1 w2 := ((Ex.refl _ _).drew).trans hx2
  have HX2 := Lib.hid (HX1.out.of_no.trans hx2')
  have HG2 := Lib.hid (HG1.out.ex hx2' (fun h => hgb h))
  have HB2 := Lib.hid hB2
  clear HX1 HB1 HG1 hx2 hB2 hx2' c1036 c1037 lt
  have c1036 := (HB2.out.cell 1036).trans HS.out.tp
  have c1037 := (HB2.out.cell 1037).trans HTE.out
  have lt := HB2.out.lt
  have f := HB2.out.free
  go_wp2_with fail
  refine (bufString _ b 1033 g x cs _ 241 (HB2.out.set' 1036 _ HS.out.tp) HS.out.tb HS.out.to (HG2.out.set_other _ _ (fun h => hgb h.symm)) (z64_head _)).mono ?_
  rintro e' w3 ⟨rfl, hx3⟩
  go_wp2
  go_ret
  exact ⟨rfl, (HX2.out.own _ _).no hx3, (HB2.out.set' 1036 _ HS.out.tp).ex hx3 no_⟩

theorem tokText_none (w : World) (b : Nat) (A : Option Addr) (c : Nat) (cs : Array Value) (hB : Blk w b cs 241) (htp : cs[1036]? = some (.int .i64 0)) (htb : cs[1033]? = some (.slice A 0 c)) (hto : cs[1034]? = some (.int .i64 0)) (hte : cs[1037]? = some (.int .i64 0)) :
    Calls Tryz.prog 132 #[.pointer (some ⟨b, 0, none⟩)] w fun e' w' => e' = .returned (.string ⟨#[]⟩) ∧ Ex No w w' := by
  have c1036 := (hB.cell 1036).trans htp
  have c1033 := (hB.cell 1033).trans htb
  have c1034 := (hB.cell 1034).trans hto
  have c1037 := (hB.cell 1037).trans hte
  have lt := hB.lt
  have hcv : ∀ W, (convert 62 9 (.slice (some ⟨b, 1, none⟩) 0 1025)).run Tryz.prog W = .ok (.string ⟨#[]⟩) W := fun W => by
    rw [run_convert_bytes_string (e := 5) _ _ _ _ _ _ (by kernel_rfl) (by kernel_rfl) (by kernel_rfl), run_bytesToString _ _ _ _ [] ?_]
    · rfl
    · simp [loadCells, go_sem]
  clear hB htp htb hto hte
  go_enter Tryz.func132, Tryz.ntmps132
  go_wp2_with (go_at_call 165; refine (len_spec _ b 1033 A 0 c 0 (by omega) c1033 c1034 (by omega) (by omega)).mono ?_; rintro e' w1 ⟨rfl, hx⟩)
  have d1036 := hx.got c1036 no_
  have d1037 := hx.got c1037 no_
  have l1 := some_lt d1036
  have hsl : ∀ W, (Instr.sliceAt 235 (.pointer (some ⟨b, 1, none⟩)) (some (.int .i64 0)) (some (.int .i64 0)) none).run Tryz.prog W = .ok (.slice (some ⟨b, 1, none⟩) 0 1025) W := fun W => by simpa using slice_buf W b 0 0 (by omega) (by omega)
  go_quiet (fail)
  go_wp2
  go_ret
  exact ⟨rfl, hx.of_drewN _⟩
end Go.Proofs.YtbepocojafbbbaaGreatDoor
