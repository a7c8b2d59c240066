/- 'inside' on one form. -/
import Derived.Test.YtbepocojafbbbaaGreatDoorTt
namespace Go.Proofs.YtbepocojafbbbaaGreatDoor
open Go.RowKit
set_option maxRecDepth 100000

def preB : ByteArray := { data := #[112, 101, 114, 109, 105, 116, 32, 40, 112, 114, 105, 110, 99, 105, 112, 97, 108, 44, 32, 97, 99, 116, 105, 111, 110, 44, 32, 114, 101, 115, 111, 117, 114, 99, 101, 41, 32, 119, 104, 101, 110, 32, 123] }
def postB : ByteArray := { data := #[125, 59] }

theorem inside_spec (w : World) (text : ByteArray) (hsz : text.size ≤ 900) (ad : Addr) (m : Nat) (rest : List (Int × ByteArray)) (hT : Txt (preB ++ text ++ postB).data.toList m rest) (t : TypeId) (x : Value) (e : E) (hlen : rest.length ≤ 1000)
    (hG : w.cell? ⟨0, 0, none⟩ = some (.iface 341 (.pointer (some ad)))) (hP : Parses ((if reserved (cut (preB ++ text ++ postB).data.toList 0 m) then 3 else 1, cut (preB ++ text ++ postB).data.toList 0 m) :: rest) t x)
    (hX : ∀ W, Ex No w W → Calls Tryz.prog 46 #[.iface t x] W (PE e W)) :
    Calls Tryz.prog 10 #[.string text] w (PE e w) := by
  have HH := Lib.hid (fun (W : World) (hW : Ex No w W) => parsePolicy_spec W (preB ++ text ++ postB) ad m rest hT t x e hlen (hW.got hG no_) hP (fun W' hW' => hX W' (hW.trans hW')))
  clear hT hG hP hX
  go_enter Tryz.func10, Tryz.ntmps10
  go_wp2_with fail
  refine (HH.out _ ((Ex.refl _ _).alloc _)).mono ?_
  rintro e' w1 ⟨g, cap, A, n, c, rfl, hx, hg, hc, hER⟩
  obtain ⟨op1, hop1⟩ : ∃ o, o = e.op := ⟨_, rfl⟩
  obtain ⟨s1, hs1⟩ : ∃ o, o = e.s := ⟨_, rfl⟩
  rw [← hop1, ← hs1] at hc
  have HOP := Lib.hid (And.intro hop1 hs1)
  have B : Blk w1 w.heap.size (xc 0 ⟨#[]⟩ none 0 0) 30 := (Blk.new w (xc 0 ⟨#[]⟩ none 0 0) 30).ex hx no_
  have k0 := hc 0 (by omega)
  have k1 := hc 1 (by omega)
  have k2 := hc 2 (by omega)
  have k3 := hc 3 (by omega)
  have k4 := hc 4 (by omega)
  have k5 := hc 5 (by omega)
  have k6 := hc 6 (by omega)
  have k7 := hc 7 (by omega)
  have k8 := hc 8 (by omega)
  have k9 := hc 9 (by omega)
  have k10 := hc 10 (by omega)
  have k11 := hc 11 (by omega)
  simp only [condCells, List.getElem?_toArray] at k0 k1 k2 k3 k4 k5 k6 k7 k8 k9 k10 k11
  have lg := some_lt (a := ⟨g, 0, none⟩) (v := .bool false) k0
  have rc := B.cell
  have rf := B.free
  have rl := B.lt
  simp only [xc] at rc
  simp only [polOut]
  have HF := Lib.hid (And.intro hx hER)
  clear hop1 hs1 hc hx hER B HH
  go_wp2_with fail
  have hxf : Ex No w w1 := ((Ex.refl No w).alloc _).trans HF.out.1
  have hlw : w.heap.size < w1.heap.size := rl
  refine bodyPost_ret (v := .tuple #[.agg (xc op1 s1 A n c), .bool true]) (by simp [results, Tryz.results10, go_sem, rc, rl, xc]) rfl ⟨A, n, c, by rw [HOP.out.1, HOP.out.2], ?_, ?_⟩
  · refine HF.out.2.keep (S := On w.heap.size) (F' := From w.heap.size) ?_ (fun b hb h => by unfold From at hb; simp only [World.size_alloc] at hb; have h : b = w.heap.size := h; omega) (fun b _ hb => by unfold From at *; simp only [World.size_alloc] at hb; omega)
    repeat (with_reducible first | exact Ex.refl _ _ | refine Ex.alloc ?_ _ | refine Ex.setCell ?_ _ _ (Or.inl (On.self _)))
  · repeat (with_reducible first | exact hxf | refine Ex.alloc ?_ _ | refine Ex.setCell ?_ _ _ (Or.inr (Nat.le_refl _)))
end Go.Proofs.YtbepocojafbbbaaGreatDoor
