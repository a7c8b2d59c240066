/- ParsePolicy on one form. -/
import Derived.Test.YtbepocojafbbbaaGreatDoorTs
import Derived.Laws.IdiomStrings
namespace Go.Proofs.YtbepocojafbbbaaGreatDoor
open Go.RowKit
set_option maxRecDepth 100000

theorem conv_bytes (W : World) (s : ByteArray) : (convert 9 62 (.string s)).run Tryz.prog W = .ok (.slice (some ⟨W.heap.size, 0, none⟩) s.size (grownCap W s.size 0 5))
    (W.drew.alloc (.cells (bytesRow s (grownCap W s.size 0 5)) 5 ((bytesRow s (grownCap W s.size 0 5)).size, (bytesRow s (grownCap W s.size 0 5)).size + 1))) :=
  run_bytes_of_string W 9 62 5 s (by kernel_rfl) (by kernel_rfl) (by kernel_rfl)

theorem bytes_at (s : ByteArray) (c i : Nat) (hi : i < s.data.toList.length) : (bytesRow s c)[i]? = some (.int .u8 (s.data.toList.getD i 0).toNat) := by
  have h : i < s.data.size := by simpa using hi
  unfold bytesRow
  rw [Array.getElem?_append_left (by simpa using h)]
  have e : s.data[i]? = some s.data[i] := Array.getElem?_eq_getElem h
  simp [e]

abbrev z86 : Array Value := #[.bool false, .slice none 0 0, .nilIface, .nilIface, .nilIface, .slice none 0 0, .string ⟨#[]⟩, .int .i64 0, .int .i64 0, .int .i64 0]
theorem cell_at_new (W : World) (C : Array Value) (t : TypeId) (a b i : Nat) : (W.alloc (.cells C t (a, b))).cell? ⟨W.heap.size, i, none⟩ = C[i]? := by
  have h : (W.alloc (.cells C t (a, b))).heap[W.heap.size]? = some (.cells C t (a, b)) := by
    show (W.heap.push _)[W.heap.size]? = _
    simp
  unfold World.cell?
  rw [h]
  rfl
/-- What 'ParsePolicy' answers. -/
def PPAns (w : World) (e : E) (e' : Ending) (w' : World) : Prop :=
  ∃ g cap A n c, e' = .returned (.tuple #[.agg (polOut g cap), .bool true]) ∧ Ex No w w' ∧ w.heap.size ≤ g ∧ (∀ i, i < 12 → w'.cell? ⟨g, i, none⟩ = (condCells e.op e.s A n c)[i]?) ∧ ER w' (From w.heap.size) e A n c

theorem parsePolicy_spec (w : World) (s : ByteArray) (ad : Addr) (m : Nat) (rest : List (Int × ByteArray)) (hT : Txt s.data.toList m rest) (t : TypeId) (x : Value) (e : E) (hlen : rest.length ≤ 1000)
    (hG : w.cell? ⟨0, 0, none⟩ = some (.iface 341 (.pointer (some ad)))) (hP : Parses ((if reserved (cut s.data.toList 0 m) then 3 else 1, cut s.data.toList 0 m) :: rest) t x)
    (hX : ∀ W, Ex No w W → Calls Tryz.prog 46 #[.iface t x] W (PE e W)) :
    Calls Tryz.prog 19 #[.string s] w (PPAns w e) := by
  have HG := Lib.hid hG
  have HX := Lib.hid hX
  have HP := Lib.hid hP
  have hcv := fun W => conv_bytes W s
  have e0 := neq_nil88
  clear hG hX hP
  go_enter Tryz.func19, Tryz.ntmps19
  go_wp2_with fail
  clear hcv
  have hq0 : ∀ o1, Blk ((w.alloc o1).alloc (.cells z86 86)) (w.heap.size + 1) z86 86 := fun o1 => by
    have := Blk.new (w.alloc o1) z86 86
    simpa using this
  have hr0 : Blk ((w.alloc (.cells pz 51)).alloc (.cells z86 86)) w.heap.size pz 51 := (Blk.new w pz 51).ex ((Ex.refl No _).alloc _) no_
  have hx0 : ∀ o1 o2, Ex No w ((w.alloc o1).alloc o2) := fun _ _ => ((Ex.refl _ _).alloc _).alloc _
  have hb0 : ∀ (W : World) (c a b q : Nat) (i : Nat), q = W.heap.size → i < s.data.toList.length → ((W.alloc (.cells (bytesRow s c) 5 (a, b)))).cell? ⟨q, i, none⟩ = some (.int .u8 (s.data.toList.getD i 0).toNat) := fun W c a b q i hq hi => by
    rw [← bytes_at s c i hi, hq]
    exact cell_at_new W _ 5 a b i
  refine (unmarshal_spec _ (w.heap.size + 1) (w.heap.size + 1 + 1) _ ad s.data.toList m rest hT t x _ _ _ _ _ _ _ _ _ _ ((hq0 _).ex (((Ex.refl No _).alloc _).drew) no_) hlen ?_ (((hx0 _ _).trans (((Ex.refl No _).alloc _).drew)).got HG.out no_) HP.out).mono ?_
  · intro i hi
    exact ((Ex.refl No _).drew).got (hb0 _ _ _ _ _ i (by simp) hi) no_
  rintro e' w3 ⟨rfl, g, cap, fn, o, l, c, hB, hg, r0, r1, hx3⟩
  have hx13 : Ex No w w3 := ((hx0 _ _).trans (((Ex.refl No _).alloc _).drew)).trans' hx3 (fun i hi h => by unfold On at h; omega)
  have hr3 : Blk w3 w.heap.size pz 51 := (hr0.ex (((Ex.refl No _).alloc _).drew) no_).ex hx3 (fun h => by unfold On at h; omega)
  have HH := Lib.hid (And.intro hB (And.intro r0 (And.intro r1 (And.intro hx13 hr3))))
  clear hB hg r0 r1 hx3 hx13 hr3 hq0 hr0 hx0 hb0
  go_wp2_with fail
  refine (plainPolicy_one 86 (w.heap.size + 1) g cap fn o l c t x e w3 HH.out.1 HH.out.2.1 HH.out.2.2.1 (fun W hW => HX.out W (HH.out.2.2.2.1.trans hW))).mono ?_
  rintro e' w4 ⟨g', cap', A, n, c', rfl, hx4, hg', hc, hER⟩
  have r4 := HH.out.2.2.2.2.ex hx4 no_
  have s3 := HH.out.2.2.2.1.size
  have hs3 : w.heap.size < w3.heap.size := HH.out.2.2.2.2.lt
  have h51 : (Tryz.prog.info? 51).map (·.size) = some (polOut g' cap').size := by kernel_rfl
  have h51' : (Tryz.prog.info? 51).map (·.size) = some pz.size := by kernel_rfl
  have HF := Lib.hid (And.intro (HH.out.2.2.2.1.trans hx4) (And.intro hc (And.intro hER (And.intro r4 (And.intro h51 h51')))))
  clear hx4 hc hER r4 h51 h51' HH HX HG HP
  go_wp2_with (refine wpList_store_blk rfl 51 (.tmp 2) (.tmp 13) rfl w.heap.size rfl (.agg (polOut g' cap')) rfl pz 51 HF.out.2.2.2.1 HF.out.2.2.2.2.2 rfl (List.all_eq_true.1 (show (polOut g' cap').toList.all Value.oneCell' = true from rfl)) ?_; intro w5 q5 hx5)
  refine bodyPost_ret (v := .tuple #[.agg (polOut g' cap'), .bool true]) (results_cell_tmp rfl _ _ w.heap.size 51 _ (0, 0) _ rfl q5 Tryz.underlying51 rfl HF.out.2.2.2.2.1 _ rfl) rfl ⟨g', cap', A, n, c', rfl, ?_, by omega, ?_, ?_⟩
  · exact HF.out.1.trans' hx5 (fun i hi h => by unfold On at h; omega)
  · intro i hi
    have := HF.out.2.1 i hi
    have hl : g' < w4.heap.size := some_lt (a := ⟨g', 0, none⟩) (v := .bool false) (by rw [HF.out.2.1 0 (by omega)]; rfl)
    rw [hx5.cell (p := ⟨g', i, none⟩) hl (fun h => by have h : g' = w.heap.size := h; omega)]
    exact this
  · exact HF.out.2.2.1.keep hx5 (fun b h h2 => by have h : w3.heap.size ≤ b := h; have h2 : b = w.heap.size := h2; omega) (fun b _ h => Nat.le_trans (Nat.le_of_lt hs3) h)
end Go.Proofs.YtbepocojafbbbaaGreatDoor
