/- The scanner: a token's text; the end of the text; the next token. -/
import Derived.Test.YtbepocojafbbbaaGreatDoorTb
namespace Go.Proofs.YtbepocojafbbbaaGreatDoor
open Go.RowKit
set_option maxRecDepth 100000

def cut (T : List UInt8) (i j : Nat) : ByteArray := ⟨((T.drop i).take (j - i)).toArray⟩

theorem fold_bytes : ∀ (l : List UInt8) (r : ByteArray), ((l.map fun x => (x.toNat : Int)).foldl (fun r n => r.push (UInt8.ofNat n.toNat)) r) = ⟨r.data ++ l.toArray⟩
  | [], r => by simp
  | x :: l, r => by
    simp only [List.map_cons, List.foldl_cons]
    rw [fold_bytes l]
    simp [ByteArray.push]

theorem conv_cut (w : World) (b : Nat) (cs : Array Value) (T : List UInt8) (hB : Blk w b cs 241) (i j c : Nat) (hij : i ≤ j) (hj : j ≤ T.length)
    (hb : ∀ i, i < T.length → cs[1 + i]? = some (.int .u8 (T.getD i 0).toNat)) :
    (convert 62 9 (.slice (some ⟨b, 1 + i, none⟩) (j - i) c)).run Tryz.prog w = .ok (.string (cut T i j)) w := by
  rw [run_convert_bytes_string (e := 5) _ _ _ _ _ _ (by kernel_rfl) (by kernel_rfl) (by kernel_rfl),
    run_bytesToString _ _ _ _ (((T.drop i).take (j - i)).map fun x => (x.toNat : Int)) ?_, fold_bytes]
  · simp [cut]
  · have hl : (((T.drop i).take (j - i)).map fun x => (x.toNat : Int)).length = j - i := by simp; omega
    rw [← hl, ← List.length_map (f := Value.int .u8)]
    rw [run_loadCells_list]
    · simp
    · intro k v hv
      have hk : k < j - i := by
        have := (List.getElem?_eq_some_iff.mp hv).1
        simp at this
        omega
      have e : w.cell? (Addr.add ⟨b, 1 + i, none⟩ k) = w.cell? ⟨b, 1 + (i + k), none⟩ := by
        by_cases h0 : k = 0
        · subst h0; simp [Addr.add]
        · simp [Addr.add, Nat.add_assoc, h0]
      rw [e, hB.cell, hb (i + k) (by omega), ← hv]
      simp [List.getElem?_drop, hk, List.getD, List.getElem?_eq_getElem (show i + k < T.length by omega)]

theorem len_spec (w : World) (b o : Nat) (a : Option Addr) (n c : Nat) (q : Int) (hn : n ≤ 1000000000) (h1 : w.cell? ⟨b, o, none⟩ = some (.slice a n c)) (h2 : w.cell? ⟨b, o + 1, none⟩ = some (.int .i64 q)) (hq : 0 ≤ q) (hq' : q ≤ 1000000000) :
    Calls Tryz.prog 165 #[.pointer (some ⟨b, o, none⟩)] w fun e' w' => e' = .returned (.int .i64 (n - q)) ∧ Ex No w w' := by
  have lt := some_lt h1
  go_enter Tryz.func165, Tryz.ntmps165
  go_wp2_with fail
  go_quiet (fail)
  go_wp2
  go_ret
  exact ⟨rfl, (Ex.refl _ _).of_drewN _⟩

theorem slice_buf (w : World) (b i j : Nat) (hij : i ≤ j) (hj : j ≤ 1024) :
    (Instr.sliceAt 235 (.pointer (some ⟨b, 1, none⟩)) (some (.int .i64 i)) (some (.int .i64 j)) none).run Tryz.prog w = .ok (.slice (some ⟨b, 1 + i, none⟩) (j - i) (1025 - i)) w := by
  have ha : Tryz.prog.arrayLen 235 = 1025 := by kernel_rfl
  have he : Tryz.prog.elem 235 = 5 := by kernel_rfl
  have hz : (sizeOf 5).run Tryz.prog w = .ok 1 w := by kernel_rfl
  rw [run_sliceAt_array_lh w 235 ⟨b, 1, none⟩ (by kernel_rfl) .i64 .i64 i j (by omega) (by omega) (by rw [ha]; omega), he, hz, ha]
  have hne : ¬ (1025 = i) := by omega
  by_cases h0 : i = 0
  · subst h0; simp [Result.andThen, slicedAt, Addr.add]
  · simp [Result.andThen, slicedAt, Addr.add, hne, h0]

theorem tokText_spec (w : World) (b : Nat) (cs : Array Value) (T : List UInt8) (p i j : Nat) (lc : Int) (hB : Blk w b cs 241) (hS : Sc cs T p lc i) (hte : cs[1037]? = some (.int .i64 j)) (hij : i ≤ j) (hj : j ≤ T.length) :
    Calls Tryz.prog 132 #[.pointer (some ⟨b, 0, none⟩)] w fun e' w' => e' = .returned (.string (cut T i j)) ∧ Ex No w w' := by
  have c := hB.cell
  have f := hB.free
  have lt := hB.lt
  have hsh := hS.short
  have c1036 := (c 1036).trans hS.tp
  have c1037 := (c 1037).trans hte
  have c1033 := (c 1033).trans hS.tb
  have c1034 := (c 1034).trans hS.to
  have HC := fun (W : World) (hW : Ex No w W) (k : Nat) => conv_cut W b cs T (hB.ex hW no_) i j k hij hj hS.bytes
  clear hB hS c
  go_enter Tryz.func132, Tryz.ntmps132
  go_wp2_with (go_at_call 165; refine (len_spec _ b 1033 none 0 0 0 (by omega) c1033 c1034 (by omega) (by omega)).mono ?_; rintro e' w1 ⟨rfl, hx⟩)
  have d1036 := hx.got c1036 no_
  have d1037 := hx.got c1037 no_
  have lt1 := some_lt d1036
  have HC1 := fun m => HC _ (hx.of_drewN m)
  have HSL := fun (W : World) => slice_buf W b i j hij (by omega)
  go_quiet (fail)
  go_wp2
  go_ret
  exact ⟨rfl, hx.of_drewN _⟩
end Go.Proofs.YtbepocojafbbbaaGreatDoor
