/- The scanner: a token's head is saved in its buffer. -/
import Derived.Test.YtbepocojafbbbaaGreatDoorTe
namespace Go.Proofs.YtbepocojafbbbaaGreatDoor
open Go.RowKit
set_option maxRecDepth 100000

theorem tryGrow_new (w : World) (b o : Nat) (h0 : w.cell? ⟨b, o, none⟩ = some (.slice none 0 0)) :
    Calls Tryz.prog 178 #[.pointer (some ⟨b, o, none⟩), .int .i64 1] w fun e' w' => e' = .returned (.tuple #[.int .i64 0, .bool false]) ∧ w' = w := by
  have lt := some_lt h0
  go_enter Tryz.func178, Tryz.ntmps178
  go_wp2
  go_ret2
  exact ⟨rfl, rfl⟩

def z64 : List Value := List.replicate 64 (.int .u8 0)
theorem make64 (w : World) : (Instr.makeSlice 62 (.int .i64 1) (.int .i64 64)).run Tryz.prog w = .ok (.slice (some ⟨w.heap.size, 0, none⟩) 1 64) (w.alloc (.cells z64.toArray 5)) := by kernel_rfl

theorem grow_new (w : World) (b o : Nat) (cs : Array Value) (hB : Blk w b cs 241) (h0 : cs[o]? = some (.slice none 0 0)) (h1 : cs[o + 1]? = some (.int .i64 0)) :
    Calls Tryz.prog 179 #[.pointer (some ⟨b, o, none⟩), .int .i64 1] w fun e' w' => e' = .returned (.int .i64 0) ∧ ∃ g, w.heap.size ≤ g ∧ Blk w' g z64.toArray 5 ∧ Ex (On b) w w' ∧ Blk w' b (cs.setIfInBounds o (.slice (some ⟨g, 0, none⟩) 1 64)) 241 := by
  have c0 := (hB.cell o).trans h0
  have c1 := (hB.cell (o + 1)).trans h1
  have lt := hB.lt
  go_enter Tryz.func179, Tryz.ntmps179
  go_wp2_with fail
  refine (len_spec _ b o none 0 0 0 (by omega) c0 c1 (by omega) (by omega)).mono ?_
  rintro e' w1 ⟨rfl, hx⟩
  have b1 := hB.ex hx no_
  have HB := Lib.hid hB
  have d0 := hx.got c0 no_
  have d1 := hx.got c1 no_
  have f := b1.free
  have l1 := b1.lt
  have HX := Lib.hid hx
  have HB1 := Lib.hid b1
  have hm := make64
  clear c0 c1 hx hB h0 h1 b1
  have nn : (binOp BinOp.eql 62 (.slice none 0 0) (.slice none 0 0)).run Tryz.prog w1 = .ok (.bool true) w1 := by kernel_rfl
  go_wp2_with (go_at_call 178; refine (tryGrow_new _ b o d0).mono ?_; rintro e' w' ⟨rfl, rfl⟩)
  go_ret
  have hb1 := HB1.out.set o (.slice (some ⟨w'.heap.size, 0, none⟩) 1 64)
  refine ⟨rfl, w'.heap.size, HX.out.size, ?_, ((HX.out.of_no.own _ _).alloc _), hb1.ex ((Ex.refl No _).alloc _) no_⟩
  have hn := Blk.new (w'.setCell ⟨b, o, none⟩ (.slice (some ⟨w'.heap.size, 0, none⟩) 1 64)) z64.toArray 5
  simpa using hn

theorem write_one (w : World) (b i pc o : Nat) (cs : Array Value) (x : Nat) (hB : Blk w b cs 241) (hz : cs.size = 1044) (ho : o + 2 < 1044) (hi : i < o) (h0 : cs[o]? = some (.slice none 0 0)) (h1 : cs[o + 1]? = some (.int .i64 0)) (h2 : cs[o + 2]? = some (.int .i8 0))
    (hx : cs[i]? = some (.int .u8 x)) :
    Calls Tryz.prog 159 #[.pointer (some ⟨b, o, none⟩), .slice (some ⟨b, i, none⟩) 1 pc] w fun e' w' => e' = .returned (.tuple #[.int .i64 1, .nilIface]) ∧
      ∃ g, w.heap.size ≤ g ∧ Blk w' g (splice z64 0 [.int .u8 x]).toArray 5 ∧ Ex (On b) w w' ∧ Blk w' b (cs.setIfInBounds o (.slice (some ⟨g, 0, none⟩) 1 64)) 241 := by
  have c0 := (hB.cell o).trans h0
  have c1 := (hB.cell (o + 1)).trans h1
  have c2 := (hB.cell (o + 2)).trans h2
  have f := hB.free
  have lt := hB.lt
  have B0 : Blk (w.setCell ⟨b, o + 2, none⟩ (.int .i8 0)) b cs 241 := hB.set' _ _ h2
  have HB := Lib.hid B0
  clear hB
  go_enter Tryz.func159, Tryz.ntmps159
  go_wp2_with (go_at_call 178; refine (tryGrow_new _ b o ((HB.out.cell o).trans h0)).mono ?_; rintro e' w' ⟨rfl, rfl⟩)
  refine (grow_new _ b o cs HB.out h0 h1).mono ?_
  rintro e' w1 ⟨rfl, g, hg, hG, hX, hB1⟩
  simp only [World.size_setCell] at hg
  have hc := hB1.cell o
  rw [Array.getElem?_setIfInBounds_self_of_lt (by omega)] at hc
  have l1 := hB1.lt
  have hxc := hB1.cell i
  rw [Array.getElem?_setIfInBounds_ne (by omega), hx] at hxc
  have H1 := Lib.hid hB1
  have HGE := Lib.hid hg
  have HX := Lib.hid (((Ex.refl (On b) w).own (o + 2) (.int .i8 0)).trans hX)
  have HG := Lib.hid hG
  have hgb : g ≠ b := by omega
  have u5 : Tryz.prog.underlying 62 = some (.slice 5) := by kernel_rfl
  have i5 : (Tryz.prog.info? 5).map (·.size) = some 1 := by kernel_rfl
  have A1 : ([.int .u8 (x : Int)] : List Value).length = Nat.min 1 1 := rfl
  have A2 : ∀ j v, ([.int .u8 (x : Int)] : List Value)[j]? = some v → w1.cell? ((⟨b, i, none⟩ : Addr).add j) = some v := by
    intro j v hj
    match j with
    | 0 => simp at hj; subst hj; simpa [Addr.add] using hxc
    | j + 1 => simp at hj
  have A3 : 0 + ([.int .u8 (x : Int)] : List Value).length ≤ z64.toArray.size := by simp [z64]
  have A4 : ∀ v ∈ ([.int .u8 (x : Int)] : List Value), v.oneCell' = true := by intro v hv; simp at hv; subst hv; rfl
  have HA := Lib.hid (And.intro u5 (And.intro i5 (And.intro A1 (And.intro A2 (And.intro A3 A4)))))
  clear hB1 hX hG u5 i5 A1 A2 A3 A4 HB B0 c0 c1 c2 f h0 h1 h2 hx hg
  go_wp2_with (refine wpList_copy_blk rfl (.tmp 29) (.tmp 30) 62 62 rfl 5 HA.out.1 HA.out.2.1 g 0 1 64 ⟨b, i, none⟩ 1 pc rfl rfl z64.toArray 5 HG.out [.int .u8 x] HA.out.2.2.1 HA.out.2.2.2.1 HA.out.2.2.2.2.1 HA.out.2.2.2.2.2 ?_; intro w2 HG2 hx2)
  go_ret2
  refine ⟨rfl, g, HGE.out, HG2, HX.out.trans' hx2 (fun k hk h => ?_), H1.out.ex hx2 (fun h => hgb h.symm)⟩
  have := HGE.out
  unfold On at h
  omega

theorem tryGrow_none (w : World) (b o g : Nat) (cs : Array Value) (t : TypeId) (hB : Blk w b cs t) (h0 : cs[o]? = some (.slice (some ⟨g, 0, none⟩) 1 64)) :
    Calls Tryz.prog 178 #[.pointer (some ⟨b, o, none⟩), .int .i64 0] w fun e' w' => e' = .returned (.tuple #[.int .i64 1, .bool true]) ∧ Ex (On b) w w' ∧ Blk w' b cs t := by
  have c0 := (hB.cell o).trans h0
  have f := hB.free
  have lt := hB.lt
  have HB := Lib.hid (hB.set' o _ h0)
  clear hB h0
  go_enter Tryz.func178, Tryz.ntmps178
  go_wp2
  go_ret2
  exact ⟨rfl, (Ex.refl _ _).own _ _, HB.out⟩

theorem write_none (w : World) (b o g pc : Nat) (p : Option Addr) (cs : Array Value) (t : TypeId) (hB : Blk w b cs t) (h0 : cs[o]? = some (.slice (some ⟨g, 0, none⟩) 1 64)) (h2 : cs[o + 2]? = some (.int .i8 0)) :
    Calls Tryz.prog 159 #[.pointer (some ⟨b, o, none⟩), .slice p 0 pc] w fun e' w' => e' = .returned (.tuple #[.int .i64 0, .nilIface]) ∧ Ex (On b) w w' ∧ Blk w' b cs t := by
  have c2 := (hB.cell (o + 2)).trans h2
  have f := hB.free
  have lt := hB.lt
  have B0 : Blk (w.setCell ⟨b, o + 2, none⟩ (.int .i8 0)) b cs t := hB.set' _ _ h2
  have HB := Lib.hid B0
  clear hB B0
  go_enter Tryz.func159, Tryz.ntmps159
  go_wp2_with fail
  refine (tryGrow_none _ b o g cs t HB.out h0).mono ?_
  rintro e' w1 ⟨rfl, hx, b1⟩
  have d0 := (b1.cell o).trans h0
  have l1 := b1.lt
  have HX := Lib.hid (((Ex.refl (On b) w).own (o + 2) (.int .i8 0)).trans hx)
  have HB1 := Lib.hid b1
  have u5 : Tryz.prog.underlying 62 = some (.slice 5) := by kernel_rfl
  have i5 : (Tryz.prog.info? 5).map (·.size) = some 1 := by kernel_rfl
  have HA := Lib.hid (And.intro u5 i5)
  clear h0 h2 c2 hx b1 HB u5 i5
  go_wp2_with (refine wpList_copy_nothing rfl (.tmp 29) (.tmp 30) 62 62 rfl 5 HA.out.1 HA.out.2 (some ⟨g, 1, none⟩) p 0 63 0 pc rfl rfl rfl ?_)
  go_ret2
  exact ⟨rfl, HX.out, HB1.out⟩

theorem bufString (w : World) (b o g : Nat) (x : UInt8) (cs cg : Array Value) (t : TypeId) (hB : Blk w b cs t) (h0 : cs[o]? = some (.slice (some ⟨g, 0, none⟩) 1 64)) (h1 : cs[o + 1]? = some (.int .i64 0))
    (hG : Blk w g cg 5) (hx : cg[0]? = some (.int .u8 x.toNat)) :
    Calls Tryz.prog 166 #[.pointer (some ⟨b, o, none⟩)] w fun e' w' => e' = .returned (.string ⟨#[x]⟩) ∧ Ex No w w' := by
  have c0 := (hB.cell o).trans h0
  have c1 := (hB.cell (o + 1)).trans h1
  have g0 := (hG.cell 0).trans hx
  have lt := hB.lt
  have hcv : ∀ n, (convert 62 9 (.slice (some ⟨g, 0, none⟩) 1 64)).run Tryz.prog (w.drewN n) = .ok (.string ⟨#[x]⟩) (w.drewN n) := fun n => by
    rw [run_convert_bytes_string (e := 5) _ _ _ _ _ _ (by kernel_rfl) (by kernel_rfl) (by kernel_rfl), run_bytesToString _ _ _ _ [(x.toNat : Int)] ?_]
    · simp [ByteArray.push]
    · simp [loadCells, go_sem, g0]
  have pn : (binOp BinOp.eql 223 (.pointer (some ⟨b, o, none⟩)) (.pointer none)).run Tryz.prog w = .ok (.bool false) w := by kernel_rfl
  clear hB hG h0 h1 hx
  go_enter Tryz.func166, Tryz.ntmps166
  go_wp2_with fail
  go_quiet (fail)
  go_wp2
  go_ret
  exact ⟨rfl, (Ex.refl _ _).of_drewN _⟩
end Go.Proofs.YtbepocojafbbbaaGreatDoor
