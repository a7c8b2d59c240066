/- The scanner: the first reading; the end of the text. -/
import Derived.Test.YtbepocojafbbbaaGreatDoorTf
import Derived.Deep.RegionWith
namespace Go.Proofs.YtbepocojafbbbaaGreatDoor
open Go.RowKit
set_option maxRecDepth 100000

theorem fullRune_empty (w : World) (a : Option Addr) (c : Nat) : Calls Tryz.prog 158 #[.slice a 0 c] w fun e' w' => e' = .returned (.bool false) ∧ w' = w := by
  go_enter Tryz.func158, Tryz.ntmps158
  go_wp2
  go_ret
  exact ⟨rfl, rfl⟩
theorem read_ahead (a : Addr) (w : World) : (nilAhead 573 223 (.pointer (some a)) "Read").run Tryz.prog w = .ok (some false) w := by kernel_rfl
theorem read_method (a : Addr) (w : World) : (method 573 223 (.pointer (some a)) "Read").run Tryz.prog w = .ok (379, .pointer (some a)) w := by kernel_rfl

theorem slice_all (w : World) (b : Nat) : (Instr.sliceAt 235 (.pointer (some ⟨b, 1, none⟩)) (some (.int .i64 0)) none none).run Tryz.prog w = .ok (.slice (some ⟨b, 1, none⟩) 1025 1025) w := by kernel_rfl
theorem slice_1024 (w : World) (b : Nat) : (Instr.sliceAt 235 (.pointer (some ⟨b, 1, none⟩)) (some (.int .i64 0)) (some (.int .i64 1024)) none).run Tryz.prog w = .ok (.slice (some ⟨b, 1, none⟩) 1024 1025) w := by
  simpa using slice_buf w b 0 1024 (by omega) (by omega)

/-- The scanner's cells before anything has been read. -/
structure Sa (cs : Array Value) : Prop where
  size : cs.size = 1044
  sent : cs[1]? = some (.int .u8 128)
  pos : cs[1026]? = some (.int .i64 0)
  fin : cs[1027]? = some (.int .i64 0)
  base : ∃ v, cs[1028]? = some (.int .i64 v)
  line : ∃ v, cs[1029]? = some (.int .i64 v)
  column : ∃ v, cs[1030]? = some (.int .i64 v)
  lline : ∃ v, cs[1031]? = some (.int .i64 v)
  lc : ∃ v, cs[1032]? = some (.int .i64 v)
  tb : cs[1033]? = some (.slice none 0 0)
  to : cs[1034]? = some (.int .i64 0)
  tr : cs[1035]? = some (.int .i8 0)
  tp : cs[1036]? = some (.int .i64 (-1))
  te : ∃ v, cs[1037]? = some (.int .i64 v)
  err : cs[1039]? = some .nilIface
  pfn : ∃ v, cs[1040]? = some (.string v)
  po : ∃ v, cs[1041]? = some (.int .i64 v)
  pl : ∃ v, cs[1042]? = some (.int .i64 v)
  pc : ∃ v, cs[1043]? = some (.int .i64 v)

theorem splice_at (L : List Value) (T : List UInt8) (i : Nat) (hL : L.length = 1044) (hT : T.length ≤ 1000) (hi : i < 1 ∨ 1 + T.length ≤ i) : (splice L 1 (u8s T)).toArray[i]? = L[i]? := by
  have hl : (u8s T).length = T.length := by simp [u8s]
  simp only [splice, List.getElem?_toArray]
  rcases hi with hi | hi
  · rw [List.getElem?_append_left (by simp; omega), List.getElem?_take_of_lt hi]
  · rw [List.getElem?_append_right (by simp; omega), List.getElem?_append_right (by simp [hl]; omega), List.getElem?_drop, hl]
    congr 1
    simp; omega
theorem splice_in (L : List Value) (T : List UInt8) (i : Nat) (hL : L.length = 1044) (hi : i < T.length) : (splice L 1 (u8s T)).toArray[1 + i]? = some (.int .u8 (T.getD i 0).toNat) := by
  have hl : (u8s T).length = T.length := by simp [u8s]
  simp only [splice, List.getElem?_toArray]
  rw [List.getElem?_append_right (by simp; omega), List.getElem?_append_left (by simp [hl]; omega)]
  have e : 1 + i - (List.take 1 L).length = i := by simp; omega
  rw [e]
  simp [u8s, List.getElem?_eq_getElem hi]

def Tw (b bb : Nat) : Nat → Prop := fun i => i = b ∨ i = bb
/-- Where the first reading stands. -/
structure S0 (q lr : Int) (w : World) (b bb tb c : Nat) (cs : Array Value) (T : List UInt8) (W : World) : Prop where
  ex : Ex (Tw b bb) w W
  hB : Blk W b cs 241
  hR : Blk W bb #[.slice (some ⟨tb, 0, none⟩) T.length c, .int .i64 q, .int .i8 lr] 239
  ht : ∀ i, i < T.length → W.cell? ⟨tb, i, none⟩ = some (.int .u8 (T.getD i 0).toNat)
theorem S0.go {q lr : Int} {w W W' : World} {b bb tb c : Nat} {cs : Array Value} {T : List UInt8} (h : S0 q lr w b bb tb c cs T W) (hx : Ex No W W') : S0 q lr w b bb tb c cs T W' :=
  ⟨h.ex.no hx, h.hB.ex hx no_, h.hR.ex hx no_, fun i hi => hx.got (h.ht i hi) no_⟩
theorem S0.drew {q lr : Int} {w W : World} {b bb tb c : Nat} {cs : Array Value} {T : List UInt8} (h : S0 q lr w b bb tb c cs T W) (n : Nat) : S0 q lr w b bb tb c cs T (W.drewN n) := h.go ((Ex.refl _ _).of_drewN _)
theorem S0.set {q lr : Int} {w W : World} {b bb tb c : Nat} {cs : Array Value} {T : List UInt8} (h : S0 q lr w b bb tb c cs T W) (h1 : b ≠ bb) (h2 : tb ≠ b) (i : Nat) (v : Value) : S0 q lr w b bb tb c (cs.setIfInBounds i v) T (W.setCell ⟨b, i, none⟩ v) :=
  ⟨h.ex.setCell _ _ (Or.inl (Or.inl rfl)), h.hB.set i v, h.hR.set_other _ _ h1, fun j hj => by
    rw [World.cell?_setCell_other _ _ _ _ (fun e => h2 (congrArg Addr.block e).symm)]; exact h.ht j hj⟩
theorem S0.next {q lr : Int} {w W : World} {b bb tb c : Nat} {cs : Array Value} {T : List UInt8} {code : Code} {Q : Exit → Act → World → Prop} {a : Act} (h : S0 q lr w b bb tb c cs T W)
    (k : ∀ W', Hid (S0 q lr w b bb tb c cs T W') → code.wp Tryz.prog Q a W') : code.wp Tryz.prog Q a W := k W (Lib.hid h)
theorem set_ne {cs : Array Value} {v u : Value} {i j : Nat} (h : cs[i]? = some u) (hne : j ≠ i) : (cs.setIfInBounds j v)[i]? = some u := by
  rw [Array.getElem?_setIfInBounds_ne hne]; exact h

set_option maxHeartbeats 2000000 in
theorem next_first (w : World) (b bb tb c : Nat) (cs : Array Value) (T : List UInt8) (hB : Blk w b cs 241) (hS : Sa cs) (h0 : cs[0]? = some (.iface 223 (.pointer (some ⟨bb, 0, none⟩))))
    (hR : Blk w bb #[.slice (some ⟨tb, 0, none⟩) T.length c, .int .i64 0, .int .i8 0] 239) (hne : b ≠ bb) (hnt : tb ≠ bb)
    (ht : ∀ i, i < T.length → w.cell? ⟨tb, i, none⟩ = some (.int .u8 (T.getD i 0).toNat)) (hn : tb ≠ b) (h4 : 4 ≤ T.length) (hsh : T.length ≤ 1000) (hA : Ascii T) :
    Calls Tryz.prog 122 #[.pointer (some ⟨b, 0, none⟩)] w fun e' w' => e' = .returned (.int .i32 (chr T 0)) ∧ Ex (Tw b bb) w w' ∧
      ∃ cs', Blk w' b cs' 241 ∧ Sc cs' T 1 1 (-1) ∧ cs'[1038]? = cs[1038]? ∧ cs'[0]? = cs[0]? ∧ Blk w' bb #[.slice (some ⟨tb, 0, none⟩) T.length c, .int .i64 T.length, .int .i8 (-1)] 239 := by
  have H0 := Lib.hid h0
  have HS := Lib.hid hS
  have hW : S0 0 0 w b bb tb c cs T w := ⟨Ex.refl _ _, hB, hR, ht⟩
  have HW := Lib.hid hW
  have c1 := (hB.cell 1).trans hS.sent
  have c1026 := (hB.cell 1026).trans hS.pos
  have lt := hB.lt
  obtain ⟨cb, q0⟩ := hS.base
  have Q0 := Lib.hid q0
  clear hB hS hR ht h0 hW q0
  go_enter Tryz.func122, Tryz.ntmps122
  go_wp2_with fail
  go_quiet (fail)
  go_wp2_with fail
  have HW1 := Lib.hid (HW.out.drew nq)
  clear HW c1 c1026 lt
  generalize w.drewN nq = W at HW1 ⊢
  have c1026 := (HW1.out.hB.cell 1026).trans HS.out.pos
  have c1027 := (HW1.out.hB.cell 1027).trans HS.out.fin
  have c1036 := (HW1.out.hB.cell 1036).trans HS.out.tp
  have lt := HW1.out.hB.lt
  refine wp_loop_rounds 2 ?_
  rw [rounds_succ]
  go_wp2_with fail
  have hsl : ∀ W, (Instr.sliceAt 235 (.pointer (some ⟨b, 1, none⟩)) (some (.int .i64 0)) (some (.int .i64 0)) none).run Tryz.prog W = .ok (.slice (some ⟨b, 1, none⟩) 0 1025) W := fun W => by simpa using slice_buf W b 0 0 (by omega) (by omega)
  have w4 : IntKind.i64.wrap 4 = 4 := by kernel_rfl
  go_quiet ((go_at_call 158; exact Calls.quiet_of_same (fullRune_empty _ _ _)))
  go_wp2_with fail
  have HW2 := Lib.hid (HW1.out.drew nq)
  clear HW1 c1026 c1027 c1036 lt
  generalize W.drewN nq = W2 at HW2 ⊢
  have c1026 := (HW2.out.hB.cell 1026).trans HS.out.pos
  have c1027 := (HW2.out.hB.cell 1027).trans HS.out.fin
  have lt := HW2.out.hB.lt
  have hsl2 := fun W => slice_all W b
  go_still_tail 16, (by kernel_rfl)
  have u5 : Tryz.prog.underlying 62 = some (.slice 5) := by kernel_rfl
  have i5 : (Tryz.prog.info? 5).map (·.size) = some 1 := by kernel_rfl
  refine wpList_copy_nothing rfl (.tmp 73) (.tmp 85) 62 62 rfl 5 u5 i5 (some ⟨b, 1, none⟩) (some ⟨b, 1, none⟩) 1025 1025 0 1025 rfl rfl rfl ?_
  clear u5 i5
  go_wp2_with fail
  refine (HW2.out.go ((Ex.refl _ _).drew)).next ?_
  clear HW2 c1026 c1027 lt
  intro W3 HW3
  have c1028 := (HW3.out.hB.cell 1028).trans Q0.out
  have c1026 := (HW3.out.hB.cell 1026).trans HS.out.pos
  have lt := HW3.out.hB.lt
  have f := HW3.out.hB.free
  go_still_tail 11, (by kernel_rfl)
  go_wp2_with fail
  obtain ⟨cb', hcb⟩ : ∃ x, x = wrap64 cb := ⟨_, rfl⟩
  rw [← hcb]
  clear hcb
  refine ((HW3.out.set hne hn 1028 (.int .i64 cb')).go ((Ex.refl _ _).drew)).next ?_
  clear HW3 c1026 c1028 lt f
  intro W4 HW4
  have c0 := (HW4.out.hB.cell 0).trans (set_ne H0.out (by omega))
  have c1026 := (HW4.out.hB.cell 1026).trans (set_ne HS.out.pos (by omega))
  have c1027 := (HW4.out.hB.cell 1027).trans (set_ne HS.out.fin (by omega))
  have lt := HW4.out.hB.lt
  go_quiet (fail)
  go_wp2_with fail
  refine (HW4.out.drew nq).next ?_
  clear HW4 c0 c1026 c1027 lt
  intro W5 HW5
  have c0 := (HW5.out.hB.cell 0).trans (set_ne H0.out (by omega))
  have lt := HW5.out.hB.lt
  have ltb := HW5.out.hR.lt
  have hsl3 := fun W => slice_1024 W b
  have e0 := read_ahead
  have e1 := read_method
  have HRD := Lib.hid (fun W (h : S0 0 0 w b bb tb c (cs.setIfInBounds 1028 (.int .i64 cb')) T W) => read_all W bb tb b c T _ h.hR h.hB hne hnt h.ht (by simpa using HS.out.size) (by omega) hsh)
  go_region_with (go_at_call 379; refine (HRD.out _ (HW5.out.go ((Ex.refl _ _).drew))).mono ?_; rintro e' W6 ⟨rfl, hx6, hB6, hR6⟩)
  have hW6 : S0 T.length (-1) w b bb tb c _ T W6 := ⟨(HW5.out.go ((Ex.refl _ _).drew)).ex.trans hx6, hB6, hR6, fun i hi => by
    have h1 := HW5.out.ht i hi
    exact hx6.got (((Ex.refl No _).drew).got h1 no_) (fun h => by rcases h with h | h; exact hn h; exact hnt h)⟩
  have HW6 := Lib.hid hW6
  clear hW6 hx6 hB6 hR6 HW5 c0 lt ltb HRD hsl3 e0 e1
  have p0 : ∀ i, (1 + T.length ≤ i) → i ≠ 1028 → (splice (cs.setIfInBounds 1028 (.int .i64 cb')).toList 1 (u8s T)).toArray[i]? = cs[i]? := fun i h1 h2 => by
    rw [splice_at _ T i (by simpa using HS.out.size) hsh (Or.inr h1), Array.getElem?_toList, Array.getElem?_setIfInBounds_ne (by omega)]
  have P0 := Lib.hid p0
  clear p0
  obtain ⟨c6, hc6⟩ : ∃ x, x = (splice (cs.setIfInBounds 1028 (.int .i64 cb')).toList 1 (u8s T)).toArray := ⟨_, rfl⟩
  rw [← hc6] at HW6 P0
  have HC6 := Lib.hid hc6
  clear hc6
  have c1026 := (HW6.out.hB.cell 1026).trans ((P0.out 1026 (by omega) (by omega)).trans HS.out.pos)
  have c1027 := (HW6.out.hB.cell 1027).trans ((P0.out 1027 (by omega) (by omega)).trans HS.out.fin)
  have lt := HW6.out.hB.lt
  have f := HW6.out.hB.free
  go_wp2_with fail
  have hti : (T.length : Int) < 1025 := by omega
  have z6 : c6.size = 1044 := by
    rw [HC6.out]
    simp only [List.size_toArray]
    rw [length_splice _ _ _ (by simp [u8s, HS.out.size]; omega)]
    simp [HS.out.size]
  refine (((HW6.out.set hne hn 1026 (.int .i64 0))).set hne hn 1027 (.int .i64 T.length)).next ?_
  clear HW6 c1026 c1027 lt f
  intro W7 HW7
  have c1027 := (HW7.out.hB.cell 1027).trans (set_at (by simpa using z6) (by omega))
  have lt := HW7.out.hB.lt
  have f := HW7.out.hB.free
  have cz : ∃ v, W7.cell? ⟨b, 1 + T.length, none⟩ = some v := by
    rw [HW7.out.hB.cell]
    exact ⟨_, Array.getElem?_eq_getElem (by simp [z6]; omega)⟩
  obtain ⟨vz, cz⟩ := cz
  go_still_tail 8, (by kernel_rfl)
  go_wp2_with fail
  refine ((HW7.out.set hne hn (1 + T.length) (.int .u8 128)).go ((Ex.refl _ _).drew)).next ?_
  clear HW7 c1027 lt f cz
  intro W8 HW8
  obtain ⟨c8, hc8⟩ : ∃ x, x = ((c6.setIfInBounds 1026 (.int .i64 0)).setIfInBounds 1027 (.int .i64 T.length)).setIfInBounds (1 + T.length) (.int .u8 128) := ⟨_, rfl⟩
  rw [← hc8] at HW8
  have z8 : c8.size = 1044 := by rw [hc8]; simpa using z6
  have pc8 : ∀ i, 1 + T.length < i → i ≠ 1026 → i ≠ 1027 → i ≠ 1028 → c8[i]? = cs[i]? := fun i h1 h2 h3 h4 => by
    rw [hc8, Array.getElem?_setIfInBounds_ne (by omega), Array.getElem?_setIfInBounds_ne (by omega), Array.getElem?_setIfInBounds_ne (by omega)]
    exact P0.out i (by omega) h4
  have S8 : ∃ lc, Sc c8 T 0 lc (-1) := by
    obtain ⟨lc, hlc⟩ := HS.out.lc
    refine ⟨lc, z8, hsh, ?_, ?_, ?_, ?_, ?_, ?_, ?_, ?_, ?_, ?_, ?_, ?_, ?_, ?_, ?_, ?_, ?_, ?_, ?_⟩
    · intro i hi
      rw [hc8, Array.getElem?_setIfInBounds_ne (by omega), Array.getElem?_setIfInBounds_ne (by omega), Array.getElem?_setIfInBounds_ne (by omega), HC6.out]
      exact splice_in _ T i (by simp [HS.out.size]) hi
    · rw [hc8]; exact set_at (by simpa using z6) (by omega)
    · rw [hc8, Array.getElem?_setIfInBounds_ne (by omega), Array.getElem?_setIfInBounds_ne (by omega)]; exact set_at z6 (by omega)
    · rw [hc8, Array.getElem?_setIfInBounds_ne (by omega)]; exact set_at (by simpa using z6) (by omega)
    · refine ⟨cb', ?_⟩
      rw [hc8, Array.getElem?_setIfInBounds_ne (by omega), Array.getElem?_setIfInBounds_ne (by omega), Array.getElem?_setIfInBounds_ne (by omega), HC6.out, splice_at _ T _ (by simp [HS.out.size]) hsh (Or.inr (by omega)), Array.getElem?_toList]
      exact set_at HS.out.size (by omega)
    · obtain ⟨v, h⟩ := HS.out.line; exact ⟨v, (pc8 _ (by omega) (by omega) (by omega) (by omega)).trans h⟩
    · obtain ⟨v, h⟩ := HS.out.column; exact ⟨v, (pc8 _ (by omega) (by omega) (by omega) (by omega)).trans h⟩
    · obtain ⟨v, h⟩ := HS.out.lline; exact ⟨v, (pc8 _ (by omega) (by omega) (by omega) (by omega)).trans h⟩
    · exact (pc8 _ (by omega) (by omega) (by omega) (by omega)).trans hlc
    · exact (pc8 _ (by omega) (by omega) (by omega) (by omega)).trans HS.out.tb
    · exact (pc8 _ (by omega) (by omega) (by omega) (by omega)).trans HS.out.to
    · exact (pc8 _ (by omega) (by omega) (by omega) (by omega)).trans HS.out.tr
    · exact (pc8 _ (by omega) (by omega) (by omega) (by omega)).trans HS.out.tp
    · obtain ⟨v, h⟩ := HS.out.te; exact ⟨v, (pc8 _ (by omega) (by omega) (by omega) (by omega)).trans h⟩
    · exact (pc8 _ (by omega) (by omega) (by omega) (by omega)).trans HS.out.err
    · obtain ⟨v, h⟩ := HS.out.pfn; exact ⟨v, (pc8 _ (by omega) (by omega) (by omega) (by omega)).trans h⟩
    · obtain ⟨v, h⟩ := HS.out.po; exact ⟨v, (pc8 _ (by omega) (by omega) (by omega) (by omega)).trans h⟩
    · obtain ⟨v, h⟩ := HS.out.pl; exact ⟨v, (pc8 _ (by omega) (by omega) (by omega) (by omega)).trans h⟩
    · obtain ⟨v, h⟩ := HS.out.pc; exact ⟨v, (pc8 _ (by omega) (by omega) (by omega) (by omega)).trans h⟩
  obtain ⟨lc, S8⟩ := S8
  have e38 : c8[1038]? = cs[1038]? := pc8 _ (by omega) (by omega) (by omega) (by omega)
  have e0 : c8[0]? = cs[0]? := by
    rw [hc8, Array.getElem?_setIfInBounds_ne (by omega), Array.getElem?_setIfInBounds_ne (by omega), Array.getElem?_setIfInBounds_ne (by omega), HC6.out, splice_at _ T _ (by simp [HS.out.size]) hsh (Or.inl (by omega)), Array.getElem?_toList, Array.getElem?_setIfInBounds_ne (by omega)]
  have HE := Lib.hid (And.intro e38 e0)
  have HS8 := Lib.hid S8
  clear e38 e0 S8 pc8 hc8 z8 z6 HC6 P0
  have hd4 : decide ((T.length : Int) < 4) = false := by simp; omega
  have c1026 := (HW8.out.hB.cell 1026).trans HS8.out.pos
  have c1027 := (HW8.out.hB.cell 1027).trans HS8.out.fin
  have lt := HW8.out.hB.lt
  go_wp2_with fail
  have w4 : IntKind.i64.wrap 4 = 4 := by kernel_rfl
  have hd4' : decide (4 > (T.length : Int)) = false := by simp; omega
  go_quiet (fail)
  go_wp2_with fail
  refine (HW8.out.drew nq).next ?_
  clear HW8 c1026 c1027 lt
  intro W9 HW9
  have hp : 0 < T.length := by omega
  have hx : (T.getD 0 0).toNat = chr T 0 := rfl
  have h0 := (hA 0 hp).1
  have h128 := (hA 0 hp).2
  have c1026 := (HW9.out.hB.cell 1026).trans HS8.out.pos
  have cx := (HW9.out.hB.cell 1).trans ((HS8.out.bytes 0 hp).trans (by rw [hx]))
  have lt := HW9.out.hB.lt
  have f := HW9.out.hB.free
  have c1032 := (HW9.out.hB.cell 1032).trans HS8.out.lc
  obtain ⟨cl, q1⟩ := HS8.out.line
  obtain ⟨cc, q2⟩ := HS8.out.column
  obtain ⟨ll, q3⟩ := HS8.out.lline
  have c1029 := (HW9.out.hB.cell 1029).trans q1
  have c1030 := (HW9.out.hB.cell 1030).trans q2
  have c1031 := (HW9.out.hB.cell 1031).trans q3
  clear q1 q2 q3 hx
  go_quiet (fail)
  go_wp2
  · go_ret
    have HX := (HW9.out.drew nq).ex
    have hb0 := (HW9.out.drew nq).hB
    have e1 : (1 : Int) = ((0 + 1 : Nat) : Int) := by omega
    refine ⟨rfl, ?_, _, (((((hb0.set _ _).set _ _).set _ _).set _ _).set _ _).set _ _, ?_, ?_, ?_, ?_⟩
    · exact (((((HX.setCell _ _ (Or.inl (Or.inl rfl))).setCell _ _ (Or.inl (Or.inl rfl))).setCell _ _ (Or.inl (Or.inl rfl))).setCell _ _ (Or.inl (Or.inl rfl))).setCell _ _ (Or.inl (Or.inl rfl))).setCell _ _ (Or.inl (Or.inl rfl))
    · exact ((((((HS8.out.setPos 1).setLc 1).setColumn _).setLine _).setLline _).setColumn _)
    · (repeat rw [Array.getElem?_setIfInBounds_ne (by omega)]); exact HE.out.1
    · (repeat rw [Array.getElem?_setIfInBounds_ne (by omega)]); exact HE.out.2
    · exact ((((((HW9.out.drew nq).hR.set_other _ _ hne).set_other _ _ hne).set_other _ _ hne).set_other _ _ hne).set_other _ _ hne).set_other _ _ hne
  · go_ret
    have HX := (HW9.out.drew nq).ex
    have hb0 := (HW9.out.drew nq).hB
    refine ⟨rfl, ?_, _, (((hb0.set _ _).set _ _).set _ _), ?_, ?_, ?_, ?_⟩
    · exact ((HX.setCell _ _ (Or.inl (Or.inl rfl))).setCell _ _ (Or.inl (Or.inl rfl))).setCell _ _ (Or.inl (Or.inl rfl))
    · exact ((HS8.out.setPos 1).setLc 1).setColumn _
    · (repeat rw [Array.getElem?_setIfInBounds_ne (by omega)]); exact HE.out.1
    · (repeat rw [Array.getElem?_setIfInBounds_ne (by omega)]); exact HE.out.2
    · exact (((HW9.out.drew nq).hR.set_other _ _ hne).set_other _ _ hne).set_other _ _ hne
end Go.Proofs.YtbepocojafbbbaaGreatDoor
