/- The parser of 'has' with a path of two names. -/
import Derived.Test.YtbepocojafbbbaaGreatDoorPd
namespace Go.Proofs.YtbepocojafbbbaaGreatDoor
open Go.RowKit
set_option maxRecDepth 100000

set_option maxHeartbeats 1000000 in
theorem has_two (X : PX) (k : Nat) (t : TypeId) (x : Value) (hty : (X.tok k).ty = 1) (hdot : (X.tx (X.nx k) == [46]) = true) (hty2 : (X.tok (X.nx (X.nx k))).ty = 1) (hdot2 : (X.tx (X.nx (X.nx (X.nx k))) == [46]) = false) (w : World) (hp : PSt X k w) :
    Calls Tryz.prog 217 #[.pointer (some ⟨X.b, 0, none⟩), .agg #[.iface t x]] w fun e w' =>
      e = .returned (.tuple #[.agg #[.iface 254 (.agg #[.iface 186 (.agg #[.iface t x, .string (X.tok k).tx]), .iface 186 (.agg #[.iface 187 (.agg #[.iface t x, .string (X.tok k).tx]), .string (X.tok (X.nx (X.nx k))).tx])])], .nilIface]) ∧
        PSt X (X.nx (X.nx (X.nx k))) w' ∧ Ex (On X.b) w w' := by
  have fT := field_text
  go_enter Tryz.func217, Tryz.ntmps217
  go_wp2_with fail
  refine (advance_spec X k _ (hp.ex (((Ex.refl _ _).alloc _).alloc _))).mono ?_
  rintro e w1 ⟨rfl, hp1, hx1⟩
  have a0 := hx1.got (p := ⟨w.heap.size, 0, none⟩) (by simp [go_sem]; rfl) (hp.ne_ _ (Nat.le_refl _))
  have c0 := hx1.got (p := ⟨w.heap.size + 1, 0, none⟩) (by simp [go_sem]; rfl) (hp.ne_ _ (Nat.le_succ _))
  have f0 := hx1.thaw (p := ⟨w.heap.size + 1, 0, none⟩) (by simp [go_sem]; rfl) (by simp [go_sem]) (hp.ne_ _ (Nat.le_succ _))
  have hx0 := (((Ex.refl (On X.b) w).alloc _).alloc _).trans hx1
  rcases ht : X.tok k with ⟨ty, fn, o, l, c, tx⟩
  simp only [ht] at hty
  subst hty
  have HT := Lib.hid ht
  clear ht
  simp only [TokC.val]
  go_wp2_with fail
  refine (isIdent_spec ⟨1, fn, o, l, c, tx⟩ _).mono ?_
  rintro e w2 ⟨rfl, hx2⟩
  have d5 := hx2.got (new_cell w1 #[.int .i64 1, .string fn, .int .i64 o, .int .i64 l, .int .i64 c, .string tx] 154 5) no_
  have hx12 := ((Ex.refl No w1).alloc _).trans hx2
  have a2 := hx12.got a0 no_
  have c2 := hx12.got c0 no_
  have f2 := hx12.thaw c0 f0 no_
  go_wp2_with fail
  refine (has_spec _ _ _ _).mono ?_
  rintro e w3 ⟨rfl, hx3⟩
  have a3 := hx3.got a2 no_
  have c3 := hx3.got c2 no_
  have f3 := hx3.thaw c2 f2 no_
  have l3 := some_lt a3
  have m3 := some_lt c3
  go_wp2_with fail
  refine (access_spec _ _ _ _).mono ?_
  rintro e w4 ⟨rfl, hx4⟩
  have hx34 := ((Ex.refl No w3).alloc _).trans hx4
  have c4 := hx34.got c3 no_
  have f4 := hx34.thaw c3 f3 no_
  have r4 := hx4.got (new_cell w3 #[.iface 186 (.agg #[.iface t x, .string tx])] 296 0) no_
  have rf4 := hx4.thaw (new_cell w3 #[.iface 186 (.agg #[.iface t x, .string tx])] 296 0) (new_free _ _ _ _) no_
  have l4 := some_lt c4
  have m4 := some_lt r4
  have hp4 : PSt X (X.nx k) w4 := ((hp1.ex hx12).ex hx3).ex hx34
  have hE4 : Ex (On X.b) w w4 := ((hx0.no hx12).no hx3).no hx34
  have hb4 := hp.hb
  have sz3 : w.heap.size + 1 < w3.heap.size := m3
  have sz4 : w3.heap.size < w4.heap.size := m4
  clear a0 c0 f0 hx0 hx1 hx2 hx12 a2 c2 f2 a3 c3 f3 hx3 hx4 hx34 d5 hp1
  go_wp2_with fail
  refine wp_loop_rounds 2 ?_
  rw [rounds_succ]
  go_wp2_with fail
  refine (peek_spec X (X.nx k) _ (hp4.ex ((Ex.refl _ _).alloc _))).mono ?_
  rintro e w5 ⟨rfl, hx5⟩
  rcases ht : X.tok (X.nx k) with ⟨ty', fn', o', l', c', tx'⟩
  simp only [PX.tx, ht] at hdot
  simp only [TokC.val]
  clear ht
  have hx45 := ((Ex.refl No w4).alloc _).trans hx5
  have c5 := hx45.got c4 no_
  have f5 := hx45.thaw c4 f4 no_
  have r5 := hx45.got r4 no_
  have rf5 := hx45.thaw r4 rf4 no_
  have q5 := hx5.got (new_cell w4 #[.iface 187 (.agg #[.iface t x, .string tx])] 296 0) no_
  have qf5 := hx5.thaw (new_cell w4 #[.iface 187 (.agg #[.iface t x, .string tx])] 296 0) (new_free _ _ _ _) no_
  go_wp2_with fail
  refine (advance_spec X (X.nx k) _ (hp4.ex hx45)).mono ?_
  rintro e w6 ⟨rfl, hp6, hx6⟩
  go_wp2_with fail
  refine (advance_spec X (X.nx (X.nx k)) _ hp6).mono ?_
  rintro e w7 ⟨rfl, hp7, hx7⟩
  rcases ht : X.tok (X.nx (X.nx k)) with ⟨ty2, fn2, o2, l2, c2, tx2⟩
  simp only [ht] at hty2
  subst hty2
  have HT2 := Lib.hid ht
  clear ht
  simp only [TokC.val]
  have hx57 : Ex (On X.b) w5 w7 := hx6.trans hx7
  have nb3 : ¬ On X.b w3.heap.size := by have := hE4.size; have := hp.hb; unfold On; omega
  have nb4 : ¬ On X.b w4.heap.size := by have := hE4.size; have := hp.hb; unfold On; omega
  have nb1 : ¬ On X.b (w.heap.size + 1) := by unfold On; omega
  have c7 := hx57.got c5 nb1
  have f7 := hx57.thaw c5 f5 nb1
  have r7 := hx57.got r5 nb3
  have rf7 := hx57.thaw r5 rf5 nb3
  have q7 := hx57.got q5 nb4
  have qf7 := hx57.thaw q5 qf5 nb4
  have hE7 := (hE4.no hx45).trans hx57
  clear c4 f4 r4 rf4 c5 f5 r5 rf5 q5 qf5 hx57 hx6 hx7 hx5 hx45 hE4 hp4 l4 m4
  go_wp2_with fail
  refine (isIdent_spec ⟨1, fn2, o2, l2, c2, tx2⟩ _).mono ?_
  rintro e w8 ⟨rfl, hx8⟩
  have hx78 := ((Ex.refl No w7).alloc _).trans hx8
  have d8 := hx8.got (new_cell w7 #[.int .i64 1, .string fn2, .int .i64 o2, .int .i64 l2, .int .i64 c2, .string tx2] 154 5) no_
  have c8 := hx78.got c7 no_
  have f8 := hx78.thaw c7 f7 no_
  have r8 := hx78.got r7 no_
  have rf8 := hx78.thaw r7 rf7 no_
  have q8 := hx78.got q7 no_
  have qf8 := hx78.thaw q7 qf7 no_
  have hp8 := hp7.ex hx78
  have hE8 := hE7.no hx78
  clear c7 f7 r7 rf7 q7 qf7 hx78 hx8 hp7 hE7
  go_wp2_with fail
  refine (has_spec _ _ _ _).mono ?_
  rintro e w9 ⟨rfl, hx9⟩
  have c9 := hx9.got c8 no_
  have f9 := hx9.thaw c8 f8 no_
  have r9 := hx9.got r8 no_
  have rf9 := hx9.thaw r8 rf8 no_
  have q9 := hx9.got q8 no_
  have qf9 := hx9.thaw q8 qf8 no_
  have d9 := hx9.got d8 no_
  have l9 := some_lt r9
  have hp9 := hp8.ex hx9
  have hE9 := hE8.no hx9
  clear c8 f8 r8 rf8 q8 qf8 d8 hx9 hp8 hE8
  go_wp2_with fail
  refine (bAnd_spec _ _ _ _ _).mono ?_
  rintro e w10 ⟨rfl, hx10⟩
  have hx910 := ((Ex.refl No w9).alloc _).trans hx10
  have c10 := hx910.got c9 no_
  have f10 := hx910.thaw c9 f9 no_
  have r10 := hx910.got r9 no_
  have rf10 := hx910.thaw r9 rf9 no_
  have q10 := hx910.got q9 no_
  have qf10 := hx910.thaw q9 qf9 no_
  have l10 := some_lt r10
  have m10 := some_lt q10
  have n10 := some_lt c10
  have hp10 := hp9.ex hx910
  have hE10 := hE9.no hx910
  have htb := hp.htb
  clear c9 f9 r9 rf9 q9 qf9 d9 hp9 hE9 hx910 hx10 l9
  go_wp2_with fail
  refine (access_spec _ _ _ _).mono ?_
  rintro e w11 ⟨rfl, hx11⟩
  have ne1 : w.heap.size + 1 ≠ w3.heap.size := by omega
  have ne2 : w4.heap.size ≠ w3.heap.size := by omega
  have ne3 : w.heap.size + 1 ≠ w4.heap.size := by omega
  have hxs : ∀ v, Ex (On w3.heap.size) w10 (w10.setCell ⟨w3.heap.size, 0, none⟩ v) := fun v => (Ex.refl _ _).setCell _ _ (Or.inl (On.self _))
  have hxx := (hxs _).no hx11
  have r11 := hx11.got (World.cell?_setCell_same _ _ _ r10) no_
  have c11 := hxx.got c10 (fun h => ne1 h)
  have f11 := hxx.thaw c10 f10 (fun h => ne1 h)
  have q11 := hxx.got q10 (fun h => ne2 h)
  have qf11 := hxx.thaw q10 qf10 (fun h => ne2 h)
  have l11 := some_lt r11
  have m11 := some_lt q11
  have n11 := some_lt c11
  have hp11 := hp10.ex' hxx (fun h => by have h : X.b = w3.heap.size := h; omega) (fun h => by have h : X.tb = w3.heap.size := h; omega)
  have hE11 : Ex (On X.b) w w11 := hE10.trans' hxx (fun i hi h => by have h : i = w3.heap.size := h; omega)
  clear c10 f10 r10 rf10 q10 qf10 l10 m10 n10 hp10 hE10 hxx hxs hx11
  go_wp2_with fail
  rw [rounds_succ]
  go_wp2_with fail
  have hxq : ∀ v, Ex (On w4.heap.size) w11 (w11.setCell ⟨w4.heap.size, 0, none⟩ v) := fun v => (Ex.refl _ _).setCell _ _ (Or.inl (On.self _))
  refine (peek_spec X (X.nx (X.nx (X.nx k))) _ (hp11.ex' (hxq _) (fun h => by have h : X.b = w4.heap.size := h; omega) (fun h => by have h : X.tb = w4.heap.size := h; omega))).mono ?_
  rintro e w12 ⟨rfl, hx12⟩
  rcases ht : X.tok (X.nx (X.nx (X.nx k))) with ⟨ty', fn', o', l', c', tx'⟩
  simp only [PX.tx, ht] at hdot2
  simp only [TokC.val]
  clear ht
  have hxx := (hxq _).no hx12
  have r12 := hxx.got r11 (fun h => ne2 (show w3.heap.size = w4.heap.size from h).symm)
  have c12 := hxx.got c11 (fun h => ne3 h)
  have f12 := hxx.thaw c11 f11 (fun h => ne3 h)
  have l12 := some_lt r12
  have n12 := some_lt c12
  have hp12 := hp11.ex' hxx (fun h => by have h : X.b = w4.heap.size := h; omega) (fun h => by have h : X.tb = w4.heap.size := h; omega)
  have hE12 : Ex (On X.b) w w12 := hE11.trans' hxx (fun i hi h => by have h : i = w4.heap.size := h; omega)
  have N := node_end' hp hp12 hE12 (w.heap.size + 1) 0 (Nat.le_succ _) (.iface 254 (.agg #[.iface 186 (.agg #[.iface t x, .string tx]), .iface 186 (.agg #[.iface 187 (.agg #[.iface t x, .string tx]), .string tx2])]))
  clear hxx hxq hx12 r11 c11 f11 q11 qf11 l11 m11 n11 hp11 hE11 hp12 hE12
  go_wp2
  exact bodyPost_ret (v := .tuple #[.agg #[.iface 254 (.agg #[.iface 186 (.agg #[.iface t x, .string (X.tok k).tx]), .iface 186 (.agg #[.iface 187 (.agg #[.iface t x, .string (X.tok k).tx]), .string (X.tok (X.nx (X.nx k))).tx])])], .nilIface])
    (by rw [HT.out, HT2.out]; simp [results, Tryz.results217, go_sem, c12]) rfl ⟨rfl, N⟩
end Go.Proofs.YtbepocojafbbbaaGreatDoor
