/- The parser of a policy: one that permits, with one condition. -/
import Derived.Test.YtbepocojafbbbaaGreatDoorPf
namespace Go.Proofs.YtbepocojafbbbaaGreatDoor
open Go.RowKit
set_option maxRecDepth 100000

theorem Blk.set10 {w : World} {p : Nat} {e : TypeId} {c0 c1 c2 c3 c4 c5 c6 c7 c8 c9 : Value} (h : Blk w p #[c0, c1, c2, c3, c4, c5, c6, c7, c8, c9] e) (d0 d1 d2 d3 d4 d5 d6 d7 d8 d9 : Value) :
    Blk ((((((((((w.setCell ⟨p, 0, none⟩ d0).setCell ⟨p, 1, none⟩ d1).setCell ⟨p, 2, none⟩ d2).setCell ⟨p, 3, none⟩ d3).setCell ⟨p, 4, none⟩ d4).setCell ⟨p, 5, none⟩ d5).setCell ⟨p, 6, none⟩ d6).setCell ⟨p, 7, none⟩ d7).setCell ⟨p, 8, none⟩ d8).setCell ⟨p, 9, none⟩ d9) p #[d0, d1, d2, d3, d4, d5, d6, d7, d8, d9] e := by
  have h0 := h.set 0 d0
  have h1 := h0.set 1 d1
  have h2 := h1.set 2 d2
  have h3 := h2.set 3 d3
  have h4 := h3.set 4 d4
  have h5 := h4.set 5 d5
  have h6 := h5.set 6 d6
  have h7 := h6.set 7 d7
  have h8 := h7.set 8 d8
  have h9 := h8.set 9 d9
  simpa using h9

/-- The tokens from k on are those of 'permit (principal, action, resource) when {', an expression up to k', '};'. -/
structure Head (X : PX) (k k' : Nat) : Prop where
  t0 : (X.tx k == [112, 101, 114, 109, 105, 116]) = true
  t1 : X.tx (X.nx k) = [40]
  t2 : X.tx (X.nx (X.nx k)) = [112, 114, 105, 110, 99, 105, 112, 97, 108]
  t3 : X.tx (X.nx (X.nx (X.nx k))) = [44]
  t4 : X.tx (X.nx (X.nx (X.nx (X.nx k)))) = [97, 99, 116, 105, 111, 110]
  t5 : X.tx (X.nx (X.nx (X.nx (X.nx (X.nx k))))) = [44]
  t6 : X.tx (X.nx (X.nx (X.nx (X.nx (X.nx (X.nx k)))))) = [114, 101, 115, 111, 117, 114, 99, 101]
  t7 : X.tx (X.nx (X.nx (X.nx (X.nx (X.nx (X.nx (X.nx k))))))) = [41]
  t8 : X.tx (X.nx (X.nx (X.nx (X.nx (X.nx (X.nx (X.nx (X.nx k)))))))) = [119, 104, 101, 110]
  t9 : X.tx (X.nx (X.nx (X.nx (X.nx (X.nx (X.nx (X.nx (X.nx (X.nx k))))))))) = [123]
  u0 : X.tx k' = [125]
  u1 : X.tx (X.nx k') = [59]
def k10 (X : PX) (k : Nat) : Nat := X.nx (X.nx (X.nx (X.nx (X.nx (X.nx (X.nx (X.nx (X.nx (X.nx k)))))))))

set_option maxHeartbeats 2000000 in
theorem fromCedar_ok (X : PX) (k k' : Nat) (t : TypeId) (x : Value) (w : World) (p : Nat) (c0 c1 c2 c3 c4 c5 c6 c7 c8 c9 : Value)
    (hp : PSt X k w) (hq : Blk w p #[c0, c1, c2, c3, c4, c5, c6, c7, c8, c9] 86) (hne : p ≠ X.b) (hh : Head X k k') (h : OKx 157 X (k10 X k) t x k') :
    Calls Tryz.prog 54 #[.pointer (some ⟨p, 0, none⟩), .pointer (some ⟨X.b, 0, none⟩)] w fun e' w' => e' = .returned .nilIface ∧
      ∃ g cap fn o l c, Blk w' p (polCells true (.slice none 0 0) allV allV allV (.slice (some ⟨g, 0, none⟩) 1 cap) fn o l c) 86 ∧
        w'.ownsRow w.heap.size 119 2 (.slice (some ⟨g, 0, none⟩) 1 cap) 1 [.bool true, .iface t x] ∧ Ex (fun i => i = p ∨ i = X.b) w w' := by
  have fP := field_pos
  have H := Lib.hid h
  have HH := Lib.hid hh
  have hbt := hp.hb
  have htt := hp.htb
  have hql := hq.lt
  clear h hh
  go_enter Tryz.func54, Tryz.ntmps54
  go_wp2_with fail
  refine (peek_spec X k _ hp).mono ?_
  rintro e' w1 ⟨rfl, hx1⟩
  rcases ht : X.tok k with ⟨ty, fn, o, l, c, tx⟩
  simp only [TokC.val]
  clear ht
  go_wp2_with fail
  refine (annotations_none X k _ (hp.ex (hx1.alloc _)) (by rw [beq_iff_eq.1 HH.out.t0]; rfl)).mono ?_
  rintro e' w2 ⟨rfl, hx2⟩
  have hx12 := ((Ex.refl No w1).alloc _).trans hx2
  have p2 : Blk w2 w1.heap.size _ _ := (Blk.new w1 #[.string fn, .int .i64 o, .int .i64 l, .int .i64 c] 152).ex hx2 no_
  have hp2 := (hp.ex hx1).ex hx12
  have hE2 := (hx1.trans hx12).of_no (S := On X.b)
  have hs2 := hE2.size
  go_wp2_with fail
  refine (effect_permit X k _ none 0 0 _ (hp2.ex ((Ex.refl _ _).alloc _)) HH.out.t0 (new_cell w2 #[.slice none 0 0] 226 0) (by omega)).mono ?_
  rintro e' w3 ⟨rfl, hp3, hx3, hs3, hB3⟩
  simp at hs3
  have hx23 := ((Ex.refl (On X.b) w2).alloc _).trans hx3
  have hE3 := hE2.trans hx23
  have p3 := p2.ex hx23 (by have := p2.lt; have := hx1.size; unfold On; omega)
  obtain ⟨q, hqe⟩ : ∃ q, q = w3.heap.size - 1 := ⟨_, rfl⟩
  rw [← hqe] at hB3 ⊢
  have hqw : w2.heap.size < q + 1 := by omega
  have hqw' : q < w3.heap.size := by omega
  clear hqe
  have b3 := hB3.cell
  have b3' := hB3.free
  have l3 := p3.cell
  simp only [polCells] at b3
  go_wp2_with fail
  have qb : ¬ On q X.b := by unfold On; omega
  have qt : ¬ On q X.tb := by unfold On; omega
  have hX4 : Ex (On q) w3 ((((w3.setCell ⟨q, 6, none⟩ (.string fn)).setCell ⟨q, 7, none⟩ (.int .i64 o)).setCell ⟨q, 8, none⟩ (.int .i64 l)).setCell ⟨q, 9, none⟩ (.int .i64 c)) :=
    ((((Ex.refl _ _).setCell _ _ (Or.inl (On.self q))).setCell _ _ (Or.inl (On.self q))).setCell _ _ (Or.inl (On.self q))).setCell _ _ (Or.inl (On.self q))
  have hB4 : Blk ((((w3.setCell ⟨q, 6, none⟩ (.string fn)).setCell ⟨q, 7, none⟩ (.int .i64 o)).setCell ⟨q, 8, none⟩ (.int .i64 l)).setCell ⟨q, 9, none⟩ (.int .i64 c)) q (polCells true (.slice none 0 0) allV allV allV (.slice none 0 0) fn o l c) 109 :=
    (((hB3.set 6 (.string fn)).set 7 (.int .i64 o)).set 8 (.int .i64 l)).set 9 (.int .i64 c)
  have hp4 := hp3.ex' hX4 qb qt
  generalize ((((w3.setCell ⟨q, 6, none⟩ (.string fn)).setCell ⟨q, 7, none⟩ (.int .i64 o)).setCell ⟨q, 8, none⟩ (.int .i64 l)).setCell ⟨q, 9, none⟩ (.int .i64 c)) = W4 at hX4 hB4 hp4 ⊢
  clear b3 b3' l3
  refine (exact_ok X _ _ _ hp4 (by show X.tx _ = _; rw [HH.out.t1]; simp [go_sem])).mono ?_
  rintro e' w5 ⟨rfl, hp5, hx5⟩
  go_wp2_with fail
  refine (principal_none X _ q _ hp5 HH.out.t2 (by rw [HH.out.t3]; rfl) (by rw [HH.out.t3]; rfl) (by rw [HH.out.t3]; rfl)).mono ?_
  rintro e' w6 ⟨rfl, hp6, hx6⟩
  go_wp2_with fail
  refine (exact_ok X _ _ _ hp6 (by show X.tx _ = _; rw [HH.out.t3]; simp [go_sem])).mono ?_
  rintro e' w7 ⟨rfl, hp7, hx7⟩
  go_wp2_with fail
  refine (action_none X _ q _ hp7 HH.out.t4 (by rw [HH.out.t5]; rfl) (by rw [HH.out.t5]; rfl)).mono ?_
  rintro e' w8 ⟨rfl, hp8, hx8⟩
  go_wp2_with fail
  refine (exact_ok X _ _ _ hp8 (by show X.tx _ = _; rw [HH.out.t5]; simp [go_sem])).mono ?_
  rintro e' w9 ⟨rfl, hp9, hx9⟩
  go_wp2_with fail
  refine (resource_none X _ q _ hp9 HH.out.t6 (by rw [HH.out.t7]; rfl) (by rw [HH.out.t7]; rfl) (by rw [HH.out.t7]; rfl)).mono ?_
  rintro e' w10 ⟨rfl, hp10, hx10⟩
  go_wp2_with fail
  refine (skip_no X _ _ _ hp10 (by show X.tx _ ≠ _; rw [HH.out.t7]; simp [go_sem])).mono ?_
  rintro e' w11 ⟨rfl, hx11⟩
  go_wp2_with fail
  refine (exact_ok X _ _ _ (hp10.ex hx11) (by show X.tx _ = _; rw [HH.out.t7]; simp [go_sem])).mono ?_
  rintro e' w12 ⟨rfl, hp12, hx12'⟩
  have hE12 := ((((((hx5.trans hx6).trans hx7).trans hx8).trans hx9).trans hx10).no hx11).trans hx12'
  have hqX : ¬ On X.b q := by unfold On; omega
  have hB12 := hB4.ex hE12 hqX
  go_wp2_with fail
  refine (conditions_one X _ k' t x _ q _ _ _ _ _ _ _ _ _ hp12 hB12 (by omega) (by omega) (by rw [HH.out.t8]; rfl) HH.out.t9 HH.out.u0 (by rw [HH.out.u1]; rfl) (by rw [HH.out.u1]; rfl) H.out).mono ?_
  rintro e' w13 ⟨rfl, hp13, g, cap, hB13, hO13, hx13⟩
  go_wp2_with fail
  refine (exact_ok X _ _ _ hp13 (by show X.tx _ = _; rw [HH.out.u1]; simp [go_sem])).mono ?_
  rintro e' w14 ⟨rfl, hp14, hx14⟩
  have hB14 := hB13.ex hx14 hqX
  have E1 : Ex (On X.b) w w3 := hE3
  have E2 : Ex (fun i => i = q ∨ i = X.b) w3 w14 :=
    (((hX4.mono (fun i h => Or.inl h)).trans (hE12.mono (fun i h => Or.inr h))).trans hx13).trans (hx14.mono (fun i h => Or.inr h))
  have EE : Ex (On X.b) w w14 := E1.trans' E2 (fun i hi h => by rcases h with h | h; omega; exact h)
  have hq14 := hq.ex EE hne
  have b14 := hB14.cell
  have p14 := hq14.cell
  have f14 := hq14.free
  have l14 := hq14.lt
  have m14 := hB14.lt
  have s12 := hE12.size
  have s4 := hX4.size
  have hO14 : w14.ownsRow w.heap.size 119 2 (.slice (some ⟨g, 0, none⟩) 1 cap) 1 [.bool true, .iface t x] := by
    obtain ⟨hl, hr⟩ := hO13
    rcases hr with ⟨h, _⟩ | ⟨g', cap', cur, hv, hb, hg, r⟩
    · cases h
    · refine ⟨hl, Or.inr ⟨g', cap', cur, hv, by omega, ?_, r⟩⟩
      rw [hx14.block g' (by rcases Nat.lt_or_ge g' w13.heap.size with hh | hh; exact hh; rw [Array.getElem?_eq_none hh] at hg; cases hg) (by unfold On; omega)]
      exact hg
  have HO14 := Lib.hid hO14
  have HEE := Lib.hid EE
  have HQ := Lib.hid hq14
  clear hO14 EE E1 E2 hq14 hO13 hB14 hB13 hB12 hB4 hB3
  simp only [allV] at b14
  go_wp2
  go_ret
  refine ⟨rfl, g, cap, fn, o, l, c, ?_, ?_, ?_⟩
  · exact Blk.set10 HQ.out _ _ _ _ _ _ _ _ _ _
  · repeat (with_reducible first | exact HO14.out | refine ownsRow_setCell_below ?_ (by exact hql) _)
  · have h0 : Ex (fun i => i = p ∨ i = X.b) w w14 := HEE.out.mono (fun i h => Or.inr h)
    have hP : (fun i => i = p ∨ i = X.b) p := Or.inl rfl
    exact (((((((((h0.setCell _ _ (Or.inl hP)).setCell _ _ (Or.inl hP)).setCell _ _ (Or.inl hP)).setCell _ _ (Or.inl hP)).setCell _ _ (Or.inl hP)).setCell _ _ (Or.inl hP)).setCell _ _ (Or.inl hP)).setCell _ _ (Or.inl hP)).setCell _ _ (Or.inl hP)).setCell _ _ (Or.inl hP)
end Go.Proofs.YtbepocojafbbbaaGreatDoor
