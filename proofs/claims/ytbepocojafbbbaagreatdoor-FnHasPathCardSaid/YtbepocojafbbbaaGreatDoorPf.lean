/- The parser of a policy: a condition is appended. -/
import Derived.Test.YtbepocojafbbbaaGreatDoorPe
import Derived.Deep.RegionLaw
import Derived.Deep.AppendLies
namespace Go.Proofs.YtbepocojafbbbaaGreatDoor
open Go.RowKit
set_option maxRecDepth 100000
theorem Tryz.info119 : (Tryz.prog.info? 119).map (fun i => (i.zero, i.size, i.bytes)) = some (some (.agg #[.bool false, .nilIface]), 2, 24) := by kernel_rfl

theorem news_at (w : World) (c : List Value) (e : TypeId) (n : Nat) (hn : n = w.heap.size) :
    ∀ j u, c[j]? = some u → (w.alloc (.cells c.toArray e)).cell? ((⟨n, 0, none⟩ : Addr).add j) = some u := by
  intro j u hj
  subst hn
  have e : (⟨w.heap.size, 0, none⟩ : Addr).add j = ⟨w.heap.size, j, none⟩ := by unfold Addr.add; split <;> simp_all
  rw [e, new_cell]
  simpa using hj

theorem own_ne {w : World} {base : Nat} {e : TypeId} {s n : Nat} {v : Value} {xs : List Value} (h : w.ownsRow base e s v n xs) {q : Nat} (hq : q < base) : v.ownBlock ≠ some q := by
  rcases h.2 with ⟨rfl, _⟩ | ⟨g, cap, cur, rfl, hb, _⟩
  · simp [Value.ownBlock]
  · simp [Value.ownBlock]; omega
theorem own_from {w : World} {base : Nat} {e : TypeId} {s n : Nat} {v : Value} {xs : List Value} (h : w.ownsRow base e s v n xs) {q : Nat} (hq : some q = v.ownBlock) : base ≤ q := by
  rcases h.2 with ⟨rfl, _⟩ | ⟨g, cap, cur, rfl, hb, _⟩
  · simp [Value.ownBlock] at hq
  · simp [Value.ownBlock] at hq; omega
theorem Blk.grown {w w' : World} {b : Nat} {c : Array Value} {e : TypeId} {r : Option Nat} (h : Blk w b c e) (hg : w.grownBy w' r) (hn : r ≠ some b) : Blk w' b c e :=
  (hg.block b h.lt (fun e => hn e.symm)).trans h
theorem Ex.grown {S : Nat → Prop} {a w w' : World} {r : Option Nat} (h : Ex S a w) (hg : w.grownBy w' r) (hr : ∀ k, some k = r → k < a.heap.size → S k) : Ex S a w' :=
  ⟨hg.os.trans h.os, hg.tape.trans h.tape, hg.output.trans h.output, Nat.le_trans h.size hg.size, fun k hk hn =>
    (hg.block k (Nat.lt_of_lt_of_le hk h.size) (fun e => hn (hr k e hk))).trans (h.block k hk hn)⟩

theorem when_spec (q : Nat) (t : TypeId) (x : Value) (w : World) (a b c d e : Value) (fn : ByteArray) (o l cc : Int) (base n : Nat) (ao : Option Addr) (cap : Nat) (xs : List Value)
    (hq : Blk w q #[a, b, c, d, e, .slice ao n cap, .string fn, .int .i64 o, .int .i64 l, .int .i64 cc] 109)
    (hown : w.ownsRow base 119 2 (.slice ao n cap) n xs) (hb : base ≤ w.heap.size) (hn : n ≤ 1000000) (hqb : q < base) :
    Calls Tryz.prog 120 #[.pointer (some ⟨q, 0, none⟩), .agg #[.iface t x]] w fun e' w' => e' = .returned (.pointer (some ⟨q, 0, none⟩)) ∧
      ∃ g cap', Blk w' q #[a, b, c, d, e, .slice (some ⟨g, 0, none⟩) (n + 1) cap', .string fn, .int .i64 o, .int .i64 l, .int .i64 cc] 109 ∧
       w'.ownsRow base 119 2 (.slice (some ⟨g, 0, none⟩) (n + 1) cap') (n + 1) (xs ++ [.bool true, .iface t x]) ∧ Ex (fun k => k = q ∨ base ≤ k) w w' := by
  obtain ⟨i0, hi, hz0, hz1, hz2⟩ := info_parts Tryz.info119
  have hc := hq.cell
  have hf := hq.free
  have hl := hq.lt
  have HO := Lib.hid hown
  have HN := Lib.hid (own_ne hown hqb)
  clear hown
  go_enter Tryz.func120, Tryz.ntmps120
  go_wp2_with fail
  go_region_law (refine step_append_lies _ rfl (.tmp 9) (.tmp 13) 82 rfl base 119 i0 (.agg #[.bool false, .nilIface]) 2 24 Tryz.underlying82 hi hz0 hz1 hz2 rfl (by decide) (.slice ao n cap) n xs (by simp [Act.eval]) ((HO.out.alloc _).alloc _) ⟨w.heap.size + 1, 0, none⟩ 1 1 [.bool true, .iface t x] (by simp [Act.eval]) rfl (news_at (w.alloc _) [.bool true, .iface t x] 119 _ (by simp)) (by intro u hu; simp at hu; rcases hu with rfl | rfl <;> rfl) (by decide) (by unfold maxLen; omega) (by omega) (by simp; omega) _ rfl ?_; intro g cap' w' ho' hg' hgo hlt'; have hq' := Blk.grown (((hq.ex ((Ex.refl No _).alloc _) no_).ex ((Ex.refl No _).alloc _) no_).ex (Ex.refl No _).drew no_) hg' HN.out; have hc' := hq'.cell; have hf' := hq'.free; have hl' := hq'.lt)
  go_wp2
  all_goals
    go_ret
    refine ⟨rfl, g, cap', hq'.set 5 _, ownsRow_setCell_below ho' (a := ⟨q, 5, none⟩) hqb _, ?_⟩
    refine Ex.setCell ?_ _ _ (Or.inl (Or.inl rfl))
    refine Ex.grown ?_ hg' (fun k hk _ => Or.inr (own_from HO.out hk))
    exact (((Ex.refl _ _).alloc _).alloc _).drew

/-- One condition, 'when', and none behind it. -/
theorem conditions_one (X : PX) (k k' : Nat) (t : TypeId) (x : Value) (w : World) (q : Nat) (a b c d e : Value) (fn : ByteArray) (o l cc : Int)
    (hp : PSt X k w) (hq : Blk w q #[a, b, c, d, e, .slice none 0 0, .string fn, .int .i64 o, .int .i64 l, .int .i64 cc] 109) (hne : q ≠ X.b) (hne2 : q ≠ X.tb)
    (h1 : (X.tx k == [119, 104, 101, 110]) = true) (h2 : X.tx (X.nx k) = [123]) (h3 : X.tx k' = [125]) (h4 : (X.tx (X.nx k') == [119, 104, 101, 110]) = false) (h5 : (X.tx (X.nx k') == [117, 110, 108, 101, 115, 115]) = false)
    (h : OKx 157 X (X.nx (X.nx k)) t x k') :
    Calls Tryz.prog 88 #[.pointer (some ⟨X.b, 0, none⟩), .pointer (some ⟨q, 0, none⟩)] w fun e' w' => e' = .returned .nilIface ∧ PSt X (X.nx k') w' ∧
      ∃ g cap, Blk w' q #[a, b, c, d, e, .slice (some ⟨g, 0, none⟩) 1 cap, .string fn, .int .i64 o, .int .i64 l, .int .i64 cc] 109 ∧
        w'.ownsRow w.heap.size 119 2 (.slice (some ⟨g, 0, none⟩) 1 cap) 1 [.bool true, .iface t x] ∧ Ex (fun i => i = q ∨ i = X.b) w w' := by
  have fT := field_text
  have H := Lib.hid h
  have h2' := Lib.hid h2
  have h3' := Lib.hid h3
  have hbt := hp.hb
  have htt := hp.htb
  have hql := hq.lt
  clear h h2 h3
  go_enter Tryz.func88, Tryz.ntmps88
  go_wp2_with fail
  refine wp_loop_rounds 2 ?_
  rw [rounds_succ]
  go_wp2_with fail
  refine (peek_spec X k _ hp).mono ?_
  rintro e' w1 ⟨rfl, hx1⟩
  rcases ht : X.tok k with ⟨ty, fn', o', l', c', tx⟩
  simp only [PX.tx, ht] at h1
  simp only [TokC.val]
  clear ht
  go_wp2_with fail
  refine (advance_spec X k _ (hp.ex hx1)).mono ?_
  rintro e' w2 ⟨rfl, hp2, hx2⟩
  go_wp2_with fail
  refine (condition_spec X (X.nx k) k' t x _ hp2 h2'.out h3'.out H.out).mono ?_
  rintro e' w3 ⟨rfl, hp3, hx3⟩
  have hE3 := (hx1.of_no.trans hx2).trans hx3
  have hq3 := hq.ex hE3 hne
  have hs3 := hE3.size
  go_wp2_with fail
  refine (when_spec q t x _ a b c d e fn o l cc w.heap.size 0 none 0 [] (hq3.ex ((Ex.refl _ _).alloc _) no_) (World.ownsRow_nil _ _ _ _) (by simp; omega) (by omega) hql).mono ?_
  rintro e' w4 ⟨rfl, g, cap, hq4, ho4, hx4⟩
  have hx34 : Ex (fun k => k = q ∨ w.heap.size ≤ k) w3 w4 := ((Ex.refl _ _).alloc _).trans hx4
  have hp4 := hp3.ex' hx34 (by rintro (h | h); exact hne h.symm; omega) (by rintro (h | h); exact hne2 h.symm; omega)
  go_wp2_with fail
  rw [rounds_succ]
  go_wp2_with fail
  refine (peek_spec X (X.nx k') _ hp4).mono ?_
  rintro e' w5 ⟨rfl, hx5⟩
  rcases ht : X.tok (X.nx k') with ⟨ty2, fn2, o2, l2, c2, tx2⟩
  simp only [PX.tx, ht] at h4 h5
  simp only [TokC.val]
  clear ht
  go_wp2
  go_ret
  refine ⟨rfl, hp4.ex hx5, g, cap, hq4.ex hx5 no_, ?_, ?_⟩
  · obtain ⟨hl, hr⟩ := ho4
    rcases hr with ⟨h, _⟩ | ⟨g', cap', cur, hv, hb, hg, r⟩
    · cases h
    · refine ⟨hl, Or.inr ⟨g', cap', cur, hv, hb, ?_, r⟩⟩
      rw [hx5.block g' (by rcases Nat.lt_or_ge g' w4.heap.size with hh | hh; exact hh; rw [Array.getElem?_eq_none hh] at hg; cases hg) no_]
      exact hg
  · exact ((hE3.mono (fun i hi => Or.inr hi)).trans' hx34 (fun i hi h => by rcases h with h | h; exact Or.inl h; omega)).no hx5
end Go.Proofs.YtbepocojafbbbaaGreatDoor
