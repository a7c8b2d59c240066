/- Expressions as plain data: how they lie in memory; 'many'. -/
import Derived.Test.YtbepocojafbbbaaGreatDoorPf
import Derived.Deep.AppendLies
namespace Go.Proofs.YtbepocojafbbbaaGreatDoor
open Go.RowKit
set_option maxRecDepth 100000

theorem own_ex {S : Nat → Prop} {w w' : World} {base : Nat} {e : TypeId} {s n : Nat} {v : Value} {xs : List Value} (h : w.ownsRow base e s v n xs) (hx : Ex S w w') (hn : ∀ b, v.ownBlock = some b → ¬ S b) :
    w'.ownsRow base e s v n xs := by
  obtain ⟨hl, hr⟩ := h
  rcases hr with h | ⟨g, cap, cur, hv, hb, hg, r⟩
  · exact ⟨hl, Or.inl h⟩
  · refine ⟨hl, Or.inr ⟨g, cap, cur, hv, hb, ?_, r⟩⟩
    rw [hx.block g (by rcases Nat.lt_or_ge g w.heap.size with hh | hh; exact hh; rw [Array.getElem?_eq_none hh] at hg; cases hg) (hn g (by rw [hv]; rfl))]
    exact hg
theorem news_lit (w : World) (c : Array Value) (e : TypeId) (n : Nat) (hn : n = w.heap.size) :
    ∀ j u, c.toList[j]? = some u → (w.alloc (.cells c e)).cell? ((⟨n, 0, none⟩ : Addr).add j) = some u := by
  intro j u hj
  subst hn
  have e : (⟨w.heap.size, 0, none⟩ : Addr).add j = ⟨w.heap.size, j, none⟩ := by unfold Addr.add; split <;> simp_all
  rw [e, new_cell]
  simpa using hj

/-- A tree: an operation, a name, operands. -/
inductive E where
  | mk (op : Int) (s : ByteArray) (l : List E)
instance : Inhabited E := ⟨.mk 0 ByteArray.empty []⟩
def E.op : E → Int | .mk op _ _ => op
def E.s : E → ByteArray | .mk _ s _ => s
def E.l : E → List E | .mk _ _ l => l

def xc (op : Int) (s : ByteArray) (A : Option Addr) (n c : Nat) : Array Value :=
  #[.int .i64 op, .string s, .int .i64 0, .int .i64 0, .string ⟨#[]⟩, .string ⟨#[]⟩, .slice none 0 0, .slice none 0 0, .slice none 0 0, .slice none 0 0, .slice A n c]

inductive ER (w : World) (F : Nat → Prop) : E → Option Addr → Nat → Nat → Prop
  | mk (op : Int) (s : ByteArray) (l : List E) (A : Option Addr) (n c g : Nat) (sub : Nat → Option Addr × Nat × Nat) (hn : n = l.length)
    (hA : 0 < n → A = some ⟨g, 0, none⟩) (hF : 0 < n → F g)
    (hc : ∀ j, j < l.length → ∀ i, i < 11 → w.cell? ⟨g, j * 11 + i, none⟩ = (xc (l.getD j default).op (l.getD j default).s (sub j).1 (sub j).2.1 (sub j).2.2)[i]?)
    (hr : ∀ j, j < l.length → ER w F (l.getD j default) (sub j).1 (sub j).2.1 (sub j).2.2) : ER w F (.mk op s l) A n c

theorem ER.keep {w w' : World} {F F' S : Nat → Prop} {e : E} {A : Option Addr} {n c : Nat} (h : ER w F e A n c) (hx : Ex S w w') (hF : ∀ b, F b → ¬ S b) (hF' : ∀ b, b < w.heap.size → F b → F' b) : ER w' F' e A n c := by
  induction h with
  | mk op s l A n c g sub hn hA hFg hc hr ih =>
    have hg : 0 < n → g < w.heap.size := fun h => by
      have := hc 0 (by omega) 0 (by omega)
      exact some_lt (a := ⟨g, 0 * 11 + 0, none⟩) this
    refine .mk op s l A n c g sub hn hA (fun h => hF' g (hg h) (hFg h)) (fun j hj i hi => ?_) ih
    rw [hx.cell (p := ⟨g, j * 11 + i, none⟩) (hg (by omega)) (hF g (hFg (by omega)))]
    exact hc j hj i hi

/-- What 'plainExpr' answers. -/
def PE (e : E) (w : World) (e' : Ending) (w' : World) : Prop :=
  ∃ A n c, e' = .returned (.tuple #[.agg (xc e.op e.s A n c), .bool true]) ∧ ER w' (From w.heap.size) e A n c ∧ Ex No w w'

theorem Tryz.info30 : (Tryz.prog.info? 30).map (fun i => (i.zero, i.size, i.bytes)) = some (some (.agg (xc 0 ⟨#[]⟩ none 0 0)), 11, 192) := by kernel_rfl

abbrev Sub := Nat → Option Addr × Nat × Nat
def rowsOf (es : List E) (sub : Sub) (k : Nat) : List Value :=
  (List.range k).flatMap fun j => (xc (es.getD j default).op (es.getD j default).s (sub j).1 (sub j).2.1 (sub j).2.2).toList
theorem rowsOf_length (es : List E) (sub : Sub) (k : Nat) : (rowsOf es sub k).length = k * 11 := by
  induction k with
  | zero => rfl
  | succ k ih =>
    have e : rowsOf es sub (k + 1) = rowsOf es sub k ++ (xc (es.getD k default).op (es.getD k default).s (sub k).1 (sub k).2.1 (sub k).2.2).toList := by
      simp [rowsOf, List.range_succ, List.flatMap_append]
    rw [e, List.length_append, ih]
    simp [xc]; omega
theorem rowsOf_succ (es : List E) (sub : Sub) (k : Nat) : rowsOf es sub (k + 1) = rowsOf es sub k ++ (xc (es.getD k default).op (es.getD k default).s (sub k).1 (sub k).2.1 (sub k).2.2).toList := by
  simp [rowsOf, List.range_succ, List.flatMap_append]
theorem rowsOf_congr (es : List E) (sub sub' : Sub) (k : Nat) (h : ∀ j, j < k → sub j = sub' j) : rowsOf es sub k = rowsOf es sub' k := by
  induction k with
  | zero => rfl
  | succ k ih => rw [rowsOf_succ, rowsOf_succ, ih (fun j hj => h j (by omega)), h k (by omega)]
theorem rowsOf_at (es : List E) (sub : Sub) (k j i : Nat) (hj : j < k) (hi : i < 11) :
    (rowsOf es sub k)[j * 11 + i]? = (xc (es.getD j default).op (es.getD j default).s (sub j).1 (sub j).2.1 (sub j).2.2)[i]? := by
  induction k with
  | zero => omega
  | succ k ih =>
    rw [rowsOf_succ]
    by_cases h : j < k
    · rw [List.getElem?_append_left (by rw [rowsOf_length]; omega)]; exact ih h
    · have : j = k := by omega
      subst this
      rw [List.getElem?_append_right (by rw [rowsOf_length]; omega), rowsOf_length]
      have : j * 11 + i - j * 11 = i := by omega
      rw [this]; simp

/-- 'many', behind k rounds. -/
def MI (op : Int) (s : ByteArray) (es : List E) (w : World) (k : Nat) (wr : World) : Prop :=
  ∃ A c, ∃ sub : Sub, Blk wr (w.heap.size + 1) (xc op s A k c) 30 ∧ Blk wr w.heap.size (xc 0 ⟨#[]⟩ none 0 0) 30 ∧ wr.ownsRow (w.heap.size + 2) 30 11 (.slice A k c) k (rowsOf es sub k) ∧
    (∀ j, j < k → ER wr (fun b => w.heap.size + 2 ≤ b ∧ (Value.slice A k c).ownBlock ≠ some b) (es.getD j default) (sub j).1 (sub j).2.1 (sub j).2.2) ∧ Ex No w wr

theorem MI.start (op : Int) (s : ByteArray) (es : List E) (w : World) : MI op s es w 0 ((w.alloc (.cells (xc 0 ⟨#[]⟩ none 0 0) 30)).alloc (.cells (xc op s none 0 0) 30)) := by
  refine ⟨none, 0, fun _ => (none, 0, 0), ?_, ?_, World.ownsRow_nil _ _ _ _, fun j hj => by omega, ((Ex.refl _ _).alloc _).alloc _⟩
  · have := Blk.new (w.alloc (.cells (xc 0 ⟨#[]⟩ none 0 0) 30)) (xc op s none 0 0) 30
    simpa using this
  · exact (Blk.new w _ _).ex ((Ex.refl No _).alloc _) no_

/-- A round: the next operand has been read, and appended. -/
theorem MI.step {op : Int} {s : ByteArray} {es : List E} {w wr w1 w' : World} {k : Nat} {A A1 : Option Addr} {c n1 c1 : Nat} {sub : Sub}
    (hX : Blk wr (w.heap.size + 1) (xc op s A k c) 30) (hR : Blk wr w.heap.size (xc 0 ⟨#[]⟩ none 0 0) 30) (hO : wr.ownsRow (w.heap.size + 2) 30 11 (.slice A k c) k (rowsOf es sub k))
    (hK : ∀ j, j < k → ER wr (fun b => w.heap.size + 2 ≤ b ∧ (Value.slice A k c).ownBlock ≠ some b) (es.getD j default) (sub j).1 (sub j).2.1 (sub j).2.2)
    (hE : Ex No w wr) (h1 : ER w1 (From wr.heap.size) (es.getD k default) A1 n1 c1) (hx1 : Ex No wr w1)
    {W : World} (hW : Ex No w1 W) {g' cap' : Nat}
    (ho' : w'.ownsRow (w.heap.size + 2) 30 11 (.slice (some ⟨g', 0, none⟩) (k + 1) cap') (k + 1) (rowsOf es sub k ++ (xc (es.getD k default).op (es.getD k default).s A1 n1 c1).toList))
    (hg' : W.grownBy w' (Value.slice A k c).ownBlock) (hgo : (Value.slice A k c).ownBlock = some g' ∨ g' = W.heap.size) :
    MI op s es w (k + 1) (w'.setCell ⟨w.heap.size + 1, 10, none⟩ (.slice (some ⟨g', 0, none⟩) (k + 1) cap')) := by
  have hxW := hx1.trans hW
  have n1' := own_ne hO (q := w.heap.size + 1) (by omega)
  have n0' := own_ne hO (q := w.heap.size) (by omega)
  have own_lt : ∀ b, (Value.slice A k c).ownBlock = some b → b < wr.heap.size := by
    intro b hb
    rcases hO.2 with ⟨h, _⟩ | ⟨g, cap, cur, hv, _, hg, _⟩
    · rw [h] at hb; simp [Value.ownBlock] at hb
    · rw [hv] at hb; simp [Value.ownBlock] at hb
      subst hb
      rcases Nat.lt_or_ge g wr.heap.size with hh | hh
      · exact hh
      · rw [Array.getElem?_eq_none hh] at hg; cases hg
  have hgrow : Ex (fun b => (Value.slice A k c).ownBlock = some b) W w' := (Ex.refl _ _).grown hg' (fun b hb _ => hb.symm)
  have hset : ∀ {S : Nat → Prop}, S (w.heap.size + 1) → ∀ v, Ex S w' (w'.setCell ⟨w.heap.size + 1, 10, none⟩ v) := fun hS v => (Ex.refl _ _).setCell _ _ (Or.inl hS)
  refine ⟨some ⟨g', 0, none⟩, cap', fun j => if j = k then (A1, n1, c1) else sub j, ?_, ?_, ?_, ?_, ?_⟩
  · exact (Blk.grown (hX.ex hxW no_) hg' n1').set 10 _
  · exact (Blk.grown (hR.ex hxW no_) hg' n0').set_other _ _ (by simp)
  · have e : rowsOf es (fun j => if j = k then (A1, n1, c1) else sub j) (k + 1) = rowsOf es sub k ++ (xc (es.getD k default).op (es.getD k default).s A1 n1 c1).toList := by
      rw [rowsOf_succ, rowsOf_congr es _ sub k (fun j hj => by simp; omega)]
      simp
    rw [e]
    exact ownsRow_setCell_below ho' (by simp) _
  · intro j hj
    have hfin : ∀ {F : Nat → Prop} {e : E} {B : Option Addr} {n c' : Nat}, ER w' F e B n c' → (∀ b, F b → b ≠ w.heap.size + 1) → ER (w'.setCell ⟨w.heap.size + 1, 10, none⟩ (.slice (some ⟨g', 0, none⟩) (k + 1) cap')) F e B n c' :=
      fun h hne => h.keep (S := On (w.heap.size + 1)) (hset (On.self _) _) (fun b hb => hne b hb) (fun b _ hb => hb)
    by_cases hjk : j = k
    · subst hjk
      simp only [if_true]
      have a1 := h1.keep (F' := fun b => wr.heap.size ≤ b ∧ b < W.heap.size) hW (fun _ _ => no_) (fun b hb h => ⟨h, Nat.lt_of_lt_of_le hb hW.size⟩)
      have a2 := a1.keep (F' := fun b => w.heap.size + 2 ≤ b ∧ (Value.slice (some ⟨g', 0, none⟩) (j + 1) cap').ownBlock ≠ some b) hgrow (fun b hb h => by have := own_lt b h; omega) (fun b _ hb => by
        have hl := hX.lt
        refine ⟨by omega, fun h => ?_⟩
        simp [Value.ownBlock] at h
        subst h
        rcases hgo with hgo | hgo
        · have := own_lt _ hgo; omega
        · omega)
      exact hfin a2 (fun b hb => by omega)
    · have hj' : j < k := by omega
      simp only [if_neg hjk]
      have a1 := (hK j hj').keep (F' := fun b => (w.heap.size + 2 ≤ b ∧ (Value.slice A k c).ownBlock ≠ some b) ∧ b < W.heap.size) hxW (fun _ _ => no_) (fun b hb h => ⟨h, Nat.lt_of_lt_of_le hb hxW.size⟩)
      have a2 := a1.keep (F' := fun b => w.heap.size + 2 ≤ b ∧ (Value.slice (some ⟨g', 0, none⟩) (k + 1) cap').ownBlock ≠ some b) hgrow (fun b hb h => hb.1.2 h) (fun b _ hb => by
        refine ⟨hb.1.1, fun h => ?_⟩
        simp [Value.ownBlock] at h
        subst h
        rcases hgo with hgo | hgo
        · exact hb.1.2 hgo
        · omega)
      exact hfin a2 (fun b hb => by omega)
  · refine Ex.setCell ?_ _ _ (Or.inr (by simp))
    exact (hE.trans hxW).grown hg' (fun b hb hl => by have := own_from hO hb; omega)

/-- At the end. -/
theorem MI.done {op : Int} {s : ByteArray} {es : List E} {w wr : World} (h : MI op s es w es.length wr) :
    ∃ A c, Blk wr (w.heap.size + 1) (xc op s A es.length c) 30 ∧ Blk wr w.heap.size (xc 0 ⟨#[]⟩ none 0 0) 30 ∧ ER wr (From (w.heap.size + 2)) (.mk op s es) A es.length c ∧ Ex No w wr := by
  obtain ⟨A, c, sub, hX, hR, hO, hK, hE⟩ := h
  refine ⟨A, c, hX, hR, ?_, hE⟩
  rcases hO.2 with ⟨h, h0⟩ | ⟨g, cap, cur, hv, hb, hg, hnc, hcm, hsz, htk⟩
  · refine .mk op s es A _ c 0 sub rfl (by omega) (by omega) (fun j hj => by omega) (fun j hj => by omega)
  · have hA : A = some ⟨g, 0, none⟩ := by injection hv
    refine .mk op s es A _ c g sub rfl (fun _ => hA) (fun _ => hb) (fun j hj i hi => ?_) (fun j hj => ?_)
    · rw [← rowsOf_at es sub es.length j i hj hi, ← htk]
      have hlt : j * 11 + i < es.length * 11 := by omega
      rw [List.getElem?_take_of_lt hlt]
      simp [World.cell?, hg]
    · exact (hK j hj).keep (Ex.refl No _) (fun _ _ => no_) (fun b _ h => h.1)

theorem many_spec (op : Int) (s : ByteArray) (es : List E) (nds : List Value) (g c : Nat) (w : World) (hlen : nds.length = es.length) (hbig : es.length ≤ 1000000)
    (hc : ∀ j, j < es.length → w.cell? ⟨g, j, none⟩ = some (nds.getD j undef)) (hkind : ∀ j, j < es.length → ∃ t x, nds.getD j undef = .iface t x)
    (hkid : ∀ j, j < es.length → ∀ W, Ex No w W → Calls Tryz.prog 46 #[nds.getD j undef] W (PE (es.getD j default) W)) :
    Calls Tryz.prog 62 #[.int .i64 op, .string s, .slice (some ⟨g, 0, none⟩) es.length c] w (PE (.mk op s es) w) := by
  obtain ⟨i0, hi, hz0, hz1, hz2⟩ := info_parts Tryz.info30
  have HC := Lib.hid hc
  have HK := Lib.hid hkind
  have HS := Lib.hid hkid
  have HL := Lib.hid hlen
  clear hc hkind hkid hlen
  go_enter Tryz.func62, Tryz.ntmps62
  go_wp2
  go_loopw [18] (fun i wr => ∃ k : Nat, k ≤ es.length ∧ i = .int .i64 k ∧ MI op s es w k wr) (fun i _ => es.length - (intOf i).toNat)
  case atStart => exact ⟨0, Nat.zero_le _, rfl, MI.start op s es w⟩
  case round =>
    obtain ⟨k, hk, rfl, hM⟩ := hrel
    by_cases hlt : k < es.length
    · obtain ⟨A, c', sub, hX, hR, hO, hKi, hE⟩ := hM
      obtain ⟨t, x, htx⟩ := HK.out k hlt
      have hcell : wr.cell? ⟨g, k, none⟩ = some (.iface t x) := by rw [← htx]; exact hE.got (HC.out k hlt) no_
      have HO := Lib.hid hO
      have HKi := Lib.hid hKi
      have Htx := Lib.hid htx
      clear hO hKi htx
      go_wp2_with fail
      have hcall := HS.out k hlt wr hE
      rw [Htx.out] at hcall
      refine hcall.mono ?_
      rintro e' w1 ⟨A1, n1, c1, rfl, hER1, hx1⟩
      clear hcall
      have hx := hX.ex hx1 no_
      have xc1 := hx.cell
      have xf1 := hx.free
      have xl1 := hx.lt
      simp only [xc] at xc1
      obtain ⟨op1, hop1⟩ : ∃ o, o = (es.getD k default).op := ⟨_, rfl⟩
      obtain ⟨s1, hs1⟩ : ∃ o, o = (es.getD k default).s := ⟨_, rfl⟩
      rw [← hop1, ← hs1]
      have HOP := Lib.hid hop1
      have HS1 := Lib.hid hs1
      clear hop1 hs1
      simp only [xc]
      go_wp2_with (at_builtin; refine wpList_append_lies _ rfl (.tmp 31) (.tmp 33) 28 rfl (w.heap.size + 2) 30 i0 (.agg (xc 0 ⟨#[]⟩ none 0 0)) 11 192 Tryz.underlying28 hi hz0 hz1 hz2 rfl (by decide) (.slice A k c') k (rowsOf es sub k) rfl ?ho ⟨w1.heap.size + 1, 0, none⟩ 1 1 (xc op1 s1 A1 n1 c1).toList rfl rfl ?hn ?h1 (by decide) (by unfold maxLen; omega) (by omega) ?hb _ rfl ?_)
      case ho => exact own_ex HO.out (((hx1.alloc _).alloc _)) (fun _ _ => no_)
      case hn => exact news_lit (w1.alloc _) (xc op1 s1 A1 n1 c1) 30 _ (by simp)
      case h1 => intro u hu; simp [xc] at hu; rcases hu with rfl | rfl | rfl | rfl | rfl | rfl | rfl | rfl | rfl | rfl | rfl <;> rfl
      case hb => simp; omega
      intro g' cap' w' ho' hg' hgo hlt'
      have hM' := MI.step hX hR HO.out HKi.out hE hER1 hx1 (((Ex.refl No w1).alloc _).alloc _) (by rw [← HOP.out, ← HS1.out]; exact ho') hg' (by simpa using hgo)
      have HM := Lib.hid hM'
      have hx' := Blk.grown (hx.ex (((Ex.refl No w1).alloc _).alloc _) no_) hg' (own_ne HO.out (by omega))
      have xc2 := hx'.cell
      have xf2 := hx'.free
      have xl2 := hx'.lt
      simp only [xc] at xc2
      clear hM' xc1 xf1 ho' hg' hgo
      go_wp2
      go_roundw
      case rel => exact ⟨k + 1, by omega, by go_num, HM.out⟩
      case measure => simp [intOf]; omega
    · have hk' : k = es.length := by omega
      subst hk'
      obtain ⟨A, c', hX, hR, hER, hE⟩ := hM.done
      have xc1 := hX.cell
      have xl1 := hX.lt
      have rc1 := hR.cell
      have rf1 := hR.free
      have rl1 := hR.lt
      simp only [xc] at xc1 rc1
      have HER := Lib.hid hER
      have HE := Lib.hid hE
      have HR := Lib.hid hR
      clear hER hE hX hR hM
      go_wp2
      refine bodyPost_ret (v := .tuple #[.agg (xc op s A es.length c'), .bool true]) (by simp [results, Tryz.results62, go_sem, rc1, xc]) rfl ⟨A, es.length, c', rfl, ?_, ?_⟩
      · refine HER.out.keep (S := On w.heap.size) (F' := From w.heap.size) ?_ (fun b hb h => by unfold From at hb; unfold On at h; omega) (fun b _ hb => by unfold From at *; omega)
        repeat (with_reducible first | exact Ex.refl _ _ | refine Ex.setCell ?_ _ _ (Or.inl (On.self _)))
      · repeat (with_reducible first | exact HE.out | refine Ex.setCell ?_ _ _ (Or.inr (Nat.le_refl _)))
end Go.Proofs.YtbepocojafbbbaaGreatDoor
