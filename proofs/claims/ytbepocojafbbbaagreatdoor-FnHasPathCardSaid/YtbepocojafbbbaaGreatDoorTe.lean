/- The scanner: the reading of a text out of a buffer. -/
import Derived.Test.YtbepocojafbbbaaGreatDoorTd
import Derived.Laws.CopyOwn
namespace Go.Proofs.YtbepocojafbbbaaGreatDoor
open Go.RowKit
set_option maxRecDepth 100000

theorem empty_spec (w : World) (b : Nat) (a : Option Addr) (n c : Nat) (q lr : Int) (hB : Blk w b #[.slice a n c, .int .i64 q, .int .i8 lr] 239) :
    Calls Tryz.prog 380 #[.pointer (some ⟨b, 0, none⟩)] w fun e' w' => e' = .returned (.bool (decide ((n : Int) ≤ q))) ∧ Ex No w w' := by
  have c := hB.cell
  have lt := hB.lt
  clear hB
  go_enter Tryz.func380, Tryz.ntmps380
  go_wp2_with fail
  go_quiet (fail)
  go_wp2
  go_ret
  exact ⟨rfl, (Ex.refl _ _).of_drewN _⟩

theorem wpList_copy_blk {P : Program} {w : World} {ops : Array Oper} {rest : List Oper} {o : Oper} {a : Act} {Q : Exit → Act → World → Prop} (hgd : o.guard = none) (d s : Operand) (dT sT : TypeId)
    (ho : o.op = .call { callee := .builtin .copy, args := #[d, s], argTypes := #[dT, sT] }) (elem : TypeId) (hu : P.underlying dT = some (.slice elem)) (hsz : (P.info? elem).map (·.size) = some 1)
    (g off dLen dCap : Nat) (ad : Addr) (sLen sCap : Nat) (hd : a.eval d = .slice (some ⟨g, off, none⟩) dLen dCap) (hs : a.eval s = .slice (some ad) sLen sCap)
    (cur : Array Value) (t : TypeId) (hg : Blk w g cur t) (cs : List Value) (hn : cs.length = Nat.min sLen dLen)
    (hsrc : ∀ j v, cs[j]? = some v → w.cell? (ad.add j) = some v) (hfit : off + cs.length ≤ cur.size) (h1 : ∀ v ∈ cs, v.oneCell' = true)
    (h : ∀ w', Blk w' g (splice cur.toList off cs).toArray t → Ex (On g) w w' → wpList P ops Q rest (a.put o.dst (goInt cs.length)) w') : wpList P ops Q (o :: rest) a w :=
  wpList_copy_own hgd d s dT sT ho elem hu hsz g off dLen dCap ad sLen sCap hd hs cur t hg cs hn hsrc hfit h1 (h _ (setRow_blk hg _) (setRow_ex _ _ _))

def u8s (T : List UInt8) : List Value := T.map fun x => .int .u8 x.toNat

theorem read_all (w : World) (bb tb b c : Nat) (T : List UInt8) (cs : Array Value) (hB : Blk w bb #[.slice (some ⟨tb, 0, none⟩) T.length c, .int .i64 0, .int .i8 0] 239) (hS : Blk w b cs 241) (hne : b ≠ bb) (hnt : tb ≠ bb)
    (ht : ∀ i, i < T.length → w.cell? ⟨tb, i, none⟩ = some (.int .u8 (T.getD i 0).toNat)) (hz : cs.size = 1044) (h0 : 0 < T.length) (h1 : T.length ≤ 1000) :
    Calls Tryz.prog 379 #[.pointer (some ⟨bb, 0, none⟩), .slice (some ⟨b, 1, none⟩) 1024 1025] w fun e' w' => e' = .returned (.tuple #[.int .i64 T.length, .nilIface]) ∧
      Ex (fun i => i = b ∨ i = bb) w w' ∧ Blk w' b (splice cs.toList 1 (u8s T)).toArray 241 ∧ Blk w' bb #[.slice (some ⟨tb, 0, none⟩) T.length c, .int .i64 T.length, .int .i8 (-1)] 239 := by
  have c0 := hB.cell
  have f0 := hB.free
  have lt := hB.lt
  go_enter Tryz.func379, Tryz.ntmps379
  go_wp2_with fail
  refine (empty_spec _ bb _ _ _ _ _ (hB.set 2 (.int .i8 0))).mono ?_
  rintro e' w1 ⟨rfl, hx⟩
  have hd : decide ((T.length : Int) ≤ 0) = false := by simpa using (by omega : ¬ (T.length : Int) ≤ 0)
  rw [hd]
  have b1 : Blk w1 bb #[.slice (some ⟨tb, 0, none⟩) T.length c, .int .i64 0, .int .i8 0] 239 := (hB.set 2 (.int .i8 0)).ex hx no_
  have c1 := b1.cell
  have f1 := b1.free
  have l1 := b1.lt
  have s1 : Blk w1 b cs 241 := (hS.set_other _ _ (fun h => hne h.symm)).ex hx no_
  go_wp2_with fail
  go_still_tail 10, (by kernel_rfl)
  refine wpList_copy_blk rfl (.tmp 17) (.tmp 26) 62 62 rfl 5 (by kernel_rfl) (by kernel_rfl) b 1 1024 1025 ⟨tb, 0, none⟩ T.length c rfl rfl cs 241 (s1.ex ((Ex.refl No _).of_drewN _) no_) (u8s T) ?_ ?_ ?_ ?_ ?_
  · have : Nat.min T.length 1024 = T.length := Nat.min_eq_left (by omega)
    simp [u8s, this]
  · intro j v hj
    have hjT : j < T.length := by have := (List.getElem?_eq_some_iff.mp hj).1; simpa [u8s] using this
    have e : (⟨tb, 0, none⟩ : Addr).add j = ⟨tb, j, none⟩ := by by_cases h : j = 0 <;> simp [Addr.add, h]
    rw [e]
    have hv : v = .int .u8 (T.getD j 0).toNat := by
      simp [u8s, List.getElem?_eq_getElem hjT] at hj
      rw [← hj]; simp [hjT]
    rw [hv]
    have hl := some_lt (ht j hjT)
    have h1 : (w.setCell ⟨bb, 2, none⟩ (.int .i8 0)).cell? ⟨tb, j, none⟩ = some (.int .u8 (T.getD j 0).toNat) := by
      rw [World.cell?_setCell_other _ _ _ _ (fun h => hnt (congrArg Addr.block h.symm))]; exact ht j hjT
    exact ((hx.of_drewN _).got h1 no_)
  · simp [u8s, hz]; omega
  · intro v hv
    simp [u8s] at hv
    obtain ⟨x, _, rfl⟩ := hv
    rfl
  intro w2 s2 hx2
  have b2 := (b1.ex ((Ex.refl No _).of_drewN _) no_).ex hx2 (fun h => hne h.symm)
  have c2 := b2.cell
  have f2 := b2.free
  have l2 := b2.lt
  have hl : (u8s T).length = T.length := by simp [u8s]
  rw [hl]
  have HS := Lib.hid s2
  have hX : Ex (fun i => i = b ∨ i = bb) w w2 := by
    have e1 : Ex (fun i => i = b ∨ i = bb) w (w.setCell ⟨bb, 2, none⟩ (.int .i8 0)) := (Ex.refl _ _).setCell _ _ (Or.inl (Or.inr rfl))
    exact ((e1.no hx).of_drewN _).trans (hx2.mono (fun i h => Or.inl h))
  have HX := Lib.hid hX
  have HB := Lib.hid b2
  clear s2 hx hx2 s1 c1 f1 b1 hd hX b2
  go_wp2
  go_ret2
  refine ⟨rfl, (HX.out.setCell _ _ (Or.inl (Or.inr rfl))).setCell _ _ (Or.inl (Or.inr rfl)), (HS.out.set_other _ _ (fun h => hne h.symm)).set_other _ _ (fun h => hne h.symm), ?_⟩
  exact (HB.out.set 1 _).set 2 _
theorem reset_spec (w : World) (b o : Nat) (cs : Array Value) (t : TypeId) (a : Option Addr) (n c : Nat) (q r : Value) (hB : Blk w b cs t) (h0 : cs[o]? = some (.slice a n c)) (h1 : cs[o + 1]? = some q) (h2 : cs[o + 2]? = some r) :
    Calls Tryz.prog 124 #[.pointer (some ⟨b, o, none⟩)] w fun e' w' => e' = .returned (.tuple #[]) ∧ Ex (On b) w w' ∧
      Blk w' b (((cs.setIfInBounds o (.slice a 0 c)).setIfInBounds (o + 1) (.int .i64 0)).setIfInBounds (o + 2) (.int .i8 0)) t := by
  have c0 := (hB.cell o).trans h0
  have c1 := (hB.cell (o + 1)).trans h1
  have c2 := (hB.cell (o + 2)).trans h2
  have f := hB.free
  have lt := hB.lt
  have HB := Lib.hid hB
  clear hB h0 h1 h2
  go_enter Tryz.func124, Tryz.ntmps124
  go_wp2
  go_end0
  exact ⟨rfl, (((Ex.refl _ _).own _ _).own _ _).own _ _, ((HB.out.set _ _).set _ _).set _ _⟩

theorem read_eof (w : World) (bb c n : Nat) (d : Option Addr) (dn dc : Nat) (A : Option Addr) (ev : Value) (lr : Int) (hB : Blk w bb #[.slice A n c, .int .i64 n, .int .i8 lr] 239) (hd : 0 < dn) (h0 : bb ≠ 0)
    (hG : w.cell? ⟨0, 0, none⟩ = some ev) :
    Calls Tryz.prog 379 #[.pointer (some ⟨bb, 0, none⟩), .slice d dn dc] w fun e' w' => e' = .returned (.tuple #[.int .i64 0, ev]) ∧
      Ex (On bb) w w' ∧ Blk w' bb #[.slice A 0 c, .int .i64 0, .int .i8 0] 239 := by
  have c0 := hB.cell
  have f0 := hB.free
  have lt := hB.lt
  go_enter Tryz.func379, Tryz.ntmps379
  go_wp2_with fail
  refine (empty_spec _ bb _ _ _ _ _ (hB.set 2 (.int .i8 0))).mono ?_
  rintro e' w1 ⟨rfl, hx⟩
  have hdd : decide ((n : Int) ≤ n) = true := by simp
  rw [hdd]
  have b1 : Blk w1 bb #[.slice A n c, .int .i64 n, .int .i8 0] 239 := (hB.set 2 (.int .i8 0)).ex hx no_
  have g1 : w1.cell? ⟨0, 0, none⟩ = some ev := hx.got (by rw [World.cell?_setCell_other _ _ _ _ (fun h => h0 (congrArg Addr.block h.symm).symm)]; exact hG) no_
  have hX : Ex (On bb) w w1 := ((Ex.refl _ _).own _ _).no hx
  go_wp2_with fail
  refine (reset_spec w1 bb 0 _ 239 A n c _ _ b1 rfl rfl rfl).mono ?_
  rintro e' w2 ⟨rfl, hx2, b2⟩
  have g2 : w2.cell? ⟨0, 0, none⟩ = some ev := hx2.got g1 (fun h => h0 h.symm)
  have l2 := some_lt g2
  go_wp2_with fail
  go_quiet (fail)
  go_wp2
  go_ret2
  exact ⟨rfl, (hX.trans hx2).of_drewN _, b2.ex ((Ex.refl No _).of_drewN _) no_⟩

end Go.Proofs.YtbepocojafbbbaaGreatDoor
