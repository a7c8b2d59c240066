/- Two expressions that are one tree are the same. -/
import Derived.Test.YtbepocojafbbbaaGreatDoorXc
import Derived.StillTailTactics
namespace Go.Proofs.YtbepocojafbbbaaGreatDoor
open Go.RowKit
set_option maxRecDepth 100000

/-- No operation with a value, a pattern or keys. -/
inductive Simple : E → Prop
  | mk (op : Int) (s : ByteArray) (l : List E) (h1 : (op == 1) = false) (h15 : (op == 15) = false) (h30 : (op == 30) = false) (hn : l.length ≤ 1000000) (hl : ∀ j, j < l.length → Simple (l.getD j default)) : Simple (.mk op s l)

theorem named_spec (op : Int) (w : World) : Calls Tryz.prog 25 #[.int .i64 op] w fun e' w' => e' = .returned (.bool (op == 2 || op == 13 || op == 16 || op == 17 || op == 23 || op == 25)) ∧ w' = w := by
  go_enter Tryz.func25, Tryz.ntmps25
  go_wp2
  all_goals (go_ret; exact ⟨by simp_all, rfl⟩)

theorem same_start (w : World) (op : Int) (s : ByteArray) (A A' : Option Addr) (n c c' m : Nat) :
    Ex No w (((w.alloc (.cells (xc op s A n c) 30)).alloc (.cells (xc op s A' n c') 30)).drewN m) ∧ Blk (((w.alloc (.cells (xc op s A n c) 30)).alloc (.cells (xc op s A' n c') 30)).drewN m) w.heap.size (xc op s A n c) 30 ∧
      Blk (((w.alloc (.cells (xc op s A n c) 30)).alloc (.cells (xc op s A' n c') 30)).drewN m) (w.heap.size + 1) (xc op s A' n c') 30 := by
  have h1 := (Blk.new w (xc op s A n c) 30).ex ((Ex.refl No _).alloc (.cells (xc op s A' n c') 30)) no_
  have h2 := Blk.new (w.alloc (.cells (xc op s A n c) 30)) (xc op s A' n c') 30
  have e : (w.alloc (.cells (xc op s A n c) 30)).heap.size = w.heap.size + 1 := by simp
  rw [e] at h2
  have hd : ∀ W : World, Ex No W (W.drewN m) := fun W => (Ex.refl _ _).of_drewN m
  exact ⟨(((Ex.refl No w).alloc _).alloc _).trans (hd _), h1.ex (hd _) no_, h2.ex (hd _) no_⟩

theorem xc_some (op : Int) (s : ByteArray) (A : Option Addr) (n c i : Nat) (hi : i < 11) : (xc op s A n c)[i]? = some ((xc op s A n c)[i]'(by simpa [xc] using hi)) :=
  Array.getElem?_eq_getElem _
theorem getD_mem (l : List E) (k : Nat) (h : k < l.length) : l.getD k default ∈ l := by
  have e : l.getD k default = l[k] := by simp [List.getD, List.getElem?_eq_getElem h]
  rw [e]; exact List.getElem_mem h
theorem row_cells {w : World} {g o : Nat} {op : Int} {s : ByteArray} {A : Option Addr} {n c : Nat} (h : ∀ i, i < 11 → w.cell? ⟨g, o + i, none⟩ = (xc op s A n c)[i]?) :
    w.cell? ⟨g, o, none⟩ = some (.int .i64 op) ∧ w.cell? ⟨g, o + 1, none⟩ = some (.string s) ∧ w.cell? ⟨g, o + 2, none⟩ = some (.int .i64 0) ∧ w.cell? ⟨g, o + 3, none⟩ = some (.int .i64 0) ∧
    w.cell? ⟨g, o + 4, none⟩ = some (.string ⟨#[]⟩) ∧ w.cell? ⟨g, o + 5, none⟩ = some (.string ⟨#[]⟩) ∧ w.cell? ⟨g, o + 6, none⟩ = some (.slice none 0 0) ∧ w.cell? ⟨g, o + 7, none⟩ = some (.slice none 0 0) ∧
    w.cell? ⟨g, o + 8, none⟩ = some (.slice none 0 0) ∧ w.cell? ⟨g, o + 9, none⟩ = some (.slice none 0 0) ∧ w.cell? ⟨g, o + 10, none⟩ = some (.slice A n c) :=
  ⟨h 0 (by omega), h 1 (by omega), h 2 (by omega), h 3 (by omega), h 4 (by omega), h 5 (by omega), h 6 (by omega), h 7 (by omega), h 8 (by omega), h 9 (by omega), h 10 (by omega)⟩

def Same (w : World) (e' : Ending) (w' : World) : Prop := e' = .returned (.bool true) ∧ Ex No w w'

set_option maxHeartbeats 800000 in
theorem same_spec (N : Nat) : ∀ e : E, SizeOf.sizeOf e < N → Simple e → ∀ (w : World) (F F' : Nat → Prop) (A A' : Option Addr) (n n' c c' : Nat), ER w F e A n c → ER w F' e A' n' c' →
    Calls Tryz.prog 11 #[.agg (xc e.op e.s A n c), .agg (xc e.op e.s A' n' c')] w (Same w) := by
  induction N with
  | zero => intro e h; omega
  | succ N ih =>
    intro e hsz hS w F F' A A' n n' c c' h1 h2
    have IH := Lib.hid ih
    clear ih
    cases hS with
    | mk op s l q1 q15 q30 hn hl =>
      cases h1 with
      | mk _ _ _ _ _ _ g sub hn1 hA hF hc hr =>
        cases h2 with
        | mk _ _ _ _ _ _ g' sub' hn2 hA' hF' hc' hr' =>
          subst hn1
          subst hn2
          simp only [E.op, E.s, xc]
          have HA := Lib.hid hA
          have HA' := Lib.hid hA'
          have HC := Lib.hid hc
          have HC' := Lib.hid hc'
          have HR := Lib.hid hr
          have HR' := Lib.hid hr'
          have HL := Lib.hid hl
          have HSZ := Lib.hid hsz
          clear hA hA' hc hc' hr hr' hl hsz hF hF'
          cases hnm : (op == 2 || op == 13 || op == 16 || op == 17 || op == 23 || op == 25)
          all_goals
            have HNM := Lib.hid hnm
            clear hnm
            go_enter Tryz.func11, Tryz.ntmps11
            go_wp2_with (go_at_call 25; refine (named_spec _ _).mono ?_; rintro e' w' ⟨rfl, rfl⟩; rw [HNM.out])
            go_quiet (fail)
            have s0 := Lib.hid (same_start w op s A A' l.length c c' nq)
            go_wp2_with fail
            go_loopw [5] (fun i wr => ∃ k : Nat, k ≤ l.length ∧ i = .int .i64 k ∧ Ex No w wr ∧ Blk wr w.heap.size (xc op s A l.length c) 30 ∧ Blk wr (w.heap.size + 1) (xc op s A' l.length c') 30) (fun i _ => l.length - (intOf i).toNat)
            case atStart => exact ⟨0, Nat.zero_le _, rfl, s0.out⟩
            case round =>
              obtain ⟨k, hk, rfl, hE, hB1, hB2⟩ := hrel
              have b1 := hB1.cell
              have b2 := hB2.cell
              have l1 := hB1.lt
              have l2 := hB2.lt
              simp only [xc] at b1 b2
              by_cases hlt : k < l.length
              · have hAe := HA.out (by omega)
                have hAe' := HA'.out (by omega)
                have r1 := row_cells (fun i hi => (hE.cell (p := ⟨g, k * 11 + i, none⟩) (some_lt (w := w) (a := ⟨g, k * 11 + i, none⟩) (by
                  rw [HC.out k hlt i hi]; exact xc_some _ _ _ _ _ i hi)) no_).trans (HC.out k hlt i hi))
                have r2 := row_cells (fun i hi => (hE.cell (p := ⟨g', k * 11 + i, none⟩) (some_lt (w := w) (a := ⟨g', k * 11 + i, none⟩) (by
                  rw [HC'.out k hlt i hi]; exact xc_some _ _ _ _ _ i hi)) no_).trans (HC'.out k hlt i hi))
                have hkid := IH.out (l.getD k default) (by
                    have h1 := List.sizeOf_lt_of_mem (getD_mem l k hlt)
                    have h2 := HSZ.out
                    simp only [E.mk.sizeOf_spec] at h2
                    omega) (HL.out k hlt)
                have hc1 := (fun (W : World) (hW : Ex No wr W) => hkid W F F' (sub k).1 (sub' k).1 (sub k).2.1 (sub' k).2.1 (sub k).2.2 (sub' k).2.2 (((HR.out k hlt).keep hE (fun _ _ => no_) (fun _ _ h => h)).keep hW (fun _ _ => no_) (fun _ _ h => h)) (((HR'.out k hlt).keep hE (fun _ _ => no_) (fun _ _ h => h)).keep hW (fun _ _ => no_) (fun _ _ h => h)))
                simp only [xc] at hc1
                have HC1 := Lib.hid hc1
                clear hkid hc1
                generalize l.getD k default = ek at HC1 r1 r2
                obtain ⟨u0, u1, u2, u3, u4, u5, u6, u7, u8, u9, u10⟩ := r1
                obtain ⟨v0, v1, v2, v3, v4, v5, v6, v7, v8, v9, v10⟩ := r2
                subst hAe
                subst hAe'
                go_wp2_with fail
                go_still_tail 10, (by kernel_rfl)
                go_wp2_with fail
                refine Calls.mono (HC1.out _ ?_) ?_
                · exact (Ex.refl No wr).drew
                rintro e' w1 ⟨rfl, hx⟩
                have z1 := (hB1.ex ((Ex.refl No wr).drew) no_).ex hx no_
                have z2 := (hB2.ex ((Ex.refl No wr).drew) no_).ex hx no_
                have y1 := z1.cell
                have y2 := z2.cell
                simp only [xc] at y1 y2
                go_wp2
                go_roundw
                case rel => exact ⟨k + 1, by omega, by go_num, (hE.trans (Ex.refl No wr).drew).trans hx, z1, z2⟩
                case measure => simp [intOf]; omega
              · go_wp2
                go_ret
                exact ⟨rfl, hE⟩
end Go.Proofs.YtbepocojafbbbaaGreatDoor
