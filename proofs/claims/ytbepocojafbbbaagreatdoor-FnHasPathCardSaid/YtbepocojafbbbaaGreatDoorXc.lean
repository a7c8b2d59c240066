/- Policies as plain data. -/
import Derived.Test.YtbepocojafbbbaaGreatDoorXb
import Derived.Test.YtbepocojafbbbaaGreatDoorRg
import Derived.Test.YtbepocojafbbbaaGreatDoorLa
namespace Go.Proofs.YtbepocojafbbbaaGreatDoor
open Go.RowKit
set_option maxRecDepth 100000

theorem ta_339_162 (x : Value) (w : World) : Sem.run Tryz.prog (Instr.typeAssert (.iface 339 x) 157 162 true) w = .ok (.tuple #[.agg #[.string ⟨#[]⟩, .string ⟨#[]⟩], .bool false]) w := by kernel_rfl
theorem ta_339_164 (x : Value) (w : World) : Sem.run Tryz.prog (Instr.typeAssert (.iface 339 x) 157 164 true) w = .ok (.tuple #[.agg #[.string ⟨#[]⟩, .string ⟨#[]⟩], .bool false]) w := by kernel_rfl
theorem ta_339_167 (x : Value) (w : World) : Sem.run Tryz.prog (Instr.typeAssert (.iface 339 x) 157 167 true) w = .ok (.tuple #[.agg #[.slice none 0 0], .bool false]) w := by kernel_rfl
theorem ta_339_169 (x : Value) (w : World) : Sem.run Tryz.prog (Instr.typeAssert (.iface 339 x) 157 169 true) w = .ok (.tuple #[.agg #[.string ⟨#[]⟩], .bool false]) w := by kernel_rfl
theorem ta_339_171 (x : Value) (w : World) : Sem.run Tryz.prog (Instr.typeAssert (.iface 339 x) 157 171 true) w = .ok (.tuple #[.agg #[.string ⟨#[]⟩, .string ⟨#[]⟩, .string ⟨#[]⟩], .bool false]) w := by kernel_rfl

def scopeZ : Value := .agg #[.int .i64 0, .string ⟨#[]⟩, .string ⟨#[]⟩, .slice none 0 0, .string ⟨#[]⟩]
theorem plainScope_all (w : World) : Calls Tryz.prog 45 #[allV] w fun e' w' => e' = .returned (.agg #[.int .i64 0, .string ⟨#[]⟩, .string ⟨#[]⟩, .slice none 0 0, .string ⟨#[]⟩]) ∧ Ex No w w' := by
  have q1 := ta_339_162
  have q2 := ta_339_164
  have q3 := ta_339_167
  have q4 := ta_339_169
  have q5 := ta_339_171
  simp only [allV]
  go_enter Tryz.func45, Tryz.ntmps45
  go_wp2
  refine bodyPost_ret (v := scopeZ) (by simp [results, Tryz.results45, go_sem, scopeZ]) rfl ⟨rfl, ?_⟩
  repeat (with_reducible first | exact Ex.refl _ _ | refine Ex.alloc ?_ _)

abbrev pz : Array Value := #[.bool false, .slice none 0 0, .int .i64 0, .string ⟨#[]⟩, .string ⟨#[]⟩, .slice none 0 0, .string ⟨#[]⟩, .int .i64 0, .string ⟨#[]⟩, .string ⟨#[]⟩, .slice none 0 0, .string ⟨#[]⟩, .int .i64 0, .string ⟨#[]⟩, .string ⟨#[]⟩, .slice none 0 0, .string ⟨#[]⟩, .slice none 0 0]
theorem Blk.set' {w : World} {b : Nat} {c : Array Value} {e : TypeId} (h : Blk w b c e) (i : Nat) (v : Value) (hv : c[i]? = some v) : Blk (w.setCell ⟨b, i, none⟩ v) b c e := by
  have h1 := h.set i v
  have e : c.setIfInBounds i v = c := by
    obtain ⟨hi, hv'⟩ := Array.getElem?_eq_some_iff.1 hv
    subst hv'
    rw [Array.setIfInBounds_def, dif_pos hi, Array.set_getElem_self]
  rw [e] at h1; exact h1
abbrev pz64 : Array Value := #[.bool false, .int .i64 0, .string ⟨#[]⟩, .int .i64 0, .int .i64 0, .string ⟨#[]⟩, .string ⟨#[]⟩, .slice none 0 0, .slice none 0 0, .slice none 0 0, .slice none 0 0, .slice none 0 0]
theorem Tryz.info64 : (Tryz.prog.info? 64).map (fun i => (i.zero, i.size, i.bytes)) = some (some (.agg pz64), 12, 200) := by kernel_rfl
abbrev condCells (op : Int) (s : ByteArray) (A : Option Addr) (n c : Nat) : Array Value :=
  #[.bool false, .int .i64 op, .string s, .int .i64 0, .int .i64 0, .string ⟨#[]⟩, .string ⟨#[]⟩, .slice none 0 0, .slice none 0 0, .slice none 0 0, .slice none 0 0, .slice A n c]
def polOut (g cap : Nat) : Array Value := #[.bool false, .slice none 0 0, .int .i64 0, .string ⟨#[]⟩, .string ⟨#[]⟩, .slice none 0 0, .string ⟨#[]⟩, .int .i64 0, .string ⟨#[]⟩, .string ⟨#[]⟩, .slice none 0 0, .string ⟨#[]⟩, .int .i64 0, .string ⟨#[]⟩, .string ⟨#[]⟩, .slice none 0 0, .string ⟨#[]⟩, .slice (some ⟨g, 0, none⟩) 1 cap]
/-- The region that begins 'plainPolicy'. -/
def PI (p : Nat) (w : World) (L : Nat → Bool) (a : Act) (w' : World) : Prop :=
  ∃ b : Nat, a = ⟨#[.pointer (some ⟨p, 0, none⟩), undef, .pointer (some ⟨w.heap.size, 0, none⟩), .bool false, if L 21 = true then .pointer (some ⟨b, 0, none⟩) else undef, undef, undef, undef, undef, undef, undef, if L 0 = true then .pointer (some ⟨p, 0, none⟩) else undef, if L 1 = true then .pointer (some ⟨p, 0, none⟩) else undef, if L 2 = true then .pointer (some ⟨p, 0, none⟩) else undef, if L 3 = true then .bool true else undef, if L 4 = true then .bool false else undef, if L 5 = true then .pointer (some ⟨p, 0, none⟩) else undef, if L 6 = true then .pointer (some ⟨p, 0, none⟩) else undef, if L 7 = true then .pointer (some ⟨p, 2, none⟩) else undef, if L 8 = true then allV else undef, if L 9 = true then .agg #[.int .i64 0, .string ⟨#[]⟩, .string ⟨#[]⟩, .slice none 0 0, .string ⟨#[]⟩] else undef, if L 10 = true then .pointer (some ⟨p, 0, none⟩) else undef, if L 11 = true then .pointer (some ⟨p, 0, none⟩) else undef, if L 12 = true then .pointer (some ⟨p, 3, none⟩) else undef, if L 13 = true then allV else undef, if L 14 = true then .agg #[.int .i64 0, .string ⟨#[]⟩, .string ⟨#[]⟩, .slice none 0 0, .string ⟨#[]⟩] else undef, if L 15 = true then .pointer (some ⟨p, 0, none⟩) else undef, if L 16 = true then .pointer (some ⟨p, 0, none⟩) else undef, if L 17 = true then .pointer (some ⟨p, 4, none⟩) else undef, if L 18 = true then allV else undef, if L 19 = true then .agg #[.int .i64 0, .string ⟨#[]⟩, .string ⟨#[]⟩, .slice none 0 0, .string ⟨#[]⟩] else undef, if L 20 = true then .agg #[.bool false, .slice none 0 0, .int .i64 0, .string ⟨#[]⟩, .string ⟨#[]⟩, .slice none 0 0, .string ⟨#[]⟩, .int .i64 0, .string ⟨#[]⟩, .string ⟨#[]⟩, .slice none 0 0, .string ⟨#[]⟩, .int .i64 0, .string ⟨#[]⟩, .string ⟨#[]⟩, .slice none 0 0, .string ⟨#[]⟩, .slice none 0 0] else undef, undef, undef, undef, undef, undef, undef, undef, undef, undef, undef, undef, undef, undef, undef, undef, undef, undef, undef, undef, undef, undef, undef, undef, undef, undef, undef, undef, undef, undef, undef, undef, undef, undef, undef, undef, undef, undef, undef, undef, undef, undef, undef, undef, undef, undef, undef, undef, undef, undef, undef], []⟩ ∧ Ex No w w' ∧ Blk w' w.heap.size pz 51 ∧ (L 21 = true → w.heap.size < b ∧ Blk w' b pz 51)
def regionOps (n : Nat) : Code → Option (Array Oper)
  | .region id ops _ => if id = n then some ops else none
  | .seq a b => (regionOps n a).or (regionOps n b)
  | .cond _ a b => (regionOps n a).or (regionOps n b)
  | .block _ c => regionOps n c
  | .loop c => regionOps n c
  | .scope c => regionOps n c
  | _ => none
noncomputable def ops32 : Array Oper := (Tryz.f32.body.bind (regionOps 1)).getD #[]
set_option maxHeartbeats 2000000 in
theorem PI_steps (pe : TypeId) (p g cap : Nat) (fn : ByteArray) (o l c : Int) (w : World) (Q : Exit → Act → World → Prop)
    (hP : Hid (Blk w p #[.bool true, .slice none 0 0, allV, allV, allV, .slice (some ⟨g, 0, none⟩) 1 cap, .string fn, .int .i64 o, .int .i64 l, .int .i64 c] pe)) :
    stepAll Tryz.prog ops32 Q (PI p w) 0 ops32.toList := by
  refine ⟨?_, ?_, ?_, ?_, ?_, ?_, ?_, ?_, ?_, ?_, ?_, ?_, ?_, ?_, ?_, ?_, ?_, ?_, ?_, ?_, ?_, ?_, ?_, trivial⟩
  all_goals
    intro L a w' hI hk hd K hK
    obtain ⟨b, rfl, hE, hR, hz⟩ := hI
    simp [Done, Region.binds] at hd
    have hB := Blk.ex hP.out hE no_
    have kc := hB.cell
    have kl := hB.lt
  all_goals first
    | (go_simp; refine hK _ _ ⟨b, by simp [hd], hE, hR, by simpa using hz⟩; done)
    | (go_simp; refine (plainScope_all _).mono ?_; rintro e' w1 ⟨rfl, hx⟩; refine hK _ _ ⟨b, by simp [hd], hE.trans hx, hR.ex hx no_, fun h => ⟨(hz (by simpa using h)).1, (hz (by simpa using h)).2.ex hx no_⟩⟩; done)
    | (go_simp; refine hK _ _ ⟨w'.heap.size, by simp, hE.alloc _, hR.ex ((Ex.refl No _).alloc _) no_, fun _ => ⟨hR.lt, Blk.new _ _ _⟩⟩; done)
    | skip
  · obtain ⟨b1, b2⟩ := hz (by simp [hd])
    have zc := b2.cell
    have zf := b2.free
    have zl := b2.lt
    have hne : b ≠ w.heap.size := by omega
    go_simp
    refine hK _ _ ⟨b, by simp [hd], ?_, ?_, fun _ => ⟨b1, ?_⟩⟩
    · repeat (with_reducible first | exact hE | refine Ex.setCell ?_ _ _ (Or.inr (Nat.le_of_lt b1)))
    · repeat (with_reducible first | exact hR | refine Blk.set_other ?_ _ _ hne)
    · repeat (first | with_reducible exact b2 | refine Blk.set' ?_ _ _ rfl)

/-- What 'plainPolicy' answers. -/
def PolAns (e : E) (w : World) (e' : Ending) (w' : World) : Prop :=
  ∃ g cap A n c, e' = .returned (.tuple #[.agg (polOut g cap), .bool true]) ∧ Ex No w w' ∧ w.heap.size ≤ g ∧
    (∀ i, i < 12 → w'.cell? ⟨g, i, none⟩ = (condCells e.op e.s A n c)[i]?) ∧ ER w' (From w.heap.size) e A n c
theorem own_cells {w : World} {base : Nat} {e : TypeId} {s n g cap : Nat} {xs : List Value} (h : w.ownsRow base e s (.slice (some ⟨g, 0, none⟩) n cap) n xs) (i : Nat) (hi : i < n * s) :
    w.cell? ⟨g, i, none⟩ = xs[i]? := by
  rcases h.2 with ⟨h, _⟩ | ⟨g', cap', cur, hv, hb, hg, hnc, hcm, hsz, htk⟩
  · cases h
  · injection hv with h1 h2 h3
    injection h1 with h1
    injection h1 with h1 h4
    subst h1
    rw [← htk, List.getElem?_take_of_lt hi]
    simp [World.cell?, hg]
set_option maxHeartbeats 2000000 in
theorem plainPolicy_one (pe : TypeId) (p g cap : Nat) (fn : ByteArray) (o l c : Int) (t : TypeId) (y : Value) (e : E) (w : World)
    (hp : Blk w p #[.bool true, .slice none 0 0, allV, allV, allV, .slice (some ⟨g, 0, none⟩) 1 cap, .string fn, .int .i64 o, .int .i64 l, .int .i64 c] pe)
    (hg : w.cell? ⟨g, 0, none⟩ = some (.bool true)) (hg1 : w.cell? ⟨g, 1, none⟩ = some (.iface t y))
    (h : ∀ W, Ex No w W → Calls Tryz.prog 46 #[.iface t y] W (PE e W)) :
    Calls Tryz.prog 32 #[.pointer (some ⟨p, 0, none⟩)] w (PolAns e w) := by
  have H := Lib.hid h
  have hP := Lib.hid hp
  have pc := hp.cell
  have pl := hp.lt
  have HG := Lib.hid (And.intro hg hg1)
  clear h hp hg hg1
  go_enter Tryz.func32, Tryz.ntmps32
  go_wp2_with fail
  refine wp_region_inv (ops := ops32) (PI p w) (by kernel_rfl) (by kernel_rfl) ⟨0, by simp, ((Ex.refl _ _).alloc _).drew, Blk.new w pz 51, by simp⟩ (PI_steps pe p g cap fn o l c w _ hP) ?_
  intro L a w' hI hL
  obtain ⟨b, rfl, hE, hR, hz⟩ := hI
  have hLt : ∀ i, i < 23 → L i = true := hL
  obtain ⟨b1, b2⟩ := hz (hLt 21 (by omega))
  have HZ := Lib.hid hz
  have HLt := Lib.hid hLt
  clear hz hL hLt
  simp only [HLt.out 0 (by omega), HLt.out 1 (by omega), HLt.out 2 (by omega), HLt.out 3 (by omega), HLt.out 4 (by omega), HLt.out 5 (by omega), HLt.out 6 (by omega), HLt.out 7 (by omega), HLt.out 8 (by omega), HLt.out 9 (by omega), HLt.out 10 (by omega), HLt.out 11 (by omega), HLt.out 12 (by omega), HLt.out 13 (by omega), HLt.out 14 (by omega), HLt.out 15 (by omega), HLt.out 16 (by omega), HLt.out 17 (by omega), HLt.out 18 (by omega), HLt.out 19 (by omega), HLt.out 20 (by omega), HLt.out 21 (by omega), if_true]
  have hB := Blk.ex hP.out hE no_
  have kc := hB.cell
  have kl := hB.lt
  have zc := b2.cell
  have zf := b2.free
  have zl := b2.lt
  simp only [pz] at zc
  go_wp2_with fail
  refine wp_loop_once ?_
  go_wp2_with fail
  refine wp_loop_rounds 2 ?_
  rw [rounds_succ]
  have g0 := hE.got HG.out.1 no_
  have g1 := hE.got HG.out.2 no_
  go_wp2_with fail
  refine (H.out _ (hE.alloc _)).mono ?_
  rintro e' w2 ⟨A, n, c2, rfl, hER, hx2⟩
  obtain ⟨op1, hop1⟩ : ∃ o, o = e.op := ⟨_, rfl⟩
  obtain ⟨s1, hs1⟩ : ∃ o, o = e.s := ⟨_, rfl⟩
  rw [← hop1, ← hs1]
  have HOP := Lib.hid hop1
  have HS1 := Lib.hid hs1
  have HER := Lib.hid hER
  clear hop1 hs1 hER
  have hx' := ((Ex.refl No w').alloc _).trans hx2
  have k2 := b2.ex hx' no_
  have r2 := hR.ex hx' no_
  have k0 := hx2.got (new_cell w' #[.bool true, .iface t y] 119 0) no_
  have kw := some_lt k0
  have yc := k2.cell
  have yl := k2.lt
  have yf := k2.free
  simp only [pz] at yc
  simp only [xc]
  obtain ⟨i0, hi, hz0, hz1, hz2⟩ := info_parts Tryz.info64
  have hbb := b2.lt
  have HN := Lib.hid (fun o => news_lit (w2.alloc o) (condCells op1 s1 A n c2) 64 (w2.heap.size + 1) (by simp))
  have H1 : Hid (∀ u ∈ (condCells op1 s1 A n c2).toList, u.oneCell' = true) := Lib.hid (List.all_eq_true.1 (show (condCells op1 s1 A n c2).toList.all Value.oneCell' = true from rfl))
  clear zc zf zl kc kl g0 g1 b2 hB
  go_wp2_with (at_builtin; go_loud (refine wpList_append_lies _ rfl (.tmp 71) (.tmp 77) 49 rfl (w.heap.size + 1) 64 i0 (.agg pz64) 12 200 Tryz.underlying49 hi hz0 hz1 hz2 rfl (by decide) (.slice none 0 0) 0 [] rfl (World.ownsRow_nil _ _ _ _) ⟨w2.heap.size + 1, 0, none⟩ 1 1 (condCells op1 s1 A n c2).toList rfl rfl (HN.out _) H1.out (by decide) (by decide) (by decide) ?hb _ rfl ?_))
  case hb => have := hx'.size; have := hE.size; simp; omega
  intro g' cap' w3 ho' hg' hgo hlt'
  have hx3 : Ex No w2 w3 := (((Ex.refl No w2).alloc _).alloc _).grown hg' (fun k hk _ => by simp [Value.ownBlock] at hk)
  have k3 := k2.ex hx3 no_
  have r3 := r2.ex hx3 no_
  have HO := Lib.hid ho'
  have HGO := Lib.hid hgo
  clear ho' hgo hg' yc yl yf k0
  have zc := k3.cell 17
  have zf := k3.free 17
  have zl := k3.lt
  simp only [pz] at zc
  have hne : b ≠ w.heap.size := by omega
  go_wp2_with fail
  rw [rounds_succ]
  have k4 : Blk (w3.setCell ⟨b, 17, none⟩ (.slice (some ⟨g', 0, none⟩) 1 cap')) b (polOut g' cap') 51 := k3.set 17 _
  have r4 := r3.set_other ⟨b, 17, none⟩ (.slice (some ⟨g', 0, none⟩) 1 cap') hne
  have hx4 : Ex (On b) w3 (w3.setCell ⟨b, 17, none⟩ (.slice (some ⟨g', 0, none⟩) 1 cap')) := (Ex.refl _ _).setCell _ _ (Or.inl (On.self _))
  generalize w3.setCell ⟨b, 17, none⟩ (.slice (some ⟨g', 0, none⟩) 1 cap') = w4 at k4 r4 hx4 ⊢
  clear zc zf zl
  have h51 : (Tryz.prog.info? 51).map (·.size) = some (polOut g' cap').size := by kernel_rfl
  have h51' : (Tryz.prog.info? 51).map (·.size) = some pz.size := by kernel_rfl
  have HH := Lib.hid h51
  have HH' := Lib.hid h51'
  clear h51 h51'
  go_wp2_with (first
    | (refine wpList_load_row rfl 51 (.tmp 4) rfl b rfl 51 _ (0, 0) _ k4 Tryz.underlying51 rfl HH.out ?_)
    | (refine wpList_store_blk rfl 51 (.tmp 2) (.tmp 81) rfl w.heap.size rfl (.agg (polOut g' cap')) rfl pz 51 r4 HH'.out rfl (List.all_eq_true.1 (show (polOut g' cap').toList.all Value.oneCell' = true from rfl)) ?_; intro w5 q5 hx5))
  have hw5 : Ex No w w5 := by
    have e1 := (hE.trans hx').trans hx3
    have e2 := e1.trans' hx4 (fun i hi h => by unfold On at h; omega)
    exact e2.trans' hx5 (fun i hi h => by unfold On at h; omega)
  have hbw : b < w'.heap.size := hbb
  have hg1 : w2.heap.size + 1 + 1 = g' := by
    rcases HGO.out with h | h
    · simp [Value.ownBlock] at h
    · simpa using h.symm
  have s2 := hx2.size
  simp at s2
  have s1 := hE.size
  have hn1 : ¬ On w.heap.size g' := by unfold On; omega
  have hn2 : ¬ On b g' := by unfold On; omega
  have hg3 : g' < w3.heap.size := some_lt (a := ⟨g', 0, none⟩) (v := .bool false) (own_cells HO.out 0 (by omega))
  refine bodyPost_ret (v := .tuple #[.agg (polOut g' cap'), .bool true]) (results_cell_tmp rfl _ _ w.heap.size 51 _ (0, 0) _ rfl q5 Tryz.underlying51 rfl HH.out _ rfl) rfl ⟨g', cap', A, n, c2, rfl, hw5, ?_, ?_, ?_⟩
  · have := hE.size; omega
  · intro i hi
    rw [← HOP.out, ← HS1.out, hx5.cell (p := ⟨g', i, none⟩) (Nat.lt_of_lt_of_le hg3 hx4.size) hn1, hx4.cell (p := ⟨g', i, none⟩) hg3 hn2, own_cells HO.out i (by omega)]
    simp
  · have a0 := HER.out.keep (F' := From (w'.heap.size + 1)) hx3 (fun _ _ => no_) (fun b _ h => by unfold From at *; simpa using h)
    have a1 := a0.keep (F' := From (w'.heap.size + 1)) hx4 (fun i h h2 => by unfold From at h; unfold On at h2; omega) (fun _ _ h => h)
    exact a1.keep (F' := From w.heap.size) hx5 (fun i h h2 => by unfold From at h; unfold On at h2; have := hE.size; omega) (fun i _ h => by unfold From at *; have := hE.size; omega)
end Go.Proofs.YtbepocojafbbbaaGreatDoor
