/- The digits of a byte. -/
import Derived.Test.YtbepocojafbbbaaGreatDoorXd
namespace Go.Proofs.YtbepocojafbbbaaGreatDoor
open Go.RowKit
set_option maxRecDepth 100000

def Dig (s : ByteArray) : Prop := ∀ b ∈ s.data.toList, 48 ≤ b ∧ b ≤ 57

theorem Dig.cons {d : ByteArray} (h : Dig d) (c : UInt8) (h1 : 48 ≤ c) (h2 : c ≤ 57) : Dig ({ data := #[c] } ++ d) := by
  intro b hb
  rw [ByteArray.data_append, Array.toList_append] at hb
  rcases List.mem_append.mp hb with hb | hb
  · simp at hb
    subst hb
    exact ⟨h1, h2⟩
  · exact h b hb
theorem dig_byte (k : Nat) : (48 : UInt8) ≤ 48 + UInt8.ofNat (k % 10) ∧ 48 + UInt8.ofNat (k % 10) ≤ 57 := by
  have : k % 10 < 10 := Nat.mod_lt _ (by omega)
  generalize k % 10 = m at this
  match m, this with
  | 0, _ | 1, _ | 2, _ | 3, _ | 4, _ | 5, _ | 6, _ | 7, _ | 8, _ | 9, _ => decide
theorem size_cons (c : UInt8) (d : ByteArray) : (({ data := #[c] } : ByteArray) ++ d).size = d.size + 1 := by
  rw [ByteArray.size_append]
  show 1 + d.size = d.size + 1
  omega
theorem ten (s k : Nat) (h : k < 10 ^ (3 - s)) (hs : s ≤ 3) (hk : k ≠ 0) : s + 1 ≤ 3 ∧ k / 10 < 10 ^ (3 - (s + 1)) := by
  match s, hs with
  | 0, _ => simp at h ⊢; omega
  | 1, _ => simp at h ⊢; omega
  | 2, _ => simp at h ⊢; omega
  | 3, _ => simp at h; omega

theorem conv_byte (w : World) (n : Int) : (convert 62 9 (.slice (some ⟨w.heap.size, 0, none⟩) 1 1)).run Tryz.prog (w.alloc (.cells #[.int .u8 n] 5)) =
    .ok (.string ⟨#[UInt8.ofNat n.toNat]⟩) (w.alloc (.cells #[.int .u8 n] 5)) := by
  rw [run_convert_bytes_string (e := 5) _ _ _ _ _ _ (by kernel_rfl) (by kernel_rfl) (by kernel_rfl), run_bytesToString _ _ _ _ [n] (by simp [loadCells, go_sem])]
  rfl

theorem digits_spec (x : Nat) (hx : x < 256) (w : World) : Calls Tryz.prog 9 #[.int .u64 x, .int .i64 1] w fun e' w' =>
    (∃ d : ByteArray, e' = .returned (.string d) ∧ Dig d ∧ 1 ≤ d.size ∧ d.size ≤ 3) ∧ Ex No w w' := by
  go_enter Tryz.func9, Tryz.ntmps9
  go_wp2
  go_loopw [0, 5] (fun v s wr => ∃ (k : Nat) (d : ByteArray), v = .int .u64 k ∧ s = .string d ∧ d.size ≤ 3 ∧ k < 10 ^ (3 - d.size) ∧ Dig d ∧ Ex No w wr) (fun v s _ => (intOf v).toNat + 4 - (match s with | .string d => d.size | _ => 0))
  case atStart => exact ⟨x, ⟨#[]⟩, rfl, rfl, by decide, by show x < 1000; omega, by intro b hb; simp at hb, Ex.refl _ _⟩
  case round =>
    obtain ⟨k, d, rfl, rfl, hs, hk, hd, hE⟩ := hrel
    have hcv := conv_byte wr
    go_wp2
    · refine ⟨⟨0, _, rfl, rfl, by rw [size_cons]; omega, Nat.pow_pos (by omega), hd.cons _ (by decide) (by decide), hE.alloc _⟩, ?_⟩
      simp only [size_cons, intOf]
      omega
    · go_ret
      exact ⟨⟨d, rfl, hd, by omega, hs⟩, hE⟩
    · rename_i hk0
      obtain ⟨t1, t2⟩ := ten d.size k hk hs hk0
      have hw : IntKind.u64.wrap ((k : Int) / 10) = ((k / 10 : Nat) : Int) := by
        have : k < 1000 := by
          have : (10 : Nat) ^ (3 - d.size) ≤ 10 ^ 3 := Nat.pow_le_pow_right (by omega) (by omega)
          omega
        have e : IntKind.u64.wrap ((k : Int) / 10) = ((k : Int) / 10) % 18446744073709551616 := by simp [IntKind.wrap, IntKind.bits, IntKind.signed]
        rw [e]; omega
      rw [hw]
      refine ⟨⟨k / 10, _, rfl, rfl, by rw [size_cons]; exact t1, by rw [size_cons]; exact t2, hd.cons _ (dig_byte k).1 (dig_byte k).2, hE.alloc _⟩, ?_⟩
      simp only [size_cons, intOf]
      omega
end Go.Proofs.YtbepocojafbbbaaGreatDoor
