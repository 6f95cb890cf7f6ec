import Derived.Test.Qxb6609416aDoorJ
namespace Go.Proofs.Qxb6609416aDoor
open Go.RowKit

theorem clone_nil (w : World) : Calls Tryd.prog 6 #[.slice none 0 0] w fun e w' => e = .returned (.slice none 0 0) ∧ w' = w := by
  have hq := fun w => Lib.run_eql_slice_nil (P := Tryd.prog) w 22 5 none 0 0 0 0 Tryd.underlying22
  go_enter Tryd.func6, Tryd.ntmps6
  go_wp2
  go_ret
  exact ⟨rfl, rfl⟩

/-- The bytes of a list of numbers. -/
def bytesV (zs : List Int) : List Value := zs.map (Value.int .u8)
/-- The copy, k bytes on. -/
def half (zs : List Int) (k : Nat) : List Value := bytesV (zs.take k) ++ zeros (zs.length - k)
theorem half_length (zs : List Int) (k : Nat) (h : k ≤ zs.length) : (half zs k).length = zs.length := by simp [half, bytesV, zeros]; omega
theorem half_at (zs : List Int) (k : Nat) (h : k < zs.length) : (half zs k)[k]? = some (.int .u8 0) := by
  have l : (bytesV (zs.take k)).length = k := by simp [bytesV]; omega
  unfold half
  rw [List.getElem?_append_right (by omega), l, Nat.sub_self]
  unfold zeros
  rw [List.getElem?_replicate, if_pos (by omega)]
theorem half_set (zs : List Int) (k : Nat) (h : k < zs.length) : (half zs k).set k (.int .u8 (zs.getD k 0)) = half zs (k + 1) := by
  have l : (bytesV (zs.take k)).length = k := by simp [bytesV]; omega
  unfold half
  rw [List.set_append_right _ _ (by omega), l, Nat.sub_self]
  have e1 : zeros (zs.length - k) = .int .u8 0 :: zeros (zs.length - (k + 1)) := by
    unfold zeros
    rw [show zs.length - k = (zs.length - (k + 1)) + 1 by omega, List.replicate_succ]
  have e2 : bytesV (zs.take (k + 1)) = bytesV (zs.take k) ++ [.int .u8 (zs.getD k 0)] := by
    unfold bytesV
    rw [List.take_succ_eq_append_getElem h, List.map_append, List.getD_eq_getElem?_getD, List.getElem?_eq_getElem h]
    rfl
  rw [e1, e2, List.set_cons_zero, List.append_assoc]
  rfl
theorem half_zero (zs : List Int) : half zs 0 = zeros zs.length := by simp [half, bytesV]
theorem half_all (zs : List Int) : half zs zs.length = bytesV zs := by simp [half, bytesV, zeros]

set_option maxHeartbeats 1000000 in
theorem clone_some (a : Addr) (len cap : Nat) (zs : List Int) (hl : zs.length = len) (hlen : len ≤ 1048576) (w : World) (hc : ∀ k, k < len → ∃ b off, a = ⟨b, off, none⟩ ∧ w.cell? ⟨b, off + k, none⟩ = some (.int .u8 (zs.getD k 0))) :
    Calls Tryd.prog 6 #[.slice (some a) len cap] w fun e w' => e = .returned (.slice (some ⟨w.heap.size, 0, none⟩) len len) ∧ Below w.heap.size w w' ∧ w'.heap.size = w.heap.size + 1 ∧ Blk w' w.heap.size 5 (bytesV zs) := by
  have hq := fun w => Lib.run_eql_slice_nil (P := Tryd.prog) w 22 5 (some a) len cap 0 0 Tryd.underlying22
  have hm := make_bytes len (by omega)
  have hz := Blk.new w 5 (zeros len)
  go_enter Tryd.func6, Tryd.ntmps6
  go_wp2
  go_loopg [4] len (fun gk i wr => ∃ k : Nat, k ≤ len ∧ gk = len - k ∧ i = .int .i64 k ∧ Blk wr w.heap.size 5 (half zs k) ∧ Below w.heap.size w wr ∧ wr.heap.size = w.heap.size + 1)
  case atStart => exact ⟨0, Nat.zero_le _, rfl, rfl, by rw [half_zero, hl]; exact hz, (Below.refl _ _).alloc (Nat.le_refl _) _, by simp⟩
  case round =>
    obtain ⟨k, hk, hgk, rfl, hb, hbel, hsz⟩ := hrel
    by_cases hlt : k < len
    · obtain ⟨b, off, rfl, hck⟩ := hc k hlt
      obtain ⟨z, HZ⟩ : ∃ z, Hid (z = zs.getD k 0) := ⟨_, rfl⟩
      rw [← HZ.out] at hck
      have hcr := (hbel.cell (p := ⟨b, off + k, none⟩) (World.block_lt_of_cell? w ⟨b, off + k, none⟩ hck)).trans hck
      have h1 := hb.cell (half_at zs k (by omega))
      have f1 := hb.frozen k
      have hb' := hb.set k (.int .u8 z)
      rw [HZ.out, half_set zs k (by omega), ← HZ.out] at hb'
      have HB : Hid (Blk (wr.setCell ⟨w.heap.size, k, none⟩ (.int .u8 z)) w.heap.size 5 (half zs (k + 1))) := hb'
      clear hb' hq hm hz hc hck
      go_wp2
      go_roundg (len - (k + 1))
      case measure => omega
      case rel => exact ⟨k + 1, by omega, rfl, by go_num, HB.out, hbel.setCell (by simp) _, by simpa using hsz⟩
    · have hk' : k = zs.length := by omega
      have hb' : Hid (Blk wr w.heap.size 5 (bytesV zs)) := by show Blk _ _ _ _; rw [← half_all, ← hk']; exact hb
      clear hk' hq hm hz
      go_wp2
      go_ret
      exact ⟨rfl, hbel, hsz, hb'.out⟩

end Go.Proofs.Qxb6609416aDoor
