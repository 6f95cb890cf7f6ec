import Derived.Test.Qxb6609472aFmtB
namespace Go.Proofs.Qxb6609472aFmt
open Go.RowKit

theorem putAt_none (s : ByteArray) (v : Value) : ∀ (l : List (ByteArray × Value)), assoc l s = none → putAt s v l = l ++ [(s, v)]
  | [], _ => rfl
  | p :: r, h => by
    by_cases he : s = p.1
    · simp [assoc, he] at h
    · have : assoc (p :: r) s = assoc r s := by simp [assoc, he]
      rw [this] at h
      simp [putAt, he, putAt_none s v r h]

/-- Each id with its position, from i on. -/
def idxFrom : Nat → List ByteArray → List (ByteArray × Value)
  | _, [] => []
  | i, s :: r => (s, .int .i64 i) :: idxFrom (i + 1) r
theorem idxFrom_append : ∀ (l r : List ByteArray) (i : Nat), idxFrom i (l ++ r) = idxFrom i l ++ idxFrom (i + l.length) r
  | [], r, i => rfl
  | s :: l, r, i => by
    simp only [List.cons_append, idxFrom, idxFrom_append l r (i + 1), List.length_cons]
    rw [show i + 1 + l.length = i + (l.length + 1) by omega]
theorem assoc_idx (x : ByteArray) : ∀ (ss : List ByteArray) (i : Nat), (assoc (idxFrom i ss) x = none ∧ hasB ss x = false) ∨ ∃ j, ss[j]? = some x ∧ assoc (idxFrom i ss) x = some (.int .i64 (i + j : Nat)) ∧ hasB ss x = true
  | [], _ => .inl ⟨rfl, rfl⟩
  | s :: r, i => by
    by_cases he : x = s
    · exact .inr ⟨0, by simp [he], by simp [assoc, idxFrom, he], by simp [hasB, he]⟩
    · have h1 : assoc (idxFrom i (s :: r)) x = assoc (idxFrom (i + 1) r) x := by simp [assoc, idxFrom, he]
      have h2 : hasB (s :: r) x = hasB r x := by simp [hasB, Ne.symm he]
      rcases assoc_idx x r (i + 1) with ⟨a, b⟩ | ⟨j, a, b, c⟩
      · exact .inl ⟨by rw [h1, a], by rw [h2, b]⟩
      · refine .inr ⟨j + 1, by simpa using a, ?_, by rw [h2, c]⟩
        rw [h1, b]
        congr 3
        omega

theorem zero3 (w : World) : (zeroValue 3).run Tryf.prog w = .ok (.int .i64 0) w := by kernel_rfl
theorem makeMap_hint (n : Int) (w : World) : (Instr.makeMap 28 (some (.int .i64 n))).run Tryf.prog w = .ok (.map (some w.heap.size)) (w.alloc (.map #[] 0)) := by kernel_rfl
theorem makeMap_bare (w : World) : (Instr.makeMap 28 none).run Tryf.prog w = .ok (.map (some w.heap.size)) (w.alloc (.map #[] 0)) := by kernel_rfl

set_option maxHeartbeats 1000000 in
/-- zzIndex. -/
theorem index_any (a : Option Addr) (len cap : Nat) (ss : List ByteArray) (w : World) (hss : IsStrs w a len cap ss) (hlen : len ≤ 65536) :
    Calls Tryf.prog 21 #[.slice a len cap] w fun e w' => Below w.heap.size w w' ∧ w'.heap.size = w.heap.size + 1 ∧
      (e = .returned (.tuple #[.map none, .bool false]) ∨ (e = .returned (.tuple #[.map (some w.heap.size), .bool true]) ∧ SMap w' w.heap.size (idxFrom 0 ss))) := by
  have hmk := makeMap_hint
  go_enter Tryf.func21, Tryf.ntmps21
  go_wp2
  clear hmk
  go_loopg [5, 6, 7] len (fun gk i _ _ wr => ∃ k : Nat, k ≤ len ∧ gk = len - k ∧ i = .int .i64 k ∧ Below w.heap.size w wr ∧ wr.heap.size = w.heap.size + 1 ∧ SMap wr w.heap.size (idxFrom 0 (ss.take k)))
  case atStart => exact ⟨0, Nat.zero_le _, rfl, rfl, (Below.refl _ _).alloc (Nat.le_refl _) _, by simp, SMap.new w⟩
  case round =>
    obtain ⟨k, hk, hgk, rfl, hbel, hsz, hm⟩ := hrel
    by_cases hlt : k < len
    · obtain ⟨b, off, s, rfl, hsk, hs, hcell⟩ := hss.at hlt
      have hc' := (hbel.cell (p := ⟨b, off + k, none⟩) (World.block_lt_of_cell? w _ hcell)).trans hcell
      have hlook := hm.lookup (P := Tryf.prog) Tryf.underlying28 Tryf.underlying9 (zero3 wr) s true
      obtain ⟨w2, hup, hm2, ho2⟩ := hm.update (P := Tryf.prog) Tryf.underlying28 Tryf.underlying9 s (.int .i64 k)
      cases hq : assoc (idxFrom 0 (ss.take k)) s with
      | none =>
        simp only [hq, Option.getD_none, Option.isSome_none, if_true] at hlook
        rw [putAt_none s _ _ hq] at hm2
        have hk1 : Hid (SMap w2 w.heap.size (idxFrom 0 (ss.take (k + 1)))) := by
          have hkl : k < ss.length := (List.getElem?_eq_some_iff.1 hsk).1
          have e : ss[k] = s := (List.getElem?_eq_some_iff.1 hsk).2
          show SMap _ _ _
          rw [List.take_succ_eq_append_getElem hkl, e, idxFrom_append]
          have l : (ss.take k).length = k := by rw [List.length_take]; omega
          rw [l, Nat.zero_add]; exact hm2
        have HB : Hid (Below w.heap.size w w2) := hbel.trans (ho2.below (fun x hx => by omega))
        have HZ : Hid (w2.heap.size = w.heap.size + 1) := ho2.size.trans hsz
        clear hm2 ho2 hm hbel hsz hsk hcell hq
        go_wp2
        go_roundg (len - (k + 1))
        case measure => omega
        case rel => exact ⟨k + 1, by omega, rfl, by go_num, HB.out, HZ.out, hk1.out⟩
      | some v =>
        simp only [hq, Option.getD_some, Option.isSome_some, if_true] at hlook
        clear hm2 ho2 hm hq hup
        go_wp2
        go_ret2
        exact ⟨hbel, hsz, .inl rfl⟩
    · rw [List.take_of_length_le (by have := hss.1; omega)] at hm
      go_wp2
      go_ret2
      exact ⟨hbel, hsz, .inr ⟨rfl, hm⟩⟩

end Go.Proofs.Qxb6609472aFmt
