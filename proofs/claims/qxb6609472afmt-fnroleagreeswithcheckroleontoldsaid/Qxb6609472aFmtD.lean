import Derived.Test.Qxb6609472aFmtC
namespace Go.Proofs.Qxb6609472aFmt
open Go.RowKit

/-- n roles, each zero. -/
def roles0 (n : Nat) : List Value := (madeCells #[.string ByteArray.empty, .string ByteArray.empty, .string ByteArray.empty, .bool false, .slice none 0 0] (n * 5)).toList
theorem roles0_length (n : Nat) : (roles0 n).length = n * 5 := by
  unfold roles0
  rw [Array.length_toList, size_madeCells]
theorem info66 : (Tryf.prog.info? 66).map (fun i => (i.zero, i.size, i.bytes)) = some (some (.agg #[.string ByteArray.empty, .string ByteArray.empty, .string ByteArray.empty, .bool false, .slice none 0 0]), 5, 80) := by kernel_rfl
theorem make_roles (n : Nat) (h : n ≤ 65536) (w : World) : (Instr.makeSlice 41 (.int .i64 n) (.int .i64 n)).run Tryf.prog w = .ok (.slice (some ⟨w.heap.size, 0, none⟩) n n) (w.alloc (.cells (roles0 n).toArray 66)) := by
  obtain ⟨i, hi, he⟩ := Option.map_eq_some_iff.1 info66
  simp only [Prod.mk.injEq] at he
  obtain ⟨hz, hs, hb⟩ := he
  have := run_make (P := Tryf.prog) w 41 66 i _ Tryf.underlying41 hi hz .i64 .i64 n n (by omega) (Int.le_refl _) (by rw [hb]; omega) (by omega)
  rw [this, hs]
  simp [roles0, Value.cells]

abbrev rootS : ByteArray := { data := #[114, 111, 111, 116] }

/-- What zzRoleWorld lays: a world at block bW, with its roles, their index, and its one organisation. -/
def RoleWorld (w : World) (bW len : Nat) (ss : List ByteArray) : Prop :=
  ∃ (bRoles bIdx bOrg : Nat) (cs : List Value), w.cell? ⟨bW, 1, none⟩ = some (.slice (some ⟨bRoles, 0, none⟩) len len) ∧ w.cell? ⟨bW, 7, none⟩ = some (.map (some bIdx)) ∧ w.cell? ⟨bW, 6, none⟩ = some (.map (some bOrg)) ∧
    SMap w bIdx (idxFrom 0 ss) ∧ SMap w bOrg [(rootS, .int .i64 0)] ∧ Blk w bRoles 66 cs ∧ ∀ j, j < len → ∃ s, ss[j]? = some s ∧ cs[j * 5]? = some (.string s)

set_option maxHeartbeats 1000000 in
set_option maxRecDepth 100000 in
theorem roleWorld_any (a : Option Addr) (len cap : Nat) (ss : List ByteArray) (w : World) (hss : IsStrs w a len cap ss) (hlen : len ≤ 65536) :
    Calls Tryf.prog 14 #[.slice a len cap] w fun e w' => Below w.heap.size w w' ∧ (e = .returned (.tuple #[.pointer none, .bool false]) ∨ ∃ bW, e = .returned (.tuple #[.pointer (some ⟨bW, 0, none⟩), .bool true]) ∧ RoleWorld w' bW len ss) := by
  go_enter Tryf.func14, Tryf.ntmps14
  go_wp2_with fail
  refine (index_any a len cap ss w hss hlen).mono ?_
  rintro e w1 ⟨hb1, hz1, hcase⟩
  have HZ1 := hid hz1
  clear hz1
  rcases hcase with rfl | ⟨rfl, hm1⟩
  · go_wp2
    go_ret2
    exact ⟨hb1, .inl rfl⟩
  · have hmk := make_roles len hlen
    go_wp2_with fail
    clear hmk
    have hB := Blk.new w1 66 (roles0 len)
    go_loopg [7] len (fun gk i wr => ∃ (k : Nat) (cs : List Value), k ≤ len ∧ gk = len - k ∧ i = .int .i64 k ∧ Only (· = w1.heap.size) (w1.alloc (.cells (roles0 len).toArray 66)) wr ∧ Blk wr w1.heap.size 66 cs ∧ cs.length = len * 5 ∧ Hid (∀ j, j < k → ∃ s, ss[j]? = some s ∧ cs[j * 5]? = some (.string s)))
    case atStart => exact ⟨0, _, Nat.zero_le _, rfl, rfl, Only.refl _ _, hB, roles0_length len, fun j hj => absurd hj (by omega)⟩
    case round =>
      obtain ⟨k, cs, hk, hgk, rfl, ho, hb, hcl, hids⟩ := hrel
      by_cases hlt : k < len
      · obtain ⟨b, off, s, rfl, hsk, hs, hcell⟩ := hss.at hlt
        have hbl : b < w.heap.size := World.block_lt_of_cell? w ⟨b, off + k, none⟩ hcell
        have hc2 : wr.cell? ⟨b, off + k, none⟩ = some (.string s) := by
          have h1 := hb1.size
          rw [ho.cell (p := ⟨b, off + k, none⟩) (by dsimp only; omega), World.cell?_alloc_lt _ _ _ (by dsimp only; omega), hb1.cell (p := ⟨b, off + k, none⟩) hbl]
          exact hcell
        have hat : ∀ i, i < 5 → ∃ v, cs[k * 5 + i]? = some v := fun i hi => ⟨_, List.getElem?_eq_getElem (by omega)⟩
        obtain ⟨v0, e0⟩ := hat 0 (by omega)
        obtain ⟨v1, e1⟩ := hat 1 (by omega)
        obtain ⟨v2, e2⟩ := hat 2 (by omega)
        obtain ⟨v3, e3⟩ := hat 3 (by omega)
        obtain ⟨v4, e4⟩ := hat 4 (by omega)
        have c0 := hb.cell e0
        have c1 := hb.cell e1
        have c2 := hb.cell e2
        have c3 := hb.cell e3
        have c4 := hb.cell e4
        have f0 := hb.frozen (k * 5 + 0)
        have f1 := hb.frozen (k * 5 + 1)
        have f2 := hb.frozen (k * 5 + 2)
        have f3 := hb.frozen (k * 5 + 3)
        have f4 := hb.frozen (k * 5 + 4)
        rw [Nat.add_zero] at c0 f0
        have i1 : (k : Int) < (len : Int) := by omega
        clear e0 e1 e2 e3 e4 hat hcell
        go_wp2_with fail
        go_region
        have hb' := (((((hb.set (k * 5) (.string s)).set (k * 5 + 1) (.string s)).set (k * 5 + 2) (.string rootS)).set (k * 5 + 3) (.bool true)).set (k * 5 + 4) (.slice none 0 0)).drew
        have ho' := ((((((ho.set (p := ⟨w1.heap.size, k * 5, none⟩) rfl (.string s)).set (p := ⟨w1.heap.size, k * 5 + 1, none⟩) rfl (.string s)).set (p := ⟨w1.heap.size, k * 5 + 2, none⟩) rfl (.string rootS)).set (p := ⟨w1.heap.size, k * 5 + 3, none⟩) rfl (.bool true)).set (p := ⟨w1.heap.size, k * 5 + 4, none⟩) rfl (.slice none 0 0))).trans (Only.drew _ _)
        have HB := hid hb'
        have HO := hid ho'
        clear hb' ho' c0 c1 c2 c3 c4 f0 f1 f2 f3 f4 hc2
        go_wp2_with fail
        go_roundg (len - (k + 1))
        case measure => omega
        case rel =>
          refine ⟨k + 1, _, by omega, rfl, by go_num, HO.out, HB.out, by simp [hcl], ?_⟩
          intro j hj
          by_cases hjk : j = k
          · subst hjk
            exact ⟨s, hsk, by simp [List.getElem?_set]; omega⟩
          · obtain ⟨s', h1, h2⟩ := hids.out j (by omega)
            exact ⟨s', h1, by rw [List.getElem?_set_ne (by omega), List.getElem?_set_ne (by omega), List.getElem?_set_ne (by omega), List.getElem?_set_ne (by omega), List.getElem?_set_ne (by omega)]; exact h2⟩
      · have hkl : k = len := by omega
        have hm0 := SMap.new (wr.alloc (.cells #[.string rootS, .string rootS, .string ⟨#[]⟩] 77))
        rw [World.size_alloc] at hm0
        obtain ⟨w5, hup, hm5, ho5⟩ := hm0.update (P := Tryf.prog) Tryf.underlying28 Tryf.underlying9 rootS (.int .i64 0)
        have hmm := makeMap_bare
        have HU := hid hup
        have hs1 := hb1.size
        have hsr : w1.heap.size < wr.heap.size := hb.lt
        have hbr : Below w.heap.size w wr := (hb1.alloc hs1 _).trans (ho.below (fun x hx => by omega))
        have hb5 : Below w.heap.size w w5 := ((hbr.alloc hbr.size _).alloc (by simp; omega) _).trans (ho5.below (fun x hx => by omega))
        have hi5 : SMap w5 w.heap.size (idxFrom 0 ss) := ho5.smap (((ho.smap (hm1.alloc _) (by have := hm1.lt; omega)).alloc _).alloc _) (by omega)
        have hr5 : Blk w5 w1.heap.size 66 cs := ho5.blk ((hb.alloc _).alloc _) (by omega)
        rw [hkl] at hids
        go_wp2
        go_ret2
        refine ⟨hb5.alloc hb5.size _, .inr ⟨w5.heap.size, rfl, w1.heap.size, w.heap.size, wr.heap.size + 1, cs, ?_, ?_, ?_, hi5.alloc _, hm5.alloc _, hr5.alloc _, hids.out⟩⟩
        · exact (Blk.new w5 52 [_, _, _, _, _, _, _, _, _, _, _, _, _, _, _, _, _, _, _]).cell rfl
        · exact (Blk.new w5 52 [_, _, _, _, _, _, _, _, _, _, _, _, _, _, _, _, _, _, _]).cell rfl
        · exact (Blk.new w5 52 [_, _, _, _, _, _, _, _, _, _, _, _, _, _, _, _, _, _, _]).cell rfl

end Go.Proofs.Qxb6609472aFmt
