import Derived.Test.Qxb6612657aD
namespace Go.Proofs.Qxb6612657a
open Go.RowKit

/-- The entry of path, before File. -/
theorem Inv.before {w0 w : World} {r : Nat} {mv : Option Nat} {cur : Value} {l : List (ByteArray × Value)} {ks : List ByteArray} (h : Inv w0 w r mv cur l ks) (s : ByteArray) :
    ∃ pv, (assoc l s).getD (.pointer none) = .pointer pv ∧ (pv = none ∨ ∃ g', pv = some ⟨g', 0, none⟩ ∧ Blk w g' 42 dayC) := by
  cases ha : assoc l s with
  | none => exact ⟨none, rfl, .inl rfl⟩
  | some v =>
    obtain ⟨q, hq, rfl⟩ := assoc_mem ha
    obtain ⟨g, e, hb⟩ := h.vals q hq
    exact ⟨some ⟨g, 0, none⟩, e, .inr ⟨g, rfl, hb⟩⟩

theorem below_blk {B : Nat} {a w : World} (h : Below B a w) {g : Nat} {t : TypeId} {cs : List Value} (hb : Blk a g t cs) (hB : a.heap.size = B := by rfl) : Blk w g t cs := by
  unfold Blk
  rw [h.block g (by have := hb.lt; omega)]
  exact hb
theorem Inv.kept {w0 w w' : World} {r : Nat} {mv : Option Nat} {cur : Value} {l : List (ByteArray × Value)} {ks : List ByteArray} (h : Inv w0 w r mv cur l ks) (hb : Below w.heap.size w w') : Inv w0 w' r mv cur l ks := by
  refine ⟨h.bel.trans (hb.mono h.bel.size), h.hr, below_blk hb h.blk, ?_, h.hmr, h.hm, h.keys, ?_⟩
  · rcases h.fm with h1 | ⟨m, h1, h2⟩
    · exact .inl h1
    · exact .inr ⟨m, h1, below_smap hb h2 h2.lt⟩
  · intro q hq
    obtain ⟨g, e, h1⟩ := h.vals q hq
    exact ⟨g, e, below_blk hb h1⟩
theorem Inv.entry {w0 w : World} {r : Nat} {mv : Option Nat} {cur : Value} {l : List (ByteArray × Value)} {ks : List ByteArray} (h : Inv w0 w r mv cur l ks) {s : ByteArray} (hs : s ∈ ks) :
    ∃ g, assoc l s = some (Ptr g) := by
  obtain ⟨v, hv⟩ := assoc_some (l := l) (by rw [h.keys]; exact hs)
  obtain ⟨q, hq, e⟩ := assoc_mem hv
  obtain ⟨g, e', _⟩ := h.vals q hq
  exact ⟨g, by rw [hv, ← e, e']⟩

set_option maxHeartbeats 4000000 in
set_option maxRecDepth 100000 in
theorem law (a : Option Addr) (len cap : Nat) (ss : List ByteArray) (path : ByteArray) (w : World) (hss : IsStrs w a len cap ss) (hsz : path.size ≤ maxLen) :
    Calls Try.prog 3 #[.slice a len cap, .string path] w fun e w' => e = .returned (.bool true) ∧ Below w.heap.size w w' := by
  have hpl := hsz
  unfold maxLen at hpl
  go_enter Try.func3, Try.ntmps3
  go_wp2_with fail
  refine (zz_any a len cap ss path w hss hsz).mono ?_
  rintro e w1 ⟨⟨b, rfl⟩, rfl⟩
  cases b with
  | false =>
    go_wp2
    go_ret
    exact ⟨rfl, Below.refl _ _⟩
  | true =>
    by_cases hlen : len ≤ 65536
    · by_cases hpn : path.size ≤ 1048576
      · go_wp2_with fail
        refine (addLens_any _ a len cap ss w hss hlen).mono ?_
        rintro e w1 ⟨⟨n, rfl⟩, rfl⟩
        go_wp2_with fail
        · go_ret
          exact ⟨rfl, Below.refl _ _⟩
        · refine (newRec w).mono ?_
          rintro e w1 ⟨rfl, rfl⟩
          have HI : Hid (Inv w (w.alloc (.cells (recC none (.pointer none)).toArray 36)) w.heap.size none (.pointer none) [] (keysOf (ss.take 0))) :=
            ⟨(Below.refl _ _).alloc (Nat.le_refl _) _, Nat.le_refl _, Blk.new w 36 _, .inl ⟨rfl, rfl⟩, by simp, (fun _ h => by cases h), rfl, (fun _ h => by cases h)⟩
          go_wp2_with fail
          go_loopg [6] len (fun gk i wr => ∃ (k : Nat) (mv : Option Nat) (cur : Value) (l : List (ByteArray × Value)), k ≤ len ∧ gk = len - k ∧ i = .int .i64 k ∧ Inv w wr w.heap.size mv cur l (keysOf (ss.take k)))
          case atStart => exact ⟨0, none, _, [], Nat.zero_le _, rfl, rfl, HI.out⟩
          case round =>
            obtain ⟨k, mv, cur, l, hk, hgk, rfl, hinv⟩ := hrel
            clear HI
            by_cases hlt : k < len
            · obtain ⟨b, off, s, rfl, hsk, hs, hcell⟩ := (hss.kept hinv.bel).at hlt
              have HK := hid (keysOf_take ss k s hsk)
              have HN := hid hinv
              clear hinv hsk
              go_wp2_with fail
              refine (file_any w.heap.size mv cur l s wr HN.out.blk HN.out.fm HN.out.hmr).mono ?_
              rintro e w2 ⟨rfl, hfd⟩
              obtain ⟨m, g, hinv2, _, _, _, _⟩ := HN.out.step hfd
              rw [← HK.out] at hinv2
              have HN2 := hid hinv2
              clear hinv2 HN HK hfd hcell
              go_wp2_with fail
              go_roundg (len - (k + 1))
              case measure => omega
              case rel => exact ⟨k + 1, _, _, _, by omega, rfl, by go_num, HN2.out⟩
            · rw [List.take_of_length_le (by have := hss.1; omega)] at hinv
              obtain ⟨pv, hpv, hpb⟩ := hinv.before path
              have hf8 := fileAt w.heap.size mv cur l path wr hinv.blk hinv.fm
              rw [hpv] at hf8
              have HF := hid hf8
              have HN := hid hinv
              clear hf8 hpv hinv
              go_wp2_with fail
              refine HF.out.mono ?_
              rintro e w2 ⟨rfl, rfl⟩
              clear HF
              go_wp2_with fail
              refine (file_any w.heap.size mv cur l path wr HN.out.blk HN.out.fm HN.out.hmr).mono ?_
              rintro e w2 ⟨rfl, hfd⟩
              obtain ⟨m, g, hinv2, hsm, hg, hd, hkeep⟩ := HN.out.step hfd
              have hpb2 : pv = none ∨ ∃ g', pv = some ⟨g', 0, none⟩ ∧ g ≠ g' ∧ Blk w2 g' 42 dayC := by
                rcases hpb with h | ⟨g', h, hb⟩
                · exact .inl h
                · exact .inr ⟨g', h, by have := hb.lt; omega, hkeep g' hb⟩
              have HP := hid hpb2
              have HN2 := hid hinv2
              have HS := hid hsm
              have HD := hid hd
              clear hpb hpb2 hkeep hd hsm hg hinv2 hfd HN
              have hmk := makeMap30
              go_wp2_with fail
              clear hmk
              generalize hL : putAt path (Ptr g) l = L at HN2 HS
              go_loopg [9] len (fun gk i wx => ∃ (k : Nat) (seen : List (ByteArray × Value)), k ≤ len ∧ gk = len - k ∧ i = .int .i64 k ∧ SMap wx w2.heap.size seen ∧ seen.map (·.1) = keysOf (ss.take k) ∧ Only (· = w2.heap.size) (w2.alloc (.map #[] 0)) wx)
              case atStart => exact ⟨0, [], Nat.zero_le _, rfl, rfl, SMap.new w2, rfl, Only.refl _ _⟩
              case round =>
                obtain ⟨k, seen, hk, hgk, rfl, hse, hks, hox⟩ := hrel
                have hbx : Below w.heap.size w wr := (HN2.out.bel.alloc HN2.out.bel.size _).trans (hox.below (fun x hx => by have := HN2.out.bel.size; omega))
                by_cases hlt : k < len
                · obtain ⟨b, off, s, rfl, hsk, hs, hcell⟩ := (hss.kept hbx).at hlt
                  have hkt := keysOf_take ss k s hsk
                  obtain ⟨w5, hup, hse5, ho5⟩ := hse.update (P := Try.prog) Try.underlying30 Try.underlying9 s (.bool true)
                  have HK : Hid ((putAt s (.bool true) seen).map (·.1) = keysOf (ss.take (k + 1))) := by
                    show (putAt s (.bool true) seen).map (·.1) = keysOf (ss.take (k + 1))
                    rw [keys_putAt, hks, hkt]
                  have HS5 := hid hse5
                  have HO5 := hid (hox.trans ho5)
                  clear hse5 ho5 hse hks hox hkt hsk hbx
                  go_wp2_with fail
                  go_roundg (len - (k + 1))
                  case measure => omega
                  case rel => exact ⟨k + 1, _, by omega, rfl, by go_num, HS5.out, HK.out, HO5.out⟩
                · rw [List.take_of_length_le (by have := hss.1; omega)] at hks
                  obtain ⟨w5, hup, hse5, ho5⟩ := hse.update (P := Try.prog) Try.underlying30 Try.underlying9 path (.bool true)
                  have hbl : Below w2.heap.size w2 w5 := ((Below.refl _ _).alloc (Nat.le_refl _) _).trans ((hox.trans ho5).below (fun x hx => by omega))
                  have hn : (putAt path (.bool true) seen).length = L.length := by
                    have h1 : (putAt path (.bool true) seen).map (·.1) = L.map (·.1) := by rw [keys_putAt, hks, HN2.out.keys]
                    simpa using congrArg List.length h1
                  have hlen5 := hse5.len (P := Try.prog) Try.underlying30 3
                  rw [hn] at hlen5
                  have hL5 : assoc L path = some (Ptr g) := by rw [← hL]; exact assoc_putAt path _ l
                  have hI5 : Inv w w5 w.heap.size (some m) (Ptr g) L (addK (keysOf ss) path) := HN2.out.kept hbl
                  have hS5 : SMap w5 m L := below_smap hbl HS.out HS.out.lt
                  have hD5 : Blk w5 g 42 dayC := below_blk hbl HD.out
                  have heqb : (binOp .eql 28 (Ptr g) (.pointer pv)).run Try.prog w5 = .ok (.bool false) w5 := by
                    rcases HP.out with rfl | ⟨g', rfl, hne, hb'⟩
                    · exact run_eql_pointer_nil w5 28 _ Try.underlying28
                    · exact eql_other hne hD5 (below_blk hbl hb')
                  have hneq := neq_same g w5
                  have H9 := hid (fileCount w.heap.size m (Ptr g) L w5 hI5.blk hS5)
                  have h8 := fileAt w.heap.size (some m) (Ptr g) L path w5 hI5.blk hI5.fm
                  rw [hL5] at h8
                  have H8 := hid h8
                  have H10 := hid (current w.heap.size (some m) g w5 hI5.blk)
                  have H11 := hid (dayCount g w5 hD5)
                  have HI5 := hid hI5
                  clear hse hse5 ho5 hox hks hbl hn h8 hI5 hS5 hD5 hL5 HP HN2 HS HD hL hbx
                  generalize L.length = n2 at hlen5 H9
                  go_wp2_with fail
                  refine H9.out.mono ?_
                  rintro e w6 ⟨rfl, rfl⟩
                  clear H9 hup
                  go_wp2_with fail
                  refine H10.out.mono ?_
                  rintro e w6 ⟨rfl, rfl⟩
                  clear H10 hlen5
                  go_wp2_with fail
                  refine H8.out.mono ?_
                  rintro e w6 ⟨rfl, rfl⟩
                  clear H8
                  simp only [Option.getD_some]
                  go_wp2_with fail
                  refine H11.out.mono ?_
                  rintro e w6 ⟨rfl, rfl⟩
                  clear H11 heqb hneq
                  go_wp2_with fail
                  go_loopg [11] len (fun gk i wx => ∃ k : Nat, k ≤ len ∧ gk = len - k ∧ i = .int .i64 k ∧ w5 = wx)
                  case atStart => exact ⟨0, Nat.zero_le _, rfl, rfl, rfl⟩
                  case round =>
                    obtain ⟨k, hk, hgk, rfl, rfl⟩ := hrel
                    by_cases hlt : k < len
                    · obtain ⟨b, off, s, rfl, hsk, hs, hcell⟩ := (hss.kept HI5.out.bel).at hlt
                      obtain ⟨g3, hg3⟩ := HI5.out.entry (s := s) (addK_mem (.inl (keysOf_mem (List.mem_of_getElem? hsk))))
                      have h8 := fileAt w.heap.size (some m) (Ptr g) L s w5 HI5.out.blk HI5.out.fm
                      rw [hg3] at h8
                      have H8 := hid h8
                      clear h8 hg3 hsk
                      go_wp2_with fail
                      refine H8.out.mono ?_
                      rintro e w6 ⟨rfl, rfl⟩
                      clear H8
                      simp only [Option.getD_some]
                      go_wp2_with fail
                      go_roundg (len - (k + 1))
                      case measure => omega
                      case rel => exact ⟨k + 1, by omega, rfl, by go_num, rfl⟩
                    · go_wp2_with fail
                      go_ret
                      exact ⟨rfl, HI5.out.bel⟩
      · go_wp2
        go_ret
        exact ⟨rfl, Below.refl _ _⟩
    · go_wp2
      go_ret
      exact ⟨rfl, Below.refl _ _⟩

end Go.Proofs.Qxb6612657a
