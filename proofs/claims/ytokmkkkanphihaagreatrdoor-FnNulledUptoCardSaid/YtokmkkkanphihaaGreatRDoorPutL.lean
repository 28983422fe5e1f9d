/- The loops of impl.tree: MarshalJSONArray and MarshalJSONObject (written by genL.py). -/
import Derived.Test.YtokmkkkanphihaaGreatRDoorPutB
namespace Go.Proofs.YtokmkkkanphihaaGreatRDoor
open Go.RowKit Go.Sort

theorem low_alloc {w0 w : World} {N : Nat} (h : ∀ k, k < N → w.heap[k]? = w0.heap[k]?) (hN : N ≤ w.heap.size) (x : Obj) : ∀ k, k < N → (w.alloc x).heap[k]? = w0.heap[k]? :=
  fun k hk => (heap_alloc_old w x k (by omega)).trans (h k hk)


set_option maxHeartbeats 1600000 in
set_option maxRecDepth 100000 in
theorem marA_2 {w0 : World} {b0 : Option Nat} {N e b o : Nat} {k i : Int} {r : Nat} {t : ByteArray} {l : List Val} {ks : List ByteArray} (hB : Base w0 b0 N) (hP : PVal N w0 (.mk k i r t l ks) b o) (hG : GoodL l) (hlen : l.length ≤ lim)
    (ih : ∀ j (h : j < l.length), PutC 148 2 l[j]) :
    Writes 145 (treeV b o 2) w0 b0 N e 91 (listT (redL 2 l) true) (costL l) := by
  refine ⟨listT_len 2 l true hG, ?_⟩
  intro w s hE ho hhk hks hroom
  have hPH := Lib.hid hP
  have hlow0 := hE.low hB
  simp only [PVal] at hP
  obtain ⟨hbN, _, _, _, _, ⟨ao, cc, c4, hl⟩, _⟩ := hP
  have hlen' : l.length ≤ 1099511627776 := hlen
  obtain ⟨bb, hE1, hB1, hbb, hes, hNs, hlift⟩ := hE.boxed hB (.cells #[.pointer (some ⟨b, o, none⟩), .int .i64 2] 44)
  have hlow1 : ∀ k, k < N → (w.alloc (.cells #[.pointer (some ⟨b, o, none⟩), .int .i64 2] 44)).heap[k]? = w0.heap[k]? := low_alloc hlow0 hNs _
  have d4 : w.cell? ⟨b, o + 4, none⟩ = some (.slice ao l.length cc) := (World.cell?_of_block (hlow0 b hbN)).trans c4
  have hH := Lib.hid (And.intro hE1 (And.intro hB1 (And.intro hbb (And.intro hlift (And.intro hlow1 (And.intro hlow0 (And.intro c4 (And.intro ho (And.intro hhk (And.intro hks hroom))))))))))
  have hlH := Lib.hid hl
  have ihH := Lib.hid ih
  have hbw : b < w.heap.size := by omega
  clear hE1 hB1 hbb hlift hlow1 hlow0 c4 ho hhk hks hroom hl ih hE hlen
  unfold treeV
  go_enter Tryz.func145, Tryz.ntmps145
  go_wp2_with fail
  go_loopw [12] (fun c wr => ∃ j : Nat, j ≤ l.length ∧ c = .int .i64 j ∧ Hid (EncF (w.alloc (.cells #[.pointer (some ⟨b, o, none⟩), .int .i64 2] 44)) bb N e (s.add (listT (redL 2 (l.take j)) true)) wr)) (fun c _ => l.length - (intOf c).toNat)
  case atStart => exact ⟨0, Nat.zero_le _, rfl, Lib.hid (by simpa [redL, listT, St.add_nil] using hH.out.1)⟩
  case round =>
    obtain ⟨j, hj, rfl, hEr⟩ := hrel
    obtain ⟨hE1, hB1, hbb, hlift, hlow1, hlow0, c4, ho, hhk, hks, hroom⟩ := hH.out
    by_cases hlt : j < l.length
    · obtain ⟨b2, o2, rfl, hPL⟩ : ∃ b2 o2, ao = some ⟨b2, o2, none⟩ ∧ PList N w0 l b2 o2 := by
        rcases hlH.out with h | h
        · subst h; simp at hlt
        · exact h
      have k0 : wr.cell? ⟨w.heap.size, 0, none⟩ = some (.pointer (some ⟨b, o, none⟩)) := by
        rw [hEr.out.keep (by simp) (by omega) hbb]; rw [World.cell?_alloc_new]; rfl
      have k1 : wr.cell? ⟨w.heap.size, 1, none⟩ = some (.int .i64 2) := by
        rw [hEr.out.keep (by simp) (by omega) hbb]; rw [World.cell?_alloc_new]; rfl
      have k4 : wr.cell? ⟨b, o + 4, none⟩ = some (.slice (some ⟨b2, o2, none⟩) l.length cc) := by
        rw [hEr.out.cell_low hB1 hbN, World.cell?_of_block (hlow1 b hbN)]; exact c4
      have hput : ∃ c, (itemT c 91 (item 2 l[j])).length = (itemT c 91 (item 2 l[j])).length ∧ Calls Tryz.prog 148 #[.pointer (some ⟨e, 0, none⟩), .pointer (some ⟨b2, o2 + 6 * j, none⟩)] wr fun ev w' => ev = .returned (.tuple #[]) ∧ EncF (w.alloc (.cells #[.pointer (some ⟨b, o, none⟩), .int .i64 2] 44)) bb N e (s.add (listT (redL 2 (l.take (j + 1))) true)) w' := by
        obtain ⟨x, c, hx, hc, hc3⟩ := list_end (way := 2) (hG.take j) ho
        refine ⟨c, rfl, ?_⟩
        have hr := list_room (way := 2) hG hlt
        have := ihH.out j hlt _ wr bb N e (s.add (listT (redL 2 (l.take j)) true)) b2 (o2 + 6 * j) c x hB1 ((hPL.at j hlt).step hlow1) hEr.out hx hc3 hhk hks (by rw [St.add_out, List.length_append]; omega)
        rw [St.add_add] at this
        have e1 : l.take (j + 1) = l.take j ++ [l[j]] := List.take_succ_eq_append_getElem hlt
        rw [e1, list_snoc hc]
        exact this
      obtain ⟨_, _, hput⟩ := hput
      have hputH := Lib.hid hput
      clear hput hE1 hB1 hbb hlift hlow1 hlow0 c4 ho hhk hks hroom hEr hPL
      have e6 : o2 + j * 6 = o2 + 6 * j := by omega
      have e6H := Lib.hid e6
      clear e6
      go_wp2_with (go_at_call 148; rw [e6H.out]; refine hputH.out.mono ?_; rintro ev w2 ⟨rfl, hR⟩; have hRH := Lib.hid hR; clear hR)
      go_roundw
      case rel => exact ⟨j + 1, by omega, by go_num, hRH⟩
      case measure => simp [intOf]; omega
    · have hje : j = l.length := by omega
      have hfin : EncF w0 b0 N e (s.add (listT (redL 2 l) true)) wr := by
        have := hlift _ _ hEr.out
        rwa [hje, List.take_length] at this
      have hfinH := Lib.hid hfin
      clear hfin hE1 hB1 hbb hlift hlow1 hlow0 c4 ho hhk hks hroom hEr hje
      go_wp2_with fail
      go_end0
      exact ⟨rfl, hfinH.out⟩


set_option maxHeartbeats 1600000 in
set_option maxRecDepth 100000 in
theorem marO_2 {w0 : World} {b0 : Option Nat} {N e b o : Nat} {k i : Int} {r : Nat} {t : ByteArray} {l : List Val} {ks : List ByteArray} (hB : Base w0 b0 N) (hP : PVal N w0 (.mk k i r t l ks) b o) (hG : GoodL l) (hlen : l.length ≤ lim) (hkl : ks.length = l.length)
    (ih : ∀ j (h : j < l.length), PutK 151 2 l[j]) :
    Writes 146 (treeV b o 2) w0 b0 N e 123 (membT (redL 2 l) (redK 2 l ks) true) (costL l + costK ks) := by
  refine ⟨membT_len 2 l ks true hG, ?_⟩
  intro w s hE ho hhk hks hroom
  have hlow0 := hE.low hB
  simp only [PVal] at hP
  obtain ⟨hbN, _, _, _, _, ⟨ao, cc, c4, hl⟩, ⟨ako, ck, c5, hk⟩⟩ := hP
  have hlen' : l.length ≤ 1099511627776 := hlen
  obtain ⟨bb, hE1, hB1, hbb, hes, hNs, hlift⟩ := hE.boxed hB (.cells #[.pointer (some ⟨b, o, none⟩), .int .i64 2] 44)
  have hlow1 : ∀ k, k < N → (w.alloc (.cells #[.pointer (some ⟨b, o, none⟩), .int .i64 2] 44)).heap[k]? = w0.heap[k]? := low_alloc hlow0 hNs _
  have d4 : w.cell? ⟨b, o + 4, none⟩ = some (.slice ao l.length cc) := (World.cell?_of_block (hlow0 b hbN)).trans c4
  rw [hkl] at c5
  have hH := Lib.hid (And.intro hE1 (And.intro hB1 (And.intro hbb (And.intro hlift (And.intro hlow1 (And.intro hlow0 (And.intro c4 (And.intro ho (And.intro hhk (And.intro hks (And.intro hroom (And.intro hkl c5))))))))))))
  have hlH := Lib.hid hl
  have hkH := Lib.hid hk
  have ihH := Lib.hid ih
  have hbw : b < w.heap.size := by omega
  clear hE1 hB1 hbb hlift hlow1 hlow0 c4 ho hhk hks hroom hl ih hE hlen hkl c5 hk
  unfold treeV
  go_enter Tryz.func146, Tryz.ntmps146
  go_wp2_with fail
  go_loopw [13] (fun c wr => ∃ j : Nat, j ≤ l.length ∧ c = .int .i64 j ∧ Hid (EncF (w.alloc (.cells #[.pointer (some ⟨b, o, none⟩), .int .i64 2] 44)) bb N e (s.add (membT (redL 2 (l.take j)) (redK 2 (l.take j) (ks.take j)) true)) wr)) (fun c _ => l.length - (intOf c).toNat)
  case atStart => exact ⟨0, Nat.zero_le _, rfl, Lib.hid (by simpa [redL, membT, St.add_nil] using hH.out.1)⟩
  case round =>
    obtain ⟨j, hj, rfl, hEr⟩ := hrel
    obtain ⟨hE1, hB1, hbb, hlift, hlow1, hlow0, c4, ho, hhk, hks, hroom, hkl, c5⟩ := hH.out
    by_cases hlt : j < l.length
    · obtain ⟨b2, o2, rfl, hPL⟩ : ∃ b2 o2, ao = some ⟨b2, o2, none⟩ ∧ PList N w0 l b2 o2 := by
        rcases hlH.out with h | h
        · subst h; simp at hlt
        · exact h
      obtain ⟨b3, o3, rfl, hb3, hkey⟩ : ∃ b3 o3, ako = some ⟨b3, o3, none⟩ ∧ b3 < N ∧ ∀ j (h : j < ks.length), w0.cell? ⟨b3, o3 + j, none⟩ = some (.string ks[j]) := by
        rcases hkH.out with h | h
        · subst h; simp at hkl; omega
        · exact h
      have k0 : wr.cell? ⟨w.heap.size, 0, none⟩ = some (.pointer (some ⟨b, o, none⟩)) := by
        rw [hEr.out.keep (by simp) (by omega) hbb]; rw [World.cell?_alloc_new]; rfl
      have k1 : wr.cell? ⟨w.heap.size, 1, none⟩ = some (.int .i64 2) := by
        rw [hEr.out.keep (by simp) (by omega) hbb]; rw [World.cell?_alloc_new]; rfl
      have k4 : wr.cell? ⟨b, o + 4, none⟩ = some (.slice (some ⟨b2, o2, none⟩) l.length cc) := by
        rw [hEr.out.cell_low hB1 hbN, World.cell?_of_block (hlow1 b hbN)]; exact c4
      have k5 : wr.cell? ⟨b, o + 5, none⟩ = some (.slice (some ⟨b3, o3, none⟩) l.length ck) := by
        rw [hEr.out.cell_low hB1 hbN, World.cell?_of_block (hlow1 b hbN)]; exact c5
      have k6 : wr.cell? ⟨b3, o3 + j, none⟩ = some (.string (ks[j]'(by omega))) := by
        rw [hEr.out.cell_low hB1 hb3, World.cell?_of_block (hlow1 b3 hb3)]; exact hkey j (by omega)
      have hput : ∀ nq, Calls Tryz.prog 151 #[.pointer (some ⟨e, 0, none⟩), .string (ks[j]'(by omega)), .pointer (some ⟨b2, o2 + 6 * j, none⟩)] (wr.drewN nq) fun ev w' => ev = .returned (.tuple #[]) ∧ EncF (w.alloc (.cells #[.pointer (some ⟨b, o, none⟩), .int .i64 2] 44)) bb N e (s.add (membT (redL 2 (l.take (j + 1))) (redK 2 (l.take (j + 1)) (ks.take (j + 1))) true)) w' := by
        intro nq
        obtain ⟨x, c, hx, hc⟩ := memb_end (way := 2) (ks := ks.take j) (hG.take j) ho
        have hr := memb_room (way := 2) hG hkl hlt
        have := ihH.out j hlt _ (wr.drewN nq) bb N e (s.add (membT (redL 2 (l.take j)) (redK 2 (l.take j) (ks.take j)) true)) b2 (o2 + 6 * j) c x (ks[j]'(by omega)) hB1 ((hPL.at j hlt).step hlow1) (hEr.out.drewN nq) hx hhk hks (by rw [St.add_out, List.length_append]; omega)
        rw [St.add_add] at this
        rw [memb_take hlt hkl hc]
        exact this
      have hputH := Lib.hid hput
      have hj0 : (0 : Int) ≤ (j : Int) := by omega
      have hj1 : (j : Int) < (l.length : Int) := by omega
      generalize hkj : (ks[j]'(by omega)) = kj at *
      clear hput hE1 hB1 hbb hlift hlow1 hlow0 c4 ho hhk hks hroom hEr hPL c5 hkl hkey hkj
      have e6H := Lib.hid (show o2 + j * 6 = o2 + 6 * j by omega)
      go_wp2_with fail
      go_quiet (fail)
      go_wp2_with (go_at_call 151; rw [e6H.out]; refine (hputH.out _).mono ?_; rintro ev w2 ⟨rfl, hR⟩; have hRH := Lib.hid hR; clear hR)
      go_roundw
      case rel => exact ⟨j + 1, by omega, by go_num, hRH⟩
      case measure => simp [intOf]; omega
    · have hje : j = l.length := by omega
      have hfin : EncF w0 b0 N e (s.add (membT (redL 2 l) (redK 2 l ks) true)) wr := by
        have := hlift _ _ hEr.out
        rw [hje, List.take_length] at this
        rwa [← hkl, List.take_length] at this
      have hfinH := Lib.hid hfin
      clear hfin hE1 hB1 hbb hlift hlow1 hlow0 c4 ho hhk hks hroom hEr hje c5 hkl
      go_wp2_with fail
      go_end0
      exact ⟨rfl, hfinH.out⟩


end Go.Proofs.YtokmkkkanphihaaGreatRDoor
