/- impl.Written: the text of a value (written by genW.py). -/
import Derived.Test.YtokmkkkanphihaaGreatRDoorYMar3
import Derived.Laws.IdiomStrings
namespace Go.Proofs.YtokmkkkanphihaaGreatRDoor
open Go.RowKit Go.Sort

/-- What the slices of a value hold, below block N. -/
def Subs (N : Nat) (w : World) : Val → Value → Value → Prop
  | .mk _ _ _ _ l ks, ls, kv =>
    (∃ ao c, ls = .slice ao l.length c ∧ (l = [] ∨ ∃ b2 o2, ao = some ⟨b2, o2, none⟩ ∧ PList N w l b2 o2)) ∧
    (∃ ao c, kv = .slice ao ks.length c ∧ (ks = [] ∨ ∃ b2 o2, ao = some ⟨b2, o2, none⟩ ∧ b2 < N ∧ ∀ j (h : j < ks.length), w.cell? ⟨b2, o2 + j, none⟩ = some (.string ks[j])))

/-- A value by value. -/
def aggV : Val → Value → Value → Array Value
  | .mk k i r t _ _, ls, kv => #[.int .i64 k, .int .i64 i, .float .f64 r, .string t, ls, kv]

mutual
theorem PVal.up {N M : Nat} {w : World} (hNM : N ≤ M) : ∀ {v : Val} {b o : Nat}, PVal N w v b o → PVal M w v b o
  | .mk k i r t l ks, b, o, h => by
    simp only [PVal] at h ⊢
    obtain ⟨hN, c0, c1, c2, c3, ⟨ao, c, c4, hl⟩, ⟨ako, ck, c5, hk⟩⟩ := h
    refine ⟨by omega, c0, c1, c2, c3, ⟨ao, c, c4, ?_⟩, ⟨ako, ck, c5, ?_⟩⟩
    · rcases hl with h | ⟨b2, o2, h1, h2⟩
      · exact .inl h
      · exact .inr ⟨b2, o2, h1, PList.up hNM h2⟩
    · rcases hk with h | ⟨b2, o2, h1, h2, h3⟩
      · exact .inl h
      · exact .inr ⟨b2, o2, h1, by omega, h3⟩
theorem PList.up {N M : Nat} {w : World} (hNM : N ≤ M) : ∀ {l : List Val} {b o : Nat}, PList N w l b o → PList M w l b o
  | [], _, _, _ => by simp [PList]
  | v :: vs, b, o, h => by
    simp only [PList] at h ⊢
    exact ⟨PVal.up hNM h.1, PList.up hNM h.2⟩
end

theorem Subs.step {N M : Nat} {w w' : World} (hNM : N ≤ M) (hb : ∀ k, k < N → w'.heap[k]? = w.heap[k]?) {v : Val} {ls kv : Value} (h : Subs N w v ls kv) : Subs M w' v ls kv := by
  obtain ⟨k, i, r, t, l, ks⟩ := v
  obtain ⟨⟨ao, c, c4, hl⟩, ⟨ako, ck, c5, hk⟩⟩ := h
  refine ⟨⟨ao, c, c4, ?_⟩, ⟨ako, ck, c5, ?_⟩⟩
  · rcases hl with h | ⟨b2, o2, h1, h2⟩
    · exact .inl h
    · exact .inr ⟨b2, o2, h1, (h2.step hb).up hNM⟩
  · rcases hk with h | ⟨b2, o2, h1, h2, h3⟩
    · exact .inl h
    · exact .inr ⟨b2, o2, h1, by omega, fun j hj => (World.cell?_of_block (hb b2 h2)).trans (h3 j hj)⟩

/-- A value that is boxed lies there. -/
theorem PVal_box {w : World} {v : Val} {ls kv : Value} (h : Subs w.heap.size w v ls kv) : PVal (w.heap.size + 1) (w.alloc (.cells (aggV v ls kv) 26)) v w.heap.size 0 := by
  obtain ⟨k, i, r, t, l, ks⟩ := v
  have h2 := h.step (M := w.heap.size + 1) (w' := w.alloc (.cells (aggV (.mk k i r t l ks) ls kv) 26)) (by omega) (fun k hk => heap_alloc_old w _ k hk)
  obtain ⟨⟨ao, c, rfl, hl⟩, ⟨ako, ck, rfl, hk⟩⟩ := h2
  simp only [PVal]
  have hc : ∀ j, (w.alloc (.cells (aggV (.mk k i r t l ks) (.slice ao l.length c) (.slice ako ks.length ck)) 26)).cell? ⟨w.heap.size, j, none⟩ = (aggV (.mk k i r t l ks) (.slice ao l.length c) (.slice ako ks.length ck))[j]? := fun j => World.cell?_alloc_new w _ _ j
  refine ⟨by omega, (hc 0).trans rfl, (hc 1).trans rfl, (hc 2).trans rfl, (hc 3).trans rfl, ⟨ao, c, (hc 4).trans rfl, hl⟩, ⟨ako, ck, (hc 5).trans rfl, hk⟩⟩

/-- 'string(b)' of a row of bytes. -/
theorem row_string {w W : World} {N : Nat} {v : Value} {l : List UInt8} (h : w.ownsRow N 5 1 v l.length (bvs l)) (hW : W.heap = w.heap) :
    (convert 36 9 v).run Tryz.prog W = .ok (.string ⟨l.toArray⟩) W := by
  have h' : W.ownsRow N 5 1 v l.length (bvs l) := by
    refine ⟨h.1, ?_⟩
    rcases h.2 with a | ⟨g, cap, cur, b1, b2, b3, b4⟩
    · exact .inl a
    · exact .inr ⟨g, cap, cur, b1, b2, by rw [hW]; exact b3, b4⟩
  rcases h'.2 with ⟨hv, hx⟩ | ⟨g, cap, cur, hv, hb⟩
  · have hl : l = [] := List.length_eq_zero_iff.1 hx
    subst hl
    subst hv
    rw [run_convert_bytes_string W 36 9 5 none 0 0 Tryz.underlying36 Tryz.underlying5 Tryz.underlying9]
    simp [Conv.bytesToString]
    rfl
  · have hc := h'.cells (g := g) (by rw [hv]; rfl)
    rw [hv]
    exact run_convert_bytes_back W 36 9 5 ⟨g, 0, none⟩ cap l Tryz.underlying36 Tryz.underlying5 Tryz.underlying9 (fun j hj => by
      have := hc j (bv l[j]) (by simp [bvs, hj])
      simpa [bv] using this)

def WrOut (w : World) (T : List UInt8) (ev : Ending) (w' : World) : Prop := ev = .returned (.tuple #[.string ⟨T.toArray⟩, .bool true]) ∧ Kp (fun _ => False) w w'

set_option maxHeartbeats 1600000 in
set_option maxRecDepth 100000 in
theorem Written_6 {w : World} {i way : Int} {r : Nat} {t : ByteArray} {ls kv : Value} {ao ako : Option Addr} {n c nk ck : Nat} {T : List UInt8} (hls : ls = .slice ao n c) (hkv : kv = .slice ako nk ck)
    (hC : Calls Tryz.prog 18 #[.iface 44 (.agg #[.pointer (some ⟨w.heap.size, 0, none⟩), .int .i64 way])] (w.alloc (.cells #[.int .i64 6, .int .i64 i, .float .f64 r, .string t, ls, kv] 26)) (Out (w.heap.size + 1) (w.alloc (.cells #[.int .i64 6, .int .i64 i, .float .f64 r, .string t, ls, kv] 26)) T)) :
    Calls Tryz.prog 10 #[.agg #[.int .i64 6, .int .i64 i, .float .f64 r, .string t, ls, kv], .int .i64 way] w (WrOut w T) := by
  subst hls hkv
  have hCH := Lib.hid hC
  clear hC
  go_enter Tryz.func10, Tryz.ntmps10
  go_wp2_with (go_at_call 18; refine hCH.out.mono ?_; rintro ev w3 ⟨vX, rfl, ho, hk⟩; have c1 := fun n => row_string (W := w3.drewN n) ho rfl; have c0 := row_string (W := w3) ho rfl; have hkH := Lib.hid hk; clear ho hk)
  go_quiet (fail)
  go_wp2_with fail
  go_ret2
  exact ⟨rfl, (((Kp.refl (fun _ => False) w).alloc _).trans hkH.out).drewN _⟩

set_option maxHeartbeats 1600000 in
set_option maxRecDepth 100000 in
theorem Written_7 {w : World} {i way : Int} {r : Nat} {t : ByteArray} {ls kv : Value} {ao ako : Option Addr} {n c nk ck : Nat} {T : List UInt8} (hls : ls = .slice ao n c) (hkv : kv = .slice ako nk ck)
    (hC : Calls Tryz.prog 19 #[.iface 44 (.agg #[.pointer (some ⟨w.heap.size, 0, none⟩), .int .i64 way])] (w.alloc (.cells #[.int .i64 7, .int .i64 i, .float .f64 r, .string t, ls, kv] 26)) (Out (w.heap.size + 1) (w.alloc (.cells #[.int .i64 7, .int .i64 i, .float .f64 r, .string t, ls, kv] 26)) T)) :
    Calls Tryz.prog 10 #[.agg #[.int .i64 7, .int .i64 i, .float .f64 r, .string t, ls, kv], .int .i64 way] w (WrOut w T) := by
  subst hls hkv
  have hCH := Lib.hid hC
  clear hC
  go_enter Tryz.func10, Tryz.ntmps10
  go_wp2_with (go_at_call 19; refine hCH.out.mono ?_; rintro ev w3 ⟨vX, rfl, ho, hk⟩; have c1 := fun n => row_string (W := w3.drewN n) ho rfl; have c0 := row_string (W := w3) ho rfl; have hkH := Lib.hid hk; clear ho hk)
  go_quiet (fail)
  go_wp2_with fail
  go_ret2
  exact ⟨rfl, (((Kp.refl (fun _ => False) w).alloc _).trans hkH.out).drewN _⟩

end Go.Proofs.YtokmkkkanphihaaGreatRDoor
