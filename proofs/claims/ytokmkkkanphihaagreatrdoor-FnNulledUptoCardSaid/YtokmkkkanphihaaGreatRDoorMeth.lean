/- What the encoder's methods for plain values are walked with. -/
import Derived.Test.YtokmkkkanphihaaGreatRDoorAppend
import Derived.Test.YtokmkkkanphihaaGreatRDoorYEnc
namespace Go.Proofs.YtokmkkkanphihaaGreatRDoor
open Go.RowKit Go.Sort

/-- The tables that strconv reads lie where they lay, below N. -/
structure Tabs (N : Nat) (w : World) : Prop where
  pow : ∀ p, p ≤ 25 → PowAt w p
  tab : Lib.TabIs Tryz.prog w "internal/strconv.uint64pow10" .u64 Lib.pow10Tab
  g1 : 2 < N
  g2 : 1 < N
  size : N ≤ w.heap.size

theorem Tabs.step {N : Nat} {w w' : World} (h : Tabs N w) (hb : ∀ k, k < N → w'.heap[k]? = w.heap[k]?) (hs : w.heap.size ≤ w'.heap.size) : Tabs N w' := by
  refine ⟨fun p hp => ?_, ?_, h.g1, h.g2, Nat.le_trans h.size hs⟩
  · obtain ⟨a, b⟩ := h.pow p hp
    exact ⟨(World.cell?_of_block (hb _ h.g1)).trans a, (World.cell?_of_block (hb _ h.g1)).trans b⟩
  · have ht := h.tab
    unfold Lib.TabIs World.var? at *
    have e : Tryz.prog.globalNamed "internal/strconv.uint64pow10" = some 1 := by kernel_rfl
    rw [e] at ht ⊢
    simp only [Option.bind_some] at ht ⊢
    rw [hb _ h.g2]; exact ht

/-- The encoder at e with its own row, above N; the tables below it. -/
structure Base (w0 : World) (b0 : Option Nat) (N : Nat) : Prop where
  tabs : Tabs N w0
  own : ∀ g, b0 = some g → N ≤ g

theorem EncF.tabs {w0 w : World} {b0 : Option Nat} {N e : Nat} {s : St} (h : EncF w0 b0 N e s w) (hb : Base w0 b0 N) : Tabs N w := by
  obtain ⟨bb, hE, hF⟩ := h
  obtain ⟨v, h1, _, _, hNe⟩ := hE
  refine hb.tabs.step (fun k hk => hF.block k (Nat.lt_of_lt_of_le hk hb.tabs.size) (by omega) ?_) hF.size
  intro hx
  have := hb.own k hx.symm
  omega

/-- The row's block lies in the memory, and is not the next one. -/
theorem own_lt {w : World} {N n : Nat} {v : Value} {xs : List Value} (h : w.ownsRow N 5 1 v n xs) : ∀ g, v.ownBlock = some g → N ≤ g ∧ g < w.heap.size := by
  intro g hg
  obtain ⟨_, a2⟩ := h
  rcases a2 with ⟨hv, _⟩ | ⟨g', cap, cur, b1, b2, b3, b4⟩
  · subst hv
    cases hg
  · subst b1
    have hgg : g' = g := Option.some.inj hg
    subst hgg
    refine ⟨b2, ?_⟩
    rcases Nat.lt_or_ge g' w.heap.size with h | h
    · exact h
    · rw [Array.getElem?_eq_none h] at b3; cases b3

theorem EncF.cast {w0 w : World} {b0 : Option Nat} {N e : Nat} {s s2 : St} (h : EncF w0 b0 N e s w) (hs : s = s2) : EncF w0 b0 N e s2 w := hs ▸ h

theorem own_form {w : World} {N n : Nat} {v : Value} {xs : List Value} (h : w.ownsRow N 5 1 v n xs) : ∃ ao l c, v = .slice ao l c := by
  rcases h.2 with ⟨hv, _⟩ | ⟨g', cap, cur, b1, _⟩
  · exact ⟨_, _, _, hv⟩
  · exact ⟨_, _, _, b1⟩

theorem EncF.putTo {w0 w w2 : World} {b0 bb : Option Nat} {N e : Nat} {s : St} {t : List UInt8} {v v2 : Value} (h : Enc w N e bb s) (hF : Fr e b0 w0 w bb) (hob : v.ownBlock = bb) (hB : BufTo w N v (s.out ++ t) v2 w2) :
    EncF w0 b0 N e (s.add t) (w2.setCell ⟨e, 0, none⟩ v2) := by
  subst hob
  exact EncF.put h hF ⟨w, fun _ _ => rfl, Nat.le_refl _, rfl, rfl, rfl, hB.grown⟩ hB.own hB.lies

theorem kept0 {w w2 : World} {bb : Option Nat} {N e : Nat} {s : St} {t : List UInt8} {v v2 : Value} (h : Enc w N e bb s) (hob : v.ownBlock = bb) (hB : BufTo w N v t v2 w2) (i : Nat) :
    w2.cell? ⟨e, i, none⟩ = w.cell? ⟨e, i, none⟩ ∧ w2.frozen? ⟨e, i, none⟩ = w.frozen? ⟨e, i, none⟩ := by
  have he := h.cells.choose_spec.2.2.2.2.2.2.2.2.1
  obtain ⟨_, _, _, hne, _⟩ := h
  have hk := hB.grown.block e he (by rw [hob]; exact Ne.symm hne)
  exact ⟨World.cell?_of_block hk, World.frozen?_of_block hk⟩

theorem grow_at {w0 w : World} {b0 : Option Nat} {N e : Nat} {s : St} (x : Int) (n : Nat) (hx : x = (n : Int)) (h : EncF w0 b0 N e s w) (hn : n ≤ lim) (hlen : s.out.length ≤ lim) :
    Calls Tryz.prog 30 #[.pointer (some ⟨e, 0, none⟩), .int .i64 x] w fun ev w' => ev = .returned (.tuple #[]) ∧ EncF w0 b0 N e s w' := by
  subst hx
  exact grow_any h hn hlen

theorem writeString_at {w0 w : World} {b0 : Option Nat} {N e : Nat} {s : St} (t : ByteArray) (k : Nat) (hk : t.size = k) (h : EncF w0 b0 N e s w) (hpos : 0 < k) (hlen : s.out.length + k ≤ lim) :
    Calls Tryz.prog 70 #[.pointer (some ⟨e, 0, none⟩), .string t] w fun ev w' => ev = .returned (.tuple #[]) ∧ EncF w0 b0 N e (s.add t.data.toList) w' := by
  subst hk
  exact writeString_any t h hpos hlen

/-- A comma, where something stands before. -/
def sepT (c c0 : UInt8) : List UInt8 := if c = c0 then [] else [44]
end Go.Proofs.YtokmkkkanphihaaGreatRDoor
