/- How a value that comes in reads: as a tree of values, with bounds by its bulk. -/
import Derived.Test.YtokmkkkanphihaaGreatRDoorRow
import Derived.Test.YtokmkkkanphihaaGreatRDoorRows
import Derived.SliceStrings
import Derived.OpenShut
import Derived.Laws.Cover2
import Derived.Lib.LaidTab
namespace Go.Proofs.YtokmkkkanphihaaGreatRDoor
open Go.RowKit Go.Sort Go.ChangeShapes Go.WideShapes

/-- A value, and the datum that it reads as. -/
def RdV {H : Type} (v : Val) (d : DataW H) : Prop := (Rows.uptoBulk d ≤ 1048576 → WfV v) ∧ cost v + 10 ≤ 2100 * Rows.uptoBulk d
def RdL {H : Type} (l : List Val) (es : List (DataW H)) : Prop := (Rows.uptoBulkAll es ≤ 1048576 → WfL l) ∧ costL l ≤ 2100 * Rows.uptoBulkAll es

theorem plist_of {H : Type} {N : Nat} {w : World} {b : Nat} : ∀ (es : List (DataW H)) (o : Nat), (∀ i (h : i < es.length), ∃ v, PVal N w v b (o + 6 * i) ∧ RdV v es[i]) → ∃ l : List Val, l.length = es.length ∧ PList N w l b o ∧ RdL l es
  | [], o, _ => ⟨[], rfl, by simp [PList], by simp [RdL, WfL, costL]⟩
  | e :: es, o, h => by
    obtain ⟨v, h1, h2⟩ := h 0 (by simp)
    obtain ⟨l, k1, k2, k3⟩ := plist_of es (o + 6) fun i hi => by
      obtain ⟨v, a, b⟩ := h (i + 1) (by simpa using hi)
      exact ⟨v, by rw [show o + 6 + 6 * i = o + 6 * (i + 1) by omega]; exact a, b⟩
    have h2' : RdV v e := h2
    have h1' : PVal N w v b o := h1
    refine ⟨v :: l, by simp [k1], by simp only [PList]; exact ⟨h1', k2⟩, fun hb => ?_, ?_⟩
    · simp only [Rows.uptoBulkAll] at hb
      simp only [WfL]
      exact ⟨h2'.1 (by omega), k3.1 (by omega)⟩
    · have a1 := h2'.2
      have a2 := k3.2
      simp only [costL, Rows.uptoBulkAll]
      omega

theorem costK_strs {H : Type} : ∀ l : List ByteArray, costK l ≤ 2100 * Rows.uptoBulkAll (strs l : List (DataW H))
  | [] => by simp [costK]
  | s :: l => by
    have h := costK_strs (H := H) l
    have e : (strs (s :: l) : List (DataW H)) = .lit (.string s.data.toList) :: strs l := rfl
    have hs : s.data.toList.length = s.size := rfl
    rw [e]
    simp only [costK, Rows.uptoBulkAll, Rows.uptoBulk]
    omega

theorem strs_le {H : Type} : ∀ (l : List ByteArray) (j : Nat) (h : j < l.length), l[j].size ≤ Rows.uptoBulkAll (strs l : List (DataW H))
  | [], j, h => by simp at h
  | s :: l, 0, _ => by
    have e : (strs (s :: l) : List (DataW H)) = .lit (.string s.data.toList) :: strs l := rfl
    have hs : s.data.toList.length = s.size := rfl
    rw [e]
    simp only [Rows.uptoBulkAll, Rows.uptoBulk, List.getElem_cons_zero]
    omega
  | s :: l, j + 1, h => by
    have := strs_le (H := H) l j (by simpa using h)
    have e : (strs (s :: l) : List (DataW H)) = .lit (.string s.data.toList) :: strs l := rfl
    rw [e]
    simp only [Rows.uptoBulkAll, List.getElem_cons_succ]
    omega

theorem bulk_len {H : Type} : ∀ l : List (DataW H), l.length ≤ Rows.uptoBulkAll l
  | [] => by simp
  | d :: l => by
    have h1 : 1 ≤ Rows.uptoBulk d := by
      cases d with
      | lit l => cases l <;> simp [Rows.uptoBulk]
      | _ => simp [Rows.uptoBulk]
    have := bulk_len l
    simp only [Rows.uptoBulkAll, List.length_cons]
    omega

theorem c26 : Tryz.prog.cellsOf 26 = 6 := by kernel_rfl
theorem cOf (t : TypeId) (h : t = 2 ∨ t = 22 ∨ t = 9 ∨ t = 23 ∨ t = 24) : Tryz.prog.cellsOf t = 1 := by
  rcases h with rfl | rfl | rfl | rfl | rfl <;> kernel_rfl

theorem spot_none {w : World} {b o : Nat} {s : Option Nat} {v : Value} (h : w.cell? ⟨b, o, s⟩ = some v) : s = none := by
  unfold World.cell? at h
  split at h
  · split at h
    · cases h
    · rename_i hs; simpa using hs
  · cases h

theorem add_none (b o n : Nat) : (⟨b, o, none⟩ : Addr).add n = ⟨b, o + n, none⟩ := by
  unfold Addr.add
  split
  · rename_i h
    have : n = 0 := by simpa using h
    subst this
    rfl
  · rfl

theorem list6 {cs : List Value} (h : cs.length = 6) : ∃ a b c d e f, cs = [a, b, c, d, e, f] := by
  match cs, h with
  | [a, b, c, d, e, f], _ => exact ⟨a, b, c, d, e, f, rfl⟩

section
variable {H : Type} {enc : TypeId × Value → H} {W : World} {sp : Nat → Bool} {held : Bool}

set_option maxRecDepth 100000 in
theorem trod_f64 {n : Nat} {cs : List Value} {x : DataW H × List MemPlace} (h : DataW.trod enc Tryz.prog W 0 sp held n 22 cs = some x) : ∃ b, cs = [.float .f64 b] ∧ x = (.lit (.float .f64 b), []) ∧ (Lit.float .f64 b).wf = true := by
  cases n with
  | zero => simp [DataW.trod] at h
  | succ n =>
    unfold DataW.trod at h
    rw [Tryz.underlying22] at h
    split at h <;> simp_all

/-- A list of values, out of how its elements read. -/
theorem read_list {n : Nat} (ih : ∀ cs x, DataW.trod enc Tryz.prog W 0 sp held n 26 cs = some x → ∃ v ls kv, cs = (aggV v ls kv).toList ∧ Subs W.heap.size W v ls kv ∧ RdV v x.1)
    {a : Addr} {len : Nat} {elems : List (DataW H × List MemPlace)} (hlen : elems.length = len)
    (hel : ∀ i, i < len → (W.cells? 0 (a.add (i * Tryz.prog.cellsOf 26)) (Tryz.prog.cellsOf 26)).bind (DataW.trod enc Tryz.prog W 0 sp held n 26) = elems[i]?) :
    ∃ l : List Val, l.length = len ∧ (l = [] ∨ ∃ b2 o2, some a = some ⟨b2, o2, none⟩ ∧ PList W.heap.size W l b2 o2) ∧ RdL l (elems.map (·.1)) := by
  rcases Nat.eq_zero_or_pos len with h0 | h0
  · have he : elems = [] := List.length_eq_zero_iff.1 (by omega)
    subst he
    exact ⟨[], by simp; omega, .inl rfl, by simp [RdL, WfL, costL]⟩
  · obtain ⟨b, o, s⟩ := a
    have hs : s = none := by
      have h1 := hel 0 h0
      rw [c26, List.getElem?_eq_getElem (by omega), Option.bind_eq_some_iff] at h1
      obtain ⟨cs, hc, _⟩ := h1
      have h2 := World.cells?_some hc
      have h3 := h2.2.2 0 (by decide)
      rw [List.getElem?_eq_getElem (by omega)] at h3
      have h4 : W.cell? ⟨b, o, s⟩ = some cs[0] := h3
      exact spot_none h4
    subst hs
    have each : ∀ i (hi : i < len), ∃ v ls kv, Subs W.heap.size W v ls kv ∧ RdV v (elems[i]'(by omega)).1 ∧ ∀ j (hj : j < 6), W.cell? ⟨b, o + 6 * i + j, none⟩ = some ((aggV v ls kv)[j]'(by obtain ⟨k, i, r, t, l, ks⟩ := v; exact hj)) := by
      intro i hi
      have h1 := hel i hi
      rw [c26, List.getElem?_eq_getElem (by omega), Option.bind_eq_some_iff] at h1
      obtain ⟨cs, hc, ht⟩ := h1
      obtain ⟨v, ls, kv, rfl, hS, hR⟩ := ih cs _ ht
      refine ⟨v, ls, kv, hS, hR, fun j hj => ?_⟩
      have h2 := (World.cells?_some hc).2.2 j hj
      rw [add_none, add_none, show o + i * 6 + j = o + 6 * i + j by omega] at h2
      rw [h2]
      obtain ⟨k, i, r, t, l, ks⟩ := v
      rcases j with _ | _ | _ | _ | _ | _ | j
      · rfl
      · rfl
      · rfl
      · rfl
      · rfl
      · rfl
      · omega
    obtain ⟨l, k1, k2, k3⟩ := plist_of (N := W.heap.size) (w := W) (b := b) (elems.map (·.1)) o fun i hi => by
      have hi' : i < len := by simpa [hlen] using hi
      obtain ⟨v, ls, kv, hS, hR, hc⟩ := each i hi'
      refine ⟨v, ?_, by simpa using hR⟩
      obtain ⟨k, i2, r, t, l, ks⟩ := v
      obtain ⟨⟨ao, c, rfl, hl⟩, ⟨ako, ck, rfl, hk⟩⟩ := hS
      simp only [PVal]
      have hb := World.block_lt_of_cell? W _ (hc 0 (by decide))
      exact ⟨hb, hc 0 (by decide), hc 1 (by decide), hc 2 (by decide), hc 3 (by decide), ⟨ao, c, hc 4 (by decide), hl⟩, ⟨ako, ck, hc 5 (by decide), hk⟩⟩
    exact ⟨l, by rw [k1]; simpa using hlen, .inr ⟨b, o, rfl, k2⟩, k3⟩

theorem read_keys {n : Nat} {cs : List Value} {x : DataW H × List MemPlace} (h : DataW.trod enc Tryz.prog W 0 sp held n 24 cs = some x) :
    ∃ kv, cs = [kv] ∧ ∃ ks : List ByteArray, (∃ ao c, kv = .slice ao ks.length c ∧ (ks = [] ∨ ∃ b2 o2, ao = some ⟨b2, o2, none⟩ ∧ b2 < W.heap.size ∧ ∀ j (h : j < ks.length), W.cell? ⟨b2, o2 + j, none⟩ = some (.string ks[j]))) ∧
      (∀ j (h : j < ks.length), ks[j].size ≤ Rows.uptoBulk x.1) ∧ ks.length ≤ Rows.uptoBulk x.1 ∧ costK ks ≤ 2100 * Rows.uptoBulk x.1 := by
  rcases open_strings Tryz.underlying24 Tryz.underlying9 (cOf _ (by simp)) h with ⟨rfl, rfl⟩ | ⟨a, len, cap, ss, rfl, _, hlc, _, hsl, rfl, hcell, _⟩
  · exact ⟨_, rfl, [], ⟨none, 0, rfl, .inl rfl⟩, fun j h => by simp at h, by simp, by simp [costK]⟩
  · have hle : len ≤ ss.length := by rw [hsl]; split <;> omega
    have htl : (ss.take len).length = len := by rw [List.length_take]; omega
    refine ⟨_, rfl, ss.take len, ⟨some a, cap, by rw [htl], ?_⟩, fun j h => ?_, ?_, ?_⟩
    · rcases Nat.eq_zero_or_pos len with h0 | h0
      · left; rw [h0]; rfl
      · right
        obtain ⟨b, o, s⟩ := a
        have hs : s = none := by
          have h4 : W.cell? ⟨b, o, s⟩ = some _ := hcell 0 (by omega)
          exact spot_none h4
        subst hs
        have hc : ∀ j (h : j < (ss.take len).length), W.cell? ⟨b, o + j, none⟩ = some (.string (ss.take len)[j]) := fun j h => by
          have h1 := hcell j (by omega)
          rw [add_none] at h1
          have h2 : ss.getD j ByteArray.empty = (ss.take len)[j] := by rw [List.getElem_take]; simp [List.getD, List.getElem?_eq_getElem (show j < ss.length by omega)]
          rw [← h2]
          exact h1
        exact ⟨b, o, rfl, World.block_lt_of_cell? W _ (hc 0 (by omega)), hc⟩
    · have := strs_le (H := H) (ss.take len) j h
      simp only [Rows.uptoBulk]
      omega
    · have := bulk_len (strs (ss.take len) : List (DataW H))
      have h2 : (strs (ss.take len) : List (DataW H)).length = (ss.take len).length := by simp [strs]
      simp only [Rows.uptoBulk]
      omega
    · have := costK_strs (H := H) (ss.take len)
      simp only [Rows.uptoBulk]
      omega

/-- HOW A VALUE READS. -/
theorem read_val : ∀ (fuel : Nat) (cs : List Value) (x : DataW H × List MemPlace), DataW.trod enc Tryz.prog W 0 sp held fuel 26 cs = some x → ∃ v ls kv, cs = (aggV v ls kv).toList ∧ Subs W.heap.size W v ls kv ∧ RdV v x.1 := by
  intro fuel
  induction fuel using Nat.strongRecOn with
  | _ fuel ih =>
    intro cs x h
    obtain ⟨xs, n, rfl, rfl, hcl, hxl, hf⟩ := DataW.trod_struct Tryz.underlying26 h
    rw [c26] at hcl
    obtain ⟨a0, a1, a2, a3, a4, a5, rfl⟩ := list6 hcl
    have hx6 : xs.length = 6 := hxl
    have g : ∀ (i : Nat) (hi : i < xs.length), xs[i]? = some xs[i] := fun i hi => List.getElem?_eq_getElem hi
    have f0 := hf 0 { name := "Kind", type := 2, offset := 0, embedded := false, tag := "", pkgPath := "", byteOffset := 0 } rfl
    have f1 := hf 1 { name := "Int", type := 2, offset := 1, embedded := false, tag := "", pkgPath := "", byteOffset := 8 } rfl
    have f2 := hf 2 { name := "Real", type := 22, offset := 2, embedded := false, tag := "", pkgPath := "", byteOffset := 16 } rfl
    have f3 := hf 3 { name := "Text", type := 9, offset := 3, embedded := false, tag := "", pkgPath := "", byteOffset := 24 } rfl
    have f4 := hf 4 { name := "List", type := 23, offset := 4, embedded := false, tag := "", pkgPath := "", byteOffset := 40 } rfl
    have f5 := hf 5 { name := "Keys", type := 24, offset := 5, embedded := false, tag := "", pkgPath := "", byteOffset := 64 } rfl
    dsimp only at f0 f1 f2 f3 f4 f5
    simp only [cOf 2 (by simp), cOf 22 (by simp), cOf 9 (by simp), cOf 23 (by simp), cOf 24 (by simp)] at f0 f1 f2 f3 f4 f5
    obtain ⟨y0, y1, y2, y3, y4, y5, rfl⟩ : ∃ y0 y1 y2 y3 y4 y5, xs = [y0, y1, y2, y3, y4, y5] := by
      match xs, hx6 with
      | [a, b, c, d, e, f], _ => exact ⟨a, b, c, d, e, f, rfl⟩
    have f0' : DataW.trod enc Tryz.prog W 0 sp held n 2 [a0] = some y0 := f0
    have f1' : DataW.trod enc Tryz.prog W 0 sp held n 2 [a1] = some y1 := f1
    have f2' : DataW.trod enc Tryz.prog W 0 sp held n 22 [a2] = some y2 := f2
    have f3' : DataW.trod enc Tryz.prog W 0 sp held n 9 [a3] = some y3 := f3
    have f4' : DataW.trod enc Tryz.prog W 0 sp held n 23 [a4] = some y4 := f4
    have f5' : DataW.trod enc Tryz.prog W 0 sp held n 24 [a5] = some y5 := f5
    obtain ⟨k, e0, rfl, hk⟩ := DataW.trod_int Tryz.underlying2 f0'
    obtain ⟨i, e1, rfl, hi⟩ := DataW.trod_int Tryz.underlying2 f1'
    obtain ⟨r, e2, rfl, hr⟩ := trod_f64 f2'
    obtain ⟨t, e3, rfl, ht⟩ := DataW.trod_string Tryz.underlying9 f3'
    obtain ⟨kv, e5, ks, hks, hk1, hk2, hk3⟩ := read_keys f5'
    simp only [List.cons.injEq, and_true] at e0 e1 e2 e3 e5
    subst e0 e1 e2 e3 e5
    obtain ⟨l, hl, hR⟩ : ∃ l : List Val, (∃ ao c, a4 = .slice ao l.length c ∧ (l = [] ∨ ∃ b2 o2, ao = some ⟨b2, o2, none⟩ ∧ PList W.heap.size W l b2 o2)) ∧ ((Rows.uptoBulk y4.1 ≤ 1048576 → WfL l) ∧ costL l + 10 ≤ 2100 * Rows.uptoBulk y4.1) ∧ l.length ≤ Rows.uptoBulk y4.1 := by
      rcases DataW.trod_slice Tryz.underlying23 f4' with ⟨h1, rfl⟩ | ⟨a, len, cap, elems, rest, m, hm, h1, rfl, _, _, _, hlen, hel, _⟩
      · simp only [List.cons.injEq, and_true] at h1
        exact ⟨[], ⟨none, 0, h1, .inl rfl⟩, ⟨fun _ => by simp [WfL], by simp [costL, Rows.uptoBulk]⟩, by simp⟩
      · simp only [List.cons.injEq, and_true] at h1
        obtain ⟨l, l1, l2, l3⟩ := read_list (fun cs x h => ih m (by omega) cs x h) hlen hel
        have hb := bulk_len (elems.map (·.1))
        have hb2 : (elems.map (·.1)).length = len := by simpa using hlen
        refine ⟨l, ⟨some a, cap, by rw [l1]; exact h1, l2⟩, ⟨fun h => l3.1 ?_, ?_⟩, ?_⟩
        · simp only [Rows.uptoBulk] at h; omega
        · have := l3.2; simp only [Rows.uptoBulk]; omega
        · simp only [Rows.uptoBulk]; omega
    refine ⟨.mk k i r t l ks, a4, _, rfl, ⟨hl, hks⟩, fun hb => ?_, ?_⟩
    · simp only [List.map_cons, List.map_nil, Rows.uptoBulk, Rows.uptoBulkAll] at hb
      simp only [WfV]
      have hts : t.data.toList.length = t.size := rfl
      simp only [Lit.wf, decide_eq_true_eq] at hk hi hr
      have hmn : IntKind.i64.min = -9223372036854775808 := by decide
      have hmx : IntKind.i64.max = 9223372036854775807 := by decide
      rw [hmn, hmx, Bool.and_eq_true, decide_eq_true_eq, decide_eq_true_eq] at hk hi
      exact ⟨hk, hi, hr, by unfold lim; omega, by unfold lim; omega, by unfold lim; omega, fun j hj => by have := hk1 j hj; unfold lim; omega, hR.1.1 (by omega)⟩
    · have hts : t.data.toList.length = t.size := rfl
      have := hR.1.2
      simp only [List.map_cons, List.map_nil, Rows.uptoBulk, Rows.uptoBulkAll, cost]
      omega
end
end Go.Proofs.YtokmkkkanphihaaGreatRDoor

/- The tables that strconv reads, out of what the rows list. -/
namespace Go.Proofs.YtokmkkkanphihaaGreatRDoor
open Go.RowKit Go.Sort Go.ChangeShapes Go.WideShapes

theorem laid_tail {P : Program} {w : World} {n : String} {d : DataW Unit} {r : List (String × DataW Unit)} {ps : List MemPlace} (h : DataW.LaidVars P w ((n, d) :: r) ps) : ∃ q, DataW.LaidVars P w r q := by
  obtain ⟨g, t, cs, fuel, p, q, _, _, _, _, hq, _⟩ := h
  exact ⟨q, hq⟩

theorem laid_head {P : Program} {w : World} {n : String} {d : DataW Unit} {r : List (String × DataW Unit)} {ps : List MemPlace} {g : Nat} {t : TypeId} (hg : P.globalNamed n = some g) (ht : (P.globals[g]?).map (·.type) = some t) (h : DataW.LaidVars P w ((n, d) :: r) ps) :
    ∃ cs fuel p, w.var? P n = some cs ∧ DataW.trod (fun _ => ()) P w 0 (fun _ => true) false fuel t cs.toList = some (d, p) := by
  obtain ⟨g', t', cs, fuel, p, q, hg', ht', hvar, hd, _, _⟩ := h
  obtain rfl := Option.some.inj (hg.symm.trans hg')
  obtain rfl := Option.some.inj (ht.symm.trans ht')
  exact ⟨cs, fuel, p, hvar, hd⟩

theorem gP64 : Tryz.prog.globalNamed "internal/strconv.uint64pow10" = some 1 := by kernel_rfl
theorem gP64t : (Tryz.prog.globals[1]?).map (·.type) = some 162 := by kernel_rfl
theorem gPow : Tryz.prog.globalNamed "internal/strconv.pow10Tab" = some 2 := by kernel_rfl
theorem gPowt : (Tryz.prog.globals[2]?).map (·.type) = some 182 := by kernel_rfl
theorem cP64 : Tryz.prog.cellsOf 162 = 20 := by kernel_rfl
theorem cU64 : Tryz.prog.cellsOf 92 = 1 := by kernel_rfl
theorem cHiLo : Tryz.prog.cellsOf 181 = 2 := by kernel_rfl
theorem tabP64 : (Rows.laid_internal_strconv_uint64pow10 : DataW Unit) = Lib.tabData .u64 Lib.pow10Tab := by kernel_rfl

theorem pow_rows : ∀ p : Fin 26, Go.Pinned.pow10Rows[p.val + 348]? = some (Fl.pm p.val, 0) := by decide +kernel

theorem var_cell {P : Program} {w : World} {n : String} {g : Nat} {cs : Array Value} (hg : P.globalNamed n = some g) (h : w.var? P n = some cs) (i : Nat) : w.cell? ⟨g, i, none⟩ = cs[i]? := by
  unfold World.var? at h
  rw [hg] at h
  simp only [Option.bind_some] at h
  unfold World.cell?
  split at h
  · rename_i c t f hc
    simp only [Option.some.injEq] at h
    subst h
    simp [hc]
  · cases h
def hiLo (x : Nat × Nat) : DataW Unit := .agg [.lit (.int .u64 x.1), .lit (.int .u64 x.2)]
theorem agg_out {xs ys : List (DataW Unit)} (h : DataW.agg xs = DataW.agg ys) : ys = xs := by injection h with h; exact h.symm
theorem pow_at {w : World} {fuel : Nat} {cs : Array Value} {p : List MemPlace} (hvar : w.var? Tryz.prog "internal/strconv.pow10Tab" = some cs)
    (hd : DataW.trod (fun _ => ()) Tryz.prog w 0 (fun _ => true) false fuel 182 cs.toList = some (Go.Pinned.pow10Tab, p)) : ∀ q, q ≤ 25 → PowAt w q := by
  intro q hq
  have hrow := pow_rows ⟨q, by omega⟩
  obtain ⟨xs, m, rfl, hx, _, hxl, he⟩ := DataW.trod_array Tryz.underlying182 hd
  have h2 : xs.map (·.1) = Go.Pinned.pow10Rows.map hiLo := agg_out (congrArg Prod.fst hx)
  have hi : q + 348 < xs.length := by omega
  have h4 := he (q + 348) (by omega)
  rw [cHiLo, List.getElem?_eq_getElem hi] at h4
  have h5 : xs[q + 348].1 = DataW.agg [.lit (.int .u64 (Fl.pm q : Nat)), .lit (.int .u64 0)] := by
    have h6 := congrArg (fun l => l[q + 348]?) h2
    simp only [List.getElem?_map, hrow, List.getElem?_eq_getElem hi, Option.map_some, Option.some.injEq] at h6
    exact h6
  obtain ⟨ys, m2, _, hy, hyl, hyx, hf⟩ := DataW.trod_struct Tryz.underlying181 h4
  have f0 := hf 0 { name := "hi", type := 92, offset := 0, embedded := false, tag := "", pkgPath := "internal/strconv", byteOffset := 0 } rfl
  have f1 := hf 1 { name := "lo", type := 92, offset := 1, embedded := false, tag := "", pkgPath := "internal/strconv", byteOffset := 8 } rfl
  dsimp only at f0 f1
  rw [cU64] at f0 f1
  rw [cHiLo] at hyl
  have hy2 : ys.length = 2 := hyx
  obtain ⟨y0, y1, rfl⟩ : ∃ y0 y1, ys = [y0, y1] := by
    match ys, hy2 with
    | [a, b], _ => exact ⟨a, b, rfl⟩
  have hyd : xs[q + 348].1 = DataW.agg [y0.1, y1.1] := by rw [hy]; rfl
  rw [h5] at hyd
  injection hyd with hyd
  injection hyd with e0 hyd
  injection hyd with e1 _
  have g0 : DataW.trod (fun _ => ()) Tryz.prog w 0 (fun _ => true) false m2 92 (List.take 1 (List.drop 0 (List.take 2 (List.drop ((q + 348) * 2) cs.toList)))) = some y0 := f0
  have g1 : DataW.trod (fun _ => ()) Tryz.prog w 0 (fun _ => true) false m2 92 (List.take 1 (List.drop 1 (List.take 2 (List.drop ((q + 348) * 2) cs.toList)))) = some y1 := f1
  obtain ⟨n0, hc0, hy0, _⟩ := DataW.trod_int Tryz.underlying92 g0
  obtain ⟨n1, hc1, hy1, _⟩ := DataW.trod_int Tryz.underlying92 g1
  rw [hy0] at e0
  rw [hy1] at e1
  injection e0 with e0
  injection e0 with _ e0
  injection e1 with e1
  injection e1 with _ e1
  subst e0 e1
  have k0 : cs[(q + 348) * 2]? = some (.int .u64 (Fl.pm q : Nat)) := by
    have := congrArg (fun l => l[0]?) hc0
    simp only [List.getElem?_take, List.getElem?_drop, List.getElem?_cons_zero] at this
    simpa using this
  have k1 : cs[(q + 348) * 2 + 1]? = some (.int .u64 0) := by
    have := congrArg (fun l => l[0]?) hc1
    simp only [List.getElem?_take, List.getElem?_drop, List.getElem?_cons_zero] at this
    simpa using this
  exact ⟨(var_cell gPow hvar _).trans k0, (var_cell gPow hvar _).trans k1⟩

/-- WHAT THE ROWS LIST GIVES: the tables lie where they lie. -/
theorem laid_tabs {w : World} (h : laidMetH Tryz.prog Rows.fnInARowRow.laid w) : Tabs w.heap.size w := by
  have h' : laidMet Tryz.prog Rows.fnInARowRow.laid w := h
  obtain ⟨ps, hL, _⟩ := h'
  have hL0 : DataW.LaidVars Tryz.prog w [("math/bits.deBruijn32tab", Rows.laid_math_bits_deBruijn32tab), ("math/bits.deBruijn64tab", Rows.laid_math_bits_deBruijn64tab), ("internal/strconv.optimize", Rows.laid_internal_strconv_optimize), ("internal/strconv.uint64pow10", Rows.laid_internal_strconv_uint64pow10), ("internal/strconv.leftcheats", Rows.laid_internal_strconv_leftcheats), ("internal/strconv.pow10Tab", Rows.laid_internal_strconv_pow10Tab)] ps := hL
  obtain ⟨p1, hL1⟩ := laid_tail hL0
  obtain ⟨p2, hL2⟩ := laid_tail hL1
  obtain ⟨p3, hL3⟩ := laid_tail hL2
  obtain ⟨p4, hL4⟩ := laid_tail hL3
  obtain ⟨p5, hL5⟩ := laid_tail hL4
  obtain ⟨cs, fuel, q, hv, hd⟩ := laid_head gP64 gP64t hL3
  obtain ⟨cs2, fuel2, q2, hv2, hd2⟩ := laid_head gPow gPowt hL5
  have hpow := pow_at hv2 hd2
  have htab : Lib.TabIs Tryz.prog w "internal/strconv.uint64pow10" .u64 Lib.pow10Tab := by
    unfold Lib.TabIs
    rw [tabP64] at hd
    rw [hv, ← Lib.cells_of_tab Tryz.underlying162 Tryz.underlying92 cU64 cP64 hd]
  have c1 := htab.cell gP64 0 (by decide)
  exact ⟨hpow, htab, World.block_lt_of_cell? w _ (hpow 0 (by omega)).1, World.block_lt_of_cell? w _ c1, Nat.le_refl _⟩
end Go.Proofs.YtokmkkkanphihaaGreatRDoor
