/- fmtEFG at the format 'f'. -/
import Derived.Test.YtokmkkkanphihaaGreatRDoorYFtA
namespace Go.Proofs.YtokmkkkanphihaaGreatRDoor
open Go.RowKit Go.Sort

/-- AT AN APPEND OF ONE BYTE that 'buildSlice' has just laid. -/
theorem wpList_app1 {ops : Array Oper} {rest : List Oper} {o : Oper} {a : Act} {Q : Exit → Act → World → Prop} {w wr : World} {N : Nat} {v0 v : Value} {out : List UInt8} (b : UInt8) (c : Int) (hc : c = (b.toNat : Int)) (hgd : o.guard = none) (s x : Operand)
    (ho : o.op = .call { callee := .builtin .append, args := #[s, x], argTypes := #[36, 36] })
    (hs : a.eval s = v) (hx : a.eval x = .slice (some ⟨wr.heap.size, 0, none⟩) 1 1) (hB : BufTo w N v0 out v wr) (hN : N ≤ w.heap.size) (hlen : out.length + 1 ≤ lim)
    (h : ∀ v' w', BufTo w N v0 (out ++ [b]) v' w' → wpList Tryz.prog ops Q rest (a.put o.dst v') w') :
    wpList Tryz.prog ops Q (o :: rest) a (wr.alloc (.cells #[.int .u8 c] 5)) := by
  subst hc
  obtain ⟨i0, hi, hz0, hz1, hz2⟩ := info_parts info_u8
  have hlim' : out.length + 1 ≤ 1099511627776 := hlen
  have hNr : N ≤ wr.heap.size := Nat.le_trans hN hB.grown.size
  refine wpList_append_lies _ hgd s x 36 ho N 5 i0 (.int .u8 0) 1 1 Tryz.underlying36 hi hz0 hz1 hz2 rfl (by omega) v out.length (bvs out) hs (hB.own.alloc _) ⟨wr.heap.size, 0, none⟩ 1 1 [.int .u8 (b.toNat : Int)] hx rfl (World.news_of_block (heap_alloc_new wr _)) (by intro u hu; simp at hu; subst hu; rfl) (by omega) (by unfold maxLen; omega) (by omega) (by simp; omega) (wr.heap.size + 1) (by simp) ?_
  intro g cp w1 hown1 hgrow hat hlt
  refine h _ _ (hB.trans (BufTo.pre (w1 := wr.alloc (.cells #[.int .u8 (b.toNat : Int)] 5)) (fun k hk => heap_alloc_old wr _ k hk) (by simp) rfl rfl rfl ⟨?_, hgrow, ?_⟩))
  · rw [List.length_append, bvs_append]; exact hown1
  · rcases hat with h | h
    · left; rw [h]; rfl
    · right; exact ⟨g, by simp; omega, rfl⟩

def sgn (neg : Bool) : List UInt8 := if neg then [45] else []
theorem sgn_len (neg : Bool) : (sgn neg).length ≤ 1 := by cases neg <;> simp [sgn]

theorem BufTo.start {w : World} {N : Nat} {v : Value} {out : List UInt8} (hown : w.ownsRow N 5 1 v out.length (bvs out)) : BufTo w N v out v w :=
  ⟨hown, ⟨rfl, rfl, rfl, Nat.le_refl _, fun _ _ _ => rfl⟩, .inl rfl⟩

set_option maxHeartbeats 3200000 in
set_option maxRecDepth 100000 in
theorem fmt_zero {w : World} {N : Nat} {v : Value} {out : List UInt8} (neg : Bool) (hown : w.ownsRow N 5 1 v out.length (bvs out)) (hN : N ≤ w.heap.size) (hlen : out.length + 3 ≤ lim) :
    Calls Tryz.prog 93 #[v, .bool neg, .slice none 0 0, .int .i64 0, .int .i64 0, .int .i64 (-1), .int .u8 102, .bool true] w (RetBuf w N v (out ++ sgn neg ++ [48])) := by
  have hB0 := Lib.hid (BufTo.start hown)
  have hl1 := Lib.hid hlen
  clear hown hlen
  cases neg
  · go_enter Tryz.func93, Tryz.ntmps93
    go_wp2_with (at_builtin; refine wpList_app1 48 _ rfl rfl (.tmp 209) (.tmp 210) rfl rfl rfl hB0.out hN (Nat.le_trans (by omega) hl1.out) ?_; intro v1 w1 hB1)
    go_ret
    exact ⟨v1, rfl, by simpa [sgn] using hB1⟩
  · go_enter Tryz.func93, Tryz.ntmps93
    go_wp2_with (at_builtin; first
      | (refine wpList_app1 45 _ rfl rfl (.tmp 179) (.tmp 180) rfl rfl rfl hB0.out hN (Nat.le_trans (by omega) hl1.out) ?_; intro v1 w1 hB1; have hB1H := Lib.hid hB1; clear hB1)
      | (refine wpList_app1 48 _ rfl rfl (.tmp 209) (.tmp 210) rfl rfl rfl hB1H.out hN (Nat.le_trans (by simp) hl1.out) ?_; intro v2 w2 hB2))
    go_ret
    exact ⟨v2, rfl, by simpa [sgn] using hB2⟩
/-- The digits' cells. -/
def DigAt (w : World) (blk : Nat) (ds : List UInt8) : Prop := ∀ j (h : j < ds.length), w.cell? ⟨blk, j, none⟩ = some (.int .u8 (ds[j].toNat : Int))

theorem DigAt.step {w w' : World} {N : Nat} {v v' : Value} {out : List UInt8} {blk : Nat} {ds : List UInt8} (h : DigAt w blk ds) (hB : BufTo w N v out v' w') (hb : blk < w.heap.size) (hne : v.ownBlock ≠ some blk) : DigAt w' blk ds := by
  intro j hj
  rw [World.cell?_of_block (hB.grown.block blk hb (Ne.symm hne))]
  exact h j hj

theorem rep_snoc (k : Nat) (b : UInt8) : List.replicate (k + 1) b = List.replicate k b ++ [b] := by rw [List.replicate_succ']
theorem take_snoc_l (l : List UInt8) (k : Nat) (h : k < l.length) : l.take (k + 1) = l.take k ++ [l[k]] := by rw [List.take_succ_eq_append_getElem h]

set_option maxHeartbeats 6400000 in
set_option maxRecDepth 100000 in
theorem fmt_int_f {w : World} {N blk L dp : Nat} {v : Value} {out ds : List UInt8} (hL : L = ds.length) (h0 : 0 < L) (h1 : L ≤ dp) (h2 : L ≤ 32) (hdp : dp ≤ 1000) (hdig : DigAt w blk ds) (hb : blk < w.heap.size) (hne : v.ownBlock ≠ some blk)
    (hown : w.ownsRow N 5 1 v out.length (bvs out)) (hN : N ≤ w.heap.size) (hlen : out.length + dp + 10 ≤ lim) :
    Calls Tryz.prog 93 #[v, .bool false, .slice (some ⟨blk, 0, none⟩) 32 32, .int .i64 (dp : Int), .int .i64 (L : Int), .int .i64 0, .int .u8 102, .bool true] w (RetBuf w N v (out ++ ds ++ List.replicate (dp - L) 48)) := by
  have hB0 := Lib.hid (BufTo.start hown)
  have hl1 := Lib.hid hlen
  have hcell : ∀ W v' o', BufTo w N v o' v' W → ∀ j (h : j < ds.length), W.cell? ⟨blk, j, none⟩ = some (.int .u8 (ds[j].toNat : Int)) := fun W v' o' hB j h => (hdig.step hB hb hne) j h
  have hcellH := Lib.hid hcell
  have hLH := Lib.hid hL
  have hdp0 : decide (0 < dp) = true := by simp; omega
  have hmin : min (L : Int) (dp : Int) = (L : Int) := by omega
  clear hown hlen hdig hb hne hcell hL
  go_enter Tryz.func93, Tryz.ntmps93
  go_wp2
  have hB1H := hB0
  clear hB0
  go_loopw [0, 25, 191] (fun d _ i wr => ∃ k : Nat, k ≤ L ∧ i = .int .i64 (k : Int) ∧ BufTo w N v (out ++ ds.take k) d wr) (fun _ _ i _ => L - (intOf i).toNat)
  case atStart => exact ⟨0, Nat.zero_le _, rfl, by simpa using hB1H.out⟩
  case round =>
    obtain ⟨k, hk, rfl, hE⟩ := hrel
    have hEH := Lib.hid hE
    clear hE
    rcases Nat.lt_or_ge k L with hlt | hge
    · have hkd : k < ds.length := by have := hLH.out; omega
      have hc := hcellH.out _ _ _ hEH.out k hkd
      have hlk : (out ++ ds.take k).length + 1 ≤ lim := Nat.le_trans (by simp; omega) hl1.out
      have hlkH := Lib.hid hlk
      clear hlk
      go_wp2_with (at_builtin; refine wpList_app1 (ds[k]'hkd) _ rfl rfl (.tmp 195) (.tmp 197) rfl rfl rfl hEH.out hN hlkH.out ?_; intro v2 w2 hB2; have hB2H := Lib.hid hB2; clear hB2)
      go_roundw
      case rel =>
        refine ⟨k + 1, by omega, by go_num, ?_⟩
        rw [take_snoc_l ds k hkd, ← List.append_assoc]
        exact hB2H.out
      case measure => simp [intOf]; omega
    · have hk' : k = L := by omega
      subst hk'
      have hEs := hEH.out
      rw [List.take_of_length_le (by rw [← hLH.out]; omega)] at hEs
      have hFH := Lib.hid hEs
      clear hEs hEH
      have hsub : (dp : Int) - (k : Int) = ((dp - k : Nat) : Int) := by omega
      obtain ⟨z, hz⟩ : ∃ z, z = dp - k := ⟨_, rfl⟩
      rw [← hz] at hsub ⊢
      have hz1000 : z ≤ 1000 := by omega
      have hzL : k + z = dp := by omega
      have hzLH := Lib.hid hzL
      clear hz hzL
      go_wp2
      go_loopw [0, 203] (fun d i wr => ∃ q : Nat, q ≤ z ∧ i = .int .i64 (q : Int) ∧ BufTo w N v (out ++ ds ++ List.replicate q 48) d wr) (fun _ i _ => z - (intOf i).toNat)
      case atStart => exact ⟨0, Nat.zero_le _, rfl, by simpa using hFH.out⟩
      case round =>
        obtain ⟨q, hq, rfl, hE⟩ := hrel
        have hEH := Lib.hid hE
        clear hE
        rcases Nat.lt_or_ge q z with hlt | hge
        · have hlk : (out ++ ds ++ List.replicate q 48).length + 1 ≤ lim := Nat.le_trans (by have := hzLH.out; have := hLH.out; simp; omega) hl1.out
          have hlkH := Lib.hid hlk
          clear hlk
          go_wp2_with (at_builtin; refine wpList_app1 48 _ rfl rfl (.tmp 205) (.tmp 206) rfl rfl rfl hEH.out hN hlkH.out ?_; intro v2 w2 hB2; have hB2H := Lib.hid hB2; clear hB2)
          go_roundw
          case rel =>
            refine ⟨q + 1, by omega, by go_num, ?_⟩
            rw [rep_snoc, ← List.append_assoc]
            exact hB2H.out
          case measure => simp [intOf]; omega
        · have hk' : q = z := by omega
          subst hk'
          go_wp2
          have hfin : dp - k = q := by have := hzLH.out; omega
          go_ret
          exact ⟨_, rfl, by rw [hfin]; exact hEH.out⟩

set_option maxHeartbeats 6400000 in
set_option maxRecDepth 100000 in
theorem fmt_int_t {w : World} {N blk L dp : Nat} {v : Value} {out ds : List UInt8} (hL : L = ds.length) (h0 : 0 < L) (h1 : L ≤ dp) (h2 : L ≤ 32) (hdp : dp ≤ 1000) (hdig : DigAt w blk ds) (hb : blk < w.heap.size) (hne : v.ownBlock ≠ some blk)
    (hown : w.ownsRow N 5 1 v out.length (bvs out)) (hN : N ≤ w.heap.size) (hlen : out.length + dp + 10 ≤ lim) :
    Calls Tryz.prog 93 #[v, .bool true, .slice (some ⟨blk, 0, none⟩) 32 32, .int .i64 (dp : Int), .int .i64 (L : Int), .int .i64 0, .int .u8 102, .bool true] w (RetBuf w N v (out ++ [45] ++ ds ++ List.replicate (dp - L) 48)) := by
  have hB0 := Lib.hid (BufTo.start hown)
  have hl1 := Lib.hid hlen
  have hcell : ∀ W v' o', BufTo w N v o' v' W → ∀ j (h : j < ds.length), W.cell? ⟨blk, j, none⟩ = some (.int .u8 (ds[j].toNat : Int)) := fun W v' o' hB j h => (hdig.step hB hb hne) j h
  have hcellH := Lib.hid hcell
  have hLH := Lib.hid hL
  have hdp0 : decide (0 < dp) = true := by simp; omega
  have hmin : min (L : Int) (dp : Int) = (L : Int) := by omega
  clear hown hlen hdig hb hne hcell hL
  go_enter Tryz.func93, Tryz.ntmps93
  go_wp2_with (at_builtin; refine wpList_app1 45 _ rfl rfl (.tmp 179) (.tmp 180) rfl rfl rfl hB0.out hN (Nat.le_trans (by omega) hl1.out) ?_; intro v1 w1 hB1; have hB1H := Lib.hid hB1; clear hB1 hB0)
  go_loopw [0, 25, 191] (fun d _ i wr => ∃ k : Nat, k ≤ L ∧ i = .int .i64 (k : Int) ∧ BufTo w N v (out ++ [45] ++ ds.take k) d wr) (fun _ _ i _ => L - (intOf i).toNat)
  case atStart => exact ⟨0, Nat.zero_le _, rfl, by simpa using hB1H.out⟩
  case round =>
    obtain ⟨k, hk, rfl, hE⟩ := hrel
    have hEH := Lib.hid hE
    clear hE
    rcases Nat.lt_or_ge k L with hlt | hge
    · have hkd : k < ds.length := by have := hLH.out; omega
      have hc := hcellH.out _ _ _ hEH.out k hkd
      have hlk : (out ++ [45] ++ ds.take k).length + 1 ≤ lim := Nat.le_trans (by simp; omega) hl1.out
      have hlkH := Lib.hid hlk
      clear hlk
      go_wp2_with (at_builtin; refine wpList_app1 (ds[k]'hkd) _ rfl rfl (.tmp 195) (.tmp 197) rfl rfl rfl hEH.out hN hlkH.out ?_; intro v2 w2 hB2; have hB2H := Lib.hid hB2; clear hB2)
      go_roundw
      case rel =>
        refine ⟨k + 1, by omega, by go_num, ?_⟩
        rw [take_snoc_l ds k hkd, ← List.append_assoc]
        exact hB2H.out
      case measure => simp [intOf]; omega
    · have hk' : k = L := by omega
      subst hk'
      have hEs := hEH.out
      rw [List.take_of_length_le (by rw [← hLH.out]; omega)] at hEs
      have hFH := Lib.hid hEs
      clear hEs hEH
      have hsub : (dp : Int) - (k : Int) = ((dp - k : Nat) : Int) := by omega
      obtain ⟨z, hz⟩ : ∃ z, z = dp - k := ⟨_, rfl⟩
      rw [← hz] at hsub ⊢
      have hz1000 : z ≤ 1000 := by omega
      have hzL : k + z = dp := by omega
      have hzLH := Lib.hid hzL
      clear hz hzL
      go_wp2
      go_loopw [0, 203] (fun d i wr => ∃ q : Nat, q ≤ z ∧ i = .int .i64 (q : Int) ∧ BufTo w N v (out ++ [45] ++ ds ++ List.replicate q 48) d wr) (fun _ i _ => z - (intOf i).toNat)
      case atStart => exact ⟨0, Nat.zero_le _, rfl, by simpa using hFH.out⟩
      case round =>
        obtain ⟨q, hq, rfl, hE⟩ := hrel
        have hEH := Lib.hid hE
        clear hE
        rcases Nat.lt_or_ge q z with hlt | hge
        · have hlk : (out ++ [45] ++ ds ++ List.replicate q 48).length + 1 ≤ lim := Nat.le_trans (by have := hzLH.out; have := hLH.out; simp; omega) hl1.out
          have hlkH := Lib.hid hlk
          clear hlk
          go_wp2_with (at_builtin; refine wpList_app1 48 _ rfl rfl (.tmp 205) (.tmp 206) rfl rfl rfl hEH.out hN hlkH.out ?_; intro v2 w2 hB2; have hB2H := Lib.hid hB2; clear hB2)
          go_roundw
          case rel =>
            refine ⟨q + 1, by omega, by go_num, ?_⟩
            rw [rep_snoc, ← List.append_assoc]
            exact hB2H.out
          case measure => simp [intOf]; omega
        · have hk' : q = z := by omega
          subst hk'
          go_wp2
          have hfin : dp - k = q := by have := hzLH.out; omega
          go_ret
          exact ⟨_, rfl, by rw [hfin]; exact hEH.out⟩

set_option maxHeartbeats 12800000 in
set_option maxRecDepth 100000 in
theorem fmt_frac_f {w : World} {N blk L dp r : Nat} {v : Value} {out ds : List UInt8} (hL : L = ds.length) (h0 : 0 < dp) (hr : 0 < r) (h1 : L = dp + r) (h2 : L ≤ 32) (hdig : DigAt w blk ds) (hb : blk < w.heap.size) (hne : v.ownBlock ≠ some blk)
    (hown : w.ownsRow N 5 1 v out.length (bvs out)) (hN : N ≤ w.heap.size) (hlen : out.length + 50 ≤ lim) :
    Calls Tryz.prog 93 #[v, .bool false, .slice (some ⟨blk, 0, none⟩) 32 32, .int .i64 (dp : Int), .int .i64 (L : Int), .int .i64 (r : Int), .int .u8 102, .bool true] w (RetBuf w N v (out ++ ds.take dp ++ [46] ++ ds.drop dp)) := by
  have hB0 := Lib.hid (BufTo.start hown)
  have hl1 := Lib.hid hlen
  have hcell : ∀ W v' o', BufTo w N v o' v' W → ∀ j (h : j < ds.length), W.cell? ⟨blk, j, none⟩ = some (.int .u8 (ds[j].toNat : Int)) := fun W v' o' hB j h => (hdig.step hB hb hne) j h
  have hcellH := Lib.hid hcell
  have hLH := Lib.hid hL
  have hdp0 : decide (0 < dp) = true := by simp; omega
  have hr0 : decide (0 < r) = true := by simp; omega
  have hmin : min (L : Int) (dp : Int) = (dp : Int) := by omega
  have hm1 : max 0 (-(dp : Int)) = 0 := by omega
  have hm2 : min (r : Int) 0 = 0 := by omega
  have hm3 : (L : Int) - dp = (r : Int) := by omega
  have hm4 : max 0 (r : Int) = (r : Int) := by omega
  have h1H := Lib.hid h1
  have hdpL : dp ≤ L := by omega
  have hrL : r ≤ 32 := by omega
  clear hown hlen hdig hb hne hcell hL h1
  go_enter Tryz.func93, Tryz.ntmps93
  go_wp2
  have hB1H := hB0
  clear hB0
  go_loopw [0, 25, 191] (fun d _ i wr => ∃ k : Nat, k ≤ dp ∧ i = .int .i64 (k : Int) ∧ BufTo w N v (out ++ ds.take k) d wr) (fun _ _ i _ => dp - (intOf i).toNat)
  case atStart => exact ⟨0, Nat.zero_le _, rfl, by simpa using hB1H.out⟩
  case round =>
    obtain ⟨k1, hk, rfl, hE⟩ := hrel
    have hEH := Lib.hid hE
    clear hE
    rcases Nat.lt_or_ge k1 dp with hlt | hge
    · have hkd : k1 < ds.length := by have := hLH.out; omega
      have hc := hcellH.out _ _ _ hEH.out k1 hkd
      have hk32 : k1 < 32 := by omega
      have hlk : (out ++ ds.take k1).length + 1 ≤ lim := Nat.le_trans (by simp; omega) hl1.out
      have hlkH := Lib.hid hlk
      clear hlk
      go_wp2_with (at_builtin; refine wpList_app1 (ds[k1]'hkd) _ rfl rfl (.tmp 195) (.tmp 197) rfl rfl rfl hEH.out hN hlkH.out ?_; intro v2 w2 hB2; have hB2H := Lib.hid hB2; clear hB2)
      go_roundw
      case rel =>
        refine ⟨k1 + 1, by omega, by go_num, ?_⟩
        rw [take_snoc_l ds k1 hkd, ← List.append_assoc]
        exact hB2H.out
      case measure => simp [intOf]; omega
    · have hk' : dp = k1 := by omega
      subst hk'
      have hEs := hEH.out
      have hF1 := Lib.hid hEs
      clear hEs hEH hge
      go_wp2
      go_loopw [0, 203] (fun d i wr => i = .int .i64 0 ∧ BufTo w N v (out ++ ds.take dp) d wr) (fun _ i _ => 0 - (intOf i).toNat)
      case atStart => exact ⟨rfl, hF1.out⟩
      case round =>
        obtain ⟨rfl, hE⟩ := hrel
        have hZ2 := Lib.hid hE
        clear hE
        have hld : (out ++ ds.take dp).length + 1 ≤ lim := Nat.le_trans (by simp; omega) hl1.out
        have hldH := Lib.hid hld
        clear hld
        go_wp2_with (at_builtin; refine wpList_app1 46 _ rfl rfl (.tmp 214) (.tmp 215) rfl rfl rfl hZ2.out hN hldH.out ?_; intro v3 w3 hB3; have hB3H := Lib.hid hB3; clear hB3)
        go_loopw [0, 240] (fun d i wr => i = .int .i64 0 ∧ BufTo w N v (out ++ ds.take dp ++ [46]) d wr) (fun _ i _ => 0 - (intOf i).toNat)
        case atStart => exact ⟨rfl, hB3H.out⟩
        case round =>
          obtain ⟨rfl, hE⟩ := hrel
          have hZ3 := Lib.hid hE
          clear hE
          go_wp2
          go_loopw [0, 30, 247] (fun d _ i wr => ∃ k : Nat, k ≤ r ∧ i = .int .i64 (k : Int) ∧ BufTo w N v (out ++ ds.take dp ++ [46] ++ (ds.drop dp).take k) d wr) (fun _ _ i _ => r - (intOf i).toNat)
          case atStart => exact ⟨0, Nat.zero_le _, rfl, by simpa using hZ3.out⟩
          case round =>
            obtain ⟨k4, hk, rfl, hE⟩ := hrel
            have hEH := Lib.hid hE
            clear hE
            rcases Nat.lt_or_ge k4 r with hlt | hge
            · have hkd : k4 < (ds.drop dp).length := by have := hLH.out; have := h1H.out; simp; omega
              have hkd2 : dp + k4 < ds.length := by have := hLH.out; have := h1H.out; omega
              have hgd : (ds.drop dp)[k4]'hkd = ds[dp + k4]'hkd2 := by simp
              have hc := hcellH.out _ _ _ hEH.out (dp + k4) hkd2
              have hlt2 : dp + k4 < 32 := by have := hLH.out; omega
              have hoff : ((dp : Int) + (k4 : Int)).toNat = dp + k4 := by omega
              have hgdH := Lib.hid hgd
              clear hgd
              have hlk : (out ++ ds.take dp ++ [46] ++ (ds.drop dp).take k4).length + 1 ≤ lim := Nat.le_trans (by simp; omega) hl1.out
              have hlkH := Lib.hid hlk
              clear hlk
              go_wp2_with (at_builtin; refine wpList_app1 (ds[dp + k4]'hkd2) _ rfl rfl (.tmp 250) (.tmp 257) rfl rfl rfl hEH.out hN hlkH.out ?_; intro v2 w2 hB2; have hB2H := Lib.hid hB2; clear hB2)
              go_roundw
              case rel =>
                refine ⟨k4 + 1, by omega, by go_num, ?_⟩
                rw [take_snoc_l (ds.drop dp) k4 hkd, hgdH.out, ← List.append_assoc]
                exact hB2H.out
              case measure => simp [intOf]; omega
            · have hk' : r = k4 := by omega
              subst hk'
              have hEs := hEH.out
              have hF4 := Lib.hid hEs
              clear hEs hEH hge
              go_wp2
              go_loopw [0, 261] (fun d i wr => i = .int .i64 0 ∧ BufTo w N v (out ++ ds.take dp ++ [46] ++ (ds.drop dp).take r) d wr) (fun _ i _ => 0 - (intOf i).toNat)
              case atStart => exact ⟨rfl, hF4.out⟩
              case round =>
                obtain ⟨rfl, hE⟩ := hrel
                have hZ5 := Lib.hid hE
                clear hE
                go_wp2
                go_ret
                have hfin : ds.drop dp = (ds.drop dp).take r := by rw [List.take_of_length_le (by have := hLH.out; have := h1H.out; simp; omega)]
                exact ⟨_, rfl, by rw [hfin]; exact hZ5.out⟩

set_option maxHeartbeats 12800000 in
set_option maxRecDepth 100000 in
theorem fmt_frac_t {w : World} {N blk L dp r : Nat} {v : Value} {out ds : List UInt8} (hL : L = ds.length) (h0 : 0 < dp) (hr : 0 < r) (h1 : L = dp + r) (h2 : L ≤ 32) (hdig : DigAt w blk ds) (hb : blk < w.heap.size) (hne : v.ownBlock ≠ some blk)
    (hown : w.ownsRow N 5 1 v out.length (bvs out)) (hN : N ≤ w.heap.size) (hlen : out.length + 50 ≤ lim) :
    Calls Tryz.prog 93 #[v, .bool true, .slice (some ⟨blk, 0, none⟩) 32 32, .int .i64 (dp : Int), .int .i64 (L : Int), .int .i64 (r : Int), .int .u8 102, .bool true] w (RetBuf w N v (out ++ [45] ++ ds.take dp ++ [46] ++ ds.drop dp)) := by
  have hB0 := Lib.hid (BufTo.start hown)
  have hl1 := Lib.hid hlen
  have hcell : ∀ W v' o', BufTo w N v o' v' W → ∀ j (h : j < ds.length), W.cell? ⟨blk, j, none⟩ = some (.int .u8 (ds[j].toNat : Int)) := fun W v' o' hB j h => (hdig.step hB hb hne) j h
  have hcellH := Lib.hid hcell
  have hLH := Lib.hid hL
  have hdp0 : decide (0 < dp) = true := by simp; omega
  have hr0 : decide (0 < r) = true := by simp; omega
  have hmin : min (L : Int) (dp : Int) = (dp : Int) := by omega
  have hm1 : max 0 (-(dp : Int)) = 0 := by omega
  have hm2 : min (r : Int) 0 = 0 := by omega
  have hm3 : (L : Int) - dp = (r : Int) := by omega
  have hm4 : max 0 (r : Int) = (r : Int) := by omega
  have h1H := Lib.hid h1
  have hdpL : dp ≤ L := by omega
  have hrL : r ≤ 32 := by omega
  clear hown hlen hdig hb hne hcell hL h1
  go_enter Tryz.func93, Tryz.ntmps93
  go_wp2_with (at_builtin; refine wpList_app1 45 _ rfl rfl (.tmp 179) (.tmp 180) rfl rfl rfl hB0.out hN (Nat.le_trans (by omega) hl1.out) ?_; intro v1 w1 hB1; have hB1H := Lib.hid hB1; clear hB1 hB0)
  go_loopw [0, 25, 191] (fun d _ i wr => ∃ k : Nat, k ≤ dp ∧ i = .int .i64 (k : Int) ∧ BufTo w N v (out ++ [45] ++ ds.take k) d wr) (fun _ _ i _ => dp - (intOf i).toNat)
  case atStart => exact ⟨0, Nat.zero_le _, rfl, by simpa using hB1H.out⟩
  case round =>
    obtain ⟨k1, hk, rfl, hE⟩ := hrel
    have hEH := Lib.hid hE
    clear hE
    rcases Nat.lt_or_ge k1 dp with hlt | hge
    · have hkd : k1 < ds.length := by have := hLH.out; omega
      have hc := hcellH.out _ _ _ hEH.out k1 hkd
      have hk32 : k1 < 32 := by omega
      have hlk : (out ++ [45] ++ ds.take k1).length + 1 ≤ lim := Nat.le_trans (by simp; omega) hl1.out
      have hlkH := Lib.hid hlk
      clear hlk
      go_wp2_with (at_builtin; refine wpList_app1 (ds[k1]'hkd) _ rfl rfl (.tmp 195) (.tmp 197) rfl rfl rfl hEH.out hN hlkH.out ?_; intro v2 w2 hB2; have hB2H := Lib.hid hB2; clear hB2)
      go_roundw
      case rel =>
        refine ⟨k1 + 1, by omega, by go_num, ?_⟩
        rw [take_snoc_l ds k1 hkd, ← List.append_assoc]
        exact hB2H.out
      case measure => simp [intOf]; omega
    · have hk' : dp = k1 := by omega
      subst hk'
      have hEs := hEH.out
      have hF1 := Lib.hid hEs
      clear hEs hEH hge
      go_wp2
      go_loopw [0, 203] (fun d i wr => i = .int .i64 0 ∧ BufTo w N v (out ++ [45] ++ ds.take dp) d wr) (fun _ i _ => 0 - (intOf i).toNat)
      case atStart => exact ⟨rfl, hF1.out⟩
      case round =>
        obtain ⟨rfl, hE⟩ := hrel
        have hZ2 := Lib.hid hE
        clear hE
        have hld : (out ++ [45] ++ ds.take dp).length + 1 ≤ lim := Nat.le_trans (by simp; omega) hl1.out
        have hldH := Lib.hid hld
        clear hld
        go_wp2_with (at_builtin; refine wpList_app1 46 _ rfl rfl (.tmp 214) (.tmp 215) rfl rfl rfl hZ2.out hN hldH.out ?_; intro v3 w3 hB3; have hB3H := Lib.hid hB3; clear hB3)
        go_loopw [0, 240] (fun d i wr => i = .int .i64 0 ∧ BufTo w N v (out ++ [45] ++ ds.take dp ++ [46]) d wr) (fun _ i _ => 0 - (intOf i).toNat)
        case atStart => exact ⟨rfl, hB3H.out⟩
        case round =>
          obtain ⟨rfl, hE⟩ := hrel
          have hZ3 := Lib.hid hE
          clear hE
          go_wp2
          go_loopw [0, 30, 247] (fun d _ i wr => ∃ k : Nat, k ≤ r ∧ i = .int .i64 (k : Int) ∧ BufTo w N v (out ++ [45] ++ ds.take dp ++ [46] ++ (ds.drop dp).take k) d wr) (fun _ _ i _ => r - (intOf i).toNat)
          case atStart => exact ⟨0, Nat.zero_le _, rfl, by simpa using hZ3.out⟩
          case round =>
            obtain ⟨k4, hk, rfl, hE⟩ := hrel
            have hEH := Lib.hid hE
            clear hE
            rcases Nat.lt_or_ge k4 r with hlt | hge
            · have hkd : k4 < (ds.drop dp).length := by have := hLH.out; have := h1H.out; simp; omega
              have hkd2 : dp + k4 < ds.length := by have := hLH.out; have := h1H.out; omega
              have hgd : (ds.drop dp)[k4]'hkd = ds[dp + k4]'hkd2 := by simp
              have hc := hcellH.out _ _ _ hEH.out (dp + k4) hkd2
              have hlt2 : dp + k4 < 32 := by have := hLH.out; omega
              have hoff : ((dp : Int) + (k4 : Int)).toNat = dp + k4 := by omega
              have hgdH := Lib.hid hgd
              clear hgd
              have hlk : (out ++ [45] ++ ds.take dp ++ [46] ++ (ds.drop dp).take k4).length + 1 ≤ lim := Nat.le_trans (by simp; omega) hl1.out
              have hlkH := Lib.hid hlk
              clear hlk
              go_wp2_with (at_builtin; refine wpList_app1 (ds[dp + k4]'hkd2) _ rfl rfl (.tmp 250) (.tmp 257) rfl rfl rfl hEH.out hN hlkH.out ?_; intro v2 w2 hB2; have hB2H := Lib.hid hB2; clear hB2)
              go_roundw
              case rel =>
                refine ⟨k4 + 1, by omega, by go_num, ?_⟩
                rw [take_snoc_l (ds.drop dp) k4 hkd, hgdH.out, ← List.append_assoc]
                exact hB2H.out
              case measure => simp [intOf]; omega
            · have hk' : r = k4 := by omega
              subst hk'
              have hEs := hEH.out
              have hF4 := Lib.hid hEs
              clear hEs hEH hge
              go_wp2
              go_loopw [0, 261] (fun d i wr => i = .int .i64 0 ∧ BufTo w N v (out ++ [45] ++ ds.take dp ++ [46] ++ (ds.drop dp).take r) d wr) (fun _ i _ => 0 - (intOf i).toNat)
              case atStart => exact ⟨rfl, hF4.out⟩
              case round =>
                obtain ⟨rfl, hE⟩ := hrel
                have hZ5 := Lib.hid hE
                clear hE
                go_wp2
                go_ret
                have hfin : ds.drop dp = (ds.drop dp).take r := by rw [List.take_of_length_le (by have := hLH.out; have := h1H.out; simp; omega)]
                exact ⟨_, rfl, by rw [hfin]; exact hZ5.out⟩

set_option maxHeartbeats 12800000 in
set_option maxRecDepth 100000 in
theorem fmt_small_f {w : World} {N blk L z r : Nat} {v : Value} {out ds : List UInt8} (hL : L = ds.length) (h0 : 0 < L) (hr : r = z + L) (hz : z ≤ 1000) (h2 : L ≤ 32) (hdig : DigAt w blk ds) (hb : blk < w.heap.size) (hne : v.ownBlock ≠ some blk)
    (hown : w.ownsRow N 5 1 v out.length (bvs out)) (hN : N ≤ w.heap.size) (hlen : out.length + z + 50 ≤ lim) :
    Calls Tryz.prog 93 #[v, .bool false, .slice (some ⟨blk, 0, none⟩) 32 32, .int .i64 (-(z : Int)), .int .i64 (L : Int), .int .i64 (r : Int), .int .u8 102, .bool true] w (RetBuf w N v (out ++ [48] ++ [46] ++ List.replicate z 48 ++ ds)) := by
  have hB0 := Lib.hid (BufTo.start hown)
  have hl1 := Lib.hid hlen
  have hcell : ∀ W v' o', BufTo w N v o' v' W → ∀ j (h : j < ds.length), W.cell? ⟨blk, j, none⟩ = some (.int .u8 (ds[j].toNat : Int)) := fun W v' o' hB j h => (hdig.step hB hb hne) j h
  have hcellH := Lib.hid hcell
  have hLH := Lib.hid hL
  have hdp0 : decide ((0 : Int) < -(z : Int)) = false := by simp
  have hr0 : decide (0 < r) = true := by simp; omega
  have hrp : 0 < r := by omega
  have hm0 : -(-(z : Int)) = (z : Int) := by omega
  have hm1 : max 0 (z : Int) = (z : Int) := by omega
  have hm2 : min (r : Int) (z : Int) = (z : Int) := by omega
  have hm3 : -(z : Int) + z = 0 := by omega
  have hm4 : (r : Int) - z = (L : Int) := by omega
  have hm5 : max 0 (L : Int) = (L : Int) := by omega
  have hr1H := Lib.hid hr
  have hrL : r ≤ 1032 := by omega
  clear hown hlen hdig hb hne hcell hL hr
  go_enter Tryz.func93, Tryz.ntmps93
  have hB1H := hB0
  clear hB0
  go_wp2_with (at_builtin; first
    | (refine wpList_app1 48 _ rfl rfl (.tmp 209) (.tmp 210) rfl rfl rfl hB1H.out hN (Nat.le_trans (by simp; omega) hl1.out) ?_; intro v2 w2 hB2; have hB2H := Lib.hid hB2; clear hB2)
    | (refine wpList_app1 46 _ rfl rfl (.tmp 214) (.tmp 215) rfl rfl rfl hB2H.out hN (Nat.le_trans (by simp; omega) hl1.out) ?_; intro v3 w3 hB3; have hB3H := Lib.hid hB3; clear hB3)
    )
  go_loopw [0, 240] (fun d i wr => ∃ k : Nat, k ≤ z ∧ i = .int .i64 (k : Int) ∧ BufTo w N v (out ++ [48] ++ [46] ++ List.replicate k 48) d wr) (fun _ i _ => z - (intOf i).toNat)
  case atStart => exact ⟨0, Nat.zero_le _, rfl, by simpa using hB3H.out⟩
  case round =>
    obtain ⟨k1, hk, rfl, hE⟩ := hrel
    have hEH := Lib.hid hE
    clear hE
    rcases Nat.lt_or_ge k1 z with hlt | hge
    · have hk1000 : k1 < 1000 := by omega
      have hlk : (out ++ [48] ++ [46] ++ List.replicate k1 48).length + 1 ≤ lim := Nat.le_trans (by simp; omega) hl1.out
      have hlkH := Lib.hid hlk
      clear hlk
      go_wp2_with (at_builtin; refine wpList_app1 48 _ rfl rfl (.tmp 242) (.tmp 243) rfl rfl rfl hEH.out hN hlkH.out ?_; intro v2 w2 hB2; have hB2H := Lib.hid hB2; clear hB2)
      go_roundw
      case rel =>
        refine ⟨k1 + 1, by omega, by go_num, ?_⟩
        rw [rep_snoc, ← List.append_assoc]
        exact hB2H.out
      case measure => simp [intOf]; omega
    · have hk' : z = k1 := by omega
      subst hk'
      have hEs := hEH.out
      have hF1 := Lib.hid hEs
      clear hEs hEH hge
      go_wp2
      go_loopw [0, 30, 247] (fun d _ i wr => ∃ k : Nat, k ≤ L ∧ i = .int .i64 (k : Int) ∧ BufTo w N v (out ++ [48] ++ [46] ++ List.replicate z 48 ++ ds.take k) d wr) (fun _ _ i _ => L - (intOf i).toNat)
      case atStart => exact ⟨0, Nat.zero_le _, rfl, by simpa using hF1.out⟩
      case round =>
        obtain ⟨k2, hk, rfl, hE⟩ := hrel
        have hEH := Lib.hid hE
        clear hE
        rcases Nat.lt_or_ge k2 L with hlt | hge
        · have hkd : k2 < ds.length := by have := hLH.out; omega
          have hc := hcellH.out _ _ _ hEH.out k2 hkd
          have hk32 : k2 < 32 := by omega
          have hlk : (out ++ [48] ++ [46] ++ List.replicate z 48 ++ ds.take k2).length + 1 ≤ lim := Nat.le_trans (by simp; omega) hl1.out
          have hlkH := Lib.hid hlk
          clear hlk
          go_wp2_with (at_builtin; refine wpList_app1 (ds[k2]'hkd) _ rfl rfl (.tmp 250) (.tmp 257) rfl rfl rfl hEH.out hN hlkH.out ?_; intro v2 w2 hB2; have hB2H := Lib.hid hB2; clear hB2)
          go_roundw
          case rel =>
            refine ⟨k2 + 1, by omega, by go_num, ?_⟩
            rw [take_snoc_l ds k2 hkd, ← List.append_assoc]
            exact hB2H.out
          case measure => simp [intOf]; omega
        · have hk' : L = k2 := by omega
          subst hk'
          have hEs := hEH.out
          have hF2 := Lib.hid hEs
          clear hEs hEH hge
          go_wp2
          go_loopw [0, 261] (fun d i wr => i = .int .i64 0 ∧ BufTo w N v (out ++ [48] ++ [46] ++ List.replicate z 48 ++ ds.take L) d wr) (fun _ i _ => 0 - (intOf i).toNat)
          case atStart => exact ⟨rfl, hF2.out⟩
          case round =>
            obtain ⟨rfl, hE⟩ := hrel
            have hZ3 := Lib.hid hE
            clear hE
            go_wp2
            go_ret
            have hfin : ds = ds.take L := by rw [List.take_of_length_le (by have := hLH.out; omega)]
            refine ⟨_, rfl, ?_⟩
            have hx := hZ3.out
            rw [← hfin] at hx
            exact hx

set_option maxHeartbeats 12800000 in
set_option maxRecDepth 100000 in
theorem fmt_small_t {w : World} {N blk L z r : Nat} {v : Value} {out ds : List UInt8} (hL : L = ds.length) (h0 : 0 < L) (hr : r = z + L) (hz : z ≤ 1000) (h2 : L ≤ 32) (hdig : DigAt w blk ds) (hb : blk < w.heap.size) (hne : v.ownBlock ≠ some blk)
    (hown : w.ownsRow N 5 1 v out.length (bvs out)) (hN : N ≤ w.heap.size) (hlen : out.length + z + 50 ≤ lim) :
    Calls Tryz.prog 93 #[v, .bool true, .slice (some ⟨blk, 0, none⟩) 32 32, .int .i64 (-(z : Int)), .int .i64 (L : Int), .int .i64 (r : Int), .int .u8 102, .bool true] w (RetBuf w N v (out ++ [45] ++ [48] ++ [46] ++ List.replicate z 48 ++ ds)) := by
  have hB0 := Lib.hid (BufTo.start hown)
  have hl1 := Lib.hid hlen
  have hcell : ∀ W v' o', BufTo w N v o' v' W → ∀ j (h : j < ds.length), W.cell? ⟨blk, j, none⟩ = some (.int .u8 (ds[j].toNat : Int)) := fun W v' o' hB j h => (hdig.step hB hb hne) j h
  have hcellH := Lib.hid hcell
  have hLH := Lib.hid hL
  have hdp0 : decide ((0 : Int) < -(z : Int)) = false := by simp
  have hr0 : decide (0 < r) = true := by simp; omega
  have hrp : 0 < r := by omega
  have hm0 : -(-(z : Int)) = (z : Int) := by omega
  have hm1 : max 0 (z : Int) = (z : Int) := by omega
  have hm2 : min (r : Int) (z : Int) = (z : Int) := by omega
  have hm3 : -(z : Int) + z = 0 := by omega
  have hm4 : (r : Int) - z = (L : Int) := by omega
  have hm5 : max 0 (L : Int) = (L : Int) := by omega
  have hr1H := Lib.hid hr
  have hrL : r ≤ 1032 := by omega
  clear hown hlen hdig hb hne hcell hL hr
  go_enter Tryz.func93, Tryz.ntmps93
  go_wp2_with (at_builtin; first
    | (refine wpList_app1 45 _ rfl rfl (.tmp 179) (.tmp 180) rfl rfl rfl hB0.out hN (Nat.le_trans (by omega) hl1.out) ?_; intro v1 w1 hB1; have hB1H := Lib.hid hB1; clear hB1 hB0)
    | (refine wpList_app1 48 _ rfl rfl (.tmp 209) (.tmp 210) rfl rfl rfl hB1H.out hN (Nat.le_trans (by simp; omega) hl1.out) ?_; intro v2 w2 hB2; have hB2H := Lib.hid hB2; clear hB2)
    | (refine wpList_app1 46 _ rfl rfl (.tmp 214) (.tmp 215) rfl rfl rfl hB2H.out hN (Nat.le_trans (by simp; omega) hl1.out) ?_; intro v3 w3 hB3; have hB3H := Lib.hid hB3; clear hB3)
    )
  go_loopw [0, 240] (fun d i wr => ∃ k : Nat, k ≤ z ∧ i = .int .i64 (k : Int) ∧ BufTo w N v (out ++ [45] ++ [48] ++ [46] ++ List.replicate k 48) d wr) (fun _ i _ => z - (intOf i).toNat)
  case atStart => exact ⟨0, Nat.zero_le _, rfl, by simpa using hB3H.out⟩
  case round =>
    obtain ⟨k1, hk, rfl, hE⟩ := hrel
    have hEH := Lib.hid hE
    clear hE
    rcases Nat.lt_or_ge k1 z with hlt | hge
    · have hk1000 : k1 < 1000 := by omega
      have hlk : (out ++ [45] ++ [48] ++ [46] ++ List.replicate k1 48).length + 1 ≤ lim := Nat.le_trans (by simp; omega) hl1.out
      have hlkH := Lib.hid hlk
      clear hlk
      go_wp2_with (at_builtin; refine wpList_app1 48 _ rfl rfl (.tmp 242) (.tmp 243) rfl rfl rfl hEH.out hN hlkH.out ?_; intro v2 w2 hB2; have hB2H := Lib.hid hB2; clear hB2)
      go_roundw
      case rel =>
        refine ⟨k1 + 1, by omega, by go_num, ?_⟩
        rw [rep_snoc, ← List.append_assoc]
        exact hB2H.out
      case measure => simp [intOf]; omega
    · have hk' : z = k1 := by omega
      subst hk'
      have hEs := hEH.out
      have hF1 := Lib.hid hEs
      clear hEs hEH hge
      go_wp2
      go_loopw [0, 30, 247] (fun d _ i wr => ∃ k : Nat, k ≤ L ∧ i = .int .i64 (k : Int) ∧ BufTo w N v (out ++ [45] ++ [48] ++ [46] ++ List.replicate z 48 ++ ds.take k) d wr) (fun _ _ i _ => L - (intOf i).toNat)
      case atStart => exact ⟨0, Nat.zero_le _, rfl, by simpa using hF1.out⟩
      case round =>
        obtain ⟨k2, hk, rfl, hE⟩ := hrel
        have hEH := Lib.hid hE
        clear hE
        rcases Nat.lt_or_ge k2 L with hlt | hge
        · have hkd : k2 < ds.length := by have := hLH.out; omega
          have hc := hcellH.out _ _ _ hEH.out k2 hkd
          have hk32 : k2 < 32 := by omega
          have hlk : (out ++ [45] ++ [48] ++ [46] ++ List.replicate z 48 ++ ds.take k2).length + 1 ≤ lim := Nat.le_trans (by simp; omega) hl1.out
          have hlkH := Lib.hid hlk
          clear hlk
          go_wp2_with (at_builtin; refine wpList_app1 (ds[k2]'hkd) _ rfl rfl (.tmp 250) (.tmp 257) rfl rfl rfl hEH.out hN hlkH.out ?_; intro v2 w2 hB2; have hB2H := Lib.hid hB2; clear hB2)
          go_roundw
          case rel =>
            refine ⟨k2 + 1, by omega, by go_num, ?_⟩
            rw [take_snoc_l ds k2 hkd, ← List.append_assoc]
            exact hB2H.out
          case measure => simp [intOf]; omega
        · have hk' : L = k2 := by omega
          subst hk'
          have hEs := hEH.out
          have hF2 := Lib.hid hEs
          clear hEs hEH hge
          go_wp2
          go_loopw [0, 261] (fun d i wr => i = .int .i64 0 ∧ BufTo w N v (out ++ [45] ++ [48] ++ [46] ++ List.replicate z 48 ++ ds.take L) d wr) (fun _ i _ => 0 - (intOf i).toNat)
          case atStart => exact ⟨rfl, hF2.out⟩
          case round =>
            obtain ⟨rfl, hE⟩ := hrel
            have hZ3 := Lib.hid hE
            clear hE
            go_wp2
            go_ret
            have hfin : ds = ds.take L := by rw [List.take_of_length_le (by have := hLH.out; omega)]
            refine ⟨_, rfl, ?_⟩
            have hx := hZ3.out
            rw [← hfin] at hx
            exact hx
end Go.Proofs.YtokmkkkanphihaaGreatRDoor
