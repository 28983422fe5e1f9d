/- What the encoder's writers of texts append. -/
import Derived.Test.YtokmkkkanphihaaGreatRDoorEncB
namespace Go.Proofs.YtokmkkkanphihaaGreatRDoor
open Go.RowKit

theorem run_append_string_lies {P : Program} (w : World) (base : Nat) (t u ty e : TypeId) (i : TypeInfo) (ht : P.underlying t = some (.slice e)) (hu : P.underlying u = some .string) (hi : P.info? e = some i) (hz : i.zero = some (.int .u8 0))
    (hsize : i.size = 1) (hby : i.bytes = 1) (v : Value) (n : Nat) (xs : List Value) (hown : w.ownsRow base e 1 v n xs) (s : ByteArray)
    (h63 : n + s.size ≤ maxLen) (hbytes : n + s.size ≤ 140737488355328) (hbase : base ≤ w.heap.size) :
    ∃ v' w', (Builtin.append_ #[t, u] ty #[v, .string s]).run P w = .ok v' w' ∧ w'.ownsRow base e 1 v' (n + s.size) (xs ++ Lib.strCells s) ∧ w.grownBy w' v.ownBlock ∧
      (v'.ownBlock = v.ownBlock ∨ v'.ownBlock = some w.heap.size) ∧ ((∃ g c, v' = .slice (some ⟨g, 0, none⟩) (n + s.size) c) ∨ v' = .slice none 0 0) := by
  obtain ⟨v', w', hr, h1, h2, h3⟩ := Lib.run_append_own_string (P := P) w base t u ty e i ht hu hi hz hsize hby v n xs hown s h63 hbytes hbase
  refine ⟨v', w', hr, h1, h2, ?_, ?_⟩
  · have hxl : xs.length = n := by simpa using hown.1
    unfold maxLen at h63
    rcases hown.2 with ⟨rfl, rfl⟩ | ⟨g, cap, cur, rfl, hbg, hg, hnc, hcm, hcs, htake⟩
    · by_cases hm : s.size = 0
      · left; rw [h3.2 ⟨rfl, hm⟩]
      · right
        have hr2 := run_append_nil_string (P := P) w t u ty e i (.int .u8 0) ht hu hi hz s (by omega) (by omega) (by rw [hby]; omega)
        rw [hr] at hr2
        simp only [Result.ok.injEq] at hr2
        rw [hr2.1]; rfl
    · by_cases hroom : n + s.size ≤ cap
      · left
        have hcs' : cur.size = cap := by simpa using hcs
        have hr2 := Lib.run_append_room_string (P := P) w t u ty e i ht hu hi hsize g n cap cur hg s hroom (by omega)
        rw [hr] at hr2
        simp only [Result.ok.injEq] at hr2
        rw [hr2.1]; rfl
      · right
        have holds : ∀ j u, xs[j]? = some u → w.cell? ((⟨g, 0, none⟩ : Addr).add j) = some u := hown.cells (g := g) rfl
        have hr2 := Lib.run_append_grow_string (P := P) w t u ty e i (.int .u8 0) ht hu hi hz ⟨g, 0, none⟩ n cap xs (by rw [hsize]; simpa using hxl) holds s (by omega) (by omega) (by rw [hby]; exact growslice_fits (by omega) (by omega))
        rw [hr] at hr2
        simp only [Result.ok.injEq] at hr2
        rw [hr2.1]; rfl
  · rcases h1.2 with ⟨a, _⟩ | ⟨g, cap, cur, a, _⟩
    · exact .inr a
    · exact .inl ⟨g, cap, a⟩

theorem wpList_append_string_lies {P : Program} {w : World} {ops : Array Oper} {rest : List Oper} {o : Oper} {a : Act} {Q : Exit → Act → World → Prop} (hgd : o.guard = none) (sl x : Operand) (t u : TypeId)
    (ho : o.op = .call { callee := .builtin .append, args := #[sl, x], argTypes := #[t, u] })
    (base : Nat) (e : TypeId) (i : TypeInfo) (ht : P.underlying t = some (.slice e)) (hu : P.underlying u = some .string) (hi : P.info? e = some i) (hz : i.zero = some (.int .u8 0))
    (hsize : i.size = 1) (hby : i.bytes = 1) (v : Value) (n : Nat) (xs : List Value) (hs : a.eval sl = v) (hown : w.ownsRow base e 1 v n xs) (s : ByteArray) (hx : a.eval x = .string s) (hpos : 0 < s.size)
    (h63 : n + s.size ≤ maxLen) (hbytes : n + s.size ≤ 140737488355328) (hbase : base ≤ w.heap.size)
    (h : ∀ g c w', w'.ownsRow base e 1 (.slice (some ⟨g, 0, none⟩) (n + s.size) c) (n + s.size) (xs ++ Lib.strCells s) → w.grownBy w' v.ownBlock → (v.ownBlock = some g ∨ g = w.heap.size) →
      wpList P ops Q rest (a.put o.dst (.slice (some ⟨g, 0, none⟩) (n + s.size) c)) w') : wpList P ops Q (o :: rest) a w := by
  refine wpList_plain hgd fun K hK => ?_
  obtain ⟨v', w', hr, h2, h3, h4, h5⟩ := run_append_string_lies (P := P) w base t u o.type e i ht hu hi hz hsize hby v n xs hown s h63 hbytes hbase
  have hv : ∃ g c, v' = .slice (some ⟨g, 0, none⟩) (n + s.size) c := by
    rcases h5 with h5 | h5
    · exact h5
    · exfalso
      rw [h5] at h2
      rcases h2.2 with ⟨_, hb⟩ | ⟨g, cap, cur, a, _⟩
      · omega
      · cases a
  obtain ⟨g, c, rfl⟩ := hv
  unfold Oper.wp execOp
  simp only [ho, resolve, invoke, builtin, Sem.run_bind, Sem.run_pure, Result.andThen_ok, List.map_toArray, List.map_cons, List.map_nil, hs, hx, hr]
  refine hK _ _ (h g c w' h2 h3 ?_)
  rcases h4 with h4 | h4
  · exact .inl h4.symm
  · simp [Value.ownBlock] at h4; exact .inr h4


/-- The byte of a number. -/
def b8 (x : Int) : UInt8 := UInt8.ofNat x.toNat
theorem b8_toNat (c : UInt8) : b8 (c.toNat : Int) = c := by simp [b8]
theorem b8_val {x : Int} (h0 : 0 ≤ x) (h1 : x < 256) : ((b8 x).toNat : Int) = x := by simp [b8]; omega

/-- writeByte, at a number. -/
theorem writeByte_int {w0 w : World} {b0 : Option Nat} {N e : Nat} {s : St} (x : Int) (h : EncF w0 b0 N e s w) (h0 : 0 ≤ x) (h1 : x < 256) (hlen : s.out.length + 1 ≤ lim) :
    Calls Tryz.prog 31 #[.pointer (some ⟨e, 0, none⟩), .int .u8 x] w fun ev w' => ev = .returned (.tuple #[]) ∧ EncF w0 b0 N e (s.add [b8 x]) w' := by
  have := writeByte_any (b8 x) h hlen
  rwa [b8_val h0 h1] at this

set_option maxHeartbeats 800000 in
/-- writeTwoBytes: two bytes more. -/
theorem writeTwoBytes_int {w0 w : World} {b0 : Option Nat} {N e : Nat} {s : St} (x y : Int) (h : EncF w0 b0 N e s w) (hx0 : 0 ≤ x) (hx1 : x < 256) (hy0 : 0 ≤ y) (hy1 : y < 256) (hlen : s.out.length + 2 ≤ lim) :
    Calls Tryz.prog 77 #[.pointer (some ⟨e, 0, none⟩), .int .u8 x, .int .u8 y] w fun ev w' => ev = .returned (.tuple #[]) ∧ EncF w0 b0 N e (s.add [b8 x, b8 y]) w' := by
  obtain ⟨bb, hE, hF⟩ := h
  obtain ⟨v, ⟨hown, hob⟩, c0, _, _, _, _, _, hfz, hes, hNe, hN⟩ := hE.cells
  have f0 := hfz 0
  obtain ⟨i0, hi, hz0, hz1, hz2⟩ := info_parts info_u8
  have hownA : (w.alloc (.cells #[.int .u8 x, .int .u8 y] 5)).ownsRow N 5 1 v s.out.length (bvs s.out) := hown.alloc _
  have hnews : bvs [b8 x, b8 y] = [.int .u8 x, .int .u8 y] := by simp [bvs, bv, b8_val hx0 hx1, b8_val hy0 hy1]
  have hnH := Lib.hid hnews
  have hEH := Lib.hid hE
  have hFH := Lib.hid hF
  have hobH := Lib.hid hob
  clear hE hF hob hfz hnews
  have hlen' : s.out.length + 2 ≤ 1099511627776 := hlen
  clear hlen
  go_enter Tryz.func77, Tryz.ntmps77
  go_wp2_with (at_builtin; refine wpList_append_lies _ rfl (.tmp 10) (.tmp 13) 36 rfl N 5 i0 (.int .u8 0) 1 1 Tryz.underlying36 hi hz0 hz1 hz2 rfl (by omega) v s.out.length (bvs s.out) rfl hownA ⟨w.heap.size, 0, none⟩ 2 2 [.int .u8 x, .int .u8 y] rfl rfl ?c1 ?c2 (by omega) ?c3 ?c4 (by simp; omega) (w.heap.size + 1) (by simp) ?next)
  case c1 => exact World.news_of_block (heap_alloc_new w _)
  case c2 => intro u hu; simp at hu; rcases hu with rfl | rfl <;> rfl
  case c3 => unfold maxLen; omega
  case c4 => omega
  case next =>
    intro g cap w1 hown1 hgrow hat hlt
    have hE := hEH.out
    have hob := hobH.out
    have hne : bb ≠ some e := by obtain ⟨_, _, _, h4, _⟩ := hE; exact h4
    have k0 : w1.cell? ⟨e, 0, none⟩ = some v := by
      rw [World.cell?_of_block (hgrow.block e (by simp; omega) (by rw [hob]; exact Ne.symm hne)), World.cell?_alloc_past _ _ _ hes]; exact c0
    have e0 : w1.frozen? ⟨e, 0, none⟩ = false := by
      rw [World.frozen?_of_block (hgrow.block e (by simp; omega) (by rw [hob]; exact Ne.symm hne)), World.frozen?_alloc_past _ _ _ hes]; exact f0
    have hfin : EncF w0 b0 N e (s.add [b8 x, b8 y]) (w1.setCell ⟨e, 0, none⟩ (.slice (some ⟨g, 0, none⟩) (s.out.length + 2) cap)) := by
      refine EncF.put hE hFH.out ⟨w.alloc (.cells #[.int .u8 x, .int .u8 y] 5), fun k hk => heap_alloc_old w _ k hk, by simp, rfl, rfl, rfl, hob ▸ hgrow⟩ ?_ ?_
      · rw [bvs_append, hnH.out]; simpa using hown1
      · rcases hat with hx | hx
        · left; rw [← hob, hx]; rfl
        · right; exact ⟨g, by omega, rfl⟩
    have hfinH := Lib.hid hfin
    clear hfin hown1 hgrow hat hEH hFH hobH hE hob hownA hown
    go_wp2
    go_end0
    exact ⟨rfl, hfinH.out⟩

set_option maxHeartbeats 800000 in
/-- writeString: a text more. -/
theorem writeString_any {w0 w : World} {b0 : Option Nat} {N e : Nat} {s : St} (t : ByteArray) (h : EncF w0 b0 N e s w) (hpos : 0 < t.size) (hlen : s.out.length + t.size ≤ lim) :
    Calls Tryz.prog 70 #[.pointer (some ⟨e, 0, none⟩), .string t] w fun ev w' => ev = .returned (.tuple #[]) ∧ EncF w0 b0 N e (s.add t.data.toList) w' := by
  obtain ⟨bb, hE, hF⟩ := h
  obtain ⟨v, ⟨hown, hob⟩, c0, _, _, _, _, _, hfz, hes, hNe, hN⟩ := hE.cells
  have f0 := hfz 0
  obtain ⟨i0, hi, hz0, hz1, hz2⟩ := info_parts info_u8
  have hEH := Lib.hid hE
  have hFH := Lib.hid hF
  have hobH := Lib.hid hob
  clear hE hF hob hfz
  have hlen' : s.out.length + t.size ≤ 1099511627776 := hlen
  clear hlen
  go_enter Tryz.func70, Tryz.ntmps70
  go_wp2_with (at_builtin; refine wpList_append_string_lies rfl (.tmp 8) (.tmp 9) 36 9 rfl N 5 i0 Tryz.underlying36 Tryz.underlying9 hi hz0 hz1 hz2 v s.out.length (bvs s.out) rfl hown t rfl hpos ?c3 ?c4 hN ?next)
  case c3 => unfold maxLen; omega
  case c4 => omega
  case next =>
    intro g cap w1 hown1 hgrow hat
    have hE := hEH.out
    have hob := hobH.out
    have hne : bb ≠ some e := by obtain ⟨_, _, _, h4, _⟩ := hE; exact h4
    have k0 : w1.cell? ⟨e, 0, none⟩ = some v := by
      rw [World.cell?_of_block (hgrow.block e (by omega) (by rw [hob]; exact Ne.symm hne))]; exact c0
    have e0 : w1.frozen? ⟨e, 0, none⟩ = false := by
      rw [World.frozen?_of_block (hgrow.block e (by omega) (by rw [hob]; exact Ne.symm hne))]; exact f0
    have hfin : EncF w0 b0 N e (s.add t.data.toList) (w1.setCell ⟨e, 0, none⟩ (.slice (some ⟨g, 0, none⟩) (s.out.length + t.size) cap)) := by
      have hsz : t.data.toList.length = t.size := by simp
      refine EncF.put hE hFH.out ⟨w, fun k _ => rfl, Nat.le_refl _, rfl, rfl, rfl, hob ▸ hgrow⟩ ?_ ?_
      · rw [bvs_append, List.length_append, hsz]; exact hown1
      · rcases hat with hx | hx
        · left; rw [← hob, hx]; rfl
        · right; exact ⟨g, by omega, rfl⟩
    have hfinH := Lib.hid hfin
    clear hfin hown1 hgrow hat hEH hFH hobH hE hob hown
    go_wp2
    go_end0
    exact ⟨rfl, hfinH.out⟩

end Go.Proofs.YtokmkkkanphihaaGreatRDoor
