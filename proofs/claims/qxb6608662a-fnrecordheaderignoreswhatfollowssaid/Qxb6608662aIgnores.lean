import Derived.Test.Qxb6608662aCopies
namespace Go.Proofs.Qxb6608662a
open Go.ChangeShapes Go.WideShapes Go.ChangeAt Go.RowKit
open Go.Deep
set_option linter.unusedVariables false

/-- block B holds n bytes; the first k are z's -/
def Filled (w : World) (B n : Nat) (z : List Int) (k : Nat) : Prop := ∃ g : Nat → Int, w.rowIs B 5 n (fun j => .int .u8 (g j)) ∧ ∀ j, j < k → g j = z.getD j 0
theorem Filled.made (w : World) (n : Nat) (z : List Int) : Filled (w.alloc (.cells (madeCells #[.int .u8 0] n) 5)) w.heap.size n z 0 :=
  ⟨fun _ => 0, World.rowIs_made _ _ _ _, fun j h => by omega⟩
theorem Filled.store {w : World} {B n k : Nat} {z : List Int} (h : Filled w B n z k) {v : Int} (hv : v = z.getD k 0) : Filled (w.setCell ⟨B, k, none⟩ (.int .u8 v)) B n z (k + 1) := by
  obtain ⟨g, h1, h2⟩ := h
  refine ⟨fun j => if j = k then v else g j, (h1.set k (.int .u8 v)).congr fun i hi => ?_, fun j h4 => ?_⟩
  · by_cases e : i = k <;> simp [e]
  · by_cases e : j = k
    · simp only [e, if_true]; exact hv
    · simp only [e, if_false]; exact h2 j (by omega)
theorem Filled.far {w : World} {B n k i : Nat} {z : List Int} (h : Filled w B n z k) (hi : k ≤ i) (v : Int) : Filled (w.setCell ⟨B, i, none⟩ (.int .u8 v)) B n z k := by
  obtain ⟨g, h1, h2⟩ := h
  refine ⟨fun j => if j = i then v else g j, (h1.set i (.int .u8 v)).congr fun j hj => ?_, fun j h4 => ?_⟩
  · by_cases e : j = i <;> simp [e]
  · have e : j ≠ i := by omega
    simp only [e, if_false]; exact h2 j h4
theorem Filled.alloc {w : World} {B n k : Nat} {z : List Int} (h : Filled w B n z k) (o : Obj) : Filled (w.alloc o) B n z k := by
  obtain ⟨g, h1, h2⟩ := h
  exact ⟨g, h1.alloc o, h2⟩
theorem cell_lt {w : World} {a : Addr} {v : Value} (h : w.cell? a = some v) : a.block < w.heap.size := by
  by_cases hb : a.block < w.heap.size
  · exact hb
  · have : w.heap[a.block]? = none := by simp; omega
    simp [World.cell?, this] at h

/-- what the two loops and the last one keep: of what was there nothing has turned; the copy of rec reads as rec did; buf's first k bytes are rec's -/
structure Keeps (w0 : World) (A l Bb n : Nat) (z : List Int) (k : Nat) (w : World) : Prop where
  bel : Below w0.heap.size w0 w
  row : w.rowIs A 5 l (fun j => .int .u8 (z.getD j 0))
  buf : Filled w Bb n z k

theorem Keeps.draws {w0 : World} {A l Bb n : Nat} {z : List Int} {k : Nat} {w : World} (h : Keeps w0 A l Bb n z k w) (q : Nat) : Keeps w0 A l Bb n z k (w.drewN q) := by
  obtain ⟨g, h1, h2⟩ := h.buf
  exact ⟨h.bel.trans ⟨rfl, rfl, rfl, Nat.le_refl _, fun _ _ => rfl⟩, h.row.of_block rfl, ⟨g, h1.of_block rfl, h2⟩⟩

set_option maxRecDepth 100000 in
set_option maxHeartbeats 1000000 in
theorem ign_core (x : Addr) (l c m d s h : Nat) (z z6 : List Int) (y : Option Addr) (a1 a2 a5 a7 a8 a9 : Int) (w : World)
    (hlc : l ≤ c) (hzl : z.length = c) (hz : ∀ i, i < z.length → w.cell? (x.add i) = some (.int .u8 (z.getD i 0)))
    (hsum : l + m ≤ 1048576) (hs : s ≤ 65535) (hh : h ≤ 4294967295) (p0 : 0 ≤ a5) (p1 : a5 ≤ 4294967295) (r0 : 0 ≤ a9) (r1 : a9 ≤ 4294967295) (hL : 34 + s + h ≤ l)
    (hy : m = 0 ∨ ∃ b off, y = some ⟨b, off, none⟩ ∧ ∀ i, i < m → w.cell? ⟨b, off + i, none⟩ = some (.int .u8 (z6.getD i 0))) :
    Calls Try.prog 3 #[.slice (some x) l c, .int .u64 a1, .int .i64 a2, .int .i64 s, .int .i64 h, .int .i64 a5, .slice y m d, .int .u64 a7, .int .i64 a8, .int .i64 a9] w fun e w' => e = .returned (.bool true) ∧ Below w.heap.size w w' := by
  have hmk := run_make_row' (P := Try.prog) 22 5 (.int .u8 0) 1 Try.underlying22 Try.info5' rfl .i64 .i64 l (by omega) (by omega)
  have hmk2 := run_make_row' (P := Try.prog) 22 5 (.int .u8 0) 1 Try.underlying22 Try.info5' rfl .i64 .i64 (l + m) (by omega) (by omega)
  have ec : ((l + m : Nat) : Int) = (l : Int) + m := by omega
  simp only [ec] at hmk2
  clear ec
  have HY : Hid (m = 0 ∨ ∃ b off, y = some ⟨b, off, none⟩ ∧ ∀ i, i < m → w.cell? ⟨b, off + i, none⟩ = some (.int .u8 (z6.getD i 0))) := hy
  clear hy
  have q22 : ∀ (w : World) (a : Option Addr) (n c n' c' : Nat), (binOp .neq 22 (.slice a n c) (.slice none n' c')).run Try.prog w = .ok (.bool (!a.isNone)) w := fun w a n c n' c' => run_neq_slice_nil_any w _ _ a n c n' c' Try.underlying22
  have hsum' : (l : Int) + m ≤ 1048576 := by omega
  have hL' : 34 + (s : Int) + h ≤ l := by omega
  have HZ : Hid (∀ i, i < z.length → w.cell? (x.add i) = some (.int .u8 (z.getD i 0))) := hz
  have HL : Hid (z.length = c) := hzl
  clear hz hzl
  go_enter Try.func3, Try.ntmps3
  go_wp2_with fail
  refine (bytes_yes _ _ _ _ _ _ _ _ _ _ _ _ _ _ hsum _).mono ?_
  rintro e w1 ⟨rfl, rfl⟩
  go_wp2_with (refine wpList_copy_splice rfl (.tmp 47) (.tmp 48) 22 22 rfl 5 Try.underlying22 Try.size5 _ _ _ _ _ _ rfl rfl w1.heap.size 0 (madeCells #[.int .u8 0] l).toList 5 (made_block w1 l) (cellsOf z l) (by rw [cellsOf_length z l (by rw [HL.out]; exact hlc)]; simp) (fun _ => ⟨rfl, x, rfl, fun j v hj => by obtain ⟨h1, rfl⟩ := cellsOf_at (by rw [HL.out]; exact hlc) hj; have hc := HZ.out j h1; rw [World.cell?_alloc_some _ _ _ (by rw [hc]; rfl)]; exact hc⟩) (by rw [cellsOf_length z l (by rw [HL.out]; exact hlc)]; simp [madeCells]) (cellsOf_one z l) w1.heap.size w1 ((Below.refl _ _).alloc (Nat.le_refl _) _) (Nat.le_refl _) ?_; intro w2 HG2 HB2; clear hmk q22)
  have R2 : Hid (w2.rowIs w1.heap.size 5 l (fun j => .int .u8 (z.getD j 0))) := copied w2 w1.heap.size l z (by rw [HL.out]; exact hlc) HG2.out
  have B2 : Hid (Below w1.heap.size w1 w2) := HB2
  clear HG2 HB2
  refine (spend_any 1048576 l (by omega) (by omega) (by omega) _).mono ?_
  rintro e w3 ⟨rfl, rfl⟩
  go_wp2_with fail
  refine (spend_any (1048576 - l) m (by omega) (by omega) (by omega) _).mono ?_
  rintro e w3 ⟨rfl, rfl⟩
  go_wp2_with fail
  refine (newHead_any a1 a2 s h a5 _).mono ?_
  rintro e w4 ⟨rfl, x1, rfl⟩
  go_wp2_with fail
  refine (header_any _ _ a1 a2 s h a5 (by omega) hL (by omega) _).mono ?_
  rintro e w4 ⟨⟨o, rfl, hoff⟩, x2, x3, rfl⟩
  have F : Hid (0 < h → o = 34 + s) := hoff
  clear hoff
  go_wp2_with fail
  clear hmk2
  have hA : w1.heap.size < w3.heap.size := R2.out.lt
  have f0 := Filled.made (((w3.alloc (.cells x1 28)).alloc (.cells x2 28)).alloc (.cells x3 28)) (l + m) z
  simp only [World.size_alloc] at f0
  have K0 : Hid (Keeps w1 w1.heap.size l (w3.heap.size + 1 + 1 + 1) (l + m) z 0 ((((w3.alloc (.cells x1 28)).alloc (.cells x2 28)).alloc (.cells x3 28)).alloc (.cells (madeCells #[.int .u8 0] (l + m)) 5))) :=
    ⟨(((B2.out.alloc (by omega) _).alloc (by simp; omega) _).alloc (by simp; omega) _).alloc (by simp; omega) _, (((R2.out.alloc _).alloc _).alloc _).alloc _, f0⟩
  clear f0 R2 B2
  go_loopw [26] (fun i wr => ∃ k : Nat, k ≤ l ∧ i = .int .i64 k ∧ Hid (Keeps w1 w1.heap.size l (w3.heap.size + 1 + 1 + 1) (l + m) z k wr))
    (fun i _ => l - (intOf i).toNat)
  case atStart => exact ⟨0, Nat.zero_le _, rfl, K0⟩
  case round =>
    clear K0
    obtain ⟨k, hk, rfl, K⟩ := hrel
    by_cases hlt : k < l
    · obtain ⟨v, hv⟩ : ∃ v, v = z.getD k 0 := ⟨_, rfl⟩
      have V : Hid (v = z.getD k 0) := hv
      have hr := K.out.row.cell (i := k) hlt
      rw [← hv] at hr
      obtain ⟨g, hg1, hg2⟩ := K.out.buf
      have hc := hg1.cell (i := k) (by omega)
      have hf := hg1.frozen k
      clear hg1 hg2 hv
      go_wp2
      go_roundw
      case rel => exact ⟨k + 1, by omega, by go_num, ⟨K.out.bel.setCell (by show w1.heap.size ≤ w3.heap.size + 1 + 1 + 1; omega) _, K.out.row.setOther (by show w1.heap.size ≠ w3.heap.size + 1 + 1 + 1; omega) _, K.out.buf.store V.out⟩⟩
      case measure => simp [intOf]; omega
    · have K1 : Hid (Keeps w1 w1.heap.size l (w3.heap.size + 1 + 1 + 1) (l + m) z l wr) := by
        obtain rfl : k = l := by omega
        exact K
      clear K
      go_wp2_with fail
      go_loopw [27] (fun i wr => ∃ k : Nat, k ≤ m ∧ i = .int .i64 k ∧ Hid (Keeps w1 w1.heap.size l (w3.heap.size + 1 + 1 + 1) (l + m) z l wr))
        (fun i _ => m - (intOf i).toNat)
      case atStart => exact ⟨0, Nat.zero_le _, rfl, K1⟩
      case round =>
        clear K1
        obtain ⟨k2, hk2, rfl, K⟩ := hrel
        by_cases hlt2 : k2 < m
        · obtain ⟨b, off, rfl, hy1⟩ : ∃ b off, y = some ⟨b, off, none⟩ ∧ ∀ i, i < m → w1.cell? ⟨b, off + i, none⟩ = some (.int .u8 (z6.getD i 0)) := by
            rcases HY.out with h | h
            · omega
            · exact h
          obtain ⟨v, hv⟩ : ∃ v, v = z6.getD k2 0 := ⟨_, rfl⟩
          have hr0 := hy1 k2 hlt2
          rw [← hv] at hr0
          have hr := (K.out.bel.cell (p := ⟨b, off + k2, none⟩) (cell_lt hr0)).trans hr0
          obtain ⟨g, hg1, hg2⟩ := K.out.buf
          have hc := hg1.cell (i := l + k2) (by omega)
          have hf := hg1.frozen (l + k2)
          clear hg1 hg2 hv hy1 hr0 HY
          go_wp2
          go_roundw
          case rel => exact ⟨k2 + 1, by omega, by go_num, ⟨K.out.bel.setCell (by show w1.heap.size ≤ w3.heap.size + 1 + 1 + 1; omega) _, K.out.row.setOther (by show w1.heap.size ≠ w3.heap.size + 1 + 1 + 1; omega) _, K.out.buf.far (Nat.le_add_right _ _) _⟩⟩
          case measure => simp [intOf]; omega
        · go_wp2_with fail
          refine (newHead_any a7 a8 s h a9 _).mono ?_
          rintro e w4 ⟨rfl, x4, rfl⟩
          go_wp2_with fail
          refine (header_any _ _ a7 a8 s h a9 (by omega) (by omega) (by omega) _).mono ?_
          rintro e w4 ⟨⟨o2, rfl, hoff⟩, x5, x6, rfl⟩
          have F2 : Hid (0 < h → o2 = 34 + s) := hoff
          clear hoff
          have K2 : Hid (Keeps w1 w1.heap.size l (w3.heap.size + 1 + 1 + 1) (l + m) z l (((wr.alloc (.cells x4 28)).alloc (.cells x5 28)).alloc (.cells x6 28))) :=
            ⟨((K.out.bel.alloc K.out.bel.size _).alloc (by have := K.out.bel.size; simp; omega) _).alloc (by have := K.out.bel.size; simp; omega) _, ((K.out.row.alloc _).alloc _).alloc _, ((K.out.buf.alloc _).alloc _).alloc _⟩
          clear K
          go_wp2_with fail
          clear HY HZ HL
          go_loopw [29] (fun i wr => ∃ k : Nat, k ≤ h ∧ i = .int .i64 k ∧ Hid (Keeps w1 w1.heap.size l (w3.heap.size + 1 + 1 + 1) (l + m) z l wr))
            (fun i _ => h - (intOf i).toNat)
          case atStart => exact ⟨0, Nat.zero_le _, rfl, K2⟩
          case round =>
            clear K2
            obtain ⟨k3, hk3, rfl, K⟩ := hrel
            by_cases hlt3 : k3 < h
            · obtain rfl : o = 34 + s := F.out (by omega)
              obtain rfl : o2 = 34 + s := F2.out (by omega)
              obtain ⟨v, hv⟩ : ∃ v, v = z.getD (34 + s + k3) 0 := ⟨_, rfl⟩
              have hr := K.out.row.cell (i := 34 + s + k3) (by omega)
              rw [← hv] at hr
              obtain ⟨g, hg1, hg2⟩ := K.out.buf
              have hc := hg1.cell (i := 34 + s + k3) (by omega)
              rw [hg2 _ (by omega), ← hv] at hc
              clear hg1 hg2 hv
              go_wp2_with fail
              go_quiet (fail)
              go_wp2
              go_roundw
              case rel => exact ⟨k3 + 1, by omega, by go_num, K.out.draws _⟩
              case measure => simp [intOf]; omega
            · go_wp2
              go_ret
              exact ⟨rfl, K.out.bel⟩
end Go.Proofs.Qxb6608662a
