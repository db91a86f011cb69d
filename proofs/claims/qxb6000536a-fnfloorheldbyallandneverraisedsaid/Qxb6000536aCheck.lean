import Derived.Test.Qxb6000536aFloor
namespace Go.Proofs.Qxb6000536a.ck
open Go.RowKit Go.Lib Go.Maps
set_option linter.unusedVariables false
variable {w W W' : World} {r n N : Nat} {O : Nat → Nat → Prop} {b : Nat → Nat} {A : Nat → Clk}

theorem MapOn.more {b N N' : Nat} {z : Value} {V : Key → Value} {dom : Key → Bool} (h : MapOn W b N z V dom) (hN : N ≤ N') : MapOn W b N' z V dom := by
  obtain ⟨D, h⟩ := h; exact ⟨D, h.own.mono hN, h.at_, h.has, h.str⟩

/-- Floor, of no clocks or of some. -/
theorem floor_any (h : Cks w r n N O b A) (hN : N < 1000000000000) (hn : n < 1000000000000) :
    Calls Try.prog 21 #[.slice (some ⟨r, 0, none⟩) n n] w fun e w' => e = .returned (.map (some w.heap.size)) ∧
      MapOn w' w.heap.size N (.int .u64 0) (fun k => .int .u64 (floF A n k)) (fun k => decide (0 < floF A n k)) ∧ w.grownBy w' none := by
  by_cases hn0 : n = 0
  · subst hn0
    refine (floor_none w _ 0).mono ?_
    rintro e w' ⟨rfl, h1, h2⟩
    exact ⟨rfl, (h1.more (Nat.zero_le _)).congr (fun k => by simp [floF]) (fun k => by simp [floF]), h2⟩
  · exact floor_some h hN (by omega) hn

/-- A base that is not above the clock's is held. -/
theorem holds_upto {M : Sn} (hM : Canon M) {g : Int} (h : g ≤ M.1) : hasAllB M (g, []) = true := by
  rw [hasAllB_iff M _ hM]
  intro y hy
  rcases hy with hy | hy
  · exact .inl (Int.le_trans hy h)
  · cases hy

set_option maxHeartbeats 4000000 in
set_option maxRecDepth 100000 in
/-- checkFloorNode. -/
theorem check_any {fb gb Nf Ng : Nat} {F G : Key → Int} {df dg : Key → Bool} (hf : MapOn w fb Nf (.int .u64 0) (fun k => .int .u64 (F k)) df) (hg : MapOn w gb Ng (.int .u64 0) (fun k => .int .u64 (G k)) dg)
    (h : Cks w r n N O b A) (hN : N < 1000000000000) (hn : n < 1000000000000) (s : ByteArray) (hs : s.size ≤ maxLen) (had : Bool) (hle : had = true → G s.data.toList ≤ F s.data.toList) (h0 : 0 ≤ G s.data.toList) (hGN : G s.data.toList ≤ N) (hall : ∀ i, i < n → G s.data.toList ≤ (A i s.data.toList).1) :
    Calls Try.prog 25 #[.string s, .map (some fb), .map (some gb), .slice (some ⟨r, 0, none⟩) n n, .bool had] w (TrueG w) := by
  have lf := hf.look Try.underlying47 (Try.zeroValue32 w) s hs
  have lg := hg.look Try.underlying47 (Try.zeroValue32 w) s hs
  have H : Hid (Cks w r n N O b A ∧ ∀ i, i < n → hasAllB (A i s.data.toList) (G s.data.toList, []) = true) := ⟨h, fun i hi => holds_upto (h.canon _ i hi) (hall i hi)⟩
  generalize G s.data.toList = g at *
  generalize F s.data.toList = f at *
  clear hf hg h hall
  obtain ⟨y2, hy2⟩ : ∃ y2, y2 = w.alloc (.cells #[.int .u64 g, .slice none 0 0] 36) := ⟨_, rfl⟩
  have H2 : Hid (w.grownBy y2 none ∧ y2.heap[w.heap.size]? = some (.cells #[.int .u64 g, .slice none 0 0] 36 (0, 0))) := by
    rw [hy2]; exact ⟨World.grownBy_alloc _ _ _, heap_alloc_new w _⟩
  go_enter Try.func25, Try.ntmps25
  cases had
  all_goals
    first
      | (have d : decide (f < g) = false := decide_eq_false (by have := hle rfl; omega))
      | skip
    clear hle
    go_wp2_with fail
    clear lf lg
    rw [← hy2]
    clear hy2
    go_loopw [13] (fun s13 wr => ∃ j : Nat, s13 = .int .i64 j ∧ j ≤ n ∧ y2.grownBy wr none) (fun s13 _ => n - (intOf s13).toNat)
    case atStart => exact ⟨0, rfl, Nat.zero_le _, grown_refl _⟩
    case round =>
      obtain ⟨j, rfl, hj, hgr⟩ := hrel
      have HG : Hid (y2.grownBy wr none ∧ w.grownBy wr none) := ⟨hgr, H2.out.1.trans hgr⟩
      have hbx : wr.heap[w.heap.size]? = some (.cells #[.int .u64 g, .slice none 0 0] 36 (0, 0)) := by rw [hgr.block _ (Array.getElem?_eq_some_iff.1 H2.out.2).1 (by simp)]; exact H2.out.2
      have q0 : wr.cell? ⟨w.heap.size, 0, none⟩ = some (.int .u64 g) := by rw [cell_of_row _ _ _ _ _ _ hbx]; rfl
      have q1 : wr.cell? ⟨w.heap.size, 1, none⟩ = some (.slice none 0 0) := by rw [cell_of_row _ _ _ _ _ _ hbx]; rfl
      clear hbx hgr
      by_cases hlt : j < n
      · have k1 : wr.cell? ⟨r, j, none⟩ = some (.map (some (b j))) := (H.out.1.grown HG.out.2).cell j hlt
        have p1 : (j : Int) < (n : Int) := by omega
        have p2 : g < 1000000000000 := by omega
        go_wp2_with fail
        go_region_held3 (fun w' => w'.cell? ⟨w.heap.size, 0, none⟩ = some (.int .u64 g) ∧ w'.cell? ⟨w.heap.size, 1, none⟩ = some (.slice none 0 0) ∧ w'.cell? ⟨r, j, none⟩ = some (.map (some (b j)))) (first | go_keep | exact ⟨q0', q1', k1'⟩)
          ((go_at_call 14; refine (hasAll (O := O j) (b := b j) (N := N) (A := A j) (by exact ((H.out.1.grown HG.out.2).clk j hlt).far (fun _ _ => rfl)) hN s hs (.slice none 0 0) (g, []) (World.ownsRow_nil _ _ _ _) h0 p2 (by simp)).mono ?_; rintro e y3 ⟨rfl, hy3⟩; rw [H.out.2 j hlt]; have q0' := keep_cell hy3 (a := ⟨w.heap.size, 0, none⟩) q0; have q1' := keep_cell hy3 (a := ⟨w.heap.size, 1, none⟩) q1; have k1' := keep_cell hy3 (a := ⟨r, j, none⟩) k1))
        go_wp2_with fail
        exact ⟨⟨j + 1, by go_num, by omega, HG.out.1.trans ⟨hy3.os, hy3.tape, hy3.output, hy3.size, hy3.block⟩⟩, by simp [intOf]; omega⟩
      · go_wp2_with fail
        go_ret
        exact ⟨rfl, HG.out.2⟩
end Go.Proofs.Qxb6000536a.ck
