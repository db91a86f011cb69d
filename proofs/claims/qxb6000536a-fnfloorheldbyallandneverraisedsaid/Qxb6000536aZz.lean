import Derived.Test.Qxb6000536aBytes
namespace Go.Proofs.Qxb6000536a.ck
open Go.RowKit Go.Lib Go.Maps
set_option linter.unusedVariables false

/-- Some bool comes back; nothing turns. -/
def SomeBool (w : World) (e : Ending) (w' : World) : Prop := ∃ r : Bool, e = .returned (.bool r) ∧ w' = w

set_option maxHeartbeats 4000000 in
set_option maxRecDepth 100000 in
theorem zz16 (w : World) (node : ByteArray) (hnode : node.size ≤ maxLen) (nodesV : Value) (nodes : List ByteArray) (hnodes : StrsAt w nodesV nodes) (nnodes : nodes.length ≤ 9223372036854775807) (ctsV : Value) (cts : List Value) (hcts : SliceAt w ctsV cts) (ncts : cts.length ≤ 9223372036854775807) (moreV : Value) (more : List ByteArray) (hmore : StrsAt w moreV more) (nmore : more.length ≤ 9223372036854775807) (mctsV : Value) (mcts : List Value) (hmcts : SliceAt w mctsV mcts) (nmcts : mcts.length ≤ 9223372036854775807) :
    Calls Try.prog 16 #[.string node, nodesV, ctsV, moreV, mctsV] w (SomeBool w) := by
  unfold maxLen at hnode
  obtain ⟨anodes, cnodes, enodes⟩ := hnodes.1.form
  rw [List.length_map] at enodes
  subst enodes
  have Hnodes : Hid (StrsAt w (.slice anodes nodes.length cnodes) nodes) := hnodes
  clear hnodes
  obtain ⟨acts, ccts, ects⟩ := hcts.form
  subst ects
  clear hcts
  obtain ⟨amore, cmore, emore⟩ := hmore.1.form
  rw [List.length_map] at emore
  subst emore
  have Hmore : Hid (StrsAt w (.slice amore more.length cmore) more) := hmore
  clear hmore
  obtain ⟨amcts, cmcts, emcts⟩ := hmcts.form
  subst emcts
  clear hmcts
  by_cases h1 : 1048576 < (node.size : Int)
  · go_enter Try.func16, Try.ntmps16
    go_wp2
    go_ret
    exact ⟨_, rfl, rfl⟩
  by_cases h2 : 1048576 < (nodes.length : Int)
  · go_enter Try.func16, Try.ntmps16
    go_wp2
    go_ret
    exact ⟨_, rfl, rfl⟩
  by_cases h3 : 1048576 < (node.size : Int) + (nodes.length : Int)
  · go_enter Try.func16, Try.ntmps16
    go_wp2
    go_ret
    exact ⟨_, rfl, rfl⟩
  go_enter Try.func16, Try.ntmps16
  go_wp2
  go_loop [11, 12] (fun sz si => ∃ (k : Nat) (t : Int), sz = .int .i64 t ∧ si = .int .i64 k ∧ k ≤ nodes.length ∧ 0 ≤ t ∧ t ≤ 1048576) (fun _ si => nodes.length - (intOf si).toNat)
  case atStart => exact ⟨0, _, rfl, rfl, Nat.zero_le _, by omega, by omega⟩
  case round =>
    obtain ⟨k0, t0, rfl, rfl, hk0, ht0, hu0⟩ := hrel
    by_cases hlt0 : k0 < nodes.length
    · obtain ⟨b, off, s, rfl, hb, hc, hss, hsz⟩ := Hnodes.out.cell k0 hlt0
      clear hss
      unfold maxLen at hsz
      have hlt' : (k0 : Int) < (nodes.length : Int) := by omega
      by_cases hbig : 1048576 < (s.size : Int)
      · go_wp2
        go_ret
        exact ⟨_, rfl, rfl⟩
      · by_cases hsum : 1048576 < t0 + (s.size : Int)
        · go_wp2
          go_ret
          exact ⟨_, rfl, rfl⟩
        · go_wp2
          go_round
          case rel => exact ⟨k0 + 1, t0 + s.size, by go_num, by go_num, by omega, by omega, by omega⟩
          case measure => simp [intOf]; omega
    by_cases h4 : 1048576 < (cts.length : Int)
    · go_wp2
      go_ret
      exact ⟨_, rfl, rfl⟩
    by_cases h5 : 1048576 < t0 + (cts.length : Int)
    · go_wp2
      go_ret
      exact ⟨_, rfl, rfl⟩
    by_cases h6 : 1048576 < (more.length : Int)
    · go_wp2
      go_ret
      exact ⟨_, rfl, rfl⟩
    by_cases h7 : 1048576 < t0 + (cts.length : Int) + (more.length : Int)
    · go_wp2
      go_ret
      exact ⟨_, rfl, rfl⟩
    go_wp2
    go_loop [11, 13] (fun sz si => ∃ (k : Nat) (t : Int), sz = .int .i64 t ∧ si = .int .i64 k ∧ k ≤ more.length ∧ 0 ≤ t ∧ t ≤ 1048576) (fun _ si => more.length - (intOf si).toNat)
    case atStart => exact ⟨0, _, rfl, rfl, Nat.zero_le _, by omega, by omega⟩
    case round =>
      obtain ⟨k1, t1, rfl, rfl, hk1, ht1, hu1⟩ := hrel
      by_cases hlt1 : k1 < more.length
      · obtain ⟨b, off, s, rfl, hb, hc, hss, hsz⟩ := Hmore.out.cell k1 hlt1
        clear hss
        unfold maxLen at hsz
        have hlt' : (k1 : Int) < (more.length : Int) := by omega
        by_cases hbig : 1048576 < (s.size : Int)
        · go_wp2
          go_ret
          exact ⟨_, rfl, rfl⟩
        · by_cases hsum : 1048576 < t1 + (s.size : Int)
          · go_wp2
            go_ret
            exact ⟨_, rfl, rfl⟩
          · go_wp2
            go_round
            case rel => exact ⟨k1 + 1, t1 + s.size, by go_num, by go_num, by omega, by omega, by omega⟩
            case measure => simp [intOf]; omega
      by_cases h8 : 1048576 < (mcts.length : Int)
      · go_wp2
        go_ret
        exact ⟨_, rfl, rfl⟩
      by_cases h9 : 1048576 < t1 + (mcts.length : Int)
      · go_wp2
        go_ret
        exact ⟨_, rfl, rfl⟩
      go_wp2
      go_ret
      exact ⟨_, rfl, rfl⟩

set_option maxHeartbeats 4000000 in
set_option maxRecDepth 100000 in
theorem zz8 (w : World) (node : ByteArray) (hnode : node.size ≤ maxLen) (nodesV : Value) (nodes : List ByteArray) (hnodes : StrsAt w nodesV nodes) (nnodes : nodes.length ≤ 9223372036854775807) (ctsV : Value) (cts : List Value) (hcts : SliceAt w ctsV cts) (ncts : cts.length ≤ 9223372036854775807) (sctsV : Value) (scts : List Value) (hscts : SliceAt w sctsV scts) (nscts : scts.length ≤ 9223372036854775807) :
    Calls Try.prog 8 #[.string node, nodesV, ctsV, sctsV] w (SomeBool w) := by
  unfold maxLen at hnode
  obtain ⟨anodes, cnodes, enodes⟩ := hnodes.1.form
  rw [List.length_map] at enodes
  subst enodes
  have Hnodes : Hid (StrsAt w (.slice anodes nodes.length cnodes) nodes) := hnodes
  clear hnodes
  obtain ⟨acts, ccts, ects⟩ := hcts.form
  subst ects
  clear hcts
  obtain ⟨ascts, cscts, escts⟩ := hscts.form
  subst escts
  clear hscts
  by_cases h1 : 1048576 < (node.size : Int)
  · go_enter Try.func8, Try.ntmps8
    go_wp2
    go_ret
    exact ⟨_, rfl, rfl⟩
  by_cases h2 : 1048576 < (nodes.length : Int)
  · go_enter Try.func8, Try.ntmps8
    go_wp2
    go_ret
    exact ⟨_, rfl, rfl⟩
  by_cases h3 : 1048576 < (node.size : Int) + (nodes.length : Int)
  · go_enter Try.func8, Try.ntmps8
    go_wp2
    go_ret
    exact ⟨_, rfl, rfl⟩
  go_enter Try.func8, Try.ntmps8
  go_wp2
  go_loop [9, 10] (fun sz si => ∃ (k : Nat) (t : Int), sz = .int .i64 t ∧ si = .int .i64 k ∧ k ≤ nodes.length ∧ 0 ≤ t ∧ t ≤ 1048576) (fun _ si => nodes.length - (intOf si).toNat)
  case atStart => exact ⟨0, _, rfl, rfl, Nat.zero_le _, by omega, by omega⟩
  case round =>
    obtain ⟨k0, t0, rfl, rfl, hk0, ht0, hu0⟩ := hrel
    by_cases hlt0 : k0 < nodes.length
    · obtain ⟨b, off, s, rfl, hb, hc, hss, hsz⟩ := Hnodes.out.cell k0 hlt0
      clear hss
      unfold maxLen at hsz
      have hlt' : (k0 : Int) < (nodes.length : Int) := by omega
      by_cases hbig : 1048576 < (s.size : Int)
      · go_wp2
        go_ret
        exact ⟨_, rfl, rfl⟩
      · by_cases hsum : 1048576 < t0 + (s.size : Int)
        · go_wp2
          go_ret
          exact ⟨_, rfl, rfl⟩
        · go_wp2
          go_round
          case rel => exact ⟨k0 + 1, t0 + s.size, by go_num, by go_num, by omega, by omega, by omega⟩
          case measure => simp [intOf]; omega
    by_cases h4 : 1048576 < (cts.length : Int)
    · go_wp2
      go_ret
      exact ⟨_, rfl, rfl⟩
    by_cases h5 : 1048576 < t0 + (cts.length : Int)
    · go_wp2
      go_ret
      exact ⟨_, rfl, rfl⟩
    by_cases h6 : 1048576 < (scts.length : Int)
    · go_wp2
      go_ret
      exact ⟨_, rfl, rfl⟩
    by_cases h7 : 1048576 < t0 + (cts.length : Int) + (scts.length : Int)
    · go_wp2
      go_ret
      exact ⟨_, rfl, rfl⟩
    go_wp2
    go_ret
    exact ⟨_, rfl, rfl⟩

set_option maxHeartbeats 4000000 in
set_option maxRecDepth 100000 in
theorem zz18 (w : World) (nc : Int) (idxV : Value) (idx : List Value) (hidx : SliceAt w idxV idx) (nidx : idx.length ≤ 9223372036854775807) (nodesV : Value) (nodes : List ByteArray) (hnodes : StrsAt w nodesV nodes) (nnodes : nodes.length ≤ 9223372036854775807) (ctsV : Value) (cts : List Value) (hcts : SliceAt w ctsV cts) (ncts : cts.length ≤ 9223372036854775807) :
    Calls Try.prog 18 #[.int .i64 nc, idxV, nodesV, ctsV] w (SomeBool w) := by
  obtain ⟨aidx, cidx, eidx⟩ := hidx.form
  subst eidx
  clear hidx
  obtain ⟨anodes, cnodes, enodes⟩ := hnodes.1.form
  rw [List.length_map] at enodes
  subst enodes
  have Hnodes : Hid (StrsAt w (.slice anodes nodes.length cnodes) nodes) := hnodes
  clear hnodes
  obtain ⟨acts, ccts, ects⟩ := hcts.form
  subst ects
  clear hcts
  by_cases h1 : 1048576 < (idx.length : Int)
  · go_enter Try.func18, Try.ntmps18
    go_wp2
    go_ret
    exact ⟨_, rfl, rfl⟩
  by_cases h2 : 1048576 < (nodes.length : Int)
  · go_enter Try.func18, Try.ntmps18
    go_wp2
    go_ret
    exact ⟨_, rfl, rfl⟩
  by_cases h3 : 1048576 < (idx.length : Int) + (nodes.length : Int)
  · go_enter Try.func18, Try.ntmps18
    go_wp2
    go_ret
    exact ⟨_, rfl, rfl⟩
  go_enter Try.func18, Try.ntmps18
  go_wp2
  go_loop [9, 10] (fun sz si => ∃ (k : Nat) (t : Int), sz = .int .i64 t ∧ si = .int .i64 k ∧ k ≤ nodes.length ∧ 0 ≤ t ∧ t ≤ 1048576) (fun _ si => nodes.length - (intOf si).toNat)
  case atStart => exact ⟨0, _, rfl, rfl, Nat.zero_le _, by omega, by omega⟩
  case round =>
    obtain ⟨k0, t0, rfl, rfl, hk0, ht0, hu0⟩ := hrel
    by_cases hlt0 : k0 < nodes.length
    · obtain ⟨b, off, s, rfl, hb, hc, hss, hsz⟩ := Hnodes.out.cell k0 hlt0
      clear hss
      unfold maxLen at hsz
      have hlt' : (k0 : Int) < (nodes.length : Int) := by omega
      by_cases hbig : 1048576 < (s.size : Int)
      · go_wp2
        go_ret
        exact ⟨_, rfl, rfl⟩
      · by_cases hsum : 1048576 < t0 + (s.size : Int)
        · go_wp2
          go_ret
          exact ⟨_, rfl, rfl⟩
        · go_wp2
          go_round
          case rel => exact ⟨k0 + 1, t0 + s.size, by go_num, by go_num, by omega, by omega, by omega⟩
          case measure => simp [intOf]; omega
    by_cases h4 : 1048576 < (cts.length : Int)
    · go_wp2
      go_ret
      exact ⟨_, rfl, rfl⟩
    by_cases h5 : 1048576 < t0 + (cts.length : Int)
    · go_wp2
      go_ret
      exact ⟨_, rfl, rfl⟩
    go_wp2
    go_ret
    exact ⟨_, rfl, rfl⟩

set_option maxHeartbeats 4000000 in
set_option maxRecDepth 100000 in
theorem zz24 (w : World) (nc : Int) (idxV : Value) (idx : List Value) (hidx : SliceAt w idxV idx) (nidx : idx.length ≤ 9223372036854775807) (nodesV : Value) (nodes : List ByteArray) (hnodes : StrsAt w nodesV nodes) (nnodes : nodes.length ≤ 9223372036854775807) (ctsV : Value) (cts : List Value) (hcts : SliceAt w ctsV cts) (ncts : cts.length ≤ 9223372036854775807) (moreV : Value) (more : List ByteArray) (hmore : StrsAt w moreV more) (nmore : more.length ≤ 9223372036854775807) (mctsV : Value) (mcts : List Value) (hmcts : SliceAt w mctsV mcts) (nmcts : mcts.length ≤ 9223372036854775807) :
    Calls Try.prog 24 #[.int .i64 nc, idxV, nodesV, ctsV, moreV, mctsV] w (SomeBool w) := by
  obtain ⟨aidx, cidx, eidx⟩ := hidx.form
  subst eidx
  clear hidx
  obtain ⟨anodes, cnodes, enodes⟩ := hnodes.1.form
  rw [List.length_map] at enodes
  subst enodes
  have Hnodes : Hid (StrsAt w (.slice anodes nodes.length cnodes) nodes) := hnodes
  clear hnodes
  obtain ⟨acts, ccts, ects⟩ := hcts.form
  subst ects
  clear hcts
  obtain ⟨amore, cmore, emore⟩ := hmore.1.form
  rw [List.length_map] at emore
  subst emore
  have Hmore : Hid (StrsAt w (.slice amore more.length cmore) more) := hmore
  clear hmore
  obtain ⟨amcts, cmcts, emcts⟩ := hmcts.form
  subst emcts
  clear hmcts
  by_cases h1 : 1048576 < (idx.length : Int)
  · go_enter Try.func24, Try.ntmps24
    go_wp2
    go_ret
    exact ⟨_, rfl, rfl⟩
  by_cases h2 : 1048576 < (nodes.length : Int)
  · go_enter Try.func24, Try.ntmps24
    go_wp2
    go_ret
    exact ⟨_, rfl, rfl⟩
  by_cases h3 : 1048576 < (idx.length : Int) + (nodes.length : Int)
  · go_enter Try.func24, Try.ntmps24
    go_wp2
    go_ret
    exact ⟨_, rfl, rfl⟩
  go_enter Try.func24, Try.ntmps24
  go_wp2
  go_loop [13, 14] (fun sz si => ∃ (k : Nat) (t : Int), sz = .int .i64 t ∧ si = .int .i64 k ∧ k ≤ nodes.length ∧ 0 ≤ t ∧ t ≤ 1048576) (fun _ si => nodes.length - (intOf si).toNat)
  case atStart => exact ⟨0, _, rfl, rfl, Nat.zero_le _, by omega, by omega⟩
  case round =>
    obtain ⟨k0, t0, rfl, rfl, hk0, ht0, hu0⟩ := hrel
    by_cases hlt0 : k0 < nodes.length
    · obtain ⟨b, off, s, rfl, hb, hc, hss, hsz⟩ := Hnodes.out.cell k0 hlt0
      clear hss
      unfold maxLen at hsz
      have hlt' : (k0 : Int) < (nodes.length : Int) := by omega
      by_cases hbig : 1048576 < (s.size : Int)
      · go_wp2
        go_ret
        exact ⟨_, rfl, rfl⟩
      · by_cases hsum : 1048576 < t0 + (s.size : Int)
        · go_wp2
          go_ret
          exact ⟨_, rfl, rfl⟩
        · go_wp2
          go_round
          case rel => exact ⟨k0 + 1, t0 + s.size, by go_num, by go_num, by omega, by omega, by omega⟩
          case measure => simp [intOf]; omega
    by_cases h4 : 1048576 < (cts.length : Int)
    · go_wp2
      go_ret
      exact ⟨_, rfl, rfl⟩
    by_cases h5 : 1048576 < t0 + (cts.length : Int)
    · go_wp2
      go_ret
      exact ⟨_, rfl, rfl⟩
    by_cases h6 : 1048576 < (more.length : Int)
    · go_wp2
      go_ret
      exact ⟨_, rfl, rfl⟩
    by_cases h7 : 1048576 < t0 + (cts.length : Int) + (more.length : Int)
    · go_wp2
      go_ret
      exact ⟨_, rfl, rfl⟩
    go_wp2
    go_loop [13, 15] (fun sz si => ∃ (k : Nat) (t : Int), sz = .int .i64 t ∧ si = .int .i64 k ∧ k ≤ more.length ∧ 0 ≤ t ∧ t ≤ 1048576) (fun _ si => more.length - (intOf si).toNat)
    case atStart => exact ⟨0, _, rfl, rfl, Nat.zero_le _, by omega, by omega⟩
    case round =>
      obtain ⟨k1, t1, rfl, rfl, hk1, ht1, hu1⟩ := hrel
      by_cases hlt1 : k1 < more.length
      · obtain ⟨b, off, s, rfl, hb, hc, hss, hsz⟩ := Hmore.out.cell k1 hlt1
        clear hss
        unfold maxLen at hsz
        have hlt' : (k1 : Int) < (more.length : Int) := by omega
        by_cases hbig : 1048576 < (s.size : Int)
        · go_wp2
          go_ret
          exact ⟨_, rfl, rfl⟩
        · by_cases hsum : 1048576 < t1 + (s.size : Int)
          · go_wp2
            go_ret
            exact ⟨_, rfl, rfl⟩
          · go_wp2
            go_round
            case rel => exact ⟨k1 + 1, t1 + s.size, by go_num, by go_num, by omega, by omega, by omega⟩
            case measure => simp [intOf]; omega
      by_cases h8 : 1048576 < (mcts.length : Int)
      · go_wp2
        go_ret
        exact ⟨_, rfl, rfl⟩
      by_cases h9 : 1048576 < t1 + (mcts.length : Int)
      · go_wp2
        go_ret
        exact ⟨_, rfl, rfl⟩
      go_wp2
      go_ret
      exact ⟨_, rfl, rfl⟩

end Go.Proofs.Qxb6000536a.ck
