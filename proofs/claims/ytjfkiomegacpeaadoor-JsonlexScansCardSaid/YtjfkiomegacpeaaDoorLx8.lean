/-
  JsonlexScans: true at every source.
-/
import Derived.Test.YtjfkiomegacpeaaDoorLx7
namespace Go.Proofs.YtjfkiomegacpeaaDoor
open Go.RowKit
set_option maxRecDepth 100000 in
set_option maxHeartbeats 4000000 in
theorem same_yes (w : World) (v1 v2 n1 n2 : Value) (ts : List Jsn.T) (ns : List Jsn.Note) (h1 : RowR w 4 v1 ts.length (ts.flatMap tokCells)) (h2 : RowR w 4 v2 ts.length (ts.flatMap tokCells)) (h3 : RowR w 3 n1 ns.length (ns.flatMap noteCells)) (h4 : RowR w 3 n2 ns.length (ns.flatMap noteCells)) (hl : ts.length ≤ 1099511627) (hl2 : ns.length ≤ 1099511627) :
    Calls Tryd.prog 12 #[v1, v2, n1, n2] w fun e w' => e = .returned (.bool true) ∧ Below w.heap.size w w' := by
  obtain ⟨a1, c1, rfl, hc1, F1⟩ := h1
  obtain ⟨a2, c2, rfl, hc2, F2⟩ := h2
  obtain ⟨a3, c3, rfl, hc3, F3⟩ := h3
  obtain ⟨a4, c4, rfl, hc4, F4⟩ := h4
  have hget := fun i j (t : Jsn.T) (h : ts[i]? = some t) (hj : j < 4) => flat_get tokCells 4 tokCells_len ts i j t h hj
  have hget2 := fun i j (t : Jsn.Note) (h : ns[i]? = some t) (hj : j < 3) => flat_get noteCells 3 noteCells_len ns i j t h hj
  obtain ⟨n, hn⟩ : ∃ n, n = ts.length := ⟨_, rfl⟩
  obtain ⟨m, hm⟩ : ∃ n, n = ns.length := ⟨_, rfl⟩
  rw [← hn] at hc1 hc2 F1 F2 hl ⊢
  rw [← hm] at hc3 hc4 F3 F4 hl2 ⊢
  have hex : ∀ i, i < n → ∃ t, ts[i]? = some t := fun i hi => ⟨_, List.getElem?_eq_getElem (by omega)⟩
  have hex2 : ∀ i, i < m → ∃ t, ns[i]? = some t := fun i hi => ⟨_, List.getElem?_eq_getElem (by omega)⟩
  have HG := Lib.hid hget
  have HX := Lib.hid hex
  have HF1 := Lib.hid F1
  have HF2 := Lib.hid F2
  have HG2 := Lib.hid hget2
  have HX2 := Lib.hid hex2
  have HF3 := Lib.hid F3
  have HF4 := Lib.hid F4
  clear hget hex F1 F2 hn hget2 hex2 F3 F4 hm
  go_enter Tryd.func12, Tryd.ntmps12
  go_wp2
  go_loopg [9] n (fun g i wr => ∃ k : Nat, k + g = n ∧ i = .int .i64 k ∧ ∃ q, wr = w.drewN q)
  case atStart => exact ⟨0, by omega, rfl, 0, rfl⟩
  case round =>
    obtain ⟨k, hg, rfl, q, rfl⟩ := hrel
    by_cases hk : k < n
    · obtain ⟨ga, rfl, G1⟩ := HF1.out (by omega)
      obtain ⟨gb, rfl, G2⟩ := HF2.out (by omega)
      obtain ⟨t, ht⟩ := HX.out k hk
      have e0 := HG.out k 0 t ht (by omega)
      have e1 := HG.out k 1 t ht (by omega)
      have e2 := HG.out k 2 t ht (by omega)
      have e3 := HG.out k 3 t ht (by omega)
      have a0 := (G1 (k * 4 + 0) (by omega)).trans e0
      have a1 := (G1 (k * 4 + 1) (by omega)).trans e1
      have a2 := (G1 (k * 4 + 2) (by omega)).trans e2
      have a3 := (G1 (k * 4 + 3) (by omega)).trans e3
      have b0 := (G2 (k * 4 + 0) (by omega)).trans e0
      have b1 := (G2 (k * 4 + 1) (by omega)).trans e1
      have b2 := (G2 (k * 4 + 2) (by omega)).trans e2
      have b3 := (G2 (k * 4 + 3) (by omega)).trans e3
      clear e0 e1 e2 e3 G1 G2 HF1 HF2 HG ht
      simp only [tokCells, List.getElem?_cons_zero, List.getElem?_cons_succ, Nat.add_zero] at a0 a1 a2 a3 b0 b1 b2 b3
      go_wp2
      go_quiet (fail)
      go_wp2
      go_roundg (n - (k + 1))
      case measure => omega
      case rel => exact ⟨k + 1, by omega, by go_num, _, rfl⟩
    · have hkn : ¬ (k : Int) < (n : Int) := by omega
      clear HF1 HF2 HG HX
      go_wp2
      go_loopg [10] m (fun g i wr => ∃ k : Nat, k + g = m ∧ i = .int .i64 k ∧ ∃ q, wr = w.drewN q)
      case atStart => exact ⟨0, by omega, rfl, _, rfl⟩
      case round =>
        obtain ⟨k, hg, rfl, q, rfl⟩ := hrel
        by_cases hk : k < m
        · obtain ⟨ga, rfl, G1⟩ := HF3.out (by omega)
          obtain ⟨gb, rfl, G2⟩ := HF4.out (by omega)
          obtain ⟨t, ht⟩ := HX2.out k hk
          have e0 := HG2.out k 0 t ht (by omega)
          have e1 := HG2.out k 1 t ht (by omega)
          have e2 := HG2.out k 2 t ht (by omega)
          have a0 := (G1 (k * 3 + 0) (by omega)).trans e0
          have a1 := (G1 (k * 3 + 1) (by omega)).trans e1
          have a2 := (G1 (k * 3 + 2) (by omega)).trans e2
          have b0 := (G2 (k * 3 + 0) (by omega)).trans e0
          have b1 := (G2 (k * 3 + 1) (by omega)).trans e1
          have b2 := (G2 (k * 3 + 2) (by omega)).trans e2
          clear e0 e1 e2 G1 G2 HF3 HF4 HG2 ht
          simp only [noteCells, List.getElem?_cons_zero, List.getElem?_cons_succ, Nat.add_zero] at a0 a1 a2 b0 b1 b2
          go_wp2
          go_quiet (fail)
          go_wp2
          go_roundg (m - (k + 1))
          case measure => omega
          case rel => exact ⟨k + 1, by omega, by go_num, _, rfl⟩
        · go_wp2
          go_ret
          exact ⟨rfl, drewN_below (Below.refl _ _) _⟩
set_option maxRecDepth 100000 in
set_option maxHeartbeats 4000000 in
theorem jsonlexScans_any (s : ByteArray) (w : World) (hE : EnvJ w) :
    Calls Tryd.prog 3 #[.string s] w fun e w' => e = .returned (.bool true) ∧ Below w.heap.size w w' := by
  have HW := Lib.hid (awake_any w hE)
  by_cases hs : s.size ≤ 2000
  · have HA := Lib.hid (fun w1 (hb : Below w.heap.size w w1) => scan_out s w1 (by omega) (hE.below hb))
    have HR := Lib.hid (fun w1 => rscan_out s w1 (by omega))
    have hlen := out_bd s.data.toList
    rw [size_toList] at hlen
    clear hE
    generalize outOf s.data.toList = o at *
    obtain ⟨-, hl1, -⟩ := hlen
    have hs2 : ¬ 2000 < (s.size : Int) := by omega
    go_enter Tryd.func3, Tryd.ntmps3
    go_wp2_with fail
    refine HW.out.mono ?_
    rintro e w0 ⟨rfl, hb0⟩
    go_wp2_with fail
    refine (HA.out w0 hb0).mono ?_
    rintro e w1 ⟨⟨tv, nv, rfl, hot, hon⟩, hb1⟩
    have hw1 := hb0.trans (hb1.mono hb0.size)
    go_wp2_with fail
    refine (HR.out w1).mono ?_
    rintro e w2 ⟨⟨tv2, nv2, rfl, hot2, hon2⟩, hb2⟩
    have hw2 := hw1.trans (hb2.mono hw1.size)
    have hot3 := OwnTok.keep hot hb2
    have hon3 : OwnNote w2 w0.heap.size nv o.notes := OwnR.keep hon hb2
    have HSame := Lib.hid (same_yes w2 tv tv2 nv nv2 o.toks o.notes (row_form hot3) (row_form hot2) (row_form hon3) (row_form hon2) (by omega) (by omega))
    have e1 : ((o.at_ : Int) == (o.at_ : Int)) = true := beq_self_eq_true _
    have e2 : ((o.code : Int) == (o.code : Int)) = true := beq_self_eq_true _
    clear hot hon hot2 hon2 hot3 hon3 HA HR HW
    go_wp2_with fail
    refine HSame.out.mono ?_
    rintro e w3 ⟨rfl, hb3⟩
    go_wp2_with fail
    go_ret
    exact ⟨rfl, hw2.trans (hb3.mono hw2.size)⟩
  · have h2 : 2000 < (s.size : Int) := by omega
    clear hE hs
    go_enter Tryd.func3, Tryd.ntmps3
    go_wp2_with fail
    refine HW.out.mono ?_
    rintro e w6 ⟨rfl, k6⟩
    go_wp2_with fail
    go_ret
    exact ⟨rfl, k6⟩
end Go.Proofs.YtjfkiomegacpeaaDoor
