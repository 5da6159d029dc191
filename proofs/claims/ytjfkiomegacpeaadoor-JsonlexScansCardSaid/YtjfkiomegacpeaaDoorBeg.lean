/-
  ref01.begins by its contract.
-/
import Derived.Test.YtjfkiomegacpeaaDoorChk
namespace Go.Proofs.YtjfkiomegacpeaaDoor
open Go.RowKit
/-- The number that a lead byte's rest and k - 1 further bytes give. -/
def accB (v0 : Int) (b : Nat → Nat) : Nat → Int
  | 0 => v0
  | 1 => v0
  | k + 2 => 64 * accB v0 b (k + 1) + (b (k + 1) : Int) - 128
def contB (b : Nat → Nat) (k : Nat) : Prop := ∀ j, 1 ≤ j → j < k → 128 ≤ b j ∧ b j ≤ 191
theorem accB_succ (v0 : Int) (b : Nat → Nat) (k : Nat) (h : 1 ≤ k) : accB v0 b (k + 1) = 64 * accB v0 b k + (b k : Int) - 128 := by
  obtain ⟨k, rfl⟩ : ∃ j, k = j + 1 := ⟨k - 1, by omega⟩
  rfl
/-- What begins returns of m bytes: whether its length is m. -/
def RetB (m : Nat) (ok : Prop) (w : World) (e : Go.Ending) (w' : World) : Prop := (∃ v r : Int, e = .returned (.tuple #[.int .i64 v, .int .i64 r]) ∧ (r = m ↔ ok)) ∧ w = w'
theorem RetB.mk {m : Nat} {ok : Prop} {w : World} {v r : Int} (h : r = m ↔ ok) : RetB m ok w (.returned (.tuple #[.int .i64 v, .int .i64 r])) w := ⟨⟨v, r, rfl, h⟩, rfl⟩
theorem closeB0 {m N : Nat} {c p : Prop} (hm : 1 ≤ m) (h : m = N → p) : ((0 : Int) = m ↔ m = N ∧ c ∧ ¬ p) := ⟨fun e => absurd e (by omega), fun e => absurd (h e.1) e.2.2⟩
theorem closeB1 {m N : Nat} {c p : Prop} (hc : c) (h : m = N → ¬ p) : ((N : Int) = m ↔ m = N ∧ c ∧ ¬ p) := ⟨fun e => ⟨by omega, hc, h (by omega)⟩, fun e => by omega⟩
theorem closeBc {m N k : Nat} {b : Nat → Nat} {p : Prop} (hm : 1 ≤ m) (hk : 1 ≤ k) (hkm : k < m) (hx : ¬ (128 ≤ b k ∧ b k ≤ 191)) : ((0 : Int) = m ↔ m = N ∧ contB b m ∧ ¬ p) := ⟨fun e => absurd e (by omega), fun e => absurd (e.2.1 k hk hkm) hx⟩
set_option maxRecDepth 100000 in
set_option maxHeartbeats 4000000 in
theorem begins_low (b : Nat → Nat) (m g off cap : Nat) (w : World) (hm : 1 ≤ m) (hm4 : m ≤ 4) (_hcap : m ≤ cap) (hc : ∀ j, j < m → w.cell? ⟨g, off + j, none⟩ = some (.int .u8 (b j : Nat)))
    (h0 : b 0 < 128) : Calls Tryd.prog 52 #[.slice (some ⟨g, off, none⟩) m cap] w (RetB m (m = 1) w) := by
  have hc0 : w.cell? ⟨g, off, none⟩ = some (.int .u8 (b 0 : Nat)) := hc 0 (by omega)
  clear hc
  have z0 : (0 : Int) < (m : Int) := by omega
  have z1 : 0 < m := by omega
  generalize b 0 = b0 at *
  obtain ⟨P, hP⟩ : ∃ P : Prop, P = (m = 1) := ⟨_, rfl⟩
  rw [← hP]
  have HP := Lib.hid hP
  clear hP
  by_cases h1 : m = 1
  · subst h1
    go_enter Tryd.func52, Tryd.ntmps52
    go_wp2
    go_ret2
    exact RetB.mk (by rw [HP.out]; simp)
  · have h2 : ((m : Int) == 1) = false := by rw [beq_eq_false_iff_ne]; omega
    have H1 := Lib.hid h1
    clear h1
    go_enter Tryd.func52, Tryd.ntmps52
    go_wp2
    go_ret2
    exact RetB.mk (by rw [HP.out]; exact ⟨fun h => absurd h (by omega), fun h => absurd h H1.out⟩)
set_option maxRecDepth 100000 in
set_option maxHeartbeats 4000000 in
theorem begins_none (b : Nat → Nat) (m g off cap : Nat) (w : World) (hm : 1 ≤ m) (hm4 : m ≤ 4) (_hcap : m ≤ cap) (hc : ∀ j, j < m → w.cell? ⟨g, off + j, none⟩ = some (.int .u8 (b j : Nat)))
    (h0 : (128 ≤ b 0 ∧ b 0 < 192) ∨ 248 ≤ b 0) (h255 : b 0 < 256) : Calls Tryd.prog 52 #[.slice (some ⟨g, off, none⟩) m cap] w (RetB m False w) := by
  have hc0 : w.cell? ⟨g, off, none⟩ = some (.int .u8 (b 0 : Nat)) := hc 0 (by omega)
  clear hc
  have z0 : (0 : Int) < (m : Int) := by omega
  have z1 : 0 < m := by omega
  generalize b 0 = b0 at *
  rcases h0 with ⟨ha, hb⟩ | ha
  all_goals
    go_enter Tryd.func52, Tryd.ntmps52
    go_wp2
    go_ret2
    exact RetB.mk ⟨fun h => absurd h (by omega), fun h => h.elim⟩
set_option maxRecDepth 100000 in
set_option maxHeartbeats 8000000 in
theorem begins_2 (b : Nat → Nat) (m g off cap : Nat) (w : World) (hm : 1 ≤ m) (hm4 : m ≤ 4) (_hcap : m ≤ cap) (hc : ∀ j, j < m → w.cell? ⟨g, off + j, none⟩ = some (.int .u8 (b j : Nat)))
    (hbd : ∀ j, b j < 256) (ha : 192 ≤ b 0) (hb : b 0 < 224) :
    Calls Tryd.prog 52 #[.slice (some ⟨g, off, none⟩) m cap] w (RetB m (m = 2 ∧ contB b m ∧ ¬ (accB ((b 0 : Int) - 192) b m < 128 ∨ 2047 < accB ((b 0 : Int) - 192) b m ∨ (55296 ≤ accB ((b 0 : Int) - 192) b m ∧ accB ((b 0 : Int) - 192) b m ≤ 57343))) w) := by
  have HCell := Lib.hid hc
  have hc0 : w.cell? ⟨g, off, none⟩ = some (.int .u8 (b 0 : Nat)) := hc 0 (by omega)
  have HBd := Lib.hid hbd
  clear hc hbd
  have z0 : (0 : Int) < (m : Int) := by omega
  have z1 : 0 < m := by omega
  have HV : Hid (accB ((b 0 : Int) - 192) b 1 = (b 0 : Int) - 192) := Lib.hid rfl
  have hpost : ∀ (P : Prop), P = (m = 2 ∧ contB b m ∧ ¬ (accB ((b 0 : Int) - 192) b m < 128 ∨ 2047 < accB ((b 0 : Int) - 192) b m ∨ (55296 ≤ accB ((b 0 : Int) - 192) b m ∧ accB ((b 0 : Int) - 192) b m ≤ 57343))) → Calls Tryd.prog 52 #[.slice (some ⟨g, off, none⟩) m cap] w (RetB m P w) := by
    intro P hP
    have HP := Lib.hid hP
    clear hP
    obtain ⟨b0, hb0⟩ : ∃ x, x = b 0 := ⟨_, rfl⟩
    rw [← hb0] at hc0 ha hb HV HP
    obtain ⟨v0, hv0⟩ : ∃ x : Int, x = (b0 : Int) - 192 := ⟨_, rfl⟩
    have hv1 : 0 ≤ v0 := by omega
    have hv2 : v0 < 32 := by omega
    rw [← hv0] at HV HP
    have HVB := Lib.hid hv0
    clear hv0 hb0
    by_cases hmn : 2 < m
    · go_enter Tryd.func52, Tryd.ntmps52
      go_wp2
      go_ret2
      exact RetB.mk (by rw [HP.out]; exact ⟨fun h => absurd h (by omega), fun h => absurd h.1 (by omega)⟩)
    · go_enter Tryd.func52, Tryd.ntmps52
      go_wp2
      generalize decide ((2 : Int) < (m : Int)) = b52
      clear hc0
      go_loop [6, 9] (fun v i => ∃ (k : Nat) (V : Int), 1 ≤ k ∧ k ≤ m ∧ i = .int .i64 k ∧ v = .int .i64 V ∧ 0 ≤ V ∧ Hid ((k = 1 → V < 32) ∧ (k = 2 → V < 2048) ∧ (k = 3 → V < 131072) ∧ (k = 4 → V < 8388608)) ∧ Hid (V = accB v0 b k) ∧ Hid (contB b k)) (fun _ i => m - (intOf i).toNat)
      case atStart => exact ⟨1, v0, by omega, by omega, rfl, by rw [HVB.out], by omega, Lib.hid ⟨by omega, by omega, by omega, by omega⟩, Lib.hid rfl, Lib.hid (fun j h1 h2 => absurd h1 (by omega))⟩
      case round =>
        clear hv1 hv2
        obtain ⟨k, V, hk1, hk2, rfl, rfl, hV0, HVb, HVa, HC⟩ := hrel
        by_cases hlt : k < m
        · have hck := HCell.out k hlt
          have hx := HBd.out k
          have HA := accB_succ v0 b k hk1
          rw [← HVa.out] at HA
          have HCo : (128 ≤ b k ∧ b k ≤ 191) → contB b (k + 1) := fun h j h1 h2 => by
            by_cases e : j = k
            · subst e; exact h
            · exact HC.out j h1 (by omega)
          have HCc := fun h => closeBc (m := m) (N := 2) (k := k) (b := b) (p := (accB v0 b m < 128 ∨ 2047 < accB v0 b m ∨ (55296 ≤ accB v0 b m ∧ accB v0 b m ≤ 57343))) hm hk1 hlt h
          have hV9 : V < 131072 := by have := HVb.out; omega
          generalize b k = x at *
          have HA := Lib.hid HA
          have HCo := Lib.hid HCo
          have HCc := Lib.hid HCc
          by_cases h1 : x < 128
          · go_wp2
            go_ret2
            exact RetB.mk (by rw [HP.out]; exact HCc.out (by omega))
          · by_cases h2 : 191 < x
            · go_wp2
              go_ret2
              exact RetB.mk (by rw [HP.out]; exact HCc.out (by omega))
            · go_wp2
              go_round
              case rel => exact ⟨k + 1, 64 * V + x - 128, by omega, by omega, by go_num, by go_num, by omega, Lib.hid (by have := HVb.out; omega), Lib.hid HA.out.symm, Lib.hid (HCo.out (by omega))⟩
              case measure => simp [intOf]; omega
        · have hkm : k = m := by omega
          have HM : Hid (contB b m) := Lib.hid (hkm ▸ HC.out)
          have HA : Hid (V = accB v0 b m) := Lib.hid (hkm ▸ HVa.out)
          clear HC HVa HVb
          have hge : ¬ (k : Int) < m := by omega
          go_wp2
          generalize decide ((k : Int) < (m : Int)) = b56 at *
          go_loop [10, 11, 12] (fun lo hi j => ∃ (q : Nat) (x y : Int), m ≤ q ∧ q ≤ 2 ∧ j = .int .i64 q ∧ lo = .int .i64 x ∧ hi = .int .i64 y ∧ Hid (q = m → x = V ∧ y = V)) (fun _ _ j => 2 - (intOf j).toNat)
          case atStart => exact ⟨m, V, V, by omega, by omega, rfl, rfl, rfl, Lib.hid (fun _ => ⟨rfl, rfl⟩)⟩
          case round =>
            obtain ⟨q, x, y, hq1, hq2, rfl, rfl, rfl, HXY⟩ := hrel
            by_cases hql : q < 2
            · go_wp2
              go_round
              case rel => exact ⟨q + 1, _, _, by omega, by omega, by go_num, rfl, rfl, Lib.hid (fun h => absurd h (by omega))⟩
              case measure => simp [intOf]; omega
            · have hqn : m = 2 → x = V ∧ y = V := fun h => HXY.out (by omega)
              have HQ := Lib.hid hqn
              clear hqn HXY
              go_wp2
              all_goals
                go_ret2
                first
                  | exact RetB.mk (by rw [HP.out]; exact closeB0 hm (fun h => by obtain ⟨h1, h2⟩ := HQ.out h; rw [← HA.out]; omega))
                  | exact RetB.mk (by rw [HP.out]; exact closeB1 (N := 2) HM.out (fun h => by obtain ⟨h1, h2⟩ := HQ.out h; rw [← HA.out]; omega))
  exact hpost _ rfl
set_option maxRecDepth 100000 in
set_option maxHeartbeats 8000000 in
theorem begins_3 (b : Nat → Nat) (m g off cap : Nat) (w : World) (hm : 1 ≤ m) (hm4 : m ≤ 4) (_hcap : m ≤ cap) (hc : ∀ j, j < m → w.cell? ⟨g, off + j, none⟩ = some (.int .u8 (b j : Nat)))
    (hbd : ∀ j, b j < 256) (ha : 224 ≤ b 0) (hb : b 0 < 240) :
    Calls Tryd.prog 52 #[.slice (some ⟨g, off, none⟩) m cap] w (RetB m (m = 3 ∧ contB b m ∧ ¬ (accB ((b 0 : Int) - 224) b m < 2048 ∨ 65535 < accB ((b 0 : Int) - 224) b m ∨ (55296 ≤ accB ((b 0 : Int) - 224) b m ∧ accB ((b 0 : Int) - 224) b m ≤ 57343))) w) := by
  have HCell := Lib.hid hc
  have hc0 : w.cell? ⟨g, off, none⟩ = some (.int .u8 (b 0 : Nat)) := hc 0 (by omega)
  have HBd := Lib.hid hbd
  clear hc hbd
  have z0 : (0 : Int) < (m : Int) := by omega
  have z1 : 0 < m := by omega
  have HV : Hid (accB ((b 0 : Int) - 224) b 1 = (b 0 : Int) - 224) := Lib.hid rfl
  have hpost : ∀ (P : Prop), P = (m = 3 ∧ contB b m ∧ ¬ (accB ((b 0 : Int) - 224) b m < 2048 ∨ 65535 < accB ((b 0 : Int) - 224) b m ∨ (55296 ≤ accB ((b 0 : Int) - 224) b m ∧ accB ((b 0 : Int) - 224) b m ≤ 57343))) → Calls Tryd.prog 52 #[.slice (some ⟨g, off, none⟩) m cap] w (RetB m P w) := by
    intro P hP
    have HP := Lib.hid hP
    clear hP
    obtain ⟨b0, hb0⟩ : ∃ x, x = b 0 := ⟨_, rfl⟩
    rw [← hb0] at hc0 ha hb HV HP
    obtain ⟨v0, hv0⟩ : ∃ x : Int, x = (b0 : Int) - 224 := ⟨_, rfl⟩
    have hv1 : 0 ≤ v0 := by omega
    have hv2 : v0 < 32 := by omega
    rw [← hv0] at HV HP
    have HVB := Lib.hid hv0
    clear hv0 hb0
    by_cases hmn : 3 < m
    · go_enter Tryd.func52, Tryd.ntmps52
      go_wp2
      go_ret2
      exact RetB.mk (by rw [HP.out]; exact ⟨fun h => absurd h (by omega), fun h => absurd h.1 (by omega)⟩)
    · go_enter Tryd.func52, Tryd.ntmps52
      go_wp2
      generalize decide ((3 : Int) < (m : Int)) = b52
      clear hc0
      go_loop [6, 9] (fun v i => ∃ (k : Nat) (V : Int), 1 ≤ k ∧ k ≤ m ∧ i = .int .i64 k ∧ v = .int .i64 V ∧ 0 ≤ V ∧ Hid ((k = 1 → V < 32) ∧ (k = 2 → V < 2048) ∧ (k = 3 → V < 131072) ∧ (k = 4 → V < 8388608)) ∧ Hid (V = accB v0 b k) ∧ Hid (contB b k)) (fun _ i => m - (intOf i).toNat)
      case atStart => exact ⟨1, v0, by omega, by omega, rfl, by rw [HVB.out], by omega, Lib.hid ⟨by omega, by omega, by omega, by omega⟩, Lib.hid rfl, Lib.hid (fun j h1 h2 => absurd h1 (by omega))⟩
      case round =>
        clear hv1 hv2
        obtain ⟨k, V, hk1, hk2, rfl, rfl, hV0, HVb, HVa, HC⟩ := hrel
        by_cases hlt : k < m
        · have hck := HCell.out k hlt
          have hx := HBd.out k
          have HA := accB_succ v0 b k hk1
          rw [← HVa.out] at HA
          have HCo : (128 ≤ b k ∧ b k ≤ 191) → contB b (k + 1) := fun h j h1 h2 => by
            by_cases e : j = k
            · subst e; exact h
            · exact HC.out j h1 (by omega)
          have HCc := fun h => closeBc (m := m) (N := 3) (k := k) (b := b) (p := (accB v0 b m < 2048 ∨ 65535 < accB v0 b m ∨ (55296 ≤ accB v0 b m ∧ accB v0 b m ≤ 57343))) hm hk1 hlt h
          have hV9 : V < 131072 := by have := HVb.out; omega
          generalize b k = x at *
          have HA := Lib.hid HA
          have HCo := Lib.hid HCo
          have HCc := Lib.hid HCc
          by_cases h1 : x < 128
          · go_wp2
            go_ret2
            exact RetB.mk (by rw [HP.out]; exact HCc.out (by omega))
          · by_cases h2 : 191 < x
            · go_wp2
              go_ret2
              exact RetB.mk (by rw [HP.out]; exact HCc.out (by omega))
            · go_wp2
              go_round
              case rel => exact ⟨k + 1, 64 * V + x - 128, by omega, by omega, by go_num, by go_num, by omega, Lib.hid (by have := HVb.out; omega), Lib.hid HA.out.symm, Lib.hid (HCo.out (by omega))⟩
              case measure => simp [intOf]; omega
        · have hkm : k = m := by omega
          have HM : Hid (contB b m) := Lib.hid (hkm ▸ HC.out)
          have HA : Hid (V = accB v0 b m) := Lib.hid (hkm ▸ HVa.out)
          clear HC HVa HVb
          have hge : ¬ (k : Int) < m := by omega
          go_wp2
          generalize decide ((k : Int) < (m : Int)) = b56 at *
          go_loop [10, 11, 12] (fun lo hi j => ∃ (q : Nat) (x y : Int), m ≤ q ∧ q ≤ 3 ∧ j = .int .i64 q ∧ lo = .int .i64 x ∧ hi = .int .i64 y ∧ Hid (q = m → x = V ∧ y = V)) (fun _ _ j => 3 - (intOf j).toNat)
          case atStart => exact ⟨m, V, V, by omega, by omega, rfl, rfl, rfl, Lib.hid (fun _ => ⟨rfl, rfl⟩)⟩
          case round =>
            obtain ⟨q, x, y, hq1, hq2, rfl, rfl, rfl, HXY⟩ := hrel
            by_cases hql : q < 3
            · go_wp2
              go_round
              case rel => exact ⟨q + 1, _, _, by omega, by omega, by go_num, rfl, rfl, Lib.hid (fun h => absurd h (by omega))⟩
              case measure => simp [intOf]; omega
            · have hqn : m = 3 → x = V ∧ y = V := fun h => HXY.out (by omega)
              have HQ := Lib.hid hqn
              clear hqn HXY
              go_wp2
              all_goals
                go_ret2
                first
                  | exact RetB.mk (by rw [HP.out]; exact closeB0 hm (fun h => by obtain ⟨h1, h2⟩ := HQ.out h; rw [← HA.out]; omega))
                  | exact RetB.mk (by rw [HP.out]; exact closeB1 (N := 3) HM.out (fun h => by obtain ⟨h1, h2⟩ := HQ.out h; rw [← HA.out]; omega))
  exact hpost _ rfl
set_option maxRecDepth 100000 in
set_option maxHeartbeats 8000000 in
theorem begins_4 (b : Nat → Nat) (m g off cap : Nat) (w : World) (hm : 1 ≤ m) (hm4 : m ≤ 4) (_hcap : m ≤ cap) (hc : ∀ j, j < m → w.cell? ⟨g, off + j, none⟩ = some (.int .u8 (b j : Nat)))
    (hbd : ∀ j, b j < 256) (ha : 240 ≤ b 0) (hb : b 0 < 248) :
    Calls Tryd.prog 52 #[.slice (some ⟨g, off, none⟩) m cap] w (RetB m (m = 4 ∧ contB b m ∧ ¬ (accB ((b 0 : Int) - 240) b m < 65536 ∨ 1114111 < accB ((b 0 : Int) - 240) b m ∨ (55296 ≤ accB ((b 0 : Int) - 240) b m ∧ accB ((b 0 : Int) - 240) b m ≤ 57343))) w) := by
  have HCell := Lib.hid hc
  have hc0 : w.cell? ⟨g, off, none⟩ = some (.int .u8 (b 0 : Nat)) := hc 0 (by omega)
  have HBd := Lib.hid hbd
  clear hc hbd
  have z0 : (0 : Int) < (m : Int) := by omega
  have z1 : 0 < m := by omega
  have HV : Hid (accB ((b 0 : Int) - 240) b 1 = (b 0 : Int) - 240) := Lib.hid rfl
  have hpost : ∀ (P : Prop), P = (m = 4 ∧ contB b m ∧ ¬ (accB ((b 0 : Int) - 240) b m < 65536 ∨ 1114111 < accB ((b 0 : Int) - 240) b m ∨ (55296 ≤ accB ((b 0 : Int) - 240) b m ∧ accB ((b 0 : Int) - 240) b m ≤ 57343))) → Calls Tryd.prog 52 #[.slice (some ⟨g, off, none⟩) m cap] w (RetB m P w) := by
    intro P hP
    have HP := Lib.hid hP
    clear hP
    obtain ⟨b0, hb0⟩ : ∃ x, x = b 0 := ⟨_, rfl⟩
    rw [← hb0] at hc0 ha hb HV HP
    obtain ⟨v0, hv0⟩ : ∃ x : Int, x = (b0 : Int) - 240 := ⟨_, rfl⟩
    have hv1 : 0 ≤ v0 := by omega
    have hv2 : v0 < 32 := by omega
    rw [← hv0] at HV HP
    have HVB := Lib.hid hv0
    clear hv0 hb0
    by_cases hmn : 4 < m
    · exact absurd hmn (by omega)
    · go_enter Tryd.func52, Tryd.ntmps52
      go_wp2
      generalize decide ((4 : Int) < (m : Int)) = b52
      clear hc0
      go_loop [6, 9] (fun v i => ∃ (k : Nat) (V : Int), 1 ≤ k ∧ k ≤ m ∧ i = .int .i64 k ∧ v = .int .i64 V ∧ 0 ≤ V ∧ Hid ((k = 1 → V < 32) ∧ (k = 2 → V < 2048) ∧ (k = 3 → V < 131072) ∧ (k = 4 → V < 8388608)) ∧ Hid (V = accB v0 b k) ∧ Hid (contB b k)) (fun _ i => m - (intOf i).toNat)
      case atStart => exact ⟨1, v0, by omega, by omega, rfl, by rw [HVB.out], by omega, Lib.hid ⟨by omega, by omega, by omega, by omega⟩, Lib.hid rfl, Lib.hid (fun j h1 h2 => absurd h1 (by omega))⟩
      case round =>
        clear hv1 hv2
        obtain ⟨k, V, hk1, hk2, rfl, rfl, hV0, HVb, HVa, HC⟩ := hrel
        by_cases hlt : k < m
        · have hck := HCell.out k hlt
          have hx := HBd.out k
          have HA := accB_succ v0 b k hk1
          rw [← HVa.out] at HA
          have HCo : (128 ≤ b k ∧ b k ≤ 191) → contB b (k + 1) := fun h j h1 h2 => by
            by_cases e : j = k
            · subst e; exact h
            · exact HC.out j h1 (by omega)
          have HCc := fun h => closeBc (m := m) (N := 4) (k := k) (b := b) (p := (accB v0 b m < 65536 ∨ 1114111 < accB v0 b m ∨ (55296 ≤ accB v0 b m ∧ accB v0 b m ≤ 57343))) hm hk1 hlt h
          have hV9 : V < 131072 := by have := HVb.out; omega
          generalize b k = x at *
          have HA := Lib.hid HA
          have HCo := Lib.hid HCo
          have HCc := Lib.hid HCc
          by_cases h1 : x < 128
          · go_wp2
            go_ret2
            exact RetB.mk (by rw [HP.out]; exact HCc.out (by omega))
          · by_cases h2 : 191 < x
            · go_wp2
              go_ret2
              exact RetB.mk (by rw [HP.out]; exact HCc.out (by omega))
            · go_wp2
              go_round
              case rel => exact ⟨k + 1, 64 * V + x - 128, by omega, by omega, by go_num, by go_num, by omega, Lib.hid (by have := HVb.out; omega), Lib.hid HA.out.symm, Lib.hid (HCo.out (by omega))⟩
              case measure => simp [intOf]; omega
        · have hkm : k = m := by omega
          have HM : Hid (contB b m) := Lib.hid (hkm ▸ HC.out)
          have HA : Hid (V = accB v0 b m) := Lib.hid (hkm ▸ HVa.out)
          clear HC HVa HVb
          have hge : ¬ (k : Int) < m := by omega
          go_wp2
          generalize decide ((k : Int) < (m : Int)) = b56 at *
          go_loop [10, 11, 12] (fun lo hi j => ∃ (q : Nat) (x y : Int), m ≤ q ∧ q ≤ 4 ∧ j = .int .i64 q ∧ lo = .int .i64 x ∧ hi = .int .i64 y ∧ Hid (q = m → x = V ∧ y = V)) (fun _ _ j => 4 - (intOf j).toNat)
          case atStart => exact ⟨m, V, V, by omega, by omega, rfl, rfl, rfl, Lib.hid (fun _ => ⟨rfl, rfl⟩)⟩
          case round =>
            obtain ⟨q, x, y, hq1, hq2, rfl, rfl, rfl, HXY⟩ := hrel
            by_cases hql : q < 4
            · go_wp2
              go_round
              case rel => exact ⟨q + 1, _, _, by omega, by omega, by go_num, rfl, rfl, Lib.hid (fun h => absurd h (by omega))⟩
              case measure => simp [intOf]; omega
            · have hqn : m = 4 → x = V ∧ y = V := fun h => HXY.out (by omega)
              have HQ := Lib.hid hqn
              clear hqn HXY
              go_wp2
              all_goals
                go_ret2
                first
                  | exact RetB.mk (by rw [HP.out]; exact closeB0 hm (fun h => by obtain ⟨h1, h2⟩ := HQ.out h; rw [← HA.out]; omega))
                  | exact RetB.mk (by rw [HP.out]; exact closeB1 (N := 4) HM.out (fun h => by obtain ⟨h1, h2⟩ := HQ.out h; rw [← HA.out]; omega))
  exact hpost _ rfl
end Go.Proofs.YtjfkiomegacpeaaDoor
