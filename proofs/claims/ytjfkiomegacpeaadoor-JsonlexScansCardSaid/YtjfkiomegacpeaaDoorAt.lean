/-
  ref01.At by its contract: what begins takes is what Go's decoding takes.
-/
import Derived.Test.YtjfkiomegacpeaaDoorBeg
namespace Go.Proofs.YtjfkiomegacpeaaDoor
open Go.RowKit
def okB (m : Nat) (b : Nat → Nat) : Prop :=
  if b 0 < 128 then m = 1
  else if b 0 < 192 then False
  else if b 0 < 224 then m = 2 ∧ contB b m ∧ ¬ (accB ((b 0 : Int) - 192) b m < 128 ∨ 2047 < accB ((b 0 : Int) - 192) b m ∨ (55296 ≤ accB ((b 0 : Int) - 192) b m ∧ accB ((b 0 : Int) - 192) b m ≤ 57343))
  else if b 0 < 240 then m = 3 ∧ contB b m ∧ ¬ (accB ((b 0 : Int) - 224) b m < 2048 ∨ 65535 < accB ((b 0 : Int) - 224) b m ∨ (55296 ≤ accB ((b 0 : Int) - 224) b m ∧ accB ((b 0 : Int) - 224) b m ≤ 57343))
  else if b 0 < 248 then m = 4 ∧ contB b m ∧ ¬ (accB ((b 0 : Int) - 240) b m < 65536 ∨ 1114111 < accB ((b 0 : Int) - 240) b m ∨ (55296 ≤ accB ((b 0 : Int) - 240) b m ∧ accB ((b 0 : Int) - 240) b m ≤ 57343))
  else False
theorem begins_any (b : Nat → Nat) (m g off cap : Nat) (w : World) (hm : 1 ≤ m) (hm4 : m ≤ 4) (hcap : m ≤ cap) (hc : ∀ j, j < m → w.cell? ⟨g, off + j, none⟩ = some (.int .u8 (b j : Nat))) (hbd : ∀ j, b j < 256) :
    Calls Tryd.prog 52 #[.slice (some ⟨g, off, none⟩) m cap] w (RetB m (okB m b) w) := by
  have h0 := hbd 0
  by_cases c1 : b 0 < 128
  · have e : okB m b = (m = 1) := if_pos c1
    rw [e]
    exact begins_low b m g off cap w hm hm4 hcap hc c1
  · by_cases c2 : b 0 < 192
    · have e : okB m b = False := by unfold okB; rw [if_neg c1, if_pos c2]
      rw [e]
      exact begins_none b m g off cap w hm hm4 hcap hc (.inl ⟨by omega, c2⟩) h0
    · by_cases c3 : b 0 < 224
      · unfold okB
        rw [if_neg c1, if_neg c2, if_pos c3]
        exact begins_2 b m g off cap w hm hm4 hcap hc hbd (by omega) c3
      · by_cases c4 : b 0 < 240
        · unfold okB
          rw [if_neg c1, if_neg c2, if_neg c3, if_pos c4]
          exact begins_3 b m g off cap w hm hm4 hcap hc hbd (by omega) c4
        · by_cases c5 : b 0 < 248
          · unfold okB
            rw [if_neg c1, if_neg c2, if_neg c3, if_neg c4, if_pos c5]
            exact begins_4 b m g off cap w hm hm4 hcap hc hbd (by omega) c5
          · have e : okB m b = False := by unfold okB; rw [if_neg c1, if_neg c2, if_neg c3, if_neg c4, if_neg c5]
            rw [e]
            exact begins_none b m g off cap w hm hm4 hcap hc (.inr (by omega)) h0
theorem contB_2 (b : Nat → Nat) : contB b 2 ↔ 128 ≤ b 1 ∧ b 1 ≤ 191 := ⟨fun h => h 1 (by omega) (by omega), fun h j h1 h2 => (show j = 1 by omega) ▸ h⟩
theorem contB_3 (b : Nat → Nat) : contB b 3 ↔ (128 ≤ b 1 ∧ b 1 ≤ 191) ∧ 128 ≤ b 2 ∧ b 2 ≤ 191 := ⟨fun h => ⟨h 1 (by omega) (by omega), h 2 (by omega) (by omega)⟩, fun h j h1 h2 => by
  rcases (show j = 1 ∨ j = 2 by omega) with rfl | rfl
  · exact h.1
  · exact h.2⟩
theorem contB_4 (b : Nat → Nat) : contB b 4 ↔ (128 ≤ b 1 ∧ b 1 ≤ 191) ∧ (128 ≤ b 2 ∧ b 2 ≤ 191) ∧ 128 ≤ b 3 ∧ b 3 ≤ 191 := ⟨fun h => ⟨h 1 (by omega) (by omega), h 2 (by omega) (by omega), h 3 (by omega) (by omega)⟩, fun h j h1 h2 => by
  rcases (show j = 1 ∨ j = 2 ∨ j = 3 by omega) with rfl | rfl | rfl
  · exact h.1
  · exact h.2.1
  · exact h.2.2⟩
theorem okB_yes (n : Nat) (b : Nat → Nat) (m : Nat) (h1 : 1 ≤ m) (hmn : m ≤ n) (hbd : ∀ j, b j < 256) (h : okB m b) :
    (Lib.decodeN n (b 0) (b 1) (b 2) (b 3)).2 = m ∧ ¬ ((Lib.decodeN n (b 0) (b 1) (b 2) (b 3)).1 = 65533 ∧ (Lib.decodeN n (b 0) (b 1) (b 2) (b 3)).2 = 1) := by
  have x0 := hbd 0; have x1 := hbd 1; have x2 := hbd 2; have x3 := hbd 3
  unfold okB at h
  split at h
  · subst h
    unfold Lib.decodeN
    rw [if_pos (by assumption)]
    exact ⟨rfl, fun e => by have := e.1; simp only at this; omega⟩
  · split at h
    · exact h.elim
    · split at h
      · obtain ⟨rfl, hc, ha⟩ := h
        rw [contB_2] at hc
        have e2 : accB ((b 0 : Int) - 192) b 2 = 64 * ((b 0 : Int) - 192) + (b 1 : Int) - 128 := rfl
        rw [e2] at ha
        clear hbd e2
        generalize b 0 = b0 at *; generalize b 1 = b1 at *; generalize b 2 = b2 at *; generalize b 3 = b3 at *
        unfold Lib.decodeN
        rw [if_neg (by omega), if_pos (by omega), if_pos (by omega)]
        exact ⟨rfl, fun e => absurd e.2 (by simp)⟩
      · split at h
        · obtain ⟨rfl, hc, ha⟩ := h
          rw [contB_3] at hc
          have e2 : accB ((b 0 : Int) - 224) b 3 = 64 * (64 * ((b 0 : Int) - 224) + (b 1 : Int) - 128) + (b 2 : Int) - 128 := rfl
          rw [e2] at ha
          clear hbd e2
          generalize b 0 = b0 at *; generalize b 1 = b1 at *; generalize b 2 = b2 at *; generalize b 3 = b3 at *
          unfold Lib.decodeN
          rw [if_neg (by omega), if_neg (by omega), if_pos (by omega), if_pos (by omega)]
          exact ⟨rfl, fun e => absurd e.2 (by simp)⟩
        · split at h
          · obtain ⟨rfl, hc, ha⟩ := h
            rw [contB_4] at hc
            have e2 : accB ((b 0 : Int) - 240) b 4 = 64 * (64 * (64 * ((b 0 : Int) - 240) + (b 1 : Int) - 128) + (b 2 : Int) - 128) + (b 3 : Int) - 128 := rfl
            rw [e2] at ha
            clear hbd e2
            generalize b 0 = b0 at *; generalize b 1 = b1 at *; generalize b 2 = b2 at *; generalize b 3 = b3 at *
            unfold Lib.decodeN
            rw [if_neg (by omega), if_neg (by omega), if_neg (by omega), if_pos (by omega), if_pos (by omega)]
            exact ⟨rfl, fun e => absurd e.2 (by simp)⟩
          · exact h.elim
theorem okB_no (n : Nat) (b : Nat → Nat) (hn : 1 ≤ n) (hbd : ∀ j, b j < 256) (h : ∀ m, 1 ≤ m → m ≤ 4 → m ≤ n → ¬ okB m b) :
    Lib.decodeN n (b 0) (b 1) (b 2) (b 3) = (65533, 1) := by
  have x0 := hbd 0; have x1 := hbd 1; have x2 := hbd 2; have x3 := hbd 3
  have h1 := h 1 (by omega) (by omega)
  have h2 := h 2 (by omega) (by omega)
  have h3 := h 3 (by omega) (by omega)
  have h4 := h 4 (by omega) (by omega)
  clear h
  unfold okB at h1 h2 h3 h4
  by_cases c1 : b 0 < 128
  · rw [if_pos c1] at h1
    exact absurd rfl (h1 hn)
  · rw [if_neg c1] at h1 h2 h3 h4
    by_cases c2 : b 0 < 192
    · clear h1 h2 h3 h4 hbd
      generalize b 0 = b0 at *; generalize b 1 = b1 at *; generalize b 2 = b2 at *; generalize b 3 = b3 at *
      unfold Lib.decodeN
      rw [if_neg (by omega), if_neg (by omega), if_neg (by omega), if_neg (by omega)]
    · rw [if_neg c2] at h1 h2 h3 h4
      by_cases c3 : b 0 < 224
      · rw [if_pos c3, contB_2] at h2
        have e2 : accB ((b 0 : Int) - 192) b 2 = 64 * ((b 0 : Int) - 192) + (b 1 : Int) - 128 := rfl
        rw [e2] at h2
        clear h1 h3 h4 hbd e2
        generalize b 0 = b0 at *; generalize b 1 = b1 at *; generalize b 2 = b2 at *; generalize b 3 = b3 at *
        unfold Lib.decodeN
        rw [if_neg (by omega)]
        by_cases q : b0 / 32 = 6 ∧ (1 < n ∧ b1 / 64 = 2)
        · rw [if_pos q, if_neg]
          intro hh
          exact h2 (by omega) ⟨rfl, by omega, by omega⟩
        · rw [if_neg q, if_neg (by omega), if_neg (by omega)]
      · rw [if_neg c3] at h1 h2 h3 h4
        by_cases c4 : b 0 < 240
        · rw [if_pos c4, contB_3] at h3
          have e2 : accB ((b 0 : Int) - 224) b 3 = 64 * (64 * ((b 0 : Int) - 224) + (b 1 : Int) - 128) + (b 2 : Int) - 128 := rfl
          rw [e2] at h3
          clear h1 h2 h4 hbd e2
          generalize b 0 = b0 at *; generalize b 1 = b1 at *; generalize b 2 = b2 at *; generalize b 3 = b3 at *
          unfold Lib.decodeN
          rw [if_neg (by omega), if_neg (by omega)]
          by_cases q : b0 / 16 = 14 ∧ (1 < n ∧ b1 / 64 = 2) ∧ (2 < n ∧ b2 / 64 = 2)
          · rw [if_pos q, if_neg]
            intro hh
            exact h3 (by omega) ⟨rfl, by omega, by omega⟩
          · rw [if_neg q, if_neg (by omega)]
        · rw [if_neg c4] at h1 h2 h3 h4
          by_cases c5 : b 0 < 248
          · rw [if_pos c5, contB_4] at h4
            have e2 : accB ((b 0 : Int) - 240) b 4 = 64 * (64 * (64 * ((b 0 : Int) - 240) + (b 1 : Int) - 128) + (b 2 : Int) - 128) + (b 3 : Int) - 128 := rfl
            rw [e2] at h4
            clear h1 h2 h3 hbd e2
            generalize b 0 = b0 at *; generalize b 1 = b1 at *; generalize b 2 = b2 at *; generalize b 3 = b3 at *
            unfold Lib.decodeN
            rw [if_neg (by omega), if_neg (by omega), if_neg (by omega)]
            by_cases q : b0 / 8 = 30 ∧ (1 < n ∧ b1 / 64 = 2) ∧ (2 < n ∧ b2 / 64 = 2) ∧ (3 < n ∧ b3 / 64 = 2)
            · rw [if_pos q, if_neg]
              intro hh
              exact h4 (by omega) ⟨rfl, by omega, by omega⟩
            · rw [if_neg q]
          · clear h1 h2 h3 h4 hbd
            generalize b 0 = b0 at *; generalize b 1 = b1 at *; generalize b 2 = b2 at *; generalize b 3 = b3 at *
            unfold Lib.decodeN
            rw [if_neg (by omega), if_neg (by omega), if_neg (by omega), if_neg (by omega)]
def RetA (w : World) (RK : Nat × Nat) (e : Go.Ending) (w' : World) : Prop := (∃ v : Int, e = .returned (.tuple #[.int .i64 v, .int .i64 ((if RK.1 = 65533 ∧ RK.2 = 1 then 0 else RK.2 : Nat) : Int)])) ∧ Below w.heap.size w w'
theorem RetA.mk {w w' : World} {R K n : Nat} {v : Int} (h : n = if R = 65533 ∧ K = 1 then 0 else K) (hb : Below w.heap.size w w') : RetA w (R, K) (.returned (.tuple #[.int .i64 v, .int .i64 (n : Int)])) w' := by
  subst h; exact ⟨⟨v, rfl⟩, hb⟩
set_option maxRecDepth 100000 in
set_option maxHeartbeats 4000000 in
theorem at_any (s : ByteArray) (p : Nat) (w : World) (hp : p < s.size) (hs : s.size ≤ 140737488351232) :
    Calls Tryd.prog 35 #[.string s, .int .i64 p] w (RetA w (Lib.decodeL (s.data.toList.drop p))) := by
  obtain ⟨b, hb⟩ : ∃ b : Nat → Nat, b = fun j => (s.data.toList.getD (p + j) 0).toNat := ⟨_, rfl⟩
  have hbd : ∀ j, b j < 256 := fun j => by rw [hb]; exact UInt8.toNat_lt _
  have hd : Lib.decodeL (s.data.toList.drop p) = Lib.decodeN (s.size - p) (b 0) (b 1) (b 2) (b 3) := by
    rw [Lib.decodeL_N, hb, List.length_drop, size_toList, Lib.getD_dropU, Lib.getD_dropU, Lib.getD_dropU, Lib.getD_dropU]
  have hyes : ∀ m, 1 ≤ m → p + m ≤ s.size → okB m b → m = if (Lib.decodeL (s.data.toList.drop p)).1 = 65533 ∧ (Lib.decodeL (s.data.toList.drop p)).2 = 1 then 0 else (Lib.decodeL (s.data.toList.drop p)).2 := fun m h1 h2 h => by
    have := okB_yes (s.size - p) b m h1 (by omega) hbd h
    rw [hd, if_neg this.2, this.1]
  have hno : (∀ m, 1 ≤ m → m ≤ 4 → p + m ≤ s.size → ¬ okB m b) → 0 = if (Lib.decodeL (s.data.toList.drop p)).1 = 65533 ∧ (Lib.decodeL (s.data.toList.drop p)).2 = 1 then 0 else (Lib.decodeL (s.data.toList.drop p)).2 := fun h => by
    have := okB_no (s.size - p) b (by omega) hbd (fun m h1 h2 h3 => h m h1 h2 (by omega))
    rw [hd, this]
    rfl
  generalize Lib.decodeL (s.data.toList.drop p) = RK at hyes hno ⊢
  obtain ⟨R, K⟩ := RK
  have HY := Lib.hid hyes
  have HN := Lib.hid hno
  have HB := Lib.hid hb
  have HBd := Lib.hid hbd
  clear hyes hno hb hbd hd
  go_enter Tryd.func35, Tryd.ntmps35
  go_wp2_with (with_reducible refine wpList_bytes_string rfl 9 39 (.tmp 10) rfl 5 Tryd.underlying9 Tryd.underlying39 Tryd.underlying5 s w.heap.size rfl (by unfold maxLen; omega) (Nat.le_refl _) ?_)
  intro v w1 hz hb1
  have hcell : ∀ g cap, v = .slice (some ⟨g, 0, none⟩) s.size cap → ∀ j, p + j < s.size → w1.cell? ⟨g, p + j, none⟩ = some (.int .u8 (b j : Nat)) := fun g cap e j hj => by
    rw [e] at hz
    rw [hz.cell (by rw [size_toList]; exact hj), HB.out]
    rfl
  obtain ⟨g, cap, cur, fz, hv, _, _, _, hlc, _, _, _⟩ := hz
  rw [size_toList] at hv hlc
  have hcell := hcell g cap hv
  have HCell := Lib.hid hcell
  clear hcell
  rw [hv]
  clear hv
  go_wp2
  go_loop [7] (fun i => ∃ k : Nat, 1 ≤ k ∧ k ≤ 5 ∧ i = .int .i64 k ∧ Hid (∀ m, 1 ≤ m → m < k → p + m ≤ s.size → ¬ okB m b)) (fun i => 5 - (intOf i).toNat)
  case atStart => exact ⟨1, by omega, by omega, rfl, Lib.hid (fun m h1 h2 => absurd h1 (by omega))⟩
  case round =>
    obtain ⟨k, hk1, hk5, rfl, HM⟩ := hrel
    by_cases hk : k ≤ 4 ∧ p + k ≤ s.size
    · obtain ⟨hk4, hpk⟩ := hk
      have HBe := Lib.hid (begins_any b k g p (cap - p) w1 hk1 hk4 (by omega) (fun j hj => HCell.out j (by omega)) HBd.out)
      go_wp2_with (go_at_call 52; refine HBe.out.mono ?_; rintro e w3 ⟨⟨x, r, rfl, hr⟩, rfl⟩)
      · go_ret2
        have hrk : r = (k : Int) := by simpa using ‹(r == (k : Int)) = true›
        have hok := hr.1 hrk
        rw [hrk]
        exact RetA.mk (HY.out k hk1 hpk hok) hb1
      · go_round
        have hrk : ¬ r = (k : Int) := by simpa using ‹(r == (k : Int)) = false›
        case rel =>
          refine ⟨k + 1, by omega, by omega, by go_num, Lib.hid (fun m h1 h2 h3 => ?_)⟩
          by_cases e : m = k
          · subst e; exact fun h => hrk (hr.2 h)
          · exact HM.out m h1 (by omega) h3
        case measure => simp [intOf]; omega
    · have HNo : Hid (0 = if R = 65533 ∧ K = 1 then 0 else K) := Lib.hid (HN.out (fun m h1 h2 h3 => HM.out m h1 (by omega) h3))
      clear HM
      by_cases hk4 : k ≤ 4
      · have hk6 : ¬ ((p : Int) + k ≤ s.size) := by omega
        go_wp2
        go_ret2
        exact RetA.mk (n := 0) HNo.out hb1
      · go_wp2
        go_ret2
        exact RetA.mk (n := 0) HNo.out hb1
end Go.Proofs.YtjfkiomegacpeaaDoor
