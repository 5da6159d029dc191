/-
  JsonlexTexts: true at every row of scalars and every style: the walk.
-/
import Derived.Test.YtjfkiomegacpeaaDoorJtx
namespace Go.Proofs.YtjfkiomegacpeaaDoor
open Go.RowKit
theorem ba_of {t : ByteArray} {l : List UInt8} (h : t.data.toList = l) : t = ⟨l.toArray⟩ := by
  cases t with
  | mk a => congr 1; rw [← h]
theorem take_snoc_int {ls : List Int} {i : Nat} {rs : List Nat} {r : Nat} (h : ls.take i = rs.map (fun r : Nat => (r : Int))) (hi : i < ls.length) (hx : ls.getD i 0 = (r : Int)) : ls.take (i + 1) = (rs ++ [r]).map (fun r : Nat => (r : Int)) := by
  rw [List.take_succ_eq_append_getElem hi, h, List.map_append]
  rw [List.getD_eq_getElem?_getD, List.getElem?_eq_getElem hi] at hx
  simp only [Option.getD_some] at hx
  rw [hx]
  rfl
set_option maxRecDepth 100000 in
set_option maxHeartbeats 8000000 in
theorem jsonlexTexts_any (ls bs : List Int) (v1 v2 : Value) (hby : ∀ b ∈ bs, 0 ≤ b ∧ b ≤ 255) (hm : bs.length ≤ 140737488351232) (w : World) (h1 : IntsR w .i32 v1 ls) (h2 : IntsR w .u8 v2 bs) (hE : EnvJ w) :
    Calls Tryd.prog 6 #[v1, v2] w fun e w' => e = .returned (.bool true) ∧ Below w.heap.size w w' := by
  have HW := Lib.hid (awake_any w hE)
  obtain ⟨st, hst⟩ : ∃ st : List Nat, st = bs.map Int.toNat := ⟨_, rfl⟩
  have hbs : bs = st.map (fun b : Nat => (b : Int)) := by
    rw [hst, List.map_map]
    conv => lhs; rw [← List.map_id bs]
    apply List.map_congr_left
    intro b hb
    have := hby b hb
    simp only [id, Function.comp]
    omega
  have hst2 : ∀ b ∈ st, b < 256 := by
    intro b hb
    rw [hst] at hb
    obtain ⟨c, hc, rfl⟩ := List.mem_map.1 hb
    have := hby c hc
    omega
  have hsl : st.length = bs.length := by rw [hst, List.length_map]
  have HI := Lib.hid (fun w1 (hb : Below w.heap.size w w1) => intsR_form (h1.keep hb))
  rw [hbs] at h2
  have HWr := Lib.hid (fun (rs : List Nat) (e : ls = rs.map (fun r : Nat => (r : Int))) (hsc : ∀ r ∈ rs, Jsn.scalar r) (hl : rs.length ≤ 200) w1 (hb : Below w.heap.size w w1) =>
    written_any rs st v1 v2 w1 hl (by omega) hsc hst2 (by rw [← e]; exact h1.keep hb) (h2.keep hb))
  have HSc := Lib.hid (fun (s : ByteArray) (hs : s.size ≤ 65536) w1 (hb : Below w.heap.size w w1) => scan_out s w1 hs (hE.below hb))
  have HE := Lib.hid encode_any
  have HS := Lib.hid scalar_any
  have HO := Lib.hid (fun (rs : List Nat) (h : ∀ r ∈ rs, Jsn.scalar r) => out_texts rs st h)
  have HWL := Lib.hid (fun rs : List Nat => wrs_len (pairs rs st))
  have HPL := Lib.hid (fun rs : List Nat => pairs_len rs st)
  obtain ⟨a1, c1, rfl, hc1, -⟩ := h1
  obtain ⟨a2, c2, rfl, hc2, -⟩ := h2
  obtain ⟨n, hn⟩ : ∃ n, n = ls.length := ⟨_, rfl⟩
  rw [List.length_map, hsl] at hc2
  rw [List.length_map, hsl] at HWr ⊢
  rw [← hn] at HWr hc1 ⊢
  have HC : Hid (∀ w1 i, Below w.heap.size w w1 → i < n → ∃ (b o : Nat), a1 = some ⟨b, o, none⟩ ∧ w1.cell? ⟨b, o + i, none⟩ = some (.int .i32 (ls.getD i 0))) := Lib.hid (fun w1 i hb hi => by
    obtain ⟨ao, cap, e1, _, h3⟩ := HI.out w1 hb
    simp only [Value.slice.injEq] at e1
    obtain ⟨rfl, _, _⟩ := e1
    exact h3 i (ls.getD i 0) (by rw [List.getD_eq_getElem?_getD, List.getElem?_eq_getElem (by omega)]; rfl))
  have HN := Lib.hid hn
  generalize bs.length = m at *
  clear HI hst hbs hst2 hby hE hsl hn
  by_cases hs : n ≤ 200
  · go_enter Tryd.func6, Tryd.ntmps6
    go_wp2_with fail
    refine HW.out.mono ?_
    rintro e w0 ⟨rfl, hb0⟩
    clear HW
    go_wp2_with fail
    go_loopg [5, 6] n (fun g tv iv wr => ∃ (i : Nat) (t : ByteArray), i + g = n ∧ tv = .string t ∧ iv = .int .i64 i ∧ t.size ≤ 4 * i ∧ Hid (∃ rs : List Nat, ls.take i = rs.map (fun r : Nat => (r : Int)) ∧ (∀ r ∈ rs, Jsn.scalar r) ∧ t.data.toList = rs.flatMap Jsn.enc) ∧ Below w.heap.size w wr)
    case atStart => exact ⟨0, _, by omega, rfl, rfl, by decide, Lib.hid ⟨[], by simp, by simp, rfl⟩, hb0⟩
    case round =>
      obtain ⟨i, t, hg, rfl, rfl, htz, HR, hbr⟩ := hrel
      by_cases hi : i < n
      · obtain ⟨b, o, rfl, hcell⟩ := HC.out wr i hbr hi
        obtain ⟨x, hx⟩ : ∃ x, x = ls.getD i 0 := ⟨_, rfl⟩
        rw [← hx] at hcell
        have HX := Lib.hid hx
        clear hx
        go_wp2_with fail
        refine (HS.out x _).mono ?_
        rintro e w5 ⟨⟨rfl, r, hxr, hsr⟩ | rfl, hw⟩
        · subst hw
          have HR2 : Hid (∀ E : ByteArray, E.data.toList = Jsn.enc r → ∃ rs : List Nat, ls.take (i + 1) = rs.map (fun r : Nat => (r : Int)) ∧ (∀ r ∈ rs, Jsn.scalar r) ∧ (t ++ E).data.toList = rs.flatMap Jsn.enc) := Lib.hid (fun E hE => by
            obtain ⟨rs, e1, e2, e3⟩ := HR.out
            refine ⟨rs ++ [r], take_snoc_int e1 (by have := HN.out; omega) (by rw [← HX.out, hxr]), fun q hq => ?_, ?_⟩
            · rcases List.mem_append.1 hq with hq | hq
              · exact e2 q hq
              · rw [List.mem_singleton.1 hq]; exact hsr
            · rw [app_lst, e3, hE, List.flatMap_append]
              simp)
          subst hxr
          have HEr := Lib.hid (HE.out r hsr.2)
          obtain ⟨E, hEe⟩ : ∃ E : ByteArray, E = ⟨(Jsn.enc r).toArray⟩ := ⟨_, rfl⟩
          rw [← hEe] at HEr
          have hez : E.size ≤ 4 := by rw [hEe]; exact (Jsn.enc_len r).2.1
          have HR3 := Lib.hid (HR2.out E (by rw [hEe]))
          clear HR2 HR HE HS HO HWr HSc HC HWL HPL hEe HX hsr
          go_wp2_with (go_at_call 14; with_reducible refine (HEr.out _).mono ?_; rintro e w3 ⟨rfl, hb3⟩)
          go_roundg (n - (i + 1))
          case measure => omega
          case rel => exact ⟨i + 1, _, by omega, rfl, by go_num, by rw [ByteArray.size_append]; omega, HR3, hbr.trans (hb3.mono hbr.size)⟩
        · subst hw
          clear HR HE HS HO HWr HSc HC HWL HPL
          go_wp2_with fail
          go_ret
          exact ⟨rfl, hbr⟩
      · obtain rfl : i = n := by omega
        obtain ⟨rs, e1, e2, e3⟩ := HR.out
        have hln : rs.length = i := by
          have := congrArg List.length e1
          rw [List.length_map, List.length_take, ← HN.out, Nat.min_self] at this
          exact this.symm
        rw [List.take_of_length_le (by rw [← HN.out]; exact Nat.le_refl _)] at e1
        have HWR := Lib.hid (HWr.out rs e1 e2 (by omega))
        have HOR := Lib.hid (HO.out rs e2)
        have hwl := HWL.out rs
        rw [HPL.out rs, hln] at hwl
        obtain rfl : t = ⟨(rs.flatMap Jsn.enc).toArray⟩ := ba_of e3
        clear HR HE HS HO HWr HC HWL HPL e1 e2 e3 hln htz
        obtain ⟨t, ht⟩ : ∃ t : ByteArray, t = ⟨(rs.flatMap Jsn.enc).toArray⟩ := ⟨_, rfl⟩
        rw [← ht]
        have HT := Lib.hid ht
        clear ht
        go_wp2_with fail
        refine (HWR.out _ hbr).mono ?_
        rintro e w2 ⟨⟨s, rfl, hsd⟩, hb2⟩
        have hw2 := hbr.trans (hb2.mono hbr.size)
        have hsz : s.size = (Jsn.wrs (pairs rs st)).length + 2 := by rw [← size_toList, hsd, List.length_cons, List.length_append]; rfl
        have HSr := Lib.hid (HSc.out s (by omega) w2 hw2)
        rw [hsd, HOR.out] at HSr
        generalize (Jsn.wrs (pairs rs st)).length = L at *
        clear HSc HOR hsd
        go_wp2_with fail
        refine HSr.out.mono ?_
        rintro e w3 ⟨⟨tv, nv, rfl, hot, hon⟩, hb3⟩
        obtain ⟨a4, d4, rfl, hd4, R4⟩ := row_at hot
        obtain ⟨a5, d5, rfl, hd5, R5⟩ := row_at hon
        obtain ⟨g1, rfl, gg1, t0, t1, t2, t3⟩ := R4.tok 0 _ Nat.zero_lt_one rfl
        have hw3 := hw2.trans (hb3.mono hw2.size)
        simp only [Nat.zero_mul, Nat.zero_add, List.length_cons, List.length_nil] at t0 t1 t2 t3 hd4 ⊢
        rw [← HT.out] at t3
        rw [show ((L + 2 : Nat) : Int) = (s.size : Int) by omega] at t2
        clear R4 R5 hot hon HSr HWR hb3 hw2 hb2 HT HN
        go_wp2_with fail
        go_ret
        exact ⟨rfl, hw3⟩
  · have hs2 : 200 < (n : Int) := by omega
    clear hs HWr HC HN HSc HE HS HO HWL HPL
    go_enter Tryd.func6, Tryd.ntmps6
    go_wp2_with fail
    refine HW.out.mono ?_
    rintro e w6 ⟨rfl, k6⟩
    go_wp2_with fail
    go_ret
    exact ⟨rfl, k6⟩
end Go.Proofs.YtjfkiomegacpeaaDoor
