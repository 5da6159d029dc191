/-
  The reference's text by its contract. Laid by wip/gen/reftext.py.
-/
import Derived.Test.YtdhbljbfjdlcdaaDoorRefE
import Derived.Test.YtdhbljbfjdlcdaaDoorTomK
namespace Tom
theorem fin_stop (q : List UInt8) (L : List UInt8) (a : Nat) (out : List UInt8) (h : starts q (L.drop (a + 1)) = false) : ∀ n, fin q true L n a out = .ok out (a + q.length)
  | 0 => rfl
  | n + 1 => by
    unfold fin
    rw [h]
    simp only [Bool.and_false, Bool.false_eq_true, if_false]
    exact fin_stop q L a out h n
theorem fin_one (q : List UInt8) (L : List UInt8) (a n : Nat) (out : List UInt8) (h : starts q (L.drop (a + 1)) = true) : fin q true L (n + 1) a out = fin q true L n (a + 1) (out ++ [q.headD 0]) := by
  conv => lhs; unfold fin
  rw [h]
  rfl
theorem fin_one_f (q : List UInt8) (L : List UInt8) (a : Nat) (out : List UInt8) : fin q false L 2 a out = .ok out (a + q.length) := rfl
theorem starts_head {q l : List UInt8} (hq : 1 ≤ q.length) (h : starts q l = true) : l.headD 0 = q.headD 0 ∧ q.length ≤ l.length := by
  refine ⟨?_, starts_len h⟩
  cases q with
  | nil => simp at hq
  | cons a q =>
    cases l with
    | nil => simp [starts, List.isPrefixOf] at h
    | cons b l =>
      simp only [starts, List.isPrefixOf, Bool.and_eq_true, beq_iff_eq] at h
      simp [h.1]
end Tom
namespace Go.Proofs.YtdhbljbfjdlcdaaDoor
open Go.RowKit
def contV (a : Nat) : Tom.Cont → ByteArray × Int × Int
  | .ok t n => (⟨t.toArray⟩, (n : Int), -1)
  | .bad n => (⟨#[]⟩, 0, (n : Int))
  | .open_ => (⟨#[]⟩, 0, (a : Int))
def RetX (a : Nat) (c : Tom.Cont) (w : World) (e : Go.Ending) (w' : World) : Prop := e = .returned (.tuple #[.string (contV a c).1, .int .i64 (contV a c).2.1, .int .i64 (contV a c).2.2]) ∧ w = w'
theorem retX_ok {a : Nat} {w : World} {t : List UInt8} {n : Nat} {ob : ByteArray} {x : Int} (h1 : ob.data.toList = t) (h2 : x = n) : RetX a (.ok t n) w (.returned (.tuple #[.string ob, .int .i64 x, .int .i64 (-1)])) w := by
  subst h1 h2; exact ⟨rfl, rfl⟩
theorem retX_bad {a : Nat} {w : World} {n : Nat} : RetX a (.bad n) w (.returned (.tuple #[.string ⟨#[]⟩, .int .i64 0, .int .i64 (n : Int)])) w := ⟨rfl, rfl⟩
theorem retX_open {a : Nat} {w : World} : RetX a .open_ w (.returned (.tuple #[.string ⟨#[]⟩, .int .i64 0, .int .i64 (a : Int)])) w := ⟨rfl, rfl⟩
theorem app_three (a b : ByteArray) : (a ++ b).data.toList = a.data.toList ++ b.data.toList := by
  rw [ByteArray.data_append]
  simp
theorem ext_one (s : ByteArray) (p : Nat) (h : p < s.size) : (s.extract p (p + 1)).data.toList = [s[p]] := by
  rw [ext_part, List.drop_eq_getElem_cons (by rw [size_toList]; exact h)]
  rfl
theorem ext_one_size (s : ByteArray) (p : Nat) (h : p < s.size) : (s.extract p (p + 1)).size = 1 := by
  rw [← size_toList, ext_one s p h]; rfl
theorem beq92 (c : UInt8) : (c == 92) = ((c.toNat : Int) == 92) := by
  by_cases h : c = 92
  · subst h; rfl
  · have h2 : ¬ ((c.toNat : Int) = 92) := fun e => h (UInt8.toNat_inj.1 (by show c.toNat = 92; omega))
    rw [beq_eq_false_iff_ne.2 h, beq_eq_false_iff_ne.2 h2]
set_option maxRecDepth 100000 in
set_option maxHeartbeats 8000000 in
theorem rtext_ol (s q : ByteArray) (a : Nat) (w : World) (ha : a + q.size ≤ s.size) (hq : 1 ≤ q.size) (hq3 : q.size ≤ 3) (hm : s.size ≤ 1099511627) (hh : (q.data.toList.headD 0 == 34) = false) :
    Calls Tryd.prog 46 #[.string s, .int .i64 a, .string q, .bool false, .bool false] w (RetX a (Tom.contAt q.data.toList false s.data.toList a) w) := by
  obtain ⟨C, hC⟩ : ∃ C, C = Tom.contAt q.data.toList false s.data.toList a := ⟨_, rfl⟩
  rw [← hC]
  have HL := Lib.hid (fun (n : Nat) (w : World) (h : n ≤ s.size) => rlineEnd_any s n w h (by omega))
  have HH := Lib.hid (fun (n : Nat) (w : World) (h : n ≤ s.size) => rhas_any s q n w h (by omega) (by omega))
  have HC0 : Hid (C = Tom.contLoop q.data.toList false (s.size + 1) (a + q.size) (⟨#[]⟩ : ByteArray).data.toList (s.data.toList.drop (a + q.size))) := Lib.hid (by
    rw [hC, ← size_toList s, ← size_toList q]; rfl)
  clear hC
  go_enter Tryd.func46, Tryd.ntmps46
  go_wp2
  go_loop [13, 14] (fun i ov => ∃ (p f : Nat) (ob : ByteArray), p ≤ s.size ∧ i = .int .i64 p ∧ ov = .string ob ∧ ob.size ≤ p ∧ s.size - p < f ∧ Hid (C = Tom.contLoop q.data.toList false f p ob.data.toList (s.data.toList.drop p))) (fun i _ => s.size - (intOf i).toNat)
  case atStart => exact ⟨a + q.size, s.size + 1, ⟨#[]⟩, by omega, by go_num, rfl, Nat.zero_le _, by omega, HC0⟩
  case round =>
    clear HC0
    obtain ⟨p, f, ob, hp, rfl, rfl, hob, hf, HC⟩ := hrel
    by_cases hlt : p < s.size
    · obtain ⟨f, rfl⟩ : ∃ f', f = f' + 1 := ⟨f - 1, by omega⟩
      have e0 : s.data.toList.drop p = s[p] :: s.data.toList.drop (p + 1) := List.drop_eq_getElem_cons (by rw [size_toList]; exact hlt)
      have hS := HC.out.trans (Tom.cont_round q.data.toList false f p ob.data.toList s.data.toList _ e0)
      have hH := fun w => HH.out p w hp
      have hhd : (s.data.toList.drop p).headD 0 = s[p] := by rw [e0]; rfl
      clear HC
      cases hst : Tom.starts q.data.toList (s.data.toList.drop p) with
      | true =>
        rw [hst] at hS hH
        rw [if_pos rfl] at hS
        have hsh := Tom.starts_head (by rw [size_toList]; exact hq) hst
        rw [hhd, List.length_drop, size_toList, size_toList] at hsh
        have Hp := Lib.hid hH
        have HS := Lib.hid hS
        obtain ⟨hsh1, hsh2⟩ := hsh
        clear hS hH e0 hhd
        clear hst hsh1
        go_wp2_with (go_at_call 45; refine (Hp.out _).mono ?_; rintro e w3 ⟨rfl, rfl⟩)
        refine bodyPost_ret (v := .tuple #[.string ob, .int .i64 ((p : Int) + q.size), .int .i64 (-1)]) (by simp [results, Tryd.results46, go_sem]) rfl ?_
        rw [HS.out, Tom.fin_one_f]
        exact retX_ok rfl (by rw [size_toList]; omega)
      | false =>
        rw [hst] at hS hH
        rw [if_neg (by simp)] at hS
        have Hp := Lib.hid hH
        clear hH hst hhd
        have HK := fun w => rcontrol_any s[p] w
        rw [if_neg (by simp)] at hS
        cases hct : Tom.control s[p] with
        | true =>
          rw [hct] at hS HK
          rw [if_pos rfl] at hS
          have HS := Lib.hid hS
          have HK := Lib.hid HK
          clear hS hct e0
          go_wp2_with (first
              | (go_at_call 45; refine (Hp.out _).mono ?_; rintro e w3 ⟨rfl, rfl⟩)
              | (go_at_call 25; refine (HK.out _).mono ?_; rintro e w3 ⟨rfl, rfl⟩))
          refine bodyPost_ret (v := .tuple #[.string ⟨#[]⟩, .int .i64 0, .int .i64 (p : Int)]) (by simp [results, Tryd.results46, go_sem]) rfl ?_
          rw [HS.out]
          exact retX_bad
        | false =>
          rw [hct] at hS HK
          rw [if_neg (by simp), hh, beq92] at hS
          have HK := Lib.hid HK
          have he1 := ext_one_size s p hlt
          have hz : (ob ++ s.extract p (p + 1)).size ≤ p + 1 := by rw [ByteArray.size_append, he1]; omega
          have HZ := Lib.hid hz
          have he2 : (s.extract p (p + 1)).size ≤ 1 := by omega
          have hob2 : ob.size ≤ 1099511627 := by omega
          clear hct hz he1
          have hb3 : (((s[p].toNat : Int) == 92) && false) = false := Bool.and_false _
          rw [hb3] at hS
          rw [if_neg (by simp)] at hS
          have HS : Hid (C = Tom.contLoop q.data.toList false f (p + 1) (ob ++ s.extract p (p + 1)).data.toList (s.data.toList.drop (p + 1))) := Lib.hid (by rw [app_three, ext_one s p hlt]; exact hS)
          clear hS e0
          have g1 : (p : Int) ≤ (p : Int) + 1 := by omega
          have g2 : (p : Int) + 1 ≤ s.size := by omega
          have g3 : 0 ≤ (p : Int) := by omega
          have g4 : ((p : Int) + 1).toNat = p + 1 := by omega
          go_wp2_with (first
              | (go_at_call 45; refine (Hp.out _).mono ?_; rintro e w3 ⟨rfl, rfl⟩)
              | (go_at_call 25; refine (HK.out _).mono ?_; rintro e w3 ⟨rfl, rfl⟩))
          go_round
          case rel => exact ⟨p + 1, f, _, by omega, by go_num, rfl, HZ.out, by omega, HS⟩
          case measure => simp [intOf]; omega
    · have hS := HC.out
      rw [List.drop_of_length_le (by rw [size_toList]; omega)] at hS
      have hS2 : C = .open_ := hS.trans (match f with | 0 => rfl | _ + 1 => rfl)
      have HS := Lib.hid hS2
      clear hS hS2 HC
      go_wp2
      refine bodyPost_ret (v := .tuple #[.string ⟨#[]⟩, .int .i64 0, .int .i64 (a : Int)]) (by simp [results, Tryd.results46, go_sem]) rfl ?_
      rw [HS.out]
      exact retX_open
set_option maxRecDepth 100000 in
set_option maxHeartbeats 8000000 in
theorem rtext_oe (s q : ByteArray) (a : Nat) (w : World) (ha : a + q.size ≤ s.size) (hq : 1 ≤ q.size) (hq3 : q.size ≤ 3) (hm : s.size ≤ 1099511627) (hh : (q.data.toList.headD 0 == 34) = true) :
    Calls Tryd.prog 46 #[.string s, .int .i64 a, .string q, .bool true, .bool false] w (RetX a (Tom.contAt q.data.toList false s.data.toList a) w) := by
  obtain ⟨C, hC⟩ : ∃ C, C = Tom.contAt q.data.toList false s.data.toList a := ⟨_, rfl⟩
  rw [← hC]
  have HL := Lib.hid (fun (n : Nat) (w : World) (h : n ≤ s.size) => rlineEnd_any s n w h (by omega))
  have HH := Lib.hid (fun (n : Nat) (w : World) (h : n ≤ s.size) => rhas_any s q n w h (by omega) (by omega))
  have HC0 : Hid (C = Tom.contLoop q.data.toList false (s.size + 1) (a + q.size) (⟨#[]⟩ : ByteArray).data.toList (s.data.toList.drop (a + q.size))) := Lib.hid (by
    rw [hC, ← size_toList s, ← size_toList q]; rfl)
  clear hC
  go_enter Tryd.func46, Tryd.ntmps46
  go_wp2
  go_loop [13, 14] (fun i ov => ∃ (p f : Nat) (ob : ByteArray), p ≤ s.size ∧ i = .int .i64 p ∧ ov = .string ob ∧ ob.size ≤ p ∧ s.size - p < f ∧ Hid (C = Tom.contLoop q.data.toList false f p ob.data.toList (s.data.toList.drop p))) (fun i _ => s.size - (intOf i).toNat)
  case atStart => exact ⟨a + q.size, s.size + 1, ⟨#[]⟩, by omega, by go_num, rfl, Nat.zero_le _, by omega, HC0⟩
  case round =>
    clear HC0
    obtain ⟨p, f, ob, hp, rfl, rfl, hob, hf, HC⟩ := hrel
    by_cases hlt : p < s.size
    · obtain ⟨f, rfl⟩ : ∃ f', f = f' + 1 := ⟨f - 1, by omega⟩
      have e0 : s.data.toList.drop p = s[p] :: s.data.toList.drop (p + 1) := List.drop_eq_getElem_cons (by rw [size_toList]; exact hlt)
      have hS := HC.out.trans (Tom.cont_round q.data.toList false f p ob.data.toList s.data.toList _ e0)
      have hH := fun w => HH.out p w hp
      have hhd : (s.data.toList.drop p).headD 0 = s[p] := by rw [e0]; rfl
      clear HC
      cases hst : Tom.starts q.data.toList (s.data.toList.drop p) with
      | true =>
        rw [hst] at hS hH
        rw [if_pos rfl] at hS
        have hsh := Tom.starts_head (by rw [size_toList]; exact hq) hst
        rw [hhd, List.length_drop, size_toList, size_toList] at hsh
        have Hp := Lib.hid hH
        have HS := Lib.hid hS
        obtain ⟨hsh1, hsh2⟩ := hsh
        clear hS hH e0 hhd
        clear hst hsh1
        go_wp2_with (go_at_call 45; refine (Hp.out _).mono ?_; rintro e w3 ⟨rfl, rfl⟩)
        refine bodyPost_ret (v := .tuple #[.string ob, .int .i64 ((p : Int) + q.size), .int .i64 (-1)]) (by simp [results, Tryd.results46, go_sem]) rfl ?_
        rw [HS.out, Tom.fin_one_f]
        exact retX_ok rfl (by rw [size_toList]; omega)
      | false =>
        rw [hst] at hS hH
        rw [if_neg (by simp)] at hS
        have Hp := Lib.hid hH
        clear hH hst hhd
        have HK := fun w => rcontrol_any s[p] w
        rw [if_neg (by simp)] at hS
        cases hct : Tom.control s[p] with
        | true =>
          rw [hct] at hS HK
          rw [if_pos rfl] at hS
          have HS := Lib.hid hS
          have HK := Lib.hid HK
          clear hS hct e0
          go_wp2_with (first
              | (go_at_call 45; refine (Hp.out _).mono ?_; rintro e w3 ⟨rfl, rfl⟩)
              | (go_at_call 25; refine (HK.out _).mono ?_; rintro e w3 ⟨rfl, rfl⟩))
          refine bodyPost_ret (v := .tuple #[.string ⟨#[]⟩, .int .i64 0, .int .i64 (p : Int)]) (by simp [results, Tryd.results46, go_sem]) rfl ?_
          rw [HS.out]
          exact retX_bad
        | false =>
          rw [hct] at hS HK
          rw [if_neg (by simp), hh, beq92] at hS
          have HK := Lib.hid HK
          have he1 := ext_one_size s p hlt
          have hz : (ob ++ s.extract p (p + 1)).size ≤ p + 1 := by rw [ByteArray.size_append, he1]; omega
          have HZ := Lib.hid hz
          have he2 : (s.extract p (p + 1)).size ≤ 1 := by omega
          have hob2 : ob.size ≤ 1099511627 := by omega
          clear hct hz he1
          have hF := fun w => rfolded_any s p w hlt (by omega)
          have hE := fun w => rescape_any s p w hlt (by omega)
          have hfl := Tom.folded_le (s.data.toList.drop p) (by rw [e0]; simp)
          rw [List.length_drop, size_toList] at hfl
          have heb := Tom.escape_bd (s.data.toList.drop p)
          rw [List.length_drop, size_toList] at heb
          generalize Tom.folded (s.data.toList.drop p) = fo at *
          generalize Tom.escape (s.data.toList.drop p) = eo at *
          cases h92 : ((s[p].toNat : Int) == 92) with
          | true =>
            rw [h92] at hS
            rw [if_pos (show (true && true) = true from rfl)] at hS
            have HF := Lib.hid hF
            clear hF e0
            rw [if_neg (by simp)] at hS
            clear hfl
            cases eo with
            | none =>
              have HS : Hid (C = .bad p) := Lib.hid hS
              have HE : Hid (∀ w : World, Calls Tryd.prog 74 #[.string s, .int .i64 p] w fun e w' => e = .returned (.tuple #[.string ⟨#[]⟩, .int .i64 0]) ∧ w = w') := Lib.hid hE
              clear hS hE heb
              go_wp2_with (first
                | (go_at_call 45; refine (Hp.out _).mono ?_; rintro e w3 ⟨rfl, rfl⟩)
                | (go_at_call 25; refine (HK.out _).mono ?_; rintro e w3 ⟨rfl, rfl⟩)
                | (go_at_call 73; refine (HF.out _).mono ?_; rintro e w3 ⟨rfl, rfl⟩)
                | (go_at_call 74; refine (HE.out _).mono ?_; rintro e w3 ⟨rfl, rfl⟩))
              refine bodyPost_ret (v := .tuple #[.string ⟨#[]⟩, .int .i64 0, .int .i64 (p : Int)]) (by simp [results, Tryd.results46, go_sem]) rfl ?_
              rw [HS.out]
              exact retX_bad
            | some tn =>
              obtain ⟨t, n⟩ := tn
              obtain ⟨b1, b2, b3⟩ := heb t n rfl
              obtain ⟨tb, htb⟩ : ∃ tb : ByteArray, tb = ⟨t.toArray⟩ := ⟨_, rfl⟩
              have htl : tb.data.toList = t := by rw [htb]
              have hts : tb.size ≤ n := by rw [← size_toList, htl]; exact b3
              have HS : Hid (C = Tom.contLoop q.data.toList false f (p + n) (ob ++ tb).data.toList (s.data.toList.drop (p + n))) := Lib.hid (by rw [app_three, htl]; exact hS)
              have HE : Hid (∀ w : World, Calls Tryd.prog 74 #[.string s, .int .i64 p] w fun e w' => e = .returned (.tuple #[.string tb, .int .i64 (n : Int)]) ∧ w = w') := Lib.hid (by rw [htb]; exact hE)
              have hz2 : (ob ++ tb).size ≤ p + n := by rw [ByteArray.size_append]; omega
              have HZ2 := Lib.hid hz2
              have hn0 : ((n : Int) == 0) = false := by rw [beq_eq_false_iff_ne]; omega
              have hts2 : tb.size ≤ 1099511627 := by omega
              clear hS hE heb htb htl hz2 b3
              go_wp2_with (first
                | (go_at_call 45; refine (Hp.out _).mono ?_; rintro e w3 ⟨rfl, rfl⟩)
                | (go_at_call 25; refine (HK.out _).mono ?_; rintro e w3 ⟨rfl, rfl⟩)
                | (go_at_call 73; refine (HF.out _).mono ?_; rintro e w3 ⟨rfl, rfl⟩)
                | (go_at_call 74; refine (HE.out _).mono ?_; rintro e w3 ⟨rfl, rfl⟩))
              go_round
              case rel => exact ⟨p + n, f, _, by omega, by go_num, rfl, HZ2.out, by omega, HS⟩
              case measure => simp [intOf]; omega
          | false =>
            rw [h92] at hS
            rw [if_neg (by simp)] at hS
            have HS : Hid (C = Tom.contLoop q.data.toList false f (p + 1) (ob ++ s.extract p (p + 1)).data.toList (s.data.toList.drop (p + 1))) := Lib.hid (by rw [app_three, ext_one s p hlt]; exact hS)
            clear hS e0
            have g1 : (p : Int) ≤ (p : Int) + 1 := by omega
            have g2 : (p : Int) + 1 ≤ s.size := by omega
            have g3 : 0 ≤ (p : Int) := by omega
            have g4 : ((p : Int) + 1).toNat = p + 1 := by omega
            go_wp2_with (first
              | (go_at_call 45; refine (Hp.out _).mono ?_; rintro e w3 ⟨rfl, rfl⟩)
              | (go_at_call 25; refine (HK.out _).mono ?_; rintro e w3 ⟨rfl, rfl⟩))
            go_round
            case rel => exact ⟨p + 1, f, _, by omega, by go_num, rfl, HZ.out, by omega, HS⟩
            case measure => simp [intOf]; omega
    · have hS := HC.out
      rw [List.drop_of_length_le (by rw [size_toList]; omega)] at hS
      have hS2 : C = .open_ := hS.trans (match f with | 0 => rfl | _ + 1 => rfl)
      have HS := Lib.hid hS2
      clear hS hS2 HC
      go_wp2
      refine bodyPost_ret (v := .tuple #[.string ⟨#[]⟩, .int .i64 0, .int .i64 (a : Int)]) (by simp [results, Tryd.results46, go_sem]) rfl ?_
      rw [HS.out]
      exact retX_open
set_option maxRecDepth 100000 in
set_option maxHeartbeats 8000000 in
theorem rtext_ml (s q : ByteArray) (a : Nat) (w : World) (ha : a + q.size ≤ s.size) (hq : 1 ≤ q.size) (hq3 : q.size ≤ 3) (hm : s.size ≤ 1099511627) (hh : (q.data.toList.headD 0 == 34) = false) :
    Calls Tryd.prog 46 #[.string s, .int .i64 a, .string q, .bool false, .bool true] w (RetX a (Tom.contAt q.data.toList true s.data.toList a) w) := by
  obtain ⟨C, hC⟩ : ∃ C, C = Tom.contAt q.data.toList true s.data.toList a := ⟨_, rfl⟩
  rw [← hC]
  have HL := Lib.hid (fun (n : Nat) (w : World) (h : n ≤ s.size) => rlineEnd_any s n w h (by omega))
  have HH := Lib.hid (fun (n : Nat) (w : World) (h : n ≤ s.size) => rhas_any s q n w h (by omega) (by omega))
  obtain ⟨k0, hk0⟩ : ∃ k, k = Tom.lineEnd (s.data.toList.drop (a + q.size)) := ⟨_, rfl⟩
  have HL0 : Hid (∀ w : World, Calls Tryd.prog 24 #[.string s, .int .i64 ((a : Int) + q.size)] w fun e w' => e = .returned (.int .i64 (k0 : Int)) ∧ w = w') := Lib.hid (fun w => by
    have := HL.out (a + q.size) w ha
    rw [← hk0] at this
    exact this)
  have hk2 : a + q.size + k0 ≤ s.size := by
    have := lineEnd_le (s.data.toList.drop (a + q.size))
    rw [← hk0, List.length_drop, size_toList] at this
    omega
  have HC0 : Hid (C = Tom.contLoop q.data.toList true (s.size + 1) (a + q.size + k0) (⟨#[]⟩ : ByteArray).data.toList (s.data.toList.drop (a + q.size + k0))) := Lib.hid (by
    rw [hC, ← size_toList s, hk0, ← size_toList q]; rfl)
  clear hC hk0
  go_enter Tryd.func46, Tryd.ntmps46
  go_wp2_with (go_at_call 24; refine (HL0.out _).mono ?_; rintro e w3 ⟨rfl, rfl⟩)
  clear HL0
  go_loop [13, 14] (fun i ov => ∃ (p f : Nat) (ob : ByteArray), p ≤ s.size ∧ i = .int .i64 p ∧ ov = .string ob ∧ ob.size ≤ p ∧ s.size - p < f ∧ Hid (C = Tom.contLoop q.data.toList true f p ob.data.toList (s.data.toList.drop p))) (fun i _ => s.size - (intOf i).toNat)
  case atStart => exact ⟨a + q.size + k0, s.size + 1, ⟨#[]⟩, by omega, by go_num, rfl, Nat.zero_le _, by omega, HC0⟩
  case round =>
    clear HC0
    obtain ⟨p, f, ob, hp, rfl, rfl, hob, hf, HC⟩ := hrel
    by_cases hlt : p < s.size
    · obtain ⟨f, rfl⟩ : ∃ f', f = f' + 1 := ⟨f - 1, by omega⟩
      have e0 : s.data.toList.drop p = s[p] :: s.data.toList.drop (p + 1) := List.drop_eq_getElem_cons (by rw [size_toList]; exact hlt)
      have hS := HC.out.trans (Tom.cont_round q.data.toList true f p ob.data.toList s.data.toList _ e0)
      have hH := fun w => HH.out p w hp
      have hhd : (s.data.toList.drop p).headD 0 = s[p] := by rw [e0]; rfl
      clear HC
      cases hst : Tom.starts q.data.toList (s.data.toList.drop p) with
      | true =>
        rw [hst] at hS hH
        rw [if_pos rfl] at hS
        have hsh := Tom.starts_head (by rw [size_toList]; exact hq) hst
        rw [hhd, List.length_drop, size_toList, size_toList] at hsh
        have Hp := Lib.hid hH
        have HS := Lib.hid hS
        obtain ⟨hsh1, hsh2⟩ := hsh
        clear hS hH e0 hhd
        have HT : Hid (Tom.starts q.data.toList (s.data.toList.drop p) = true) := Lib.hid hst
        clear hst hsh1
        go_wp2_with (go_at_call 45; refine (Hp.out _).mono ?_; rintro e w3 ⟨rfl, rfl⟩)
        clear Hp
        go_loop [13, 14, 15] (fun i ov kv => ∃ (k p' : Nat) (ob' : ByteArray), k ≤ 2 ∧ kv = .int .i64 k ∧ i = .int .i64 p' ∧ ov = .string ob' ∧ ob'.size ≤ p' ∧ q.size ≤ s.size - p' ∧ Hid (Tom.starts q.data.toList (s.data.toList.drop p') = true) ∧ Hid (C = Tom.fin q.data.toList true s.data.toList (2 - k) p' ob'.data.toList)) (fun _ _ kv => 2 - (intOf kv).toNat)
        case atStart => exact ⟨0, p, ob, by omega, rfl, rfl, rfl, hob, hsh2, HT, HS⟩
        case round =>
          clear HT HS hsh2 hob
          obtain ⟨k, p', ob', hk, rfl, rfl, rfl, hob', hq', HT, HF⟩ := hrel
          have hp1 : p' + 1 ≤ s.size := by omega
          have hlt' : p' < s.size := by omega
          by_cases hk2' : k < 2
          · have hH := fun w => HH.out (p' + 1) w hp1
            have g1 : (((p' + 1 : Nat) : Int)) = (p' : Int) + 1 := by omega
            rw [g1] at hH
            have e0 : s.data.toList.drop p' = s[p'] :: s.data.toList.drop (p' + 1) := List.drop_eq_getElem_cons (by rw [size_toList]; exact hlt')
            cases hs2 : Tom.starts q.data.toList (s.data.toList.drop (p' + 1)) with
            | true =>
              rw [hs2] at hH
              have hF := HF.out
              rw [show 2 - k = (2 - (k + 1)) + 1 by omega, Tom.fin_one _ _ _ _ _ hs2] at hF
              have hh1 := (Tom.starts_head (by rw [size_toList]; exact hq) HT.out).1
              have hh2 := (Tom.starts_head (by rw [size_toList]; exact hq) hs2).2
              rw [e0, List.headD_cons] at hh1
              rw [List.length_drop, size_toList, size_toList] at hh2
              rw [← hh1] at hF
              have HF2 : Hid (C = Tom.fin q.data.toList true s.data.toList (2 - (k + 1)) (p' + 1) (ob' ++ s.extract p' (p' + 1)).data.toList) := Lib.hid (by rw [app_three, ext_one s p' hlt']; exact hF)
              have HT2 := Lib.hid hs2
              have Hp := Lib.hid hH
              have he1 := ext_one_size s p' hlt'
              have hz : (ob' ++ s.extract p' (p' + 1)).size ≤ p' + 1 := by rw [ByteArray.size_append, he1]; omega
              have HZ := Lib.hid hz
              have he2 : (s.extract p' (p' + 1)).size ≤ 1 := by omega
              have hob2 : ob'.size ≤ 1099511627 := by omega
              clear hs2 hH hF hh1 e0 g1 HT HF hz he1
              have g1 : (p' : Int) ≤ (p' : Int) + 1 := by omega
              have g2 : (p' : Int) + 1 ≤ s.size := by omega
              have g3 : 0 ≤ (p' : Int) := by omega
              have g4 : ((p' : Int) + 1).toNat = p' + 1 := by omega
              go_wp2_with (go_at_call 45; refine (Hp.out _).mono ?_; rintro e w3 ⟨rfl, rfl⟩)
              go_round
              case rel => exact ⟨k + 1, p' + 1, _, by omega, by go_num, by go_num, rfl, HZ.out, by omega, HT2, HF2⟩
              case measure => simp [intOf]; omega
            | false =>
              rw [hs2] at hH
              have hF := HF.out.trans (Tom.fin_stop _ _ _ _ hs2 _)
              have HF2 := Lib.hid hF
              have Hp := Lib.hid hH
              clear hs2 hH hF e0 g1 HT HF
              go_wp2_with (go_at_call 45; refine (Hp.out _).mono ?_; rintro e w3 ⟨rfl, rfl⟩)
              refine bodyPost_ret (v := .tuple #[.string ob', .int .i64 ((p' : Int) + q.size), .int .i64 (-1)]) (by simp [results, Tryd.results46, go_sem]) rfl ?_
              rw [HF2.out]
              exact retX_ok rfl (by rw [size_toList]; omega)
          · have hF := HF.out
            obtain rfl : k = 2 := by omega
            have HF2 : Hid (C = .ok ob'.data.toList (p' + q.data.toList.length)) := Lib.hid hF
            clear hF HF HT
            go_wp2
            refine bodyPost_ret (v := .tuple #[.string ob', .int .i64 ((p' : Int) + q.size), .int .i64 (-1)]) (by simp [results, Tryd.results46, go_sem]) rfl ?_
            rw [HF2.out]
            exact retX_ok rfl (by rw [size_toList]; omega)
      | false =>
        rw [hst] at hS hH
        rw [if_neg (by simp)] at hS
        have Hp := Lib.hid hH
        clear hH hst hhd
        have HK := fun w => rcontrol_any s[p] w
        have hL := fun w => HL.out p w hp
        have hle := lineEnd_le (s.data.toList.drop p)
        rw [List.length_drop, size_toList] at hle
        generalize Tom.lineEnd (s.data.toList.drop p) = kl at *
        by_cases hkl : 0 < kl
        · rw [if_pos (by simp [hkl])] at hS
          have HS : Hid (C = Tom.contLoop q.data.toList true f (p + kl) (ob ++ ⟨#[10]⟩).data.toList (s.data.toList.drop (p + kl))) := Lib.hid (by rw [app_three]; exact hS)
          have Hl := Lib.hid hL
          have hkl2 : 0 < (kl : Int) := by omega
          have hz : (ob ++ ⟨#[10]⟩ : ByteArray).size ≤ p + kl := by rw [ByteArray.size_append]; show ob.size + 1 ≤ _; omega
          have HZ := Lib.hid hz
          clear hS hL hkl HK e0 hz
          go_wp2_with (first
            | (go_at_call 45; refine (Hp.out _).mono ?_; rintro e w3 ⟨rfl, rfl⟩)
            | (go_at_call 24; refine (Hl.out _).mono ?_; rintro e w3 ⟨rfl, rfl⟩))
          go_round
          case rel => exact ⟨p + kl, f, _, by omega, by go_num, rfl, HZ.out, by omega, HS⟩
          case measure => simp [intOf]; omega
        · obtain rfl : kl = 0 := by omega
          rw [if_neg (by simp)] at hS
          have Hl := Lib.hid hL
          clear hL hkl hle
          cases hct : Tom.control s[p] with
          | true =>
            rw [hct] at hS HK
            rw [if_pos rfl] at hS
            have HS := Lib.hid hS
            have HK := Lib.hid HK
            clear hS hct e0
            go_wp2_with (first
                | (go_at_call 45; refine (Hp.out _).mono ?_; rintro e w3 ⟨rfl, rfl⟩)
                | (go_at_call 24; refine (Hl.out _).mono ?_; rintro e w3 ⟨rfl, rfl⟩)
                | (go_at_call 25; refine (HK.out _).mono ?_; rintro e w3 ⟨rfl, rfl⟩))
            refine bodyPost_ret (v := .tuple #[.string ⟨#[]⟩, .int .i64 0, .int .i64 (p : Int)]) (by simp [results, Tryd.results46, go_sem]) rfl ?_
            rw [HS.out]
            exact retX_bad
          | false =>
            rw [hct] at hS HK
            rw [if_neg (by simp), hh, beq92] at hS
            have HK := Lib.hid HK
            have he1 := ext_one_size s p hlt
            have hz : (ob ++ s.extract p (p + 1)).size ≤ p + 1 := by rw [ByteArray.size_append, he1]; omega
            have HZ := Lib.hid hz
            have he2 : (s.extract p (p + 1)).size ≤ 1 := by omega
            have hob2 : ob.size ≤ 1099511627 := by omega
            clear hct hz he1
            have hb3 : (((s[p].toNat : Int) == 92) && false) = false := Bool.and_false _
            rw [hb3] at hS
            rw [if_neg (by simp)] at hS
            have HS : Hid (C = Tom.contLoop q.data.toList true f (p + 1) (ob ++ s.extract p (p + 1)).data.toList (s.data.toList.drop (p + 1))) := Lib.hid (by rw [app_three, ext_one s p hlt]; exact hS)
            clear hS e0
            have g1 : (p : Int) ≤ (p : Int) + 1 := by omega
            have g2 : (p : Int) + 1 ≤ s.size := by omega
            have g3 : 0 ≤ (p : Int) := by omega
            have g4 : ((p : Int) + 1).toNat = p + 1 := by omega
            go_wp2_with (first
                | (go_at_call 45; refine (Hp.out _).mono ?_; rintro e w3 ⟨rfl, rfl⟩)
                | (go_at_call 24; refine (Hl.out _).mono ?_; rintro e w3 ⟨rfl, rfl⟩)
                | (go_at_call 25; refine (HK.out _).mono ?_; rintro e w3 ⟨rfl, rfl⟩))
            go_round
            case rel => exact ⟨p + 1, f, _, by omega, by go_num, rfl, HZ.out, by omega, HS⟩
            case measure => simp [intOf]; omega
    · have hS := HC.out
      rw [List.drop_of_length_le (by rw [size_toList]; omega)] at hS
      have hS2 : C = .open_ := hS.trans (match f with | 0 => rfl | _ + 1 => rfl)
      have HS := Lib.hid hS2
      clear hS hS2 HC
      go_wp2
      refine bodyPost_ret (v := .tuple #[.string ⟨#[]⟩, .int .i64 0, .int .i64 (a : Int)]) (by simp [results, Tryd.results46, go_sem]) rfl ?_
      rw [HS.out]
      exact retX_open
set_option maxRecDepth 100000 in
set_option maxHeartbeats 8000000 in
theorem rtext_me (s q : ByteArray) (a : Nat) (w : World) (ha : a + q.size ≤ s.size) (hq : 1 ≤ q.size) (hq3 : q.size ≤ 3) (hm : s.size ≤ 1099511627) (hh : (q.data.toList.headD 0 == 34) = true) :
    Calls Tryd.prog 46 #[.string s, .int .i64 a, .string q, .bool true, .bool true] w (RetX a (Tom.contAt q.data.toList true s.data.toList a) w) := by
  obtain ⟨C, hC⟩ : ∃ C, C = Tom.contAt q.data.toList true s.data.toList a := ⟨_, rfl⟩
  rw [← hC]
  have HL := Lib.hid (fun (n : Nat) (w : World) (h : n ≤ s.size) => rlineEnd_any s n w h (by omega))
  have HH := Lib.hid (fun (n : Nat) (w : World) (h : n ≤ s.size) => rhas_any s q n w h (by omega) (by omega))
  obtain ⟨k0, hk0⟩ : ∃ k, k = Tom.lineEnd (s.data.toList.drop (a + q.size)) := ⟨_, rfl⟩
  have HL0 : Hid (∀ w : World, Calls Tryd.prog 24 #[.string s, .int .i64 ((a : Int) + q.size)] w fun e w' => e = .returned (.int .i64 (k0 : Int)) ∧ w = w') := Lib.hid (fun w => by
    have := HL.out (a + q.size) w ha
    rw [← hk0] at this
    exact this)
  have hk2 : a + q.size + k0 ≤ s.size := by
    have := lineEnd_le (s.data.toList.drop (a + q.size))
    rw [← hk0, List.length_drop, size_toList] at this
    omega
  have HC0 : Hid (C = Tom.contLoop q.data.toList true (s.size + 1) (a + q.size + k0) (⟨#[]⟩ : ByteArray).data.toList (s.data.toList.drop (a + q.size + k0))) := Lib.hid (by
    rw [hC, ← size_toList s, hk0, ← size_toList q]; rfl)
  clear hC hk0
  go_enter Tryd.func46, Tryd.ntmps46
  go_wp2_with (go_at_call 24; refine (HL0.out _).mono ?_; rintro e w3 ⟨rfl, rfl⟩)
  clear HL0
  go_loop [13, 14] (fun i ov => ∃ (p f : Nat) (ob : ByteArray), p ≤ s.size ∧ i = .int .i64 p ∧ ov = .string ob ∧ ob.size ≤ p ∧ s.size - p < f ∧ Hid (C = Tom.contLoop q.data.toList true f p ob.data.toList (s.data.toList.drop p))) (fun i _ => s.size - (intOf i).toNat)
  case atStart => exact ⟨a + q.size + k0, s.size + 1, ⟨#[]⟩, by omega, by go_num, rfl, Nat.zero_le _, by omega, HC0⟩
  case round =>
    clear HC0
    obtain ⟨p, f, ob, hp, rfl, rfl, hob, hf, HC⟩ := hrel
    by_cases hlt : p < s.size
    · obtain ⟨f, rfl⟩ : ∃ f', f = f' + 1 := ⟨f - 1, by omega⟩
      have e0 : s.data.toList.drop p = s[p] :: s.data.toList.drop (p + 1) := List.drop_eq_getElem_cons (by rw [size_toList]; exact hlt)
      have hS := HC.out.trans (Tom.cont_round q.data.toList true f p ob.data.toList s.data.toList _ e0)
      have hH := fun w => HH.out p w hp
      have hhd : (s.data.toList.drop p).headD 0 = s[p] := by rw [e0]; rfl
      clear HC
      cases hst : Tom.starts q.data.toList (s.data.toList.drop p) with
      | true =>
        rw [hst] at hS hH
        rw [if_pos rfl] at hS
        have hsh := Tom.starts_head (by rw [size_toList]; exact hq) hst
        rw [hhd, List.length_drop, size_toList, size_toList] at hsh
        have Hp := Lib.hid hH
        have HS := Lib.hid hS
        obtain ⟨hsh1, hsh2⟩ := hsh
        clear hS hH e0 hhd
        have HT : Hid (Tom.starts q.data.toList (s.data.toList.drop p) = true) := Lib.hid hst
        clear hst hsh1
        go_wp2_with (go_at_call 45; refine (Hp.out _).mono ?_; rintro e w3 ⟨rfl, rfl⟩)
        clear Hp
        go_loop [13, 14, 15] (fun i ov kv => ∃ (k p' : Nat) (ob' : ByteArray), k ≤ 2 ∧ kv = .int .i64 k ∧ i = .int .i64 p' ∧ ov = .string ob' ∧ ob'.size ≤ p' ∧ q.size ≤ s.size - p' ∧ Hid (Tom.starts q.data.toList (s.data.toList.drop p') = true) ∧ Hid (C = Tom.fin q.data.toList true s.data.toList (2 - k) p' ob'.data.toList)) (fun _ _ kv => 2 - (intOf kv).toNat)
        case atStart => exact ⟨0, p, ob, by omega, rfl, rfl, rfl, hob, hsh2, HT, HS⟩
        case round =>
          clear HT HS hsh2 hob
          obtain ⟨k, p', ob', hk, rfl, rfl, rfl, hob', hq', HT, HF⟩ := hrel
          have hp1 : p' + 1 ≤ s.size := by omega
          have hlt' : p' < s.size := by omega
          by_cases hk2' : k < 2
          · have hH := fun w => HH.out (p' + 1) w hp1
            have g1 : (((p' + 1 : Nat) : Int)) = (p' : Int) + 1 := by omega
            rw [g1] at hH
            have e0 : s.data.toList.drop p' = s[p'] :: s.data.toList.drop (p' + 1) := List.drop_eq_getElem_cons (by rw [size_toList]; exact hlt')
            cases hs2 : Tom.starts q.data.toList (s.data.toList.drop (p' + 1)) with
            | true =>
              rw [hs2] at hH
              have hF := HF.out
              rw [show 2 - k = (2 - (k + 1)) + 1 by omega, Tom.fin_one _ _ _ _ _ hs2] at hF
              have hh1 := (Tom.starts_head (by rw [size_toList]; exact hq) HT.out).1
              have hh2 := (Tom.starts_head (by rw [size_toList]; exact hq) hs2).2
              rw [e0, List.headD_cons] at hh1
              rw [List.length_drop, size_toList, size_toList] at hh2
              rw [← hh1] at hF
              have HF2 : Hid (C = Tom.fin q.data.toList true s.data.toList (2 - (k + 1)) (p' + 1) (ob' ++ s.extract p' (p' + 1)).data.toList) := Lib.hid (by rw [app_three, ext_one s p' hlt']; exact hF)
              have HT2 := Lib.hid hs2
              have Hp := Lib.hid hH
              have he1 := ext_one_size s p' hlt'
              have hz : (ob' ++ s.extract p' (p' + 1)).size ≤ p' + 1 := by rw [ByteArray.size_append, he1]; omega
              have HZ := Lib.hid hz
              have he2 : (s.extract p' (p' + 1)).size ≤ 1 := by omega
              have hob2 : ob'.size ≤ 1099511627 := by omega
              clear hs2 hH hF hh1 e0 g1 HT HF hz he1
              have g1 : (p' : Int) ≤ (p' : Int) + 1 := by omega
              have g2 : (p' : Int) + 1 ≤ s.size := by omega
              have g3 : 0 ≤ (p' : Int) := by omega
              have g4 : ((p' : Int) + 1).toNat = p' + 1 := by omega
              go_wp2_with (go_at_call 45; refine (Hp.out _).mono ?_; rintro e w3 ⟨rfl, rfl⟩)
              go_round
              case rel => exact ⟨k + 1, p' + 1, _, by omega, by go_num, by go_num, rfl, HZ.out, by omega, HT2, HF2⟩
              case measure => simp [intOf]; omega
            | false =>
              rw [hs2] at hH
              have hF := HF.out.trans (Tom.fin_stop _ _ _ _ hs2 _)
              have HF2 := Lib.hid hF
              have Hp := Lib.hid hH
              clear hs2 hH hF e0 g1 HT HF
              go_wp2_with (go_at_call 45; refine (Hp.out _).mono ?_; rintro e w3 ⟨rfl, rfl⟩)
              refine bodyPost_ret (v := .tuple #[.string ob', .int .i64 ((p' : Int) + q.size), .int .i64 (-1)]) (by simp [results, Tryd.results46, go_sem]) rfl ?_
              rw [HF2.out]
              exact retX_ok rfl (by rw [size_toList]; omega)
          · have hF := HF.out
            obtain rfl : k = 2 := by omega
            have HF2 : Hid (C = .ok ob'.data.toList (p' + q.data.toList.length)) := Lib.hid hF
            clear hF HF HT
            go_wp2
            refine bodyPost_ret (v := .tuple #[.string ob', .int .i64 ((p' : Int) + q.size), .int .i64 (-1)]) (by simp [results, Tryd.results46, go_sem]) rfl ?_
            rw [HF2.out]
            exact retX_ok rfl (by rw [size_toList]; omega)
      | false =>
        rw [hst] at hS hH
        rw [if_neg (by simp)] at hS
        have Hp := Lib.hid hH
        clear hH hst hhd
        have HK := fun w => rcontrol_any s[p] w
        have hL := fun w => HL.out p w hp
        have hle := lineEnd_le (s.data.toList.drop p)
        rw [List.length_drop, size_toList] at hle
        generalize Tom.lineEnd (s.data.toList.drop p) = kl at *
        by_cases hkl : 0 < kl
        · rw [if_pos (by simp [hkl])] at hS
          have HS : Hid (C = Tom.contLoop q.data.toList true f (p + kl) (ob ++ ⟨#[10]⟩).data.toList (s.data.toList.drop (p + kl))) := Lib.hid (by rw [app_three]; exact hS)
          have Hl := Lib.hid hL
          have hkl2 : 0 < (kl : Int) := by omega
          have hz : (ob ++ ⟨#[10]⟩ : ByteArray).size ≤ p + kl := by rw [ByteArray.size_append]; show ob.size + 1 ≤ _; omega
          have HZ := Lib.hid hz
          clear hS hL hkl HK e0 hz
          go_wp2_with (first
            | (go_at_call 45; refine (Hp.out _).mono ?_; rintro e w3 ⟨rfl, rfl⟩)
            | (go_at_call 24; refine (Hl.out _).mono ?_; rintro e w3 ⟨rfl, rfl⟩))
          go_round
          case rel => exact ⟨p + kl, f, _, by omega, by go_num, rfl, HZ.out, by omega, HS⟩
          case measure => simp [intOf]; omega
        · obtain rfl : kl = 0 := by omega
          rw [if_neg (by simp)] at hS
          have Hl := Lib.hid hL
          clear hL hkl hle
          cases hct : Tom.control s[p] with
          | true =>
            rw [hct] at hS HK
            rw [if_pos rfl] at hS
            have HS := Lib.hid hS
            have HK := Lib.hid HK
            clear hS hct e0
            go_wp2_with (first
                | (go_at_call 45; refine (Hp.out _).mono ?_; rintro e w3 ⟨rfl, rfl⟩)
                | (go_at_call 24; refine (Hl.out _).mono ?_; rintro e w3 ⟨rfl, rfl⟩)
                | (go_at_call 25; refine (HK.out _).mono ?_; rintro e w3 ⟨rfl, rfl⟩))
            refine bodyPost_ret (v := .tuple #[.string ⟨#[]⟩, .int .i64 0, .int .i64 (p : Int)]) (by simp [results, Tryd.results46, go_sem]) rfl ?_
            rw [HS.out]
            exact retX_bad
          | false =>
            rw [hct] at hS HK
            rw [if_neg (by simp), hh, beq92] at hS
            have HK := Lib.hid HK
            have he1 := ext_one_size s p hlt
            have hz : (ob ++ s.extract p (p + 1)).size ≤ p + 1 := by rw [ByteArray.size_append, he1]; omega
            have HZ := Lib.hid hz
            have he2 : (s.extract p (p + 1)).size ≤ 1 := by omega
            have hob2 : ob.size ≤ 1099511627 := by omega
            clear hct hz he1
            have hF := fun w => rfolded_any s p w hlt (by omega)
            have hE := fun w => rescape_any s p w hlt (by omega)
            have hfl := Tom.folded_le (s.data.toList.drop p) (by rw [e0]; simp)
            rw [List.length_drop, size_toList] at hfl
            have heb := Tom.escape_bd (s.data.toList.drop p)
            rw [List.length_drop, size_toList] at heb
            generalize Tom.folded (s.data.toList.drop p) = fo at *
            generalize Tom.escape (s.data.toList.drop p) = eo at *
            cases h92 : ((s[p].toNat : Int) == 92) with
            | true =>
              rw [h92] at hS
              rw [if_pos (show (true && true) = true from rfl)] at hS
              have HF := Lib.hid hF
              clear hF e0
              by_cases hfo : 0 < fo
              · rw [if_pos (by simp [hfo])] at hS
                have HS := Lib.hid hS
                have hfo2 : 0 < (fo : Int) := by omega
                clear hS hE heb hfo
                go_wp2_with (first
                  | (go_at_call 45; refine (Hp.out _).mono ?_; rintro e w3 ⟨rfl, rfl⟩)
                  | (go_at_call 24; refine (Hl.out _).mono ?_; rintro e w3 ⟨rfl, rfl⟩)
                  | (go_at_call 25; refine (HK.out _).mono ?_; rintro e w3 ⟨rfl, rfl⟩)
                  | (go_at_call 73; refine (HF.out _).mono ?_; rintro e w3 ⟨rfl, rfl⟩))
                go_round
                case rel => exact ⟨p + fo, f, ob, by omega, by go_num, rfl, by omega, by omega, HS⟩
                case measure => simp [intOf]; omega
              obtain rfl : fo = 0 := by omega
              rw [if_neg (by simp)] at hS
              clear hfo hfl
              cases eo with
              | none =>
                have HS : Hid (C = .bad p) := Lib.hid hS
                have HE : Hid (∀ w : World, Calls Tryd.prog 74 #[.string s, .int .i64 p] w fun e w' => e = .returned (.tuple #[.string ⟨#[]⟩, .int .i64 0]) ∧ w = w') := Lib.hid hE
                clear hS hE heb
                go_wp2_with (first
                  | (go_at_call 45; refine (Hp.out _).mono ?_; rintro e w3 ⟨rfl, rfl⟩)
                  | (go_at_call 24; refine (Hl.out _).mono ?_; rintro e w3 ⟨rfl, rfl⟩)
                  | (go_at_call 25; refine (HK.out _).mono ?_; rintro e w3 ⟨rfl, rfl⟩)
                  | (go_at_call 73; refine (HF.out _).mono ?_; rintro e w3 ⟨rfl, rfl⟩)
                  | (go_at_call 74; refine (HE.out _).mono ?_; rintro e w3 ⟨rfl, rfl⟩))
                refine bodyPost_ret (v := .tuple #[.string ⟨#[]⟩, .int .i64 0, .int .i64 (p : Int)]) (by simp [results, Tryd.results46, go_sem]) rfl ?_
                rw [HS.out]
                exact retX_bad
              | some tn =>
                obtain ⟨t, n⟩ := tn
                obtain ⟨b1, b2, b3⟩ := heb t n rfl
                obtain ⟨tb, htb⟩ : ∃ tb : ByteArray, tb = ⟨t.toArray⟩ := ⟨_, rfl⟩
                have htl : tb.data.toList = t := by rw [htb]
                have hts : tb.size ≤ n := by rw [← size_toList, htl]; exact b3
                have HS : Hid (C = Tom.contLoop q.data.toList true f (p + n) (ob ++ tb).data.toList (s.data.toList.drop (p + n))) := Lib.hid (by rw [app_three, htl]; exact hS)
                have HE : Hid (∀ w : World, Calls Tryd.prog 74 #[.string s, .int .i64 p] w fun e w' => e = .returned (.tuple #[.string tb, .int .i64 (n : Int)]) ∧ w = w') := Lib.hid (by rw [htb]; exact hE)
                have hz2 : (ob ++ tb).size ≤ p + n := by rw [ByteArray.size_append]; omega
                have HZ2 := Lib.hid hz2
                have hn0 : ((n : Int) == 0) = false := by rw [beq_eq_false_iff_ne]; omega
                have hts2 : tb.size ≤ 1099511627 := by omega
                clear hS hE heb htb htl hz2 b3
                go_wp2_with (first
                  | (go_at_call 45; refine (Hp.out _).mono ?_; rintro e w3 ⟨rfl, rfl⟩)
                  | (go_at_call 24; refine (Hl.out _).mono ?_; rintro e w3 ⟨rfl, rfl⟩)
                  | (go_at_call 25; refine (HK.out _).mono ?_; rintro e w3 ⟨rfl, rfl⟩)
                  | (go_at_call 73; refine (HF.out _).mono ?_; rintro e w3 ⟨rfl, rfl⟩)
                  | (go_at_call 74; refine (HE.out _).mono ?_; rintro e w3 ⟨rfl, rfl⟩))
                go_round
                case rel => exact ⟨p + n, f, _, by omega, by go_num, rfl, HZ2.out, by omega, HS⟩
                case measure => simp [intOf]; omega
            | false =>
              rw [h92] at hS
              rw [if_neg (by simp)] at hS
              have HS : Hid (C = Tom.contLoop q.data.toList true f (p + 1) (ob ++ s.extract p (p + 1)).data.toList (s.data.toList.drop (p + 1))) := Lib.hid (by rw [app_three, ext_one s p hlt]; exact hS)
              clear hS e0
              have g1 : (p : Int) ≤ (p : Int) + 1 := by omega
              have g2 : (p : Int) + 1 ≤ s.size := by omega
              have g3 : 0 ≤ (p : Int) := by omega
              have g4 : ((p : Int) + 1).toNat = p + 1 := by omega
              go_wp2_with (first
                | (go_at_call 45; refine (Hp.out _).mono ?_; rintro e w3 ⟨rfl, rfl⟩)
                | (go_at_call 24; refine (Hl.out _).mono ?_; rintro e w3 ⟨rfl, rfl⟩)
                | (go_at_call 25; refine (HK.out _).mono ?_; rintro e w3 ⟨rfl, rfl⟩))
              go_round
              case rel => exact ⟨p + 1, f, _, by omega, by go_num, rfl, HZ.out, by omega, HS⟩
              case measure => simp [intOf]; omega
    · have hS := HC.out
      rw [List.drop_of_length_le (by rw [size_toList]; omega)] at hS
      have hS2 : C = .open_ := hS.trans (match f with | 0 => rfl | _ + 1 => rfl)
      have HS := Lib.hid hS2
      clear hS hS2 HC
      go_wp2
      refine bodyPost_ret (v := .tuple #[.string ⟨#[]⟩, .int .i64 0, .int .i64 (a : Int)]) (by simp [results, Tryd.results46, go_sem]) rfl ?_
      rw [HS.out]
      exact retX_open
end Go.Proofs.YtdhbljbfjdlcdaaDoor
