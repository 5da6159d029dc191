/-
  tomllex.token at strings; token_any.
-/
import Derived.Test.YtdhbljbfjdlcdaaDoorTomN
import Derived.Test.YtdhbljbfjdlcdaaDoorKit9
namespace Go.Proofs.YtdhbljbfjdlcdaaDoor
open Go.RowKit
def tokOf (k : Nat) : Tom.Cont → Tom.Tok
  | .ok t n => .ok k n t
  | .bad n => .bad n
  | .open_ => .bad 0
theorem retT_cont {w w' : World} (k : Nat) (C : Tom.Cont) (hb : Below w.heap.size w w') :
    RetT w (tokOf k C) (.returned (.tuple #[.agg #[.int .i64 (k : Int), .int .i64 0, .int .i64 (contOf C).2.1, .string (contOf C).1], .int .i64 (contOf C).2.2])) w' := by
  cases C with
  | ok t n => exact RetT.ok rfl rfl rfl hb
  | bad n => exact RetT.bad rfl hb
  | open_ => exact RetT.bad rfl hb
theorem tokRow : (Tryd.prog.info? 30).map (·.size) = some 4 := by kernel_rfl
set_option maxRecDepth 100000 in
set_option maxHeartbeats 4000000 in
theorem token_d3 (s : ByteArray) (w : World) (h1 : 0 < s.size) (hs : s.size ≤ 1099511627) (hl : 0 = Tom.lineEnd s.data.toList) (h0 : s[0] = 34) (hq : Tom.starts [34, 34, 34] s.data.toList = true) :
    Calls Tryd.prog 22 #[.string s] w (RetT w (tokOf 6 (Tom.content [34, 34, 34] s.data.toList))) := by
  have HL := lineEnd_any s
  rw [← hl] at HL
  have HL := Lib.hid HL
  have HI : Hid (∀ w : World, Calls Tryd.prog 39 #[.string ⟨#[91, 93, 123, 125, 44, 61, 46]⟩, .int .u8 34] w fun e w' => e = .returned (.int .i64 (-1)) ∧ w' = w) := Lib.hid (fun w => Tryd.strings_IndexByte ⟨#[91, 93, 123, 125, 44, 61, 46]⟩ 34 w)
  have HB : Hid (∀ w : World, Calls Tryd.prog 40 #[.int .u8 34] w fun e w' => e = .returned (.bool false) ∧ w = w') := Lib.hid (fun w => bare_any 34 w)
  have n0 : ((s[0].toNat : Int) = 34) := by rw [h0]; rfl
  have hE : s.extract 0 1 = ⟨#[34]⟩ := by
    rw [ext0]
    have a0 : s.data.toList.drop 0 = s[0] :: s.data.toList.drop 1 := List.drop_eq_getElem_cons (by rw [size_toList]; exact h1)
    rw [List.drop_zero, h0] at a0
    conv => lhs; rw [a0]
    rfl
  have HR := fun w => repeat3_any 34 w
  rw [← hE] at HR
  have HR := Lib.hid HR
  have HP := fun w => Tryd.strings_HasPrefix s ⟨#[34, 34, 34]⟩ w
  rw [starts_pre, show (⟨#[34, 34, 34]⟩ : ByteArray).data.toList = [34, 34, 34] from rfl, hq] at HP
  have HP := Lib.hid HP
  have HC := fun w => content_d3 s w (by have := Tom.starts_len hq; rw [size_toList] at this; exact this) hs
  obtain ⟨C, hC⟩ : ∃ C, C = Tom.content [34, 34, 34] s.data.toList := ⟨_, rfl⟩
  rw [← hC] at HC ⊢
  have HR2 := fun (w' : World) (hb : Below w.heap.size w w') => retT_cont 6 C hb
  have HC : ∀ w : World, Calls Tryd.prog 42 #[.string s, .string ⟨#[34, 34, 34]⟩] w fun e w' => e = .returned (.tuple #[.string (contOf C).1, .int .i64 (contOf C).2.1, .int .i64 (contOf C).2.2]) ∧ Below w.heap.size w w' := HC
  obtain ⟨⟨tx, ln, bd⟩, hco⟩ : ∃ x, x = contOf C := ⟨_, rfl⟩
  rw [← hco] at HC HR2
  have HC : Hid (∀ w : World, Calls Tryd.prog 42 #[.string s, .string ⟨#[34, 34, 34]⟩] w fun e w' => e = .returned (.tuple #[.string tx, .int .i64 ln, .int .i64 bd]) ∧ Below w.heap.size w w') := Lib.hid HC
  have HR2 : Hid (∀ w' : World, Below w.heap.size w w' → RetT w (tokOf 6 C) (.returned (.tuple #[.agg #[.int .i64 6, .int .i64 0, .int .i64 ln, .string tx], .int .i64 bd])) w') := Lib.hid (fun w' hb => HR2 w' hb)
  clear hl h0 hE hC hco hq
  go_enter Tryd.func22, Tryd.ntmps22
  go_wp2_with (first
    | (go_at_call 20; refine ((HL.out _).mono ?_); rintro e w3 ⟨rfl, rfl⟩)
    | (go_at_call 39; refine ((HI.out _).mono ?_); rintro e w3 ⟨rfl, rfl⟩)
    | (go_at_call 40; refine ((HB.out _).mono ?_); rintro e w3 ⟨rfl, rfl⟩))
  go_quiet (fail)
  have hB1 : Blk ((w.alloc (.cells #[.int .i64 0, .int .i64 0, .int .i64 0, .string ⟨#[]⟩] 30)).drewN nq) w.heap.size 30 #[.int .i64 0, .int .i64 0, .int .i64 0, .string ⟨#[]⟩] := Blk.new w _ _
  have hW1 : Below w.heap.size w ((w.alloc (.cells #[.int .i64 0, .int .i64 0, .int .i64 0, .string ⟨#[]⟩] 30)).drewN nq) := (below_alloc _).trans (drewN_below (Below.refl _ _) nq)
  generalize (w.alloc (.cells #[.int .i64 0, .int .i64 0, .int .i64 0, .string ⟨#[]⟩] 30)).drewN nq = w1 at *
  go_wp2_with (first
    | (go_at_call 41; refine ((HR.out _).mono ?_); rintro e w3 ⟨rfl, hb3⟩)
    | (go_at_call 38; refine ((HP.out _).mono ?_); rintro e w4 ⟨rfl, rfl⟩)
    | (go_at_call 42; refine ((HC.out _).mono ?_); rintro e w4 ⟨rfl, hb4⟩)
    | ((with_reducible refine wpList_store_four rfl 30 (.tmp 2) (.tmp 67) rfl rfl w.heap.size (.int .i64 0) (.int .i64 0) (.int .i64 0) (.string ⟨#[]⟩) (.int .i64 6) (.int .i64 0) (.int .i64 ln) (.string tx) 30 tokRow (one_int _ _) (one_int _ _) (one_int _ _) (one_str _) ?_ ?_ ?_ ?_); exact rfl; exact rfl; exact (hB1.below hb3 hB1.lt).below hb4 (hB1.below hb3 hB1.lt).lt))
  have hB4 := (hB1.below hb3 hB1.lt).below hb4 (hB1.below hb3 hB1.lt).lt
  exact bodyPost_ret (results_cell_tmp rfl _ _ w.heap.size 30 #[.int .i64 6, .int .i64 0, .int .i64 ln, .string tx] _ (.int .i64 bd) rfl rfl (hB4.row _) Tryd.underlying30 rfl tokRow) rfl (HR2.out _ (setRow_below ((hW1.trans (hb3.mono hW1.size)).trans (hb4.mono (Nat.le_trans hW1.size hb3.size))) (Nat.le_refl _) _))
set_option maxRecDepth 100000 in
set_option maxHeartbeats 4000000 in
theorem token_d1 (s : ByteArray) (w : World) (h1 : 0 < s.size) (hs : s.size ≤ 1099511627) (hl : 0 = Tom.lineEnd s.data.toList) (h0 : s[0] = 34) (hq : Tom.starts [34, 34, 34] s.data.toList = false) :
    Calls Tryd.prog 22 #[.string s] w (RetT w (tokOf 4 (Tom.content [34] s.data.toList))) := by
  have HL := lineEnd_any s
  rw [← hl] at HL
  have HL := Lib.hid HL
  have HI : Hid (∀ w : World, Calls Tryd.prog 39 #[.string ⟨#[91, 93, 123, 125, 44, 61, 46]⟩, .int .u8 34] w fun e w' => e = .returned (.int .i64 (-1)) ∧ w' = w) := Lib.hid (fun w => Tryd.strings_IndexByte ⟨#[91, 93, 123, 125, 44, 61, 46]⟩ 34 w)
  have HB : Hid (∀ w : World, Calls Tryd.prog 40 #[.int .u8 34] w fun e w' => e = .returned (.bool false) ∧ w = w') := Lib.hid (fun w => bare_any 34 w)
  have n0 : ((s[0].toNat : Int) = 34) := by rw [h0]; rfl
  have hE : s.extract 0 1 = ⟨#[34]⟩ := by
    rw [ext0]
    have a0 : s.data.toList.drop 0 = s[0] :: s.data.toList.drop 1 := List.drop_eq_getElem_cons (by rw [size_toList]; exact h1)
    rw [List.drop_zero, h0] at a0
    conv => lhs; rw [a0]
    rfl
  have HR := fun w => repeat3_any 34 w
  rw [← hE] at HR
  have HR := Lib.hid HR
  have HP := fun w => Tryd.strings_HasPrefix s ⟨#[34, 34, 34]⟩ w
  rw [starts_pre, show (⟨#[34, 34, 34]⟩ : ByteArray).data.toList = [34, 34, 34] from rfl, hq] at HP
  have HP := Lib.hid HP
  have HC := fun w => content_d1 s w h1 hs
  rw [← hE] at HC
  obtain ⟨C, hC⟩ : ∃ C, C = Tom.content [34] s.data.toList := ⟨_, rfl⟩
  rw [← hC] at HC ⊢
  have HR2 := fun (w' : World) (hb : Below w.heap.size w w') => retT_cont 4 C hb
  have HC : ∀ w : World, Calls Tryd.prog 42 #[.string s, .string (s.extract 0 1)] w fun e w' => e = .returned (.tuple #[.string (contOf C).1, .int .i64 (contOf C).2.1, .int .i64 (contOf C).2.2]) ∧ Below w.heap.size w w' := HC
  obtain ⟨⟨tx, ln, bd⟩, hco⟩ : ∃ x, x = contOf C := ⟨_, rfl⟩
  rw [← hco] at HC HR2
  have HC : Hid (∀ w : World, Calls Tryd.prog 42 #[.string s, .string (s.extract 0 1)] w fun e w' => e = .returned (.tuple #[.string tx, .int .i64 ln, .int .i64 bd]) ∧ Below w.heap.size w w') := Lib.hid HC
  have HR2 : Hid (∀ w' : World, Below w.heap.size w w' → RetT w (tokOf 4 C) (.returned (.tuple #[.agg #[.int .i64 4, .int .i64 0, .int .i64 ln, .string tx], .int .i64 bd])) w') := Lib.hid (fun w' hb => HR2 w' hb)
  clear hl h0 hE hC hco hq
  go_enter Tryd.func22, Tryd.ntmps22
  go_wp2_with (first
    | (go_at_call 20; refine ((HL.out _).mono ?_); rintro e w3 ⟨rfl, rfl⟩)
    | (go_at_call 39; refine ((HI.out _).mono ?_); rintro e w3 ⟨rfl, rfl⟩)
    | (go_at_call 40; refine ((HB.out _).mono ?_); rintro e w3 ⟨rfl, rfl⟩))
  go_quiet (fail)
  have hB1 : Blk ((w.alloc (.cells #[.int .i64 0, .int .i64 0, .int .i64 0, .string ⟨#[]⟩] 30)).drewN nq) w.heap.size 30 #[.int .i64 0, .int .i64 0, .int .i64 0, .string ⟨#[]⟩] := Blk.new w _ _
  have hW1 : Below w.heap.size w ((w.alloc (.cells #[.int .i64 0, .int .i64 0, .int .i64 0, .string ⟨#[]⟩] 30)).drewN nq) := (below_alloc _).trans (drewN_below (Below.refl _ _) nq)
  generalize (w.alloc (.cells #[.int .i64 0, .int .i64 0, .int .i64 0, .string ⟨#[]⟩] 30)).drewN nq = w1 at *
  go_wp2_with (first
    | (go_at_call 41; refine ((HR.out _).mono ?_); rintro e w3 ⟨rfl, hb3⟩)
    | (go_at_call 38; refine ((HP.out _).mono ?_); rintro e w4 ⟨rfl, rfl⟩)
    | (go_at_call 42; refine ((HC.out _).mono ?_); rintro e w4 ⟨rfl, hb4⟩)
    | ((with_reducible refine wpList_store_four rfl 30 (.tmp 2) (.tmp 67) rfl rfl w.heap.size (.int .i64 0) (.int .i64 0) (.int .i64 0) (.string ⟨#[]⟩) (.int .i64 4) (.int .i64 0) (.int .i64 ln) (.string tx) 30 tokRow (one_int _ _) (one_int _ _) (one_int _ _) (one_str _) ?_ ?_ ?_ ?_); exact rfl; exact rfl; exact (hB1.below hb3 hB1.lt).below hb4 (hB1.below hb3 hB1.lt).lt))
  have hB4 := (hB1.below hb3 hB1.lt).below hb4 (hB1.below hb3 hB1.lt).lt
  exact bodyPost_ret (results_cell_tmp rfl _ _ w.heap.size 30 #[.int .i64 4, .int .i64 0, .int .i64 ln, .string tx] _ (.int .i64 bd) rfl rfl (hB4.row _) Tryd.underlying30 rfl tokRow) rfl (HR2.out _ (setRow_below ((hW1.trans (hb3.mono hW1.size)).trans (hb4.mono (Nat.le_trans hW1.size hb3.size))) (Nat.le_refl _) _))
set_option maxRecDepth 100000 in
set_option maxHeartbeats 4000000 in
theorem token_s3 (s : ByteArray) (w : World) (h1 : 0 < s.size) (hs : s.size ≤ 1099511627) (hl : 0 = Tom.lineEnd s.data.toList) (h0 : s[0] = 39) (hq : Tom.starts [39, 39, 39] s.data.toList = true) :
    Calls Tryd.prog 22 #[.string s] w (RetT w (tokOf 7 (Tom.content [39, 39, 39] s.data.toList))) := by
  have HL := lineEnd_any s
  rw [← hl] at HL
  have HL := Lib.hid HL
  have HI : Hid (∀ w : World, Calls Tryd.prog 39 #[.string ⟨#[91, 93, 123, 125, 44, 61, 46]⟩, .int .u8 39] w fun e w' => e = .returned (.int .i64 (-1)) ∧ w' = w) := Lib.hid (fun w => Tryd.strings_IndexByte ⟨#[91, 93, 123, 125, 44, 61, 46]⟩ 39 w)
  have HB : Hid (∀ w : World, Calls Tryd.prog 40 #[.int .u8 39] w fun e w' => e = .returned (.bool false) ∧ w = w') := Lib.hid (fun w => bare_any 39 w)
  have n0 : ((s[0].toNat : Int) = 39) := by rw [h0]; rfl
  have hE : s.extract 0 1 = ⟨#[39]⟩ := by
    rw [ext0]
    have a0 : s.data.toList.drop 0 = s[0] :: s.data.toList.drop 1 := List.drop_eq_getElem_cons (by rw [size_toList]; exact h1)
    rw [List.drop_zero, h0] at a0
    conv => lhs; rw [a0]
    rfl
  have HR := fun w => repeat3_any 39 w
  rw [← hE] at HR
  have HR := Lib.hid HR
  have HP := fun w => Tryd.strings_HasPrefix s ⟨#[39, 39, 39]⟩ w
  rw [starts_pre, show (⟨#[39, 39, 39]⟩ : ByteArray).data.toList = [39, 39, 39] from rfl, hq] at HP
  have HP := Lib.hid HP
  have HC := fun w => content_s3 s w (by have := Tom.starts_len hq; rw [size_toList] at this; exact this) hs
  obtain ⟨C, hC⟩ : ∃ C, C = Tom.content [39, 39, 39] s.data.toList := ⟨_, rfl⟩
  rw [← hC] at HC ⊢
  have HR2 := fun (w' : World) (hb : Below w.heap.size w w') => retT_cont 7 C hb
  have HC : ∀ w : World, Calls Tryd.prog 42 #[.string s, .string ⟨#[39, 39, 39]⟩] w fun e w' => e = .returned (.tuple #[.string (contOf C).1, .int .i64 (contOf C).2.1, .int .i64 (contOf C).2.2]) ∧ Below w.heap.size w w' := HC
  obtain ⟨⟨tx, ln, bd⟩, hco⟩ : ∃ x, x = contOf C := ⟨_, rfl⟩
  rw [← hco] at HC HR2
  have HC : Hid (∀ w : World, Calls Tryd.prog 42 #[.string s, .string ⟨#[39, 39, 39]⟩] w fun e w' => e = .returned (.tuple #[.string tx, .int .i64 ln, .int .i64 bd]) ∧ Below w.heap.size w w') := Lib.hid HC
  have HR2 : Hid (∀ w' : World, Below w.heap.size w w' → RetT w (tokOf 7 C) (.returned (.tuple #[.agg #[.int .i64 7, .int .i64 0, .int .i64 ln, .string tx], .int .i64 bd])) w') := Lib.hid (fun w' hb => HR2 w' hb)
  clear hl h0 hE hC hco hq
  go_enter Tryd.func22, Tryd.ntmps22
  go_wp2_with (first
    | (go_at_call 20; refine ((HL.out _).mono ?_); rintro e w3 ⟨rfl, rfl⟩)
    | (go_at_call 39; refine ((HI.out _).mono ?_); rintro e w3 ⟨rfl, rfl⟩)
    | (go_at_call 40; refine ((HB.out _).mono ?_); rintro e w3 ⟨rfl, rfl⟩))
  go_quiet (fail)
  have hB1 : Blk ((w.alloc (.cells #[.int .i64 0, .int .i64 0, .int .i64 0, .string ⟨#[]⟩] 30)).drewN nq) w.heap.size 30 #[.int .i64 0, .int .i64 0, .int .i64 0, .string ⟨#[]⟩] := Blk.new w _ _
  have hW1 : Below w.heap.size w ((w.alloc (.cells #[.int .i64 0, .int .i64 0, .int .i64 0, .string ⟨#[]⟩] 30)).drewN nq) := (below_alloc _).trans (drewN_below (Below.refl _ _) nq)
  generalize (w.alloc (.cells #[.int .i64 0, .int .i64 0, .int .i64 0, .string ⟨#[]⟩] 30)).drewN nq = w1 at *
  go_wp2_with (first
    | (go_at_call 41; refine ((HR.out _).mono ?_); rintro e w3 ⟨rfl, hb3⟩)
    | (go_at_call 38; refine ((HP.out _).mono ?_); rintro e w4 ⟨rfl, rfl⟩)
    | (go_at_call 42; refine ((HC.out _).mono ?_); rintro e w4 ⟨rfl, hb4⟩)
    | ((with_reducible refine wpList_store_four rfl 30 (.tmp 2) (.tmp 67) rfl rfl w.heap.size (.int .i64 0) (.int .i64 0) (.int .i64 0) (.string ⟨#[]⟩) (.int .i64 7) (.int .i64 0) (.int .i64 ln) (.string tx) 30 tokRow (one_int _ _) (one_int _ _) (one_int _ _) (one_str _) ?_ ?_ ?_ ?_); exact rfl; exact rfl; exact (hB1.below hb3 hB1.lt).below hb4 (hB1.below hb3 hB1.lt).lt))
  have hB4 := (hB1.below hb3 hB1.lt).below hb4 (hB1.below hb3 hB1.lt).lt
  exact bodyPost_ret (results_cell_tmp rfl _ _ w.heap.size 30 #[.int .i64 7, .int .i64 0, .int .i64 ln, .string tx] _ (.int .i64 bd) rfl rfl (hB4.row _) Tryd.underlying30 rfl tokRow) rfl (HR2.out _ (setRow_below ((hW1.trans (hb3.mono hW1.size)).trans (hb4.mono (Nat.le_trans hW1.size hb3.size))) (Nat.le_refl _) _))
set_option maxRecDepth 100000 in
set_option maxHeartbeats 4000000 in
theorem token_s1 (s : ByteArray) (w : World) (h1 : 0 < s.size) (hs : s.size ≤ 1099511627) (hl : 0 = Tom.lineEnd s.data.toList) (h0 : s[0] = 39) (hq : Tom.starts [39, 39, 39] s.data.toList = false) :
    Calls Tryd.prog 22 #[.string s] w (RetT w (tokOf 5 (Tom.content [39] s.data.toList))) := by
  have HL := lineEnd_any s
  rw [← hl] at HL
  have HL := Lib.hid HL
  have HI : Hid (∀ w : World, Calls Tryd.prog 39 #[.string ⟨#[91, 93, 123, 125, 44, 61, 46]⟩, .int .u8 39] w fun e w' => e = .returned (.int .i64 (-1)) ∧ w' = w) := Lib.hid (fun w => Tryd.strings_IndexByte ⟨#[91, 93, 123, 125, 44, 61, 46]⟩ 39 w)
  have HB : Hid (∀ w : World, Calls Tryd.prog 40 #[.int .u8 39] w fun e w' => e = .returned (.bool false) ∧ w = w') := Lib.hid (fun w => bare_any 39 w)
  have n0 : ((s[0].toNat : Int) = 39) := by rw [h0]; rfl
  have hE : s.extract 0 1 = ⟨#[39]⟩ := by
    rw [ext0]
    have a0 : s.data.toList.drop 0 = s[0] :: s.data.toList.drop 1 := List.drop_eq_getElem_cons (by rw [size_toList]; exact h1)
    rw [List.drop_zero, h0] at a0
    conv => lhs; rw [a0]
    rfl
  have HR := fun w => repeat3_any 39 w
  rw [← hE] at HR
  have HR := Lib.hid HR
  have HP := fun w => Tryd.strings_HasPrefix s ⟨#[39, 39, 39]⟩ w
  rw [starts_pre, show (⟨#[39, 39, 39]⟩ : ByteArray).data.toList = [39, 39, 39] from rfl, hq] at HP
  have HP := Lib.hid HP
  have HC := fun w => content_s1 s w h1 hs
  rw [← hE] at HC
  obtain ⟨C, hC⟩ : ∃ C, C = Tom.content [39] s.data.toList := ⟨_, rfl⟩
  rw [← hC] at HC ⊢
  have HR2 := fun (w' : World) (hb : Below w.heap.size w w') => retT_cont 5 C hb
  have HC : ∀ w : World, Calls Tryd.prog 42 #[.string s, .string (s.extract 0 1)] w fun e w' => e = .returned (.tuple #[.string (contOf C).1, .int .i64 (contOf C).2.1, .int .i64 (contOf C).2.2]) ∧ Below w.heap.size w w' := HC
  obtain ⟨⟨tx, ln, bd⟩, hco⟩ : ∃ x, x = contOf C := ⟨_, rfl⟩
  rw [← hco] at HC HR2
  have HC : Hid (∀ w : World, Calls Tryd.prog 42 #[.string s, .string (s.extract 0 1)] w fun e w' => e = .returned (.tuple #[.string tx, .int .i64 ln, .int .i64 bd]) ∧ Below w.heap.size w w') := Lib.hid HC
  have HR2 : Hid (∀ w' : World, Below w.heap.size w w' → RetT w (tokOf 5 C) (.returned (.tuple #[.agg #[.int .i64 5, .int .i64 0, .int .i64 ln, .string tx], .int .i64 bd])) w') := Lib.hid (fun w' hb => HR2 w' hb)
  clear hl h0 hE hC hco hq
  go_enter Tryd.func22, Tryd.ntmps22
  go_wp2_with (first
    | (go_at_call 20; refine ((HL.out _).mono ?_); rintro e w3 ⟨rfl, rfl⟩)
    | (go_at_call 39; refine ((HI.out _).mono ?_); rintro e w3 ⟨rfl, rfl⟩)
    | (go_at_call 40; refine ((HB.out _).mono ?_); rintro e w3 ⟨rfl, rfl⟩))
  go_quiet (fail)
  have hB1 : Blk ((w.alloc (.cells #[.int .i64 0, .int .i64 0, .int .i64 0, .string ⟨#[]⟩] 30)).drewN nq) w.heap.size 30 #[.int .i64 0, .int .i64 0, .int .i64 0, .string ⟨#[]⟩] := Blk.new w _ _
  have hW1 : Below w.heap.size w ((w.alloc (.cells #[.int .i64 0, .int .i64 0, .int .i64 0, .string ⟨#[]⟩] 30)).drewN nq) := (below_alloc _).trans (drewN_below (Below.refl _ _) nq)
  generalize (w.alloc (.cells #[.int .i64 0, .int .i64 0, .int .i64 0, .string ⟨#[]⟩] 30)).drewN nq = w1 at *
  go_wp2_with (first
    | (go_at_call 41; refine ((HR.out _).mono ?_); rintro e w3 ⟨rfl, hb3⟩)
    | (go_at_call 38; refine ((HP.out _).mono ?_); rintro e w4 ⟨rfl, rfl⟩)
    | (go_at_call 42; refine ((HC.out _).mono ?_); rintro e w4 ⟨rfl, hb4⟩)
    | ((with_reducible refine wpList_store_four rfl 30 (.tmp 2) (.tmp 67) rfl rfl w.heap.size (.int .i64 0) (.int .i64 0) (.int .i64 0) (.string ⟨#[]⟩) (.int .i64 5) (.int .i64 0) (.int .i64 ln) (.string tx) 30 tokRow (one_int _ _) (one_int _ _) (one_int _ _) (one_str _) ?_ ?_ ?_ ?_); exact rfl; exact rfl; exact (hB1.below hb3 hB1.lt).below hb4 (hB1.below hb3 hB1.lt).lt))
  have hB4 := (hB1.below hb3 hB1.lt).below hb4 (hB1.below hb3 hB1.lt).lt
  exact bodyPost_ret (results_cell_tmp rfl _ _ w.heap.size 30 #[.int .i64 5, .int .i64 0, .int .i64 ln, .string tx] _ (.int .i64 bd) rfl rfl (hB4.row _) Tryd.underlying30 rfl tokRow) rfl (HR2.out _ (setRow_below ((hW1.trans (hb3.mono hW1.size)).trans (hb4.mono (Nat.le_trans hW1.size hb3.size))) (Nat.le_refl _) _))
theorem token_any (s : ByteArray) (w : World) (h1 : 0 < s.size) (hs : s.size ≤ 1099511627) :
    Calls Tryd.prog 22 #[.string s] w (RetT w (Tom.token s.data.toList)) := by
  have a0 : s.data.toList.drop 0 = s[0] :: s.data.toList.drop 1 := List.drop_eq_getElem_cons (by rw [size_toList]; exact h1)
  rw [List.drop_zero] at a0
  by_cases hl : 0 < Tom.lineEnd s.data.toList
  · have e : Tom.token s.data.toList = .ok 1 (Tom.lineEnd s.data.toList) [] := by unfold Tom.token; rw [if_pos hl]
    rw [e]
    exact token_line s w _ hl rfl
  · have hl0 : 0 = Tom.lineEnd s.data.toList := by omega
    have e : Tom.token s.data.toList = if ([91, 93, 123, 125, 44, 61, 46] : List UInt8).contains s[0] then .ok 2 1 [s[0]]
      else if Tom.bare s[0] then .ok 3 (Tom.run Tom.bare s.data.toList) (s.data.toList.take (Tom.run Tom.bare s.data.toList))
      else if s[0] == 34 || s[0] == 39 then
        tokOf ((if s[0] == 34 then 4 else 5) + (if Tom.starts [s[0], s[0], s[0]] s.data.toList then 2 else 0)) (Tom.content (if Tom.starts [s[0], s[0], s[0]] s.data.toList then [s[0], s[0], s[0]] else [s[0]]) s.data.toList)
      else .bad 0 := by
      unfold Tom.token
      rw [if_neg hl]
      generalize s.data.toList = l at a0
      generalize s[0] = c at a0
      obtain ⟨r, hr⟩ : ∃ r, l = c :: r := ⟨_, a0⟩
      clear a0
      subst hr
      simp only
      split
      · rfl
      · split
        · rfl
        · split
          · generalize Tom.content _ _ = C
            cases C <;> rfl
          · rfl
    rw [e]
    clear e a0
    split
    · rename_i hp
      exact token_punct s w h1 hl0 hp
    · rename_i hp
      have hp := Bool.eq_false_iff.2 hp
      split
      · rename_i hb
        exact token_bare s w h1 (by omega) hl0 hp hb
      · rename_i hb
        have hb := Bool.eq_false_iff.2 hb
        by_cases h34 : s[0] = 34
        · rw [h34]
          cases hq : Tom.starts [34, 34, 34] s.data.toList with
          | true => exact token_d3 s w h1 hs hl0 h34 hq
          | false => exact token_d1 s w h1 hs hl0 h34 hq
        · by_cases h39 : s[0] = 39
          · rw [h39]
            cases hq : Tom.starts [39, 39, 39] s.data.toList with
            | true => exact token_s3 s w h1 hs hl0 h39 hq
            | false => exact token_s1 s w h1 hs hl0 h39 hq
          · rw [if_neg (by simp [h34, h39])]
            exact token_none s w h1 hl0 hp hb h34 h39
end Go.Proofs.YtdhbljbfjdlcdaaDoor
