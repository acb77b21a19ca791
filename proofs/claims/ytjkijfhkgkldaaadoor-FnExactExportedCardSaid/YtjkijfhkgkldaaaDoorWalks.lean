/- What is proved here: the functions that laws.FnExactExported reaches, each called once by its contract, answer as the tables of package unicode say; the law returns true. No condition but that the four listed tables lie as the row lists them. -/
import Derived.Test.YtjkijfhkgkldaaaDoorShelf
import Derived.Shelf.Unicode.PredsPay
import Derived.WalkKit
import Derived.WalkLawsBesides
import Derived.Lib.OthersKept
namespace Go.Proofs.YtjkijfhkgkldaaaDoor
open Go.RowKit Go.Lib

/-- The four tables, as the program lays them. -/
structure Tabs (w : World) : Prop where
  pr : Lib.TabIs Tryd.prog w "unicode.properties" .u8 Lib.propertiesTab
  up : RVar 1 upperT w
  u8 : Lib.Utf8Tabs 2 3 w

theorem Tabs.below {w w' : World} (h : Tabs w) (hb : Below w.heap.size w w') : Tabs w' :=
  ⟨TabIs_below (g := 0) (by kernel_rfl) h.pr hb, RVar_below h.up hb, Utf8Tabs_below h.u8 hb⟩

theorem isUpper (r : Int) (w : World) (hlo : -2147483648 ≤ r) (hhi : r ≤ 2147483647) (ht : Tabs w) :
    Calls Tryd.prog 7 #[.int .i32 r] w fun e w' => e = .returned (.bool (isUpperU r)) ∧ Below w.heap.size w w' :=
  Tryd.unicode_IsUpper_any upperT r w hlo hhi ht.pr ht.up upperT_ok

theorem decode_bd (s : ByteArray) : -2147483648 ≤ ((Lib.decodeGo s).1 : Int) ∧ ((Lib.decodeGo s).1 : Int) ≤ 2147483647 := by
  unfold Lib.decodeGo
  split
  · simp
  · rw [Lib.decode_at]
    have := decodeN_rune_le (s.size - 0) (s.get! 0).toNat (s.get! (0 + 1)).toNat (s.get! (0 + 2)).toNat (s.get! (0 + 3)).toNat (UInt8.toNat_lt _)
    omega

theorem below_iter (w : World) (s : ByteArray) (pos : Nat) : Below w.heap.size w (w.iter s pos) :=
  (Below.refl _ w).alloc (Nat.le_refl _) (.stringIter s pos)

theorem tokenExported (s : ByteArray) (w : World) (ht : Tabs w) :
    Calls Tryd.prog 8 #[.string s] w fun e w' => e = .returned (.bool (isUpperU (Lib.decodeGo s).1)) ∧ Below w.heap.size w w' := by
  have hd := decode_bd s
  go_enter Tryd.func8, Tryd.ntmps8
  go_wp2_with fail
  refine (Tryd.utf8_DecodeRuneInString s _ ht.u8).mono ?_
  rintro e w1 ⟨rfl, hb1⟩
  go_wp2_with fail
  refine (isUpper _ _ hd.1 hd.2 (ht.below hb1)).mono ?_
  rintro e w2 ⟨rfl, hb2⟩
  go_wp2_with fail
  go_ret
  exact ⟨rfl, hb1.trans (hb2.mono hb1.size)⟩

theorem astExported (s : ByteArray) (w : World) (ht : Tabs w) :
    Calls Tryd.prog 6 #[.string s] w fun e w' => e = .returned (.bool (isUpperU (Lib.decodeGo s).1)) ∧ Below w.heap.size w w' := by
  go_enter Tryd.func6, Tryd.ntmps6
  go_wp2_with fail
  refine (tokenExported s _ ht).mono ?_
  rintro e w1 ⟨rfl, hb1⟩
  go_wp2_with fail
  go_ret
  exact ⟨rfl, hb1⟩

theorem implExported (s : ByteArray) (w : World) (ht : Tabs w) :
    Calls Tryd.prog 4 #[.string s] w fun e w' => e = .returned (.bool (isUpperU (Lib.decodeGo s).1)) ∧ Below w.heap.size w w' := by
  go_enter Tryd.func4, Tryd.ntmps4
  go_wp2_with fail
  refine (astExported s _ ht).mono ?_
  rintro e w1 ⟨rfl, hb1⟩
  go_wp2_with fail
  go_ret
  exact ⟨rfl, hb1⟩

theorem specExported (s : ByteArray) (w : World) (ht : Tabs w) :
    Calls Tryd.prog 5 #[.string s] w fun e w' => e = .returned (.bool (isUpperU (Lib.decodeGo s).1)) ∧ Below w.heap.size w w' := by
  by_cases hz : 0 < s.size
  · have hd := decode_bd s
    have hdec : Lib.decodeGo s = Utf8.decode s 0 := by unfold Lib.decodeGo; rw [if_neg (by omega)]
    rw [hdec] at hd ⊢
    go_enter Tryd.func5, Tryd.ntmps5
    go_wp2_with fail
    refine wp_loop_rounds 1 ?_
    rw [rounds_succ]
    have hnx : ∀ ty, (Instr.next (.pointer (some ⟨w.heap.size, 0, none⟩)) true ty).run Tryd.prog (w.iter s 0) = _ := fun ty => run_next_any w s 0 ty hz
    go_wp2_with fail
    refine (isUpper _ _ hd.1 hd.2 (ht.below (below_iter w s _))).mono ?_
    rintro e w2 ⟨rfl, hb2⟩
    go_wp2_with fail
    go_ret
    exact ⟨rfl, (below_iter w s _).trans (hb2.mono (below_iter w s _).size)⟩
  · have hdec : Lib.decodeGo s = (65533, 0) := by unfold Lib.decodeGo; rw [if_pos (by omega)]
    have hup : isUpperU (65533 : Nat) = false := by kernel_rfl
    rw [hdec, hup]
    go_enter Tryd.func5, Tryd.ntmps5
    go_wp2_with fail
    refine wp_loop_rounds 1 ?_
    rw [rounds_succ]
    have hnx : ∀ ty, (Instr.next (.pointer (some ⟨w.heap.size, 0, none⟩)) true ty).run Tryd.prog (w.iter s 0) = _ := fun ty => run_next_end w s 0 ty hz
    go_wp2_with fail
    go_ret
    exact ⟨rfl, below_iter w s _⟩

/-- The law, at every string. -/
theorem law (s : ByteArray) (w : World) (ht : Tabs w) :
    Calls Tryd.prog 3 #[.string s] w fun e w' => e = .returned (.bool true) ∧ Below w.heap.size w w' := by
  by_cases hs : (s.size : Int) > 2147483647
  · go_enter Tryd.func3, Tryd.ntmps3
    go_wp2_with fail
    go_ret
    exact ⟨rfl, Below.refl _ _⟩
  · go_enter Tryd.func3, Tryd.ntmps3
    go_wp2_with fail
    refine (implExported s _ ht).mono ?_
    rintro e w1 ⟨rfl, hb1⟩
    go_wp2_with fail
    refine (specExported s _ (ht.below hb1)).mono ?_
    rintro e w2 ⟨rfl, hb2⟩
    go_wp2_with fail
    go_ret
    exact ⟨by simp, hb1.trans (hb2.mono hb1.size)⟩
end Go.Proofs.YtjkijfhkgkldaaaDoor
