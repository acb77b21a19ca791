/- What is proved here: the kinds of nodes, second part. Conditions: each theorem names its own. -/
import Derived.Deep.AppendLies
import Derived.Test.YtpifflakohlglaaGreatFmtMg
import Derived.Test.YtpifflakohlglaaGreatFmtMf
import Derived.Test.YtpifflakohlglaaGreatFmtMd
set_option linter.all false
set_option linter.unusedVariables false
set_option linter.unusedSimpArgs false
/- What is proved here: list: what a function makes of each part, as one node of a kind, in new memory alone. -/
namespace Go.Proofs.YtpifflakohlglaaGreatFmt
open Go.RowKit Go.Shelf
set_option linter.unusedVariables false
set_option linter.unusedSimpArgs false
attribute [local go_sem ↓] Go.wp_at_zero Go.wp_at_succ
theorem step_callv {P : Program} {ops : Array Oper} {o : Oper} {a : Act} {w : World} {K : Act → World → Prop} {Q : Exit → Act → World → Prop} {E : Prop} (hgd : o.guard = none) (x : Operand) (g : Nat) (xs : Array Operand) (ts : Array TypeId)
    (ho : o.op = .call { callee := .value x, args := xs, argTypes := ts }) (hg : a.eval x = .func (.func g) #[] #[]) (args : Array Value) (hargs : (xs.map a.eval) = args) {post : Ending → World → Prop} (hen : Enters P g) (hc : Calls P g args w post)
    (hp : ∀ e w', post e w' → ∃ v, e = .returned v ∧ K (a.put o.dst v) w') :
    if Region.wanted o (yielded ops a.tmps) = true then Oper.wp P o a w K Q else E := by
  have hw : Region.wanted o (yielded ops a.tmps) = true := by simp [Region.wanted, hgd]
  rw [if_pos hw]
  unfold Oper.wp execOp
  have he := hen args w
  simp only [ho, resolve, hg, invoke, hargs, Deferred.ofValue, Array.empty_append, Array.append_empty, Sem.run_bind, Sem.run_pure, Result.andThen_ok, he, Oper.upon_enter]
  refine hc.mono ?_
  intro e w' h
  obtain ⟨v, rfl, hk⟩ := hp e w' h
  exact hk
/-- A row of nodes as list gives it. -/
def LsRow (w w' : World) (n : Nat) (u : Value) : Prop := (∃ L B, w.heap.size ≤ B ∧ w'.ownsRow B 24 3 u n L ∧ ∀ x ∈ L, x.oneCell' = true) ∧ (n = 0 → u = .slice none 0 0)
def LsX (C : Nat → Nat → Value → Prop) (f : Nat) (k : ByteArray) (v : Value) (g n : Nat) : Prop := ∀ w, Sees C w → Calls Tryz.prog f #[.string k, v, .func (.func g) #[] #[]] w fun e w' => (∃ u, e = .returned (.agg #[.string k, .string ⟨#[]⟩, u]) ∧ LsRow w w' n u) ∧ Below w.heap.size w w'
theorem owns_slice {w : World} {B e size n : Nat} {u : Value} {L : List Value} (h : w.ownsRow B e size u n L) : ∃ a l c, u = .slice a l c := by
  rcases h.2 with ⟨h, _⟩ | ⟨_, _, _, h, _⟩
  · exact ⟨_, _, _, h⟩
  · exact ⟨_, _, _, h⟩
theorem LsX.ok {C : Nat → Nat → Value → Prop} {f g n : Nat} {k : ByteArray} {v : Value} (h : LsX C f k v g n) : LsOK C f k v g := fun w hS => (h w hS).mono fun e w' hx => by
  obtain ⟨⟨u, rfl, ⟨L, B, _, h2, _⟩, _⟩, hb⟩ := hx
  obtain ⟨a, l, c, rfl⟩ := owns_slice h2
  exact ⟨⟨_, _, _, _, rfl⟩, hb⟩

set_option maxHeartbeats 4000000 in
set_option maxRecDepth 100000 in
theorem ls_listSpec {C : Nat → Nat → Value → Prop} (k : ByteArray) (v : Value) (n g : Nat) (V : Nat → Value) (hl : LAt C v n V) (hn : n ≤ 1000000) (hen : Enters Tryz.prog g)
    (hx : ∀ i, i < n → ∀ w, Sees C w → Calls Tryz.prog g #[V i] w fun e w' => AnyNode e ∧ Below w.heap.size w w') : LsX C 76 k v g n := by
  intro w hS
  obtain ⟨i0, hi, hz0, hz1, hz2⟩ := info_parts info24
  obtain ⟨a, cap, rfl, hcap, hel⟩ := hl
  have HI := Lib.hid (And.intro hi (And.intro hz0 (And.intro hz1 hz2)))
  have HS := Lib.hid hS
  have HEL := Lib.hid hel
  have HXX := Lib.hid hx
  have HEN := Lib.hid hen
  clear hi hz0 hz1 hz2 hS hel hx hen
  have BX0 : Blk ((w.alloc (Obj.cells #[Value.string ⟨#[]⟩, Value.string ⟨#[]⟩, Value.slice none 0 0] 24)).alloc (Obj.cells #[Value.string k, Value.string ⟨#[]⟩, Value.slice none 0 0] 24)) w.heap.size 24 #[Value.string ⟨#[]⟩, Value.string ⟨#[]⟩, Value.slice none 0 0] := (Blk.new w _ _).later ((Below.refl (w.heap.size + 1) _).alloc (by simp) _) (by omega)
  have BY0 : Blk ((w.alloc (Obj.cells #[Value.string ⟨#[]⟩, Value.string ⟨#[]⟩, Value.slice none 0 0] 24)).alloc (Obj.cells #[Value.string k, Value.string ⟨#[]⟩, Value.slice none 0 0] 24)) (w.heap.size + 1) 24 #[Value.string k, Value.string ⟨#[]⟩, Value.slice none 0 0] := by simpa using Blk.new (w.alloc (Obj.cells #[Value.string ⟨#[]⟩, Value.string ⟨#[]⟩, Value.slice none 0 0] 24)) #[Value.string k, Value.string ⟨#[]⟩, Value.slice none 0 0] 24
  have HB0 := Lib.hid (And.intro BX0 BY0)
  clear BX0 BY0
  go_enter Tryz.func76, Tryz.ntmps76
  go_wp2_with fail
  go_loopw [14] (fun i wr => ∃ (j : Nat) (L : List Value) (v : Value), j ≤ n ∧ i = .int .i64 j ∧ Blk wr w.heap.size 24 #[Value.string ⟨#[]⟩, Value.string ⟨#[]⟩, Value.slice none 0 0] ∧ Blk wr (w.heap.size + 1) 24 #[Value.string k, Value.string ⟨#[]⟩, v] ∧ wr.ownsRow (w.heap.size + 2) 24 3 v j L ∧ (∀ x ∈ L, x.oneCell' = true) ∧ (j = 0 → v = .slice none 0 0) ∧ Below w.heap.size w wr ∧ w.heap.size + 2 ≤ wr.heap.size)
    (fun i _ => n - (intOf i).toNat)
  case atStart =>
    exact ⟨0, [], .slice none 0 0, Nat.zero_le _, rfl, HB0.out.1, HB0.out.2, World.ownsRow_nil _ _ _ _, (fun x hx => by simp at hx), (fun _ => rfl), (((Below.refl _ _).alloc (Nat.le_refl _) _).alloc (by simp) _), by simp⟩
  case round =>
    obtain ⟨j, L, vl, hj, rfl, hbx, hby, hown, hone, hnil, hbel, hsr⟩ := hrel
    have HONE := Lib.hid hone
    have HNIL := Lib.hid hnil
    clear hone hnil
    have HBX := Lib.hid hbx
    have HBY := Lib.hid hby
    have HOWN := Lib.hid hown
    have HBEL := Lib.hid hbel
    clear hbx hby hown hbel
    by_cases hjl : j < n
    · have hjl' : (j : Int) < (n : Int) := by omega
      obtain ⟨b, o, rfl, hcb⟩ := HEL.out j hjl
      have c0 := (HS.out.later HBEL.out) _ _ _ hcb
      clear hcb
      have y2 := HBY.out.cell 2 _ rfl
      have yf := HBY.out.frozen 2
      have hltx := HBY.out.lt
      go_wp2_with fail
      go_region_law (first
        | (refine step_callv (by rfl) (.tmp 20) g _ _ (by rfl) (by rfl) #[V j] (by first | (simp [Act.eval]; done) | (simp [Act.eval, Act.put]; done) | rfl) HEN.out (HXX.out j hjl _ ((HS.out.later HBEL.out).later ((Below.refl _ _).drew))) ?_
           rintro e w3 ⟨⟨kk, t2, a2, l2, c2, rfl⟩, hb3⟩
           refine ⟨_, rfl, ?_⟩
           have hbA := ((Below.refl wr.heap.size wr).drew).trans (hb3.mono (Nat.le_refl _))
           have hs3 : wr.heap.size ≤ w3.heap.size := hbA.size
           have hx3 := HBY.out.later hbA hltx
           have z2 := hx3.cell 2 _ rfl
           have zf := hx3.frozen 2
           have lt3 := hx3.lt
           have HOWN3 := Lib.hid (owns_kept HOWN.out hbA)
           have HBA := Lib.hid hbA
           have HX3 := Lib.hid hx3
           clear hb3 hbA hx3)
        | (refine step_append_lies _ (by rfl) (.tmp 19) (.tmp 23) 22 (by rfl) (w.heap.size + 2) 24 i0 (.agg #[.string ⟨#[]⟩, .string ⟨#[]⟩, .slice none 0 0]) 3 56 under22 HI.out.1 HI.out.2.1 HI.out.2.2.1 HI.out.2.2.2 (by rfl) (by decide) vl j L (by simp [Act.eval]) (HOWN3.out.alloc _) ⟨w3.heap.size, 0, none⟩ 1 1 [.string kk, .string t2, .slice a2 l2 c2] (by simp [Act.eval]) (by rfl) (World.news_of_block (heap_alloc_new _ _)) (by simp [Value.oneCell']) (by decide) (by unfold maxLen; omega) (by omega) (by simp; omega) (w3.heap.size + 1) (by simp) ?_
           intro gg cap' w5 hown5 hgrow5 hat5 hlt5
           have hbC := HBA.out.alloc hs3 (.cells #[.string kk, .string t2, .slice a2 l2 c2] 24)
           have HB5 := Lib.hid ((HBEL.out.trans (hbC.mono HBEL.out.size)).grown hgrow5 (by simp; omega) (fun k hk => by have := (HOWN.out.lt k hk).1; omega))
           have hx5 : Blk w5 (w.heap.size + 1) 24 #[Value.string k, Value.string ⟨#[]⟩, vl] := (hgrow5.block _ (by simp; omega) (fun h => by have := (HOWN.out.lt _ h.symm).1; omega)).trans (HX3.out.later ((Below.refl w3.heap.size w3).alloc (Nat.le_refl _) _) HX3.out.lt)
           have hr5 : Blk w5 w.heap.size 24 #[Value.string ⟨#[]⟩, Value.string ⟨#[]⟩, Value.slice none 0 0] := (hgrow5.block _ (by simp; omega) (fun h => by have := (HOWN.out.lt _ h.symm).1; omega)).trans (HBX.out.later hbC HBX.out.lt)
           have z2 := hx5.cell 2 _ rfl
           have zf := hx5.frozen 2
           have HX5 := Lib.hid hx5
           have HR5 := Lib.hid hr5
           have HO5 := Lib.hid hown5
           have hsz5 : w.heap.size + 2 ≤ w5.heap.size := by have := hgrow5.size; simp at this; omega
           clear hown5 hgrow5 hat5 hbC hx5 hr5))
      all_goals
        go_wp2_with fail
        go_roundw
        case rel => exact ⟨j + 1, L ++ [.string kk, .string t2, .slice a2 l2 c2], .slice (some ⟨gg, 0, none⟩) (j + 1) cap', by omega, by go_num, HR5.out.other _ _ _ (by omega), HX5.out.set 2 _, ownsRow_setCell_below HO5.out (by simp) _, (fun x hx => by rcases List.mem_append.1 hx with h | h; exact HONE.out x h; (simp at h; rcases h with rfl | rfl | rfl <;> rfl)), (fun h => by omega), HB5.out.setCell (by simp) _, by simpa using hsz5⟩
        case measure => simp [intOf]; omega
    · have hjl' : ¬ (j : Int) < (n : Int) := by omega
      have y0 := HBY.out.cell 0 _ rfl
      have y1 := HBY.out.cell 1 _ rfl
      have y2 := HBY.out.cell 2 _ rfl
      have x0 := HBX.out.cell 0 _ rfl
      have x1 := HBX.out.cell 1 _ rfl
      have x2 := HBX.out.cell 2 _ rfl
      have f0 := HBX.out.frozen 0
      have f1 := HBX.out.frozen 1
      have f2 := HBX.out.frozen 2
      have bxl := HBX.out.lt
      have BX := HBX.out
      have hbW := HBEL.out
      obtain ⟨av, lv, cv, rfl⟩ : ∃ a l c, vl = .slice a l c := by
        rcases HOWN.out.2 with ⟨h, _⟩ | ⟨_, _, _, h, _⟩
        · exact ⟨_, _, _, h⟩
        · exact ⟨_, _, _, h⟩
      have hjn : n = j := by omega
      have HJN := Lib.hid hjn
      clear hjn
      go_wp2_with fail
      refine bodyPost_ret (ret_node rfl _ rfl (Blk.node3 BX)) rfl ⟨⟨_, rfl, ⟨L, w.heap.size + 2, by omega, ?_, HONE.out⟩, fun h => HNIL.out (by have := HJN.out; omega)⟩, ?_⟩
      · rw [HJN.out]; exact ownsRow_setCell_below (ownsRow_setCell_below (ownsRow_setCell_below HOWN.out (by simp) _) (by simp) _) (by simp) _
      · exact (by repeat (first | (with_reducible exact hbW) | (with_reducible exact Below.refl _ _) | (with_reducible refine Below.alloc ?_ (by first | (simp only [World.size_setCell, World.size_alloc, dsz]; omega) | omega) _) | (with_reducible refine Below.setCell ?_ (by first | (simp only [World.size_setCell, World.size_alloc, dsz]; omega) | omega) _) | (with_reducible refine Below.drew ?_)))

set_option maxHeartbeats 4000000 in
set_option maxRecDepth 100000 in
theorem ls_listIdent {C : Nat → Nat → Value → Prop} (k : ByteArray) (v : Value) (n g : Nat) (V : Nat → Value) (hl : LAt C v n V) (hn : n ≤ 1000000) (hen : Enters Tryz.prog g)
    (hx : ∀ i, i < n → ∀ w, Sees C w → Calls Tryz.prog g #[V i] w fun e w' => AnyNode e ∧ Below w.heap.size w w') : LsX C 81 k v g n := by
  intro w hS
  obtain ⟨i0, hi, hz0, hz1, hz2⟩ := info_parts info24
  obtain ⟨a, cap, rfl, hcap, hel⟩ := hl
  have HI := Lib.hid (And.intro hi (And.intro hz0 (And.intro hz1 hz2)))
  have HS := Lib.hid hS
  have HEL := Lib.hid hel
  have HXX := Lib.hid hx
  have HEN := Lib.hid hen
  clear hi hz0 hz1 hz2 hS hel hx hen
  have BX0 : Blk ((w.alloc (Obj.cells #[Value.string ⟨#[]⟩, Value.string ⟨#[]⟩, Value.slice none 0 0] 24)).alloc (Obj.cells #[Value.string k, Value.string ⟨#[]⟩, Value.slice none 0 0] 24)) w.heap.size 24 #[Value.string ⟨#[]⟩, Value.string ⟨#[]⟩, Value.slice none 0 0] := (Blk.new w _ _).later ((Below.refl (w.heap.size + 1) _).alloc (by simp) _) (by omega)
  have BY0 : Blk ((w.alloc (Obj.cells #[Value.string ⟨#[]⟩, Value.string ⟨#[]⟩, Value.slice none 0 0] 24)).alloc (Obj.cells #[Value.string k, Value.string ⟨#[]⟩, Value.slice none 0 0] 24)) (w.heap.size + 1) 24 #[Value.string k, Value.string ⟨#[]⟩, Value.slice none 0 0] := by simpa using Blk.new (w.alloc (Obj.cells #[Value.string ⟨#[]⟩, Value.string ⟨#[]⟩, Value.slice none 0 0] 24)) #[Value.string k, Value.string ⟨#[]⟩, Value.slice none 0 0] 24
  have HB0 := Lib.hid (And.intro BX0 BY0)
  clear BX0 BY0
  go_enter Tryz.func81, Tryz.ntmps81
  go_wp2_with fail
  go_loopw [14] (fun i wr => ∃ (j : Nat) (L : List Value) (v : Value), j ≤ n ∧ i = .int .i64 j ∧ Blk wr w.heap.size 24 #[Value.string ⟨#[]⟩, Value.string ⟨#[]⟩, Value.slice none 0 0] ∧ Blk wr (w.heap.size + 1) 24 #[Value.string k, Value.string ⟨#[]⟩, v] ∧ wr.ownsRow (w.heap.size + 2) 24 3 v j L ∧ (∀ x ∈ L, x.oneCell' = true) ∧ (j = 0 → v = .slice none 0 0) ∧ Below w.heap.size w wr ∧ w.heap.size + 2 ≤ wr.heap.size)
    (fun i _ => n - (intOf i).toNat)
  case atStart =>
    exact ⟨0, [], .slice none 0 0, Nat.zero_le _, rfl, HB0.out.1, HB0.out.2, World.ownsRow_nil _ _ _ _, (fun x hx => by simp at hx), (fun _ => rfl), (((Below.refl _ _).alloc (Nat.le_refl _) _).alloc (by simp) _), by simp⟩
  case round =>
    obtain ⟨j, L, vl, hj, rfl, hbx, hby, hown, hone, hnil, hbel, hsr⟩ := hrel
    have HONE := Lib.hid hone
    have HNIL := Lib.hid hnil
    clear hone hnil
    have HBX := Lib.hid hbx
    have HBY := Lib.hid hby
    have HOWN := Lib.hid hown
    have HBEL := Lib.hid hbel
    clear hbx hby hown hbel
    by_cases hjl : j < n
    · have hjl' : (j : Int) < (n : Int) := by omega
      obtain ⟨b, o, rfl, hcb⟩ := HEL.out j hjl
      have c0 := (HS.out.later HBEL.out) _ _ _ hcb
      clear hcb
      have y2 := HBY.out.cell 2 _ rfl
      have yf := HBY.out.frozen 2
      have hltx := HBY.out.lt
      go_wp2_with fail
      go_region_law (first
        | (refine step_callv (by rfl) (.tmp 20) g _ _ (by rfl) (by rfl) #[V j] (by first | (simp [Act.eval]; done) | (simp [Act.eval, Act.put]; done) | rfl) HEN.out (HXX.out j hjl _ ((HS.out.later HBEL.out).later ((Below.refl _ _).drew))) ?_
           rintro e w3 ⟨⟨kk, t2, a2, l2, c2, rfl⟩, hb3⟩
           refine ⟨_, rfl, ?_⟩
           have hbA := ((Below.refl wr.heap.size wr).drew).trans (hb3.mono (Nat.le_refl _))
           have hs3 : wr.heap.size ≤ w3.heap.size := hbA.size
           have hx3 := HBY.out.later hbA hltx
           have z2 := hx3.cell 2 _ rfl
           have zf := hx3.frozen 2
           have lt3 := hx3.lt
           have HOWN3 := Lib.hid (owns_kept HOWN.out hbA)
           have HBA := Lib.hid hbA
           have HX3 := Lib.hid hx3
           clear hb3 hbA hx3)
        | (refine step_append_lies _ (by rfl) (.tmp 19) (.tmp 23) 22 (by rfl) (w.heap.size + 2) 24 i0 (.agg #[.string ⟨#[]⟩, .string ⟨#[]⟩, .slice none 0 0]) 3 56 under22 HI.out.1 HI.out.2.1 HI.out.2.2.1 HI.out.2.2.2 (by rfl) (by decide) vl j L (by simp [Act.eval]) (HOWN3.out.alloc _) ⟨w3.heap.size, 0, none⟩ 1 1 [.string kk, .string t2, .slice a2 l2 c2] (by simp [Act.eval]) (by rfl) (World.news_of_block (heap_alloc_new _ _)) (by simp [Value.oneCell']) (by decide) (by unfold maxLen; omega) (by omega) (by simp; omega) (w3.heap.size + 1) (by simp) ?_
           intro gg cap' w5 hown5 hgrow5 hat5 hlt5
           have hbC := HBA.out.alloc hs3 (.cells #[.string kk, .string t2, .slice a2 l2 c2] 24)
           have HB5 := Lib.hid ((HBEL.out.trans (hbC.mono HBEL.out.size)).grown hgrow5 (by simp; omega) (fun k hk => by have := (HOWN.out.lt k hk).1; omega))
           have hx5 : Blk w5 (w.heap.size + 1) 24 #[Value.string k, Value.string ⟨#[]⟩, vl] := (hgrow5.block _ (by simp; omega) (fun h => by have := (HOWN.out.lt _ h.symm).1; omega)).trans (HX3.out.later ((Below.refl w3.heap.size w3).alloc (Nat.le_refl _) _) HX3.out.lt)
           have hr5 : Blk w5 w.heap.size 24 #[Value.string ⟨#[]⟩, Value.string ⟨#[]⟩, Value.slice none 0 0] := (hgrow5.block _ (by simp; omega) (fun h => by have := (HOWN.out.lt _ h.symm).1; omega)).trans (HBX.out.later hbC HBX.out.lt)
           have z2 := hx5.cell 2 _ rfl
           have zf := hx5.frozen 2
           have HX5 := Lib.hid hx5
           have HR5 := Lib.hid hr5
           have HO5 := Lib.hid hown5
           have hsz5 : w.heap.size + 2 ≤ w5.heap.size := by have := hgrow5.size; simp at this; omega
           clear hown5 hgrow5 hat5 hbC hx5 hr5))
      all_goals
        go_wp2_with fail
        go_roundw
        case rel => exact ⟨j + 1, L ++ [.string kk, .string t2, .slice a2 l2 c2], .slice (some ⟨gg, 0, none⟩) (j + 1) cap', by omega, by go_num, HR5.out.other _ _ _ (by omega), HX5.out.set 2 _, ownsRow_setCell_below HO5.out (by simp) _, (fun x hx => by rcases List.mem_append.1 hx with h | h; exact HONE.out x h; (simp at h; rcases h with rfl | rfl | rfl <;> rfl)), (fun h => by omega), HB5.out.setCell (by simp) _, by simpa using hsz5⟩
        case measure => simp [intOf]; omega
    · have hjl' : ¬ (j : Int) < (n : Int) := by omega
      have y0 := HBY.out.cell 0 _ rfl
      have y1 := HBY.out.cell 1 _ rfl
      have y2 := HBY.out.cell 2 _ rfl
      have x0 := HBX.out.cell 0 _ rfl
      have x1 := HBX.out.cell 1 _ rfl
      have x2 := HBX.out.cell 2 _ rfl
      have f0 := HBX.out.frozen 0
      have f1 := HBX.out.frozen 1
      have f2 := HBX.out.frozen 2
      have bxl := HBX.out.lt
      have BX := HBX.out
      have hbW := HBEL.out
      obtain ⟨av, lv, cv, rfl⟩ : ∃ a l c, vl = .slice a l c := by
        rcases HOWN.out.2 with ⟨h, _⟩ | ⟨_, _, _, h, _⟩
        · exact ⟨_, _, _, h⟩
        · exact ⟨_, _, _, h⟩
      have hjn : n = j := by omega
      have HJN := Lib.hid hjn
      clear hjn
      go_wp2_with fail
      refine bodyPost_ret (ret_node rfl _ rfl (Blk.node3 BX)) rfl ⟨⟨_, rfl, ⟨L, w.heap.size + 2, by omega, ?_, HONE.out⟩, fun h => HNIL.out (by have := HJN.out; omega)⟩, ?_⟩
      · rw [HJN.out]; exact ownsRow_setCell_below (ownsRow_setCell_below (ownsRow_setCell_below HOWN.out (by simp) _) (by simp) _) (by simp) _
      · exact (by repeat (first | (with_reducible exact hbW) | (with_reducible exact Below.refl _ _) | (with_reducible refine Below.alloc ?_ (by first | (simp only [World.size_setCell, World.size_alloc, dsz]; omega) | omega) _) | (with_reducible refine Below.setCell ?_ (by first | (simp only [World.size_setCell, World.size_alloc, dsz]; omega) | omega) _) | (with_reducible refine Below.drew ?_)))

set_option maxHeartbeats 4000000 in
set_option maxRecDepth 100000 in
theorem ls_listExpr {C : Nat → Nat → Value → Prop} (k : ByteArray) (v : Value) (n g : Nat) (V : Nat → Value) (hl : LAt C v n V) (hn : n ≤ 1000000) (hen : Enters Tryz.prog g)
    (hx : ∀ i, i < n → ∀ w, Sees C w → Calls Tryz.prog g #[V i] w fun e w' => AnyNode e ∧ Below w.heap.size w w') : LsX C 82 k v g n := by
  intro w hS
  obtain ⟨i0, hi, hz0, hz1, hz2⟩ := info_parts info24
  obtain ⟨a, cap, rfl, hcap, hel⟩ := hl
  have HI := Lib.hid (And.intro hi (And.intro hz0 (And.intro hz1 hz2)))
  have HS := Lib.hid hS
  have HEL := Lib.hid hel
  have HXX := Lib.hid hx
  have HEN := Lib.hid hen
  clear hi hz0 hz1 hz2 hS hel hx hen
  have BX0 : Blk ((w.alloc (Obj.cells #[Value.string ⟨#[]⟩, Value.string ⟨#[]⟩, Value.slice none 0 0] 24)).alloc (Obj.cells #[Value.string k, Value.string ⟨#[]⟩, Value.slice none 0 0] 24)) w.heap.size 24 #[Value.string ⟨#[]⟩, Value.string ⟨#[]⟩, Value.slice none 0 0] := (Blk.new w _ _).later ((Below.refl (w.heap.size + 1) _).alloc (by simp) _) (by omega)
  have BY0 : Blk ((w.alloc (Obj.cells #[Value.string ⟨#[]⟩, Value.string ⟨#[]⟩, Value.slice none 0 0] 24)).alloc (Obj.cells #[Value.string k, Value.string ⟨#[]⟩, Value.slice none 0 0] 24)) (w.heap.size + 1) 24 #[Value.string k, Value.string ⟨#[]⟩, Value.slice none 0 0] := by simpa using Blk.new (w.alloc (Obj.cells #[Value.string ⟨#[]⟩, Value.string ⟨#[]⟩, Value.slice none 0 0] 24)) #[Value.string k, Value.string ⟨#[]⟩, Value.slice none 0 0] 24
  have HB0 := Lib.hid (And.intro BX0 BY0)
  clear BX0 BY0
  go_enter Tryz.func82, Tryz.ntmps82
  go_wp2_with fail
  go_loopw [14] (fun i wr => ∃ (j : Nat) (L : List Value) (v : Value), j ≤ n ∧ i = .int .i64 j ∧ Blk wr w.heap.size 24 #[Value.string ⟨#[]⟩, Value.string ⟨#[]⟩, Value.slice none 0 0] ∧ Blk wr (w.heap.size + 1) 24 #[Value.string k, Value.string ⟨#[]⟩, v] ∧ wr.ownsRow (w.heap.size + 2) 24 3 v j L ∧ (∀ x ∈ L, x.oneCell' = true) ∧ (j = 0 → v = .slice none 0 0) ∧ Below w.heap.size w wr ∧ w.heap.size + 2 ≤ wr.heap.size)
    (fun i _ => n - (intOf i).toNat)
  case atStart =>
    exact ⟨0, [], .slice none 0 0, Nat.zero_le _, rfl, HB0.out.1, HB0.out.2, World.ownsRow_nil _ _ _ _, (fun x hx => by simp at hx), (fun _ => rfl), (((Below.refl _ _).alloc (Nat.le_refl _) _).alloc (by simp) _), by simp⟩
  case round =>
    obtain ⟨j, L, vl, hj, rfl, hbx, hby, hown, hone, hnil, hbel, hsr⟩ := hrel
    have HONE := Lib.hid hone
    have HNIL := Lib.hid hnil
    clear hone hnil
    have HBX := Lib.hid hbx
    have HBY := Lib.hid hby
    have HOWN := Lib.hid hown
    have HBEL := Lib.hid hbel
    clear hbx hby hown hbel
    by_cases hjl : j < n
    · have hjl' : (j : Int) < (n : Int) := by omega
      obtain ⟨b, o, rfl, hcb⟩ := HEL.out j hjl
      have c0 := (HS.out.later HBEL.out) _ _ _ hcb
      clear hcb
      have y2 := HBY.out.cell 2 _ rfl
      have yf := HBY.out.frozen 2
      have hltx := HBY.out.lt
      go_wp2_with fail
      go_region_law (first
        | (refine step_callv (by rfl) (.tmp 20) g _ _ (by rfl) (by rfl) #[V j] (by first | (simp [Act.eval]; done) | (simp [Act.eval, Act.put]; done) | rfl) HEN.out (HXX.out j hjl _ ((HS.out.later HBEL.out).later ((Below.refl _ _).drew))) ?_
           rintro e w3 ⟨⟨kk, t2, a2, l2, c2, rfl⟩, hb3⟩
           refine ⟨_, rfl, ?_⟩
           have hbA := ((Below.refl wr.heap.size wr).drew).trans (hb3.mono (Nat.le_refl _))
           have hs3 : wr.heap.size ≤ w3.heap.size := hbA.size
           have hx3 := HBY.out.later hbA hltx
           have z2 := hx3.cell 2 _ rfl
           have zf := hx3.frozen 2
           have lt3 := hx3.lt
           have HOWN3 := Lib.hid (owns_kept HOWN.out hbA)
           have HBA := Lib.hid hbA
           have HX3 := Lib.hid hx3
           clear hb3 hbA hx3)
        | (refine step_append_lies _ (by rfl) (.tmp 19) (.tmp 23) 22 (by rfl) (w.heap.size + 2) 24 i0 (.agg #[.string ⟨#[]⟩, .string ⟨#[]⟩, .slice none 0 0]) 3 56 under22 HI.out.1 HI.out.2.1 HI.out.2.2.1 HI.out.2.2.2 (by rfl) (by decide) vl j L (by simp [Act.eval]) (HOWN3.out.alloc _) ⟨w3.heap.size, 0, none⟩ 1 1 [.string kk, .string t2, .slice a2 l2 c2] (by simp [Act.eval]) (by rfl) (World.news_of_block (heap_alloc_new _ _)) (by simp [Value.oneCell']) (by decide) (by unfold maxLen; omega) (by omega) (by simp; omega) (w3.heap.size + 1) (by simp) ?_
           intro gg cap' w5 hown5 hgrow5 hat5 hlt5
           have hbC := HBA.out.alloc hs3 (.cells #[.string kk, .string t2, .slice a2 l2 c2] 24)
           have HB5 := Lib.hid ((HBEL.out.trans (hbC.mono HBEL.out.size)).grown hgrow5 (by simp; omega) (fun k hk => by have := (HOWN.out.lt k hk).1; omega))
           have hx5 : Blk w5 (w.heap.size + 1) 24 #[Value.string k, Value.string ⟨#[]⟩, vl] := (hgrow5.block _ (by simp; omega) (fun h => by have := (HOWN.out.lt _ h.symm).1; omega)).trans (HX3.out.later ((Below.refl w3.heap.size w3).alloc (Nat.le_refl _) _) HX3.out.lt)
           have hr5 : Blk w5 w.heap.size 24 #[Value.string ⟨#[]⟩, Value.string ⟨#[]⟩, Value.slice none 0 0] := (hgrow5.block _ (by simp; omega) (fun h => by have := (HOWN.out.lt _ h.symm).1; omega)).trans (HBX.out.later hbC HBX.out.lt)
           have z2 := hx5.cell 2 _ rfl
           have zf := hx5.frozen 2
           have HX5 := Lib.hid hx5
           have HR5 := Lib.hid hr5
           have HO5 := Lib.hid hown5
           have hsz5 : w.heap.size + 2 ≤ w5.heap.size := by have := hgrow5.size; simp at this; omega
           clear hown5 hgrow5 hat5 hbC hx5 hr5))
      all_goals
        go_wp2_with fail
        go_roundw
        case rel => exact ⟨j + 1, L ++ [.string kk, .string t2, .slice a2 l2 c2], .slice (some ⟨gg, 0, none⟩) (j + 1) cap', by omega, by go_num, HR5.out.other _ _ _ (by omega), HX5.out.set 2 _, ownsRow_setCell_below HO5.out (by simp) _, (fun x hx => by rcases List.mem_append.1 hx with h | h; exact HONE.out x h; (simp at h; rcases h with rfl | rfl | rfl <;> rfl)), (fun h => by omega), HB5.out.setCell (by simp) _, by simpa using hsz5⟩
        case measure => simp [intOf]; omega
    · have hjl' : ¬ (j : Int) < (n : Int) := by omega
      have y0 := HBY.out.cell 0 _ rfl
      have y1 := HBY.out.cell 1 _ rfl
      have y2 := HBY.out.cell 2 _ rfl
      have x0 := HBX.out.cell 0 _ rfl
      have x1 := HBX.out.cell 1 _ rfl
      have x2 := HBX.out.cell 2 _ rfl
      have f0 := HBX.out.frozen 0
      have f1 := HBX.out.frozen 1
      have f2 := HBX.out.frozen 2
      have bxl := HBX.out.lt
      have BX := HBX.out
      have hbW := HBEL.out
      obtain ⟨av, lv, cv, rfl⟩ : ∃ a l c, vl = .slice a l c := by
        rcases HOWN.out.2 with ⟨h, _⟩ | ⟨_, _, _, h, _⟩
        · exact ⟨_, _, _, h⟩
        · exact ⟨_, _, _, h⟩
      have hjn : n = j := by omega
      have HJN := Lib.hid hjn
      clear hjn
      go_wp2_with fail
      refine bodyPost_ret (ret_node rfl _ rfl (Blk.node3 BX)) rfl ⟨⟨_, rfl, ⟨L, w.heap.size + 2, by omega, ?_, HONE.out⟩, fun h => HNIL.out (by have := HJN.out; omega)⟩, ?_⟩
      · rw [HJN.out]; exact ownsRow_setCell_below (ownsRow_setCell_below (ownsRow_setCell_below HOWN.out (by simp) _) (by simp) _) (by simp) _
      · exact (by repeat (first | (with_reducible exact hbW) | (with_reducible exact Below.refl _ _) | (with_reducible refine Below.alloc ?_ (by first | (simp only [World.size_setCell, World.size_alloc, dsz]; omega) | omega) _) | (with_reducible refine Below.setCell ?_ (by first | (simp only [World.size_setCell, World.size_alloc, dsz]; omega) | omega) _) | (with_reducible refine Below.drew ?_)))

set_option maxHeartbeats 4000000 in
set_option maxRecDepth 100000 in
theorem ls_listField {C : Nat → Nat → Value → Prop} (k : ByteArray) (v : Value) (n g : Nat) (V : Nat → Value) (hl : LAt C v n V) (hn : n ≤ 1000000) (hen : Enters Tryz.prog g)
    (hx : ∀ i, i < n → ∀ w, Sees C w → Calls Tryz.prog g #[V i] w fun e w' => AnyNode e ∧ Below w.heap.size w w') : LsX C 89 k v g n := by
  intro w hS
  obtain ⟨i0, hi, hz0, hz1, hz2⟩ := info_parts info24
  obtain ⟨a, cap, rfl, hcap, hel⟩ := hl
  have HI := Lib.hid (And.intro hi (And.intro hz0 (And.intro hz1 hz2)))
  have HS := Lib.hid hS
  have HEL := Lib.hid hel
  have HXX := Lib.hid hx
  have HEN := Lib.hid hen
  clear hi hz0 hz1 hz2 hS hel hx hen
  have BX0 : Blk ((w.alloc (Obj.cells #[Value.string ⟨#[]⟩, Value.string ⟨#[]⟩, Value.slice none 0 0] 24)).alloc (Obj.cells #[Value.string k, Value.string ⟨#[]⟩, Value.slice none 0 0] 24)) w.heap.size 24 #[Value.string ⟨#[]⟩, Value.string ⟨#[]⟩, Value.slice none 0 0] := (Blk.new w _ _).later ((Below.refl (w.heap.size + 1) _).alloc (by simp) _) (by omega)
  have BY0 : Blk ((w.alloc (Obj.cells #[Value.string ⟨#[]⟩, Value.string ⟨#[]⟩, Value.slice none 0 0] 24)).alloc (Obj.cells #[Value.string k, Value.string ⟨#[]⟩, Value.slice none 0 0] 24)) (w.heap.size + 1) 24 #[Value.string k, Value.string ⟨#[]⟩, Value.slice none 0 0] := by simpa using Blk.new (w.alloc (Obj.cells #[Value.string ⟨#[]⟩, Value.string ⟨#[]⟩, Value.slice none 0 0] 24)) #[Value.string k, Value.string ⟨#[]⟩, Value.slice none 0 0] 24
  have HB0 := Lib.hid (And.intro BX0 BY0)
  clear BX0 BY0
  go_enter Tryz.func89, Tryz.ntmps89
  go_wp2_with fail
  go_loopw [14] (fun i wr => ∃ (j : Nat) (L : List Value) (v : Value), j ≤ n ∧ i = .int .i64 j ∧ Blk wr w.heap.size 24 #[Value.string ⟨#[]⟩, Value.string ⟨#[]⟩, Value.slice none 0 0] ∧ Blk wr (w.heap.size + 1) 24 #[Value.string k, Value.string ⟨#[]⟩, v] ∧ wr.ownsRow (w.heap.size + 2) 24 3 v j L ∧ (∀ x ∈ L, x.oneCell' = true) ∧ (j = 0 → v = .slice none 0 0) ∧ Below w.heap.size w wr ∧ w.heap.size + 2 ≤ wr.heap.size)
    (fun i _ => n - (intOf i).toNat)
  case atStart =>
    exact ⟨0, [], .slice none 0 0, Nat.zero_le _, rfl, HB0.out.1, HB0.out.2, World.ownsRow_nil _ _ _ _, (fun x hx => by simp at hx), (fun _ => rfl), (((Below.refl _ _).alloc (Nat.le_refl _) _).alloc (by simp) _), by simp⟩
  case round =>
    obtain ⟨j, L, vl, hj, rfl, hbx, hby, hown, hone, hnil, hbel, hsr⟩ := hrel
    have HONE := Lib.hid hone
    have HNIL := Lib.hid hnil
    clear hone hnil
    have HBX := Lib.hid hbx
    have HBY := Lib.hid hby
    have HOWN := Lib.hid hown
    have HBEL := Lib.hid hbel
    clear hbx hby hown hbel
    by_cases hjl : j < n
    · have hjl' : (j : Int) < (n : Int) := by omega
      obtain ⟨b, o, rfl, hcb⟩ := HEL.out j hjl
      have c0 := (HS.out.later HBEL.out) _ _ _ hcb
      clear hcb
      have y2 := HBY.out.cell 2 _ rfl
      have yf := HBY.out.frozen 2
      have hltx := HBY.out.lt
      go_wp2_with fail
      go_region_law (first
        | (refine step_callv (by rfl) (.tmp 20) g _ _ (by rfl) (by rfl) #[V j] (by first | (simp [Act.eval]; done) | (simp [Act.eval, Act.put]; done) | rfl) HEN.out (HXX.out j hjl _ ((HS.out.later HBEL.out).later ((Below.refl _ _).drew))) ?_
           rintro e w3 ⟨⟨kk, t2, a2, l2, c2, rfl⟩, hb3⟩
           refine ⟨_, rfl, ?_⟩
           have hbA := ((Below.refl wr.heap.size wr).drew).trans (hb3.mono (Nat.le_refl _))
           have hs3 : wr.heap.size ≤ w3.heap.size := hbA.size
           have hx3 := HBY.out.later hbA hltx
           have z2 := hx3.cell 2 _ rfl
           have zf := hx3.frozen 2
           have lt3 := hx3.lt
           have HOWN3 := Lib.hid (owns_kept HOWN.out hbA)
           have HBA := Lib.hid hbA
           have HX3 := Lib.hid hx3
           clear hb3 hbA hx3)
        | (refine step_append_lies _ (by rfl) (.tmp 19) (.tmp 23) 22 (by rfl) (w.heap.size + 2) 24 i0 (.agg #[.string ⟨#[]⟩, .string ⟨#[]⟩, .slice none 0 0]) 3 56 under22 HI.out.1 HI.out.2.1 HI.out.2.2.1 HI.out.2.2.2 (by rfl) (by decide) vl j L (by simp [Act.eval]) (HOWN3.out.alloc _) ⟨w3.heap.size, 0, none⟩ 1 1 [.string kk, .string t2, .slice a2 l2 c2] (by simp [Act.eval]) (by rfl) (World.news_of_block (heap_alloc_new _ _)) (by simp [Value.oneCell']) (by decide) (by unfold maxLen; omega) (by omega) (by simp; omega) (w3.heap.size + 1) (by simp) ?_
           intro gg cap' w5 hown5 hgrow5 hat5 hlt5
           have hbC := HBA.out.alloc hs3 (.cells #[.string kk, .string t2, .slice a2 l2 c2] 24)
           have HB5 := Lib.hid ((HBEL.out.trans (hbC.mono HBEL.out.size)).grown hgrow5 (by simp; omega) (fun k hk => by have := (HOWN.out.lt k hk).1; omega))
           have hx5 : Blk w5 (w.heap.size + 1) 24 #[Value.string k, Value.string ⟨#[]⟩, vl] := (hgrow5.block _ (by simp; omega) (fun h => by have := (HOWN.out.lt _ h.symm).1; omega)).trans (HX3.out.later ((Below.refl w3.heap.size w3).alloc (Nat.le_refl _) _) HX3.out.lt)
           have hr5 : Blk w5 w.heap.size 24 #[Value.string ⟨#[]⟩, Value.string ⟨#[]⟩, Value.slice none 0 0] := (hgrow5.block _ (by simp; omega) (fun h => by have := (HOWN.out.lt _ h.symm).1; omega)).trans (HBX.out.later hbC HBX.out.lt)
           have z2 := hx5.cell 2 _ rfl
           have zf := hx5.frozen 2
           have HX5 := Lib.hid hx5
           have HR5 := Lib.hid hr5
           have HO5 := Lib.hid hown5
           have hsz5 : w.heap.size + 2 ≤ w5.heap.size := by have := hgrow5.size; simp at this; omega
           clear hown5 hgrow5 hat5 hbC hx5 hr5))
      all_goals
        go_wp2_with fail
        go_roundw
        case rel => exact ⟨j + 1, L ++ [.string kk, .string t2, .slice a2 l2 c2], .slice (some ⟨gg, 0, none⟩) (j + 1) cap', by omega, by go_num, HR5.out.other _ _ _ (by omega), HX5.out.set 2 _, ownsRow_setCell_below HO5.out (by simp) _, (fun x hx => by rcases List.mem_append.1 hx with h | h; exact HONE.out x h; (simp at h; rcases h with rfl | rfl | rfl <;> rfl)), (fun h => by omega), HB5.out.setCell (by simp) _, by simpa using hsz5⟩
        case measure => simp [intOf]; omega
    · have hjl' : ¬ (j : Int) < (n : Int) := by omega
      have y0 := HBY.out.cell 0 _ rfl
      have y1 := HBY.out.cell 1 _ rfl
      have y2 := HBY.out.cell 2 _ rfl
      have x0 := HBX.out.cell 0 _ rfl
      have x1 := HBX.out.cell 1 _ rfl
      have x2 := HBX.out.cell 2 _ rfl
      have f0 := HBX.out.frozen 0
      have f1 := HBX.out.frozen 1
      have f2 := HBX.out.frozen 2
      have bxl := HBX.out.lt
      have BX := HBX.out
      have hbW := HBEL.out
      obtain ⟨av, lv, cv, rfl⟩ : ∃ a l c, vl = .slice a l c := by
        rcases HOWN.out.2 with ⟨h, _⟩ | ⟨_, _, _, h, _⟩
        · exact ⟨_, _, _, h⟩
        · exact ⟨_, _, _, h⟩
      have hjn : n = j := by omega
      have HJN := Lib.hid hjn
      clear hjn
      go_wp2_with fail
      refine bodyPost_ret (ret_node rfl _ rfl (Blk.node3 BX)) rfl ⟨⟨_, rfl, ⟨L, w.heap.size + 2, by omega, ?_, HONE.out⟩, fun h => HNIL.out (by have := HJN.out; omega)⟩, ?_⟩
      · rw [HJN.out]; exact ownsRow_setCell_below (ownsRow_setCell_below (ownsRow_setCell_below HOWN.out (by simp) _) (by simp) _) (by simp) _
      · exact (by repeat (first | (with_reducible exact hbW) | (with_reducible exact Below.refl _ _) | (with_reducible refine Below.alloc ?_ (by first | (simp only [World.size_setCell, World.size_alloc, dsz]; omega) | omega) _) | (with_reducible refine Below.setCell ?_ (by first | (simp only [World.size_setCell, World.size_alloc, dsz]; omega) | omega) _) | (with_reducible refine Below.drew ?_)))
end Go.Proofs.YtpifflakohlglaaGreatFmt

/- What is proved here: field, turning a field into a node again. -/
namespace Go.Proofs.YtpifflakohlglaaGreatFmt
open Go.RowKit Go.Shelf
set_option linter.unusedVariables false
set_option linter.unusedSimpArgs false
attribute [local go_sem ↓] Go.wp_at_zero Go.wp_at_succ
theorem step_append_zero {ops : Array Oper} {o : Oper} {a : Act} {w : World} {K : Act → World → Prop} {Q : Exit → Act → World → Prop} {E : Prop} (hgd : o.guard = none) (s x : Operand)
    (ho : o.op = .call { callee := .builtin .append, args := #[s, x], argTypes := #[22, 22] }) (ad : Addr) (n c : Nat) (hnc : n ≤ c) (hs : a.eval s = .slice (some ad) n c) (hx : a.eval x = .slice none 0 0)
    (h : K (a.put o.dst (.slice (some ad) n c)) w) : if Region.wanted o (yielded ops a.tmps) = true then Oper.wp Tryz.prog o a w K Q else E := by
  have hw : Region.wanted o (yielded ops a.tmps) = true := by simp [Region.wanted, hgd]
  rw [if_pos hw]
  obtain ⟨i0, hi, hz0, hz1, hz2⟩ := info_parts info24
  have hr := run_underlying (w := w) under22
  have hsz : (sizeOf 24).run Tryz.prog w = .ok 3 w := by rw [run_sizeOf w hi]; simp [Program.cellsOf, hi, hz1]
  have hex : (execOp a.eval o).run Tryz.prog w = .ok (.value (.slice (some ad) n c)) w := by
    simp [execOp, ho, resolve, invoke, builtin, Builtin.append_, hs, hx, hr, hsz, Builtin.lenOf, Builtin.firstCells, hnc, storeCells]
  unfold Oper.wp
  rw [hex, Oper.upon_value]
  exact h
theorem own_one (w : World) (a b c : Value) : (w.alloc (.cells #[a, b, c] 24)).ownsRow w.heap.size 24 3 (.slice (some ⟨w.heap.size, 0, none⟩) 1 1) 1 [a, b, c] :=
  ⟨rfl, .inr ⟨_, 1, #[a, b, c], rfl, Nat.le_refl _, heap_alloc_new _ _, Nat.le_refl _, by decide, rfl, rfl⟩⟩
theorem owns_cells {w : World} {B n g cap : Nat} {L : List Value} (h : w.ownsRow B 24 3 (.slice (some ⟨g, 0, none⟩) n cap) n L) : ∀ j u, L[j]? = some u → w.cell? ((⟨g, 0, none⟩ : Addr).add j) = some u := fun j u hj => h.cells rfl j u hj

set_option maxHeartbeats 4000000 in
set_option maxRecDepth 100000 in
theorem fd_00 {C : Nat → Nat → Value → Prop} (b n  : Nat) (vl vx : Value) (hn : n ≤ 1000000) (hn0 : n = 0) (hx0 : LsX C 81 ⟨#[102, 105, 101, 108, 100]⟩ vl 80 n) (hx1 : ExOK C vx) (w : World) (hS : Sees C w) (c0 : C b 1 (vl)) (c1 : C b 2 (vx)) (c2 : C b 3 (Value.pointer none)) :
    Calls Tryz.prog 90 #[Pt b] w fun e w' => AnyNode e ∧ Below w.heap.size w w' := by
  have h0 := hS _ _ _ c0
  have ltb := hS.lt c0
  have n0 := World.new_ne w ⟨b, 1, none⟩ h0
  have h1 := hS _ _ _ c1
  have n1 := World.new_ne w ⟨b, 2, none⟩ h1
  have h2 := hS _ _ _ c2
  have n2 := World.new_ne w ⟨b, 3, none⟩ h2
  have HS := Lib.hid hS
  have HN0 := Lib.hid hn0
  obtain ⟨i0, hi, hz0, hz1, hz2⟩ := info_parts info24
  have HI := Lib.hid (And.intro hi (And.intro hz0 (And.intro hz1 hz2)))
  have BX : Blk (w.alloc (Obj.cells #[Value.string ⟨#[]⟩, Value.string ⟨#[]⟩, Value.slice none 0 0] 24)) w.heap.size 24 #[Value.string ⟨#[]⟩, Value.string ⟨#[]⟩, Value.slice none 0 0] := Blk.new w _ _
  clear hS hn0 hi hz0 hz1 hz2 c0 c1 c2
  go_enter Tryz.func90, Tryz.ntmps90
  go_wp2_with fail
  refine (hx0 _ (HS.out.later (by repeat (first | (with_reducible exact hbW) | (with_reducible exact Below.refl _ _) | (with_reducible refine Below.alloc ?_ (by first | (simp only [World.size_setCell, World.size_alloc, dsz]; omega) | omega) _) | (with_reducible refine Below.setCell ?_ (by first | (simp only [World.size_setCell, World.size_alloc, dsz]; omega) | omega) _) | (with_reducible refine Below.drew ?_))))).mono ?_
  rintro e w2 ⟨⟨u, rfl, ⟨L, BB, hBB, hrow, hone⟩, hnil⟩, hb2⟩
  have hbW := Below.trans (show Below w.heap.size w _ from (by repeat (first | (with_reducible exact hbW) | (with_reducible exact Below.refl _ _) | (with_reducible refine Below.alloc ?_ (by first | (simp only [World.size_setCell, World.size_alloc, dsz]; omega) | omega) _) | (with_reducible refine Below.setCell ?_ (by first | (simp only [World.size_setCell, World.size_alloc, dsz]; omega) | omega) _) | (with_reducible refine Below.drew ?_)))) (hb2.mono (by first | (simp only [World.size_setCell, World.size_alloc, dsz]; omega) | omega))
  have hsz := hbW.size
  have BX := BX.later (B := w.heap.size + 1) (Below.trans (by repeat (first | (with_reducible exact Below.refl _ _) | (with_reducible refine Below.alloc ?_ (by first | (simp only [World.size_setCell, World.size_alloc, dsz]; omega) | omega) _) | (with_reducible refine Below.drew ?_))) (hb2.mono (by first | (simp only [World.size_setCell, World.size_alloc, dsz]; omega) | omega))) (by omega)
  obtain rfl := hnil HN0.out
  have HROW := Lib.hid hrow
  have HONE := Lib.hid hone
  clear hrow hone hnil hBB
  have bxl := BX.lt
  have f0 := BX.frozen 0
  have f1 := BX.frozen 1
  have f2 := BX.frozen 2
  have x0 := BX.cell 0 _ rfl
  have x1 := BX.cell 1 _ rfl
  have x2 := BX.cell 2 _ rfl
  have k0 := (hbW.cell (p := ⟨b, 1, none⟩) ltb).trans h0
  have k1 := (hbW.cell (p := ⟨b, 2, none⟩) ltb).trans h1
  have k2 := (hbW.cell (p := ⟨b, 3, none⟩) ltb).trans h2
  have lb2 : b < w2.heap.size := by omega
  have mX := World.new_ne w2 ⟨w.heap.size, 0, none⟩ x0
  clear hb2
  go_wp2_with fail
  have BY : Blk (w2.alloc (Obj.cells #[Value.string ⟨#[102, 105, 101, 108, 100]⟩, Value.string ⟨#[]⟩, (Value.slice none 0 0)] 24)) w2.heap.size 24 #[Value.string ⟨#[102, 105, 101, 108, 100]⟩, Value.string ⟨#[]⟩, (Value.slice none 0 0)] := Blk.new w2 _ _
  have nY : w.heap.size ≠ w2.heap.size := by omega
  have hsY := hsz
  obtain ⟨y0, y1, y2⟩ := And.intro (BY.cell 0 _ rfl) (And.intro (BY.cell 1 _ rfl) (BY.cell 2 _ rfl))
  obtain ⟨g1, g2⟩ := And.intro (BY.frozen 1) (BY.frozen 2)
  go_region_law (first
        | (refine step_call (by rfl) 61 _ _ (by rfl) #[vx] (by first | (simp [Act.eval]; done) | (simp [Act.eval, Act.put]; done) | rfl) (enters_of Tryz.func61 (by kernel_rfl) rfl) (hx1 _ (HS.out.later (by repeat (first | (with_reducible exact hbW) | (with_reducible exact Below.refl _ _) | (with_reducible refine Below.alloc ?_ (by first | (simp only [World.size_setCell, World.size_alloc, dsz]; omega) | omega) _) | (with_reducible refine Below.setCell ?_ (by first | (simp only [World.size_setCell, World.size_alloc, dsz]; omega) | omega) _) | (with_reducible refine Below.drew ?_))))) ?_
           rintro e w3 ⟨⟨kk, t2, a2, l2, c2, rfl⟩, hb2⟩
           refine ⟨_, rfl, ?_⟩
           have hbW := Below.trans (show Below w.heap.size w _ from (by repeat (first | (with_reducible exact hbW) | (with_reducible exact Below.refl _ _) | (with_reducible refine Below.alloc ?_ (by first | (simp only [World.size_setCell, World.size_alloc, dsz]; omega) | omega) _) | (with_reducible refine Below.setCell ?_ (by first | (simp only [World.size_setCell, World.size_alloc, dsz]; omega) | omega) _) | (with_reducible refine Below.drew ?_)))) (hb2.mono (by first | (simp only [World.size_setCell, World.size_alloc, dsz]; omega) | omega))
           have hsz := hbW.size
           have BX := BX.later (B := w.heap.size + 1) (Below.trans (by repeat (first | (with_reducible exact Below.refl _ _) | (with_reducible refine Below.alloc ?_ (by first | (simp only [World.size_setCell, World.size_alloc, dsz]; omega) | omega) _) | (with_reducible refine Below.drew ?_))) (hb2.mono (by first | (simp only [World.size_setCell, World.size_alloc, dsz]; omega) | omega))) (by omega)
           have BY := BY.later (B := w2.heap.size + 1) (Below.trans (by repeat (first | (with_reducible exact Below.refl _ _) | (with_reducible refine Below.alloc ?_ (by first | (simp only [World.size_setCell, World.size_alloc, dsz]; omega) | omega) _) | (with_reducible refine Below.drew ?_))) (hb2.mono (by first | (simp only [World.size_setCell, World.size_alloc, dsz]; omega) | omega))) (by omega)
           have HROW := Lib.hid (owns_kept ((HROW.out.alloc _).drew) hb2)
           have bxl := BX.lt
           have f0 := BX.frozen 0
           have f1 := BX.frozen 1
           have f2 := BX.frozen 2
           have x0 := BX.cell 0 _ rfl
           have x1 := BX.cell 1 _ rfl
           have x2 := BX.cell 2 _ rfl
           have byl := BY.lt
           have g1 := BY.frozen 1
           have g2 := BY.frozen 2
           have y0 := BY.cell 0 _ rfl
           have y1 := BY.cell 1 _ rfl
           have y2 := BY.cell 2 _ rfl
           have k0 := (hbW.cell (p := ⟨b, 1, none⟩) ltb).trans h0
           have k1 := (hbW.cell (p := ⟨b, 2, none⟩) ltb).trans h1
           have k2 := (hbW.cell (p := ⟨b, 3, none⟩) ltb).trans h2
           have lb3 : b < w3.heap.size := by omega
           clear hb2)
        | (refine step_call (by rfl) 78 _ _ (by rfl) #[.slice (some ⟨w3.heap.size, 0, none⟩) 1 1] (by first | (simp [Act.eval]; done) | (simp [Act.eval, Act.put]; done) | rfl) (enters_of Tryz.func78 (by kernel_rfl) rfl) (kids_id _ _) ?_
           rintro e w4 ⟨rfl, rfl⟩
           refine ⟨_, rfl, ?_⟩)
        | (refine step_append_zero (by rfl) (.tmp 15) (.tmp 17) (by rfl) ⟨w3.heap.size, 0, none⟩ 1 1 (by decide) (by rfl) (by rfl) ?_
           have hb5 := (Below.refl w3.heap.size w3).alloc (Nat.le_refl _) (Obj.cells #[Value.string kk, Value.string t2, Value.slice a2 l2 c2] 24)
           generalize w3.alloc (Obj.cells #[Value.string kk, Value.string t2, Value.slice a2 l2 c2] 24) = w5 at hb5 ⊢
           have hbW := hbW.trans (hb5.mono hsz)
           have hsz := hbW.size
           have BX := BX.later hb5 (by omega)
           have BY := BY.later hb5 (by omega)
           have bxl := BX.lt
           have f0 := BX.frozen 0
           have f1 := BX.frozen 1
           have f2 := BX.frozen 2
           have x0 := BX.cell 0 _ rfl
           have x1 := BX.cell 1 _ rfl
           have x2 := BX.cell 2 _ rfl
           have byl := BY.lt
           have g1 := BY.frozen 1
           have g2 := BY.frozen 2
           have y0 := BY.cell 0 _ rfl
           have y1 := BY.cell 1 _ rfl
           have y2 := BY.cell 2 _ rfl
           have k0 := (hbW.cell (p := ⟨b, 1, none⟩) ltb).trans h0
           have k1 := (hbW.cell (p := ⟨b, 2, none⟩) ltb).trans h1
           have k2 := (hbW.cell (p := ⟨b, 3, none⟩) ltb).trans h2
           clear hb5))
  all_goals go_wp2_with fail
  all_goals refine bodyPost_ret (ret_node rfl _ rfl (by first | (with_reducible exact Blk.node3 (BX.other _ _ _ nY)) | (with_reducible exact Blk.node3 ((BX.other _ _ _ nY).other _ _ _ nY)) | (with_reducible exact (Blk.node3 (BX.other _ _ _ nY)).later ((Below.refl _ _).alloc (Nat.le_refl _) _) (by first | (simp only [World.size_setCell, World.size_alloc, dsz]; omega) | omega)) | (with_reducible exact (Blk.node3 ((BX.other _ _ _ nY).other _ _ _ nY)).later ((Below.refl _ _).alloc (Nat.le_refl _) _) (by first | (simp only [World.size_setCell, World.size_alloc, dsz]; omega) | omega)))) rfl ⟨⟨_, _, _, _, _, rfl⟩, ?_⟩
  all_goals exact (by repeat (first | (with_reducible exact hbW) | (with_reducible exact Below.refl _ _) | (with_reducible refine Below.alloc ?_ (by first | (simp only [World.size_setCell, World.size_alloc, dsz]; omega) | omega) _) | (with_reducible refine Below.setCell ?_ (by first | (simp only [World.size_setCell, World.size_alloc, dsz]; omega) | omega) _) | (with_reducible refine Below.drew ?_)))

set_option maxHeartbeats 4000000 in
set_option maxRecDepth 100000 in
theorem fd_01 {C : Nat → Nat → Value → Prop} (b n s : Nat) (vl vx : Value) (tt : ByteArray) (hn : n ≤ 1000000) (hn0 : n = 0) (hx0 : LsX C 81 ⟨#[102, 105, 101, 108, 100]⟩ vl 80 n) (hx1 : ExOK C vx) (w : World) (hS : Sees C w) (c0 : C b 1 (vl)) (c1 : C b 2 (vx)) (c2 : C b 3 (Pt s)) (c3 : C s 3 (Value.string tt)) :
    Calls Tryz.prog 90 #[Pt b] w fun e w' => AnyNode e ∧ Below w.heap.size w w' := by
  have h0 := hS _ _ _ c0
  have ltb := hS.lt c0
  have n0 := World.new_ne w ⟨b, 1, none⟩ h0
  have h1 := hS _ _ _ c1
  have n1 := World.new_ne w ⟨b, 2, none⟩ h1
  have h2 := hS _ _ _ c2
  have n2 := World.new_ne w ⟨b, 3, none⟩ h2
  have h3 := hS _ _ _ c3
  have lts := hS.lt c3
  have n3 := World.new_ne w ⟨s, 3, none⟩ h3
  have HS := Lib.hid hS
  have HN0 := Lib.hid hn0
  obtain ⟨i0, hi, hz0, hz1, hz2⟩ := info_parts info24
  have HI := Lib.hid (And.intro hi (And.intro hz0 (And.intro hz1 hz2)))
  have BX : Blk (w.alloc (Obj.cells #[Value.string ⟨#[]⟩, Value.string ⟨#[]⟩, Value.slice none 0 0] 24)) w.heap.size 24 #[Value.string ⟨#[]⟩, Value.string ⟨#[]⟩, Value.slice none 0 0] := Blk.new w _ _
  clear hS hn0 hi hz0 hz1 hz2 c0 c1 c2 c3
  go_enter Tryz.func90, Tryz.ntmps90
  go_wp2_with fail
  refine (hx0 _ (HS.out.later (by repeat (first | (with_reducible exact hbW) | (with_reducible exact Below.refl _ _) | (with_reducible refine Below.alloc ?_ (by first | (simp only [World.size_setCell, World.size_alloc, dsz]; omega) | omega) _) | (with_reducible refine Below.setCell ?_ (by first | (simp only [World.size_setCell, World.size_alloc, dsz]; omega) | omega) _) | (with_reducible refine Below.drew ?_))))).mono ?_
  rintro e w2 ⟨⟨u, rfl, ⟨L, BB, hBB, hrow, hone⟩, hnil⟩, hb2⟩
  have hbW := Below.trans (show Below w.heap.size w _ from (by repeat (first | (with_reducible exact hbW) | (with_reducible exact Below.refl _ _) | (with_reducible refine Below.alloc ?_ (by first | (simp only [World.size_setCell, World.size_alloc, dsz]; omega) | omega) _) | (with_reducible refine Below.setCell ?_ (by first | (simp only [World.size_setCell, World.size_alloc, dsz]; omega) | omega) _) | (with_reducible refine Below.drew ?_)))) (hb2.mono (by first | (simp only [World.size_setCell, World.size_alloc, dsz]; omega) | omega))
  have hsz := hbW.size
  have BX := BX.later (B := w.heap.size + 1) (Below.trans (by repeat (first | (with_reducible exact Below.refl _ _) | (with_reducible refine Below.alloc ?_ (by first | (simp only [World.size_setCell, World.size_alloc, dsz]; omega) | omega) _) | (with_reducible refine Below.drew ?_))) (hb2.mono (by first | (simp only [World.size_setCell, World.size_alloc, dsz]; omega) | omega))) (by omega)
  obtain rfl := hnil HN0.out
  have HROW := Lib.hid hrow
  have HONE := Lib.hid hone
  clear hrow hone hnil hBB
  have bxl := BX.lt
  have f0 := BX.frozen 0
  have f1 := BX.frozen 1
  have f2 := BX.frozen 2
  have x0 := BX.cell 0 _ rfl
  have x1 := BX.cell 1 _ rfl
  have x2 := BX.cell 2 _ rfl
  have k0 := (hbW.cell (p := ⟨b, 1, none⟩) ltb).trans h0
  have k1 := (hbW.cell (p := ⟨b, 2, none⟩) ltb).trans h1
  have k2 := (hbW.cell (p := ⟨b, 3, none⟩) ltb).trans h2
  have k3 := (hbW.cell (p := ⟨s, 3, none⟩) lts).trans h3
  have lb2 : b < w2.heap.size := by omega
  have ls2 : s < w2.heap.size := by omega
  have mX := World.new_ne w2 ⟨w.heap.size, 0, none⟩ x0
  clear hb2
  go_wp2_with fail
  have BY : Blk (w2.alloc (Obj.cells #[Value.string ⟨#[102, 105, 101, 108, 100]⟩, Value.string ⟨#[]⟩, (Value.slice none 0 0)] 24)) w2.heap.size 24 #[Value.string ⟨#[102, 105, 101, 108, 100]⟩, Value.string ⟨#[]⟩, (Value.slice none 0 0)] := Blk.new w2 _ _
  have nY : w.heap.size ≠ w2.heap.size := by omega
  have hsY := hsz
  obtain ⟨y0, y1, y2⟩ := And.intro (BY.cell 0 _ rfl) (And.intro (BY.cell 1 _ rfl) (BY.cell 2 _ rfl))
  obtain ⟨g1, g2⟩ := And.intro (BY.frozen 1) (BY.frozen 2)
  go_region_law (first
        | (refine step_call (by rfl) 61 _ _ (by rfl) #[vx] (by first | (simp [Act.eval]; done) | (simp [Act.eval, Act.put]; done) | rfl) (enters_of Tryz.func61 (by kernel_rfl) rfl) (hx1 _ (HS.out.later (by repeat (first | (with_reducible exact hbW) | (with_reducible exact Below.refl _ _) | (with_reducible refine Below.alloc ?_ (by first | (simp only [World.size_setCell, World.size_alloc, dsz]; omega) | omega) _) | (with_reducible refine Below.setCell ?_ (by first | (simp only [World.size_setCell, World.size_alloc, dsz]; omega) | omega) _) | (with_reducible refine Below.drew ?_))))) ?_
           rintro e w3 ⟨⟨kk, t2, a2, l2, c2, rfl⟩, hb2⟩
           refine ⟨_, rfl, ?_⟩
           have hbW := Below.trans (show Below w.heap.size w _ from (by repeat (first | (with_reducible exact hbW) | (with_reducible exact Below.refl _ _) | (with_reducible refine Below.alloc ?_ (by first | (simp only [World.size_setCell, World.size_alloc, dsz]; omega) | omega) _) | (with_reducible refine Below.setCell ?_ (by first | (simp only [World.size_setCell, World.size_alloc, dsz]; omega) | omega) _) | (with_reducible refine Below.drew ?_)))) (hb2.mono (by first | (simp only [World.size_setCell, World.size_alloc, dsz]; omega) | omega))
           have hsz := hbW.size
           have BX := BX.later (B := w.heap.size + 1) (Below.trans (by repeat (first | (with_reducible exact Below.refl _ _) | (with_reducible refine Below.alloc ?_ (by first | (simp only [World.size_setCell, World.size_alloc, dsz]; omega) | omega) _) | (with_reducible refine Below.drew ?_))) (hb2.mono (by first | (simp only [World.size_setCell, World.size_alloc, dsz]; omega) | omega))) (by omega)
           have BY := BY.later (B := w2.heap.size + 1) (Below.trans (by repeat (first | (with_reducible exact Below.refl _ _) | (with_reducible refine Below.alloc ?_ (by first | (simp only [World.size_setCell, World.size_alloc, dsz]; omega) | omega) _) | (with_reducible refine Below.drew ?_))) (hb2.mono (by first | (simp only [World.size_setCell, World.size_alloc, dsz]; omega) | omega))) (by omega)
           have HROW := Lib.hid (owns_kept ((HROW.out.alloc _).drew) hb2)
           have bxl := BX.lt
           have f0 := BX.frozen 0
           have f1 := BX.frozen 1
           have f2 := BX.frozen 2
           have x0 := BX.cell 0 _ rfl
           have x1 := BX.cell 1 _ rfl
           have x2 := BX.cell 2 _ rfl
           have byl := BY.lt
           have g1 := BY.frozen 1
           have g2 := BY.frozen 2
           have y0 := BY.cell 0 _ rfl
           have y1 := BY.cell 1 _ rfl
           have y2 := BY.cell 2 _ rfl
           have k0 := (hbW.cell (p := ⟨b, 1, none⟩) ltb).trans h0
           have k1 := (hbW.cell (p := ⟨b, 2, none⟩) ltb).trans h1
           have k2 := (hbW.cell (p := ⟨b, 3, none⟩) ltb).trans h2
           have k3 := (hbW.cell (p := ⟨s, 3, none⟩) lts).trans h3
           have lb3 : b < w3.heap.size := by omega
           have ls3 : s < w3.heap.size := by omega
           clear hb2)
        | (refine step_call (by rfl) 78 _ _ (by rfl) #[.slice (some ⟨w3.heap.size, 0, none⟩) 1 1] (by first | (simp [Act.eval]; done) | (simp [Act.eval, Act.put]; done) | rfl) (enters_of Tryz.func78 (by kernel_rfl) rfl) (kids_id _ _) ?_
           rintro e w4 ⟨rfl, rfl⟩
           refine ⟨_, rfl, ?_⟩)
        | (refine step_append_zero (by rfl) (.tmp 15) (.tmp 17) (by rfl) ⟨w3.heap.size, 0, none⟩ 1 1 (by decide) (by rfl) (by rfl) ?_
           have hb5 := (Below.refl w3.heap.size w3).alloc (Nat.le_refl _) (Obj.cells #[Value.string kk, Value.string t2, Value.slice a2 l2 c2] 24)
           generalize w3.alloc (Obj.cells #[Value.string kk, Value.string t2, Value.slice a2 l2 c2] 24) = w5 at hb5 ⊢
           have hbW := hbW.trans (hb5.mono hsz)
           have hsz := hbW.size
           have BX := BX.later hb5 (by omega)
           have BY := BY.later hb5 (by omega)
           have bxl := BX.lt
           have f0 := BX.frozen 0
           have f1 := BX.frozen 1
           have f2 := BX.frozen 2
           have x0 := BX.cell 0 _ rfl
           have x1 := BX.cell 1 _ rfl
           have x2 := BX.cell 2 _ rfl
           have byl := BY.lt
           have g1 := BY.frozen 1
           have g2 := BY.frozen 2
           have y0 := BY.cell 0 _ rfl
           have y1 := BY.cell 1 _ rfl
           have y2 := BY.cell 2 _ rfl
           have k0 := (hbW.cell (p := ⟨b, 1, none⟩) ltb).trans h0
           have k1 := (hbW.cell (p := ⟨b, 2, none⟩) ltb).trans h1
           have k2 := (hbW.cell (p := ⟨b, 3, none⟩) ltb).trans h2
           have k3 := (hbW.cell (p := ⟨s, 3, none⟩) lts).trans h3
           clear hb5))
  all_goals go_wp2_with fail
  all_goals refine bodyPost_ret (ret_node rfl _ rfl (by first | (with_reducible exact Blk.node3 (BX.other _ _ _ nY)) | (with_reducible exact Blk.node3 ((BX.other _ _ _ nY).other _ _ _ nY)) | (with_reducible exact (Blk.node3 (BX.other _ _ _ nY)).later ((Below.refl _ _).alloc (Nat.le_refl _) _) (by first | (simp only [World.size_setCell, World.size_alloc, dsz]; omega) | omega)) | (with_reducible exact (Blk.node3 ((BX.other _ _ _ nY).other _ _ _ nY)).later ((Below.refl _ _).alloc (Nat.le_refl _) _) (by first | (simp only [World.size_setCell, World.size_alloc, dsz]; omega) | omega)))) rfl ⟨⟨_, _, _, _, _, rfl⟩, ?_⟩
  all_goals exact (by repeat (first | (with_reducible exact hbW) | (with_reducible exact Below.refl _ _) | (with_reducible refine Below.alloc ?_ (by first | (simp only [World.size_setCell, World.size_alloc, dsz]; omega) | omega) _) | (with_reducible refine Below.setCell ?_ (by first | (simp only [World.size_setCell, World.size_alloc, dsz]; omega) | omega) _) | (with_reducible refine Below.drew ?_)))

set_option maxHeartbeats 4000000 in
set_option maxRecDepth 100000 in
theorem fd_10 {C : Nat → Nat → Value → Prop} (b n  : Nat) (vl vx : Value) (hn : n ≤ 1000000) (hn0 : 0 < n) (hx0 : LsX C 81 ⟨#[102, 105, 101, 108, 100]⟩ vl 80 n) (hx1 : ExOK C vx) (w : World) (hS : Sees C w) (c0 : C b 1 (vl)) (c1 : C b 2 (vx)) (c2 : C b 3 (Value.pointer none)) :
    Calls Tryz.prog 90 #[Pt b] w fun e w' => AnyNode e ∧ Below w.heap.size w w' := by
  have h0 := hS _ _ _ c0
  have ltb := hS.lt c0
  have n0 := World.new_ne w ⟨b, 1, none⟩ h0
  have h1 := hS _ _ _ c1
  have n1 := World.new_ne w ⟨b, 2, none⟩ h1
  have h2 := hS _ _ _ c2
  have n2 := World.new_ne w ⟨b, 3, none⟩ h2
  have HS := Lib.hid hS
  have HN0 := Lib.hid hn0
  obtain ⟨i0, hi, hz0, hz1, hz2⟩ := info_parts info24
  have HI := Lib.hid (And.intro hi (And.intro hz0 (And.intro hz1 hz2)))
  have BX : Blk (w.alloc (Obj.cells #[Value.string ⟨#[]⟩, Value.string ⟨#[]⟩, Value.slice none 0 0] 24)) w.heap.size 24 #[Value.string ⟨#[]⟩, Value.string ⟨#[]⟩, Value.slice none 0 0] := Blk.new w _ _
  clear hS hn0 hi hz0 hz1 hz2 c0 c1 c2
  go_enter Tryz.func90, Tryz.ntmps90
  go_wp2_with fail
  refine (hx0 _ (HS.out.later (by repeat (first | (with_reducible exact hbW) | (with_reducible exact Below.refl _ _) | (with_reducible refine Below.alloc ?_ (by first | (simp only [World.size_setCell, World.size_alloc, dsz]; omega) | omega) _) | (with_reducible refine Below.setCell ?_ (by first | (simp only [World.size_setCell, World.size_alloc, dsz]; omega) | omega) _) | (with_reducible refine Below.drew ?_))))).mono ?_
  rintro e w2 ⟨⟨u, rfl, ⟨L, BB, hBB, hrow, hone⟩, hnil⟩, hb2⟩
  have hbW := Below.trans (show Below w.heap.size w _ from (by repeat (first | (with_reducible exact hbW) | (with_reducible exact Below.refl _ _) | (with_reducible refine Below.alloc ?_ (by first | (simp only [World.size_setCell, World.size_alloc, dsz]; omega) | omega) _) | (with_reducible refine Below.setCell ?_ (by first | (simp only [World.size_setCell, World.size_alloc, dsz]; omega) | omega) _) | (with_reducible refine Below.drew ?_)))) (hb2.mono (by first | (simp only [World.size_setCell, World.size_alloc, dsz]; omega) | omega))
  have hsz := hbW.size
  have BX := BX.later (B := w.heap.size + 1) (Below.trans (by repeat (first | (with_reducible exact Below.refl _ _) | (with_reducible refine Below.alloc ?_ (by first | (simp only [World.size_setCell, World.size_alloc, dsz]; omega) | omega) _) | (with_reducible refine Below.drew ?_))) (hb2.mono (by first | (simp only [World.size_setCell, World.size_alloc, dsz]; omega) | omega))) (by omega)
  obtain ⟨g, cap, rfl, hgB⟩ : ∃ g cap, u = .slice (some ⟨g, 0, none⟩) n cap ∧ BB ≤ g := by
    rcases hrow.2 with ⟨_, h⟩ | ⟨g, cap, _, h1, h2, _⟩
    · have := HN0.out; omega
    · exact ⟨g, cap, h1, h2⟩
  have HROW := Lib.hid hrow
  have HONE := Lib.hid hone
  clear hrow hone hnil hBB
  have bxl := BX.lt
  have f0 := BX.frozen 0
  have f1 := BX.frozen 1
  have f2 := BX.frozen 2
  have x0 := BX.cell 0 _ rfl
  have x1 := BX.cell 1 _ rfl
  have x2 := BX.cell 2 _ rfl
  have k0 := (hbW.cell (p := ⟨b, 1, none⟩) ltb).trans h0
  have k1 := (hbW.cell (p := ⟨b, 2, none⟩) ltb).trans h1
  have k2 := (hbW.cell (p := ⟨b, 3, none⟩) ltb).trans h2
  have lb2 : b < w2.heap.size := by omega
  have mX := World.new_ne w2 ⟨w.heap.size, 0, none⟩ x0
  clear hb2
  go_wp2_with fail
  have BY : Blk (w2.alloc (Obj.cells #[Value.string ⟨#[102, 105, 101, 108, 100]⟩, Value.string ⟨#[]⟩, (Value.slice (some ⟨g, 0, none⟩) n cap)] 24)) w2.heap.size 24 #[Value.string ⟨#[102, 105, 101, 108, 100]⟩, Value.string ⟨#[]⟩, (Value.slice (some ⟨g, 0, none⟩) n cap)] := Blk.new w2 _ _
  have nY : w.heap.size ≠ w2.heap.size := by omega
  have hsY := hsz
  obtain ⟨y0, y1, y2⟩ := And.intro (BY.cell 0 _ rfl) (And.intro (BY.cell 1 _ rfl) (BY.cell 2 _ rfl))
  obtain ⟨g1, g2⟩ := And.intro (BY.frozen 1) (BY.frozen 2)
  go_region_law (first
        | (refine step_call (by rfl) 61 _ _ (by rfl) #[vx] (by first | (simp [Act.eval]; done) | (simp [Act.eval, Act.put]; done) | rfl) (enters_of Tryz.func61 (by kernel_rfl) rfl) (hx1 _ (HS.out.later (by repeat (first | (with_reducible exact hbW) | (with_reducible exact Below.refl _ _) | (with_reducible refine Below.alloc ?_ (by first | (simp only [World.size_setCell, World.size_alloc, dsz]; omega) | omega) _) | (with_reducible refine Below.setCell ?_ (by first | (simp only [World.size_setCell, World.size_alloc, dsz]; omega) | omega) _) | (with_reducible refine Below.drew ?_))))) ?_
           rintro e w3 ⟨⟨kk, t2, a2, l2, c2, rfl⟩, hb2⟩
           refine ⟨_, rfl, ?_⟩
           have hbW := Below.trans (show Below w.heap.size w _ from (by repeat (first | (with_reducible exact hbW) | (with_reducible exact Below.refl _ _) | (with_reducible refine Below.alloc ?_ (by first | (simp only [World.size_setCell, World.size_alloc, dsz]; omega) | omega) _) | (with_reducible refine Below.setCell ?_ (by first | (simp only [World.size_setCell, World.size_alloc, dsz]; omega) | omega) _) | (with_reducible refine Below.drew ?_)))) (hb2.mono (by first | (simp only [World.size_setCell, World.size_alloc, dsz]; omega) | omega))
           have hsz := hbW.size
           have BX := BX.later (B := w.heap.size + 1) (Below.trans (by repeat (first | (with_reducible exact Below.refl _ _) | (with_reducible refine Below.alloc ?_ (by first | (simp only [World.size_setCell, World.size_alloc, dsz]; omega) | omega) _) | (with_reducible refine Below.drew ?_))) (hb2.mono (by first | (simp only [World.size_setCell, World.size_alloc, dsz]; omega) | omega))) (by omega)
           have BY := BY.later (B := w2.heap.size + 1) (Below.trans (by repeat (first | (with_reducible exact Below.refl _ _) | (with_reducible refine Below.alloc ?_ (by first | (simp only [World.size_setCell, World.size_alloc, dsz]; omega) | omega) _) | (with_reducible refine Below.drew ?_))) (hb2.mono (by first | (simp only [World.size_setCell, World.size_alloc, dsz]; omega) | omega))) (by omega)
           have HROW := Lib.hid (owns_kept ((HROW.out.alloc _).drew) hb2)
           have bxl := BX.lt
           have f0 := BX.frozen 0
           have f1 := BX.frozen 1
           have f2 := BX.frozen 2
           have x0 := BX.cell 0 _ rfl
           have x1 := BX.cell 1 _ rfl
           have x2 := BX.cell 2 _ rfl
           have byl := BY.lt
           have g1 := BY.frozen 1
           have g2 := BY.frozen 2
           have y0 := BY.cell 0 _ rfl
           have y1 := BY.cell 1 _ rfl
           have y2 := BY.cell 2 _ rfl
           have k0 := (hbW.cell (p := ⟨b, 1, none⟩) ltb).trans h0
           have k1 := (hbW.cell (p := ⟨b, 2, none⟩) ltb).trans h1
           have k2 := (hbW.cell (p := ⟨b, 3, none⟩) ltb).trans h2
           have lb3 : b < w3.heap.size := by omega
           clear hb2)
        | (refine step_call (by rfl) 78 _ _ (by rfl) #[.slice (some ⟨w3.heap.size, 0, none⟩) 1 1] (by first | (simp [Act.eval]; done) | (simp [Act.eval, Act.put]; done) | rfl) (enters_of Tryz.func78 (by kernel_rfl) rfl) (kids_id _ _) ?_
           rintro e w4 ⟨rfl, rfl⟩
           refine ⟨_, rfl, ?_⟩)
        | (refine step_append_lies _ (by rfl) (.tmp 15) (.tmp 17) 22 (by rfl) w3.heap.size 24 i0 (.agg #[.string ⟨#[]⟩, .string ⟨#[]⟩, .slice none 0 0]) 3 56 under22 HI.out.1 HI.out.2.1 HI.out.2.2.1 HI.out.2.2.2 (by rfl) (by decide) (.slice (some ⟨w3.heap.size, 0, none⟩) 1 1) 1 [.string kk, .string t2, .slice a2 l2 c2] (by rfl) (own_one w3 (.string kk) (.string t2) (.slice a2 l2 c2)) ⟨g, 0, none⟩ n cap L (by rfl) (by have := HROW.out.1; omega) (owns_cells (HROW.out.alloc (Obj.cells #[Value.string kk, Value.string t2, Value.slice a2 l2 c2] 24))) HONE.out HN0.out (by unfold maxLen; omega) (by omega) (by simp) (w3.heap.size + 1) (by simp) ?_
           intro gg cap' w5 hown5 hgrow5 hat5 hlt5
           have hal5 := (Below.refl w3.heap.size w3).alloc (Nat.le_refl _) (Obj.cells #[Value.string kk, Value.string t2, Value.slice a2 l2 c2] 24)
           have hb5 : Below w3.heap.size w3 w5 := hal5.grown hgrow5 (by simp) (fun k hk => by cases hk; exact Nat.le_refl _)
           have hbW := hbW.trans (hb5.mono hsz)
           have hsz := hbW.size
           have BX := BX.later hb5 (by omega)
           have BY := BY.later hb5 (by omega)
           have bxl := BX.lt
           have f0 := BX.frozen 0
           have f1 := BX.frozen 1
           have f2 := BX.frozen 2
           have x0 := BX.cell 0 _ rfl
           have x1 := BX.cell 1 _ rfl
           have x2 := BX.cell 2 _ rfl
           have byl := BY.lt
           have g1 := BY.frozen 1
           have g2 := BY.frozen 2
           have y0 := BY.cell 0 _ rfl
           have y1 := BY.cell 1 _ rfl
           have y2 := BY.cell 2 _ rfl
           have k0 := (hbW.cell (p := ⟨b, 1, none⟩) ltb).trans h0
           have k1 := (hbW.cell (p := ⟨b, 2, none⟩) ltb).trans h1
           have k2 := (hbW.cell (p := ⟨b, 3, none⟩) ltb).trans h2
           clear hown5 hgrow5 hat5 hal5 hb5))
  all_goals go_wp2_with fail
  all_goals refine bodyPost_ret (ret_node rfl _ rfl (by first | (with_reducible exact Blk.node3 (BX.other _ _ _ nY)) | (with_reducible exact Blk.node3 ((BX.other _ _ _ nY).other _ _ _ nY)) | (with_reducible exact (Blk.node3 (BX.other _ _ _ nY)).later ((Below.refl _ _).alloc (Nat.le_refl _) _) (by first | (simp only [World.size_setCell, World.size_alloc, dsz]; omega) | omega)) | (with_reducible exact (Blk.node3 ((BX.other _ _ _ nY).other _ _ _ nY)).later ((Below.refl _ _).alloc (Nat.le_refl _) _) (by first | (simp only [World.size_setCell, World.size_alloc, dsz]; omega) | omega)))) rfl ⟨⟨_, _, _, _, _, rfl⟩, ?_⟩
  all_goals exact (by repeat (first | (with_reducible exact hbW) | (with_reducible exact Below.refl _ _) | (with_reducible refine Below.alloc ?_ (by first | (simp only [World.size_setCell, World.size_alloc, dsz]; omega) | omega) _) | (with_reducible refine Below.setCell ?_ (by first | (simp only [World.size_setCell, World.size_alloc, dsz]; omega) | omega) _) | (with_reducible refine Below.drew ?_)))

set_option maxHeartbeats 4000000 in
set_option maxRecDepth 100000 in
theorem fd_11 {C : Nat → Nat → Value → Prop} (b n s : Nat) (vl vx : Value) (tt : ByteArray) (hn : n ≤ 1000000) (hn0 : 0 < n) (hx0 : LsX C 81 ⟨#[102, 105, 101, 108, 100]⟩ vl 80 n) (hx1 : ExOK C vx) (w : World) (hS : Sees C w) (c0 : C b 1 (vl)) (c1 : C b 2 (vx)) (c2 : C b 3 (Pt s)) (c3 : C s 3 (Value.string tt)) :
    Calls Tryz.prog 90 #[Pt b] w fun e w' => AnyNode e ∧ Below w.heap.size w w' := by
  have h0 := hS _ _ _ c0
  have ltb := hS.lt c0
  have n0 := World.new_ne w ⟨b, 1, none⟩ h0
  have h1 := hS _ _ _ c1
  have n1 := World.new_ne w ⟨b, 2, none⟩ h1
  have h2 := hS _ _ _ c2
  have n2 := World.new_ne w ⟨b, 3, none⟩ h2
  have h3 := hS _ _ _ c3
  have lts := hS.lt c3
  have n3 := World.new_ne w ⟨s, 3, none⟩ h3
  have HS := Lib.hid hS
  have HN0 := Lib.hid hn0
  obtain ⟨i0, hi, hz0, hz1, hz2⟩ := info_parts info24
  have HI := Lib.hid (And.intro hi (And.intro hz0 (And.intro hz1 hz2)))
  have BX : Blk (w.alloc (Obj.cells #[Value.string ⟨#[]⟩, Value.string ⟨#[]⟩, Value.slice none 0 0] 24)) w.heap.size 24 #[Value.string ⟨#[]⟩, Value.string ⟨#[]⟩, Value.slice none 0 0] := Blk.new w _ _
  clear hS hn0 hi hz0 hz1 hz2 c0 c1 c2 c3
  go_enter Tryz.func90, Tryz.ntmps90
  go_wp2_with fail
  refine (hx0 _ (HS.out.later (by repeat (first | (with_reducible exact hbW) | (with_reducible exact Below.refl _ _) | (with_reducible refine Below.alloc ?_ (by first | (simp only [World.size_setCell, World.size_alloc, dsz]; omega) | omega) _) | (with_reducible refine Below.setCell ?_ (by first | (simp only [World.size_setCell, World.size_alloc, dsz]; omega) | omega) _) | (with_reducible refine Below.drew ?_))))).mono ?_
  rintro e w2 ⟨⟨u, rfl, ⟨L, BB, hBB, hrow, hone⟩, hnil⟩, hb2⟩
  have hbW := Below.trans (show Below w.heap.size w _ from (by repeat (first | (with_reducible exact hbW) | (with_reducible exact Below.refl _ _) | (with_reducible refine Below.alloc ?_ (by first | (simp only [World.size_setCell, World.size_alloc, dsz]; omega) | omega) _) | (with_reducible refine Below.setCell ?_ (by first | (simp only [World.size_setCell, World.size_alloc, dsz]; omega) | omega) _) | (with_reducible refine Below.drew ?_)))) (hb2.mono (by first | (simp only [World.size_setCell, World.size_alloc, dsz]; omega) | omega))
  have hsz := hbW.size
  have BX := BX.later (B := w.heap.size + 1) (Below.trans (by repeat (first | (with_reducible exact Below.refl _ _) | (with_reducible refine Below.alloc ?_ (by first | (simp only [World.size_setCell, World.size_alloc, dsz]; omega) | omega) _) | (with_reducible refine Below.drew ?_))) (hb2.mono (by first | (simp only [World.size_setCell, World.size_alloc, dsz]; omega) | omega))) (by omega)
  obtain ⟨g, cap, rfl, hgB⟩ : ∃ g cap, u = .slice (some ⟨g, 0, none⟩) n cap ∧ BB ≤ g := by
    rcases hrow.2 with ⟨_, h⟩ | ⟨g, cap, _, h1, h2, _⟩
    · have := HN0.out; omega
    · exact ⟨g, cap, h1, h2⟩
  have HROW := Lib.hid hrow
  have HONE := Lib.hid hone
  clear hrow hone hnil hBB
  have bxl := BX.lt
  have f0 := BX.frozen 0
  have f1 := BX.frozen 1
  have f2 := BX.frozen 2
  have x0 := BX.cell 0 _ rfl
  have x1 := BX.cell 1 _ rfl
  have x2 := BX.cell 2 _ rfl
  have k0 := (hbW.cell (p := ⟨b, 1, none⟩) ltb).trans h0
  have k1 := (hbW.cell (p := ⟨b, 2, none⟩) ltb).trans h1
  have k2 := (hbW.cell (p := ⟨b, 3, none⟩) ltb).trans h2
  have k3 := (hbW.cell (p := ⟨s, 3, none⟩) lts).trans h3
  have lb2 : b < w2.heap.size := by omega
  have ls2 : s < w2.heap.size := by omega
  have mX := World.new_ne w2 ⟨w.heap.size, 0, none⟩ x0
  clear hb2
  go_wp2_with fail
  have BY : Blk (w2.alloc (Obj.cells #[Value.string ⟨#[102, 105, 101, 108, 100]⟩, Value.string ⟨#[]⟩, (Value.slice (some ⟨g, 0, none⟩) n cap)] 24)) w2.heap.size 24 #[Value.string ⟨#[102, 105, 101, 108, 100]⟩, Value.string ⟨#[]⟩, (Value.slice (some ⟨g, 0, none⟩) n cap)] := Blk.new w2 _ _
  have nY : w.heap.size ≠ w2.heap.size := by omega
  have hsY := hsz
  obtain ⟨y0, y1, y2⟩ := And.intro (BY.cell 0 _ rfl) (And.intro (BY.cell 1 _ rfl) (BY.cell 2 _ rfl))
  obtain ⟨g1, g2⟩ := And.intro (BY.frozen 1) (BY.frozen 2)
  go_region_law (first
        | (refine step_call (by rfl) 61 _ _ (by rfl) #[vx] (by first | (simp [Act.eval]; done) | (simp [Act.eval, Act.put]; done) | rfl) (enters_of Tryz.func61 (by kernel_rfl) rfl) (hx1 _ (HS.out.later (by repeat (first | (with_reducible exact hbW) | (with_reducible exact Below.refl _ _) | (with_reducible refine Below.alloc ?_ (by first | (simp only [World.size_setCell, World.size_alloc, dsz]; omega) | omega) _) | (with_reducible refine Below.setCell ?_ (by first | (simp only [World.size_setCell, World.size_alloc, dsz]; omega) | omega) _) | (with_reducible refine Below.drew ?_))))) ?_
           rintro e w3 ⟨⟨kk, t2, a2, l2, c2, rfl⟩, hb2⟩
           refine ⟨_, rfl, ?_⟩
           have hbW := Below.trans (show Below w.heap.size w _ from (by repeat (first | (with_reducible exact hbW) | (with_reducible exact Below.refl _ _) | (with_reducible refine Below.alloc ?_ (by first | (simp only [World.size_setCell, World.size_alloc, dsz]; omega) | omega) _) | (with_reducible refine Below.setCell ?_ (by first | (simp only [World.size_setCell, World.size_alloc, dsz]; omega) | omega) _) | (with_reducible refine Below.drew ?_)))) (hb2.mono (by first | (simp only [World.size_setCell, World.size_alloc, dsz]; omega) | omega))
           have hsz := hbW.size
           have BX := BX.later (B := w.heap.size + 1) (Below.trans (by repeat (first | (with_reducible exact Below.refl _ _) | (with_reducible refine Below.alloc ?_ (by first | (simp only [World.size_setCell, World.size_alloc, dsz]; omega) | omega) _) | (with_reducible refine Below.drew ?_))) (hb2.mono (by first | (simp only [World.size_setCell, World.size_alloc, dsz]; omega) | omega))) (by omega)
           have BY := BY.later (B := w2.heap.size + 1) (Below.trans (by repeat (first | (with_reducible exact Below.refl _ _) | (with_reducible refine Below.alloc ?_ (by first | (simp only [World.size_setCell, World.size_alloc, dsz]; omega) | omega) _) | (with_reducible refine Below.drew ?_))) (hb2.mono (by first | (simp only [World.size_setCell, World.size_alloc, dsz]; omega) | omega))) (by omega)
           have HROW := Lib.hid (owns_kept ((HROW.out.alloc _).drew) hb2)
           have bxl := BX.lt
           have f0 := BX.frozen 0
           have f1 := BX.frozen 1
           have f2 := BX.frozen 2
           have x0 := BX.cell 0 _ rfl
           have x1 := BX.cell 1 _ rfl
           have x2 := BX.cell 2 _ rfl
           have byl := BY.lt
           have g1 := BY.frozen 1
           have g2 := BY.frozen 2
           have y0 := BY.cell 0 _ rfl
           have y1 := BY.cell 1 _ rfl
           have y2 := BY.cell 2 _ rfl
           have k0 := (hbW.cell (p := ⟨b, 1, none⟩) ltb).trans h0
           have k1 := (hbW.cell (p := ⟨b, 2, none⟩) ltb).trans h1
           have k2 := (hbW.cell (p := ⟨b, 3, none⟩) ltb).trans h2
           have k3 := (hbW.cell (p := ⟨s, 3, none⟩) lts).trans h3
           have lb3 : b < w3.heap.size := by omega
           have ls3 : s < w3.heap.size := by omega
           clear hb2)
        | (refine step_call (by rfl) 78 _ _ (by rfl) #[.slice (some ⟨w3.heap.size, 0, none⟩) 1 1] (by first | (simp [Act.eval]; done) | (simp [Act.eval, Act.put]; done) | rfl) (enters_of Tryz.func78 (by kernel_rfl) rfl) (kids_id _ _) ?_
           rintro e w4 ⟨rfl, rfl⟩
           refine ⟨_, rfl, ?_⟩)
        | (refine step_append_lies _ (by rfl) (.tmp 15) (.tmp 17) 22 (by rfl) w3.heap.size 24 i0 (.agg #[.string ⟨#[]⟩, .string ⟨#[]⟩, .slice none 0 0]) 3 56 under22 HI.out.1 HI.out.2.1 HI.out.2.2.1 HI.out.2.2.2 (by rfl) (by decide) (.slice (some ⟨w3.heap.size, 0, none⟩) 1 1) 1 [.string kk, .string t2, .slice a2 l2 c2] (by rfl) (own_one w3 (.string kk) (.string t2) (.slice a2 l2 c2)) ⟨g, 0, none⟩ n cap L (by rfl) (by have := HROW.out.1; omega) (owns_cells (HROW.out.alloc (Obj.cells #[Value.string kk, Value.string t2, Value.slice a2 l2 c2] 24))) HONE.out HN0.out (by unfold maxLen; omega) (by omega) (by simp) (w3.heap.size + 1) (by simp) ?_
           intro gg cap' w5 hown5 hgrow5 hat5 hlt5
           have hal5 := (Below.refl w3.heap.size w3).alloc (Nat.le_refl _) (Obj.cells #[Value.string kk, Value.string t2, Value.slice a2 l2 c2] 24)
           have hb5 : Below w3.heap.size w3 w5 := hal5.grown hgrow5 (by simp) (fun k hk => by cases hk; exact Nat.le_refl _)
           have hbW := hbW.trans (hb5.mono hsz)
           have hsz := hbW.size
           have BX := BX.later hb5 (by omega)
           have BY := BY.later hb5 (by omega)
           have bxl := BX.lt
           have f0 := BX.frozen 0
           have f1 := BX.frozen 1
           have f2 := BX.frozen 2
           have x0 := BX.cell 0 _ rfl
           have x1 := BX.cell 1 _ rfl
           have x2 := BX.cell 2 _ rfl
           have byl := BY.lt
           have g1 := BY.frozen 1
           have g2 := BY.frozen 2
           have y0 := BY.cell 0 _ rfl
           have y1 := BY.cell 1 _ rfl
           have y2 := BY.cell 2 _ rfl
           have k0 := (hbW.cell (p := ⟨b, 1, none⟩) ltb).trans h0
           have k1 := (hbW.cell (p := ⟨b, 2, none⟩) ltb).trans h1
           have k2 := (hbW.cell (p := ⟨b, 3, none⟩) ltb).trans h2
           have k3 := (hbW.cell (p := ⟨s, 3, none⟩) lts).trans h3
           clear hown5 hgrow5 hat5 hal5 hb5))
  all_goals go_wp2_with fail
  all_goals refine bodyPost_ret (ret_node rfl _ rfl (by first | (with_reducible exact Blk.node3 (BX.other _ _ _ nY)) | (with_reducible exact Blk.node3 ((BX.other _ _ _ nY).other _ _ _ nY)) | (with_reducible exact (Blk.node3 (BX.other _ _ _ nY)).later ((Below.refl _ _).alloc (Nat.le_refl _) _) (by first | (simp only [World.size_setCell, World.size_alloc, dsz]; omega) | omega)) | (with_reducible exact (Blk.node3 ((BX.other _ _ _ nY).other _ _ _ nY)).later ((Below.refl _ _).alloc (Nat.le_refl _) _) (by first | (simp only [World.size_setCell, World.size_alloc, dsz]; omega) | omega)))) rfl ⟨⟨_, _, _, _, _, rfl⟩, ?_⟩
  all_goals exact (by repeat (first | (with_reducible exact hbW) | (with_reducible exact Below.refl _ _) | (with_reducible refine Below.alloc ?_ (by first | (simp only [World.size_setCell, World.size_alloc, dsz]; omega) | omega) _) | (with_reducible refine Below.setCell ?_ (by first | (simp only [World.size_setCell, World.size_alloc, dsz]; omega) | omega) _) | (with_reducible refine Below.drew ?_)))
end Go.Proofs.YtpifflakohlglaaGreatFmt

/- What is proved here: kindOf answers with the kind of whatever node of a declaration it is given, in new memory alone. -/
namespace Go.Proofs.YtpifflakohlglaaGreatFmt
open Go.RowKit Go.Shelf
set_option linter.unusedVariables false
set_option linter.unusedSimpArgs false

theorem NodeOf.any {k : ByteArray} {e : Ending} (h : NodeOf k e) : AnyNode e := ⟨k, h⟩
theorem NodeOf.cast {k k' : ByteArray} {e : Ending} (h : NodeOf k e) (hk : k = k') : NodeOf k' e := hk ▸ h
theorem kind_eq {n : N} {c : List UInt8} (h : isK n c = true) (k : ByteArray) (hk : k.toList = c) : k = n.kind := toList_inj (hk.trans (isK_eq h).symm)
theorem enN : Enters Tryz.prog 80 := enters_of Tryz.func80 (by kernel_rfl) rfl
theorem enE : Enters Tryz.prog 61 := enters_of Tryz.func61 (by kernel_rfl) rfl
theorem enF : Enters Tryz.prog 90 := enters_of Tryz.func90 (by kernel_rfl) rfl
theorem enI : Enters Tryz.prog 60 := enters_of Tryz.func60 (by kernel_rfl) rfl
theorem nm_ok {C : Nat → Nat → Value → Prop} {n : N} {s : Nat} (h : Rep C n (Nd 82 s)) : ∀ w, Sees C w → Calls Tryz.prog 80 #[Pt s] w fun e w' => NodeOf ⟨#[110, 97, 109, 101]⟩ e ∧ Below w.heap.size w w' :=
  fun w hS => nm_some s n.text w hS h.ident_inv.2.2
theorem nm_opt {C : Nat → Nat → Value → Prop} {n : N} {v p : Value} (h : Rep C n v) (ho : OPt 82 v p) : NmOK C p := by
  rcases ho with ⟨rfl, rfl⟩ | ⟨s, rfl, rfl⟩
  · exact fun w hS => (nm_none w hS).mono fun e w' hx => ⟨hx.1.any, hx.2⟩
  · exact fun w hS => (nm_ok h w hS).mono fun e w' hx => ⟨hx.1.any, hx.2⟩
theorem x_nil_ok (C : Nat → Nat → Value → Prop) : ExOK C .nilIface := fun w hS => (x_nil w hS).mono fun e w' hx => ⟨hx.1.any, hx.2⟩
/-- What is known of the trees that are not greater than a number. -/
structure KOK (f : Nat) : Prop where
  ex : ∀ {C : Nat → Nat → Value → Prop} {n : N} {v : Value}, n.size ≤ f → Rep C n v → isE v = true → ∀ w, Sees C w → Calls Tryz.prog 61 #[v] w fun e w' => NodeOf n.kind e ∧ Below w.heap.size w w'
  fs : ∀ {C : Nat → Nat → Value → Prop} {n : N} {b : Nat}, n.size ≤ f → Rep C n (Nd 83 b) → FsOK C (Pt b)
  fd : ∀ {C : Nat → Nat → Value → Prop} {n : N} {b : Nat}, n.size ≤ f → Rep C n (Nd 74 b) → ∀ w, Sees C w → Calls Tryz.prog 90 #[Pt b] w fun e w' => AnyNode e ∧ Below w.heap.size w w'
theorem KOK.exo {f : Nat} (h : KOK f) {C : Nat → Nat → Value → Prop} {n : N} {v : Value} (hn : n.size ≤ f) (hR : Rep C n v) (hv : v = .nilIface ∨ isE v = true) : ExOK C v := by
  rcases hv with rfl | hv
  · exact x_nil_ok C
  · exact fun w hS => (h.ex hn hR hv w hS).mono fun e w' hx => ⟨hx.1.any, hx.2⟩
theorem KOK.fso {f : Nat} (h : KOK f) {C : Nat → Nat → Value → Prop} {n : N} {v p : Value} (hn : n.size ≤ f) (hR : Rep C n v) (ho : OPt 83 v p) : FsOK C p := by
  rcases ho with ⟨rfl, rfl⟩ | ⟨b, rfl, rfl⟩
  · exact fun w hS => (fs_none w hS).mono fun e w' hx => ⟨hx.1.any, hx.2⟩
  · exact h.fs hn hR
theorem names_ls {C : Nat → Nat → Value → Prop} {ks : List N} {v : Value} {U : Nat → Nat} (k : ByteArray) (hl : LAt C v ks.length (fun i => Pt (U i))) (hn : ks.length ≤ 1000000) (hr : ∀ i m, ks[i]? = some m → Rep C m (Nd 82 (U i))) : LsX C 81 k v 80 ks.length :=
  ls_listIdent k v ks.length 80 _ hl hn enN fun i hi w hS => (nm_ok (hr i _ (List.getElem?_eq_getElem hi)) w hS).mono fun e w' hx => ⟨hx.1.any, hx.2⟩
theorem field_ok {f : Nat} (h : KOK f) (hf : f ≤ 1000000) {C : Nat → Nat → Value → Prop} {n : N} {b : Nat} (hn : n.size ≤ f + 1) (hR : Rep C n (Nd 74 b)) : ∀ w, Sees C w → Calls Tryz.prog 90 #[Pt b] w fun e w' => AnyNode e ∧ Below w.heap.size w w' := by
  intro w hS
  have hnl := N.len_lt n
  cases hR with
  | field _ _ x r vx U vl vt pt hk h0 cd cl hl hr ex cx rx ct ot rt cc =>
    have hx : x.size ≤ f := by have := kid_lt (n := n) (m := x) (by simp [h0]); omega
    have hrl : r.length < n.kids.length := by rw [h0]; simp
    have hex : ExOK C vx := h.exo hx rx (.inr ex)
    have hls := names_ls ⟨#[102, 105, 101, 108, 100]⟩ hl (by omega) hr
    rcases ot with ⟨rfl, rfl⟩ | ⟨q, rfl, rfl⟩
    · by_cases h00 : r.length = 0
      · exact fd_00 b r.length vl vx (by omega) h00 hls hex w hS cl cx ct
      · exact fd_10 b r.length vl vx (by omega) (by omega) hls hex w hS cl cx ct
    · have ht : Rep C (litN n.text) (Nd 78 q) := by
        unfold tagN at rt
        split at rt
        · cases rt with
          | literal _ _ hk' => simp [isK, noneN, N.kind] at hk'
        · exact rt
      have hc := ht.lit_inv.2.2
      by_cases h00 : r.length = 0
      · exact fd_01 b r.length q vl vx _ (by omega) h00 hls hex w hS cl cx ct hc
      · exact fd_11 b r.length q vl vx _ (by omega) (by omega) hls hex w hS cl cx ct hc
theorem fields_ok {f : Nat} (h : KOK f) (hf : f ≤ 1000000) {C : Nat → Nat → Value → Prop} {n : N} {b : Nat} (hn : n.size ≤ f + 1) (hR : Rep C n (Nd 83 b)) : FsOK C (Pt b) := by
  intro w hS
  have hnl := N.len_lt n
  cases hR with
  | fields _ _ U vl hk ht cl hl hr =>
    have hls := ls_listField ⟨#[102, 105, 101, 108, 100, 115]⟩ vl n.kids.length 90 _ hl (by omega) enF fun i hi w hS => h.fd (by have := N.size_kid (List.getElem?_eq_getElem hi); omega) (hr i _ (List.getElem?_eq_getElem hi)) w hS
    exact (fs_some b vl hls.ok w hS cl).mono fun e w' hx => ⟨hx.1.any, hx.2⟩
theorem expr_ok {f : Nat} (h : KOK f) (hf : f ≤ 1000000) {C : Nat → Nat → Value → Prop} {n : N} {v : Value} (hn : n.size ≤ f + 1) (hR : Rep C n v) (hv : isE v = true) : ∀ w, Sees C w → Calls Tryz.prog 61 #[v] w fun e w' => NodeOf n.kind e ∧ Below w.heap.size w w' := by
  intro w hS
  have cast : ∀ {k : ByteArray} {v : Value}, k = n.kind → (Calls Tryz.prog 61 #[v] w fun e w' => NodeOf k e ∧ Below w.heap.size w w') → Calls Tryz.prog 61 #[v] w fun e w' => NodeOf n.kind e ∧ Below w.heap.size w w' := by
    intro k v hk hc
    rw [← hk]
    exact hc
  have two : ∀ {a b : Value}, ExOK C a → ExOK C b → ∀ v, v = a ∨ v = b → ExOK C v := by
    intro a b ha hb v hv
    rcases hv with rfl | rfl
    · exact ha
    · exact hb
  have sz : ∀ {x : N}, x ∈ n.kids → x.size ≤ f := fun hx => by have := kid_lt hx; omega
  cases hR with
  | name _ s hk h0 c => exact cast (kind_eq hk _ (by simp)) (x_name s (nm_ok (.name n s hk h0 c)) w hS)
  | literal _ b hk h0 c => exact cast (kind_eq hk _ (by simp)) (x_literal b _ w hS c)
  | select _ b x vx s hk h0 ex cx cs rx rs => exact cast (kind_eq hk _ (by simp)) (x_select b s vx _ (h.exo (sz (by simp [h0])) rx (.inr ex)) w hS cx cs rs.ident_inv.2.2)
  | star _ b x vx hk ht h0 ex cx rx => exact cast (kind_eq hk _ (by simp)) (x_star b vx (h.exo (sz (by simp [h0])) rx (.inr ex)) w hS cx)
  | array _ b x vx y vy hk ht h0 ex ey cx cy rx ry => exact cast (kind_eq hk _ (by simp)) (x_array b vx vy (two (h.exo (sz (by simp [h0])) rx ex) (h.exo (sz (by simp [h0])) ry (.inr ey))) w hS cx cy)
  | map _ b x vx y vy hk ht h0 ex ey cx cy rx ry => exact cast (kind_eq hk _ (by simp)) (x_map b vx vy (two (h.exo (sz (by simp [h0])) rx (.inr ex)) (h.exo (sz (by simp [h0])) ry (.inr ey))) w hS cx cy)
  | chan _ b x vx d hk hd h0 ex cd cx rx => exact cast (kind_eq hk _ (by simp)) (x_chan b d (by omega) vx (h.exo (sz (by simp [h0])) rx (.inr ex)) w hS cd cx)
  | signature _ b x px y vy py hk ht h0 ct cx cy oy rx ry =>
    have h1 : FsOK C (Pt px) := h.fs (sz (by simp [h0])) rx
    have h2 : FsOK C py := h.fso (sz (by simp [h0])) ry oy
    exact cast (kind_eq hk _ (by simp)) (x_signature b px py (fun v hv => by rcases hv with rfl | rfl; exact h1; exact h2) w hS cx cy)
  | struct _ b x px hk ht h0 cx rx => exact cast (kind_eq hk _ (by simp)) (x_struct b px (h.fs (sz (by simp [h0])) rx) w hS cx)
  | interface _ b x px hk ht h0 cx rx => exact cast (kind_eq hk _ (by simp)) (x_interface b px (h.fs (sz (by simp [h0])) rx) w hS cx)
  | _ => simp [isE] at hv
theorem k_all (f : Nat) (hf : f ≤ 1000000) : KOK f := by
  induction f with
  | zero =>
    refine ⟨?_, ?_, ?_⟩
    · intro C n v hn; have := N.size_eq n; omega
    · intro C n b hn; have := N.size_eq n; omega
    · intro C n b hn; have := N.size_eq n; omega
  | succ f ih =>
    have h := ih (by omega)
    exact ⟨fun hn hR hv => expr_ok h (by omega) hn hR hv, fun hn hR => fields_ok h (by omega) hn hR, fun hn hR => field_ok h (by omega) hn hR⟩
end Go.Proofs.YtpifflakohlglaaGreatFmt

/- What is proved here: kindOf answers with the kind of whatever node of a declaration it is given, in new memory alone. Condition: the table of tokens lies as the program lays it. -/
namespace Go.Proofs.YtpifflakohlglaaGreatFmt
open Go.RowKit Go.Shelf
set_option linter.unusedVariables false
set_option linter.unusedSimpArgs false

theorem item_ok {f : Nat} (h : KOK f) (hf : f ≤ 1000000) {C : Nat → Nat → Value → Prop} {n : N} {v : Value} (hn : n.size ≤ f + 1) (hR : Rep C n v) (hv : isS v = true) : ∀ w, Sees C w → Calls Tryz.prog 60 #[v] w fun e w' => NodeOf n.kind e ∧ Below w.heap.size w w' := by
  intro w hS
  have sz : ∀ {x : N}, x ∈ n.kids → x.size ≤ f := fun hx => by have := kid_lt hx; omega
  have cast : ∀ {k : ByteArray} {v : Value}, k = n.kind → (Calls Tryz.prog 60 #[v] w fun e w' => NodeOf k e ∧ Below w.heap.size w w') → Calls Tryz.prog 60 #[v] w fun e w' => NodeOf n.kind e ∧ Below w.heap.size w w' := by
    intro k v hk hc
    rw [← hk]
    exact hc
  cases hR with
  | path _ b x vx px t hk h0 cd cx ox rx ct rt cc => exact cast (kind_eq hk _ (by simp)) (s_path b t px _ (nm_opt rx ox) w hS cx ct rt.lit_inv.2.2)
  | value _ b x y z U vl vy W wl hk ht h0 kx tx kz tz cd cl hl hr ey cy ry cw hw ew hz cc =>
    have hlx : x.kids.length < x.size := N.len_lt x
    have hlz : z.kids.length < z.size := N.len_lt z
    have hsx := sz (x := x) (by simp [h0])
    have hsz := sz (x := z) (by simp [h0])
    have h1 := names_ls ⟨#[108, 105, 115, 116]⟩ hl (by omega) hr
    have h2 : LsX C 82 ⟨#[108, 105, 115, 116]⟩ wl 61 z.kids.length := ls_listExpr _ wl _ 61 _ hw (by omega) enE fun i hi w hS =>
      (h.ex (by have := N.size_kid (m := z) (List.getElem?_eq_getElem hi); omega) (hz i _ (List.getElem?_eq_getElem hi)) (ew i _ (List.getElem?_eq_getElem hi)) w hS).mono fun e w' hx => ⟨hx.1.any, hx.2⟩
    exact cast (kind_eq hk _ (by simp)) (s_value b vl vy wl h1.ok (h.exo (sz (by simp [h0])) ry ey) h2.ok w hS cl cy cw)
  | type _ b x vx s d hk h0 cd cs rs cp ca ex cx rx cc =>
    have hx := h.exo (sz (x := x) (by simp [h0])) rx (.inr ex)
    rcases hk with ⟨hk, rfl⟩ | ⟨hk, rfl⟩
    · exact cast (kind_eq hk _ (by simp)) (s_type b s vx _ hx w hS cs rs.ident_inv.2.2 ca cx)
    · exact cast (kind_eq hk _ (by simp)) (s_alias b s vx _ hx w hS cs rs.ident_inv.2.2 ca cx)
  | _ => simp [isS] at hv
theorem word_size {w : World} {i : Nat} {s : ByteArray} (h : tokW[i]? = some s.toList) : s.size ≤ 1000 := by
  have hall : tokW.all (fun l => decide (l.length ≤ 1000)) = true := by decide
  have := List.all_eq_true.1 hall _ (List.mem_of_getElem? h)
  rw [ByteArray.toList_eq] at this
  simpa using this
theorem decl_ok {f : Nat} (h : KOK f) (hf : f ≤ 1000000) {C : Nat → Nat → Value → Prop} {n : N} {t b : Nat} (ht : t = 227 ∨ t = 234) (hn : n.size ≤ f + 1) (hR : Rep C n (Nd t b)) (w : World) (hS : Sees C w) (hT : TokTab w) :
    Calls Tryz.prog 59 #[Nd t b] w fun e w' => NodeOf n.kind e ∧ Below w.heap.size w w' := by
  have sz : ∀ {x : N}, x ∈ n.kids → x.size ≤ f := fun hx => by have := kid_lt hx; omega
  have hnl := N.len_lt n
  have hmem : ∀ {m i}, n.kids[i]? = some m → m ∈ n.kids := fun h => List.mem_of_getElem? h
  cases hR with
  | func _ _ x y z vx px s t vz pz hk h0 cd cx ox rx cs rs ct rt cz oz rz =>
    have hz : pz = .pointer none ∨ ∃ q, pz = Pt q := by
      rcases oz with ⟨_, h⟩ | ⟨q, _, h⟩
      · exact .inl h
      · exact .inr ⟨q, h⟩
    have h1 : FsOK C px := h.fso (sz (by simp [h0])) rx ox
    have h2 : ExOK C (Nd 94 t) := h.exo (sz (by simp [h0])) rt (.inr rfl)
    have hq := d_func b s t px pz n.text hz h1 h2 w hS cx cs rs.ident_inv.2.2 ct cz
    rw [kind_eq hk ⟨#[102, 117, 110, 99]⟩ (by simp)] at hq
    exact hq
  | gen _ _ W wl tk d hk hd cd ct cg cw hw ew hz =>
    have hls : LsX C 76 ⟨#[]⟩ wl 60 n.kids.length := ls_listSpec _ wl _ 60 _ hw (by omega) enI fun i hi w hS =>
      (item_ok h (by omega) (by have := sz (hmem (List.getElem?_eq_getElem hi)); omega) (hz i _ (List.getElem?_eq_getElem hi)) (ew i _ (List.getElem?_eq_getElem hi)) w hS).mono fun e w' hx => ⟨hx.1.any, hx.2⟩
    have key : ∀ (i : Nat) (l : List UInt8), tokW[i]? = some l → tk = 61 + i → isK n ([100, 101, 99, 108, 97, 114, 101, 32] ++ l) = true → Calls Tryz.prog 59 #[Nd 227 b] w fun e w' => NodeOf n.kind e ∧ Below w.heap.size w w' := by
      intro i l hi htk hk2
      obtain ⟨s, hs, hg⟩ := hT i l hi
      have hi25 := tokW_len hi
      have hne : s.toList.isEmpty = false := by rw [hs]; exact tokW_some l (List.mem_of_getElem? hi)
      have hkk : (⟨#[100, 101, 99, 108, 97, 114, 101, 32]⟩ ++ s : ByteArray) = n.kind := by
        refine toList_inj ?_
        rw [isK_eq hk2, ← hs, ByteArray.toList_eq, ByteArray.toList_eq]
        simp
      have hc2 : C b 2 (.int .i64 (61 + (i : Int))) := by
        have h := ct
        rw [htk] at h
        simpa using h
      rw [← hkk]
      rcases hd with ⟨_, rfl⟩ | ⟨_, rfl⟩
      · exact d_gen0 b i wl s hi25 hne (word_size (w := w) (by rw [hi, hs])) hls.ok w hg hS cw hc2 cg
      · exact d_gen1 b i wl s hi25 hne (word_size (w := w) (by rw [hi, hs])) hls.ok w hg hS cw hc2 cg
    unfold tokOf at hk
    repeat' split at hk
    · cases hk; exact key 14 _ rfl rfl ‹_›
    · cases hk; exact key 3 _ rfl rfl ‹_›
    · cases hk; exact key 23 _ rfl rfl ‹_›
    · cases hk; exact key 24 _ rfl rfl ‹_›
    · cases hk
  | _ => simp at ht
theorem fld0 (a b : ByteArray) (c : Option Addr) (d e : Nat) (w : World) : (Instr.field 24 (.agg #[.string a, .string b, .slice c d e]) 0).run Tryz.prog w = .ok (.string a) w := by kernel_rfl
attribute [local go_sem] fld0 as_FieldListP as_FieldP as_BlockStmtP nil_FieldListP nil_FieldP nil_BlockStmtP in_Decl_nil in_Spec_nil in_Expr_nil
attribute [local go_sem] in_Decl_IdentP in_Decl_BasicLitP in_Decl_SelectorExprP in_Decl_StarExprP in_Decl_ArrayTypeP in_Decl_MapTypeP in_Decl_ChanTypeP in_Decl_FuncTypeP in_Decl_StructTypeP in_Decl_InterfaceTypeP in_Decl_ImportSpecP in_Decl_ValueSpecP in_Decl_TypeSpecP in_Decl_GenDeclP in_Decl_FuncDeclP in_Decl_FieldListP in_Decl_FieldP in_Decl_BlockStmtP in_Spec_IdentP in_Spec_BasicLitP in_Spec_SelectorExprP in_Spec_StarExprP in_Spec_ArrayTypeP in_Spec_MapTypeP in_Spec_ChanTypeP in_Spec_FuncTypeP in_Spec_StructTypeP in_Spec_InterfaceTypeP in_Spec_ImportSpecP in_Spec_ValueSpecP in_Spec_TypeSpecP in_Spec_GenDeclP in_Spec_FuncDeclP in_Spec_FieldListP in_Spec_FieldP in_Spec_BlockStmtP in_Expr_IdentP in_Expr_BasicLitP in_Expr_SelectorExprP in_Expr_StarExprP in_Expr_ArrayTypeP in_Expr_MapTypeP in_Expr_ChanTypeP in_Expr_FuncTypeP in_Expr_StructTypeP in_Expr_InterfaceTypeP in_Expr_ImportSpecP in_Expr_ValueSpecP in_Expr_TypeSpecP in_Expr_GenDeclP in_Expr_FuncDeclP in_Expr_FieldListP in_Expr_FieldP in_Expr_BlockStmtP

set_option maxRecDepth 100000 in
theorem ko_GenDeclP (b : Nat) (k : ByteArray) (w : World) (hx : Calls Tryz.prog 59 #[Nd 227 b] w fun e w' => NodeOf k e ∧ Below w.heap.size w w') : Calls Tryz.prog 25 #[Nd 227 b] w fun e w' => e = .returned (.string k) ∧ Below w.heap.size w w' := by
  have HX := Lib.hid hx
  clear hx
  go_enter Tryz.func25, Tryz.ntmps25
  go_wp2_with fail
  refine HX.out.mono ?_
  rintro e w2 ⟨⟨t2, a2, l2, c2, rfl⟩, hb2⟩
  go_wp2_with fail
  go_ret
  exact ⟨rfl, hb2⟩

set_option maxRecDepth 100000 in
theorem ko_FuncDeclP (b : Nat) (k : ByteArray) (w : World) (hx : Calls Tryz.prog 59 #[Nd 234 b] w fun e w' => NodeOf k e ∧ Below w.heap.size w w') : Calls Tryz.prog 25 #[Nd 234 b] w fun e w' => e = .returned (.string k) ∧ Below w.heap.size w w' := by
  have HX := Lib.hid hx
  clear hx
  go_enter Tryz.func25, Tryz.ntmps25
  go_wp2_with fail
  refine HX.out.mono ?_
  rintro e w2 ⟨⟨t2, a2, l2, c2, rfl⟩, hb2⟩
  go_wp2_with fail
  go_ret
  exact ⟨rfl, hb2⟩

set_option maxRecDepth 100000 in
theorem ko_ImportSpecP (b : Nat) (k : ByteArray) (w : World) (hx : Calls Tryz.prog 60 #[Nd 217 b] w fun e w' => NodeOf k e ∧ Below w.heap.size w w') : Calls Tryz.prog 25 #[Nd 217 b] w fun e w' => e = .returned (.string k) ∧ Below w.heap.size w w' := by
  have HX := Lib.hid hx
  clear hx
  go_enter Tryz.func25, Tryz.ntmps25
  go_wp2_with fail
  refine HX.out.mono ?_
  rintro e w2 ⟨⟨t2, a2, l2, c2, rfl⟩, hb2⟩
  go_wp2_with fail
  go_ret
  exact ⟨rfl, hb2⟩

set_option maxRecDepth 100000 in
theorem ko_ValueSpecP (b : Nat) (k : ByteArray) (w : World) (hx : Calls Tryz.prog 60 #[Nd 220 b] w fun e w' => NodeOf k e ∧ Below w.heap.size w w') : Calls Tryz.prog 25 #[Nd 220 b] w fun e w' => e = .returned (.string k) ∧ Below w.heap.size w w' := by
  have HX := Lib.hid hx
  clear hx
  go_enter Tryz.func25, Tryz.ntmps25
  go_wp2_with fail
  refine HX.out.mono ?_
  rintro e w2 ⟨⟨t2, a2, l2, c2, rfl⟩, hb2⟩
  go_wp2_with fail
  go_ret
  exact ⟨rfl, hb2⟩

set_option maxRecDepth 100000 in
theorem ko_TypeSpecP (b : Nat) (k : ByteArray) (w : World) (hx : Calls Tryz.prog 60 #[Nd 223 b] w fun e w' => NodeOf k e ∧ Below w.heap.size w w') : Calls Tryz.prog 25 #[Nd 223 b] w fun e w' => e = .returned (.string k) ∧ Below w.heap.size w w' := by
  have HX := Lib.hid hx
  clear hx
  go_enter Tryz.func25, Tryz.ntmps25
  go_wp2_with fail
  refine HX.out.mono ?_
  rintro e w2 ⟨⟨t2, a2, l2, c2, rfl⟩, hb2⟩
  go_wp2_with fail
  go_ret
  exact ⟨rfl, hb2⟩

set_option maxRecDepth 100000 in
theorem ko_IdentP (b : Nat) (k : ByteArray) (w : World) (hx : Calls Tryz.prog 61 #[Nd 82 b] w fun e w' => NodeOf k e ∧ Below w.heap.size w w') : Calls Tryz.prog 25 #[Nd 82 b] w fun e w' => e = .returned (.string k) ∧ Below w.heap.size w w' := by
  have HX := Lib.hid hx
  clear hx
  go_enter Tryz.func25, Tryz.ntmps25
  go_wp2_with fail
  refine HX.out.mono ?_
  rintro e w2 ⟨⟨t2, a2, l2, c2, rfl⟩, hb2⟩
  go_wp2_with fail
  go_ret
  exact ⟨rfl, hb2⟩

set_option maxRecDepth 100000 in
theorem ko_BasicLitP (b : Nat) (k : ByteArray) (w : World) (hx : Calls Tryz.prog 61 #[Nd 78 b] w fun e w' => NodeOf k e ∧ Below w.heap.size w w') : Calls Tryz.prog 25 #[Nd 78 b] w fun e w' => e = .returned (.string k) ∧ Below w.heap.size w w' := by
  have HX := Lib.hid hx
  clear hx
  go_enter Tryz.func25, Tryz.ntmps25
  go_wp2_with fail
  refine HX.out.mono ?_
  rintro e w2 ⟨⟨t2, a2, l2, c2, rfl⟩, hb2⟩
  go_wp2_with fail
  go_ret
  exact ⟨rfl, hb2⟩

set_option maxRecDepth 100000 in
theorem ko_SelectorExprP (b : Nat) (k : ByteArray) (w : World) (hx : Calls Tryz.prog 61 #[Nd 106 b] w fun e w' => NodeOf k e ∧ Below w.heap.size w w') : Calls Tryz.prog 25 #[Nd 106 b] w fun e w' => e = .returned (.string k) ∧ Below w.heap.size w w' := by
  have HX := Lib.hid hx
  clear hx
  go_enter Tryz.func25, Tryz.ntmps25
  go_wp2_with fail
  refine HX.out.mono ?_
  rintro e w2 ⟨⟨t2, a2, l2, c2, rfl⟩, hb2⟩
  go_wp2_with fail
  go_ret
  exact ⟨rfl, hb2⟩

set_option maxRecDepth 100000 in
theorem ko_StarExprP (b : Nat) (k : ByteArray) (w : World) (hx : Calls Tryz.prog 61 #[Nd 124 b] w fun e w' => NodeOf k e ∧ Below w.heap.size w w') : Calls Tryz.prog 25 #[Nd 124 b] w fun e w' => e = .returned (.string k) ∧ Below w.heap.size w w' := by
  have HX := Lib.hid hx
  clear hx
  go_enter Tryz.func25, Tryz.ntmps25
  go_wp2_with fail
  refine HX.out.mono ?_
  rintro e w2 ⟨⟨t2, a2, l2, c2, rfl⟩, hb2⟩
  go_wp2_with fail
  go_ret
  exact ⟨rfl, hb2⟩

set_option maxRecDepth 100000 in
theorem ko_ArrayTypeP (b : Nat) (k : ByteArray) (w : World) (hx : Calls Tryz.prog 61 #[Nd 137 b] w fun e w' => NodeOf k e ∧ Below w.heap.size w w') : Calls Tryz.prog 25 #[Nd 137 b] w fun e w' => e = .returned (.string k) ∧ Below w.heap.size w w' := by
  have HX := Lib.hid hx
  clear hx
  go_enter Tryz.func25, Tryz.ntmps25
  go_wp2_with fail
  refine HX.out.mono ?_
  rintro e w2 ⟨⟨t2, a2, l2, c2, rfl⟩, hb2⟩
  go_wp2_with fail
  go_ret
  exact ⟨rfl, hb2⟩

set_option maxRecDepth 100000 in
theorem ko_MapTypeP (b : Nat) (k : ByteArray) (w : World) (hx : Calls Tryz.prog 61 #[Nd 148 b] w fun e w' => NodeOf k e ∧ Below w.heap.size w w') : Calls Tryz.prog 25 #[Nd 148 b] w fun e w' => e = .returned (.string k) ∧ Below w.heap.size w w' := by
  have HX := Lib.hid hx
  clear hx
  go_enter Tryz.func25, Tryz.ntmps25
  go_wp2_with fail
  refine HX.out.mono ?_
  rintro e w2 ⟨⟨t2, a2, l2, c2, rfl⟩, hb2⟩
  go_wp2_with fail
  go_ret
  exact ⟨rfl, hb2⟩

set_option maxRecDepth 100000 in
theorem ko_ChanTypeP (b : Nat) (k : ByteArray) (w : World) (hx : Calls Tryz.prog 61 #[Nd 151 b] w fun e w' => NodeOf k e ∧ Below w.heap.size w w') : Calls Tryz.prog 25 #[Nd 151 b] w fun e w' => e = .returned (.string k) ∧ Below w.heap.size w w' := by
  have HX := Lib.hid hx
  clear hx
  go_enter Tryz.func25, Tryz.ntmps25
  go_wp2_with fail
  refine HX.out.mono ?_
  rintro e w2 ⟨⟨t2, a2, l2, c2, rfl⟩, hb2⟩
  go_wp2_with fail
  go_ret
  exact ⟨rfl, hb2⟩

set_option maxRecDepth 100000 in
theorem ko_FuncTypeP (b : Nat) (k : ByteArray) (w : World) (hx : Calls Tryz.prog 61 #[Nd 94 b] w fun e w' => NodeOf k e ∧ Below w.heap.size w w') : Calls Tryz.prog 25 #[Nd 94 b] w fun e w' => e = .returned (.string k) ∧ Below w.heap.size w w' := by
  have HX := Lib.hid hx
  clear hx
  go_enter Tryz.func25, Tryz.ntmps25
  go_wp2_with fail
  refine HX.out.mono ?_
  rintro e w2 ⟨⟨t2, a2, l2, c2, rfl⟩, hb2⟩
  go_wp2_with fail
  go_ret
  exact ⟨rfl, hb2⟩

set_option maxRecDepth 100000 in
theorem ko_StructTypeP (b : Nat) (k : ByteArray) (w : World) (hx : Calls Tryz.prog 61 #[Nd 140 b] w fun e w' => NodeOf k e ∧ Below w.heap.size w w') : Calls Tryz.prog 25 #[Nd 140 b] w fun e w' => e = .returned (.string k) ∧ Below w.heap.size w w' := by
  have HX := Lib.hid hx
  clear hx
  go_enter Tryz.func25, Tryz.ntmps25
  go_wp2_with fail
  refine HX.out.mono ?_
  rintro e w2 ⟨⟨t2, a2, l2, c2, rfl⟩, hb2⟩
  go_wp2_with fail
  go_ret
  exact ⟨rfl, hb2⟩

set_option maxRecDepth 100000 in
theorem ko_InterfaceTypeP (b : Nat) (k : ByteArray) (w : World) (hx : Calls Tryz.prog 61 #[Nd 145 b] w fun e w' => NodeOf k e ∧ Below w.heap.size w w') : Calls Tryz.prog 25 #[Nd 145 b] w fun e w' => e = .returned (.string k) ∧ Below w.heap.size w w' := by
  have HX := Lib.hid hx
  clear hx
  go_enter Tryz.func25, Tryz.ntmps25
  go_wp2_with fail
  refine HX.out.mono ?_
  rintro e w2 ⟨⟨t2, a2, l2, c2, rfl⟩, hb2⟩
  go_wp2_with fail
  go_ret
  exact ⟨rfl, hb2⟩

set_option maxRecDepth 100000 in
theorem ko_FieldListP (b : Nat) (w : World) : Calls Tryz.prog 25 #[Nd 83 b] w fun e w' => e = .returned (.string ⟨#[102, 105, 101, 108, 100, 115]⟩) ∧ w' = w := by
  go_enter Tryz.func25, Tryz.ntmps25
  go_wp2_with fail
  go_ret
  exact ⟨rfl, rfl⟩

set_option maxRecDepth 100000 in
theorem ko_FieldP (b : Nat) (w : World) : Calls Tryz.prog 25 #[Nd 74 b] w fun e w' => e = .returned (.string ⟨#[102, 105, 101, 108, 100]⟩) ∧ w' = w := by
  go_enter Tryz.func25, Tryz.ntmps25
  go_wp2_with fail
  go_ret
  exact ⟨rfl, rfl⟩

set_option maxRecDepth 100000 in
theorem ko_BlockStmtP (b : Nat) (w : World) : Calls Tryz.prog 25 #[Nd 95 b] w fun e w' => e = .returned (.string ⟨#[98, 111, 100, 121]⟩) ∧ w' = w := by
  go_enter Tryz.func25, Tryz.ntmps25
  go_wp2_with fail
  go_ret
  exact ⟨rfl, rfl⟩

set_option maxRecDepth 100000 in
theorem kind_nil (w : World) : Calls Tryz.prog 25 #[.nilIface] w fun e w' => e = .returned (.string ⟨#[]⟩) ∧ w' = w := by
  go_enter Tryz.func25, Tryz.ntmps25
  go_wp2_with fail
  go_ret
  exact ⟨rfl, rfl⟩
theorem kind_any {C : Nat → Nat → Value → Prop} {n : N} {t b : Nat} (hn : n.size ≤ 1000000) (hR : Rep C n (Nd t b)) (w : World) (hS : Sees C w) (hT : TokTab w) :
    Calls Tryz.prog 25 #[Nd t b] w fun e w' => e = .returned (.string n.kind) ∧ Below w.heap.size w w' := by
  have h := k_all 1000000 (Nat.le_refl _)
  have c0 : ∀ {k : ByteArray} {v : Value}, k = n.kind → (Calls Tryz.prog 25 #[v] w fun e w' => e = .returned (.string k) ∧ w' = w) → Calls Tryz.prog 25 #[v] w fun e w' => e = .returned (.string n.kind) ∧ Below w.heap.size w w' := by
    intro k v hk hc
    rw [← hk]
    exact hc.mono fun e w' hx => ⟨hx.1, by rw [hx.2]; exact Below.refl _ _⟩
  have hR' := hR
  cases hR with
  | name _ _ hk h0 c => exact ko_IdentP b n.kind w (h.ex hn hR' rfl w hS)
  | literal _ _ hk h0 c => exact ko_BasicLitP b n.kind w (h.ex hn hR' rfl w hS)
  | select _ _ x vx s hk h0 ex cx cs rx rs => exact ko_SelectorExprP b n.kind w (h.ex hn hR' rfl w hS)
  | star _ _ x vx hk ht h0 ex cx rx => exact ko_StarExprP b n.kind w (h.ex hn hR' rfl w hS)
  | array _ _ x vx y vy hk ht h0 ex ey cx cy rx ry => exact ko_ArrayTypeP b n.kind w (h.ex hn hR' rfl w hS)
  | map _ _ x vx y vy hk ht h0 ex ey cx cy rx ry => exact ko_MapTypeP b n.kind w (h.ex hn hR' rfl w hS)
  | chan _ _ x vx d hk hd h0 ex cd cx rx => exact ko_ChanTypeP b n.kind w (h.ex hn hR' rfl w hS)
  | signature _ _ x px y vy py hk ht h0 ct cx cy oy rx ry => exact ko_FuncTypeP b n.kind w (h.ex hn hR' rfl w hS)
  | struct _ _ x px hk ht h0 cx rx => exact ko_StructTypeP b n.kind w (h.ex hn hR' rfl w hS)
  | interface _ _ x px hk ht h0 cx rx => exact ko_InterfaceTypeP b n.kind w (h.ex hn hR' rfl w hS)
  | path _ _ x vx px t hk h0 cd cx ox rx ct rt cc => exact ko_ImportSpecP b n.kind w (item_ok h (Nat.le_refl _) (by omega) hR' rfl w hS)
  | value _ _ x y z U vl vy W wl hk ht h0 kx tx kz tz cd cl hl hr ey cy ry cw hw ew hz cc => exact ko_ValueSpecP b n.kind w (item_ok h (Nat.le_refl _) (by omega) hR' rfl w hS)
  | type _ _ x vx s d hk h0 cd cs rs cp ca ex cx rx cc => exact ko_TypeSpecP b n.kind w (item_ok h (Nat.le_refl _) (by omega) hR' rfl w hS)
  | gen _ _ W wl tk d hk hd cd ct cg cw hw ew hz => exact ko_GenDeclP b n.kind w (decl_ok h (Nat.le_refl _) (.inl rfl) (by omega) hR' w hS hT)
  | func _ _ x y z vx px s t vz pz hk h0 cd cx ox rx cs rs ct rt cz oz rz => exact ko_FuncDeclP b n.kind w (decl_ok h (Nat.le_refl _) (.inr rfl) (by omega) hR' w hS hT)
  | fields _ _ U vl hk ht cl hl hr => exact c0 (kind_eq hk _ (by simp)) (ko_FieldListP b w)
  | field _ _ x r vx U vl vt pt hk h0 cd cl hl hr ex cx rx ct ot rt cc => exact c0 (kind_eq hk _ (by simp)) (ko_FieldP b w)
  | body _ _ hk ht h0 cl => exact c0 (kind_eq hk _ (by simp)) (ko_BlockStmtP b w)
end Go.Proofs.YtpifflakohlglaaGreatFmt

