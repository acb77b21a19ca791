/- What is proved here: a loop over Preorder, and Yields. Conditions: each theorem names its own. -/
import Derived.RangeFuncNested
import Derived.RangeFuncBound
import Derived.RangeFuncBox
import Derived.RangeFuncCalls
import Derived.RangeFuncLeaves
import Derived.Shelf.Abstract
import Derived.Shelf.RegionOpen
import Derived.WalkKit
import Derived.OwnWalkIn
import Derived.TacticsInMore
import Derived.LoopNIn
import Derived.LoopIn
import Derived.OrdersIn
import Derived.RegionTactic
import Derived.Test.YtpifflakohlglaaGreatFmtMj
import Derived.Test.YtpifflakohlglaaGreatFmtMc
set_option linter.all false
set_option linter.unusedVariables false
set_option linter.unusedSimpArgs false
/- What is proved here: a range over Preorder of a declaration: its body is run at the nodes in their order, until it leaves. Conditions: the body keeps the blocks that the loop and the iterator keep for themselves. -/
namespace Go.Proofs.YtpifflakohlglaaGreatFmt
open Go.RowKit Go.Shelf
set_option linter.unusedVariables false
set_option linter.unusedSimpArgs false
attribute [local go_sem] Oper.semAt_some

def nodes : Nat → N → List N
  | 0, _ => []
  | f + 1, n => n :: (subs n).flatMap (nodes f)
theorem kinds_nodes (f : Nat) : ∀ n, kinds f n = (nodes f n).map N.kind := by
  induction f with
  | zero => intro n; rfl
  | succ f ih =>
    intro n
    simp only [kinds, nodes, List.map_cons, List.cons.injEq, true_and]
    induction subs n with
    | nil => rfl
    | cons x r ihr => rw [List.flatMap_cons, List.flatMap_cons, List.map_append, ih x, ihr]
def vPre : Vis (List N) := { node := fun _ n s => (s ++ [n], true), fin := fun _ s => s }
theorem wk_pre (f : Nat) : ∀ d n s, wk vPre f d n s = s ++ nodes f n := by
  induction f with
  | zero => intro d n s; simp [wk, nodes]
  | succ f ih =>
    intro d n s
    simp only [wk, vPre, if_true, nodes]
    have h := foldl_app (fun s c => wk vPre f (d + 1) c s) (nodes f) (fun s c => ih (d + 1) c s) (subs n) (s ++ [n])
    rw [show (fun s c => wk { node := fun _ n s => (s ++ [n], true), fin := fun _ s => s } f (d + 1) c s) = (fun s c => wk vPre f (d + 1) c s) from rfl]
    rw [h]
    simp
/-- The blocks that the loop and the iterator keep for themselves. -/
def Win (s k : Nat) : Prop := s ≤ k ∧ k < s + 4
/-- What does not look at them. -/
def OutWin (s : Nat) (J : World → Prop) : Prop := ∀ W W' row, J W → W.grownBy W' row → (∀ k, row = some k → Win s k) → J W'
structure Priv (s : Nat) (r : Loop) (t : Bool) (W : World) : Prop where
  df : W.heap[s]? = some (.deferred (some []))
  lp : W.heap[s + 1]? = some (.loop r)
  y : Blk W (s + 2) 264 #[.func (.yield (s + 1)) #[] #[]]
  ok : Blk W (s + 3) 4 #[.bool t]
theorem Priv.keep {s : Nat} {r : Loop} {t : Bool} {W W' : World} (h : Priv s r t W) (hk : ∀ k, Win s k → W'.heap[k]? = W.heap[k]?) : Priv s r t W' :=
  ⟨(hk _ ⟨by omega, by omega⟩).trans h.df, (hk _ ⟨by omega, by omega⟩).trans h.lp, (hk _ ⟨by omega, by omega⟩).trans h.y, (hk _ ⟨by omega, by omega⟩).trans h.ok⟩
theorem Priv.lt {s : Nat} {r : Loop} {t : Bool} {W : World} (h : Priv s r t W) : s + 4 ≤ W.heap.size := by have := h.ok.lt; omega
theorem Priv.setOk {s : Nat} {r : Loop} {t : Bool} {W : World} (h : Priv s r t W) (q : Bool) : Priv s r q (W.setCell ⟨s + 3, 0, none⟩ (.bool q)) :=
  ⟨(heap_setCell_other _ _ s _ (by simp)).trans h.df, (heap_setCell_other _ _ (s + 1) _ (by simp)).trans h.lp, (heap_setCell_other _ _ (s + 2) _ (by simp)).trans h.y, by simpa using h.ok.set 0 (.bool q)⟩
theorem Priv.setRec {s : Nat} {r : Loop} {t : Bool} {W : World} (h : Priv s r t W) (r' : Loop) : Priv s r' t (W.putObj (s + 1) (.loop r')) :=
  ⟨(World.putObj_heap_other (by omega)).trans h.df, World.putObj_heap_same (Array.getElem?_eq_some_iff.1 h.lp).1, (World.putObj_heap_other (by omega)).trans h.y, (World.putObj_heap_other (by omega)).trans h.ok⟩
section
variable {C : Nat → Nat → Value → Prop} {s : Nat} {rec : LoopState → Option Code → Loop} {I : List N → World → Prop} {Ix : Code → List N → World → Prop}
def PreInv (s : Nat) (rec : LoopState → Option Code → Loop) (I : List N → World → Prop) (Ix : Code → List N → World → Prop) (xs : List N) (W : World) : Prop :=
  (I xs W ∧ Priv s (rec .ready none) true W) ∨ (∃ pre c, pre <+: xs ∧ Ix c pre W ∧ Priv s (rec .done (some c)) false W)
/-- What a round owes. -/
def RoundOK (C : Nat → Nat → Value → Prop) (s : Nat) (rec : LoopState → Option Code → Loop) (I : List N → World → Prop) (Ix : Code → List N → World → Prop) (L : Nat) : Prop :=
  ∀ xs x t b W, I xs W → Priv s (rec .ready none) true W → Rep C x (Nd t b) → x.size ≤ 1000000 → xs.length < L →
    YieldAt Fence.wide 3 Tryz.prog (s + 1) #[Nd t b] W fun e W' => (e = .returned (.bool true) ∧ I (xs ++ [x]) W' ∧ Priv s (rec .ready none) true W') ∨ (e = .returned (.bool false) ∧ ∃ c, Ix c (xs ++ [x]) W' ∧ Priv s (rec .done (some c)) true W')
structure Stable (C : Nat → Nat → Value → Prop) (s : Nat) (I : List N → World → Prop) (Ix : Code → List N → World → Prop) : Prop where
  i : ∀ xs, OutWin s (I xs)
  x : ∀ c xs, OutWin s (Ix c xs)
  si : ∀ xs W, I xs W → Sees C W
  sx : ∀ c xs W, Ix c xs W → Sees C W
theorem OutWin.setOk {s : Nat} {J : World → Prop} (h : OutWin s J) {W : World} (hJ : J W) (v : Value) : J (W.setCell ⟨s + 3, 0, none⟩ v) :=
  h W _ (some (s + 3)) hJ (grownBy_setCell' W (s + 3) v) (fun k hk => by cases hk; exact ⟨by omega, by omega⟩)
theorem ne_nil (T : Nat) (u : Value) (w : World) : (binOp .neq 55 (.iface T u) .nilIface).run Tryz.prog w = .ok (.bool true) w := by kernel_rfl
theorem nil_nil (w : World) : (binOp .neq 55 .nilIface .nilIface).run Tryz.prog w = .ok (.bool false) w := by kernel_rfl

set_option maxHeartbeats 1000000 in
set_option maxRecDepth 100000 in
theorem pre11_go (hS : Stable C s I Ix) {L : Nat} (hY : RoundOK C s rec I Ix L) (xs : List N) (x : N) (t b : Nat) (W : World) (hI : I xs W) (hP : Priv s (rec .ready none) true W) (hR : Rep C x (Nd t b)) (hx : x.size ≤ 1000000) (hL : xs.length < L) :
    Calls Tryz.prog 58 (#[Nd t b] ++ #[Pt (s + 3), Pt (s + 2)]) W (BoolPost fun q W' => (q = true ∧ I (xs ++ [x]) W' ∧ Priv s (rec .ready none) true W') ∨ (q = false ∧ ∃ c, Ix c (xs ++ [x]) W' ∧ Priv s (rec .done (some c)) false W')) := by
  obtain ⟨fn, tmps, assign, body, hy, hRd⟩ := hY xs x t b W hI hP hR hx hL
  have e1 := ne_nil
  have k0 := hP.ok.cell 0 _ rfl
  have kf := hP.ok.frozen 0
  have kl := hP.ok.lt
  have y0 := hP.y.cell 0 _ rfl
  have HRD := Lib.hid hRd
  have HS := Lib.hid hS
  clear hI hP hR hY hRd hS
  refine (callsIn_wide (n := 4)).1 (callsIn_of_wp Tryz.func58 rfl trivial ?_ rfl)
  simp only [Tryz.ntmps58, List.size_toArray, List.length_cons, List.length_nil, Nat.reduceAdd, Nat.reduceSub, Array.replicate_succ, Array.replicate_zero, List.push_toArray, List.append_toArray, List.nil_append, List.cons_append]
  gi_wp2
  refine HRD.out.mono ?_
  rintro e W3 (⟨rfl, hI3, hP3⟩ | ⟨rfl, c, hI3, hP3⟩)
  · have k0 := hP3.ok.cell 0 _ rfl
    have kf := hP3.ok.frozen 0
    have kl := hP3.ok.lt
    have HR3 := Lib.hid (And.intro ((HS.out.i _).setOk hI3 (.bool true)) (hP3.setOk true))
    clear hI3 hP3
    gi_wp2
    exact ⟨rfl, _, results_tmp rfl _ _ _, true, rfl, .inl ⟨rfl, HR3.out⟩⟩
  · have k0 := hP3.ok.cell 0 _ rfl
    have kf := hP3.ok.frozen 0
    have kl := hP3.ok.lt
    have HR3 := Lib.hid (And.intro ((HS.out.x _ _).setOk hI3 (.bool false)) (hP3.setOk false))
    clear hI3 hP3
    gi_wp2
    exact ⟨rfl, _, results_tmp rfl _ _ _, false, rfl, .inr ⟨rfl, _, HR3.out⟩⟩
set_option maxHeartbeats 1000000 in
set_option maxRecDepth 100000 in
theorem pre11_off (hS : Stable C s I Ix) (xs : List N) (c : Code) (t b : Nat) (W : World) (hI : Ix c xs W) (hP : Priv s (rec .done (some c)) false W) :
    Calls Tryz.prog 58 (#[Nd t b] ++ #[Pt (s + 3), Pt (s + 2)]) W (BoolPost fun q W' => q = false ∧ Ix c xs W' ∧ Priv s (rec .done (some c)) false W') := by
  have e1 := ne_nil
  have k0 := hP.ok.cell 0 _ rfl
  have kf := hP.ok.frozen 0
  have kl := hP.ok.lt
  have HR := Lib.hid (And.intro ((hS.x _ _).setOk hI (.bool false)) (hP.setOk false))
  clear hI hP hS
  go_enter Tryz.func58, Tryz.ntmps58
  go_wp2_with fail
  go_ret
  exact ⟨false, rfl, rfl, HR.out⟩
theorem pre11_nil (q : Bool) (W : World) (h : Blk W (s + 3) 4 #[.bool q]) :
    Calls Tryz.prog 58 (#[.nilIface] ++ #[Pt (s + 3), Pt (s + 2)]) W (BoolPost fun _ W' => W' = W) := by
  have e1 := nil_nil
  have k0 := h.cell 0 _ rfl
  clear h
  go_enter Tryz.func58, Tryz.ntmps58
  go_wp2_with fail
  go_ret
  exact ⟨q, rfl, rfl⟩
theorem enters11 : Enters Tryz.prog 58 := enters_of Tryz.func58 (by kernel_rfl) rfl
theorem vok_pre (hS : Stable C s I Ix) {L : Nat} (hY : RoundOK C s rec I Ix L) : VOK vPre (fun _ => Insp 58 #[Pt (s + 3), Pt (s + 2)]) C (PreInv s rec I Ix) List.length L where
  sees := fun xs W b o u hI hc => by
    rcases hI with ⟨h, _⟩ | ⟨pre, c, _, h, _⟩
    · exact hS.si _ _ h b o u hc
    · exact hS.sx _ _ _ h b o u hc
  there := fun d => ⟨_, _, rfl⟩
  node := fun d n t b xs W hn hR hI hL => by
    refine ⟨_, _, cm_insp _ _ _ _, ?_⟩
    have key : Calls Tryz.prog 58 (#[Nd t b] ++ #[Pt (s + 3), Pt (s + 2)]) W (BoolPost fun q W' => (q = true ∧ PreInv s rec I Ix (xs ++ [n]) W') ∨ (q = false ∧ ∃ pre c, pre <+: xs ++ [n] ∧ Ix c pre W' ∧ Priv s (rec .done (some c)) false W')) := by
      rcases hI with ⟨h1, h2⟩ | ⟨pre, c, hp, h1, h2⟩
      · refine (pre11_go hS hY xs n t b W h1 h2 hR hn hL).mono ?_
        rintro e W' ⟨q, rfl, h⟩
        refine ⟨q, rfl, ?_⟩
        rcases h with ⟨rfl, h⟩ | ⟨rfl, c, h⟩
        · exact .inl ⟨rfl, .inl h⟩
        · exact .inr ⟨rfl, _, c, List.prefix_rfl, h⟩
      · refine (pre11_off hS pre c t b W h1 h2).mono ?_
        rintro e W' ⟨q, rfl, rfl, h⟩
        exact ⟨false, rfl, .inr ⟨rfl, pre, c, hp.trans (List.prefix_append _ _), h⟩⟩
    refine (insp_any 58 _ (Nd t b) W enters11 _ key).mono ?_
    rintro e W' ⟨q, rfl, h⟩
    rcases h with ⟨rfl, h⟩ | ⟨rfl, pre, c, hp, h⟩
    · exact .inl ⟨rfl, h⟩
    · refine .inr ⟨rfl, fun f => .inr ⟨pre, c, ?_, h⟩⟩
      rw [wk_pre]
      refine hp.trans ?_
      rw [nodes]
      exact ⟨(subs n).flatMap (nodes f), by simp⟩
  fin := fun f0 d0 n0 s0 W _ hI hs => by
    obtain ⟨xs, hs1⟩ : ∃ xs, xs = (subs n0).foldl (fun s c => wk (vPre) f0 (d0 + 1) c s) ((vPre).node d0 n0 s0).1 := ⟨_, rfl⟩
    rw [← hs1] at hI hs ⊢
    clear hs1
    refine ⟨_, _, cm_insp _ _ _ _, ?_⟩
    obtain ⟨q, hq⟩ : ∃ q, Blk W (s + 3) 4 #[.bool q] := by
      rcases hI with ⟨_, h⟩ | ⟨_, _, _, _, h⟩
      · exact ⟨_, h.ok⟩
      · exact ⟨_, h.ok⟩
    refine (insp_any 58 _ .nilIface W enters11 (fun _ W' => W' = W) (pre11_nil q W hq)).mono ?_
    rintro e W' ⟨q, rfl, rfl⟩
    exact ⟨⟨_, rfl⟩, hI⟩
  len_node := fun d n s => by simp [vPre]
  len_fin := fun d s => by simp [vPre]
set_option maxHeartbeats 1000000 in
set_option maxRecDepth 100000 in
/-- The iterator, called with the loop's yield. -/
theorem preorder1_any (hS : Stable C s I Ix) {L : Nat} (hY : RoundOK C s rec I Ix L) {n : N} {t b r : Nat} (hR : Rep C n (Nd t b)) (hsz : n.size ≤ 400) (hL : 1600 ≤ L) (W : World) (hs : W.heap.size = s + 2) (hr : r < s) (hroot : W.cell? ⟨r, 0, none⟩ = some (Nd t b))
    (hI : I [] W) (hdf : W.heap[s]? = some (.deferred (some []))) (hlp : W.heap[s + 1]? = some (.loop (rec .ready none))) :
    Calls Tryz.prog 56 #[.func (.yield (s + 1)) #[] #[], Pt r] W fun e W' => (∃ v, e = .returned v) ∧ PreInv s rec I Ix (nodes 400 n) W' := by
  let W1 := W.alloc (.cells #[.func (.yield (s + 1)) #[] #[]] 264)
  let W2 := W1.alloc (.cells #[.bool true] 4)
  have z1 : W1.heap.size = s + 3 := by simp [W1, hs]
  have z2 : W2.heap.size = s + 4 := by simp [W2, z1]
  have o1 : ∀ k, k < s + 2 → W2.heap[k]? = W.heap[k]? := fun k hk => (Below.heap_alloc W1 _ k (by omega)).trans (Below.heap_alloc W _ k (by omega))
  have b2 : Blk W2 (s + 2) 264 #[.func (.yield (s + 1)) #[] #[]] := by
    have h := Blk.new W #[.func (.yield (s + 1)) #[] #[]] 264
    rw [hs] at h
    exact (Below.heap_alloc W1 _ (s + 2) (by omega)).trans h
  have b3 : Blk W2 (s + 3) 4 #[.bool true] := by
    have h := Blk.new W1 #[.bool true] 4
    rw [z1] at h
    exact h
  have hP : Priv s (rec .ready none) true W2 := ⟨(o1 _ (by omega)).trans hdf, (o1 _ (by omega)).trans hlp, b2, b3⟩
  have hI1 : I [] W1 := hS.i [] W W1 none hI (World.grownBy_alloc W _ none) (fun k hk => by cases hk)
  have hI2 : I [] W2 := hS.i [] W1 W2 none hI1 (World.grownBy_alloc W1 _ none) (fun k hk => by cases hk)
  have hroot2 : W2.cell? ⟨r, 0, none⟩ = some (Nd t b) := (World.cell?_of_block (w := W) (a := ⟨r, 0, none⟩) (o1 r (by omega))).trans hroot
  have hWk := walk_ok (vok_pre hS hY) 400 (by omega) 0 n t b [] W2 hsz hR (.inl ⟨hI2, hP⟩) (by have := cost_small hR hsz 400; simp only [List.length_nil]; omega)
  have hIn := inspect_any 58 #[Pt (s + 3), Pt (s + 2)] (Nd t b) W2 _ hWk
  have HIN := Lib.hid hIn
  clear hIn hWk hI1 hI2 hP b2 b3 o1 hI hdf hlp hY hS
  simp only [W2, W1] at *
  clear z1 z2
  go_enter Tryz.func56, Tryz.ntmps56
  go_wp2_with fail
  refine HIN.out.mono ?_
  rintro e W5 ⟨rfl, hI5⟩
  rw [wk_pre] at hI5
  have HI5 := Lib.hid hI5
  clear hI5 HIN
  go_wp2_with fail
  refine bodyPost_end (results_none rfl _ _ _) rfl ⟨⟨_, rfl⟩, by simpa using HI5.out⟩
end
/-- How a round is left. -/
def prePost (s : Nat) (I : List N → World → Prop) (Ix : Code → List N → World → Prop) (xs : List N) (W : World) : Exit → Act → World → Prop
  | .normal, _, W' => (∀ k, Win s k → W'.heap[k]? = W.heap[k]?) ∧ I xs W'
  | .ret, _, W' => (∀ k, Win s k → W'.heap[k]? = W.heap[k]?) ∧ Ix .ret xs W'
  | .exit id, _, W' => (∀ k, Win s k → W'.heap[k]? = W.heap[k]?) ∧ Ix (.exit id) xs W'
  | .goto t, _, W' => (∀ k, Win s k → W'.heap[k]? = W.heap[k]?) ∧ Ix (.goto t) xs W'
  | .panic _, _, _ => False
  | .outgrown, _, _ => False
theorem OutWin.putRec {s : Nat} {J : World → Prop} (h : OutWin s J) {W : World} (hJ : J W) (o : Obj) : J (W.putObj (s + 1) o) :=
  h W _ (some (s + 1)) hJ (grownBy_putObj' W (s + 1) o) (fun k hk => by cases hk; exact ⟨by omega, by omega⟩)
theorem range_pre {C : Nat → Nat → Value → Prop} {n : N} {t b r m : Nat} (hR : Rep C n (Nd t b)) (hsz : n.size ≤ 400) {g : Operand} {ps : Array Tmp} {assign body : Code} {Q : Exit → Act → World → Prop} {a : Act} {w : World}
    (hg : a.eval g = .func (.func 56) #[] #[Pt r]) (hr : r < w.heap.size) (hroot : w.cell? ⟨r, 0, none⟩ = some (Nd t b)) (hps : ps.size = 1)
    (I : List N → World → Prop) (Ix : Code → List N → World → Prop) (hS : Stable C w.heap.size I Ix) (h0 : I [] w) (a₁ : Value → Act)
    (hassign : ∀ (l : Nat) (x : Value) (W : World) (K : Act → World → Prop), K (a₁ x) W →
      assign.wpIn (Fence.wide.inRound l) 3 Tryz.prog (Exit.then K (fun _ _ _ => False)) { tmps := (ps.zip #[x]).foldl (fun t (p, v) => t.setIfInBounds p v) a.tmps, defers := [] } W)
    (hbody : ∀ (l : Nat) (xs : List N) (x : N) (t b : Nat) (W : World), I xs W → w.heap.size + 4 ≤ W.heap.size → Rep C x (Nd t b) → x.size ≤ 1000000 → xs.length < 1600 →
      body.wpIn (Fence.wide.inRound l) 3 Tryz.prog (prePost w.heap.size I Ix (xs ++ [x]) W) (a₁ (Nd t b)) W)
    (hdone : ∀ (W : World), I (nodes 400 n) W → W.heap[w.heap.size]? = some (.deferred (some [])) → Q .normal { a with defers := { target := .collected w.heap.size, args := #[] } :: a.defers } W)
    (hstop : ∀ (c : Code) (pre : List N) (W : World), pre <+: nodes 400 n → Ix c pre W → W.heap[w.heap.size]? = some (.deferred (some [])) → c.wpIn Fence.wide m Tryz.prog Q { a with defers := { target := .collected w.heap.size, args := #[] } :: a.defers } W) :
    (Code.rangeFunc g ps assign body).wpIn Fence.wide m Tryz.prog Q a w := by
  refine wpIn_rangeFunc ?_
  intro fn hfn
  obtain ⟨rec, hrec⟩ : ∃ rec : LoopState → Option Code → Loop, rec = fun st pe => { state := st, pending := pe, fn, tmps := a.tmps, params := ps, assign, body, defers := w.heap.size } := ⟨_, rfl⟩
  obtain ⟨W1, hW1⟩ : ∃ W1, (w.alloc (.deferred (some []))).alloc (.loop (rec .ready none)) = W1 := ⟨_, rfl⟩
  have z1 : W1.heap.size = w.heap.size + 2 := by rw [← hW1]; simp
  have o1 : ∀ k, k < w.heap.size → W1.heap[k]? = w.heap[k]? := fun k hk => by
    rw [← hW1]; exact (Below.heap_alloc _ _ k (by simp; omega)).trans (Below.heap_alloc w _ k hk)
  have hlp : W1.heap[w.heap.size + 1]? = some (.loop (rec .ready none)) := by
    rw [← hW1]; have := World.alloc_heap_new (w.alloc (.deferred (some []))) (.loop (rec .ready none)); rwa [World.size_alloc] at this
  have hdf : W1.heap[w.heap.size]? = some (.deferred (some [])) := by
    rw [← hW1]; exact (Below.heap_alloc _ _ _ (by simp)).trans (World.alloc_heap_new w _)
  have hI1 : I [] W1 := by
    rw [← hW1]
    exact hS.i [] _ _ none (hS.i [] _ _ none h0 (World.grownBy_alloc w _ none) (fun k hk => by cases hk)) (World.grownBy_alloc _ _ none) (fun k hk => by cases hk)
  have hroot1 : W1.cell? ⟨r, 0, none⟩ = some (Nd t b) := (World.cell?_of_block (w := w) (a := ⟨r, 0, none⟩) (o1 r hr)).trans hroot
  have hY : RoundOK C w.heap.size rec I Ix 1600 := by
    intro xs x t b W hi hp hRx hx hL
    have hy := run_yield (P := Tryz.prog) (args := #[Nd t b]) hp.lp (by rw [hrec]; simp [hps])
    rw [hrec] at hy
    refine ⟨fn, _, assign, body, hy, roundIn_of_wpIn trivial (hassign _ (Nd t b) W _ ⟨_, run_beginRound hp.lp (by rw [hrec]), ?_⟩)⟩
    have hp2 := hp.setRec { rec .ready none with state := .busy }
    refine wpIn_mono (hbody _ xs x t b _ ((hS.i _).putRec hi _) hp2.lt hRx hx hL) ?_
    rintro e a3 W3 hpost
    have fin : ∀ jump : Option Code, (∀ k, Win w.heap.size k → W3.heap[k]? = (W.putObj (w.heap.size + 1) (.loop { rec .ready none with state := .busy })).heap[k]?) →
        (Instr.endRound (w.heap.size + 1) jump).run Tryz.prog W3 = .ok (.bool jump.isNone) (W3.putObj (w.heap.size + 1) (.loop (rec (if jump.isNone then .ready else .done) jump))) ∧
        Priv w.heap.size (rec (if jump.isNone then .ready else .done) jump) true (W3.putObj (w.heap.size + 1) (.loop (rec (if jump.isNone then .ready else .done) jump))) := fun jump hk => by
      have hp3 := hp2.keep hk
      have := run_endRound (P := Tryz.prog) jump hp3.lp
      refine ⟨?_, hp3.setRec _⟩
      rw [hrec] at this ⊢
      exact this
    cases e with
    | normal =>
      obtain ⟨hk, hi3⟩ := hpost
      obtain ⟨hr1, hp4⟩ := fin none hk
      exact ⟨_, _, hr1, .inl ⟨rfl, (hS.i _).putRec hi3 _, hp4⟩⟩
    | ret =>
      obtain ⟨hk, hi3⟩ := hpost
      obtain ⟨hr1, hp4⟩ := fin (some .ret) hk
      exact ⟨_, _, hr1, .inr ⟨rfl, _, (hS.x _ _).putRec hi3 _, hp4⟩⟩
    | exit id =>
      obtain ⟨hk, hi3⟩ := hpost
      obtain ⟨hr1, hp4⟩ := fin (some (.exit id)) hk
      exact ⟨_, _, hr1, .inr ⟨rfl, _, (hS.x _ _).putRec hi3 _, hp4⟩⟩
    | goto t =>
      obtain ⟨hk, hi3⟩ := hpost
      obtain ⟨hr1, hp4⟩ := fin (some (.goto t)) hk
      exact ⟨_, _, hr1, .inr ⟨rfl, _, (hS.x _ _).putRec hi3 _, hp4⟩⟩
    | panic ch => exact hpost.elim
    | outgrown => exact hpost.elim
  refine ⟨w.heap.size + 1, [{ target := .collected w.heap.size, args := #[] }], W1, { target := .fn (.func 56) #[Pt r], args := #[.func (.yield (w.heap.size + 1)) #[] #[]] }, W1, 56,
    #[.func (.yield (w.heap.size + 1)) #[] #[]] ++ #[Pt r], W1, ?_, ?_, fun _ _ => trivial, ?_, (fun h => by cases h), ?_⟩
  · rw [← hW1, hrec]; exact run_enterLoop_outer _ _ _ _ _
  · simp only [resolve, hg]
    simp [go_sem]
  · have eg := enters_of Tryz.func56 (by kernel_rfl) rfl
    simp [invoke, go_sem]
  · refine callsIn_wide.2 ((preorder1_any hS hY hR hsz (Nat.le_refl _) W1 z1 hr hroot1 hI1 hdf hlp).mono ?_)
    rintro e W2 ⟨⟨v, rfl⟩, (⟨hi, hp⟩ | ⟨pre, c, hpre, hi, hp⟩)⟩
    · have he := run_endLoop (P := Tryz.prog) hp.lp (by rw [hrec]; simp)
      rw [hrec] at he
      exact ⟨none, _, he, hdone _ ((hS.i _).putRec hi _) ((World.putObj_heap_other (by omega)).trans hp.df)⟩
    · have he := run_endLoop (P := Tryz.prog) hp.lp (by rw [hrec]; simp)
      rw [hrec] at he
      exact ⟨some c, _, he, hstop c pre _ hpre ((hS.x _ _).putRec hi _) ((World.putObj_heap_other (by omega)).trans hp.df)⟩
end Go.Proofs.YtpifflakohlglaaGreatFmt

/- What is proved here: a region that draws its order, in a round of a loop over a function, by the laws for a region outside of one. No program is in sight. -/
namespace Go.Proofs.YtpifflakohlglaaGreatFmt
open Go
set_option linter.unusedVariables false

theorem uponIn_of_upon {P : Program} {o : Oper} {a : Act} {K : Act → World → Prop} {Q : Exit → Act → World → Prop} {l n : Nat} {r : Result Go.Next} (h : o.upon P a K Q r) : o.uponIn (Fence.wide.inRound l) n P a K Q r := by
  cases r with
  | ok x w' =>
    cases x <;> simp only [Oper.uponIn, Oper.upon] at h ⊢ <;>
      first
        | exact h
        | exact ⟨fun hd => by simp [Fence.wide, Fence.inRound] at hd, CallsIn.inRound l (callsIn_wide.2 h)⟩
        | exact ⟨fun hd => by simp [Fence.wide, Fence.inRound] at hd, fun c cs hroom => let ⟨v, w2, hr, hs⟩ := h c cs; ⟨v, w2, hr, stepsIn_wide.2 hs⟩⟩
        | exact h.elim
  | halt x w' => cases x <;> simp only [Oper.uponIn, Oper.upon] at h ⊢ <;> exact h
theorem wpIn_of_wp {P : Program} {o : Oper} {a : Act} {w : World} {K : Act → World → Prop} {Q : Exit → Act → World → Prop} {l n : Nat} (hd : ∀ c, o.op ≠ .defer c) (h : o.wp P a w K Q) : o.wpIn (Fence.wide.inRound l) n P a w K Q := by
  refine ⟨fun f _ => trivial, ?_⟩
  show o.uponIn (Fence.wide.inRound l) n P a K Q ((o.semAt (some l) a.eval).run P w)
  rw [Oper.semAt_eq (some l) a.eval o hd]
  exact uponIn_of_upon h
theorem wpAnyIn_of_any {P : Program} {md : Region.Mode} {ops : Array Oper} {Q : Exit → Act → World → Prop} {l n : Nat} (hd : ∀ (i : Nat) (o : Oper), ops[i]? = some o → ∀ c, o.op ≠ .defer c) (hL : ¬ LetsOut Q) :
    ∀ (fuel : Nat) (listed : Array Bool) (a : Act) (w : World), wpAny P md ops Q fuel listed a w → wpAnyIn (Fence.wide.inRound l) n P md ops Q fuel listed a w := by
  intro fuel
  induction fuel with
  | zero => intro listed a w h; exact h
  | succ fuel ih =>
    intro listed a w h
    refine ⟨h.1, fun i hi => ?_⟩
    have h2 := h.2 i hi
    unfold wpOp at h2
    unfold wpOpIn
    cases ho : ops[i]? with
    | none => rw [ho] at h2; exact ih _ _ _ h2
    | some o =>
      rw [ho] at h2
      simp only at h2 ⊢
      split
      · rename_i hw
        rw [if_pos hw] at h2
        rcases h2 with h2 | h2
        · exact wpIn_of_wp (hd i o ho) (Oper.wp_mono (fun a w h => ih _ _ _ h) h2)
        · exact absurd h2.2 hL
      · rename_i hw
        rw [if_neg hw] at h2
        exact ⟨fun f _ => trivial, ih _ _ _ h2⟩
def noDefer (ops : Array Oper) : Bool := ops.all fun o => match o.op with | .defer _ => false | _ => true
theorem noDefer_at {ops : Array Oper} (h : noDefer ops = true) : ∀ (i : Nat) (o : Oper), ops[i]? = some o → ∀ c, o.op ≠ .defer c := by
  intro i o ho c hc
  simp only [noDefer, Array.all_eq_true] at h
  obtain ⟨hi, he⟩ := Array.getElem?_eq_some_iff.1 ho
  have := h i hi
  rw [he, hc] at this
  simp at this
/-- The region, whatever order it draws. -/
theorem regionIn_any {P : Program} {ops : Array Oper} {Q : Exit → Act → World → Prop} {l n id : Nat} {a : Act} {w : World} (hm : P.follows .mixedOrders = true) (hd : noDefer ops = true) (hL : ¬ LetsOut Q)
    (h : wpAny P .any ops Q ops.size (Array.replicate ops.size false) a w.drew) : (Code.region id ops true).wpIn (Fence.wide.inRound l) n P Q a w :=
  wpIn_region_any hm (wpAnyIn_of_any (noDefer_at hd) hL _ _ _ _ h)
end Go.Proofs.YtpifflakohlglaaGreatFmt

/- What is proved here: Yields: the kinds of the nodes of Preorder, of which a loop takes so many. -/
namespace Go.Proofs.YtpifflakohlglaaGreatFmt
open Go.RowKit Go.Shelf
set_option linter.unusedVariables false
set_option linter.unusedSimpArgs false
attribute [local go_sem] Oper.semAt_some

/-- What Yields keeps between two rounds. -/
structure YlInv (C : Nat → Nat → Value → Prop) (O M s B : Nat) (most : Int) (w0 : World) (ks : List ByteArray) (w : World) : Prop where
  out : ∃ v, Blk w O 33 #[v] ∧ w.ownsRow (s + 4) 9 1 v ks.length (ks.map Value.string)
  mst : Blk w M 3 #[.int .i64 most]
  sees : Sees C w
  tab : TokTab w
  low : Below B w0 w
structure YlLay (C : Nat → Nat → Value → Prop) (O M s B : Nat) : Prop where
  o : O < s
  m : M < s
  om : M ≠ O
  c : ∀ b o u, C b o u → b < s ∧ b ≠ O
  bo : B ≤ O
  b0 : 0 < B
theorem YlInv.grown {C : Nat → Nat → Value → Prop} {O M s B : Nat} {most : Int} {w0 : World} {ks : List ByteArray} (hL : YlLay C O M s B) : OutWin s (YlInv C O M s B most w0 ks) := by
  intro W W' row h hg hrow
  obtain ⟨v, hv, hown⟩ := h.out
  have ho := hL.o
  have hm := hL.m
  have hbo := hL.bo
  have hb0 := hL.b0
  have ol := hv.lt
  have keep : ∀ b, b < s → b < W.heap.size → W'.heap[b]? = W.heap[b]? := fun b hb hlt => hg.block b hlt (fun e => by have := (hrow b e.symm).1; omega)
  refine ⟨⟨v, (keep O ho ol).trans hv, ?_⟩, (keep M hm h.mst.lt).trans h.mst, fun b o u hc => ?_, fun i t hi => ?_, h.low.grown hg (by omega) (fun k hk => by have := (hrow k hk).1; omega)⟩
  · refine hown.kept hg (Classical.or_iff_not_imp_left.2 fun hne e => ?_)
    cases hv : v.ownBlock with
    | none => exact hne hv
    | some g =>
      have h1 := (hown.lt g hv).1
      have h2 := (hrow g (by rw [← e, hv])).2
      omega
  · have hlt : b < W.heap.size := World.block_lt_of_cell? W _ (h.sees b o u hc)
    exact (World.cell?_of_block (keep b (hL.c b o u hc).1 hlt)).trans (h.sees b o u hc)
  · obtain ⟨x, hx, hc⟩ := h.tab i t hi
    exact ⟨x, hx, (World.cell?_of_block (keep 0 (by omega) (by omega))).trans hc⟩
theorem YlInv.later {C : Nat → Nat → Value → Prop} {O M s B : Nat} {most : Int} {w0 w w' : World} {ks : List ByteArray} (h : YlInv C O M s B most w0 ks w) (hL : YlLay C O M s B) (hb : Below w.heap.size w w') : YlInv C O M s B most w0 ks w' := by
  obtain ⟨v, h1, h2⟩ := h.out
  have ol := h1.lt
  have hbo := hL.bo
  have hb0 := hL.b0
  refine ⟨⟨v, h1.later hb h1.lt, owns_kept h2 hb⟩, h.mst.later hb h.mst.lt, h.sees.later hb, fun i t hi => ?_, h.low.trans (hb.mono (by omega))⟩
  obtain ⟨x, hx, hc⟩ := h.tab i t hi
  exact ⟨x, hx, (hb.cell (p := ⟨0, 61 + i, none⟩) (by show 0 < w.heap.size; omega)).trans hc⟩
theorem YlInv.push {C : Nat → Nat → Value → Prop} {O M s B : Nat} {most : Int} {w0 w w' : World} {ks : List ByteArray} (h : YlInv C O M s B most w0 ks w) (hL : YlLay C O M s B) {v : Value} {g cap : Nat} {k : ByteArray} (hs : s + 4 ≤ w.heap.size)
    (hv : Blk w O 33 #[v]) (hown : w.ownsRow (s + 4) 9 1 v ks.length (ks.map Value.string))
    (hown' : w'.ownsRow (s + 4) 9 1 (.slice (some ⟨g, 0, none⟩) (ks.length + 1) cap) (ks.length + 1) (ks.map Value.string ++ [.string k])) (hg : w.grownBy w' v.ownBlock) :
    YlInv C O M s B most w0 (ks ++ [k]) (w'.setCell ⟨O, 0, none⟩ (.slice (some ⟨g, 0, none⟩) (ks.length + 1) cap)) ∧ ∀ b, b < s + 4 → b ≠ O → (w'.setCell ⟨O, 0, none⟩ (.slice (some ⟨g, 0, none⟩) (ks.length + 1) cap)).heap[b]? = w.heap[b]? := by
  have hlow := hown.lt
  have keep : ∀ b, b < s + 4 → w'.heap[b]? = w.heap[b]? := fun b hb => hg.block b (by omega) (fun e => by have := (hlow b e.symm).1; omega)
  have keep2 : ∀ b, b < s + 4 → b ≠ O → (w'.setCell ⟨O, 0, none⟩ (.slice (some ⟨g, 0, none⟩) (ks.length + 1) cap)).heap[b]? = w.heap[b]? := fun b hb hne => (heap_setCell_other _ _ b _ hne).trans (keep b hb)
  have ho := hL.o
  have hm := hL.m
  have hbo := hL.bo
  have hb0 := hL.b0
  have hO : Blk w' O 33 #[v] := (keep O (by omega)).trans hv
  refine ⟨⟨⟨_, by simpa using hO.set 0 (.slice (some ⟨g, 0, none⟩) (ks.length + 1) cap), ?_⟩, (keep2 M (by omega) hL.om).trans h.mst, fun b o u hc => ?_, fun i t hi => ?_, ?_⟩, keep2⟩
  · have := ownsRow_setCell_below (a := ⟨O, 0, none⟩) hown' (by show O < s + 4; omega) (.slice (some ⟨g, 0, none⟩) (ks.length + 1) cap)
    simpa using this
  · obtain ⟨c1, c2⟩ := hL.c b o u hc
    exact (World.cell?_of_block (keep2 b (by omega) c2)).trans (h.sees b o u hc)
  · obtain ⟨x, hx, hc⟩ := h.tab i t hi
    exact ⟨x, hx, (World.cell?_of_block (keep2 0 (by omega) (by omega))).trans hc⟩
  · exact (h.low.grown hg (by omega) (fun k hk => by have := (hlow k hk).1; omega)).setCell (by show B ≤ O; omega) _
/-- The iterator. -/
theorem preorder_any (t b : Nat) (w : World) : Calls Tryz.prog 24 #[Nd t b] w fun e w' => e = .returned (.func (.func 56) #[] #[Pt w.heap.size]) ∧ w' = w.alloc (.cells #[Nd t b] 55) := by
  go_enter Tryz.func24, Tryz.ntmps24
  go_wp2_with fail
  go_ret
  exact ⟨rfl, rfl⟩
end Go.Proofs.YtpifflakohlglaaGreatFmt

/- What is proved here: Yields, walked. -/
namespace Go.Proofs.YtpifflakohlglaaGreatFmt
open Go.RowKit Go.Shelf
set_option linter.unusedVariables false
set_option linter.unusedSimpArgs false
attribute [local go_sem] Oper.semAt_some

def YlI (C : Nat → Nat → Value → Prop) (O M s B : Nat) (most : Int) (w0 : World) (xs : List N) (w : World) : Prop := (xs = [] ∨ (xs.length : Int) < most) ∧ YlInv C O M s B most w0 (xs.map N.kind) w
def YlX (C : Nat → Nat → Value → Prop) (O M s B : Nat) (most : Int) (w0 : World) (c : Code) (xs : List N) (w : World) : Prop := c = .exit 0 ∧ (xs ≠ [] ∧ most ≤ (xs.length : Int) ∧ (xs.length = 1 ∨ (xs.length : Int) ≤ most)) ∧ YlInv C O M s B most w0 (xs.map N.kind) w
theorem yl_stable {C : Nat → Nat → Value → Prop} {O M s B : Nat} {most : Int} {w0 : World} (hL : YlLay C O M s B) : Stable C s (YlI C O M s B most w0) (YlX C O M s B most w0) where
  i := fun xs W W' row h hg hr => ⟨h.1, YlInv.grown hL W W' row h.2 hg hr⟩
  x := fun c xs W W' row h hg hr => ⟨h.1, h.2.1, YlInv.grown hL W W' row h.2.2 hg hr⟩
  si := fun xs W h => h.2.sees
  sx := fun c xs W h => h.2.2.sees
theorem range_pre2 {C : Nat → Nat → Value → Prop} {n : N} {t b r m : Nat} (p q : Nat) (hR : Rep C n (Nd t b)) (hsz : n.size ≤ 400) {g : Operand} {ps : Array Tmp} {assign body : Code} {Q : Exit → Act → World → Prop} {a : Act} {w : World}
    (hg : a.eval g = .func (.func 56) #[] #[Pt r]) (hr : r < w.heap.size) (hroot : w.cell? ⟨r, 0, none⟩ = some (Nd t b)) (hps : ps.size = 1)
    (I : List N → World → Prop) (Ix : Code → List N → World → Prop) (hS : Stable C w.heap.size I Ix) (h0 : I [] w)
    (hassign : ∀ (l : Nat) (x : Value) (W : World) (K : Act → World → Prop), K { tmps := (a.tmps.setIfInBounds p x).setIfInBounds q x, defers := [] } W →
      assign.wpIn (Fence.wide.inRound l) 3 Tryz.prog (Exit.then K (fun _ _ _ => False)) { tmps := (ps.zip #[x]).foldl (fun t (p, v) => t.setIfInBounds p v) a.tmps, defers := [] } W)
    (hbody : ∀ (l : Nat) (xs : List N) (x : N) (t b : Nat) (W : World), I xs W → w.heap.size + 4 ≤ W.heap.size → Rep C x (Nd t b) → x.size ≤ 1000000 → xs.length < 1600 →
      body.wpIn (Fence.wide.inRound l) 3 Tryz.prog (prePost w.heap.size I Ix (xs ++ [x]) W) { tmps := (a.tmps.setIfInBounds p (Nd t b)).setIfInBounds q (Nd t b), defers := [] } W)
    (hdone : ∀ (W : World), I (nodes 400 n) W → W.heap[w.heap.size]? = some (.deferred (some [])) → Q .normal { a with defers := { target := .collected w.heap.size, args := #[] } :: a.defers } W)
    (hstop : ∀ (c : Code) (pre : List N) (W : World), pre <+: nodes 400 n → Ix c pre W → W.heap[w.heap.size]? = some (.deferred (some [])) → c.wpIn Fence.wide m Tryz.prog Q { a with defers := { target := .collected w.heap.size, args := #[] } :: a.defers } W) :
    (Code.rangeFunc g ps assign body).wpIn Fence.wide m Tryz.prog Q a w :=
  range_pre hR hsz hg hr hroot hps I Ix hS h0 (fun x => { tmps := (a.tmps.setIfInBounds p x).setIfInBounds q x, defers := [] }) hassign hbody hdone hstop

/-- What Yields gives: the kinds of the nodes ahead, all of them or so many. -/
def YieldsPost (n : N) (most : Int) (w : World) (e : Ending) (w' : World) : Prop := ∃ v' L, e = .returned v' ∧ (L <+: kinds 400 n ∧ (L = kinds 400 n ∨ most ≤ (L.length : Int)) ∧ L.length ≤ max 1 most.toNat ∧ L ≠ []) ∧ w'.ownsRow w.heap.size 9 1 v' L.length (L.map .string) ∧ Below w.heap.size w w'
theorem yl_end {C : Nat → Nat → Value → Prop} {O M s B : Nat} {most : Int} {w0 w W : World} {ks : List ByteArray} {v : Value} (hL : YlLay C O M s B) (hI : YlInv C O M s B most w0 ks W) (hv : Blk W O 33 #[v]) (hB : B ≤ s + 4) : (W.putObj s (.deferred none)).ownsRow B 9 1 v ks.length (ks.map Value.string) ∧ Below B w0 (W.putObj s (.deferred none)) := by
  have h := YlInv.grown hL W (W.putObj s (.deferred none)) (some s) hI (grownBy_putObj' W s (.deferred none)) (fun k hk => by cases hk; exact ⟨by omega, by omega⟩)
  obtain ⟨v', hv', hown⟩ := h.out
  have hsame : Blk (W.putObj s (.deferred none)) O 33 #[v] := (World.putObj_heap_other (by have := hL.o; omega)).trans hv
  have he : v' = v := by
    have h1 := hv'.symm.trans hsame
    simpa using h1
  subst he
  exact ⟨own_mono hown hB, h.low⟩
set_option maxHeartbeats 4000000 in
set_option maxRecDepth 100000 in
theorem yields_any (n : N) (v : Value) (most : Int) (w : World) (hs : shapedB n = true) (hk : KidsAt (· < w.heap.size) w v n.kids) (hT : TokTab w) (h0 : 0 < w.heap.size) :
    Calls Tryz.prog 13 #[n.val v, .int .i64 most] w (YieldsPost n most w) := by
  have hsz := shaped_small hs
  have HB := fun w' (hk' : KidsAt (· < w'.heap.size) w' v n.kids) (hT' : TokTab w') (h0' : 0 < w'.heap.size) => build_any n v w' hs hk' hT' h0'
  have HBH := Lib.hid HB
  clear HB
  obtain ⟨a, cap, rfl, hcap, hel⟩ := hk.shape
  have HK := Lib.hid hk
  have HT := Lib.hid hT
  let w1 := w.alloc (Obj.cells #[Value.string n.kind, Value.string n.text, Value.slice a n.kids.length cap] 24)
  let w2 := w1.alloc (Obj.cells #[Value.int .i64 most] 3)
  let w3 := w2.alloc (Obj.cells #[Value.slice none 0 0] 33)
  have s1 : w1.heap.size = w.heap.size + 1 := by simp [w1]
  have s2 : w2.heap.size = w.heap.size + 2 := by simp [w2, s1]
  have s3 : w3.heap.size = w.heap.size + 3 := by simp [w3, s2]
  have hb3 : Below w.heap.size w w3 := (((Below.refl w.heap.size w).alloc (Nat.le_refl _) _).alloc (by simp) _).alloc (by simp; try omega) _
  have bN : Blk w3 w.heap.size 24 #[Value.string n.kind, Value.string n.text, Value.slice a n.kids.length cap] := ((Blk.new w _ 24).later ((Below.refl (w.heap.size + 1) _).alloc (by simp) _) (by omega)).later ((Below.refl (w.heap.size + 1) _).alloc (by simp; try omega) _) (by omega)
  have bS : Blk w3 (w.heap.size + 1) 3 #[Value.int .i64 most] := by
    have := (Blk.new w1 #[Value.int .i64 most] 3).later ((Below.refl (w.heap.size + 2) _).alloc (by simp [s1, w2, w1]) (Obj.cells #[Value.slice none 0 0] 33)) (by simp [s1])
    simpa [s1] using this
  have bO : Blk w3 (w.heap.size + 2) 33 #[Value.slice none 0 0] := by
    have := Blk.new w2 #[Value.slice none 0 0] 33
    simpa [s2] using this
  have hT3 : TokTab w3 := fun i t hi => by
    obtain ⟨x, hx, hc⟩ := hT i t hi
    exact ⟨x, hx, (hb3.cell (p := ⟨0, 61 + i, none⟩) h0).trans hc⟩
  have e00 := bN.cell 0 _ rfl
  have e10 := bN.cell 1 _ rfl
  have e20 := bN.cell 2 _ rfl
  have en0 := bN.lt
  have HB3 := Lib.hid hb3
  have BS := Lib.hid bS
  have BO := Lib.hid bO
  have HT3 := Lib.hid hT3
  have S3 := Lib.hid s3
  clear hb3 bN bS bO hT3 hk hT hel
  simp only [w3, w2, w1] at *
  clear s1 s2 s3
  unfold N.val
  refine (callsIn_wide (n := 6)).1 (callsIn_of_wp_marks Tryz.func13 rfl trivial ?_ rfl)
  simp only [Tryz.ntmps13, List.size_toArray, List.length_cons, List.length_nil, Nat.reduceAdd, Nat.reduceSub, Array.replicate_succ, Array.replicate_zero, List.push_toArray, List.append_toArray, List.nil_append, List.cons_append]
  gi_wp2_with fail
  refine ⟨trivial, CallsIn.mono (callsIn_wide.2 (HBH.out _ (HK.out.later HB3.out) HT3.out (by have := S3.out; omega))) ?_⟩
  rintro e w4 ⟨t, b, rfl, ht, hb4, hR⟩
  have s3 := S3.out
  have hsz4 := hb4.size
  have bS4 := BS.out.later hb4 BS.out.lt
  have bO4 := BO.out.later hb4 BO.out.lt
  have hT4 : TokTab w4 := fun i t hi => by
    obtain ⟨x, hx, hc⟩ := HT3.out i t hi
    exact ⟨x, hx, (hb4.cell (p := ⟨0, 61 + i, none⟩) (by show 0 < _; omega)).trans hc⟩
  have hB4 : Below w.heap.size w w4 := HB3.out.trans (hb4.mono (by omega))
  rw [s3] at hR
  have H4 := Lib.hid (And.intro bS4 (And.intro bO4 (And.intro hT4 (And.intro hB4 hR))))
  clear bS4 bO4 hT4 hB4 hR hb4 HBH HK HT HB3 BS BO HT3
  gi_wp2_with fail
  refine ⟨trivial, CallsIn.mono (callsIn_wide.2 (preorder_any t b w4)) ?_⟩
  rintro e w5 ⟨rfl, hw5⟩
  have hb5 : Below w4.heap.size w4 w5 := by rw [hw5]; exact (Below.refl _ _).alloc (Nat.le_refl _) _
  have s5 : w5.heap.size = w4.heap.size + 1 := by rw [hw5]; simp
  have hroot : w5.cell? ⟨w4.heap.size, 0, none⟩ = some (Nd t b) := by rw [hw5]; simp
  have H5 := Lib.hid (And.intro hb5 (And.intro s5 hroot))
  clear hb5 s5 hroot hw5
  gi_wp2_with fail
  obtain ⟨hb5, s5, hroot⟩ := H5.out
  obtain ⟨bS4, bO4, hT4, hB4, hR⟩ := H4.out
  have hL : YlLay (At (Bt (w.heap.size + 3) w4.heap.size) w4) (w.heap.size + 2) (w.heap.size + 1) w5.heap.size w.heap.size := ⟨by omega, by omega, by omega, fun b o u hc => ⟨by have := hc.1.2; omega, by have := hc.1.1; omega⟩, by omega, h0⟩
  have hI0 : YlI (At (Bt (w.heap.size + 3) w4.heap.size) w4) (w.heap.size + 2) (w.heap.size + 1) w5.heap.size w.heap.size most w [] w5 :=
    ⟨.inl rfl, ⟨⟨.slice none 0 0, bO4.later hb5 bO4.lt, World.ownsRow_nil _ _ _ _⟩, bS4.later hb5 bS4.lt, fun b o u hc => (hb5.cell (p := ⟨b, o, none⟩) hc.1.2).trans hc.2, fun i t hi => by
      obtain ⟨x, hx, hc⟩ := hT4 i t hi
      exact ⟨x, hx, (hb5.cell (p := ⟨0, 61 + i, none⟩) (by show 0 < _; omega)).trans hc⟩, hB4.trans (hb5.mono (by omega))⟩⟩
  have HL := Lib.hid hL
  clear bS4 bO4 hT4 hB4
  refine range_pre2 (m := 6) 10 6 hR hsz rfl (by omega) hroot rfl _ _ (yl_stable hL) hI0 ?_ ?_ ?_ ?_
  · intro l x W K hK
    clear hI0 hL hroot hb5
    gi_wp2
    exact hK
  · clear hI0 hL hroot hb5 H4 H5 hR e00 e10 e20 en0 S3
    have s5a : w4.heap.size + 1 ≤ w5.heap.size := by omega
    have s5b : w5.heap.size ≤ w4.heap.size + 1 := by omega
    clear s5
    intro l xs x t' b' W hI hw4 hRx hxs hxl
    simp only [List.setIfInBounds_toArray, List.set_cons_zero, List.set_cons_succ]
    obtain ⟨v0, hv0, hown0⟩ := hI.2.out
    have o0 := hv0.cell 0 v0 rfl
    have of0 := hv0.frozen 0
    have ol := hv0.lt
    have m0 := hI.2.mst.cell 0 _ rfl
    have ml := hI.2.mst.lt
    have HI := Lib.hid hI
    have HV := Lib.hid (And.intro hv0 hown0)
    have HRX := Lib.hid hRx
    clear hI hv0 hown0 hRx
    have hb0 := HI.out.2.later HL.out ((Below.refl W.heap.size W).drew)
    have HID := Lib.hid hb0
    have HDR : Hid (Below W.heap.size W W.drew) := Lib.hid (Below.refl _ _).drew
    clear hb0
    obtain ⟨i0, hi, hz0, hz1, hz2⟩ := info_parts infoString
    have HI0 := Lib.hid (And.intro hi (And.intro hz0 (And.intro hz1 hz2)))
    clear hi hz0 hz1 hz2
    gi_wp2_with fail
    refine regionIn_any (by kernel_rfl) (by kernel_rfl) (fun ⟨_, _, h⟩ => h) ?_
    refine wpAny_take (i := 1) (v := Nd t' b') rfl (by kernel_rfl) (by kernel_rfl) (by kernel_rfl) (fun _ _ _ h => h) (Or.inl ⟨by rfl, ?_⟩) ?_
    · intro w; go_simp
    simp only [Act.put, List.setIfInBounds_toArray, List.set_cons_zero, List.set_cons_succ]
    refine wpAny_ready (rs := [0, 2]) (by kernel_rfl) (by simp) ?_
    refine AllReady.cons rfl (fun K hK => ?_) (AllReady.cons rfl (fun K hK => ?_) AllReady.nil)
    · go_simp
      refine hK _ _ ?_
      clear hK K
      refine wpAny_ready (rs := [2]) (by kernel_rfl) (by simp) ?_
      refine AllReady.cons rfl (fun K hK => ?_) AllReady.nil
      refine step_call (by rfl) 25 _ _ (by rfl) #[Nd t' b'] (by first | rfl | (simp [Act.eval]; done) | (simp [Act.eval, Act.put]; done)) (enters_of Tryz.func25 (by kernel_rfl) rfl) (kind_any hxs HRX.out W.drew HID.out.sees HID.out.tab) ?_
      rintro e w6 ⟨rfl, hb6⟩
      refine ⟨_, rfl, ?_⟩
      refine hK _ _ ?_
      clear hK K
      have hb06 : Below W.heap.size W w6 := HDR.out.trans hb6
      have h6z : W.heap.size ≤ w6.heap.size := hb06.size
      have hv6 := HV.out.1.later hb06 ol
      have o6 := hv6.cell 0 v0 rfl
      have of6 := hv6.frozen 0
      have ol6 := hv6.lt
      have hal : Below w6.heap.size w6 (w6.alloc (Obj.cells #[Value.string x.kind] 9)) := (Below.refl _ _).alloc (Nat.le_refl _) _
      have HI7 := Lib.hid (And.intro ((HI.out.2.later HL.out hb06).later HL.out hal) (And.intro (hv6.later hal ol6) (And.intro (owns_kept (owns_kept HV.out.2 hb06) hal) (hb06.trans (hal.mono h6z)))))
      clear hb6 hb06 hv6 hal
      refine wpAny_ready (rs := [3]) (by kernel_rfl) (by simp) ?_
      refine AllReady.cons rfl (fun K hK => ?_) AllReady.nil
      go_simp
      refine hK _ _ ?_
      clear hK K
      refine wpAny_ready (rs := [4]) (by kernel_rfl) (by simp) ?_
      refine AllReady.cons rfl (fun K hK => ?_) AllReady.nil
      refine step_append_lies _ (by rfl) _ _ _ (by rfl) (w5.heap.size + 4) 9 i0 (.string ⟨#[]⟩) 1 16 underStrings HI0.out.1 HI0.out.2.1 HI0.out.2.2.1 HI0.out.2.2.2 rfl (by decide) v0 (xs.map N.kind).length ((xs.map N.kind).map Value.string) (by rfl) HI7.out.2.2.1 ⟨w6.heap.size, 0, none⟩ 1 1 [.string x.kind] (by rfl) rfl (World.news_of_block (heap_alloc_new w6 _)) (fun u hu => by simp at hu; subst hu; rfl) (by decide) (by unfold maxLen; rw [List.length_map]; omega) (by rw [List.length_map]; omega) (by simp; omega) _ rfl ?_
      intro g cap' w7 hown7 hg7 _ _
      refine hK _ _ ?_
      clear hK K
      have hO7 : Blk w7 (w.heap.size + 2) 33 #[v0] := (hg7.block (w.heap.size + 2) (by simp; omega) (fun h => by have := (HI7.out.2.2.1.lt _ h.symm).1; omega)).trans HI7.out.2.1
      have p0 := hO7.cell 0 v0 rfl
      have pf := hO7.frozen 0
      have pl := hO7.lt
      have hM7 : Blk w7 (w.heap.size + 1) 3 #[.int .i64 most] := (hg7.block (w.heap.size + 1) (by simp; omega) (fun h => by have := (HI7.out.2.2.1.lt _ h.symm).1; omega)).trans HI7.out.1.mst
      have q0 := hM7.cell 0 _ rfl
      have ql := hM7.lt
      have hp := HI7.out.1.push HL.out (by simp; omega) HI7.out.2.1 HI7.out.2.2.1 hown7 hg7
      rw [List.length_map] at hp
      have HP := Lib.hid hp
      clear hO7 hown7 hg7 hM7 hp
      refine wpAny_ready (rs := [5]) (by kernel_rfl) (by simp) ?_
      refine AllReady.cons rfl (fun K hK => ?_) AllReady.nil
      go_simp
      refine hK _ _ ?_
      clear hK K
      refine wpAny_done (by kernel_rfl) ?_ _
      have hwin : ∀ k, Win w5.heap.size k → _ = W.heap[k]? := fun k hk => (HP.out.2 k (by have := hk.2; omega) (by have := hk.1; omega)).trans (HI7.out.2.2.2.block k (by have := hk.2; omega))
      have HW := Lib.hid hwin
      have hkin : (xs ++ [x]).map N.kind = xs.map N.kind ++ [x.kind] := by simp
      have HKN := Lib.hid hkin
      clear hwin hkin
      by_cases hge : most ≤ (xs.length : Int) + 1
      · gi_wp2_with fail
        refine ⟨HW.out, rfl, ⟨by simp, by simp; omega, ?_⟩, by rw [HKN.out]; exact HP.out.1⟩
        rcases HI.out.1 with h | h
        · left; simp [h]
        · right; simp; omega
      · gi_wp2_with fail
        exact ⟨HW.out, .inr (by simp; omega), by rw [HKN.out]; exact HP.out.1⟩
    · refine step_call (by rfl) 25 _ _ (by rfl) #[Nd t' b'] (by first | rfl | (simp [Act.eval]; done) | (simp [Act.eval, Act.put]; done)) (enters_of Tryz.func25 (by kernel_rfl) rfl) (kind_any hxs HRX.out W.drew HID.out.sees HID.out.tab) ?_
      rintro e w6 ⟨rfl, hb6⟩
      refine ⟨_, rfl, ?_⟩
      refine hK _ _ ?_
      clear hK K
      have hb06 : Below W.heap.size W w6 := HDR.out.trans hb6
      have h6z : W.heap.size ≤ w6.heap.size := hb06.size
      have hv6 := HV.out.1.later hb06 ol
      have o6 := hv6.cell 0 v0 rfl
      have of6 := hv6.frozen 0
      have ol6 := hv6.lt
      have hal : Below w6.heap.size w6 (w6.alloc (Obj.cells #[Value.string x.kind] 9)) := (Below.refl _ _).alloc (Nat.le_refl _) _
      have HI7 := Lib.hid (And.intro ((HI.out.2.later HL.out hb06).later HL.out hal) (And.intro (hv6.later hal ol6) (And.intro (owns_kept (owns_kept HV.out.2 hb06) hal) (hb06.trans (hal.mono h6z)))))
      clear hb6 hb06 hv6 hal
      refine wpAny_ready (rs := [0, 3]) (by kernel_rfl) (by simp) ?_
      refine AllReady.cons rfl (fun K hK => ?_) (AllReady.cons rfl (fun K hK => ?_) AllReady.nil)
      · go_simp
        refine hK _ _ ?_
        clear hK K
        refine wpAny_ready (rs := [3]) (by kernel_rfl) (by simp) ?_
        refine AllReady.cons rfl (fun K hK => ?_) AllReady.nil
        go_simp
        refine hK _ _ ?_
        clear hK K
        refine wpAny_ready (rs := [4]) (by kernel_rfl) (by simp) ?_
        refine AllReady.cons rfl (fun K hK => ?_) AllReady.nil
        refine step_append_lies _ (by rfl) _ _ _ (by rfl) (w5.heap.size + 4) 9 i0 (.string ⟨#[]⟩) 1 16 underStrings HI0.out.1 HI0.out.2.1 HI0.out.2.2.1 HI0.out.2.2.2 rfl (by decide) v0 (xs.map N.kind).length ((xs.map N.kind).map Value.string) (by rfl) HI7.out.2.2.1 ⟨w6.heap.size, 0, none⟩ 1 1 [.string x.kind] (by rfl) rfl (World.news_of_block (heap_alloc_new w6 _)) (fun u hu => by simp at hu; subst hu; rfl) (by decide) (by unfold maxLen; rw [List.length_map]; omega) (by rw [List.length_map]; omega) (by simp; omega) _ rfl ?_
        intro g cap' w7 hown7 hg7 _ _
        refine hK _ _ ?_
        clear hK K
        have hO7 : Blk w7 (w.heap.size + 2) 33 #[v0] := (hg7.block (w.heap.size + 2) (by simp; omega) (fun h => by have := (HI7.out.2.2.1.lt _ h.symm).1; omega)).trans HI7.out.2.1
        have p0 := hO7.cell 0 v0 rfl
        have pf := hO7.frozen 0
        have pl := hO7.lt
        have hM7 : Blk w7 (w.heap.size + 1) 3 #[.int .i64 most] := (hg7.block (w.heap.size + 1) (by simp; omega) (fun h => by have := (HI7.out.2.2.1.lt _ h.symm).1; omega)).trans HI7.out.1.mst
        have q0 := hM7.cell 0 _ rfl
        have ql := hM7.lt
        have hp := HI7.out.1.push HL.out (by simp; omega) HI7.out.2.1 HI7.out.2.2.1 hown7 hg7
        rw [List.length_map] at hp
        have HP := Lib.hid hp
        clear hO7 hown7 hg7 hM7 hp
        refine wpAny_ready (rs := [5]) (by kernel_rfl) (by simp) ?_
        refine AllReady.cons rfl (fun K hK => ?_) AllReady.nil
        go_simp
        refine hK _ _ ?_
        clear hK K
        refine wpAny_done (by kernel_rfl) ?_ _
        have hwin : ∀ k, Win w5.heap.size k → _ = W.heap[k]? := fun k hk => (HP.out.2 k (by have := hk.2; omega) (by have := hk.1; omega)).trans (HI7.out.2.2.2.block k (by have := hk.2; omega))
        have HW := Lib.hid hwin
        have hkin : (xs ++ [x]).map N.kind = xs.map N.kind ++ [x.kind] := by simp
        have HKN := Lib.hid hkin
        clear hwin hkin
        by_cases hge : most ≤ (xs.length : Int) + 1
        · gi_wp2_with fail
          refine ⟨HW.out, rfl, ⟨by simp, by simp; omega, ?_⟩, by rw [HKN.out]; exact HP.out.1⟩
          rcases HI.out.1 with h | h
          · left; simp [h]
          · right; simp; omega
        · gi_wp2_with fail
          exact ⟨HW.out, .inr (by simp; omega), by rw [HKN.out]; exact HP.out.1⟩
      · go_simp
        refine hK _ _ ?_
        clear hK K
        refine wpAny_ready (rs := [0]) (by kernel_rfl) (by simp) ?_
        refine AllReady.cons rfl (fun K hK => ?_) AllReady.nil
        go_simp
        refine hK _ _ ?_
        clear hK K
        refine wpAny_ready (rs := [4]) (by kernel_rfl) (by simp) ?_
        refine AllReady.cons rfl (fun K hK => ?_) AllReady.nil
        refine step_append_lies _ (by rfl) _ _ _ (by rfl) (w5.heap.size + 4) 9 i0 (.string ⟨#[]⟩) 1 16 underStrings HI0.out.1 HI0.out.2.1 HI0.out.2.2.1 HI0.out.2.2.2 rfl (by decide) v0 (xs.map N.kind).length ((xs.map N.kind).map Value.string) (by rfl) HI7.out.2.2.1 ⟨w6.heap.size, 0, none⟩ 1 1 [.string x.kind] (by rfl) rfl (World.news_of_block (heap_alloc_new w6 _)) (fun u hu => by simp at hu; subst hu; rfl) (by decide) (by unfold maxLen; rw [List.length_map]; omega) (by rw [List.length_map]; omega) (by simp; omega) _ rfl ?_
        intro g cap' w7 hown7 hg7 _ _
        refine hK _ _ ?_
        clear hK K
        have hO7 : Blk w7 (w.heap.size + 2) 33 #[v0] := (hg7.block (w.heap.size + 2) (by simp; omega) (fun h => by have := (HI7.out.2.2.1.lt _ h.symm).1; omega)).trans HI7.out.2.1
        have p0 := hO7.cell 0 v0 rfl
        have pf := hO7.frozen 0
        have pl := hO7.lt
        have hM7 : Blk w7 (w.heap.size + 1) 3 #[.int .i64 most] := (hg7.block (w.heap.size + 1) (by simp; omega) (fun h => by have := (HI7.out.2.2.1.lt _ h.symm).1; omega)).trans HI7.out.1.mst
        have q0 := hM7.cell 0 _ rfl
        have ql := hM7.lt
        have hp := HI7.out.1.push HL.out (by simp; omega) HI7.out.2.1 HI7.out.2.2.1 hown7 hg7
        rw [List.length_map] at hp
        have HP := Lib.hid hp
        clear hO7 hown7 hg7 hM7 hp
        refine wpAny_ready (rs := [5]) (by kernel_rfl) (by simp) ?_
        refine AllReady.cons rfl (fun K hK => ?_) AllReady.nil
        go_simp
        refine hK _ _ ?_
        clear hK K
        refine wpAny_done (by kernel_rfl) ?_ _
        have hwin : ∀ k, Win w5.heap.size k → _ = W.heap[k]? := fun k hk => (HP.out.2 k (by have := hk.2; omega) (by have := hk.1; omega)).trans (HI7.out.2.2.2.block k (by have := hk.2; omega))
        have HW := Lib.hid hwin
        have hkin : (xs ++ [x]).map N.kind = xs.map N.kind ++ [x.kind] := by simp
        have HKN := Lib.hid hkin
        clear hwin hkin
        by_cases hge : most ≤ (xs.length : Int) + 1
        · gi_wp2_with fail
          refine ⟨HW.out, rfl, ⟨by simp, by simp; omega, ?_⟩, by rw [HKN.out]; exact HP.out.1⟩
          rcases HI.out.1 with h | h
          · left; simp [h]
          · right; simp; omega
        · gi_wp2_with fail
          exact ⟨HW.out, .inr (by simp; omega), by rw [HKN.out]; exact HP.out.1⟩
  · -- done
    clear hI0 hroot hb5 H4 H5 hR e00 e10 e20 en0 S3
    have s5a : w4.heap.size + 1 ≤ w5.heap.size := by omega
    clear s5 hL
    intro W hI hdf
    obtain ⟨v0, hv0, hown0⟩ := hI.2.out
    have o0 := hv0.cell 0 v0 rfl
    have of0 := hv0.frozen 0
    have ol := hv0.lt
    have HE := Lib.hid (yl_end (w := w) HL.out hI.2 hv0 (by omega))
    have hkn := kinds_nodes 400 n
    have HKN := Lib.hid hkn
    have HI := Lib.hid hI.1
    have HDF := Lib.hid hdf
    clear hI hv0 hown0 hkn hdf
    gi_wp2_with fail
    refine ⟨by simp, .inl ⟨_, _, rfl, run_takeDeferred HDF.out, ?_⟩⟩
    refine ⟨v0, ?_, v0, (nodes 400 n).map N.kind, rfl, ⟨by rw [HKN.out]; exact List.prefix_rfl, .inl HKN.out.symm, ?_, ?_⟩, HE.out.1, HE.out.2⟩
    · simp [results, Tryz.f13, go_sem]
    · rcases HI.out with h | h
      · simp [h]
      · rw [List.length_map]; omega
    · rw [← HKN.out]; simp [kinds]
  · -- left
    clear hI0 hroot hb5 H4 H5 hR e00 e10 e20 en0 S3
    have s5a : w4.heap.size + 1 ≤ w5.heap.size := by omega
    clear s5 hL
    intro c pre W hpre hX hdf
    obtain ⟨rfl, hlen, hI⟩ := hX
    obtain ⟨v0, hv0, hown0⟩ := hI.out
    have o0 := hv0.cell 0 v0 rfl
    have of0 := hv0.frozen 0
    have ol := hv0.lt
    have HE := Lib.hid (yl_end (w := w) HL.out hI hv0 (by omega))
    have hkn := kinds_nodes 400 n
    have HKN := Lib.hid hkn
    have HI := Lib.hid hlen
    have HPR := Lib.hid hpre
    have HDF := Lib.hid hdf
    clear hI hv0 hown0 hkn hdf hlen hpre
    gi_wp2_with fail
    refine ⟨by simp, .inl ⟨_, _, rfl, run_takeDeferred HDF.out, ?_⟩⟩
    refine ⟨v0, ?_, v0, pre.map N.kind, rfl, ⟨by rw [HKN.out]; exact HPR.out.map _, .inr (by rw [List.length_map]; exact HI.out.2.1), ?_, ?_⟩, HE.out.1, HE.out.2⟩
    · simp [results, Tryz.f13, go_sem]
    · rw [List.length_map]
      rcases HI.out.2.2 with h | h
      · omega
      · omega
    · simpa using HI.out.1
end Go.Proofs.YtpifflakohlglaaGreatFmt

