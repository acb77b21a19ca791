/- What is proved here: what lies below a node, the walks as functions on trees, and that Walk goes as they do. Conditions: each theorem names its own. -/
import Derived.WalkKit
import Derived.Shelf.Abstract
import Derived.ChangeKeysEq
import Derived.Test.YtpifflakohlglaaGreatFmtMb
set_option linter.all false
set_option linter.unusedVariables false
set_option linter.unusedSimpArgs false
/- What is proved here: a small executor of code that reads one block and calls: what it says of a piece of code holds of it. No program is in sight. -/
namespace Go.Proofs.YtpifflakohlglaaGreatFmt
open Go Go.Shelf
set_option linter.unusedVariables false
set_option linter.unusedSimpArgs false

/-- A value as the executor knows it: as it is; the node under look; the address of one of its cells; what an assertion gives. -/
inductive SV where
  | val (x : Value)
  | node
  | cell (o : Nat)
  | tup (x : SV) (t : Bool)
/-- What the executor is told: the program, the node's type, its block, what its cells hold, the size of the frame. -/
structure Cx where
  P : Program
  t : TypeId
  B : Nat
  M : Nat → Option Value
  K : Nat
def SV.den (X : Cx) : SV → Value
  | .val x => x
  | .node => .iface X.t (.pointer (some ⟨X.B, 0, none⟩))
  | .cell o => .pointer (some ⟨X.B, o, none⟩)
  | .tup x t => .tuple #[x.den X, .bool t]
abbrev Env := List (Nat × Option SV)
def look : Env → Nat → Option SV
  | [], _ => none
  | (i, v) :: r, j => if i == j then v else look r j
def opd (σ : Env) : Operand → Option SV
  | .tmp i => look σ i
  | .const v => some (.val v)
  | _ => none
def ptrT (P : Program) (T : TypeId) : Bool :=
  (match P.underlying T with | some (.pointer _) => true | _ => false) && (match P.info? T with | some i => (match i.zero with | some (.pointer none) => true | _ => false) | none => false)
def ptrU (P : Program) (T : TypeId) : Bool := match P.underlying T with | some (.pointer _) => true | _ => false
def ifcU (P : Program) (T : TypeId) : Bool := match P.underlying T with | some (.interface _) => true | _ => false
def oneU (P : Program) (T : TypeId) : Bool := match P.underlying T with | some (.struct _) => false | some (.array _ _) => false | some _ => true | none => false
def fldOff (P : Program) (S : TypeId) (f : Nat) : Option Nat :=
  match P.underlying S with
  | some (.struct fs) => match fs[f]? with
    | some fd => match P.info? fd.type with
      | some i => if i.size == 0 then none else some fd.offset
      | none => none
    | none => none
  | _ => none
/-- Whether a value is nil, at a type. -/
def isNil (P : Program) (T : TypeId) : Value → Option Bool
  | .nilIface => if ifcU P T then some true else none
  | .iface _ _ => if ifcU P T then some false else none
  | .pointer none => if ptrU P T then some true else none
  | .pointer (some _) => if ptrU P T then some false else none
  | _ => none
def nilFor : Value → Value → Bool
  | .nilIface, .nilIface => true
  | .iface _ _, .nilIface => true
  | .pointer _, .pointer none => true
  | _, _ => false
def asB : SV → Option Bool
  | .val (.bool t) => some t
  | _ => none
def stepOp (X : Cx) (σ : Env) : Op → Option SV
  | .move x => opd σ x
  | .assign x => opd σ x
  | .typeAssert x _ T true => match opd σ x with
    | some .node => if ptrT X.P T then (if X.t == T then some (.tup (.cell 0) true) else some (.tup (.val (.pointer none)) false)) else none
    | _ => none
  | .extract x i => match opd σ x with
    | some (.tup y t) => if i == 0 then some y else if i == 1 then some (.val (.bool t)) else none
    | _ => none
  | .pick c a b => match opd σ c with
    | some (.val (.bool t)) => if t then opd σ a else opd σ b
    | _ => none
  | .nilCheck x => match opd σ x with
    | some (.cell o) => some (.cell o)
    | _ => none
  | .fieldAddr S x f => match opd σ x with
    | some (.cell o) => if o == 0 then (fldOff X.P S f).map .cell else none
    | _ => none
  | .load T x => match opd σ x with
    | some (.cell o) => if oneU X.P T then (X.M o).map .val else none
    | _ => none
  | .makeInterface T x => match opd σ x with
    | some (.val v) => if ptrU X.P T then some (.val (.iface T v)) else none
    | _ => none
  | .binOp op T x (.const z) _ => match opd σ x with
    | some (.val v) => if nilFor v z then (match op with
        | .eql => (isNil X.P T v).map fun t => .val (.bool t)
        | .neq => (isNil X.P T v).map fun t => .val (.bool (!t))
        | _ => none) else none
    | _ => none
  | _ => none
/-- A call that is made: of a function, or of a method; what it returned, where that is told. -/
inductive Ev where
  | fn (g : Nat) (args : List SV) (res : Option Value)
  | meth (r : SV) (name : String) (args : List SV) (res : Option Value)
def opds (σ : Env) : List Operand → Option (List SV)
  | [] => some []
  | x :: r => match opd σ x, opds σ r with
    | some v, some l => some (v :: l)
    | _, _ => none
def callOp (σ : Env) (res : Option Value) : Op → Option Ev
  | .call c => match opds σ c.args.toList with
    | some l => match c.callee with
      | .value (.func g) => some (.fn g l res)
      | .invoke r name => (opd σ r).map fun v => .meth v name l res
      | _ => none
    | none => none
  | _ => none
def bindTo (X : Cx) (σ : Env) (dst : Option Tmp) (v : Option SV) : Option Env :=
  match dst with
  | none => some σ
  | some d => if Nat.blt d X.K then some ((d, v) :: σ) else none
def execOps (X : Cx) : List Oper → Env → List Value → Option (Env × List Value × List Ev)
  | [], σ, os => some (σ, os, [])
  | o :: r, σ, os =>
    if o.guard.isSome then none else
    match callOp σ os.head? o.op with
    | some ev => match bindTo X σ o.dst (os.head?.map .val) with
      | some σ' => match execOps X r σ' os.tail with
        | some (σ2, os2, evs) => some (σ2, os2, ev :: evs)
        | none => none
      | none => none
    | none => match stepOp X σ o.op with
      | some v => match bindTo X σ o.dst (some v) with
        | some σ' => execOps X r σ' os
        | none => none
      | none => none
inductive Kont where
  | code (c : Code)
  | blk (id : Nat)
def exec (X : Cx) : Nat → Code → List Kont → Env → List Value → Option (List Ev)
  | 0, _, _, _, _ => none
  | f + 1, .skip, [], _, _ => some []
  | f + 1, .skip, .code y :: k, σ, os => exec X f y k σ os
  | f + 1, .skip, .blk _ :: k, σ, os => exec X f .skip k σ os
  | f + 1, .seq x y, k, σ, os => exec X f x (.code y :: k) σ os
  | f + 1, .block id c, k, σ, os => exec X f c (.blk id :: k) σ os
  | f + 1, .exit id, .code _ :: k, σ, os => exec X f (.exit id) k σ os
  | f + 1, .exit id, .blk id' :: k, σ, os => if id == id' then exec X f .skip k σ os else exec X f (.exit id) k σ os
  | _ + 1, .ret, _, _, _ => some []
  | f + 1, .cond c x y, k, σ, os => match opd σ c with
    | some (.val (.bool t)) => if t then exec X f x k σ os else exec X f y k σ os
    | _ => none
  | f + 1, .region _ ops false, k, σ, os => match execOps X ops.toList σ os with
    | some (σ2, os2, evs) => match exec X f .skip k σ2 os2 with
      | some evs2 => some (evs ++ evs2)
      | none => none
    | none => none
  | _ + 1, _, _, _, _ => none

/-! ### What it says holds -/
def Mem (X : Cx) (w : World) : Prop := ∀ o v, X.M o = some v → w.cell? ⟨X.B, o, none⟩ = some v
def ResOK (res : Option Value) (e : Ending) : Prop := match res with
  | some v => e = .returned v
  | none => ∃ v, e = .returned v
def Trace (X : Cx) : List Ev → (World → Prop) → World → Prop
  | [], F, w => Mem X w ∧ F w
  | .fn g args res :: r, F, w => Mem X w ∧ Enters X.P g ∧ Calls X.P g (args.map (SV.den X)).toArray w fun e w' => ResOK res e ∧ Trace X r F w'
  | .meth v name args res :: r, F, w => Mem X w ∧ ∃ g a', (callMethod (v.den X) name (args.map (SV.den X)).toArray).run X.P w = .ok (.enter g a') w ∧ Calls X.P g a' w fun e w' => ResOK res e ∧ Trace X r F w'
theorem Trace.mem {X : Cx} {l : List Ev} {F : World → Prop} {w : World} (h : Trace X l F w) : Mem X w := by
  cases l with
  | nil => exact h.1
  | cons e r => cases e <;> exact h.1
structure Knows (X : Cx) (σ : Env) (a : Act) : Prop where
  size : a.tmps.size = X.K
  at_ : ∀ i v, look σ i = some v → a.tmps.getD i undef = v.den X
theorem Knows.ev {X : Cx} {σ : Env} {a : Act} (h : Knows X σ a) {x : Operand} {v : SV} (hx : opd σ x = some v) : a.eval x = v.den X := by
  cases x with
  | tmp i => exact h.at_ i v hx
  | const c => simp [opd] at hx; subst hx; rfl
  | _ => simp [opd] at hx
theorem Knows.put {X : Cx} {σ σ' : Env} {a : Act} (h : Knows X σ a) {dst : Option Tmp} {v : Option SV} {x : Value} (hb : bindTo X σ dst v = some σ') (hx : ∀ y, v = some y → x = y.den X) : Knows X σ' (a.put dst x) := by
  cases dst with
  | none => simp [bindTo] at hb; subst hb; exact h
  | some d =>
    simp only [bindTo] at hb
    split at hb
    · rename_i hlt
      have hlt : d < X.K := by rw [Nat.blt_eq] at hlt; exact hlt
      cases hb
      refine ⟨by simp [Act.put, h.size], fun i y hy => ?_⟩
      simp only [look] at hy
      simp only [Act.put, Array.getD_eq_getD_getElem?]
      by_cases hd : d = i
      · subst hd
        simp at hy
        rw [Array.getElem?_setIfInBounds_self_of_lt (by rw [h.size]; exact hlt)]
        exact hx y hy
      · rw [Array.getElem?_setIfInBounds_ne hd]
        have : (d == i) = false := by simpa using hd
        rw [this] at hy
        have := h.at_ i y hy
        rwa [Array.getD_eq_getD_getElem?] at this
    · cases hb
def den (P : Program) : List Kont → (Exit → Act → World → Prop) → Exit → Act → World → Prop
  | [], Q => Q
  | .code y :: k, Q => Exit.then (y.wp P (den P k Q)) (den P k Q)
  | .blk id :: k, Q => Exit.inBlock id (den P k Q)
theorem den_ret {P : Program} {Q : Exit → Act → World → Prop} (k : List Kont) {a : Act} {w : World} (h : Q .ret a w) : den P k Q .ret a w := by
  induction k with
  | nil => exact h
  | cons x k ih => cases x <;> exact ih

/-! ### Each operation -/
section
variable {P : Program}
theorem run_assert {T X t : TypeId} {u : Value} (h : ptrT P T = true) (w : World) :
    (Instr.typeAssert (.iface t u) X T true).run P w = .ok (if t = T then .tuple #[u, .bool true] else .tuple #[.pointer none, .bool false]) w := by
  unfold ptrT at h
  rw [Bool.and_eq_true] at h
  obtain ⟨h1, h2⟩ := h
  split at h1
  · rename_i e hu
    split at h2
    · rename_i i hi
      split at h2
      · rename_i hz
        have hr := run_underlying (w := w) hu
        have hi2 := run_typeInfo w hi
        by_cases ht : t = T
        · simp [Instr.typeAssert, hr, ht]
        · simp [Instr.typeAssert, hr, ht, zeroValue, hi2, hz]
      · cases h2
    · cases h2
  · cases h1
theorem run_fieldAt {S : TypeId} {f o B : Nat} (h : fldOff P S f = some o) (w : World) :
    (Instr.fieldAt S (.pointer (some ⟨B, 0, none⟩)) f).run P w = .ok (.pointer (some ⟨B, o, none⟩)) w := by
  unfold fldOff at h
  split at h
  · rename_i fs hu
    split at h
    · rename_i fd hf
      split at h
      · rename_i i hi
        split at h
        · cases h
        · rename_i hs
          cases h
          have hs' : i.size ≠ 0 := by simpa using hs
          have hc : P.cellsOf fd.type = i.size := by simp [Program.cellsOf, hi]
          simp [Instr.fieldAt, run_underlying (w := w) hu, hf, Instr.sureAddr, fieldPlace, run_sizeOf w hi, hc, hs', Addr.add]
          exact fun h => h.symm
      · cases h
    · cases h
  · cases h
theorem run_load {T : TypeId} {a : Addr} {v : Value} {w : World} (h : oneU P T = true) (hc : w.cell? a = some v) : (Instr.loadAt T (.pointer (some a))).run P w = .ok v w := by
  unfold oneU at h
  cases hu : P.underlying T with
  | none => rw [hu] at h; cases h
  | some d =>
    rw [hu] at h
    have ha := run_isAgg_plain (P := P) hu (by cases d <;> simp_all) w
    simp [Instr.loadAt, Instr.sureAddr, loadVar, ha, hc]
theorem run_box {T : TypeId} {v : Value} (h : ptrU P T = true) (w : World) : (Instr.makeInterface T v).run P w = .ok (.iface T v) w := by
  unfold ptrU at h
  split at h
  · rename_i e hu
    simp [Instr.makeInterface, run_underlying (w := w) hu]
  · cases h
theorem run_eqNil {T : TypeId} {v z : Value} {t : Bool} (hz : nilFor v z = true) (h : isNil P T v = some t) (w : World) : (Op.equal T v z).run P w = .ok t w := by
  unfold isNil at h
  split at h
  · split at h
    · rename_i hu
      cases h
      unfold ifcU at hu
      split at hu
      · rename_i ms hd
        cases z <;> simp [nilFor] at hz
        (show (Op.equalIn (9999 + 1) T _ _).run P w = _; rw [Op.equalIn]; simp [run_underlying (w := w) hd])
      · cases hu
    · cases h
  · split at h
    · rename_i hu
      cases h
      unfold ifcU at hu
      split at hu
      · rename_i ms hd
        cases z <;> simp [nilFor] at hz
        (show (Op.equalIn (9999 + 1) T _ _).run P w = _; rw [Op.equalIn]; simp [run_underlying (w := w) hd])
      · cases hu
    · cases h
  · split at h
    · rename_i hu
      cases h
      unfold ptrU at hu
      split at hu
      · rename_i ms hd
        cases z with
        | pointer p =>
          cases p with
          | none => (show (Op.equalIn (9999 + 1) T _ _).run P w = _; rw [Op.equalIn]; simp [run_underlying (w := w) hd])
          | some a => simp [nilFor] at hz
        | _ => simp [nilFor] at hz
      · cases hu
    · cases h
  · split at h
    · rename_i hu
      cases h
      unfold ptrU at hu
      split at hu
      · rename_i ms hd
        cases z with
        | pointer p =>
          cases p with
          | none => (show (Op.equalIn (9999 + 1) T _ _).run P w = _; rw [Op.equalIn]; simp [run_underlying (w := w) hd])
          | some a => simp [nilFor] at hz
        | _ => simp [nilFor] at hz
      · cases hu
    · cases h
  · cases h
end

theorem stepOp_sound {X : Cx} {σ : Env} {a : Act} {w : World} {o : Oper} {v : SV} (hk : Knows X σ a) (hm : Mem X w) (h : stepOp X σ o.op = some v) : (execOp a.eval o).run X.P w = .ok (.value (v.den X)) w := by
  obtain ⟨dst, op, ty, pos, after, guard⟩ := o
  cases op <;> simp only [stepOp] at h <;> try cases h
  case move x => simp [execOp, hk.ev h]
  case assign x => simp [execOp, hk.ev h]
  case typeAssert x X' T ok =>
    cases ok <;> simp only [stepOp] at h <;> try cases h
    split at h
    · rename_i hx
      split at h
      · rename_i hT
        have e := hk.ev hx
        split at h
        · rename_i ht
          cases h
          have ht : X.t = T := by simpa using ht
          simp [execOp, e, SV.den, run_assert hT, ht]
        · rename_i ht
          cases h
          have ht : ¬ X.t = T := by simpa using ht
          simp [execOp, e, SV.den, run_assert hT, ht]
      · cases h
    · cases h
  case extract x i =>
    split at h
    · rename_i y t hx
      have e := hk.ev hx
      split at h
      · rename_i hi
        cases h
        have hi : i = 0 := by simpa using hi
        subst hi
        simp [execOp, e, SV.den, Instr.extract]
      · split at h
        · rename_i hi
          cases h
          have hi : i = 1 := by simpa using hi
          subst hi
          simp [execOp, e, SV.den, Instr.extract]
        · cases h
    · cases h
  case pick c x y =>
    split at h
    · rename_i t hc
      have e := hk.ev hc
      cases t
      · simp only [Bool.false_eq_true, if_false] at h
        simp [execOp, e, SV.den, asBool, hk.ev h]
      · simp only [if_true] at h
        simp [execOp, e, SV.den, asBool, hk.ev h]
    · cases h
  case nilCheck x =>
    split at h
    · rename_i o hx
      cases h
      simp [execOp, hk.ev hx, SV.den]
    · cases h
  case fieldAddr S x f =>
    split at h
    · rename_i o hx
      split at h
      · rename_i ho
        have ho : o = 0 := by simpa using ho
        subst ho
        cases hf : fldOff X.P S f with
        | none => rw [hf] at h; cases h
        | some p =>
          rw [hf] at h
          cases h
          simp [execOp, hk.ev hx, SV.den, run_fieldAt hf]
      · cases h
    · cases h
  case load T x =>
    split at h
    · rename_i o hx
      split at h
      · rename_i hT
        cases hM : X.M o with
        | none => rw [hM] at h; cases h
        | some p =>
          rw [hM] at h
          cases h
          simp [execOp, hk.ev hx, SV.den, run_load hT (hm o p hM)]
      · cases h
    · cases h
  case makeInterface T x =>
    split at h
    · rename_i u hx
      split at h
      · rename_i hT
        cases h
        simp [execOp, hk.ev hx, SV.den, run_box hT]
      · cases h
    · cases h
  case binOp op T x y yT =>
    cases y with
    | const z =>
      simp only at h
      split at h
      · rename_i u hx
        split at h
        · rename_i hz
          have e := hk.ev hx
          have ez : a.eval (.const z) = z := rfl
          cases op <;> simp only at h <;> try cases h
          · cases hn : isNil X.P T u with
            | none => rw [hn] at h; cases h
            | some t =>
              rw [hn] at h
              cases h
              have hr := run_eqNil hz hn w
              cases u <;> cases z <;> simp [nilFor] at hz <;> simp [execOp, e, ez, SV.den, eqGuard, binOp, hr] <;> first | (cases op <;> simp_all) | skip
          · cases hn : isNil X.P T u with
            | none => rw [hn] at h; cases h
            | some t =>
              rw [hn] at h
              cases h
              have hr := run_eqNil hz hn w
              cases u <;> cases z <;> simp [nilFor] at hz <;> simp [execOp, e, ez, SV.den, eqGuard, binOp, hr]
        · cases h
      · cases h
    | _ => simp at h
theorem opds_sound {X : Cx} {σ : Env} {a : Act} (hk : Knows X σ a) : ∀ {l : List Operand} {vs : List SV}, opds σ l = some vs → l.map a.eval = vs.map (SV.den X) := by
  intro l
  induction l with
  | nil => intro vs h; simp [opds] at h; subst h; rfl
  | cons x r ih =>
    intro vs h
    simp only [opds] at h
    split at h
    · rename_i v l' hx hl
      cases h
      simp [hk.ev hx, ih hl]
    · cases h
theorem Trace.app {X : Cx} {F : World → Prop} : ∀ {l m : List Ev} {w : World}, Trace X (l ++ m) F w → Trace X l (Trace X m F) w := by
  intro l
  induction l with
  | nil => intro m w h; exact ⟨h.mem, h⟩
  | cons e r ih =>
    intro m w h
    cases e with
    | fn g args res =>
      obtain ⟨h1, h2, h3⟩ := h
      exact ⟨h1, h2, h3.mono fun e w' hx => ⟨hx.1, ih hx.2⟩⟩
    | meth v name args res =>
      obtain ⟨h1, g, a', h2, h3⟩ := h
      exact ⟨h1, g, a', h2, h3.mono fun e w' hx => ⟨hx.1, ih hx.2⟩⟩
theorem execOps_sound {X : Cx} {ops : Array Oper} {Q : Exit → Act → World → Prop} {G : World → Prop} : ∀ (l : List Oper) (σ : Env) (os : List Value) (σ2 : Env) (os2 : List Value) (evs : List Ev), execOps X l σ os = some (σ2, os2, evs) →
    ∀ (a : Act) (w : World), Knows X σ a → Trace X evs G w → (∀ a' w', Knows X σ2 a' → a'.defers = a.defers → Mem X w' → G w' → Q .normal a' w') → wpList X.P ops Q l a w := by
  intro l
  induction l with
  | nil =>
    intro σ os σ2 os2 evs h a w hk ht hq
    simp only [execOps, Option.some.injEq, Prod.mk.injEq] at h
    obtain ⟨rfl, rfl, rfl⟩ := h
    exact wpList_nil (hq a w hk rfl ht.1 ht.2)
  | cons o r ih =>
    intro σ os σ2 os2 evs h a w hk ht hq
    refine wpList_step fun K hK => ?_
    simp only [execOps] at h
    split at h
    · cases h
    · rename_i hg
      have hg : o.guard = none := by simpa using hg
      have hw : Region.wanted o (yielded ops a.tmps) = true := by simp [Region.wanted, hg]
      rw [if_pos hw]
      split at h
      · rename_i ev hc
        split at h
        · rename_i σ' hb
          split at h
          · rename_i s3 o3 e3 hr
            simp only [Option.some.injEq, Prod.mk.injEq] at h
            obtain ⟨rfl, rfl, rfl⟩ := h
            unfold callOp at hc
            split at hc
            · rename_i c hop
              split at hc
              · rename_i vs hvs
                have ha := opds_sound hk hvs
                have ha' : c.args.map a.eval = (vs.map (SV.den X)).toArray := Array.ext' (by rw [Array.toList_map, ha])
                have fin : ∀ (e : Ending) (w' : World), ResOK os.head? e → Trace X e3 G w' → (match e, w' with
                    | .returned v, w'' => K (a.put o.dst v) w''
                    | .panicked chain, w'' => Q (.panic chain) a w''
                    | .outgrown, _ => LetsOut Q) := by
                  intro e w' hres htr
                  have hv : ∃ v, e = .returned v ∧ ∀ y, os.head?.map SV.val = some y → v = y.den X := by
                    cases ho : os.head? with
                    | none => rw [ho] at hres; obtain ⟨v, rfl⟩ := hres; exact ⟨v, rfl, fun y hy => by simp at hy⟩
                    | some x => rw [ho] at hres; exact ⟨x, hres, fun y hy => by simp at hy; subst hy; rfl⟩
                  obtain ⟨v, rfl, hv⟩ := hv
                  refine hK _ _ (ih σ' os.tail _ _ _ hr (a.put o.dst v) w' (hk.put hb hv) htr fun a' w'' h1 h2 => hq a' w'' h1 (h2.trans ?_))
                  cases o.dst <;> rfl
                split at hc
                · rename_i g hcal
                  cases hc
                  obtain ⟨_, he, hcalls⟩ := ht
                  have hex : (execOp a.eval o).run X.P w = .ok (.enter g (vs.map (SV.den X)).toArray) w := by
                    have hgv : a.eval (.func g) = .func (.func g) #[] #[] := rfl
                    simp only [execOp, hop, resolve, hcal, hgv, Deferred.ofValue, invoke, ha', Array.empty_append, Array.append_empty, Sem.run_bind, Sem.run_pure, Result.andThen_ok]
                    exact he _ w
                  unfold Oper.wp
                  rw [hex, Oper.upon_enter]
                  exact hcalls.mono fun e w' hx => fin e w' hx.1 hx.2
                · rename_i rv name hcal
                  cases hrv : opd σ rv with
                  | none => rw [hrv] at hc; cases hc
                  | some v =>
                    rw [hrv] at hc
                    cases hc
                    obtain ⟨_, g, a', he, hcalls⟩ := ht
                    have hex : (execOp a.eval o).run X.P w = .ok (.enter g a') w := by
                      have h0 : (#[v.den X] ++ (vs.map (SV.den X)).toArray).extract 1 (#[v.den X] ++ (vs.map (SV.den X)).toArray).size = (vs.map (SV.den X)).toArray := by
                        simp [List.take_of_length_le]
                      have h1 : (#[v.den X] ++ (vs.map (SV.den X)).toArray)[0]? = some (v.den X) := by simp
                      simp only [execOp, hop, resolve, hcal, invoke, ha', hk.ev hrv, Sem.run_bind, Sem.run_pure, Result.andThen_ok, h0, h1]
                      exact he
                    unfold Oper.wp
                    rw [hex, Oper.upon_enter]
                    exact hcalls.mono fun e w' hx => fin e w' hx.1 hx.2
                · cases hc
              · cases hc
            · cases hc
          · cases h
        · cases h
      · rename_i hc
        split at h
        · rename_i v hv
          split at h
          · rename_i σ' hb
            have hex := stepOp_sound hk ht.mem hv
            unfold Oper.wp
            rw [hex, Oper.upon_value]
            refine hK _ _ (ih σ' os _ _ _ h (a.put o.dst (v.den X)) w (hk.put hb fun y hy => by cases hy; rfl) ht fun a' w'' h1 h2 => hq a' w'' h1 (h2.trans ?_))
            cases o.dst <;> rfl
          · cases h
        · cases h
theorem exec_all {X : Cx} {Q : Exit → Act → World → Prop} {F : World → Prop} : ∀ (f : Nat) (c : Code) (k : List Kont) (σ : Env) (os : List Value) (evs : List Ev), exec X f c k σ os = some evs →
    ∀ (a : Act) (w : World), Knows X σ a → Trace X evs F w → (∀ e a' w', (e = .normal ∨ e = .ret) → a'.defers = a.defers → F w' → Q e a' w') →
      c.wp X.P (den X.P k Q) a w ∧ (c = .skip → den X.P k Q .normal a w) ∧ (∀ id, c = .exit id → den X.P k Q (.exit id) a w) := by
  intro f
  induction f with
  | zero => intro c k σ os evs h; cases h
  | succ f ih =>
    intro c k σ os evs h a w hk ht hq
    cases c with
    | skip =>
      have key : den X.P k Q .normal a w := by
        cases k with
        | nil => simp only [exec, Option.some.injEq] at h; subst h; exact hq _ _ _ (.inl rfl) rfl ht.2
        | cons x k =>
          cases x with
          | code y => exact (ih y k σ os evs h a w hk ht hq).1
          | blk id => exact (ih .skip k σ os evs h a w hk ht hq).2.1 rfl
      exact ⟨wp_skip key, fun _ => key, fun id hid => by cases hid⟩
    | seq x y => exact ⟨wp_seq (ih x (.code y :: k) σ os evs h a w hk ht hq).1, (fun h => by cases h), fun id hid => by cases hid⟩
    | block id c => exact ⟨wp_block (ih c (.blk id :: k) σ os evs h a w hk ht hq).1, (fun h => by cases h), fun id hid => by cases hid⟩
    | exit id =>
      have key : den X.P k Q (.exit id) a w := by
        cases k with
        | nil => simp [exec] at h
        | cons x k =>
          cases x with
          | code y => exact (ih (.exit id) k σ os evs h a w hk ht hq).2.2 id rfl
          | blk id' =>
            simp only [exec] at h
            show (if id = id' then den X.P k Q .normal a w else den X.P k Q (.exit id) a w)
            split at h
            · rename_i he
              rw [if_pos (by simpa using he)]
              exact (ih .skip k σ os evs h a w hk ht hq).2.1 rfl
            · rename_i he
              rw [if_neg (by simpa using he)]
              exact (ih (.exit id) k σ os evs h a w hk ht hq).2.2 id rfl
      exact ⟨wp_exit key, (fun h => by cases h), fun id' hid => by cases hid; exact key⟩
    | ret =>
      simp only [exec, Option.some.injEq] at h; subst h
      exact ⟨wp_ret (den_ret k (hq _ _ _ (.inr rfl) rfl ht.2)), (fun h => by cases h), fun id hid => by cases hid⟩
    | cond c x y =>
      refine ⟨?_, (fun h => by cases h), fun id hid => by cases hid⟩
      simp only [exec] at h
      split at h
      · rename_i t hc
        have e := hk.ev hc
        cases t
        · exact wp_cond_false e (ih y k σ os evs (by simpa using h) a w hk ht hq).1
        · exact wp_cond_true e (ih x k σ os evs (by simpa using h) a w hk ht hq).1
      · cases h
    | region id ops dr =>
      refine ⟨?_, (fun h => by cases h), fun id hid => by cases hid⟩
      cases dr with
      | true => simp [exec] at h
      | false =>
        simp only [exec] at h
        split at h
        · rename_i s2 o2 e1 h1
          split at h
          · rename_i e2 h2
            cases h
            refine wp_region_list (execOps_sound (G := Trace X e2 F) ops.toList σ os s2 o2 e1 h1 a w hk ht.app fun a' w' hk' hd _ ht' => ?_)
            exact (ih .skip k s2 o2 e2 h2 a' w' hk' ht' fun e a2 w2 h3 h4 h5 => hq e a2 w2 h3 (h4.trans hd) h5).2.1 rfl
          · cases h
        · cases h
    | _ => simp [exec] at h
/-- A function without results whose body the executor goes through. -/
theorem exec_calls {X : Cx} {F : World → Prop} {g : Nat} {fn : Func} {args : Array Value} {w : World} {R : Ending → World → Prop} (f : Nat) (σ : Env) (os : List Value) (evs : List Ev)
    (hf : X.P.funcs[g]? = some fn) (hres : fn.results = #[]) (hK : X.K = fn.ntmps) (ha : args.size ≤ fn.ntmps) (hσ : ∀ i v, look σ i = some v → args[i]? = some (v.den X))
    (he : (fn.body.bind fun c => exec X f c [] σ os) = some evs) (ht : Trace X evs F w) (hR : ∀ w', F w' → R (.returned (.tuple #[])) w') : Calls X.P g args w R := by
  cases hb : fn.body with
  | none => rw [hb] at he; cases he
  | some c =>
    rw [hb] at he
    have he : exec X f c [] σ os = some evs := he
    refine calls_of_wp hf hb ?_
    refine (exec_all (Q := bodyPost X.P fn R) f c [] σ os evs he _ w ⟨?_, fun i v hv => ?_⟩ ht fun e a' w' h1 h2 h3 => ?_).1
    · simp; omega
    · have h := hσ i v hv
      have hi : i < args.size := (Array.getElem?_eq_some_iff.1 h).1
      rw [Array.getD_eq_getD_getElem?, Array.getElem?_append_left hi, h]
      rfl
    · rcases h1 with rfl | rfl <;> exact ⟨h2, _, results_none hres _ _ _, hR w' h3⟩
end Go.Proofs.YtpifflakohlglaaGreatFmt

/- What is proved here: what lies below a node of a declaration, in the order of the walks, and how many steps a walk takes. No program is in sight. -/
namespace Go.Proofs.YtpifflakohlglaaGreatFmt
open Go.RowKit

/-- What a node below stands for: the nodes of a list, nothing, or itself. -/
def flat (x : N) : List N := if isK x [108, 105, 115, 116] then x.kids else if missing x then [] else [x]
def here (x : N) : List N := if missing x then [] else [x]
/-- The nodes below a node, as the walks meet them. -/
def subs (n : N) : List N :=
  if isK n [102, 105, 101, 108, 100] then n.kids.tail ++ n.kids.take 1 ++ (if n.text.toList.isEmpty then [] else [litN n.text])
  else if isK n [112, 97, 116, 104] then (n.kids.take 1).flatMap here ++ [litN n.text]
  else if isK n [116, 121, 112, 101] || isK n [97, 108, 105, 97, 115] then identN n.text :: n.kids.take 1
  else if isK n [115, 101, 108, 101, 99, 116] then n.kids.take 1 ++ [identN n.text]
  else if isK n [102, 117, 110, 99] then (n.kids.take 1).flatMap here ++ identN n.text :: n.kids.tail.flatMap flat
  else n.kids.flatMap flat

theorem isK_eq {n : N} {c : List UInt8} (h : isK n c = true) : n.kind.toList = c := beq_iff_eq.1 h
theorem missing_kind {n : N} (h : missing n = true) : n.kind.toList = [110, 111, 110, 101] := by
  simp only [missing, Bool.and_eq_true] at h
  exact isK_eq h.1.1
theorem not_missing {n : N} {c : List UInt8} (h : isK n c = true) (hc : (c == [110, 111, 110, 101]) = false) : missing n = false := by
  cases hm : missing n with
  | false => rfl
  | true =>
    have h1 := missing_kind hm
    rw [isK_eq h] at h1
    rw [h1] at hc
    simp at hc
theorem flat_of {n : N} {c : List UInt8} (h : isK n c = true) (hc : (c == [110, 111, 110, 101]) = false) (hl : (c == [108, 105, 115, 116]) = false) : flat n = [n] := by
  have h1 : isK n [108, 105, 115, 116] = false := by rw [isK, isK_eq h]; exact hl
  simp [flat, h1, not_missing h hc]
theorem here_of {n : N} {c : List UInt8} (h : isK n c = true) (hc : (c == [110, 111, 110, 101]) = false) : here n = [n] := by simp [here, not_missing h hc]
theorem flat_missing {n : N} (h : missing n = true) : flat n = [] := by
  have h1 : isK n [108, 105, 115, 116] = false := by rw [isK, missing_kind h]; rfl
  simp [flat, h1, h]
theorem here_missing {n : N} (h : missing n = true) : here n = [] := by simp [here, h]
/-- A node that is there is no list. -/
theorem Rep.kind_of {C : Nat → Nat → Value → Prop} {n : N} {t b : Nat} (h : Rep C n (Nd t b)) : ∃ c, isK n c = true ∧ (c == [110, 111, 110, 101]) = false ∧ (c == [108, 105, 115, 116]) = false := by
  cases h with
  | name _ _ hk => exact ⟨_, hk, rfl, rfl⟩
  | literal _ _ hk => exact ⟨_, hk, rfl, rfl⟩
  | select _ _ _ _ _ hk => exact ⟨_, hk, rfl, rfl⟩
  | star _ _ _ _ hk => exact ⟨_, hk, rfl, rfl⟩
  | array _ _ _ _ _ _ hk => exact ⟨_, hk, rfl, rfl⟩
  | map _ _ _ _ _ _ hk => exact ⟨_, hk, rfl, rfl⟩
  | chan _ _ _ _ _ hk => exact ⟨_, hk, rfl, rfl⟩
  | signature _ _ _ _ _ _ _ hk => exact ⟨_, hk, rfl, rfl⟩
  | struct _ _ _ _ hk => exact ⟨_, hk, rfl, rfl⟩
  | interface _ _ _ _ hk => exact ⟨_, hk, rfl, rfl⟩
  | fields _ _ _ _ hk => exact ⟨_, hk, rfl, rfl⟩
  | field _ _ _ _ _ _ _ _ _ hk => exact ⟨_, hk, rfl, rfl⟩
  | path _ _ _ _ _ _ hk => exact ⟨_, hk, rfl, rfl⟩
  | value _ _ _ _ _ _ _ _ _ _ hk => exact ⟨_, hk, rfl, rfl⟩
  | type _ _ _ _ _ _ hk => rcases hk with ⟨hk, _⟩ | ⟨hk, _⟩ <;> exact ⟨_, hk, rfl, rfl⟩
  | gen _ _ _ _ _ _ hk =>
    unfold tokOf at hk
    repeat' split at hk
    · rename_i h; exact ⟨_, h, rfl, rfl⟩
    · rename_i h; exact ⟨_, h, rfl, rfl⟩
    · rename_i h; exact ⟨_, h, rfl, rfl⟩
    · rename_i h; exact ⟨_, h, rfl, rfl⟩
    · cases hk
  | func _ _ _ _ _ _ _ _ _ _ _ hk => exact ⟨_, hk, rfl, rfl⟩
  | body _ _ hk => exact ⟨_, hk, rfl, rfl⟩
theorem Rep.flat_nd {C : Nat → Nat → Value → Prop} {n : N} {t b : Nat} (h : Rep C n (Nd t b)) : flat n = [n] := by
  obtain ⟨c, h1, h2, h3⟩ := h.kind_of
  exact flat_of h1 h2 h3
theorem Rep.here_nd {C : Nat → Nat → Value → Prop} {n : N} {t b : Nat} (h : Rep C n (Nd t b)) : here n = [n] := by
  obtain ⟨c, h1, h2, _⟩ := h.kind_of
  exact here_of h1 h2
theorem Rep.nil_inv {C : Nat → Nat → Value → Prop} {n : N} (h : Rep C n .nilIface) : missing n = true := by
  cases h with
  | none _ h => exact h
theorem flatMap_self {ks : List N} (h : ∀ m ∈ ks, flat m = [m]) : ks.flatMap flat = ks := by
  induction ks with
  | nil => rfl
  | cons x r ih =>
    rw [List.flatMap_cons, h x (by simp), ih (fun m hm => h m (by simp [hm]))]
    rfl
theorem mem_get {ks : List N} {m : N} (h : m ∈ ks) : ∃ i : Nat, ks[i]? = some m := by
  obtain ⟨i, hi, he⟩ := List.getElem_of_mem h
  exact ⟨i, by rw [List.getElem?_eq_getElem hi, he]⟩
theorem below_plain {n : N} {c : List UInt8} (h : isK n c = true) (hc : ([[102, 105, 101, 108, 100], [112, 97, 116, 104], [116, 121, 112, 101], [97, 108, 105, 97, 115], [115, 101, 108, 101, 99, 116], [102, 117, 110, 99]].contains c) = false) : subs n = n.kids.flatMap flat := by
  have hk := isK_eq h
  simp at hc
  obtain ⟨h1, h2, h3, h4, h5, h6⟩ := hc
  simp [subs, isK, hk, h1, h2, h3, h4, h5, h6]
theorem Rep.nd {C : Nat → Nat → Value → Prop} {n : N} {v : Value} (h : Rep C n v) (hv : v ≠ .nilIface) : ∃ t b, v = Nd t b := by
  cases h with
  | none => exact absurd rfl hv
  | _ => exact ⟨_, _, rfl⟩
theorem ne_of_isE {v : Value} (h : isE v = true) : v ≠ .nilIface := by rintro rfl; cases h
theorem ne_of_isS {v : Value} (h : isS v = true) : v ≠ .nilIface := by rintro rfl; cases h
theorem kid_lt {n m : N} (h : m ∈ n.kids) : m.size < n.size := by
  obtain ⟨i, hi⟩ := mem_get h
  exact N.size_kid hi
theorem one_lt {n m : N} (h : m ∈ n.kids) : 1 < n.size := by
  have h1 := kid_lt h
  have h2 := N.size_eq m
  omega
def Sub (C : Nat → Nat → Value → Prop) (n c : N) : Prop := c.size < n.size ∧ ∃ t' b', Rep C c (Nd t' b')
theorem Sub.kid {C : Nat → Nat → Value → Prop} {n c : N} {v : Value} (h : Rep C c v) (hv : v ≠ .nilIface) (hm : c ∈ n.kids) : Sub C n c := by
  obtain ⟨t, b, rfl⟩ := h.nd hv
  exact ⟨kid_lt hm, t, b, h⟩
theorem Sub.deep {C : Nat → Nat → Value → Prop} {n x c : N} {v : Value} (h : Rep C c v) (hv : v ≠ .nilIface) (hm : c ∈ x.kids) (hx : x ∈ n.kids) : Sub C n c := by
  obtain ⟨t, b, rfl⟩ := h.nd hv
  exact ⟨Nat.lt_trans (kid_lt hm) (kid_lt hx), t, b, h⟩
theorem Sub.id {C : Nat → Nat → Value → Prop} {n x : N} {t : ByteArray} {s : Nat} (h : Rep C (identN t) (Nd 82 s)) (hx : x ∈ n.kids) : Sub C n (identN t) :=
  ⟨by have := one_lt hx; simpa [identN, N.size, N.sizes] using this, _, _, h⟩
theorem Sub.lit {C : Nat → Nat → Value → Prop} {n x : N} {t : ByteArray} {s : Nat} (h : Rep C (litN t) (Nd 78 s)) (hx : x ∈ n.kids) : Sub C n (litN t) :=
  ⟨by have := one_lt hx; simpa [litN, N.size, N.sizes] using this, _, _, h⟩
theorem Sub.ofHere {C : Nat → Nat → Value → Prop} {n x : N} {ty : Nat} {v p : Value} (h : Rep C x v) (ho : OPt ty v p) (hx : x ∈ n.kids) : ∀ c ∈ here x, Sub C n c := by
  rcases ho with ⟨rfl, _⟩ | ⟨b, rfl, _⟩
  · rw [here_missing h.nil_inv]; intro c hc; simp at hc
  · rw [h.here_nd]; intro c hc; simp at hc; subst hc; exact .kid h (by simp) hx
theorem Sub.ofFlat {C : Nat → Nat → Value → Prop} {n x : N} {ty : Nat} {v p : Value} (h : Rep C x v) (ho : OPt ty v p) (hx : x ∈ n.kids) : ∀ c ∈ flat x, Sub C n c := by
  rcases ho with ⟨rfl, _⟩ | ⟨b, rfl, _⟩
  · rw [flat_missing h.nil_inv]; intro c hc; simp at hc
  · rw [h.flat_nd]; intro c hc; simp at hc; subst hc; exact .kid h (by simp) hx
theorem Sub.ofFlat1 {C : Nat → Nat → Value → Prop} {n x : N} {v : Value} (h : Rep C x v) (hv : v = .nilIface ∨ isE v = true) (hx : x ∈ n.kids) : ∀ c ∈ flat x, Sub C n c := by
  rcases hv with rfl | hv
  · rw [flat_missing h.nil_inv]; intro c hc; simp at hc
  · obtain ⟨t, b, rfl⟩ := h.nd (ne_of_isE hv)
    rw [h.flat_nd]; intro c hc; simp at hc; subst hc; exact .kid h (by simp) hx
theorem flat_list {x : N} (h : isK x [108, 105, 115, 116] = true) : flat x = x.kids := by simp [flat, h]
theorem below_field {n x : N} {r : List N} (h : isK n [102, 105, 101, 108, 100] = true) (hk : n.kids = x :: r) : subs n = r ++ [x] ++ (if n.text.toList.isEmpty then [] else [litN n.text]) := by
  simp [subs, h, hk]
theorem below_path {n x : N} (h : isK n [112, 97, 116, 104] = true) (hk : n.kids = [x]) : subs n = here x ++ [litN n.text] := by
  have h1 := isK_eq h
  simp [subs, isK, h1, hk]
theorem below_type {n x : N} (h : isK n [116, 121, 112, 101] = true ∨ isK n [97, 108, 105, 97, 115] = true) (hk : n.kids = [x]) : subs n = [identN n.text, x] := by
  rcases h with h | h <;> have h1 := isK_eq h <;> simp [subs, isK, h1, hk]
theorem below_select {n x : N} (h : isK n [115, 101, 108, 101, 99, 116] = true) (hk : n.kids = [x]) : subs n = [x, identN n.text] := by
  have h1 := isK_eq h
  simp [subs, isK, h1, hk]
theorem below_func {n x y z : N} (h : isK n [102, 117, 110, 99] = true) (hk : n.kids = [x, y, z]) : subs n = here x ++ identN n.text :: (flat y ++ flat z) := by
  have h1 := isK_eq h
  simp [subs, isK, h1, hk]
theorem tokOf_kind {n : N} {t : Nat} (h : tokOf n = some t) : isK n [100, 101, 99, 108, 97, 114, 101, 32, 105, 109, 112, 111, 114, 116] = true ∨ isK n [100, 101, 99, 108, 97, 114, 101, 32, 99, 111, 110, 115, 116] = true ∨ isK n [100, 101, 99, 108, 97, 114, 101, 32, 116, 121, 112, 101] = true ∨ isK n [100, 101, 99, 108, 97, 114, 101, 32, 118, 97, 114] = true := by
  unfold tokOf at h
  repeat' split at h
  · exact .inl ‹_›
  · exact .inr (.inl ‹_›)
  · exact .inr (.inr (.inl ‹_›))
  · exact .inr (.inr (.inr ‹_›))
  · cases h
theorem below_gen {n : N} {t : Nat} (h : tokOf n = some t) : subs n = n.kids.flatMap flat := by
  rcases tokOf_kind h with h | h | h | h <;> exact below_plain h rfl
/-- The trees below, and that each lies in memory. -/
theorem Rep.below_rep {C : Nat → Nat → Value → Prop} {n : N} {t b : Nat} (h : Rep C n (Nd t b)) : ∀ c ∈ subs n, Sub C n c := by
  cases h with
  | name _ _ hk h0 => rw [below_plain hk rfl, h0]; simp
  | literal _ _ hk h0 => rw [below_plain hk rfl, h0]; simp
  | select _ _ x vx s hk h0 ex cx cs rx rs =>
    rw [below_select hk h0]
    intro c hc
    simp only [List.mem_cons, List.mem_nil_iff, or_false] at hc
    rcases hc with rfl | rfl
    · exact .kid rx (ne_of_isE ex) (by simp [h0])
    · exact .id (x := x) rs (by simp [h0])
  | star _ _ x vx hk ht h0 ex cx rx =>
    rw [below_plain hk rfl, h0]
    simpa using Sub.ofFlat1 rx (.inr ex) (by simp [h0])
  | array _ _ x vx y vy hk ht h0 ex ey cx cy rx ry =>
    rw [below_plain hk rfl, h0]
    intro c hc
    simp only [List.flatMap_cons, List.flatMap_nil, List.append_nil, List.mem_append] at hc
    rcases hc with hc | hc
    · exact Sub.ofFlat1 rx ex (by simp [h0]) c hc
    · exact Sub.ofFlat1 ry (.inr ey) (by simp [h0]) c hc
  | map _ _ x vx y vy hk ht h0 ex ey cx cy rx ry =>
    rw [below_plain hk rfl, h0]
    intro c hc
    simp only [List.flatMap_cons, List.flatMap_nil, List.append_nil, List.mem_append] at hc
    rcases hc with hc | hc
    · exact Sub.ofFlat1 rx (.inr ex) (by simp [h0]) c hc
    · exact Sub.ofFlat1 ry (.inr ey) (by simp [h0]) c hc
  | chan _ _ x vx d hk hd h0 ex cd cx rx =>
    rw [below_plain hk rfl, h0]
    simpa using Sub.ofFlat1 rx (.inr ex) (by simp [h0])
  | signature _ _ x px y vy py hk ht h0 ct cx cy oy rx ry =>
    rw [below_plain hk rfl, h0]
    intro c hc
    simp only [List.flatMap_cons, List.flatMap_nil, List.append_nil, List.mem_append] at hc
    rcases hc with hc | hc
    · exact Sub.ofFlat rx (.inr ⟨_, rfl, rfl⟩) (by simp [h0]) c hc
    · exact Sub.ofFlat ry oy (by simp [h0]) c hc
  | struct _ _ x px hk ht h0 cx rx =>
    rw [below_plain hk rfl, h0]
    simpa using Sub.ofFlat rx (.inr ⟨_, rfl, rfl⟩) (by simp [h0])
  | interface _ _ x px hk ht h0 cx rx =>
    rw [below_plain hk rfl, h0]
    simpa using Sub.ofFlat rx (.inr ⟨_, rfl, rfl⟩) (by simp [h0])
  | fields _ _ V vl hk ht cl hl hr =>
    rw [below_plain hk rfl]
    intro c hc
    obtain ⟨m, hm, hc⟩ := List.mem_flatMap.1 hc
    obtain ⟨i, hi⟩ := mem_get hm
    exact Sub.ofFlat (hr i m hi) (.inr ⟨_, rfl, rfl⟩) hm c hc
  | field _ _ x r vx V vl vt pt hk h0 cd cl hl hr ex cx rx ct ot rt cc =>
    rw [below_field hk h0]
    intro c hc
    simp only [List.mem_append, List.mem_singleton] at hc
    rcases hc with (hc | rfl) | hc
    · obtain ⟨i, hi⟩ := mem_get hc
      exact .kid (hr i c hi) (by simp) (by simp [h0, hc])
    · exact .kid rx (ne_of_isE ex) (by simp [h0])
    · split at hc
      · simp at hc
      · rename_i hne
        simp only [List.mem_singleton] at hc
        subst hc
        rw [tagN, if_neg hne] at rt
        rcases ot with ⟨rfl, _⟩ | ⟨s, rfl, _⟩
        · exact absurd rt.nil_inv (by simp [missing, litN, isK, N.kind])
        · exact .lit (x := x) rt (by simp [h0])
  | path _ _ x vx px t hk h0 cd cx ox rx ct rt cc =>
    rw [below_path hk h0]
    intro c hc
    simp only [List.mem_append, List.mem_singleton] at hc
    rcases hc with hc | rfl
    · exact Sub.ofHere rx ox (by simp [h0]) c hc
    · exact .lit (x := x) rt (by simp [h0])
  | value _ _ x y z V vl vy W wl hk ht h0 kx tx kz tz cd cl hl hr ey cy ry cw hw ew hz cc =>
    rw [below_plain hk rfl, h0]
    intro c hc
    simp only [List.flatMap_cons, List.flatMap_nil, List.append_nil, List.mem_append, flat_list kx, flat_list kz] at hc
    rcases hc with hc | hc | hc
    · obtain ⟨i, hi⟩ := mem_get hc
      exact .deep (hr i c hi) (by simp) hc (by simp [h0])
    · exact Sub.ofFlat1 ry ey (by simp [h0]) c hc
    · obtain ⟨i, hi⟩ := mem_get hc
      exact .deep (hz i c hi) (ne_of_isE (ew i c hi)) hc (by simp [h0])
  | type _ _ x vx s d hk h0 cd cs rs cp ca ex cx rx cc =>
    rw [below_type (hk.imp And.left And.left) h0]
    intro c hc
    simp only [List.mem_cons, List.mem_nil_iff, or_false] at hc
    rcases hc with rfl | rfl
    · exact .id (x := x) rs (by simp [h0])
    · exact .kid rx (ne_of_isE ex) (by simp [h0])
  | gen _ _ W wl t d hk hd cd ct cg cw hw ew hz =>
    rw [below_gen hk]
    intro c hc
    obtain ⟨m, hm, hc⟩ := List.mem_flatMap.1 hc
    obtain ⟨i, hi⟩ := mem_get hm
    obtain ⟨t', b', he⟩ := (hz i m hi).nd (ne_of_isS (ew i m hi))
    have hr := hz i m hi
    rw [he] at hr
    rw [hr.flat_nd] at hc
    simp only [List.mem_singleton] at hc
    subst hc
    exact .kid hr (by simp) hm
  | func _ _ x y z vx px s t vz pz hk h0 cd cx ox rx cs rs ct rt cz oz rz =>
    rw [below_func hk h0]
    intro c hc
    simp only [List.mem_append, List.mem_cons] at hc
    rcases hc with hc | rfl | hc | hc
    · exact Sub.ofHere rx ox (by simp [h0]) c hc
    · exact .id (x := x) rs (by simp [h0])
    · exact Sub.ofFlat rt (.inr ⟨_, rfl, rfl⟩) (by simp [h0]) c hc
    · exact Sub.ofFlat rz oz (by simp [h0]) c hc
  | body _ _ hk ht h0 => rw [below_plain hk rfl, h0]; simp

/-! ### The walks, as functions on trees -/
/-- A visitor on trees: what it does at a node (its depth), whether it goes on; what it does behind the nodes below. -/
structure Vis (S : Type) where
  node : Nat → N → S → S × Bool
  fin : Nat → S → S
def wk {S : Type} (V : Vis S) : Nat → Nat → N → S → S
  | 0, _, _, s => s
  | f + 1, d, n, s => if (V.node d n s).2 then V.fin (d + 1) ((subs n).foldl (fun s c => wk V f (d + 1) c s) (V.node d n s).1) else (V.node d n s).1
/-- How many calls of a visitor a walk makes at most. -/
def cost : Nat → N → Nat
  | 0, _ => 0
  | f + 1, n => ((subs n).map (cost f)).sum + 2
def kinds : Nat → N → List ByteArray
  | 0, _ => []
  | f + 1, n => n.kind :: (subs n).flatMap (kinds f)
def evs (stop : List UInt8) : Nat → N → List ByteArray
  | 0, _ => []
  | f + 1, n => n.kind :: (if n.kind.toList == stop then [] else (subs n).flatMap (evs stop f) ++ [⟨#[]⟩])
def visits (stop : List UInt8) : Nat → Nat → N → List (ByteArray × Nat)
  | 0, _, _ => []
  | f + 1, d, n => (n.kind, d) :: (if n.kind.toList == stop then [] else (subs n).flatMap (visits stop f (d + 1)) ++ [(⟨#[]⟩, d + 1)])
def fieldN (f : N) : Nat := if f.kids.length ≤ 1 then 1 else f.kids.length - 1
def nums : Nat → N → List Nat
  | 0, _ => []
  | f + 1, n => (if isK n [102, 105, 101, 108, 100, 115] then [(n.kids.map fieldN).sum] else []) ++ (subs n).flatMap (nums f)
def stacks (stop : List UInt8) : Nat → List ByteArray → N → List (List ByteArray)
  | 0, _, _ => []
  | f + 1, up, n => (up ++ [n.kind]) :: (if n.kind.toList == stop then [] else (subs n).flatMap (stacks stop f (up ++ [n.kind])))
end Go.Proofs.YtpifflakohlglaaGreatFmt

/- What is proved here: walkList calls Walk with each of its nodes, for whatever visitor keeps its word. -/
namespace Go.Proofs.YtpifflakohlglaaGreatFmt
open Go.RowKit Go.Shelf
set_option linter.unusedVariables false

/-- A visitor that keeps its word: what its method does at a node, and behind the nodes below. -/
structure VOK {S : Type} (V : Vis S) (vv : Nat → Value) (C : Nat → Nat → Value → Prop) (Inv : S → World → Prop) (len : S → Nat) (L : Nat) : Prop where
  sees : ∀ s w b o u, Inv s w → C b o u → w.cell? ⟨b, o, none⟩ = some u
  there : ∀ d, ∃ T u, vv d = .iface T u
  node : ∀ d n t b s w, n.size ≤ 1000000 → Rep C n (Nd t b) → Inv s w → len s < L → ∃ g a', (callMethod (vv d) "Visit" #[Nd t b]).run Tryz.prog w = .ok (.enter g a') w ∧
    Calls Tryz.prog g a' w fun e w' => (e = .returned (if (V.node d n s).2 then vv (d + 1) else .nilIface) ∧ Inv (V.node d n s).1 w') ∨ (e = .returned .nilIface ∧ ∀ f, Inv (wk V (f + 1) d n s) w')
  fin : ∀ (f d : Nat) (n : N) (s0 : S) (w : World), (V.node d n s0).2 = true → Inv ((subs n).foldl (fun s c => wk V f (d + 1) c s) (V.node d n s0).1) w → len ((subs n).foldl (fun s c => wk V f (d + 1) c s) (V.node d n s0).1) < L →
    ∃ g a', (callMethod (vv (d + 1)) "Visit" #[.nilIface]).run Tryz.prog w = .ok (.enter g a') w ∧
    Calls Tryz.prog g a' w fun e w' => (∃ v, e = .returned v) ∧ Inv (V.fin (d + 1) ((subs n).foldl (fun s c => wk V f (d + 1) c s) (V.node d n s0).1)) w'
  len_node : ∀ d n s, len (V.node d n s).1 ≤ len s + 1
  len_fin : ∀ d s, len (V.fin d s) ≤ len s + 1
section
variable {S : Type} {V : Vis S} {vv : Nat → Value} {C : Nat → Nat → Value → Prop} {Inv : S → World → Prop} {len : S → Nat} {L : Nat}
theorem wk_len (hV : VOK V vv C Inv len L) (f : Nat) : ∀ d n s, len (wk V f d n s) ≤ len s + cost f n := by
  induction f with
  | zero => intro d n s; exact Nat.le_refl _
  | succ f ih =>
    intro d n s
    have key : ∀ (l : List N) (s : S), len (l.foldl (fun s c => wk V f (d + 1) c s) s) ≤ len s + (l.map (cost f)).sum := by
      intro l
      induction l with
      | nil => intro s; simp
      | cons x r ihr =>
        intro s
        have h1 := ihr (wk V f (d + 1) x s)
        have h2 := ih (d + 1) x s
        simp only [List.foldl_cons, List.map_cons, List.sum_cons]
        omega
    have h1 := hV.len_node d n s
    simp only [wk, cost]
    split
    · have h2 := hV.len_fin (d + 1) ((subs n).foldl (fun s c => wk V f (d + 1) c s) (V.node d n s).1)
      have h3 := key (subs n) (V.node d n s).1
      omega
    · omega
/-- Walk, at trees that are not greater than a number. -/
def WalkOK (V : Vis S) (vv : Nat → Value) (C : Nat → Nat → Value → Prop) (Inv : S → World → Prop) (len : S → Nat) (L f : Nat) : Prop :=
  ∀ d n t b s w, n.size ≤ f → Rep C n (Nd t b) → Inv s w → len s + cost f n ≤ L → Calls Tryz.prog 21 #[vv d, Nd t b] w fun e w' => e = .returned (.tuple #[]) ∧ Inv (wk V f d n s) w'
theorem fold_len (hV : VOK V vv C Inv len L) (f d : Nat) : ∀ (l : List N) (s : S), len (l.foldl (fun s c => wk V f d c s) s) ≤ len s + (l.map (cost f)).sum := by
  intro l
  induction l with
  | nil => intro s; simp
  | cons x r ihr =>
    intro s
    have h1 := ihr (wk V f d x s)
    have h2 := wk_len hV f d x s
    simp only [List.foldl_cons, List.map_cons, List.sum_cons]
    omega
theorem sum_take (f : Nat) {ks : List N} {j : Nat} {m : N} (hm : ks[j]? = some m) : ((ks.take j).map (cost f)).sum + cost f m ≤ (ks.map (cost f)).sum := by
  obtain ⟨hj, rfl⟩ := List.getElem?_eq_some_iff.1 hm
  have h := List.take_append_drop j ks
  rw [List.drop_eq_getElem_cons hj] at h
  have h2 : (ks.map (cost f)).sum = (((ks.take j) ++ ks[j] :: ks.drop (j + 1)).map (cost f)).sum := by rw [h]
  rw [h2]
  simp only [List.map_append, List.sum_append, List.map_cons, List.sum_cons]
  omega
theorem fold_take (f d : Nat) {ks : List N} {j : Nat} {m : N} (hm : ks[j]? = some m) (s : S) : (ks.take (j + 1)).foldl (fun s c => wk V f d c s) s = wk V f d m ((ks.take j).foldl (fun s c => wk V f d c s) s) := by
  rw [List.take_add_one, hm, List.foldl_append]
  rfl

set_option maxHeartbeats 1000000 in
set_option maxRecDepth 100000 in
theorem list47 (hV : VOK V vv C Inv len L) {f : Nat} (hW : WalkOK V vv C Inv len L f) (d : Nat) (ks : List N) (v : Value) (U : Nat → Nat) (s : S) (w : World) (hl : LAt C v ks.length (fun i => Pt (U i))) (hn : ks.length ≤ 2147483647)
    (hr : ∀ i m, ks[i]? = some m → m.size ≤ f ∧ Rep C m (Nd 82 (U i))) (hI : Inv s w) (hc : len s + (ks.map (cost f)).sum ≤ L) :
    Calls Tryz.prog 39 #[vv d, v] w fun e w' => e = .returned (.tuple #[]) ∧ Inv (ks.foldl (fun s c => wk V f d c s) s) w' := by
  obtain ⟨a, cap, rfl, hcap, hel⟩ := hl
  obtain ⟨T, u, hT⟩ := hV.there d
  have HV := Lib.hid hV
  have hWd := fun n t b s w => hW d n t b s w
  rw [hT] at hWd
  have HW := Lib.hid hWd
  have HEL := Lib.hid hel
  have HR := Lib.hid hr
  have HI := Lib.hid hI
  have HT := Lib.hid hT
  have HC := Lib.hid hc
  rw [hT]
  clear hV hW hWd hel hr hI hT hc
  go_enter Tryz.func39, Tryz.ntmps39
  go_wp2_with fail
  go_loopw [8] (fun i wr => ∃ j : Nat, j ≤ ks.length ∧ i = .int .i64 j ∧ Inv ((ks.take j).foldl (fun s c => wk V f d c s) s) wr) (fun i _ => ks.length - (intOf i).toNat)
  case atStart => exact ⟨0, Nat.zero_le _, rfl, by simpa using HI.out⟩
  case round =>
    obtain ⟨j, hj, rfl, hIj⟩ := hrel
    have HIJ := Lib.hid hIj
    clear hIj
    by_cases hjl : j < ks.length
    · have hjl' : (j : Int) < (ks.length : Int) := by omega
      obtain ⟨b, o, rfl, hcb⟩ := HEL.out j hjl
      have hm : ks[j]? = some ks[j] := List.getElem?_eq_getElem hjl
      obtain ⟨hsz, hrm⟩ := HR.out j ks[j] hm
      have c0 := HV.out.sees _ _ _ _ _ HIJ.out hcb
      have hb1 := sum_take f hm
      have hb2 := fold_len HV.out f d (ks.take j) s
      have hb3 := HC.out
      have HB : Hid (len ((ks.take j).foldl (fun s c => wk V f d c s) s) + cost f ks[j] ≤ L) := Lib.hid (by omega)
      have HM := Lib.hid hm
      have HRM := Lib.hid hrm
      clear hcb hm hrm hb1 hb2 hb3
      go_wp2_with fail
      refine (HW.out ks[j] _ _ _ _ hsz HRM.out HIJ.out HB.out).mono ?_
      rintro e w2 ⟨rfl, hI2⟩
      have HI2 := Lib.hid hI2
      clear hI2
      go_wp2_with fail
      go_roundw
      case rel => exact ⟨j + 1, by omega, by go_num, by rw [fold_take f d HM.out]; exact HI2.out⟩
      case measure => simp [intOf]; omega
    · have hjl' : ¬ (j : Int) < (ks.length : Int) := by omega
      have hjj : j = ks.length := by omega
      subst hjj
      go_wp2_with fail
      refine bodyPost_end (results_none rfl _ _ _) rfl ⟨rfl, ?_⟩
      have h := HIJ.out
      rwa [List.take_length] at h

set_option maxHeartbeats 1000000 in
set_option maxRecDepth 100000 in
theorem list48 (hV : VOK V vv C Inv len L) {f : Nat} (hW : WalkOK V vv C Inv len L f) (d : Nat) (ks : List N) (v : Value) (U : Nat → Nat) (s : S) (w : World) (hl : LAt C v ks.length (fun i => Pt (U i))) (hn : ks.length ≤ 2147483647)
    (hr : ∀ i m, ks[i]? = some m → m.size ≤ f ∧ Rep C m (Nd 74 (U i))) (hI : Inv s w) (hc : len s + (ks.map (cost f)).sum ≤ L) :
    Calls Tryz.prog 40 #[vv d, v] w fun e w' => e = .returned (.tuple #[]) ∧ Inv (ks.foldl (fun s c => wk V f d c s) s) w' := by
  obtain ⟨a, cap, rfl, hcap, hel⟩ := hl
  obtain ⟨T, u, hT⟩ := hV.there d
  have HV := Lib.hid hV
  have hWd := fun n t b s w => hW d n t b s w
  rw [hT] at hWd
  have HW := Lib.hid hWd
  have HEL := Lib.hid hel
  have HR := Lib.hid hr
  have HI := Lib.hid hI
  have HT := Lib.hid hT
  have HC := Lib.hid hc
  rw [hT]
  clear hV hW hWd hel hr hI hT hc
  go_enter Tryz.func40, Tryz.ntmps40
  go_wp2_with fail
  go_loopw [8] (fun i wr => ∃ j : Nat, j ≤ ks.length ∧ i = .int .i64 j ∧ Inv ((ks.take j).foldl (fun s c => wk V f d c s) s) wr) (fun i _ => ks.length - (intOf i).toNat)
  case atStart => exact ⟨0, Nat.zero_le _, rfl, by simpa using HI.out⟩
  case round =>
    obtain ⟨j, hj, rfl, hIj⟩ := hrel
    have HIJ := Lib.hid hIj
    clear hIj
    by_cases hjl : j < ks.length
    · have hjl' : (j : Int) < (ks.length : Int) := by omega
      obtain ⟨b, o, rfl, hcb⟩ := HEL.out j hjl
      have hm : ks[j]? = some ks[j] := List.getElem?_eq_getElem hjl
      obtain ⟨hsz, hrm⟩ := HR.out j ks[j] hm
      have c0 := HV.out.sees _ _ _ _ _ HIJ.out hcb
      have hb1 := sum_take f hm
      have hb2 := fold_len HV.out f d (ks.take j) s
      have hb3 := HC.out
      have HB : Hid (len ((ks.take j).foldl (fun s c => wk V f d c s) s) + cost f ks[j] ≤ L) := Lib.hid (by omega)
      have HM := Lib.hid hm
      have HRM := Lib.hid hrm
      clear hcb hm hrm hb1 hb2 hb3
      go_wp2_with fail
      refine (HW.out ks[j] _ _ _ _ hsz HRM.out HIJ.out HB.out).mono ?_
      rintro e w2 ⟨rfl, hI2⟩
      have HI2 := Lib.hid hI2
      clear hI2
      go_wp2_with fail
      go_roundw
      case rel => exact ⟨j + 1, by omega, by go_num, by rw [fold_take f d HM.out]; exact HI2.out⟩
      case measure => simp [intOf]; omega
    · have hjl' : ¬ (j : Int) < (ks.length : Int) := by omega
      have hjj : j = ks.length := by omega
      subst hjj
      go_wp2_with fail
      refine bodyPost_end (results_none rfl _ _ _) rfl ⟨rfl, ?_⟩
      have h := HIJ.out
      rwa [List.take_length] at h

set_option maxHeartbeats 1000000 in
set_option maxRecDepth 100000 in
theorem list49 (hV : VOK V vv C Inv len L) {f : Nat} (hW : WalkOK V vv C Inv len L f) (d : Nat) (ks : List N) (v : Value) (U : Nat → Value) (s : S) (w : World) (hl : LAt C v ks.length U) (hn : ks.length ≤ 2147483647)
    (hr : ∀ i m, ks[i]? = some m → m.size ≤ f ∧ (U i ≠ .nilIface ∧ Rep C m (U i))) (hI : Inv s w) (hc : len s + (ks.map (cost f)).sum ≤ L) :
    Calls Tryz.prog 41 #[vv d, v] w fun e w' => e = .returned (.tuple #[]) ∧ Inv (ks.foldl (fun s c => wk V f d c s) s) w' := by
  obtain ⟨a, cap, rfl, hcap, hel⟩ := hl
  obtain ⟨T, u, hT⟩ := hV.there d
  have HV := Lib.hid hV
  have hWd := fun n t b s w => hW d n t b s w
  rw [hT] at hWd
  have HW := Lib.hid hWd
  have HEL := Lib.hid hel
  have HR := Lib.hid hr
  have HI := Lib.hid hI
  have HT := Lib.hid hT
  have HC := Lib.hid hc
  rw [hT]
  clear hV hW hWd hel hr hI hT hc
  go_enter Tryz.func41, Tryz.ntmps41
  go_wp2_with fail
  go_loopw [8] (fun i wr => ∃ j : Nat, j ≤ ks.length ∧ i = .int .i64 j ∧ Inv ((ks.take j).foldl (fun s c => wk V f d c s) s) wr) (fun i _ => ks.length - (intOf i).toNat)
  case atStart => exact ⟨0, Nat.zero_le _, rfl, by simpa using HI.out⟩
  case round =>
    obtain ⟨j, hj, rfl, hIj⟩ := hrel
    have HIJ := Lib.hid hIj
    clear hIj
    by_cases hjl : j < ks.length
    · have hjl' : (j : Int) < (ks.length : Int) := by omega
      obtain ⟨b, o, rfl, hcb⟩ := HEL.out j hjl
      have hm : ks[j]? = some ks[j] := List.getElem?_eq_getElem hjl
      obtain ⟨hsz, hrm⟩ := HR.out j ks[j] hm
      obtain ⟨t', p', hu⟩ := hrm.2.nd hrm.1
      have hrm := hrm.2
      rw [hu] at hrm hcb
      have c0 := HV.out.sees _ _ _ _ _ HIJ.out hcb
      have hb1 := sum_take f hm
      have hb2 := fold_len HV.out f d (ks.take j) s
      have hb3 := HC.out
      have HB : Hid (len ((ks.take j).foldl (fun s c => wk V f d c s) s) + cost f ks[j] ≤ L) := Lib.hid (by omega)
      have HM := Lib.hid hm
      have HRM := Lib.hid hrm
      clear hcb hm hrm hb1 hb2 hb3
      go_wp2_with fail
      refine (HW.out ks[j] _ _ _ _ hsz HRM.out HIJ.out HB.out).mono ?_
      rintro e w2 ⟨rfl, hI2⟩
      have HI2 := Lib.hid hI2
      clear hI2
      go_wp2_with fail
      go_roundw
      case rel => exact ⟨j + 1, by omega, by go_num, by rw [fold_take f d HM.out]; exact HI2.out⟩
      case measure => simp [intOf]; omega
    · have hjl' : ¬ (j : Int) < (ks.length : Int) := by omega
      have hjj : j = ks.length := by omega
      subst hjj
      go_wp2_with fail
      refine bodyPost_end (results_none rfl _ _ _) rfl ⟨rfl, ?_⟩
      have h := HIJ.out
      rwa [List.take_length] at h

set_option maxHeartbeats 1000000 in
set_option maxRecDepth 100000 in
theorem list51 (hV : VOK V vv C Inv len L) {f : Nat} (hW : WalkOK V vv C Inv len L f) (d : Nat) (ks : List N) (v : Value) (U : Nat → Value) (s : S) (w : World) (hl : LAt C v ks.length U) (hn : ks.length ≤ 2147483647)
    (hr : ∀ i m, ks[i]? = some m → m.size ≤ f ∧ (U i ≠ .nilIface ∧ Rep C m (U i))) (hI : Inv s w) (hc : len s + (ks.map (cost f)).sum ≤ L) :
    Calls Tryz.prog 43 #[vv d, v] w fun e w' => e = .returned (.tuple #[]) ∧ Inv (ks.foldl (fun s c => wk V f d c s) s) w' := by
  obtain ⟨a, cap, rfl, hcap, hel⟩ := hl
  obtain ⟨T, u, hT⟩ := hV.there d
  have HV := Lib.hid hV
  have hWd := fun n t b s w => hW d n t b s w
  rw [hT] at hWd
  have HW := Lib.hid hWd
  have HEL := Lib.hid hel
  have HR := Lib.hid hr
  have HI := Lib.hid hI
  have HT := Lib.hid hT
  have HC := Lib.hid hc
  rw [hT]
  clear hV hW hWd hel hr hI hT hc
  go_enter Tryz.func43, Tryz.ntmps43
  go_wp2_with fail
  go_loopw [8] (fun i wr => ∃ j : Nat, j ≤ ks.length ∧ i = .int .i64 j ∧ Inv ((ks.take j).foldl (fun s c => wk V f d c s) s) wr) (fun i _ => ks.length - (intOf i).toNat)
  case atStart => exact ⟨0, Nat.zero_le _, rfl, by simpa using HI.out⟩
  case round =>
    obtain ⟨j, hj, rfl, hIj⟩ := hrel
    have HIJ := Lib.hid hIj
    clear hIj
    by_cases hjl : j < ks.length
    · have hjl' : (j : Int) < (ks.length : Int) := by omega
      obtain ⟨b, o, rfl, hcb⟩ := HEL.out j hjl
      have hm : ks[j]? = some ks[j] := List.getElem?_eq_getElem hjl
      obtain ⟨hsz, hrm⟩ := HR.out j ks[j] hm
      obtain ⟨t', p', hu⟩ := hrm.2.nd hrm.1
      have hrm := hrm.2
      rw [hu] at hrm hcb
      have c0 := HV.out.sees _ _ _ _ _ HIJ.out hcb
      have hb1 := sum_take f hm
      have hb2 := fold_len HV.out f d (ks.take j) s
      have hb3 := HC.out
      have HB : Hid (len ((ks.take j).foldl (fun s c => wk V f d c s) s) + cost f ks[j] ≤ L) := Lib.hid (by omega)
      have HM := Lib.hid hm
      have HRM := Lib.hid hrm
      clear hcb hm hrm hb1 hb2 hb3
      go_wp2_with fail
      refine (HW.out ks[j] _ _ _ _ hsz HRM.out HIJ.out HB.out).mono ?_
      rintro e w2 ⟨rfl, hI2⟩
      have HI2 := Lib.hid hI2
      clear hI2
      go_wp2_with fail
      go_roundw
      case rel => exact ⟨j + 1, by omega, by go_num, by rw [fold_take f d HM.out]; exact HI2.out⟩
      case measure => simp [intOf]; omega
    · have hjl' : ¬ (j : Int) < (ks.length : Int) := by omega
      have hjj : j = ks.length := by omega
      subst hjj
      go_wp2_with fail
      refine bodyPost_end (results_none rfl _ _ _) rfl ⟨rfl, ?_⟩
      have h := HIJ.out
      rwa [List.take_length] at h

set_option maxRecDepth 100000 in
theorem list50 (v : Value) (w : World) (a : Option Addr) (cap : Nat) : Calls Tryz.prog 42 #[v, .slice a 0 cap] w fun e w' => e = .returned (.tuple #[]) ∧ w' = w := by
  go_enter Tryz.func42, Tryz.ntmps42
  go_wp2_with fail
  go_loopw [8] (fun i wr => i = .int .i64 0 ∧ wr = w) (fun _ _ => 0)
  case atStart => exact ⟨rfl, rfl⟩
  case round =>
    obtain ⟨rfl, rfl⟩ := hrel
    go_wp2_with fail
    refine bodyPost_end (results_none rfl _ _ _) rfl ⟨rfl, rfl⟩
end
end Go.Proofs.YtpifflakohlglaaGreatFmt

/- What is proved here: the executor where the first answer may be one of two: it goes on along either. No program is in sight. -/
namespace Go.Proofs.YtpifflakohlglaaGreatFmt
open Go Go.Shelf
set_option linter.unusedVariables false
set_option linter.unusedSimpArgs false

theorem callOp_none {σ : Env} {o : Op} {r r' : Option Value} (h : callOp σ r o = none) : callOp σ r' o = none := by
  cases o with
  | call c =>
    simp only [callOp] at h ⊢
    cases hl : opds σ c.args.toList with
    | none => rfl
    | some l =>
      simp only [hl] at h ⊢
      cases hc : c.callee with
      | value x => cases x <;> simp [hc] at h ⊢
      | invoke r name => simp only [hc] at h ⊢; cases hr : opd σ r <;> simp [hr] at h ⊢
      | _ => rfl
  | _ => rfl
theorem callOp_meth {σ : Env} {o : Op} {r r' : Option Value} {v : SV} {name : String} {args : List SV} (h : callOp σ r o = some (.meth v name args r)) : callOp σ r' o = some (.meth v name args r') := by
  cases o with
  | call c =>
    simp only [callOp] at h ⊢
    cases hl : opds σ c.args.toList with
    | none => simp [hl] at h
    | some l =>
      simp only [hl] at h ⊢
      cases hc : c.callee with
      | value x => cases x <;> simp [hc] at h
      | invoke r name =>
        simp only [hc] at h ⊢
        cases hr : opd σ r with
        | none => simp [hr] at h
        | some y => simp only [hr, Option.map_some, Option.some.injEq, Ev.meth.injEq] at h ⊢; exact ⟨h.1, h.2.1, h.2.2.1, trivial⟩
      | _ => simp [hc] at h
  | _ => simp [callOp] at h
/-- Where nothing is called the answers are not looked at. -/
theorem execOps_quiet {X : Cx} : ∀ (l : List Oper) (σ : Env) (os : List Value) (σ2 : Env) (os2 : List Value), execOps X l σ os = some (σ2, os2, []) → os2 = os ∧ ∀ os', execOps X l σ os' = some (σ2, os', []) := by
  intro l
  induction l with
  | nil => intro σ os σ2 os2 h; simp only [execOps, Option.some.injEq, Prod.mk.injEq] at h; obtain ⟨rfl, rfl, _⟩ := h; exact ⟨rfl, fun _ => rfl⟩
  | cons o r ih =>
    intro σ os σ2 os2 h
    simp only [execOps] at h ⊢
    split at h
    · cases h
    · rename_i hg
      cases hc : callOp σ os.head? o.op with
      | some ev =>
        simp only [hc] at h
        split at h
        · split at h
          · simp at h
          · cases h
        · cases h
      | none =>
        simp only [hc] at h
        cases hs : stepOp X σ o.op with
        | none => simp [hs] at h
        | some v =>
          simp only [hs] at h
          cases hb : bindTo X σ o.dst (some v) with
          | none => simp [hb] at h
          | some σ' =>
            simp only [hb] at h
            obtain ⟨h1, h2⟩ := ih _ _ _ _ h
            refine ⟨h1, fun os' => ?_⟩
            rw [if_neg hg, callOp_none hc]
            simp only [hs, hb]
            exact h2 os'
/-- What is owed where the first call answers one of two. -/
def Branch (X : Cx) (v : SV) (name : String) (args : List SV) (x y : Value) (T1 T2 : World → Prop) (w : World) : Prop :=
  Mem X w ∧ ∃ g a', (callMethod (v.den X) name (args.map (SV.den X)).toArray).run X.P w = .ok (.enter g a') w ∧ Calls X.P g a' w fun e w' => (e = .returned x ∧ T1 w') ∨ (e = .returned y ∧ T2 w')
theorem execOps_sound2 {X : Cx} {ops : Array Oper} {Q : Exit → Act → World → Prop} {G1 G2 : World → Prop} {v : SV} {name : String} {args : List SV} {x y : Value} : ∀ (l : List Oper) (σ : Env) (os1 os2 : List Value) (σ1 : Env) (o1 : List Value) (e1 : List Ev) (σ2 : Env) (o2 : List Value) (e2 : List Ev),
    execOps X l σ (x :: os1) = some (σ1, o1, .meth v name args (some x) :: e1) → execOps X l σ (y :: os2) = some (σ2, o2, .meth v name args (some y) :: e2) →
    ∀ (a : Act) (w : World), Knows X σ a → Branch X v name args x y (Trace X e1 G1) (Trace X e2 G2) w → (∀ a' w', Knows X σ1 a' → a'.defers = a.defers → Mem X w' → G1 w' → Q .normal a' w') →
    (∀ a' w', Knows X σ2 a' → a'.defers = a.defers → Mem X w' → G2 w' → Q .normal a' w') → wpList X.P ops Q l a w := by
  intro l
  induction l with
  | nil => intro σ os1 os2 σ1 o1 e1 σ2 o2 e2 h; simp [execOps] at h
  | cons o r ih =>
    intro σ os1 os2 σ1 o1 e1 σ2 o2 e2 h h' a w hk hB hq1 hq2
    refine wpList_step fun K hK => ?_
    simp only [execOps, List.head?_cons, List.tail_cons, Option.map_some] at h h'
    split at h
    · cases h
    · rename_i hg
      have hgn : o.guard = none := by simpa using hg
      have hw : Region.wanted o (yielded ops a.tmps) = true := by simp [Region.wanted, hgn]
      rw [if_pos hw]
      rw [if_neg hg] at h'
      cases hc : callOp σ (some x) o.op with
      | some ev =>
        simp only [hc] at h
        cases hb : bindTo X σ o.dst (some (SV.val x)) with
        | none => simp [hb] at h
        | some s1 =>
          simp only [hb] at h
          cases hr : execOps X r s1 os1 with
          | none => simp [hr] at h
          | some p1 =>
            simp only [hr, Option.some.injEq, Prod.mk.injEq, List.cons.injEq] at h
            obtain ⟨rfl, rfl, rfl, rfl⟩ := h
            have hc2 : callOp σ (some y) o.op = some (.meth v name args (some y)) := callOp_meth (r := some x) (r' := some y) hc
            simp only [hc2] at h'
            cases hb' : bindTo X σ o.dst (some (SV.val y)) with
            | none => simp [hb'] at h'
            | some s2 =>
              simp only [hb'] at h'
              cases hr' : execOps X r s2 os2 with
              | none => simp [hr'] at h'
              | some p2 =>
                simp only [hr', Option.some.injEq, Prod.mk.injEq, List.cons.injEq, true_and] at h'
                obtain ⟨rfl, rfl, rfl⟩ := h'
                obtain ⟨hm, g, a', he, hcalls⟩ := hB
                have hcx := hc
                unfold callOp at hcx
                split at hcx
                · rename_i c hop
                  split at hcx
                  · rename_i vs hvs
                    have ha := opds_sound hk hvs
                    have ha' : c.args.map a.eval = (vs.map (SV.den X)).toArray := Array.ext' (by rw [Array.toList_map, ha])
                    split at hcx
                    · cases hcx
                    · rename_i rv nm hcal
                      cases hrv : opd σ rv with
                      | none => rw [hrv] at hcx; cases hcx
                      | some v0 =>
                        rw [hrv] at hcx
                        simp only [Option.map_some, Option.some.injEq, Ev.meth.injEq] at hcx
                        obtain ⟨rfl, rfl, rfl, _⟩ := hcx
                        have hex : (execOp a.eval o).run X.P w = .ok (.enter g a') w := by
                          have h0 : (#[v0.den X] ++ (vs.map (SV.den X)).toArray).extract 1 (#[v0.den X] ++ (vs.map (SV.den X)).toArray).size = (vs.map (SV.den X)).toArray := by
                            simp [List.take_of_length_le]
                          have h1 : (#[v0.den X] ++ (vs.map (SV.den X)).toArray)[0]? = some (v0.den X) := by simp
                          simp only [execOp, hop, resolve, hcal, invoke, ha', hk.ev hrv, Sem.run_bind, Sem.run_pure, Result.andThen_ok, h0, h1]
                          exact he
                        unfold Oper.wp
                        rw [hex, Oper.upon_enter]
                        refine hcalls.mono fun e w' hx => ?_
                        rcases hx with ⟨rfl, ht⟩ | ⟨rfl, ht⟩
                        · refine hK _ _ (execOps_sound (G := G1) r s1 _ _ _ _ hr (a.put o.dst x) w' (hk.put hb fun z hz => by simp at hz; subst hz; rfl) ht fun a' w'' h1 h2 => hq1 a' w'' h1 (h2.trans ?_))
                          cases o.dst <;> rfl
                        · refine hK _ _ (execOps_sound (G := G2) r s2 _ _ _ _ hr' (a.put o.dst y) w' (hk.put hb' fun z hz => by simp at hz; subst hz; rfl) ht fun a' w'' h1 h2 => hq2 a' w'' h1 (h2.trans ?_))
                          cases o.dst <;> rfl
                    · cases hcx
                  · cases hcx
                · cases hcx
      | none =>
        simp only [hc] at h
        have hc2 : callOp σ (some y) o.op = none := callOp_none hc
        simp only [hc2] at h'
        cases hs : stepOp X σ o.op with
        | none => simp [hs] at h
        | some u =>
          simp only [hs] at h h'
          cases hb : bindTo X σ o.dst (some u) with
          | none => simp [hb] at h
          | some s1 =>
            simp only [hb] at h h'
            have hex := stepOp_sound hk hB.1 hs
            unfold Oper.wp
            rw [hex, Oper.upon_value]
            have hd : (a.put o.dst (u.den X)).defers = a.defers := by cases o.dst <;> rfl
            exact hK _ _ (ih s1 os1 os2 _ _ _ _ _ _ h h' (a.put o.dst (u.den X)) w (hk.put hb fun z hz => by cases hz; rfl) hB (fun a' w'' h1 h2 => hq1 a' w'' h1 (h2.trans hd)) (fun a' w'' h1 h2 => hq2 a' w'' h1 (h2.trans hd)))
theorem exec_all2 {X : Cx} {Q : Exit → Act → World → Prop} {F : World → Prop} {v : SV} {name : String} {args : List SV} {x y : Value} : ∀ (f : Nat) (c : Code) (k : List Kont) (σ : Env) (os1 os2 : List Value) (l1 l2 : List Ev),
    exec X f c k σ (x :: os1) = some (.meth v name args (some x) :: l1) → exec X f c k σ (y :: os2) = some (.meth v name args (some y) :: l2) →
    ∀ (a : Act) (w : World), Knows X σ a → Branch X v name args x y (Trace X l1 F) (Trace X l2 F) w → (∀ e a' w', (e = .normal ∨ e = .ret) → a'.defers = a.defers → F w' → Q e a' w') →
      c.wp X.P (den X.P k Q) a w ∧ (c = .skip → den X.P k Q .normal a w) ∧ (∀ id, c = .exit id → den X.P k Q (.exit id) a w) := by
  intro f
  induction f with
  | zero => intro c k σ os1 os2 l1 l2 h; cases h
  | succ f ih =>
    intro c k σ os1 os2 l1 l2 h h' a w hk hB hq
    cases c with
    | skip =>
      have key : den X.P k Q .normal a w := by
        cases k with
        | nil => simp [exec] at h
        | cons z k =>
          cases z with
          | code c => exact (ih c k σ os1 os2 l1 l2 h h' a w hk hB hq).1
          | blk id => exact (ih .skip k σ os1 os2 l1 l2 h h' a w hk hB hq).2.1 rfl
      exact ⟨wp_skip key, fun _ => key, fun id hid => by cases hid⟩
    | seq c d => exact ⟨wp_seq (ih c (.code d :: k) σ os1 os2 l1 l2 h h' a w hk hB hq).1, (fun h => by cases h), fun id hid => by cases hid⟩
    | block id c => exact ⟨wp_block (ih c (.blk id :: k) σ os1 os2 l1 l2 h h' a w hk hB hq).1, (fun h => by cases h), fun id hid => by cases hid⟩
    | exit id =>
      have key : den X.P k Q (.exit id) a w := by
        cases k with
        | nil => simp [exec] at h
        | cons z k =>
          cases z with
          | code c => exact (ih (.exit id) k σ os1 os2 l1 l2 h h' a w hk hB hq).2.2 id rfl
          | blk id' =>
            simp only [exec] at h h'
            show (if id = id' then den X.P k Q .normal a w else den X.P k Q (.exit id) a w)
            split at h
            · rename_i he
              rw [if_pos he] at h'
              rw [if_pos (by simpa using he)]
              exact (ih .skip k σ os1 os2 l1 l2 h h' a w hk hB hq).2.1 rfl
            · rename_i he
              rw [if_neg he] at h'
              rw [if_neg (by simpa using he)]
              exact (ih (.exit id) k σ os1 os2 l1 l2 h h' a w hk hB hq).2.2 id rfl
      exact ⟨wp_exit key, (fun h => by cases h), fun id' hid => by cases hid; exact key⟩
    | ret => simp [exec] at h
    | cond c d1 d2 =>
      refine ⟨?_, (fun h => by cases h), fun id hid => by cases hid⟩
      simp only [exec] at h h'
      cases hc : opd σ c with
      | none => simp [hc] at h
      | some s =>
        simp only [hc] at h h'
        split at h
        · rename_i t he
          cases he
          have e := hk.ev hc
          cases t
          · exact wp_cond_false e (ih d2 k σ os1 os2 l1 l2 (by simpa using h) (by simpa using h') a w hk hB hq).1
          · exact wp_cond_true e (ih d1 k σ os1 os2 l1 l2 (by simpa using h) (by simpa using h') a w hk hB hq).1
        · cases h
    | region id ops dr =>
      refine ⟨?_, (fun h => by cases h), fun id hid => by cases hid⟩
      cases dr with
      | true => simp [exec] at h
      | false =>
        simp only [exec] at h h'
        cases h1 : execOps X ops.toList σ (x :: os1) with
        | none => simp [h1] at h
        | some p =>
          obtain ⟨s1, o1, e1⟩ := p
          simp only [h1] at h
          cases h2 : exec X f .skip k s1 o1 with
          | none => simp [h2] at h
          | some e2 =>
            simp only [h2, Option.some.injEq] at h
            cases e1 with
            | nil =>
              obtain ⟨ho, hx⟩ := execOps_quiet _ _ _ _ _ h1
              subst ho
              simp only [hx, List.nil_append] at h h'
              subst h
              cases h3 : exec X f .skip k s1 (y :: os2) with
              | none => simp [h3] at h'
              | some e3 =>
                simp only [h3, Option.some.injEq] at h'
                subst h'
                refine wp_region_list (execOps_sound (G := fun w' => Branch X v name args x y (Trace X l1 F) (Trace X l2 F) w') ops.toList σ _ s1 _ [] h1 a w hk ⟨hB.1, hB⟩ fun a' w' hk' hd _ hB' => ?_)
                exact (ih .skip k s1 os1 os2 l1 l2 h2 h3 a' w' hk' hB' fun e a2 w2 h3 h4 h5 => hq e a2 w2 h3 (h4.trans hd) h5).2.1 rfl
            | cons ev e1 =>
              simp only [List.cons_append, List.cons.injEq] at h
              obtain ⟨rfl, rfl⟩ := h
              cases h3 : execOps X ops.toList σ (y :: os2) with
              | none => simp [h3] at h'
              | some p' =>
                obtain ⟨s2, o2, e3⟩ := p'
                simp only [h3] at h'
                cases h4 : exec X f .skip k s2 o2 with
                | none => simp [h4] at h'
                | some e4 =>
                  simp only [h4, Option.some.injEq] at h'
                  cases e3 with
                  | nil =>
                    obtain ⟨_, hx⟩ := execOps_quiet _ _ _ _ _ h3
                    rw [hx] at h1
                    simp at h1
                  | cons ev' e3 =>
                    simp only [List.cons_append, List.cons.injEq] at h'
                    obtain ⟨rfl, rfl⟩ := h'
                    refine wp_region_list (execOps_sound2 (G1 := Trace X e2 F) (G2 := Trace X e4 F) ops.toList σ os1 os2 s1 o1 e1 s2 o2 e3 h1 h3 a w hk ⟨hB.1, ?_⟩ (fun a' w' hk' hd _ ht' => ?_) (fun a' w' hk' hd _ ht' => ?_))
                    · obtain ⟨g, a', he, hcalls⟩ := hB.2
                      exact ⟨g, a', he, hcalls.mono fun e w' hx => hx.imp (fun h => ⟨h.1, h.2.app⟩) (fun h => ⟨h.1, h.2.app⟩)⟩
                    · exact (exec_all f .skip k s1 o1 e2 h2 a' w' hk' ht' fun e a2 w2 h3 h4 h5 => hq e a2 w2 h3 (h4.trans hd) h5).2.1 rfl
                    · exact (exec_all f .skip k s2 o2 e4 h4 a' w' hk' ht' fun e a2 w2 h3 h4 h5 => hq e a2 w2 h3 (h4.trans hd) h5).2.1 rfl
    | _ => simp [exec] at h
/-- A function without results whose body the executor goes through, its first call answering one of two. -/
theorem exec_calls2 {X : Cx} {F : World → Prop} {g : Nat} {fn : Func} {args : Array Value} {w : World} {R : Ending → World → Prop} {v : SV} {name : String} {vs : List SV} {x y : Value} (f : Nat) (σ : Env) (os1 os2 : List Value) (l1 l2 : List Ev)
    (hf : X.P.funcs[g]? = some fn) (hres : fn.results = #[]) (hK : X.K = fn.ntmps) (ha : args.size ≤ fn.ntmps) (hσ : ∀ i v, look σ i = some v → args[i]? = some (v.den X))
    (he : (fn.body.bind fun c => exec X f c [] σ (x :: os1)) = some (.meth v name vs (some x) :: l1)) (he' : (fn.body.bind fun c => exec X f c [] σ (y :: os2)) = some (.meth v name vs (some y) :: l2))
    (ht : Branch X v name vs x y (Trace X l1 F) (Trace X l2 F) w) (hR : ∀ w', F w' → R (.returned (.tuple #[])) w') : Calls X.P g args w R := by
  cases hb : fn.body with
  | none => rw [hb] at he; cases he
  | some c =>
    rw [hb] at he he'
    have he : exec X f c [] σ (x :: os1) = some (.meth v name vs (some x) :: l1) := he
    have he' : exec X f c [] σ (y :: os2) = some (.meth v name vs (some y) :: l2) := he'
    refine calls_of_wp hf hb ?_
    refine (exec_all2 (Q := bodyPost X.P fn R) f c [] σ os1 os2 l1 l2 he he' _ w ⟨?_, fun i v hv => ?_⟩ ht fun e a' w' h1 h2 h3 => ?_).1
    · simp; omega
    · have h := hσ i v hv
      have hi : i < args.size := (Array.getElem?_eq_some_iff.1 h).1
      rw [Array.getD_eq_getD_getElem?, Array.getElem?_append_left hi, h]
      rfl
    · rcases h1 with rfl | rfl <;> exact ⟨h2, _, results_none hres _ _ _, hR w' h3⟩
end Go.Proofs.YtpifflakohlglaaGreatFmt

/- What is proved here: Walk, for whatever visitor keeps its word, goes over a declaration as wk does. -/
namespace Go.Proofs.YtpifflakohlglaaGreatFmt
open Go.RowKit Go.Shelf
set_option linter.unusedVariables false

def aget : List (Nat × Value) → Nat → Option Value
  | [], _ => none
  | (i, v) :: r, j => if i == j then some v else aget r j
def AllC (Q : Nat → Value → Prop) : List (Nat × Value) → Prop
  | [] => True
  | (i, v) :: r => Q i v ∧ AllC Q r
theorem aget_all {Q : Nat → Value → Prop} : ∀ {l : List (Nat × Value)}, AllC Q l → ∀ o v, aget l o = some v → Q o v
  | [], _, o, v, h => by simp [aget] at h
  | (i, x) :: r, hl, o, v, h => by
    simp only [aget] at h
    split at h
    · rename_i hi
      have hi : i = o := by simpa using hi
      cases h
      subst hi
      exact hl.1
    · exact aget_all hl.2 o v h
/-- What the executor is told of a node. -/
def cxAt (P : Program) (t b : Nat) (cs : List (Nat × Value)) : Cx := { P := P, t := t, B := b, M := aget cs, K := 1119 }
theorem enters27 : Enters Tryz.prog 21 := enters_of Tryz.func21 (by kernel_rfl) rfl
theorem enters47 : Enters Tryz.prog 39 := enters_of Tryz.func39 (by kernel_rfl) rfl
theorem enters48 : Enters Tryz.prog 40 := enters_of Tryz.func40 (by kernel_rfl) rfl
theorem enters49 : Enters Tryz.prog 41 := enters_of Tryz.func41 (by kernel_rfl) rfl
theorem enters50 : Enters Tryz.prog 42 := enters_of Tryz.func42 (by kernel_rfl) rfl
theorem enters51 : Enters Tryz.prog 43 := enters_of Tryz.func43 (by kernel_rfl) rfl
theorem Trace.imp {X : Cx} {F G : World → Prop} (h : ∀ w, F w → G w) : ∀ {l : List Ev} {w : World}, Trace X l F w → Trace X l G w := by
  intro l
  induction l with
  | nil => intro w k; exact ⟨k.1, h w k.2⟩
  | cons e r ih =>
    intro w k
    cases e with
    | fn g args res => exact ⟨k.1, k.2.1, k.2.2.mono fun e w' hx => ⟨hx.1, ih hx.2⟩⟩
    | meth v name args res =>
      obtain ⟨h1, g, a', h2, h3⟩ := k
      exact ⟨h1, g, a', h2, h3.mono fun e w' hx => ⟨hx.1, ih hx.2⟩⟩
theorem Trace.snoc {X : Cx} {F : World → Prop} {m : List Ev} : ∀ {l : List Ev} {w : World}, Trace X l (Trace X m F) w → Trace X (l ++ m) F w := by
  intro l
  induction l with
  | nil => intro w h; exact h.2
  | cons e r ih =>
    intro w h
    cases e with
    | fn g args res => exact ⟨h.1, h.2.1, h.2.2.mono fun e w' hx => ⟨hx.1, ih hx.2⟩⟩
    | meth v name args res =>
      obtain ⟨h1, g, a', h2, h3⟩ := h
      exact ⟨h1, g, a', h2, h3.mono fun e w' hx => ⟨hx.1, ih hx.2⟩⟩
section
variable {S : Type} {V : Vis S} {vv : Nat → Value} {C : Nat → Nat → Value → Prop} {Inv : S → World → Prop} {len : S → Nat} {L : Nat}
theorem mem_of (hV : VOK V vv C Inv len L) {t b : Nat} {cs : List (Nat × Value)} (hC : AllC (C b) cs) {s : S} {w : World} (hI : Inv s w) : Mem (cxAt Tryz.prog t b cs) w :=
  fun o v h => hV.sees s w b o v hI (aget_all hC o v h)
/-- One child. -/
theorem tr_one (hV : VOK V vv C Inv len L) {f : Nat} (hW : WalkOK V vv C Inv len L f) {t b : Nat} {cs : List (Nat × Value)} (hC : AllC (C b) cs) {d : Nat} {x : Value} (hx : vv d = x) {c : N} {t' b' : Nat} {s : S} {w : World} {r : List Ev} {F : World → Prop}
    (hI : Inv s w) (hsz : c.size ≤ f) (hR : Rep C c (Nd t' b')) (hc : len s + cost f c ≤ L) (hr : ∀ w', Inv (wk V f d c s) w' → len (wk V f d c s) ≤ len s + cost f c → Trace (cxAt Tryz.prog t b cs) r F w') : Trace (cxAt Tryz.prog t b cs) (.fn 21 [.val x, .val (Nd t' b')] none :: r) F w := by
  subst hx
  exact ⟨mem_of hV hC hI, enters27, (hW d c t' b' s w hsz hR hI hc).mono fun e w' h => ⟨⟨_, h.1⟩, hr w' h.2 (wk_len hV f d c s)⟩⟩
theorem tr_end (hV : VOK V vv C Inv len L) {t b : Nat} {cs : List (Nat × Value)} (hC : AllC (C b) cs) {s : S} {w : World} {F : World → Prop} (hI : Inv s w) (h : F w) : Trace (cxAt Tryz.prog t b cs) [] F w := ⟨mem_of hV hC hI, h⟩
theorem tr_list47 (hV : VOK V vv C Inv len L) {f : Nat} (hW : WalkOK V vv C Inv len L f) {t b : Nat} {cs : List (Nat × Value)} (hC : AllC (C b) cs) {d : Nat} {x : Value} (hx : vv d = x) {ks : List N} {v : Value} {U : Nat → Nat} {s : S} {w : World} {r : List Ev} {F : World → Prop}
    (hI : Inv s w) (hl : LAt C v ks.length (fun i => Pt (U i))) (hn : ks.length ≤ 2147483647) (hr : ∀ i m, ks[i]? = some m → m.size ≤ f ∧ Rep C m (Nd 82 (U i))) (hc : len s + (ks.map (cost f)).sum ≤ L)
    (hk : ∀ w', Inv (ks.foldl (fun s c => wk V f d c s) s) w' → len (ks.foldl (fun s c => wk V f d c s) s) ≤ len s + (ks.map (cost f)).sum → Trace (cxAt Tryz.prog t b cs) r F w') : Trace (cxAt Tryz.prog t b cs) (.fn 39 [.val x, .val v] none :: r) F w := by
  subst hx
  exact ⟨mem_of hV hC hI, enters47, (list47 hV hW d ks v U s w hl hn hr hI hc).mono fun e w' h => ⟨⟨_, h.1⟩, hk w' h.2 (fold_len hV f d ks s)⟩⟩
theorem tr_list48 (hV : VOK V vv C Inv len L) {f : Nat} (hW : WalkOK V vv C Inv len L f) {t b : Nat} {cs : List (Nat × Value)} (hC : AllC (C b) cs) {d : Nat} {x : Value} (hx : vv d = x) {ks : List N} {v : Value} {U : Nat → Nat} {s : S} {w : World} {r : List Ev} {F : World → Prop}
    (hI : Inv s w) (hl : LAt C v ks.length (fun i => Pt (U i))) (hn : ks.length ≤ 2147483647) (hr : ∀ i m, ks[i]? = some m → m.size ≤ f ∧ Rep C m (Nd 74 (U i))) (hc : len s + (ks.map (cost f)).sum ≤ L)
    (hk : ∀ w', Inv (ks.foldl (fun s c => wk V f d c s) s) w' → len (ks.foldl (fun s c => wk V f d c s) s) ≤ len s + (ks.map (cost f)).sum → Trace (cxAt Tryz.prog t b cs) r F w') : Trace (cxAt Tryz.prog t b cs) (.fn 40 [.val x, .val v] none :: r) F w := by
  subst hx
  exact ⟨mem_of hV hC hI, enters48, (list48 hV hW d ks v U s w hl hn hr hI hc).mono fun e w' h => ⟨⟨_, h.1⟩, hk w' h.2 (fold_len hV f d ks s)⟩⟩
theorem tr_list49 (hV : VOK V vv C Inv len L) {f : Nat} (hW : WalkOK V vv C Inv len L f) {t b : Nat} {cs : List (Nat × Value)} (hC : AllC (C b) cs) {d : Nat} {x : Value} (hx : vv d = x) {ks : List N} {v : Value} {U : Nat → Value} {s : S} {w : World} {r : List Ev} {F : World → Prop}
    (hI : Inv s w) (hl : LAt C v ks.length U) (hn : ks.length ≤ 2147483647) (hr : ∀ i m, ks[i]? = some m → m.size ≤ f ∧ (U i ≠ .nilIface ∧ Rep C m (U i))) (hc : len s + (ks.map (cost f)).sum ≤ L)
    (hk : ∀ w', Inv (ks.foldl (fun s c => wk V f d c s) s) w' → len (ks.foldl (fun s c => wk V f d c s) s) ≤ len s + (ks.map (cost f)).sum → Trace (cxAt Tryz.prog t b cs) r F w') : Trace (cxAt Tryz.prog t b cs) (.fn 41 [.val x, .val v] none :: r) F w := by
  subst hx
  exact ⟨mem_of hV hC hI, enters49, (list49 hV hW d ks v U s w hl hn hr hI hc).mono fun e w' h => ⟨⟨_, h.1⟩, hk w' h.2 (fold_len hV f d ks s)⟩⟩
theorem tr_list51 (hV : VOK V vv C Inv len L) {f : Nat} (hW : WalkOK V vv C Inv len L f) {t b : Nat} {cs : List (Nat × Value)} (hC : AllC (C b) cs) {d : Nat} {x : Value} (hx : vv d = x) {ks : List N} {v : Value} {U : Nat → Value} {s : S} {w : World} {r : List Ev} {F : World → Prop}
    (hI : Inv s w) (hl : LAt C v ks.length U) (hn : ks.length ≤ 2147483647) (hr : ∀ i m, ks[i]? = some m → m.size ≤ f ∧ (U i ≠ .nilIface ∧ Rep C m (U i))) (hc : len s + (ks.map (cost f)).sum ≤ L)
    (hk : ∀ w', Inv (ks.foldl (fun s c => wk V f d c s) s) w' → len (ks.foldl (fun s c => wk V f d c s) s) ≤ len s + (ks.map (cost f)).sum → Trace (cxAt Tryz.prog t b cs) r F w') : Trace (cxAt Tryz.prog t b cs) (.fn 43 [.val x, .val v] none :: r) F w := by
  subst hx
  exact ⟨mem_of hV hC hI, enters51, (list51 hV hW d ks v U s w hl hn hr hI hc).mono fun e w' h => ⟨⟨_, h.1⟩, hk w' h.2 (fold_len hV f d ks s)⟩⟩

/-- Walk at a node at which the visitor goes on. -/
theorem walk_on (hV : VOK V vv C Inv len L) {f : Nat} {d : Nat} {n : N} {t b : Nat} {s : S} {w : World} (hsz : n.size ≤ 1000000) (hR : Rep C n (Nd t b)) (hgo : (V.node d n s).2 = true) (cs : List (Nat × Value)) (hC : AllC (C b) cs) (evs : Value → List Ev)
    (hG : ∀ x T u, (Tryz.f21.body.bind fun c => exec (cxAt Tryz.prog t b cs) 4000 c [] [(0, some (.val x)), (1, some .node)] [.iface T u]) = some (.meth (.val x) "Visit" [.node] (some (.iface T u)) :: (evs (.iface T u) ++ [.meth (.val (.iface T u)) "Visit" [.val .nilIface] none])))
    (hI : Inv s w) (hc : len s + cost (f + 1) n ≤ L)
    (hk : ∀ s1 w1, Inv s1 w1 → len s1 + ((subs n).map (cost f)).sum + 1 ≤ L → Trace (cxAt Tryz.prog t b cs) (evs (vv (d + 1))) (Inv ((subs n).foldl (fun s c => wk V f (d + 1) c s) s1)) w1) :
    Calls Tryz.prog 21 #[vv d, Nd t b] w fun e w' => e = .returned (.tuple #[]) ∧ Inv (wk V (f + 1) d n s) w' := by
  obtain ⟨T, u, hT⟩ := hV.there (d + 1)
  have hcost : cost (f + 1) n = ((subs n).map (cost f)).sum + 2 := rfl
  obtain ⟨g, a', hm, hcalls⟩ := hV.node d n t b s w hsz hR hI (by omega)
  have hl1 := hV.len_node d n s
  have hG0 : (Tryz.f21.body.bind fun c => exec (cxAt Tryz.prog t b cs) 4000 c [] [(0, some (.val (vv d))), (1, some .node)] [.nilIface]) = some [.meth (.val (vv d)) "Visit" [.node] (some .nilIface)] := by kernel_rfl
  refine exec_calls2 (X := cxAt Tryz.prog t b cs) (F := Inv (wk V (f + 1) d n s)) 4000 [(0, some (.val (vv d))), (1, some .node)] [] [] _ _ Tryz.func21 rfl rfl (by show 2 ≤ 1119; decide) ?_ (hG (vv d) T u) hG0 ?_ (fun w' h => ⟨rfl, h⟩)
  · intro i v hv
    simp only [look] at hv
    split at hv
    · rename_i h0
      have h0 : 0 = i := by simpa using h0
      subst h0
      cases hv
      rfl
    · split at hv
      · rename_i h1
        have h1 : 1 = i := by simpa using h1
        subst h1
        cases hv
        rfl
      · cases hv
  · refine ⟨mem_of hV hC hI, g, a', hm, hcalls.mono fun e w1 h1 => ?_⟩
    rcases h1 with ⟨rfl, hI1⟩ | ⟨rfl, hI1⟩
    rotate_left
    · exact .inr ⟨rfl, mem_of hV hC (hI1 f), hI1 f⟩
    rw [hgo, if_pos rfl, hT]
    refine .inl ⟨rfl, Trace.snoc ?_⟩
    have h2 := hk _ w1 hI1 (by omega)
    rw [hT] at h2
    refine h2.imp fun w2 hI2 => ?_
    have h3 := fold_len hV f (d + 1) (subs n) (V.node d n s).1
    obtain ⟨g2, a2, hm2, hcalls2⟩ := hV.fin f d n s w2 hgo hI2 (by omega)
    rw [hT] at hm2
    refine ⟨mem_of hV hC hI2, g2, a2, hm2, hcalls2.mono fun e w3 h4 => ⟨h4.1, mem_of hV hC h4.2, ?_⟩⟩
    have h5 := h4.2
    simp only [wk, hgo, if_true]
    exact h5
/-- Walk at a node at which the visitor stops. -/
theorem walk_stop (hV : VOK V vv C Inv len L) {f : Nat} {d : Nat} {n : N} {t b : Nat} {s : S} {w : World} (hsz : n.size ≤ 1000000) (hR : Rep C n (Nd t b)) (hgo : (V.node d n s).2 = false) (hI : Inv s w) (hc : len s + cost (f + 1) n ≤ L) :
    Calls Tryz.prog 21 #[vv d, Nd t b] w fun e w' => e = .returned (.tuple #[]) ∧ Inv (wk V (f + 1) d n s) w' := by
  have hcost : cost (f + 1) n = ((subs n).map (cost f)).sum + 2 := rfl
  obtain ⟨g, a', hm, hcalls⟩ := hV.node d n t b s w hsz hR hI (by omega)
  have hG : (Tryz.f21.body.bind fun c => exec (cxAt Tryz.prog t b []) 4000 c [] [(0, some (.val (vv d))), (1, some .node)] [.nilIface]) = some [.meth (.val (vv d)) "Visit" [.node] (some .nilIface)] := by kernel_rfl
  refine exec_calls (X := cxAt Tryz.prog t b []) (F := Inv (wk V (f + 1) d n s)) 4000 [(0, some (.val (vv d))), (1, some .node)] [.nilIface] _ Tryz.func21 rfl rfl (by show 2 ≤ 1119; decide) ?_ hG ?_ (fun w' h => ⟨rfl, h⟩)
  · intro i v hv
    simp only [look] at hv
    split at hv
    · rename_i h0
      have h0 : 0 = i := by simpa using h0
      subst h0
      cases hv
      rfl
    · split at hv
      · rename_i h1
        have h1 : 1 = i := by simpa using h1
        subst h1
        cases hv
        rfl
      · cases hv
  · refine ⟨mem_of (cs := []) hV trivial hI, g, a', hm, hcalls.mono fun e w1 h1 => ?_⟩
    rcases h1 with ⟨rfl, hI1⟩ | ⟨rfl, hI1⟩
    rotate_left
    · exact ⟨rfl, mem_of (cs := []) hV trivial (hI1 f), hI1 f⟩
    rw [hgo]
    refine ⟨rfl, mem_of (cs := []) hV trivial hI1, ?_⟩
    simp only [wk, hgo, Bool.false_eq_true, if_false]
    exact hI1
end
end Go.Proofs.YtpifflakohlglaaGreatFmt

/- What is proved here: Walk, for whatever visitor keeps its word, goes over a declaration as wk does: node by node. -/
namespace Go.Proofs.YtpifflakohlglaaGreatFmt
open Go.RowKit Go.Shelf
set_option linter.unusedVariables false
set_option linter.unusedSimpArgs false
section
variable {S : Type} {V : Vis S} {vv : Nat → Value} {C : Nat → Nat → Value → Prop} {Inv : S → World → Prop} {len : S → Nat} {L : Nat}

theorem wc_name (hV : VOK V vv C Inv len L) {f : Nat} (hf : f < 1000000) (hW : WalkOK V vv C Inv len L f) {d : Nat} {n : N} {b : Nat} {s : S} {w : World} (h : Rep C n (Nd 82 b)) (hsz : n.size ≤ f + 1) (hgo : (V.node d n s).2 = true) (hI : Inv s w) (hc : len s + cost (f + 1) n ≤ L) :
    Calls Tryz.prog 21 #[vv d, Nd 82 b] w fun e w' => e = .returned (.tuple #[]) ∧ Inv (wk V (f + 1) d n s) w' := by
  have h' := h
  have hb := h.below_rep
  have hnl := N.len_lt n
  cases h with
  | name _ _ hk h0 c =>
    have blw : subs n = [] := by rw [below_plain hk rfl, h0]; rfl
    rw [blw] at hb
    have hC : AllC (C b) [] := trivial
    refine walk_on hV (by omega) h' hgo [] hC (fun X => []) (fun x T u => by kernel_rfl) hI hc fun s1 w1 hI1 hc1 => ?_
    rw [blw] at hc1 ⊢
    try simp only [List.map_append, List.sum_append, List.map_cons, List.map_nil, List.sum_cons, List.sum_nil] at hc1
    try simp only [List.foldl_append, List.foldl_cons, List.foldl_nil]
    exact tr_end hV hC hI1 hI1

theorem wc_literal (hV : VOK V vv C Inv len L) {f : Nat} (hf : f < 1000000) (hW : WalkOK V vv C Inv len L f) {d : Nat} {n : N} {b : Nat} {s : S} {w : World} (h : Rep C n (Nd 78 b)) (hsz : n.size ≤ f + 1) (hgo : (V.node d n s).2 = true) (hI : Inv s w) (hc : len s + cost (f + 1) n ≤ L) :
    Calls Tryz.prog 21 #[vv d, Nd 78 b] w fun e w' => e = .returned (.tuple #[]) ∧ Inv (wk V (f + 1) d n s) w' := by
  have h' := h
  have hb := h.below_rep
  have hnl := N.len_lt n
  cases h with
  | literal _ _ hk h0 c =>
    have blw : subs n = [] := by rw [below_plain hk rfl, h0]; rfl
    rw [blw] at hb
    have hC : AllC (C b) [] := trivial
    refine walk_on hV (by omega) h' hgo [] hC (fun X => []) (fun x T u => by kernel_rfl) hI hc fun s1 w1 hI1 hc1 => ?_
    rw [blw] at hc1 ⊢
    try simp only [List.map_append, List.sum_append, List.map_cons, List.map_nil, List.sum_cons, List.sum_nil] at hc1
    try simp only [List.foldl_append, List.foldl_cons, List.foldl_nil]
    exact tr_end hV hC hI1 hI1

theorem wc_select (hV : VOK V vv C Inv len L) {f : Nat} (hf : f < 1000000) (hW : WalkOK V vv C Inv len L f) {d : Nat} {n : N} {b : Nat} {s : S} {w : World} (h : Rep C n (Nd 106 b)) (hsz : n.size ≤ f + 1) (hgo : (V.node d n s).2 = true) (hI : Inv s w) (hc : len s + cost (f + 1) n ≤ L) :
    Calls Tryz.prog 21 #[vv d, Nd 106 b] w fun e w' => e = .returned (.tuple #[]) ∧ Inv (wk V (f + 1) d n s) w' := by
  have h' := h
  have hb := h.below_rep
  have hnl := N.len_lt n
  cases h with
  | select _ _ x vx sx hk h0 ex cx cs rx rs =>
    obtain ⟨tx, px, rfl⟩ := rx.nd (ne_of_isE ex)
    have blw : subs n = [x, identN n.text] := below_select hk h0
    rw [blw] at hb
    have hC : AllC (C b) [(0, Nd tx px), (1, Pt sx)] := ⟨cx, cs, trivial⟩
    refine walk_on hV (by omega) h' hgo [(0, Nd tx px), (1, Pt sx)] hC (fun X => [.fn 21 [.val X, .val (Nd tx px)] none, .fn 21 [.val X, .val (Nd 82 sx)] none]) (fun x T u => by kernel_rfl) hI hc fun s1 w1 hI1 hc1 => ?_
    rw [blw] at hc1 ⊢
    try simp only [List.map_append, List.sum_append, List.map_cons, List.map_nil, List.sum_cons, List.sum_nil] at hc1
    try simp only [List.foldl_append, List.foldl_cons, List.foldl_nil]
    refine tr_one hV hW hC rfl hI1 (by have := (hb x (by simp)).1; omega) rx (by omega) fun w2 hI2 hl2 => ?_
    refine tr_one hV hW hC rfl hI2 (by have := (hb (identN n.text) (by simp)).1; omega) rs (by omega) fun w3 hI3 hl3 => ?_
    exact tr_end hV hC hI3 hI3

theorem wc_star (hV : VOK V vv C Inv len L) {f : Nat} (hf : f < 1000000) (hW : WalkOK V vv C Inv len L f) {d : Nat} {n : N} {b : Nat} {s : S} {w : World} (h : Rep C n (Nd 124 b)) (hsz : n.size ≤ f + 1) (hgo : (V.node d n s).2 = true) (hI : Inv s w) (hc : len s + cost (f + 1) n ≤ L) :
    Calls Tryz.prog 21 #[vv d, Nd 124 b] w fun e w' => e = .returned (.tuple #[]) ∧ Inv (wk V (f + 1) d n s) w' := by
  have h' := h
  have hb := h.below_rep
  have hnl := N.len_lt n
  cases h with
  | star _ _ x vx hk ht h0 ex cx rx =>
    obtain ⟨tx, px, rfl⟩ := rx.nd (ne_of_isE ex)
    have blw : subs n = [x] := by rw [below_plain hk rfl, h0]; simp [rx.flat_nd]
    rw [blw] at hb
    have hC : AllC (C b) [(1, Nd tx px)] := ⟨cx, trivial⟩
    refine walk_on hV (by omega) h' hgo [(1, Nd tx px)] hC (fun X => [.fn 21 [.val X, .val (Nd tx px)] none]) (fun x T u => by kernel_rfl) hI hc fun s1 w1 hI1 hc1 => ?_
    rw [blw] at hc1 ⊢
    try simp only [List.map_append, List.sum_append, List.map_cons, List.map_nil, List.sum_cons, List.sum_nil] at hc1
    try simp only [List.foldl_append, List.foldl_cons, List.foldl_nil]
    refine tr_one hV hW hC rfl hI1 (by have := (hb x (by simp)).1; omega) rx (by omega) fun w2 hI2 hl2 => ?_
    exact tr_end hV hC hI2 hI2

theorem wc_array (hV : VOK V vv C Inv len L) {f : Nat} (hf : f < 1000000) (hW : WalkOK V vv C Inv len L f) {d : Nat} {n : N} {b : Nat} {s : S} {w : World} (h : Rep C n (Nd 137 b)) (hsz : n.size ≤ f + 1) (hgo : (V.node d n s).2 = true) (hI : Inv s w) (hc : len s + cost (f + 1) n ≤ L) :
    Calls Tryz.prog 21 #[vv d, Nd 137 b] w fun e w' => e = .returned (.tuple #[]) ∧ Inv (wk V (f + 1) d n s) w' := by
  have h' := h
  have hb := h.below_rep
  have hnl := N.len_lt n
  cases h with
  | array _ _ x vx y vy hk ht h0 ex ey cx cy rx ry =>
    obtain ⟨ty, py, rfl⟩ := ry.nd (ne_of_isE ey)
    rcases ex with ex | ex
    · subst ex
      have blw : subs n = [y] := by rw [below_plain hk rfl, h0]; simp [flat_missing rx.nil_inv, ry.flat_nd]
      rw [blw] at hb
      have hC : AllC (C b) [(1, Value.nilIface), (2, Nd ty py)] := ⟨cx, cy, trivial⟩
      refine walk_on hV (by omega) h' hgo [(1, Value.nilIface), (2, Nd ty py)] hC (fun X => [.fn 21 [.val X, .val (Nd ty py)] none]) (fun x T u => by kernel_rfl) hI hc fun s1 w1 hI1 hc1 => ?_
      rw [blw] at hc1 ⊢
      try simp only [List.map_append, List.sum_append, List.map_cons, List.map_nil, List.sum_cons, List.sum_nil] at hc1
      try simp only [List.foldl_append, List.foldl_cons, List.foldl_nil]
      refine tr_one hV hW hC rfl hI1 (by have := (hb y (by simp)).1; omega) ry (by omega) fun w2 hI2 hl2 => ?_
      exact tr_end hV hC hI2 hI2
    · obtain ⟨tx, px, rfl⟩ := rx.nd (ne_of_isE ex)
      have blw : subs n = [x, y] := by rw [below_plain hk rfl, h0]; simp [rx.flat_nd, ry.flat_nd]
      rw [blw] at hb
      have hC : AllC (C b) [(1, Nd tx px), (2, Nd ty py)] := ⟨cx, cy, trivial⟩
      refine walk_on hV (by omega) h' hgo [(1, Nd tx px), (2, Nd ty py)] hC (fun X => [.fn 21 [.val X, .val (Nd tx px)] none, .fn 21 [.val X, .val (Nd ty py)] none]) (fun x T u => by kernel_rfl) hI hc fun s1 w1 hI1 hc1 => ?_
      rw [blw] at hc1 ⊢
      try simp only [List.map_append, List.sum_append, List.map_cons, List.map_nil, List.sum_cons, List.sum_nil] at hc1
      try simp only [List.foldl_append, List.foldl_cons, List.foldl_nil]
      refine tr_one hV hW hC rfl hI1 (by have := (hb x (by simp)).1; omega) rx (by omega) fun w2 hI2 hl2 => ?_
      refine tr_one hV hW hC rfl hI2 (by have := (hb y (by simp)).1; omega) ry (by omega) fun w3 hI3 hl3 => ?_
      exact tr_end hV hC hI3 hI3

theorem wc_map (hV : VOK V vv C Inv len L) {f : Nat} (hf : f < 1000000) (hW : WalkOK V vv C Inv len L f) {d : Nat} {n : N} {b : Nat} {s : S} {w : World} (h : Rep C n (Nd 148 b)) (hsz : n.size ≤ f + 1) (hgo : (V.node d n s).2 = true) (hI : Inv s w) (hc : len s + cost (f + 1) n ≤ L) :
    Calls Tryz.prog 21 #[vv d, Nd 148 b] w fun e w' => e = .returned (.tuple #[]) ∧ Inv (wk V (f + 1) d n s) w' := by
  have h' := h
  have hb := h.below_rep
  have hnl := N.len_lt n
  cases h with
  | map _ _ x vx y vy hk ht h0 ex ey cx cy rx ry =>
    obtain ⟨tx, px, rfl⟩ := rx.nd (ne_of_isE ex)
    obtain ⟨ty, py, rfl⟩ := ry.nd (ne_of_isE ey)
    have blw : subs n = [x, y] := by rw [below_plain hk rfl, h0]; simp [rx.flat_nd, ry.flat_nd]
    rw [blw] at hb
    have hC : AllC (C b) [(1, Nd tx px), (2, Nd ty py)] := ⟨cx, cy, trivial⟩
    refine walk_on hV (by omega) h' hgo [(1, Nd tx px), (2, Nd ty py)] hC (fun X => [.fn 21 [.val X, .val (Nd tx px)] none, .fn 21 [.val X, .val (Nd ty py)] none]) (fun x T u => by kernel_rfl) hI hc fun s1 w1 hI1 hc1 => ?_
    rw [blw] at hc1 ⊢
    try simp only [List.map_append, List.sum_append, List.map_cons, List.map_nil, List.sum_cons, List.sum_nil] at hc1
    try simp only [List.foldl_append, List.foldl_cons, List.foldl_nil]
    refine tr_one hV hW hC rfl hI1 (by have := (hb x (by simp)).1; omega) rx (by omega) fun w2 hI2 hl2 => ?_
    refine tr_one hV hW hC rfl hI2 (by have := (hb y (by simp)).1; omega) ry (by omega) fun w3 hI3 hl3 => ?_
    exact tr_end hV hC hI3 hI3

theorem wc_chan (hV : VOK V vv C Inv len L) {f : Nat} (hf : f < 1000000) (hW : WalkOK V vv C Inv len L f) {d : Nat} {n : N} {b : Nat} {s : S} {w : World} (h : Rep C n (Nd 151 b)) (hsz : n.size ≤ f + 1) (hgo : (V.node d n s).2 = true) (hI : Inv s w) (hc : len s + cost (f + 1) n ≤ L) :
    Calls Tryz.prog 21 #[vv d, Nd 151 b] w fun e w' => e = .returned (.tuple #[]) ∧ Inv (wk V (f + 1) d n s) w' := by
  have h' := h
  have hb := h.below_rep
  have hnl := N.len_lt n
  cases h with
  | chan _ _ x vx dx hk hd h0 ex cd cx rx =>
    obtain ⟨tx, px, rfl⟩ := rx.nd (ne_of_isE ex)
    have blw : subs n = [x] := by rw [below_plain hk rfl, h0]; simp [rx.flat_nd]
    rw [blw] at hb
    have hC : AllC (C b) [(3, Nd tx px)] := ⟨cx, trivial⟩
    refine walk_on hV (by omega) h' hgo [(3, Nd tx px)] hC (fun X => [.fn 21 [.val X, .val (Nd tx px)] none]) (fun x T u => by kernel_rfl) hI hc fun s1 w1 hI1 hc1 => ?_
    rw [blw] at hc1 ⊢
    try simp only [List.map_append, List.sum_append, List.map_cons, List.map_nil, List.sum_cons, List.sum_nil] at hc1
    try simp only [List.foldl_append, List.foldl_cons, List.foldl_nil]
    refine tr_one hV hW hC rfl hI1 (by have := (hb x (by simp)).1; omega) rx (by omega) fun w2 hI2 hl2 => ?_
    exact tr_end hV hC hI2 hI2

theorem wc_signature (hV : VOK V vv C Inv len L) {f : Nat} (hf : f < 1000000) (hW : WalkOK V vv C Inv len L f) {d : Nat} {n : N} {b : Nat} {s : S} {w : World} (h : Rep C n (Nd 94 b)) (hsz : n.size ≤ f + 1) (hgo : (V.node d n s).2 = true) (hI : Inv s w) (hc : len s + cost (f + 1) n ≤ L) :
    Calls Tryz.prog 21 #[vv d, Nd 94 b] w fun e w' => e = .returned (.tuple #[]) ∧ Inv (wk V (f + 1) d n s) w' := by
  have h' := h
  have hb := h.below_rep
  have hnl := N.len_lt n
  cases h with
  | signature _ _ x px y vy py hk ht h0 ct cx cy oy rx ry =>
    rcases oy with ⟨rfl, rfl⟩ | ⟨qy, rfl, rfl⟩
    · have blw : subs n = [x] := by rw [below_plain hk rfl, h0]; simp [flat_missing ry.nil_inv, rx.flat_nd]
      rw [blw] at hb
      have hC : AllC (C b) [(1, Value.pointer none), (2, Pt px), (3, Value.pointer none)] := ⟨ct, cx, cy, trivial⟩
      refine walk_on hV (by omega) h' hgo [(1, Value.pointer none), (2, Pt px), (3, Value.pointer none)] hC (fun X => [.fn 21 [.val X, .val (Nd 83 px)] none]) (fun x T u => by kernel_rfl) hI hc fun s1 w1 hI1 hc1 => ?_
      rw [blw] at hc1 ⊢
      try simp only [List.map_append, List.sum_append, List.map_cons, List.map_nil, List.sum_cons, List.sum_nil] at hc1
      try simp only [List.foldl_append, List.foldl_cons, List.foldl_nil]
      refine tr_one hV hW hC rfl hI1 (by have := (hb x (by simp)).1; omega) rx (by omega) fun w2 hI2 hl2 => ?_
      exact tr_end hV hC hI2 hI2
    · have blw : subs n = [x, y] := by rw [below_plain hk rfl, h0]; simp [rx.flat_nd, ry.flat_nd]
      rw [blw] at hb
      have hC : AllC (C b) [(1, Value.pointer none), (2, Pt px), (3, Pt qy)] := ⟨ct, cx, cy, trivial⟩
      refine walk_on hV (by omega) h' hgo [(1, Value.pointer none), (2, Pt px), (3, Pt qy)] hC (fun X => [.fn 21 [.val X, .val (Nd 83 px)] none, .fn 21 [.val X, .val (Nd 83 qy)] none]) (fun x T u => by kernel_rfl) hI hc fun s1 w1 hI1 hc1 => ?_
      rw [blw] at hc1 ⊢
      try simp only [List.map_append, List.sum_append, List.map_cons, List.map_nil, List.sum_cons, List.sum_nil] at hc1
      try simp only [List.foldl_append, List.foldl_cons, List.foldl_nil]
      refine tr_one hV hW hC rfl hI1 (by have := (hb x (by simp)).1; omega) rx (by omega) fun w2 hI2 hl2 => ?_
      refine tr_one hV hW hC rfl hI2 (by have := (hb y (by simp)).1; omega) ry (by omega) fun w3 hI3 hl3 => ?_
      exact tr_end hV hC hI3 hI3

theorem wc_struct (hV : VOK V vv C Inv len L) {f : Nat} (hf : f < 1000000) (hW : WalkOK V vv C Inv len L f) {d : Nat} {n : N} {b : Nat} {s : S} {w : World} (h : Rep C n (Nd 140 b)) (hsz : n.size ≤ f + 1) (hgo : (V.node d n s).2 = true) (hI : Inv s w) (hc : len s + cost (f + 1) n ≤ L) :
    Calls Tryz.prog 21 #[vv d, Nd 140 b] w fun e w' => e = .returned (.tuple #[]) ∧ Inv (wk V (f + 1) d n s) w' := by
  have h' := h
  have hb := h.below_rep
  have hnl := N.len_lt n
  cases h with
  | struct _ _ x px hk ht h0 cx rx =>
    have blw : subs n = [x] := by rw [below_plain hk rfl, h0]; simp [rx.flat_nd]
    rw [blw] at hb
    have hC : AllC (C b) [(1, Pt px)] := ⟨cx, trivial⟩
    refine walk_on hV (by omega) h' hgo [(1, Pt px)] hC (fun X => [.fn 21 [.val X, .val (Nd 83 px)] none]) (fun x T u => by kernel_rfl) hI hc fun s1 w1 hI1 hc1 => ?_
    rw [blw] at hc1 ⊢
    try simp only [List.map_append, List.sum_append, List.map_cons, List.map_nil, List.sum_cons, List.sum_nil] at hc1
    try simp only [List.foldl_append, List.foldl_cons, List.foldl_nil]
    refine tr_one hV hW hC rfl hI1 (by have := (hb x (by simp)).1; omega) rx (by omega) fun w2 hI2 hl2 => ?_
    exact tr_end hV hC hI2 hI2

theorem wc_interface (hV : VOK V vv C Inv len L) {f : Nat} (hf : f < 1000000) (hW : WalkOK V vv C Inv len L f) {d : Nat} {n : N} {b : Nat} {s : S} {w : World} (h : Rep C n (Nd 145 b)) (hsz : n.size ≤ f + 1) (hgo : (V.node d n s).2 = true) (hI : Inv s w) (hc : len s + cost (f + 1) n ≤ L) :
    Calls Tryz.prog 21 #[vv d, Nd 145 b] w fun e w' => e = .returned (.tuple #[]) ∧ Inv (wk V (f + 1) d n s) w' := by
  have h' := h
  have hb := h.below_rep
  have hnl := N.len_lt n
  cases h with
  | interface _ _ x px hk ht h0 cx rx =>
    have blw : subs n = [x] := by rw [below_plain hk rfl, h0]; simp [rx.flat_nd]
    rw [blw] at hb
    have hC : AllC (C b) [(1, Pt px)] := ⟨cx, trivial⟩
    refine walk_on hV (by omega) h' hgo [(1, Pt px)] hC (fun X => [.fn 21 [.val X, .val (Nd 83 px)] none]) (fun x T u => by kernel_rfl) hI hc fun s1 w1 hI1 hc1 => ?_
    rw [blw] at hc1 ⊢
    try simp only [List.map_append, List.sum_append, List.map_cons, List.map_nil, List.sum_cons, List.sum_nil] at hc1
    try simp only [List.foldl_append, List.foldl_cons, List.foldl_nil]
    refine tr_one hV hW hC rfl hI1 (by have := (hb x (by simp)).1; omega) rx (by omega) fun w2 hI2 hl2 => ?_
    exact tr_end hV hC hI2 hI2

theorem wc_fields (hV : VOK V vv C Inv len L) {f : Nat} (hf : f < 1000000) (hW : WalkOK V vv C Inv len L f) {d : Nat} {n : N} {b : Nat} {s : S} {w : World} (h : Rep C n (Nd 83 b)) (hsz : n.size ≤ f + 1) (hgo : (V.node d n s).2 = true) (hI : Inv s w) (hc : len s + cost (f + 1) n ≤ L) :
    Calls Tryz.prog 21 #[vv d, Nd 83 b] w fun e w' => e = .returned (.tuple #[]) ∧ Inv (wk V (f + 1) d n s) w' := by
  have h' := h
  have hb := h.below_rep
  have hnl := N.len_lt n
  cases h with
  | fields _ _ U vl hk ht cl hl hr =>
    have blw : subs n = n.kids := by rw [below_plain hk rfl]; exact flatMap_self fun m hm => by obtain ⟨i, hi⟩ := mem_get hm; exact (hr i m hi).flat_nd
    rw [blw] at hb
    have hC : AllC (C b) [(1, vl)] := ⟨cl, trivial⟩
    refine walk_on hV (by omega) h' hgo [(1, vl)] hC (fun X => [.fn 40 [.val X, .val (vl)] none]) (fun x T u => by kernel_rfl) hI hc fun s1 w1 hI1 hc1 => ?_
    rw [blw] at hc1 ⊢
    try simp only [List.map_append, List.sum_append, List.map_cons, List.map_nil, List.sum_cons, List.sum_nil] at hc1
    try simp only [List.foldl_append, List.foldl_cons, List.foldl_nil]
    refine tr_list48 hV hW hC rfl hI1 hl (by omega) (fun i m hm => ⟨by have := N.size_kid hm; omega, hr i m hm⟩) (by omega) fun w2 hI2 hl2 => ?_
    exact tr_end hV hC hI2 hI2

theorem wc_field (hV : VOK V vv C Inv len L) {f : Nat} (hf : f < 1000000) (hW : WalkOK V vv C Inv len L f) {d : Nat} {n : N} {b : Nat} {s : S} {w : World} (h : Rep C n (Nd 74 b)) (hsz : n.size ≤ f + 1) (hgo : (V.node d n s).2 = true) (hI : Inv s w) (hc : len s + cost (f + 1) n ≤ L) :
    Calls Tryz.prog 21 #[vv d, Nd 74 b] w fun e w' => e = .returned (.tuple #[]) ∧ Inv (wk V (f + 1) d n s) w' := by
  have h' := h
  have hb := h.below_rep
  have hnl := N.len_lt n
  cases h with
  | field _ _ x r vx U vl vt pt hk h0 cd cl hl hr ex cx rx ct ot rt cc =>
    obtain ⟨tx, px, rfl⟩ := rx.nd (ne_of_isE ex)
    have hrl : r.length < n.kids.length := by rw [h0]; simp
    rcases ot with ⟨rfl, rfl⟩ | ⟨qt, rfl, rfl⟩
    · have htg : n.text.toList.isEmpty = true := by
        by_cases hq : n.text.toList.isEmpty = true
        · exact hq
        · rw [tagN, if_neg hq] at rt; exact absurd rt.nil_inv (by simp [missing, litN, isK, N.kind])
      have blw : subs n = r ++ [x] := by rw [below_field hk h0, htg]; simp
      rw [blw] at hb
      have hC : AllC (C b) [(0, Value.pointer none), (1, vl), (2, Nd tx px), (3, Value.pointer none), (4, Value.pointer none)] := ⟨cd, cl, cx, ct, cc, trivial⟩
      refine walk_on hV (by omega) h' hgo [(0, Value.pointer none), (1, vl), (2, Nd tx px), (3, Value.pointer none), (4, Value.pointer none)] hC (fun X => [.fn 39 [.val X, .val (vl)] none, .fn 21 [.val X, .val (Nd tx px)] none]) (fun x T u => by kernel_rfl) hI hc fun s1 w1 hI1 hc1 => ?_
      rw [blw] at hc1 ⊢
      try simp only [List.map_append, List.sum_append, List.map_cons, List.map_nil, List.sum_cons, List.sum_nil] at hc1
      try simp only [List.foldl_append, List.foldl_cons, List.foldl_nil]
      refine tr_list47 hV hW hC rfl hI1 hl (by omega) (fun i m hm => ⟨by have := kid_lt (n := n) (m := m) (by rw [h0]; exact List.mem_cons_of_mem _ (List.mem_of_getElem? hm)); omega, hr i m hm⟩) (by omega) fun w2 hI2 hl2 => ?_
      refine tr_one hV hW hC rfl hI2 (by have := (hb x (by simp)).1; omega) rx (by omega) fun w3 hI3 hl3 => ?_
      exact tr_end hV hC hI3 hI3
    · have htg : n.text.toList.isEmpty = false := by
        by_cases hq : n.text.toList.isEmpty = true
        · rw [tagN, if_pos hq] at rt; cases rt with | literal _ _ hk' => simp [isK, noneN, N.kind] at hk'
        · simpa using hq
      have rt2 : Rep C (litN n.text) (Nd 78 qt) := by rw [tagN, htg] at rt; exact rt
      have blw : subs n = r ++ [x] ++ [litN n.text] := by rw [below_field hk h0, htg]; simp
      rw [blw] at hb
      have hC : AllC (C b) [(0, Value.pointer none), (1, vl), (2, Nd tx px), (3, Pt qt), (4, Value.pointer none)] := ⟨cd, cl, cx, ct, cc, trivial⟩
      refine walk_on hV (by omega) h' hgo [(0, Value.pointer none), (1, vl), (2, Nd tx px), (3, Pt qt), (4, Value.pointer none)] hC (fun X => [.fn 39 [.val X, .val (vl)] none, .fn 21 [.val X, .val (Nd tx px)] none, .fn 21 [.val X, .val (Nd 78 qt)] none]) (fun x T u => by kernel_rfl) hI hc fun s1 w1 hI1 hc1 => ?_
      rw [blw] at hc1 ⊢
      try simp only [List.map_append, List.sum_append, List.map_cons, List.map_nil, List.sum_cons, List.sum_nil] at hc1
      try simp only [List.foldl_append, List.foldl_cons, List.foldl_nil]
      refine tr_list47 hV hW hC rfl hI1 hl (by omega) (fun i m hm => ⟨by have := kid_lt (n := n) (m := m) (by rw [h0]; exact List.mem_cons_of_mem _ (List.mem_of_getElem? hm)); omega, hr i m hm⟩) (by omega) fun w2 hI2 hl2 => ?_
      refine tr_one hV hW hC rfl hI2 (by have := (hb x (by simp)).1; omega) rx (by omega) fun w3 hI3 hl3 => ?_
      refine tr_one hV hW hC rfl hI3 (by have := (hb (litN n.text) (by simp)).1; omega) rt2 (by omega) fun w4 hI4 hl4 => ?_
      exact tr_end hV hC hI4 hI4

theorem wc_path (hV : VOK V vv C Inv len L) {f : Nat} (hf : f < 1000000) (hW : WalkOK V vv C Inv len L f) {d : Nat} {n : N} {b : Nat} {s : S} {w : World} (h : Rep C n (Nd 217 b)) (hsz : n.size ≤ f + 1) (hgo : (V.node d n s).2 = true) (hI : Inv s w) (hc : len s + cost (f + 1) n ≤ L) :
    Calls Tryz.prog 21 #[vv d, Nd 217 b] w fun e w' => e = .returned (.tuple #[]) ∧ Inv (wk V (f + 1) d n s) w' := by
  have h' := h
  have hb := h.below_rep
  have hnl := N.len_lt n
  cases h with
  | path _ _ x vx px tt hk h0 cd cx ox rx ct rt cc =>
    rcases ox with ⟨rfl, rfl⟩ | ⟨qx, rfl, rfl⟩
    · have blw : subs n = [litN n.text] := by rw [below_path hk h0, here_missing rx.nil_inv]; rfl
      rw [blw] at hb
      have hC : AllC (C b) [(0, Value.pointer none), (1, Value.pointer none), (2, Pt tt), (3, Value.pointer none)] := ⟨cd, cx, ct, cc, trivial⟩
      refine walk_on hV (by omega) h' hgo [(0, Value.pointer none), (1, Value.pointer none), (2, Pt tt), (3, Value.pointer none)] hC (fun X => [.fn 21 [.val X, .val (Nd 78 tt)] none]) (fun x T u => by kernel_rfl) hI hc fun s1 w1 hI1 hc1 => ?_
      rw [blw] at hc1 ⊢
      try simp only [List.map_append, List.sum_append, List.map_cons, List.map_nil, List.sum_cons, List.sum_nil] at hc1
      try simp only [List.foldl_append, List.foldl_cons, List.foldl_nil]
      refine tr_one hV hW hC rfl hI1 (by have := (hb (litN n.text) (by simp)).1; omega) rt (by omega) fun w2 hI2 hl2 => ?_
      exact tr_end hV hC hI2 hI2
    · have blw : subs n = [x, litN n.text] := by rw [below_path hk h0, rx.here_nd]; rfl
      rw [blw] at hb
      have hC : AllC (C b) [(0, Value.pointer none), (1, Pt qx), (2, Pt tt), (3, Value.pointer none)] := ⟨cd, cx, ct, cc, trivial⟩
      refine walk_on hV (by omega) h' hgo [(0, Value.pointer none), (1, Pt qx), (2, Pt tt), (3, Value.pointer none)] hC (fun X => [.fn 21 [.val X, .val (Nd 82 qx)] none, .fn 21 [.val X, .val (Nd 78 tt)] none]) (fun x T u => by kernel_rfl) hI hc fun s1 w1 hI1 hc1 => ?_
      rw [blw] at hc1 ⊢
      try simp only [List.map_append, List.sum_append, List.map_cons, List.map_nil, List.sum_cons, List.sum_nil] at hc1
      try simp only [List.foldl_append, List.foldl_cons, List.foldl_nil]
      refine tr_one hV hW hC rfl hI1 (by have := (hb x (by simp)).1; omega) rx (by omega) fun w2 hI2 hl2 => ?_
      refine tr_one hV hW hC rfl hI2 (by have := (hb (litN n.text) (by simp)).1; omega) rt (by omega) fun w3 hI3 hl3 => ?_
      exact tr_end hV hC hI3 hI3

theorem wc_value (hV : VOK V vv C Inv len L) {f : Nat} (hf : f < 1000000) (hW : WalkOK V vv C Inv len L f) {d : Nat} {n : N} {b : Nat} {s : S} {w : World} (h : Rep C n (Nd 220 b)) (hsz : n.size ≤ f + 1) (hgo : (V.node d n s).2 = true) (hI : Inv s w) (hc : len s + cost (f + 1) n ≤ L) :
    Calls Tryz.prog 21 #[vv d, Nd 220 b] w fun e w' => e = .returned (.tuple #[]) ∧ Inv (wk V (f + 1) d n s) w' := by
  have h' := h
  have hb := h.below_rep
  have hnl := N.len_lt n
  cases h with
  | value _ _ x y z U vl vy W wl hk ht h0 kx tx kz tz cd cl hl hr ey cy ry cw hw ew hz cc =>
    have hlx : x.kids.length < n.size := by have := N.len_lt x; have := kid_lt (n := n) (m := x) (by simp [h0]); omega
    have hlz : z.kids.length < n.size := by have := N.len_lt z; have := kid_lt (n := n) (m := z) (by simp [h0]); omega
    rcases ey with ey | ey
    · subst ey
      have blw : subs n = x.kids ++ z.kids := by rw [below_plain hk rfl, h0]; simp [flat_list kx, flat_list kz, flat_missing ry.nil_inv]
      rw [blw] at hb
      have hC : AllC (C b) [(0, Value.pointer none), (1, vl), (2, Value.nilIface), (3, wl), (4, Value.pointer none)] := ⟨cd, cl, cy, cw, cc, trivial⟩
      refine walk_on hV (by omega) h' hgo [(0, Value.pointer none), (1, vl), (2, Value.nilIface), (3, wl), (4, Value.pointer none)] hC (fun X => [.fn 39 [.val X, .val (vl)] none, .fn 41 [.val X, .val (wl)] none]) (fun x T u => by kernel_rfl) hI hc fun s1 w1 hI1 hc1 => ?_
      rw [blw] at hc1 ⊢
      try simp only [List.map_append, List.sum_append, List.map_cons, List.map_nil, List.sum_cons, List.sum_nil] at hc1
      try simp only [List.foldl_append, List.foldl_cons, List.foldl_nil]
      refine tr_list47 hV hW hC rfl hI1 hl (by omega) (fun i m hm => ⟨by have := N.size_kid (m := x) hm; have := kid_lt (n := n) (m := x) (by simp [h0]); omega, hr i m hm⟩) (by omega) fun w2 hI2 hl2 => ?_
      refine tr_list49 hV hW hC rfl hI2 hw (by omega) (fun i m hm => ⟨by have := N.size_kid (m := z) hm; have := kid_lt (n := n) (m := z) (by simp [h0]); omega, ⟨ne_of_isE (ew i m hm), hz i m hm⟩⟩) (by omega) fun w3 hI3 hl3 => ?_
      exact tr_end hV hC hI3 hI3
    · obtain ⟨ty, py, rfl⟩ := ry.nd (ne_of_isE ey)
      have blw : subs n = x.kids ++ [y] ++ z.kids := by rw [below_plain hk rfl, h0]; simp [flat_list kx, flat_list kz, ry.flat_nd]
      rw [blw] at hb
      have hC : AllC (C b) [(0, Value.pointer none), (1, vl), (2, Nd ty py), (3, wl), (4, Value.pointer none)] := ⟨cd, cl, cy, cw, cc, trivial⟩
      refine walk_on hV (by omega) h' hgo [(0, Value.pointer none), (1, vl), (2, Nd ty py), (3, wl), (4, Value.pointer none)] hC (fun X => [.fn 39 [.val X, .val (vl)] none, .fn 21 [.val X, .val (Nd ty py)] none, .fn 41 [.val X, .val (wl)] none]) (fun x T u => by kernel_rfl) hI hc fun s1 w1 hI1 hc1 => ?_
      rw [blw] at hc1 ⊢
      try simp only [List.map_append, List.sum_append, List.map_cons, List.map_nil, List.sum_cons, List.sum_nil] at hc1
      try simp only [List.foldl_append, List.foldl_cons, List.foldl_nil]
      refine tr_list47 hV hW hC rfl hI1 hl (by omega) (fun i m hm => ⟨by have := N.size_kid (m := x) hm; have := kid_lt (n := n) (m := x) (by simp [h0]); omega, hr i m hm⟩) (by omega) fun w2 hI2 hl2 => ?_
      refine tr_one hV hW hC rfl hI2 (by have := (hb y (by simp)).1; omega) ry (by omega) fun w3 hI3 hl3 => ?_
      refine tr_list49 hV hW hC rfl hI3 hw (by omega) (fun i m hm => ⟨by have := N.size_kid (m := z) hm; have := kid_lt (n := n) (m := z) (by simp [h0]); omega, ⟨ne_of_isE (ew i m hm), hz i m hm⟩⟩) (by omega) fun w4 hI4 hl4 => ?_
      exact tr_end hV hC hI4 hI4

theorem wc_type (hV : VOK V vv C Inv len L) {f : Nat} (hf : f < 1000000) (hW : WalkOK V vv C Inv len L f) {d : Nat} {n : N} {b : Nat} {s : S} {w : World} (h : Rep C n (Nd 223 b)) (hsz : n.size ≤ f + 1) (hgo : (V.node d n s).2 = true) (hI : Inv s w) (hc : len s + cost (f + 1) n ≤ L) :
    Calls Tryz.prog 21 #[vv d, Nd 223 b] w fun e w' => e = .returned (.tuple #[]) ∧ Inv (wk V (f + 1) d n s) w' := by
  have h' := h
  have hb := h.below_rep
  have hnl := N.len_lt n
  cases h with
  | type _ _ x vx sx dx hk h0 cd cs rs cp ca ex cx rx cc =>
    obtain ⟨tx, px, rfl⟩ := rx.nd (ne_of_isE ex)
    have blw : subs n = [identN n.text, x] := below_type (hk.imp And.left And.left) h0
    rw [blw] at hb
    have hC : AllC (C b) [(0, Value.pointer none), (1, Pt sx), (2, Value.pointer none), (4, Nd tx px), (5, Value.pointer none)] := ⟨cd, cs, cp, cx, cc, trivial⟩
    refine walk_on hV (by omega) h' hgo [(0, Value.pointer none), (1, Pt sx), (2, Value.pointer none), (4, Nd tx px), (5, Value.pointer none)] hC (fun X => [.fn 21 [.val X, .val (Nd 82 sx)] none, .fn 21 [.val X, .val (Nd tx px)] none]) (fun x T u => by kernel_rfl) hI hc fun s1 w1 hI1 hc1 => ?_
    rw [blw] at hc1 ⊢
    try simp only [List.map_append, List.sum_append, List.map_cons, List.map_nil, List.sum_cons, List.sum_nil] at hc1
    try simp only [List.foldl_append, List.foldl_cons, List.foldl_nil]
    refine tr_one hV hW hC rfl hI1 (by have := (hb (identN n.text) (by simp)).1; omega) rs (by omega) fun w2 hI2 hl2 => ?_
    refine tr_one hV hW hC rfl hI2 (by have := (hb x (by simp)).1; omega) rx (by omega) fun w3 hI3 hl3 => ?_
    exact tr_end hV hC hI3 hI3

theorem wc_gen (hV : VOK V vv C Inv len L) {f : Nat} (hf : f < 1000000) (hW : WalkOK V vv C Inv len L f) {d : Nat} {n : N} {b : Nat} {s : S} {w : World} (h : Rep C n (Nd 227 b)) (hsz : n.size ≤ f + 1) (hgo : (V.node d n s).2 = true) (hI : Inv s w) (hc : len s + cost (f + 1) n ≤ L) :
    Calls Tryz.prog 21 #[vv d, Nd 227 b] w fun e w' => e = .returned (.tuple #[]) ∧ Inv (wk V (f + 1) d n s) w' := by
  have h' := h
  have hb := h.below_rep
  have hnl := N.len_lt n
  cases h with
  | gen _ _ W wl tt dd hk hd cd ct cg cw hw ew hz =>
    have blw : subs n = n.kids := by
      rw [below_gen hk]
      refine flatMap_self fun m hm => ?_
      obtain ⟨i, hi⟩ := mem_get hm
      obtain ⟨t', b', he⟩ := (hz i m hi).nd (ne_of_isS (ew i m hi))
      have hr := hz i m hi
      rw [he] at hr
      exact hr.flat_nd
    rw [blw] at hb
    have hC : AllC (C b) [(0, Value.pointer none), (4, wl)] := ⟨cd, cw, trivial⟩
    refine walk_on hV (by omega) h' hgo [(0, Value.pointer none), (4, wl)] hC (fun X => [.fn 43 [.val X, .val (wl)] none]) (fun x T u => by kernel_rfl) hI hc fun s1 w1 hI1 hc1 => ?_
    rw [blw] at hc1 ⊢
    try simp only [List.map_append, List.sum_append, List.map_cons, List.map_nil, List.sum_cons, List.sum_nil] at hc1
    try simp only [List.foldl_append, List.foldl_cons, List.foldl_nil]
    refine tr_list51 hV hW hC rfl hI1 hw (by omega) (fun i m hm => ⟨by have := N.size_kid hm; omega, ne_of_isS (ew i m hm), hz i m hm⟩) (by omega) fun w2 hI2 hl2 => ?_
    exact tr_end hV hC hI2 hI2

theorem wc_func (hV : VOK V vv C Inv len L) {f : Nat} (hf : f < 1000000) (hW : WalkOK V vv C Inv len L f) {d : Nat} {n : N} {b : Nat} {s : S} {w : World} (h : Rep C n (Nd 234 b)) (hsz : n.size ≤ f + 1) (hgo : (V.node d n s).2 = true) (hI : Inv s w) (hc : len s + cost (f + 1) n ≤ L) :
    Calls Tryz.prog 21 #[vv d, Nd 234 b] w fun e w' => e = .returned (.tuple #[]) ∧ Inv (wk V (f + 1) d n s) w' := by
  have h' := h
  have hb := h.below_rep
  have hnl := N.len_lt n
  cases h with
  | func _ _ x y z vx px sx tt vz pz hk h0 cd cx ox rx cs rs ct rt cz oz rz =>
    rcases ox with ⟨rfl, rfl⟩ | ⟨qx, rfl, rfl⟩
    · rcases oz with ⟨rfl, rfl⟩ | ⟨qz, rfl, rfl⟩
      · have blw : subs n = [identN n.text, y] := by rw [below_func hk h0]; simp [here_missing rx.nil_inv, rt.flat_nd, flat_missing rz.nil_inv]
        rw [blw] at hb
        have hC : AllC (C b) [(0, Value.pointer none), (1, Value.pointer none), (2, Pt sx), (3, Pt tt), (4, Value.pointer none)] := ⟨cd, cx, cs, ct, cz, trivial⟩
        refine walk_on hV (by omega) h' hgo [(0, Value.pointer none), (1, Value.pointer none), (2, Pt sx), (3, Pt tt), (4, Value.pointer none)] hC (fun X => [.fn 21 [.val X, .val (Nd 82 sx)] none, .fn 21 [.val X, .val (Nd 94 tt)] none]) (fun x T u => by kernel_rfl) hI hc fun s1 w1 hI1 hc1 => ?_
        rw [blw] at hc1 ⊢
        try simp only [List.map_append, List.sum_append, List.map_cons, List.map_nil, List.sum_cons, List.sum_nil] at hc1
        try simp only [List.foldl_append, List.foldl_cons, List.foldl_nil]
        refine tr_one hV hW hC rfl hI1 (by have := (hb (identN n.text) (by simp)).1; omega) rs (by omega) fun w2 hI2 hl2 => ?_
        refine tr_one hV hW hC rfl hI2 (by have := (hb y (by simp)).1; omega) rt (by omega) fun w3 hI3 hl3 => ?_
        exact tr_end hV hC hI3 hI3
      · have blw : subs n = [identN n.text, y, z] := by rw [below_func hk h0]; simp [here_missing rx.nil_inv, rt.flat_nd, rz.flat_nd]
        rw [blw] at hb
        have hC : AllC (C b) [(0, Value.pointer none), (1, Value.pointer none), (2, Pt sx), (3, Pt tt), (4, Pt qz)] := ⟨cd, cx, cs, ct, cz, trivial⟩
        refine walk_on hV (by omega) h' hgo [(0, Value.pointer none), (1, Value.pointer none), (2, Pt sx), (3, Pt tt), (4, Pt qz)] hC (fun X => [.fn 21 [.val X, .val (Nd 82 sx)] none, .fn 21 [.val X, .val (Nd 94 tt)] none, .fn 21 [.val X, .val (Nd 95 qz)] none]) (fun x T u => by kernel_rfl) hI hc fun s1 w1 hI1 hc1 => ?_
        rw [blw] at hc1 ⊢
        try simp only [List.map_append, List.sum_append, List.map_cons, List.map_nil, List.sum_cons, List.sum_nil] at hc1
        try simp only [List.foldl_append, List.foldl_cons, List.foldl_nil]
        refine tr_one hV hW hC rfl hI1 (by have := (hb (identN n.text) (by simp)).1; omega) rs (by omega) fun w2 hI2 hl2 => ?_
        refine tr_one hV hW hC rfl hI2 (by have := (hb y (by simp)).1; omega) rt (by omega) fun w3 hI3 hl3 => ?_
        refine tr_one hV hW hC rfl hI3 (by have := (hb z (by simp)).1; omega) rz (by omega) fun w4 hI4 hl4 => ?_
        exact tr_end hV hC hI4 hI4
    · rcases oz with ⟨rfl, rfl⟩ | ⟨qz, rfl, rfl⟩
      · have blw : subs n = [x, identN n.text, y] := by rw [below_func hk h0]; simp [rx.here_nd, rt.flat_nd, flat_missing rz.nil_inv]
        rw [blw] at hb
        have hC : AllC (C b) [(0, Value.pointer none), (1, Pt qx), (2, Pt sx), (3, Pt tt), (4, Value.pointer none)] := ⟨cd, cx, cs, ct, cz, trivial⟩
        refine walk_on hV (by omega) h' hgo [(0, Value.pointer none), (1, Pt qx), (2, Pt sx), (3, Pt tt), (4, Value.pointer none)] hC (fun X => [.fn 21 [.val X, .val (Nd 83 qx)] none, .fn 21 [.val X, .val (Nd 82 sx)] none, .fn 21 [.val X, .val (Nd 94 tt)] none]) (fun x T u => by kernel_rfl) hI hc fun s1 w1 hI1 hc1 => ?_
        rw [blw] at hc1 ⊢
        try simp only [List.map_append, List.sum_append, List.map_cons, List.map_nil, List.sum_cons, List.sum_nil] at hc1
        try simp only [List.foldl_append, List.foldl_cons, List.foldl_nil]
        refine tr_one hV hW hC rfl hI1 (by have := (hb x (by simp)).1; omega) rx (by omega) fun w2 hI2 hl2 => ?_
        refine tr_one hV hW hC rfl hI2 (by have := (hb (identN n.text) (by simp)).1; omega) rs (by omega) fun w3 hI3 hl3 => ?_
        refine tr_one hV hW hC rfl hI3 (by have := (hb y (by simp)).1; omega) rt (by omega) fun w4 hI4 hl4 => ?_
        exact tr_end hV hC hI4 hI4
      · have blw : subs n = [x, identN n.text, y, z] := by rw [below_func hk h0]; simp [rx.here_nd, rt.flat_nd, rz.flat_nd]
        rw [blw] at hb
        have hC : AllC (C b) [(0, Value.pointer none), (1, Pt qx), (2, Pt sx), (3, Pt tt), (4, Pt qz)] := ⟨cd, cx, cs, ct, cz, trivial⟩
        refine walk_on hV (by omega) h' hgo [(0, Value.pointer none), (1, Pt qx), (2, Pt sx), (3, Pt tt), (4, Pt qz)] hC (fun X => [.fn 21 [.val X, .val (Nd 83 qx)] none, .fn 21 [.val X, .val (Nd 82 sx)] none, .fn 21 [.val X, .val (Nd 94 tt)] none, .fn 21 [.val X, .val (Nd 95 qz)] none]) (fun x T u => by kernel_rfl) hI hc fun s1 w1 hI1 hc1 => ?_
        rw [blw] at hc1 ⊢
        try simp only [List.map_append, List.sum_append, List.map_cons, List.map_nil, List.sum_cons, List.sum_nil] at hc1
        try simp only [List.foldl_append, List.foldl_cons, List.foldl_nil]
        refine tr_one hV hW hC rfl hI1 (by have := (hb x (by simp)).1; omega) rx (by omega) fun w2 hI2 hl2 => ?_
        refine tr_one hV hW hC rfl hI2 (by have := (hb (identN n.text) (by simp)).1; omega) rs (by omega) fun w3 hI3 hl3 => ?_
        refine tr_one hV hW hC rfl hI3 (by have := (hb y (by simp)).1; omega) rt (by omega) fun w4 hI4 hl4 => ?_
        refine tr_one hV hW hC rfl hI4 (by have := (hb z (by simp)).1; omega) rz (by omega) fun w5 hI5 hl5 => ?_
        exact tr_end hV hC hI5 hI5

theorem wc_body (hV : VOK V vv C Inv len L) {f : Nat} (hf : f < 1000000) (hW : WalkOK V vv C Inv len L f) {d : Nat} {n : N} {b : Nat} {s : S} {w : World} (h : Rep C n (Nd 95 b)) (hsz : n.size ≤ f + 1) (hgo : (V.node d n s).2 = true) (hI : Inv s w) (hc : len s + cost (f + 1) n ≤ L) :
    Calls Tryz.prog 21 #[vv d, Nd 95 b] w fun e w' => e = .returned (.tuple #[]) ∧ Inv (wk V (f + 1) d n s) w' := by
  have h' := h
  have hb := h.below_rep
  have hnl := N.len_lt n
  cases h with
  | body _ _ hk ht h0 cl =>
    have blw : subs n = [] := by rw [below_plain hk rfl, h0]; rfl
    rw [blw] at hb
    have hC : AllC (C b) [(1, Value.slice none 0 0)] := ⟨cl, trivial⟩
    refine walk_on hV (by omega) h' hgo [(1, Value.slice none 0 0)] hC (fun X => [.fn 42 [.val X, .val (Value.slice none 0 0)] none]) (fun x T u => by kernel_rfl) hI hc fun s1 w1 hI1 hc1 => ?_
    rw [blw] at hc1 ⊢
    try simp only [List.map_append, List.sum_append, List.map_cons, List.map_nil, List.sum_cons, List.sum_nil] at hc1
    try simp only [List.foldl_append, List.foldl_cons, List.foldl_nil]
    exact ⟨mem_of hV hC hI1, enters50, (list50 _ w1 _ _).mono fun e w2 h => ⟨⟨_, h.1⟩, by rw [h.2]; exact ⟨mem_of hV hC hI1, hI1⟩⟩⟩

/-- A node's type is one of these. -/
theorem Rep.types {n : N} {t b : Nat} (h : Rep C n (Nd t b)) : t = 82 ∨ t = 78 ∨ t = 106 ∨ t = 124 ∨ t = 137 ∨ t = 148 ∨ t = 151 ∨ t = 94 ∨ t = 140 ∨ t = 145 ∨ t = 83 ∨ t = 74 ∨ t = 217 ∨ t = 220 ∨ t = 223 ∨ t = 227 ∨ t = 234 ∨ t = 95 := by
  cases h <;> simp
theorem walk_ok (hV : VOK V vv C Inv len L) (f : Nat) (hf : f ≤ 1000000) : WalkOK V vv C Inv len L f := by
  induction f with
  | zero => intro d n t b s w hn; have := N.size_eq n; omega
  | succ f ih =>
    have hW := ih (by omega)
    intro d n t b s w hn hR hI hc
    cases hgo : (V.node d n s).2 with
    | false => exact walk_stop hV (by omega) hR hgo hI hc
    | true =>
      rcases hR.types with rfl | rfl | rfl | rfl | rfl | rfl | rfl | rfl | rfl | rfl | rfl | rfl | rfl | rfl | rfl | rfl | rfl | rfl
      · exact wc_name hV (by omega) hW hR hn hgo hI hc
      · exact wc_literal hV (by omega) hW hR hn hgo hI hc
      · exact wc_select hV (by omega) hW hR hn hgo hI hc
      · exact wc_star hV (by omega) hW hR hn hgo hI hc
      · exact wc_array hV (by omega) hW hR hn hgo hI hc
      · exact wc_map hV (by omega) hW hR hn hgo hI hc
      · exact wc_chan hV (by omega) hW hR hn hgo hI hc
      · exact wc_signature hV (by omega) hW hR hn hgo hI hc
      · exact wc_struct hV (by omega) hW hR hn hgo hI hc
      · exact wc_interface hV (by omega) hW hR hn hgo hI hc
      · exact wc_fields hV (by omega) hW hR hn hgo hI hc
      · exact wc_field hV (by omega) hW hR hn hgo hI hc
      · exact wc_path hV (by omega) hW hR hn hgo hI hc
      · exact wc_value hV (by omega) hW hR hn hgo hI hc
      · exact wc_type hV (by omega) hW hR hn hgo hI hc
      · exact wc_gen hV (by omega) hW hR hn hgo hI hc
      · exact wc_func hV (by omega) hW hR hn hgo hI hc
      · exact wc_body hV (by omega) hW hR hn hgo hI hc
end
end Go.Proofs.YtpifflakohlglaaGreatFmt

/- What is proved here: what the walks give, as the laws say it, in plain lists. No program is in sight. -/
namespace Go.Proofs.YtpifflakohlglaaGreatFmt
open Go.RowKit

theorem foldl_app {α β : Type} (F : List β → α → List β) (g : α → List β) (h : ∀ s a, F s a = s ++ g a) (l : List α) (s : List β) : l.foldl F s = s ++ l.flatMap g := by
  induction l generalizing s with
  | nil => simp
  | cons a r ih => rw [List.foldl_cons, ih, h, List.flatMap_cons, List.append_assoc]

/-! ### Inspect, Walk -/
def vEv (stop : List UInt8) : Vis (List ByteArray) := { node := fun _ n s => (s ++ [n.kind], !(n.kind.toList == stop)), fin := fun _ s => s ++ [⟨#[]⟩] }
theorem wk_ev (stop : List UInt8) (f : Nat) : ∀ d n s, wk (vEv stop) f d n s = s ++ evs stop f n := by
  induction f with
  | zero => intro d n s; simp [wk, evs]
  | succ f ih =>
    intro d n s
    show (if (!(n.kind.toList == stop)) = true then (subs n).foldl (fun s c => wk (vEv stop) f (d + 1) c s) (s ++ [n.kind]) ++ [⟨#[]⟩] else s ++ [n.kind]) = _
    rw [foldl_app (fun s c => wk (vEv stop) f (d + 1) c s) (evs stop f) (fun s c => ih (d + 1) c s) (subs n) (s ++ [n.kind])]
    unfold evs
    by_cases hs : (n.kind.toList == stop) = true <;> simp [hs]
def vVis (stop : List UInt8) : Vis (List (ByteArray × Nat)) := { node := fun d n s => (s ++ [(n.kind, d)], !(n.kind.toList == stop)), fin := fun d s => s ++ [(⟨#[]⟩, d)] }
theorem wk_vis (stop : List UInt8) (f : Nat) : ∀ d n s, wk (vVis stop) f d n s = s ++ visits stop f d n := by
  induction f with
  | zero => intro d n s; simp [wk, visits]
  | succ f ih =>
    intro d n s
    show (if (!(n.kind.toList == stop)) = true then (subs n).foldl (fun s c => wk (vVis stop) f (d + 1) c s) (s ++ [(n.kind, d)]) ++ [(⟨#[]⟩, d + 1)] else s ++ [(n.kind, d)]) = _
    rw [foldl_app (fun s c => wk (vVis stop) f (d + 1) c s) (visits stop f (d + 1)) (fun s c => ih (d + 1) c s) (subs n) (s ++ [(n.kind, d)])]
    unfold visits
    by_cases hs : (n.kind.toList == stop) = true <;> simp [hs]

/-! ### Preorder -/
/-- A step of a loop over the nodes that ends when it has so many. -/
def push (most : Int) (s : List ByteArray × Bool) (k : ByteArray) : List ByteArray × Bool := if s.2 then (s.1 ++ [k], decide (((s.1.length + 1 : Nat) : Int) < most)) else s
def vYield (most : Int) : Vis (List ByteArray × Bool) := { node := fun _ n s => (push most s n.kind, (push most s n.kind).2), fin := fun _ s => s }
theorem push_off (most : Int) (l : List ByteArray) (s : List ByteArray × Bool) (h : s.2 = false) : l.foldl (push most) s = s := by
  induction l with
  | nil => rfl
  | cons a r ih => rw [List.foldl_cons, push, h]; simpa using ih
theorem foldl_flatMap {α β γ : Type} (F : γ → β → γ) (g : α → List β) (l : List α) (s : γ) : (l.flatMap g).foldl F s = l.foldl (fun s a => (g a).foldl F s) s := by
  induction l generalizing s with
  | nil => rfl
  | cons a r ih => rw [List.flatMap_cons, List.foldl_append, ih, List.foldl_cons]
theorem wk_yield (most : Int) (f : Nat) : ∀ d n s, wk (vYield most) f d n s = (kinds f n).foldl (push most) s := by
  induction f with
  | zero => intro d n s; rfl
  | succ f ih =>
    intro d n s
    have key : ∀ (l : List N) (s : List ByteArray × Bool), l.foldl (fun s c => wk (vYield most) f (d + 1) c s) s = l.foldl (fun s a => (kinds f a).foldl (push most) s) s := by
      intro l
      induction l with
      | nil => intro s; rfl
      | cons a r ihr => intro s; rw [List.foldl_cons, List.foldl_cons, ihr, ih]
    show (if (push most s n.kind).2 = true then (subs n).foldl (fun s c => wk (vYield most) f (d + 1) c s) (push most s n.kind) else push most s n.kind) = ((subs n).flatMap (kinds f)).foldl (push most) (push most s n.kind)
    cases hs : (push most s n.kind).2 with
    | true => rw [if_pos rfl, foldl_flatMap]; exact key _ _
    | false => rw [if_neg (by simp), push_off _ _ _ hs]
theorem push_take (most : Int) (l : List ByteArray) : ∀ out : List ByteArray, out ≠ [] → (out.length : Int) < most → (l.foldl (push most) (out, true)).1 = out ++ l.take (most.toNat - out.length) := by
  induction l with
  | nil => intro out _ _; simp
  | cons a r ih =>
    intro out h0 h
    rw [List.foldl_cons, push]
    simp only [if_true]
    by_cases h1 : ((out.length + 1 : Nat) : Int) < most
    · rw [decide_eq_true h1, ih (out ++ [a]) (by simp) (by simpa using h1)]
      rw [show most.toNat - out.length = (most.toNat - (out ++ [a]).length) + 1 by simp; omega, List.take_succ_cons]
      simp
    · rw [decide_eq_false h1, push_off _ _ _ rfl]
      rw [show most.toNat - out.length = 1 by omega]
      simp
/-- The number of nodes that a loop takes. -/
def least (most : Int) (n : Nat) : Nat := max 1 (min most.toNat n)
theorem push_all (most : Int) (a : ByteArray) (r : List ByteArray) : ((a :: r).foldl (push most) ([], true)).1 = (a :: r).take (least most (r.length + 1)) := by
  rw [List.foldl_cons, push]
  simp only [if_true, List.nil_append, List.length_nil]
  by_cases h : ((0 + 1 : Nat) : Int) < most
  · rw [decide_eq_true h, push_take most r [a] (by simp) (by simpa using h)]
    have hm : 1 < most.toNat := by omega
    unfold least
    by_cases h2 : most.toNat ≤ r.length + 1
    · rw [show max 1 (min most.toNat (r.length + 1)) = (most.toNat - 1) + 1 by omega, List.take_succ_cons]
      simp
    · rw [show max 1 (min most.toNat (r.length + 1)) = r.length + 1 by omega, List.take_succ_cons, List.take_of_length_le (by simp; omega), List.take_of_length_le (by simp)]
      rfl
  · rw [decide_eq_false h, push_off _ _ _ rfl]
    unfold least
    rw [show max 1 (min most.toNat (r.length + 1)) = 1 by omega]
    simp
theorem kinds_cons (f : Nat) (n : N) : kinds (f + 1) n = n.kind :: (subs n).flatMap (kinds f) := rfl

/-! ### NumFields -/
def vNum : Vis (List Nat) := { node := fun _ n s => (s ++ (if isK n [102, 105, 101, 108, 100, 115] then [(n.kids.map fieldN).sum] else []), true), fin := fun _ s => s }
theorem wk_num (f : Nat) : ∀ d n s, wk vNum f d n s = s ++ nums f n := by
  induction f with
  | zero => intro d n s; simp [wk, nums]
  | succ f ih =>
    intro d n s
    show (subs n).foldl (fun s c => wk vNum f (d + 1) c s) (s ++ (if isK n [102, 105, 101, 108, 100, 115] then [(n.kids.map fieldN).sum] else [])) = _
    rw [foldl_app (fun s c => wk vNum f (d + 1) c s) (nums f) (fun s c => ih (d + 1) c s), List.append_assoc]
    rfl

/-! ### PreorderStack -/
def vStack (stop : List UInt8) : Vis (List N × List (List ByteArray)) :=
  { node := fun _ n s => ((if n.kind.toList == stop then s.1 else s.1 ++ [n], s.2 ++ [s.1.map N.kind ++ [n.kind]]), !(n.kind.toList == stop)), fin := fun _ s => (s.1.dropLast, s.2) }
theorem wk_stack (stop : List UInt8) (f : Nat) : ∀ d n (s : List N × List (List ByteArray)), wk (vStack stop) f d n s = (s.1, s.2 ++ stacks stop f (s.1.map N.kind) n) := by
  induction f with
  | zero => intro d n s; simp [wk, stacks]
  | succ f ih =>
    intro d n s
    by_cases hs : (n.kind.toList == stop) = true
    · have hs' : n.kind.toList = stop := beq_iff_eq.1 hs
      simp [wk, stacks, vStack, hs']
    · have key : ∀ (l : List N) (st : List N) (o : List (List ByteArray)), l.foldl (fun s c => wk (vStack stop) f (d + 1) c s) (st, o) = (st, o ++ l.flatMap (stacks stop f (st.map N.kind))) := by
        intro l
        induction l with
        | nil => intro st o; simp
        | cons a r ihr => intro st o; rw [List.foldl_cons, ih, ihr]; simp
      have hs' : (n.kind.toList == stop) = false := by simpa using hs
      have e1 : wk (vStack stop) (f + 1) d n s = (((subs n).foldl (fun s c => wk (vStack stop) f (d + 1) c s) (s.1 ++ [n], s.2 ++ [s.1.map N.kind ++ [n.kind]])).1.dropLast, ((subs n).foldl (fun s c => wk (vStack stop) f (d + 1) c s) (s.1 ++ [n], s.2 ++ [s.1.map N.kind ++ [n.kind]])).2) := by
        show (if (!(n.kind.toList == stop)) = true then _ else _) = _
        rw [hs']
        simp only [Bool.not_false, if_true]
        simp only [vStack, hs', Bool.false_eq_true, if_false]
      rw [e1, key]
      simp [stacks, hs']

/-! ### How many -/
theorem kinds_pos {f : Nat} {n : N} (h : n.size ≤ f) : ∃ a r, kinds f n = a :: r := by
  cases f with
  | zero => have := N.size_eq n; omega
  | succ f => exact ⟨_, _, rfl⟩
def tot : List N → Nat
  | [] => 0
  | n :: r => 2 * n.size - 1 + tot r
theorem tot_app (a b : List N) : tot (a ++ b) = tot a + tot b := by
  induction a with
  | nil => simp [tot]
  | cons x r ih => simp only [List.cons_append, tot, ih]; omega
theorem tot_le (a : List N) : tot a ≤ 2 * N.sizes a ∧ (a ≠ [] → tot a + 1 ≤ 2 * N.sizes a) := by
  induction a with
  | nil => exact ⟨Nat.le_refl _, fun h => absurd rfl h⟩
  | cons x r ih =>
    have := N.size_eq x
    have h1 : tot (x :: r) + 1 ≤ 2 * N.sizes (x :: r) := by simp only [tot, N.sizes_cons]; omega
    exact ⟨by omega, fun _ => h1⟩
theorem tot_flat (x : N) : tot (flat x) ≤ 2 * x.size - 1 := by
  have h0 := N.size_eq x
  unfold flat
  split
  · have := (tot_le x.kids).1; omega
  · split <;> simp [tot]
theorem tot_here (x : N) : tot (here x) ≤ 2 * x.size - 1 := by
  unfold here
  split <;> simp [tot]
theorem tot_flatMap (l : List N) : tot (l.flatMap flat) ≤ 2 * N.sizes l := by
  induction l with
  | nil => simp [tot]
  | cons x r ih => rw [List.flatMap_cons, tot_app, N.sizes_cons]; have := tot_flat x; omega
theorem Rep.tot_below {C : Nat → Nat → Value → Prop} {n : N} {t b : Nat} (h : Rep C n (Nd t b)) : tot (subs n) + 2 ≤ 2 * n.size := by
  have hs := N.size_eq n
  have plain : (h : subs n = n.kids.flatMap flat) → tot (subs n) + 2 ≤ 2 * n.size := by
    intro h
    rw [h]
    have := tot_flatMap n.kids
    omega
  have i1 : ∀ t : ByteArray, (identN t).size = 1 := fun t => by simp [identN, N.size, N.sizes]
  have l1 : ∀ t : ByteArray, (litN t).size = 1 := fun t => by simp [litN, N.size, N.sizes]
  cases h with
  | name _ _ hk h0 => exact plain (below_plain hk rfl)
  | literal _ _ hk h0 => exact plain (below_plain hk rfl)
  | star _ _ _ _ hk => exact plain (below_plain hk rfl)
  | array _ _ _ _ _ _ hk => exact plain (below_plain hk rfl)
  | map _ _ _ _ _ _ hk => exact plain (below_plain hk rfl)
  | chan _ _ _ _ _ hk => exact plain (below_plain hk rfl)
  | signature _ _ _ _ _ _ _ hk => exact plain (below_plain hk rfl)
  | struct _ _ _ _ hk => exact plain (below_plain hk rfl)
  | interface _ _ _ _ hk => exact plain (below_plain hk rfl)
  | fields _ _ _ _ hk => exact plain (below_plain hk rfl)
  | body _ _ hk => exact plain (below_plain hk rfl)
  | gen _ _ _ _ _ _ hk => exact plain (below_gen hk)
  | value _ _ _ _ _ _ _ _ _ _ hk => exact plain (below_plain hk rfl)
  | select _ _ x vx s hk h0 =>
    rw [below_select hk h0]
    simp only [h0, N.sizes, tot, i1] at hs ⊢
    have := N.size_eq x
    omega
  | type _ _ x vx s d hk h0 =>
    rw [below_type (hk.imp And.left And.left) h0]
    simp only [h0, N.sizes, tot, i1] at hs ⊢
    have := N.size_eq x
    omega
  | path _ _ x vx px t hk h0 =>
    rw [below_path hk h0]
    simp only [h0, N.sizes, tot, l1, tot_app] at hs ⊢
    have := N.size_eq x
    have := tot_here x
    omega
  | func _ _ x y z vx px s t vz pz hk h0 =>
    rw [below_func hk h0]
    simp only [h0, N.sizes, tot, i1, tot_app] at hs ⊢
    have := N.size_eq x
    have := N.size_eq y
    have := N.size_eq z
    have := tot_here x
    have := tot_flat y
    have := tot_flat z
    omega
  | field _ _ x r vx V vl vt pt hk h0 =>
    rw [below_field hk h0]
    simp only [h0, N.sizes, tot, tot_app] at hs ⊢
    have := N.size_eq x
    have := (tot_le r).1
    split
    · simp only [tot]; omega
    · simp only [tot, l1]; omega
theorem kinds_le (f : Nat) : ∀ {C : Nat → Nat → Value → Prop} {n : N} {t b : Nat}, Rep C n (Nd t b) → (kinds f n).length + 1 ≤ 2 * n.size := by
  induction f with
  | zero => intro C n t b h; have := N.size_eq n; simp [kinds]; omega
  | succ f ih =>
    intro C n t b h
    have hb := h.tot_below
    have hr := h.below_rep
    have key : ∀ l : List N, (∀ c ∈ l, Sub C n c) → (l.flatMap (kinds f)).length ≤ tot l := by
      intro l
      induction l with
      | nil => intro _; simp [tot]
      | cons x r ihr =>
        intro hl
        obtain ⟨_, t', b', hx⟩ := hl x (by simp)
        have h1 := ih hx
        have h2 := ihr (fun c hc => hl c (by simp [hc]))
        rw [List.flatMap_cons, List.length_append]
        simp only [tot]
        omega
    have := key (subs n) hr
    rw [kinds_cons]
    simp only [List.length_cons]
    omega
theorem cost_kinds (f : Nat) : ∀ n, cost f n = 2 * (kinds f n).length := by
  induction f with
  | zero => intro n; rfl
  | succ f ih =>
    intro n
    have key : ∀ l : List N, (l.map (cost f)).sum = 2 * (l.flatMap (kinds f)).length := by
      intro l
      induction l with
      | nil => rfl
      | cons x r ihr => simp only [List.map_cons, List.sum_cons, List.flatMap_cons, List.length_append, ih, ihr]; omega
    simp only [cost, kinds, List.length_cons, key]
    omega

/-! ### The calls of Inspect pair -/
/-- How many more nodes than ends. -/
def opn : List ByteArray → Int
  | [] => 0
  | k :: r => (if k.toList.isEmpty then -1 else 1) + opn r
theorem opn_app (a b : List ByteArray) : opn (a ++ b) = opn a + opn b := by
  induction a with
  | nil => simp [opn]
  | cons x r ih => simp only [List.cons_append, opn, ih]; omega
/-- A row that never goes below where it began, and ends there. -/
def Bal (l : List ByteArray) : Prop := opn l = 0 ∧ ∀ i, 0 ≤ opn (l.take i)
theorem Bal.nil : Bal [] := ⟨rfl, fun i => by simp [opn]⟩
theorem Bal.app {a b : List ByteArray} (h : Bal a) (k : Bal b) : Bal (a ++ b) := by
  refine ⟨by rw [opn_app, h.1, k.1]; rfl, fun i => ?_⟩
  rw [List.take_append, opn_app]
  by_cases hi : i ≤ a.length
  · rw [Nat.sub_eq_zero_of_le hi, List.take_zero]; have := h.2 i; simp [opn]; omega
  · rw [List.take_of_length_le (by omega), h.1]; have := k.2 (i - a.length); omega
theorem Bal.node {k : ByteArray} {l : List ByteArray} (h : Bal l) (hk : k.toList.isEmpty = false) : opn (k :: l ++ [(⟨#[]⟩ : ByteArray)]) = 0 ∧ ∀ i, 0 < i → i < (k :: l ++ [(⟨#[]⟩ : ByteArray)]).length → 1 ≤ opn ((k :: l ++ [(⟨#[]⟩ : ByteArray)]).take i) := by
  have he : (⟨#[]⟩ : ByteArray).toList.isEmpty = true := by rw [ByteArray.toList_eq]; rfl
  refine ⟨?_, fun i h0 hi => ?_⟩
  · rw [opn_app]; simp [opn, hk, h.1]
  · obtain ⟨j, rfl⟩ : ∃ j, i = j + 1 := ⟨i - 1, by omega⟩
    simp only [List.cons_append, List.length_cons, List.length_append, List.length_nil] at hi
    rw [List.cons_append, List.take_succ_cons, List.take_append_of_le_length (by omega)]
    simp only [opn, hk, Bool.false_eq_true, if_false]
    have := h.2 j
    omega
theorem Bal.of_node {k : ByteArray} {l : List ByteArray} (h : Bal l) (hk : k.toList.isEmpty = false) : Bal (k :: l ++ [(⟨#[]⟩ : ByteArray)]) := by
  obtain ⟨h1, h2⟩ := h.node hk
  refine ⟨h1, fun i => ?_⟩
  by_cases h0 : i = 0
  · subst h0; simp [opn]
  by_cases hi : i < (k :: l ++ [(⟨#[]⟩ : ByteArray)]).length
  · have := h2 i (by omega) hi; omega
  · rw [List.take_of_length_le (by omega), h1]; exact Int.le_refl _
theorem kind_some {C : Nat → Nat → Value → Prop} {n : N} {t b : Nat} (h : Rep C n (Nd t b)) : n.kind.toList.isEmpty = false := by
  cases h with
  | name _ _ hk => rw [isK_eq hk]; rfl
  | literal _ _ hk => rw [isK_eq hk]; rfl
  | select _ _ _ _ _ hk => rw [isK_eq hk]; rfl
  | star _ _ _ _ hk => rw [isK_eq hk]; rfl
  | array _ _ _ _ _ _ hk => rw [isK_eq hk]; rfl
  | map _ _ _ _ _ _ hk => rw [isK_eq hk]; rfl
  | chan _ _ _ _ _ hk => rw [isK_eq hk]; rfl
  | signature _ _ _ _ _ _ _ hk => rw [isK_eq hk]; rfl
  | struct _ _ _ _ hk => rw [isK_eq hk]; rfl
  | interface _ _ _ _ hk => rw [isK_eq hk]; rfl
  | fields _ _ _ _ hk => rw [isK_eq hk]; rfl
  | field _ _ _ _ _ _ _ _ _ hk => rw [isK_eq hk]; rfl
  | path _ _ _ _ _ _ hk => rw [isK_eq hk]; rfl
  | value _ _ _ _ _ _ _ _ _ _ hk => rw [isK_eq hk]; rfl
  | type _ _ _ _ _ _ hk => rcases hk with ⟨hk, _⟩ | ⟨hk, _⟩ <;> rw [isK_eq hk] <;> rfl
  | gen _ _ _ _ _ _ hk => rcases tokOf_kind hk with h | h | h | h <;> rw [isK_eq h] <;> rfl
  | func _ _ _ _ _ _ _ _ _ _ _ hk => rw [isK_eq hk]; rfl
  | body _ _ hk => rw [isK_eq hk]; rfl
theorem evs_cons {f : Nat} {n : N} (h : n.kind.toList.isEmpty = false) : evs [] (f + 1) n = n.kind :: (subs n).flatMap (evs [] f) ++ [⟨#[]⟩] := by
  have h1 : (n.kind.toList == []) = false := by
    cases hk : n.kind.toList with
    | nil => rw [hk] at h; simp at h
    | cons a r => rfl
  simp [evs, h1]
theorem evs_bal (f : Nat) : ∀ {C : Nat → Nat → Value → Prop} {n : N} {t b : Nat}, Rep C n (Nd t b) → Bal ((subs n).flatMap (evs [] f)) ∧ Bal (evs [] f n) := by
  induction f with
  | zero =>
    intro C n t b h
    have : (subs n).flatMap (evs [] 0) = [] := by simp [evs]
    rw [this]
    exact ⟨.nil, .nil⟩
  | succ f ih =>
    intro C n t b h
    have hr := h.below_rep
    have key : ∀ g : Nat, (∀ {C : Nat → Nat → Value → Prop} {n : N} {t b : Nat}, Rep C n (Nd t b) → Bal (evs [] g n)) → ∀ l : List N, (∀ c ∈ l, Sub C n c) → Bal (l.flatMap (evs [] g)) := by
      intro g hg l
      induction l with
      | nil => intro _; exact .nil
      | cons x r ihr =>
        intro hl
        obtain ⟨_, t', b', hx⟩ := hl x (by simp)
        rw [List.flatMap_cons]
        exact (hg hx).app (ihr (fun c hc => hl c (by simp [hc])))
    have one : ∀ {C : Nat → Nat → Value → Prop} {n : N} {t b : Nat}, Rep C n (Nd t b) → Bal (evs [] (f + 1) n) := by
      intro C n t b h
      rw [evs_cons (kind_some h)]
      exact (ih h).1.of_node (kind_some h)
    exact ⟨key (f + 1) one (subs n) hr, one h⟩
theorem evs_len (f : Nat) : ∀ {C : Nat → Nat → Value → Prop} {n : N} {t b : Nat}, Rep C n (Nd t b) → (evs [] f n).length = 2 * (kinds f n).length := by
  induction f with
  | zero => intro C n t b h; rfl
  | succ f ih =>
    intro C n t b h
    have key : ∀ l : List N, (∀ c ∈ l, Sub C n c) → (l.flatMap (evs [] f)).length = 2 * (l.flatMap (kinds f)).length := by
      intro l
      induction l with
      | nil => intro _; rfl
      | cons x r ihr =>
        intro hl
        obtain ⟨_, t', b', hx⟩ := hl x (by simp)
        rw [List.flatMap_cons, List.flatMap_cons, List.length_append, List.length_append, ih hx, ihr (fun c hc => hl c (by simp [hc]))]
        omega
    rw [evs_cons (kind_some h), kinds_cons]
    simp only [List.length_append, List.length_cons, List.length_nil, key _ h.below_rep]
    omega
/-- What the law of the pairs asks. -/
theorem evs_pair (f : Nat) {C : Nat → Nat → Value → Prop} {n : N} {t b : Nat} (h : Rep C n (Nd t b)) (hf : n.size ≤ f) :
    opn (evs [] f n) = 0 ∧ 0 < (evs [] f n).length ∧ ∀ i, 0 < i → i < (evs [] f n).length → 1 ≤ opn ((evs [] f n).take i) := by
  cases f with
  | zero => have := N.size_eq n; omega
  | succ f =>
    rw [evs_cons (kind_some h)]
    obtain ⟨h1, h2⟩ := (evs_bal f h).1.node (kind_some h)
    exact ⟨h1, by simp, h2⟩

/-! ### The stacks are deep -/
/-- A row that comes behind another: a node of one that is ahead. -/
def Next (p r : List ByteArray) : Prop := 2 ≤ r.length ∧ r.length ≤ p.length + 1 ∧ r.dropLast = p.take (r.length - 1)
def Chain : List (List ByteArray) → Prop
  | [] => True
  | [_] => True
  | p :: r :: t => Next p r ∧ Chain (r :: t)
theorem Chain.app {a b : List (List ByteArray)} (h : Chain a) (k : Chain b) (hj : ∀ p r, a.getLast? = some p → b.head? = some r → Next p r) : Chain (a ++ b) := by
  induction a with
  | nil => exact k
  | cons x t ih =>
    cases t with
    | nil =>
      cases b with
      | nil => trivial
      | cons y u => exact ⟨hj x y rfl rfl, k⟩
    | cons y u =>
      refine ⟨h.1, ih h.2 fun p r hp hr => hj p r (by simpa using hp) hr⟩
/-- The rows of a tree: each begins with what is above, the first is that with its kind. -/
def Rows' (up : List ByteArray) (l : List (List ByteArray)) : Prop := Chain l ∧ ∀ r ∈ l, up <+: r ∧ up.length < r.length
theorem flat_rows (up : List ByteArray) (S : N → List (List ByteArray)) (hup : up ≠ []) : ∀ l : List N, (∀ c ∈ l, Rows' up (S c) ∧ ∀ r, (S c).head? = some r → r = up ++ [c.kind]) → Rows' up (l.flatMap S) ∧ ∀ r, (l.flatMap S).head? = some r → ∃ k, r = up ++ [k] := by
  intro l
  induction l with
  | nil => intro _; exact ⟨⟨trivial, fun r hr => by simp at hr⟩, fun r hr => by simp at hr⟩
  | cons c l ih =>
    intro h
    obtain ⟨⟨hc1, hc2⟩, hc3⟩ := h c (by simp)
    obtain ⟨⟨hl1, hl2⟩, hl3⟩ := ih fun x hx => h x (by simp [hx])
    rw [List.flatMap_cons]
    refine ⟨⟨hc1.app hl1 ?_, ?_⟩, ?_⟩
    · intro p r hp hr
      obtain ⟨k, rfl⟩ := hl3 r hr
      obtain ⟨hpre, hlen⟩ := hc2 p (List.mem_of_getLast? hp)
      have hu : 0 < up.length := List.length_pos_iff.2 hup
      refine ⟨by simp; omega, by simp; omega, ?_⟩
      simp only [List.dropLast_concat, List.length_append, List.length_cons, List.length_nil, Nat.add_sub_cancel]
      exact List.prefix_iff_eq_take.1 hpre
    · intro r hr
      rcases List.mem_append.1 hr with hr | hr
      · exact hc2 r hr
      · exact hl2 r hr
    · intro r hr
      cases hs : S c with
      | nil => rw [hs] at hr; exact hl3 r (by simpa using hr)
      | cons y u => rw [hs] at hr; simp at hr; subst hr; exact ⟨_, hc3 y (by rw [hs]; rfl)⟩
theorem stacks_rows (stop : List UInt8) (f : Nat) : ∀ (up : List ByteArray) (n : N), Rows' up (stacks stop f up n) ∧ ∀ r, (stacks stop f up n).head? = some r → r = up ++ [n.kind] := by
  induction f with
  | zero => intro up n; exact ⟨⟨trivial, fun r hr => by simp [stacks] at hr⟩, fun r hr => by simp [stacks] at hr⟩
  | succ f ih =>
    intro up n
    refine ⟨?_, fun r hr => by simp [stacks] at hr; exact hr.symm⟩
    simp only [stacks]
    cases hs : n.kind.toList == stop with
    | true => exact ⟨trivial, fun r hr => by simp at hr; subst hr; exact ⟨List.prefix_append _ _, by simp⟩⟩
    | false =>
      simp only [Bool.false_eq_true, if_false]
      obtain ⟨⟨h1, h2⟩, h3⟩ := flat_rows (up ++ [n.kind]) (stacks stop f (up ++ [n.kind])) (by simp) (subs n) fun c _ => ih _ c
      refine ⟨Chain.app (a := [up ++ [n.kind]]) trivial h1 ?_, ?_⟩
      · intro p r hp hr
        simp at hp
        subst hp
        obtain ⟨k, rfl⟩ := h3 r hr
        exact ⟨by simp, by simp, by simp [List.take_of_length_le]⟩
      · intro r hr
        rcases List.mem_cons.1 hr with rfl | hr
        · exact ⟨List.prefix_append _ _, by simp⟩
        · obtain ⟨h4, h5⟩ := h2 r hr
          exact ⟨(List.prefix_append _ _).trans h4, by simp at h5; omega⟩
theorem Chain.at {l : List (List ByteArray)} (h : Chain l) {i : Nat} {p r : List ByteArray} (hp : l[i]? = some p) (hr : l[i + 1]? = some r) : Next p r := by
  induction l generalizing i with
  | nil => simp at hp
  | cons x t ih =>
    cases t with
    | nil => simp at hr
    | cons y u =>
      cases i with
      | zero => simp at hp hr; subst hp; subst hr; exact h.1
      | succ i => exact ih h.2 (by simpa using hp) (by simpa using hr)
theorem stacks_last (f : Nat) : ∀ {C : Nat → Nat → Value → Prop} {n : N} {t b : Nat} (up : List ByteArray), Rep C n (Nd t b) → (stacks [] f up n).map List.getLast? = (kinds f n).map some := by
  induction f with
  | zero => intro C n t b up h; rfl
  | succ f ih =>
    intro C n t b up h
    have h1 : (n.kind.toList == []) = false := by
      have := kind_some h
      cases hk : n.kind.toList with
      | nil => rw [hk] at this; simp at this
      | cons a r => rfl
    have key : ∀ (u : List ByteArray) (l : List N), (∀ c ∈ l, Sub C n c) → (l.flatMap (stacks [] f u)).map List.getLast? = (l.flatMap (kinds f)).map some := by
      intro u l
      induction l with
      | nil => intro _; rfl
      | cons x r ihr =>
        intro hl
        obtain ⟨_, t', b', hx⟩ := hl x (by simp)
        rw [List.flatMap_cons, List.flatMap_cons, List.map_append, List.map_append, ih u hx, ihr fun c hc => hl c (by simp [hc])]
    simp only [stacks, h1, kinds, Bool.false_eq_true, if_false, List.map_cons, List.getLast?_concat, key _ _ h.below_rep]
end Go.Proofs.YtpifflakohlglaaGreatFmt

