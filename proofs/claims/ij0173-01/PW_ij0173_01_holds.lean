import PyProof.Rows.All
import PyProof.SliceList
import PyProof.CallType
import PyProof.CallStr
import PyProof.EnumFor
import PyProof.EnumStmt
import PyProof.EnumMake
import PyProof.NeKinds
import PyProof.ListNew
import PyProof.Rows.StrTemp
import PyProof.StrLawsReplace
import PyProof.Rows.SeqMore
import PyProof.StrReplace2
import Wide.BytesFacts
import Open.Split
import KE.KBytesWalk
import KE.KIsBytes
import KE.KItemsList
import KE.KxPercent
import KE.KSortTup
import Wide.FinOn
import OpenK.AllK
import Wide.All
import Lean
import PySem.Challenge.RW_ij0173_01
set_option Elab.async false
set_option maxRecDepth 100000
set_option maxHeartbeats 1000000
set_option linter.unusedVariables false
set_option linter.unusedSectionVars false
/- A0 -/
/- eliminators that take several existentials, or several conjuncts, at one go: smaller proofs than nested cases -/
namespace Mine
theorem ex1 {α0 : Sort _} {P : α0 → Prop} {g : Prop} (e : ∃ x0, P x0) (k : ∀ x0, P x0 → g) : g := e.elim k
theorem ex2 {α0 : Sort _} {α1 : Sort _} {P : α0 → α1 → Prop} {g : Prop} (e : ∃ x0, ∃ x1, P x0 x1) (k : ∀ x0 x1, P x0 x1 → g) : g := e.elim fun x e => ex1 e (k x)
theorem ex3 {α0 : Sort _} {α1 : Sort _} {α2 : Sort _} {P : α0 → α1 → α2 → Prop} {g : Prop} (e : ∃ x0, ∃ x1, ∃ x2, P x0 x1 x2) (k : ∀ x0 x1 x2, P x0 x1 x2 → g) : g := e.elim fun x e => ex2 e (k x)
theorem ex4 {α0 : Sort _} {α1 : Sort _} {α2 : Sort _} {α3 : Sort _} {P : α0 → α1 → α2 → α3 → Prop} {g : Prop} (e : ∃ x0, ∃ x1, ∃ x2, ∃ x3, P x0 x1 x2 x3) (k : ∀ x0 x1 x2 x3, P x0 x1 x2 x3 → g) : g := e.elim fun x e => ex3 e (k x)
theorem ex5 {α0 : Sort _} {α1 : Sort _} {α2 : Sort _} {α3 : Sort _} {α4 : Sort _} {P : α0 → α1 → α2 → α3 → α4 → Prop} {g : Prop} (e : ∃ x0, ∃ x1, ∃ x2, ∃ x3, ∃ x4, P x0 x1 x2 x3 x4) (k : ∀ x0 x1 x2 x3 x4, P x0 x1 x2 x3 x4 → g) : g := e.elim fun x e => ex4 e (k x)
theorem ex6 {α0 : Sort _} {α1 : Sort _} {α2 : Sort _} {α3 : Sort _} {α4 : Sort _} {α5 : Sort _} {P : α0 → α1 → α2 → α3 → α4 → α5 → Prop} {g : Prop} (e : ∃ x0, ∃ x1, ∃ x2, ∃ x3, ∃ x4, ∃ x5, P x0 x1 x2 x3 x4 x5) (k : ∀ x0 x1 x2 x3 x4 x5, P x0 x1 x2 x3 x4 x5 → g) : g := e.elim fun x e => ex5 e (k x)
theorem ex7 {α0 : Sort _} {α1 : Sort _} {α2 : Sort _} {α3 : Sort _} {α4 : Sort _} {α5 : Sort _} {α6 : Sort _} {P : α0 → α1 → α2 → α3 → α4 → α5 → α6 → Prop} {g : Prop} (e : ∃ x0, ∃ x1, ∃ x2, ∃ x3, ∃ x4, ∃ x5, ∃ x6, P x0 x1 x2 x3 x4 x5 x6) (k : ∀ x0 x1 x2 x3 x4 x5 x6, P x0 x1 x2 x3 x4 x5 x6 → g) : g := e.elim fun x e => ex6 e (k x)
theorem ex8 {α0 : Sort _} {α1 : Sort _} {α2 : Sort _} {α3 : Sort _} {α4 : Sort _} {α5 : Sort _} {α6 : Sort _} {α7 : Sort _} {P : α0 → α1 → α2 → α3 → α4 → α5 → α6 → α7 → Prop} {g : Prop} (e : ∃ x0, ∃ x1, ∃ x2, ∃ x3, ∃ x4, ∃ x5, ∃ x6, ∃ x7, P x0 x1 x2 x3 x4 x5 x6 x7) (k : ∀ x0 x1 x2 x3 x4 x5 x6 x7, P x0 x1 x2 x3 x4 x5 x6 x7 → g) : g := e.elim fun x e => ex7 e (k x)
theorem an2 {p0 p1 g : Prop} (e : p0 ∧ p1) (k : p0 → p1 → g) : g := k e.1 e.2
theorem an3 {p0 p1 p2 g : Prop} (e : p0 ∧ p1 ∧ p2) (k : p0 → p1 → p2 → g) : g := an2 e.2 (k e.1)
theorem an4 {p0 p1 p2 p3 g : Prop} (e : p0 ∧ p1 ∧ p2 ∧ p3) (k : p0 → p1 → p2 → p3 → g) : g := an3 e.2 (k e.1)
theorem an5 {p0 p1 p2 p3 p4 g : Prop} (e : p0 ∧ p1 ∧ p2 ∧ p3 ∧ p4) (k : p0 → p1 → p2 → p3 → p4 → g) : g := an4 e.2 (k e.1)
theorem an6 {p0 p1 p2 p3 p4 p5 g : Prop} (e : p0 ∧ p1 ∧ p2 ∧ p3 ∧ p4 ∧ p5) (k : p0 → p1 → p2 → p3 → p4 → p5 → g) : g := an5 e.2 (k e.1)
theorem an7 {p0 p1 p2 p3 p4 p5 p6 g : Prop} (e : p0 ∧ p1 ∧ p2 ∧ p3 ∧ p4 ∧ p5 ∧ p6) (k : p0 → p1 → p2 → p3 → p4 → p5 → p6 → g) : g := an6 e.2 (k e.1)
theorem an8 {p0 p1 p2 p3 p4 p5 p6 p7 g : Prop} (e : p0 ∧ p1 ∧ p2 ∧ p3 ∧ p4 ∧ p5 ∧ p6 ∧ p7) (k : p0 → p1 → p2 → p3 → p4 → p5 → p6 → p7 → g) : g := an7 e.2 (k e.1)
theorem an9 {p0 p1 p2 p3 p4 p5 p6 p7 p8 g : Prop} (e : p0 ∧ p1 ∧ p2 ∧ p3 ∧ p4 ∧ p5 ∧ p6 ∧ p7 ∧ p8) (k : p0 → p1 → p2 → p3 → p4 → p5 → p6 → p7 → p8 → g) : g := an8 e.2 (k e.1)
open Lean in
/- a pattern that is a bare name -/
def bareOf (p : Syntax) : Option Syntax :=
  let q := p[0][0][0]
  if p[0][0].getNumArgs == 1 && p[1].getNumArgs == 0 && q.getKind == `Lean.Parser.Tactic.rcasesPat.one && q[0].isIdent && q[0].getId != `rfl then some q[0] else none
open Lean in
def tOb (ps : Array Syntax) (h : Ident) : MacroM (TSyntax `tactic) :=
  let p : Syntax := if ps.size == 1 then ps[0]! else mkNullNode
  if ps.size == 1 && p[0][0][0].getKind != `Lean.Parser.Tactic.rcasesPat.tuple then `(tactic| rcases $h:ident with $(⟨p⟩):rcasesPatLo)
  else
    let ps : Array (TSyntax `Lean.Parser.Tactic.rcasesPatLo) := if ps.size == 1 then p[0][0][0][1].getSepArgs.map (⟨·⟩) else ps.map (⟨·⟩)
    `(tactic| obtain ⟨$ps,*⟩ := $h:ident)
open Lean in
def tOne (ps : Array Syntax) (i : Nat) (xs : Array Ident) (as : Array (TSyntax `tactic)) : MacroM (Array Ident × Array (TSyntax `tactic)) :=
  match if ps.size == 1 then bareOf ps[0]! else none with
  | some y => return (xs.push ⟨y⟩, as)
  | none => do
    let u := mkIdent (Name.mkSimple s!"q✝{i}")
    return (xs.push u, as.push (← tOb ps u))
open Lean in
def tBind (ps : List Syntax) (n : Nat) : MacroM (Array Ident × Array (TSyntax `tactic)) := do
  let (xs, as, _) ← (ps.take n).foldlM (fun (xs, as, i) p => do let (xs, as) ← tOne #[p] i xs as; return (xs, as, i - 1)) (#[], #[], n)
  if ps.length > n then tOne (ps.drop n).toArray 0 xs as else return (xs, as)
open Lean in
def tAlt (e : Term) (ps : List Syntax) (f : String) (c : Nat) : MacroM (TSyntax `Lean.Parser.Tactic.tacticSeq) := do
  let (xs, as) ← tBind ps c
  let f := mkIdent ((`Mine).str f)
  let r ← `(tactic| refine $f $e ?_)
  let i ← `(tactic| intro $[$xs:ident]*)
  let c ← if e.raw.isIdent then `(tactic| try clear $(⟨e.raw⟩):ident) else `(tactic| skip)
  let as := #[r, c, i] ++ as
  `(tacticSeq| $[$as];*)
open Lean in
def tAlts (e : Term) (ps : List Syntax) : MacroM (TSyntax `tactic) := do
  let n := ps.length
  if n < 2 then Macro.throwUnsupported
  let k := min (ps.takeWhile fun p => (bareOf p).isSome).length (min (n - 1) 8)
  let a ← (List.range k).mapM fun d => tAlt e ps s!"ex{k - d}" (k - d)
  let m := min n 9
  let b ← (List.range (m - 1)).mapM fun d => tAlt e ps s!"an{m - d}" (m - d - 1)
  let qs : Array (TSyntax `Lean.Parser.Tactic.rcasesPatLo) := (ps.map fun p => ⟨p⟩).toArray
  let as := (a ++ b ++ [← `(tacticSeq| rcases $e:term with ⟨$qs,*⟩)]).toArray
  `(tactic| first $[| $as]*)

end Mine

namespace Mine
open Lean in
local macro_rules
  | `(tactic| obtain ⟨$ps:rcasesPatLo,*⟩ := $e:term) => tAlts e (ps.getElems.toList.map (·.raw))

/- B1 -/
/- the thin layer: evaluation that only lets the heap grow; the state of a frame; statements -/
section
open PySem PySem.W PyProof.Rows PySem.Calls

/- room for n more frames -/
structure Room (A : Around) (n : Nat) : Prop where
  hh : A.handled = none
  hd : A.depth + n < 900
  hu : A.units + 16 * n < 9000
theorem Room.deeper {A : Around} {n : Nat} {env : Env} (R : Room A (n + 1)) : Room (A.deeper env) n :=
  ⟨R.hh, by have := R.hd; show A.depth + 1 + n < 900; lia, by have := R.hu; show A.units + 3 + 16 * n < 9000; lia⟩
theorem Room.le {A : Around} {n k : Nat} (R : Room A n) (h : k ≤ n) : Room A k :=
  ⟨R.hh, by have := R.hd; lia, by have := R.hu; lia⟩
theorem Room.in1 {A : Around} {n : Nat} (R : Room A (n + 1)) : Room A.in1 n :=
  ⟨R.hh, by have := R.hd; show A.depth + n < 900; lia, by have := R.hu; show A.units + 1 + 16 * n < 9000; lia⟩
theorem Room.depth {A : Around} {n : Nat} (R : Room A n) : A.depth < recursionLimit := by have := R.hd; show A.depth < 1000; lia
theorem Room.units {A : Around} {n : Nat} (R : Room A n) : A.units < cLine := by have := R.hu; show A.units < 9900; lia
theorem Room.mark {A : Around} {n : Nat} (R : Room A n) : Room (A.mark none) n := ⟨R.hh, R.hd, R.hu⟩
theorem mark_none (A : Around) : A.mark none = A := rfl

theorem keeps_refl (s : Shared) : Keeps s s := ⟨s.heap, s.toks, rfl, fun _ _ e => e⟩
theorem keeps_toks (s : Shared) (k : Nat) : Keeps s { s with toks := k } := ⟨s.heap, k, rfl, fun _ _ e => e⟩
theorem keeps_trans {s s' s'' : Shared} (a : Keeps s s') (b : Keeps s' s'') : Keeps s s'' := by
  obtain ⟨h, t, rfl, k⟩ := a; obtain ⟨h', t', rfl, k'⟩ := b
  exact ⟨h', t', rfl, fun b o e => k' b o (k b o e)⟩
theorem kst {s s' : Shared} (a : Keeps s s') : s.heap.StaysIn s'.heap := by obtain ⟨h, t, rfl, k⟩ := a; exact k
theorem stays_trans {h h' h'' : Heap} (a : h.StaysIn h') (b : h'.StaysIn h'') : h.StaysIn h'' := fun x o e => b x o (a x o e)
theorem stays_refl (h : Heap) : h.StaysIn h := fun _ _ e => e

/- a later state: the heap grown, the tokens too -/
structure Up (b s : Shared) : Prop where
  st : b.heap.StaysIn s.heap
  tk : b.toks ≤ s.toks
theorem Up.refl (b : Shared) : Up b b := ⟨stays_refl _, Nat.le_refl _⟩
theorem Up.trans {a b c : Shared} (x : Up a b) (y : Up b c) : Up a c := ⟨stays_trans x.st y.st, Nat.le_trans x.tk y.tk⟩
/- the heap grown, all else as it was -/
structure Kp (s s' : Shared) : Prop where
  k : Keeps s s'
  t : s.toks ≤ s'.toks
theorem Kp.up {s s' : Shared} (x : Kp s s') : Up s s' := ⟨kst x.k, x.t⟩
theorem Kp.refl (s : Shared) : Kp s s := ⟨keeps_refl s, Nat.le_refl _⟩
theorem Kp.trans {a b c : Shared} (x : Kp a b) (y : Kp b c) : Kp a c := ⟨keeps_trans x.k y.k, Nat.le_trans x.t y.t⟩
theorem Kp.cases {s s' : Shared} (x : Kp s s') : ∃ h' tk, s' = { s with heap := h', toks := tk } ∧ s.heap.StaysIn h' ∧ s.toks ≤ tk := by
  obtain ⟨⟨h', tk, rfl, k⟩, t⟩ := x
  exact ⟨h', tk, rfl, k, t⟩
theorem Kp.mk' {s : Shared} {h' : Heap} {tk : Nat} (k : s.heap.StaysIn h') (t : s.toks ≤ tk) : Kp s { s with heap := h', toks := tk } := ⟨⟨h', tk, rfl, k⟩, t⟩
/- tokens never fall -/
theorem ups {α : Type} {M : Model} {A : Around} {t : Sem α} {T : α → Shared → Prop} {E : Value → Shared → Prop} {s : Shared} (h : wpAny M A t (fun v s' => Keeps s s' ∧ T v s') E s) : wpAny M A t (fun v s' => Kp s s' ∧ T v s') E s :=
  wpAny_mono (wpAny_toks_of (Nat.le_refl _) h) (fun _ _ q => ⟨⟨q.2.1, q.1⟩, q.2.2⟩) fun _ _ q => q.2

noncomputable def IsI (i : Int) (v : Value) : Prop := ∃ t, v = .int i t
noncomputable def IsS (x : Str) (v : Value) : Prop := ∃ t, v = .str x t
noncomputable def IsY (b : Array UInt8) (v : Value) : Prop := ∃ t, v = .bytes b t

/- the tree gives a value, the heap grows alone; T: of the value, the state before, the state behind -/
noncomputable def Ev (prog : Program) (w : World) (A : Around) (env : Env) (b : Shared) (e : Expr) (T : Value → Shared → Shared → Prop) : Prop :=
  ∀ s E, Up b s → wpAny (model prog w) A (eval e env) (fun v s' => Kp s s' ∧ T v s s') E s
noncomputable abbrev EvP (prog : Program) (w : World) (A : Around) (env : Env) (b : Shared) (e : Expr) (P : Value → Prop) : Prop := Ev prog w A env b e (fun v _ _ => P v)
noncomputable def EvT (prog : Program) (w : World) (A : Around) (env : Env) (b : Shared) (e : Expr) (c : Bool) : Prop :=
  ∀ s E, Up b s → wpAny (model prog w) A (isTrue e env (eval e env)) (fun v s' => Kp s s' ∧ v = c) E s
/- objects that are new -/
noncomputable def NewIn (h h' : Heap) (nw : List (Addr × Obj)) : Prop := (∀ p ∈ nw, h'.get? p.1 = some p.2 ∧ h.get? p.1 = none) ∧ (nw.map (·.1)).Nodup
noncomputable abbrev EvN (prog : Program) (w : World) (A : Around) (env : Env) (b : Shared) (e : Expr) (P : Value → List (Addr × Obj) → Prop) : Prop :=
  Ev prog w A env b e (fun v s s' => ∃ nw, NewIn s.heap s'.heap nw ∧ P v nw)
/- the state before may be an earlier one -/
noncomputable def Back (T : Value → Shared → Shared → Prop) : Prop := ∀ v s s₁ s', Up s s₁ → T v s₁ s' → T v s s'
theorem back_P {P : Value → Prop} : Back (fun v _ _ => P v) := fun _ _ _ _ _ x => x
theorem NewIn.back {h h₁ h' : Heap} {nw : List (Addr × Obj)} (k : h.StaysIn h₁) (x : NewIn h₁ h' nw) : NewIn h h' nw :=
  ⟨fun p hp => ⟨(x.1 p hp).1, by
    cases q : h.get? p.1 with
    | none => rfl
    | some o => have := (x.1 p hp).2; rw [k _ _ q] at this; cases this⟩, x.2⟩
theorem NewIn.up {h h' h'' : Heap} {nw : List (Addr × Obj)} (k : h'.StaysIn h'') (x : NewIn h h' nw) : NewIn h h'' nw := ⟨fun p hp => ⟨k _ _ (x.1 p hp).1, (x.1 p hp).2⟩, x.2⟩
theorem NewIn.nil (h h' : Heap) : NewIn h h' [] := ⟨(fun _ hp => nomatch hp), List.nodup_nil⟩
/- later ones ahead of earlier ones -/
theorem NewIn.append {h h₁ h' : Heap} {a b : List (Addr × Obj)} (k : h.StaysIn h₁) (k' : h₁.StaysIn h') (x : NewIn h h₁ a) (y : NewIn h₁ h' b) : NewIn h h' (b ++ a) := by
  refine ⟨fun p hp => ?_, ?_⟩
  · rcases List.mem_append.mp hp with hp | hp
    · exact (y.back k).1 p hp
    · exact (x.up k').1 p hp
  · rw [List.map_append, List.nodup_append]
    refine ⟨y.2, x.2, fun c hc d hd e => ?_⟩
    obtain ⟨p, hp, rfl⟩ := List.mem_map.mp hc
    obtain ⟨q, hq, e2⟩ := List.mem_map.mp hd
    have h1 := (y.1 p hp).2
    have h2 := (x.1 q hq).1
    rw [e2, ← e, h1] at h2; cases h2
theorem back_N {P : Value → List (Addr × Obj) → Prop} : Back (fun v s s' => ∃ nw, NewIn s.heap s'.heap nw ∧ P v nw) :=
  fun _ _ _ _ k hq7 => by obtain ⟨nw, x, p⟩ := hq7; exact ⟨nw, x.back k.st, p⟩

section
variable {prog : Program} {w : World} {A : Around} {env : Env} {b : Shared}
theorem Ev.mono {e : Expr} {T T' : Value → Shared → Shared → Prop} (x : Ev prog w A env b e T) (k : ∀ v s s', Up b s → Kp s s' → T v s s' → T' v s s') : Ev prog w A env b e T' :=
  fun s E u => wpAny_mono (x s E u) (fun v _ q => ⟨q.1, k v _ _ u q.1 q.2⟩) fun _ _ e => e
theorem Ev.up {b' : Shared} {e : Expr} {T : Value → Shared → Shared → Prop} (x : Ev prog w A env b e T) (k : Up b b') : Ev prog w A env b' e T :=
  fun s E u => x s E (k.trans u)
theorem EvT.up {b' : Shared} {e : Expr} {c : Bool} (x : EvT prog w A env b e c) (k : Up b b') : EvT prog w A env b' e c :=
  fun s E u => x s E (k.trans u)
theorem Ev.toN {e : Expr} {P : Value → Prop} (x : EvP prog w A env b e P) : EvN prog w A env b e (fun v nw => nw = [] ∧ P v) :=
  x.mono fun _ _ _ _ _ q => ⟨[], NewIn.nil _ _, rfl, q⟩
theorem EvN.toP {e : Expr} {P : Value → List (Addr × Obj) → Prop} {P' : Value → Prop} (x : EvN prog w A env b e P) (k : ∀ v nw, P v nw → P' v) : EvP prog w A env b e P' :=
  x.mono fun v _ _ _ _ ⟨nw, _, p⟩ => k v nw p
/- out of a tree's own rule -/
theorem ev_of {e : Expr} {T : Value → Shared → Shared → Prop} (x : ∀ s E, Up b s → wpAny (model prog w) A (eval e env) (fun v s' => Keeps s s' ∧ T v s s') E s) : Ev prog w A env b e T := fun s E u => ups (x s E u)

theorem ev_int {i : Int} {k : Nat} {pos : Pos} : EvP prog w A env b (.Constant (.int i) k pos) (IsI i) :=
  ev_of fun s _ _ => wpAny_Constant_int ⟨keeps_toks s _, _, rfl⟩
theorem ev_str {x : Str} {k : Nat} {pos : Pos} : EvP prog w A env b (.Constant (.str x) k pos) (IsS x) :=
  ev_of fun s _ _ => by
    show wpAny _ _ (mkText x) _ _ _
    exact wpAny_mkText ⟨keeps_toks s _, _, rfl⟩
/- a text that is new -/
noncomputable def IsF (x : Str) (v : Value) (s s' : Shared) : Prop := ∃ t, v = .str x t ∧ s.toks ≤ t ∧ t < s'.toks
theorem back_F {x : Str} : Back (IsF x) := fun _ _ _ _ u hq7 => by obtain ⟨t, e, a, b⟩ := hq7; exact ⟨t, e, Nat.le_trans u.tk a, b⟩
theorem ev_strF {x : Str} {k : Nat} {pos : Pos} : Ev prog w A env b (.Constant (.str x) k pos) (IsF x) :=
  ev_of fun s _ _ => by
    show wpAny _ _ (mkText x) _ _ _
    exact wpAny_mkText ⟨keeps_toks s _, _, rfl, Nat.le_refl _, Nat.lt_succ_self _⟩
theorem ev_bytes {x : List UInt8} {k : Nat} {pos : Pos} : EvP prog w A env b (.Constant (.bytes x) k pos) (IsY x.toArray) :=
  ev_of fun s _ _ => by
    show wpAny _ _ (mkTextBytes x.toArray) _ _ _
    unfold mkTextBytes
    exact wpAny_bind (wpAny_fresh (wpAny_pure ⟨keeps_toks s _, _, rfl⟩))
theorem ev_none {k : Nat} {pos : Pos} : EvP prog w A env b (.Constant .none k pos) (· = .none) :=
  fun s _ _ => wpAny_pure ⟨Kp.refl s, rfl⟩
theorem ev_bool {c : Bool} {k : Nat} {pos : Pos} : EvP prog w A env b (.Constant (.bool c) k pos) (· = .bool c) :=
  fun s _ _ => wpAny_pure ⟨Kp.refl s, rfl⟩
end

/- the state of a frame: what is known of its names, its cells, the objects it made -/
structure Sta (h₀ : Heap) (L : Addr) (cs : List (Str × Addr)) (m cm : List (Str × Value)) (led : List (Addr × Obj)) (h : Heap) : Prop where
  ns : ∃ mf, h.Ns L mf ∧ ∀ x v, m.lookup x = some v → mf x = some v
  keep : h₀.StaysIn h
  above : h₀.objs.size ≤ L
  cell : ∀ x v, cm.lookup x = some v → ∃ c, cs.lookup x = some c ∧ h.IsCell c (some v)
  cellAll : ∀ x c, cs.lookup x = some c → ∃ v, h.IsCell c v
  cellAbove : ∀ n c, (n, c) ∈ cs → L < c
  cellApart : cs.Pairwise fun x y => x.2 ≠ y.2
  cellNames : (cs.map (·.1)).Nodup
  objs : ∀ p ∈ led, h.get? p.1 = some p.2 ∧ h₀.get? p.1 = none ∧ p.1 ≠ L ∧ ∀ n c, (n, c) ∈ cs → p.1 ≠ c
  nod : (led.map (·.1)).Nodup

theorem lookup_of_mem : ∀ {l : List (Str × Addr)}, (l.map (·.1)).Nodup → ∀ {x : Str} {c : Addr}, (x, c) ∈ l → l.lookup x = some c
  | (y, d) :: r, hn, x, c, hm => by
    rw [List.map_cons, List.nodup_cons] at hn
    rcases List.mem_cons.mp hm with e | hm
    · cases e; simp
    · have hxy : x ≠ y := fun e => hn.1 (List.mem_map.mpr ⟨(x, c), hm, e⟩)
      have : (x == y) = false := by simpa using hxy
      rw [List.lookup_cons, this]
      exact lookup_of_mem hn.2 hm
theorem lookup_cons_set {x y : Str} {v u : Value} {m : List (Str × Value)} (e : ((x, v) :: m).lookup y = some u) : (y = x ∧ u = v) ∨ (y ≠ x ∧ m.lookup y = some u) := by
  by_cases h : y = x
  · subst h; simp at e; exact .inl ⟨rfl, e.symm⟩
  · have : (y == x) = false := by simpa using h
    rw [List.lookup_cons, this] at e
    exact .inr ⟨h, e⟩

namespace Sta
variable {h₀ h h' : Heap} {L : Addr} {cs : List (Str × Addr)} {m cm : List (Str × Value)} {led : List (Addr × Obj)}
theorem keeps (S : Sta h₀ L cs m cm led h) (k : h.StaysIn h') : Sta h₀ L cs m cm led h' :=
  { S with
    ns := let ⟨mf, a, b⟩ := S.ns; ⟨mf, a.keeps k, b⟩
    keep := fun b o e => k b o (S.keep b o e)
    cell := fun x v e => let ⟨c, a, b⟩ := S.cell x v e; ⟨c, a, b.keeps k⟩
    cellAll := fun x c e => let ⟨v, b⟩ := S.cellAll x c e; ⟨v, b.keeps k⟩
    objs := fun p hp => ⟨k _ _ (S.objs p hp).1, (S.objs p hp).2⟩ }
theorem drop (S : Sta h₀ L cs m cm led h) {led' : List (Addr × Obj)} (hs : ∀ p ∈ led', p ∈ led) (hn : (led'.map (·.1)).Nodup) : Sta h₀ L cs m cm led' h :=
  { S with objs := fun p hp => S.objs p (hs p hp), nod := hn }
theorem nil (S : Sta h₀ L cs m cm led h) : Sta h₀ L cs m cm [] h := S.drop (fun _ hp => nomatch hp) List.nodup_nil
/- other words of the same names -/
theorem re (S : Sta h₀ L cs m cm led h) {m' cm' : List (Str × Value)} (hm : ∀ p ∈ m', m.lookup p.1 = some p.2) (hc : ∀ p ∈ cm', cm.lookup p.1 = some p.2) : Sta h₀ L cs m' cm' led h :=
  { S with
    ns := let ⟨mf, a, b⟩ := S.ns; ⟨mf, a, fun x v e => b x v (hm (x, v) (mem_of_lookup e))⟩
    cell := fun x v e => S.cell x v (hc (x, v) (mem_of_lookup e)) }
theorem cellHere (S : Sta h₀ L cs m cm led h) : ∀ n c, (n, c) ∈ cs → (h.get? c).isSome := fun n c hc => by
  obtain ⟨v, o, ho, _⟩ := S.cellAll n c (lookup_of_mem S.cellNames hc)
  rw [ho]; rfl
theorem add (S : Sta h₀ L cs m cm led h) (k : h.StaysIn h') {nw : List (Addr × Obj)} (F : NewIn h h' nw) : Sta h₀ L cs m cm (nw ++ led) h' := by
  have S' := S.keeps k
  refine { S' with objs := fun p hp => ?_, nod := ?_ }
  · rcases List.mem_append.mp hp with hp | hp
    · obtain ⟨h1, h2⟩ := F.1 p hp
      refine ⟨h1, ?_, ?_, ?_⟩
      · cases q : h₀.get? p.1 with
        | none => rfl
        | some o => rw [S.keep _ _ q] at h2; cases h2
      · intro e
        obtain ⟨_, ⟨o, _, _, ho, _⟩, _⟩ := S.ns
        rw [e, ho] at h2; cases h2
      · intro n c hc e
        have := S.cellHere n c hc
        rw [← e, h2] at this; cases this
    · exact S'.objs p hp
  · rw [List.map_append, List.nodup_append]
    refine ⟨F.2, S.nod, fun a ha b hb e => ?_⟩
    obtain ⟨p, hp, rfl⟩ := List.mem_map.mp ha
    obtain ⟨q, hq, e2⟩ := List.mem_map.mp hb
    have h1 := (F.1 p hp).2
    have h2 := (S.objs q hq).1
    rw [e2, ← e, h1] at h2; cases h2
theorem set (S : Sta h₀ L cs m cm led h) {x : Str} {v : Value} {mf : Str → Option Value} (hmf : ∀ x v, m.lookup x = some v → mf x = some v) (hn : h'.Ns L (fun y => if y = x then some v else mf y)) (hs : Heap.SameBut L h h') : Sta h₀ L cs ((x, v) :: m) cm led h' := by
  refine { S with ns := ⟨_, hn, fun y u e => ?_⟩, keep := fun b o e => (hs.2 b (Nat.ne_of_lt (Nat.lt_of_lt_of_le (Heap.lt_size e) S.above))).trans (S.keep b o e), cell := fun y u e => ?_, cellAll := fun y c e => ?_,
                  objs := fun p hp => ⟨(hs.2 _ (S.objs p hp).2.2.1).trans (S.objs p hp).1, (S.objs p hp).2⟩ }
  · rcases lookup_cons_set e with ⟨rfl, rfl⟩ | ⟨hy, e⟩
    · simp
    · simp only [if_neg hy]; exact hmf y u e
  · obtain ⟨c, a, b⟩ := S.cell y u e
    exact ⟨c, a, b.sameBut hs (Nat.ne_of_gt (S.cellAbove y c (mem_of_lookup a)))⟩
  · obtain ⟨v, b⟩ := S.cellAll y c e
    exact ⟨v, b.sameBut hs (Nat.ne_of_gt (S.cellAbove y c (mem_of_lookup e)))⟩
theorem setCell (S : Sta h₀ L cs m cm led h) {x : Str} {v : Value} {c : Addr} (hc : cs.lookup x = some c) (hv : h'.IsCell c (some v)) (hs : Heap.SameBut c h h') : Sta h₀ L cs m ((x, v) :: cm) led h' := by
  have hLc := S.cellAbove x c (mem_of_lookup hc)
  have ha := S.above
  have other : ∀ y c', cs.lookup y = some c' → y ≠ x → c' ≠ c := fun y c' e hy q => hy (name_of_addr S.cellApart (mem_of_lookup e) (q ▸ mem_of_lookup hc))
  refine { S with ns := ?_, keep := fun b o e => (hs.2 b ?_).trans (S.keep b o e), cell := fun y u e => ?_, cellAll := fun y c' e => ?_,
                  objs := fun p hp => ⟨(hs.2 _ ((S.objs p hp).2.2.2 x c (mem_of_lookup hc))).trans (S.objs p hp).1, (S.objs p hp).2⟩ }
  · obtain ⟨mf, a, b⟩ := S.ns
    exact ⟨mf, a.sameBut hs (Nat.ne_of_lt hLc), b⟩
  · have := Heap.lt_size e
    exact Nat.ne_of_lt (Nat.lt_trans (Nat.lt_of_lt_of_le this ha) hLc)
  · rcases lookup_cons_set e with ⟨rfl, rfl⟩ | ⟨hy, e⟩
    · exact ⟨c, hc, hv⟩
    · obtain ⟨c', a, b⟩ := S.cell y u e
      exact ⟨c', a, b.sameBut hs (other y c' a hy)⟩
  · by_cases hy : y = x
    · subst hy; rw [hc] at e; cases e; exact ⟨_, hv⟩
    · obtain ⟨v, b⟩ := S.cellAll y c' e
      exact ⟨v, b.sameBut hs (other y c' e hy)⟩
/- an object of the ledger turns -/
theorem turn (S : Sta h₀ L cs m cm led h) {pre post : List (Addr × Obj)} {a : Addr} {o o' : Obj} (hl : led = pre ++ (a, o) :: post) (hs : ∀ b x, b ≠ a → h.get? b = some x → h'.get? b = some x) (ho : h'.get? a = some o') : Sta h₀ L cs m cm (pre ++ (a, o') :: post) h' := by
  subst hl
  have hm := S.objs (a, o) (by simp)
  have hnod := S.nod
  have apart : ∀ p, p ∈ pre ++ post → p.1 ≠ a := by
    intro p hp e
    rw [List.map_append, List.map_cons, List.nodup_append] at hnod
    obtain ⟨_, h2, h3⟩ := hnod
    rcases List.mem_append.mp hp with hp | hp
    · exact h3 p.1 (List.mem_map.mpr ⟨p, hp, rfl⟩) a (by simp) e
    · exact (List.nodup_cons.mp h2).1 (List.mem_map.mpr ⟨p, hp, e⟩)
  have offC : ∀ y c, cs.lookup y = some c → c ≠ a := fun y c e q => hm.2.2.2 y c (mem_of_lookup e) q.symm
  refine { S with ns := ?_, keep := fun b x e => hs b x (fun q => ?_) (S.keep b x e), cell := fun y u e => ?_, cellAll := fun y c e => ?_, objs := fun p hp => ?_, nod := ?_ }
  · obtain ⟨mf, ⟨oL, es, ep, hL, r⟩, b⟩ := S.ns
    exact ⟨mf, ⟨oL, es, ep, hs _ _ (Ne.symm hm.2.2.1) hL, r⟩, b⟩
  · have := hm.2.1
    rw [q] at e
    rw [e] at this; cases this
  · obtain ⟨c, hc, oc, hoc, hd⟩ := S.cell y u e
    exact ⟨c, hc, oc, hs _ _ (offC y c hc) hoc, hd⟩
  · obtain ⟨v, oc, hoc, hd⟩ := S.cellAll y c e
    exact ⟨v, oc, hs _ _ (offC y c e) hoc, hd⟩
  · rcases List.mem_append.mp hp with hp | hp
    · have q := S.objs p (List.mem_append_left _ hp)
      exact ⟨hs _ _ (apart p (List.mem_append_left _ hp)) q.1, q.2⟩
    · rcases List.mem_cons.mp hp with rfl | hp
      · exact ⟨ho, hm.2⟩
      · have q := S.objs p (List.mem_append_right _ (.tail _ hp))
        exact ⟨hs _ _ (apart p (List.mem_append_right _ hp)) q.1, q.2⟩
  · simpa using hnod
end Sta
end

/- B2 -/
/- expressions: the rules of the layer -/
section
open PySem PySem.W PyProof.Rows PySem.Calls

section
variable {prog : Program} {w : World} {A : Around} {env : Env} {b : Shared}

theorem ev_local {x : Str} {pos : Pos} {m : Str → Option Value} {v : Value} {P : Value → Prop} (hn : b.heap.Ns env.locals m) (hv : m x = some v) (hP : P v)
    (hk : env.scope.kind = .function := by rfl) (hl : env.kindOf x = some .local := by rfl) (hd : (x == ("__debug__" : Str)) = false := by decide) :
    EvP prog w A env b (.Name x pos) P :=
  fun s _ u => wpAny_Name (wpAny_loadName_local hk hl (hn.keeps u.st) hv ⟨Kp.refl s, hP⟩) hd
theorem ev_cell {x : Str} {pos : Pos} {c : Addr} {v : Value} {P : Value → Prop} (hc : env.cells.lookup x = some c) (hv : b.heap.IsCell c (some v)) (hP : P v)
    (hk : env.scope.kind = .function := by rfl) (hl : env.kindOf x = some .cell := by rfl) (hd : (x == ("__debug__" : Str)) = false := by decide) :
    EvP prog w A env b (.Name x pos) P :=
  fun s _ u => wpAny_Name (wpAny_loadName_cell hk hl hc (hv.keeps u.st) ⟨Kp.refl s, hP⟩) hd
theorem ev_free {x : Str} {pos : Pos} {c : Addr} {v : Value} {P : Value → Prop} (hc : env.cells.lookup x = some c) (hv : b.heap.IsCell c (some v)) (hP : P v)
    (hk : env.scope.kind = .function := by rfl) (hl : env.kindOf x = some .free := by rfl) (hd : (x == ("__debug__" : Str)) = false := by decide) (hn : (x == ("__classdict__" : Str)) = false := by decide) :
    EvP prog w A env b (.Name x pos) P :=
  fun s _ u => wpAny_Name (wpAny_loadName_free hk hl hc (hv.keeps u.st) ⟨Kp.refl s, hP⟩ hn) hd
theorem ev_global {x : Str} {pos : Pos} {mg : Str → Option Value} {v : Value} {P : Value → Prop} (hg : b.heap.Ns env.globals mg) (hv : mg x = some v) (hP : P v)
    (hk : env.scope.kind = .function := by rfl) (hl : env.kindOf x = some .globalImplicit := by rfl) (hd : (x == ("__debug__" : Str)) = false := by decide) :
    EvP prog w A env b (.Name x pos) P :=
  fun s _ u => Name_function_global hk hl (loadGlobal_global (hg.keeps u.st) hv ⟨Kp.refl s, hP⟩) hd
theorem ev_builtin {x : Str} {pos : Pos} {mg mb : Str → Option Value} {v : Value} {P : Value → Prop} (hg : b.heap.Ns env.globals mg) (hv : mg x = none) (hb : b.heap.Ns env.builtins mb) (hbv : mb x = some v) (hP : P v)
    (hk : env.scope.kind = .function := by rfl) (hl : env.kindOf x = some .globalImplicit := by rfl) (hd : (x == ("__debug__" : Str)) = false := by decide) :
    EvP prog w A env b (.Name x pos) P :=
  fun s _ u => Name_function_global hk hl (loadGlobal_builtin (hg.keeps u.st) hv (hb.keeps u.st) hbv ⟨Kp.refl s, hP⟩) hd

/- an operation on two values -/
theorem ev_binop {l r : Expr} {op : Operator} {pos : Pos} {Pa Pb : Value → Prop} {T : Value → Shared → Shared → Prop} (bk : Back T) (ha : EvP prog w A env b l Pa) (hb : EvP prog w A env b r Pb)
    (ho : ∀ u v s E, Up b s → Pa u → Pb v → wpAny (model prog w) A (binaryOp op u v) (fun x s' => Keeps s s' ∧ T x s s') E s) : Ev prog w A env b (.BinOp l op r pos) T := by
  intro s E up
  refine wpAny_BinOp (wpAny_mono (ha s E up) (fun u s₁ q₁ => wpAny_mono (hb s₁ E (up.trans q₁.1.up)) (fun v s₂ q₂ => ?_) fun _ _ e => e) fun _ _ e => e)
  have k := q₁.1.trans q₂.1
  exact wpAny_mono (ups (ho u v s₂ E (up.trans k.up) q₁.2 q₂.2)) (fun _ _ q₃ => ⟨k.trans q₃.1, bk _ _ _ _ k.up q₃.2⟩) fun _ _ e => e
theorem ev_compare {l r : Expr} {op : CmpOp} {pos : Pos} {Pa Pb : Value → Prop} {c : Bool} (ha : EvP prog w A env b l Pa) (hb : EvP prog w A env b r Pb)
    (ho : ∀ u v s E, Up b s → Pa u → Pb v → wpAny (model prog w) A (compareOp op u v) (fun x s' => Keeps s s' ∧ x = .bool c) E s)
    (hm : behindInMarks op r = false := by with_unfolding_all rfl) : EvP prog w A env b (.Compare l [op] [r] pos) (· = .bool c) := by
  intro s E up
  refine wpAny_Compare1 (wpAny_mono (ha s E up) (fun u s₁ q₁ => wpAny_mono (hb s₁ E (up.trans q₁.1.up)) (fun v s₂ q₂ => ?_) fun _ _ e => e) fun _ _ e => e) hm
  have k := q₁.1.trans q₂.1
  exact wpAny_mono (ups (ho u v s₂ E (up.trans k.up) q₁.2 q₂.2)) (fun _ _ q₃ => ⟨k.trans q₃.1, q₃.2⟩) fun _ _ e => e
theorem evt_compare {l r : Expr} {op : CmpOp} {pos : Pos} {Pa Pb : Value → Prop} {c : Bool} (ha : EvP prog w A env b l Pa) (hb : EvP prog w A env b r Pb)
    (ho : ∀ u v s E, Up b s → Pa u → Pb v → wpAny (model prog w) A (compareOp op u v) (fun x s' => Keeps s s' ∧ x = .bool c) E s)
    (hm : behindInMarks op r = false := by with_unfolding_all rfl) : EvT prog w A env b (.Compare l [op] [r] pos) c := by
  intro s E up
  refine wpAny_isTrue_Compare1 (wpAny_mono (ha s E up) (fun u s₁ q₁ => wpAny_mono (hb s₁ E (up.trans q₁.1.up)) (fun v s₂ q₂ => ?_) fun _ _ e => e) fun _ _ e => e) hm
  have k := q₁.1.trans q₂.1
  refine wpAny_mono (ups (ho u v s₂ E (up.trans k.up) q₁.2 q₂.2)) (fun x s₃ q₃ => ?_) fun _ _ e => e
  obtain ⟨q, rfl⟩ := q₃
  exact wpAny_truthy_bool ⟨k.trans q, rfl⟩
theorem wpAny_releaseM {M : Model} {E : Value → Shared → Prop} {s : Shared} {vs keep : List Value} {Q : Unit → Shared → Prop} (h : Q () s) : wpAny M A (release vs keep) Q E s :=
  fun _ _ _ => by rw [Sem.wp_release]; exact h
/- a chain of two comparisons of ints, as a test -/
theorem evt_chain {l m r : Expr} {op op' : CmpOp} {pos : Pos} {Pa Pb Pc : Value → Prop} {c d : Bool} (ha : EvP prog w A env b l Pa) (hb : EvP prog w A env b m Pb) (hc : EvP prog w A env b r Pc)
    (ho : ∀ u v s E, Up b s → Pa u → Pb v → wpAny (model prog w) A (compareOp op u v) (fun x s' => Keeps s s' ∧ x = .bool c) E s)
    (ho' : ∀ u v s E, Up b s → Pb u → Pc v → wpAny (model prog w) A (compareOp op' u v) (fun x s' => Keeps s s' ∧ x = .bool d) E s)
    (hm : markedEach [op, op'] [m, r] [eval m env, eval r env] = [eval m env, eval r env] := by rfl) : EvT prog w A env b (.Compare l [op, op'] [m, r] pos) (c && d) := by
  intro s E up
  show wpAny _ _ (do testChain pos (← eval l env) [op, op'] (markedEach [op, op'] [m, r] [eval m env, eval r env])) _ _ _
  rw [hm]
  refine wpAny_bind (wpAny_mono (ha s E up) (fun u s₁ q₁ => ?_) fun _ _ e => e)
  have up₁ := up.trans q₁.1.up
  show wpAny _ _ (do
    let rv ← holding [u] (eval m env)
    standAt pos
    let c ← holding [u, rv] (compareOp op u rv)
    release [u, rv] [c]
    if ← holding [c, rv] (truthy c) then testChain pos rv [op'] [eval r env] else pure false) _ _ _
  refine wpAny_bind (wpAny_holding (wpAny_mono (hb s₁ E up₁) (fun v s₂ q₂ => ?_) fun _ _ e => e))
  have up₂ := up₁.trans q₂.1.up
  refine wpAny_bind (wpAny_standAt (wpAny_bind (wpAny_holding (wpAny_mono (ups (ho u v s₂ E up₂ q₁.2 q₂.2)) (fun x s₃ q₃ => ?_) fun _ _ e => e))))
  obtain ⟨k₃, rfl⟩ := q₃
  have up₃ := up₂.trans k₃.up
  have k := (q₁.1.trans q₂.1).trans k₃
  refine wpAny_bind (wpAny_releaseM ?_)
  refine wpAny_bind (wpAny_holding (wpAny_truthy_bool ?_))
  cases c with
  | false => exact wpAny_pure ⟨k, rfl⟩
  | true =>
    show wpAny _ _ (do
      let rv ← holding [v] (eval r env)
      standAt pos
      let c ← operate [v, rv] (compareOp op' v rv)
      holding [c] (truthy c)) _ _ _
    refine wpAny_bind (wpAny_holding (wpAny_mono (hc s₃ E up₃) (fun y s₄ q₄ => ?_) fun _ _ e => e))
    refine wpAny_bind (wpAny_standAt (wpAny_bind (wpAny_operating (wpAny_mono (ups (ho' v y s₄ E (up₃.trans q₄.1.up) q₂.2 q₄.2)) (fun z s₅ q₅ => ?_) fun _ _ e => e))))
    obtain ⟨k₅, rfl⟩ := q₅
    exact wpAny_holding (wpAny_truthy_bool ⟨(k.trans q₄.1).trans k₅, rfl⟩)

/- what the interpreter's own test asks of a value -/
noncomputable def Truth (prog : Program) (w : World) (A : Around) (b : Shared) (P : Value → Prop) (c : Bool) : Prop :=
  ∀ v s E, Up b s → P v → wpAny (model prog w) A (truthy v) (fun x s' => Keeps s s' ∧ x = c) E s
theorem evt_of {e : Expr} {P : Value → Prop} {c : Bool} (he : EvP prog w A env b e P) (ht : Truth prog w A b P c)
    (hsh : isTrue e env (eval e env) = (do let v ← eval e env; standAt e.pos; holding [v] (truthy v)) := by rfl) : EvT prog w A env b e c := by
  intro s E up
  rw [hsh]
  refine wpAny_bind (wpAny_mono (he s E up) (fun v s₁ q₁ => wpAny_bind (wpAny_standAt (wpAny_holding ?_))) fun _ _ e => e)
  exact wpAny_mono (ups (ht v s₁ E (up.trans q₁.1.up) q₁.2)) (fun _ _ q₂ => ⟨q₁.1.trans q₂.1, q₂.2⟩) fun _ _ e => e
theorem evt_not {e : Expr} {pos : Pos} {c : Bool} (he : EvT prog w A env b e c) : EvT prog w A env b (.UnaryOp .Not e pos) (!c) := by
  intro s E up
  exact wpAny_isTrue_Not (wpAny_mono (he s E up) (fun _ _ q => ⟨q.1, by rw [q.2]⟩) fun _ _ e => e)
theorem evt_or {e f : Expr} {pos : Pos} {c d : Bool} (ha : EvT prog w A env b e c) (hb : c = false → EvT prog w A env b f d) : EvT prog w A env b (.BoolOp .Or [e, f] pos) (c || d) := by
  intro s E up
  show wpAny _ _ (isTrue e env (eval e env) >>= _) _ _ _
  refine wpAny_bind (wpAny_mono (ha s E up) (fun x s₁ q => ?_) fun _ _ e => e)
  obtain ⟨k, rfl⟩ := q
  cases x with
  | true => exact wpAny_pure ⟨k, rfl⟩
  | false =>
    show wpAny _ _ (isTrue f env (eval f env) >>= _) _ _ _
    refine wpAny_bind (wpAny_mono (hb rfl s₁ E (up.trans k.up)) (fun y s₂ q₂ => ?_) fun _ _ e => e)
    obtain ⟨k₂, rfl⟩ := q₂
    cases y with
    | true => exact wpAny_pure ⟨k.trans k₂, rfl⟩
    | false => exact wpAny_pure ⟨k.trans k₂, rfl⟩
theorem evt_and {e f : Expr} {pos : Pos} {c d : Bool} (ha : EvT prog w A env b e c) (hb : c = true → EvT prog w A env b f d) : EvT prog w A env b (.BoolOp .And [e, f] pos) (c && d) := by
  intro s E up
  show wpAny _ _ (isTrue e env (eval e env) >>= _) _ _ _
  refine wpAny_bind (wpAny_mono (ha s E up) (fun x s₁ q => ?_) fun _ _ e => e)
  obtain ⟨k, rfl⟩ := q
  cases x with
  | false => exact wpAny_pure ⟨k, rfl⟩
  | true =>
    show wpAny _ _ (isTrue f env (eval f env) >>= _) _ _ _
    refine wpAny_bind (wpAny_mono (hb rfl s₁ E (up.trans k.up)) (fun y s₂ q₂ => ?_) fun _ _ e => e)
    obtain ⟨k₂, rfl⟩ := q₂
    cases y with
    | true => exact wpAny_pure ⟨k.trans k₂, rfl⟩
    | false => exact wpAny_pure ⟨k.trans k₂, rfl⟩
theorem evt_or3 {e f g : Expr} {pos : Pos} {c d i : Bool} (ha : EvT prog w A env b e c) (hb : c = false → EvT prog w A env b f d) (hc : c = false → d = false → EvT prog w A env b g i) : EvT prog w A env b (.BoolOp .Or [e, f, g] pos) (c || d || i) := by
  intro s E up
  show wpAny _ _ (isTrue e env (eval e env) >>= _) _ _ _
  refine wpAny_bind (wpAny_mono (ha s E up) (fun x s₁ q => ?_) fun _ _ e => e)
  obtain ⟨k, rfl⟩ := q
  cases x with
  | true => exact wpAny_pure ⟨k, rfl⟩
  | false =>
    have := evt_or (pos := pos) (hb rfl) (hc rfl) s₁ E (up.trans k.up)
    refine wpAny_mono this (fun y s₂ q₂ => ⟨k.trans q₂.1, by rw [q₂.2]; simp⟩) fun _ _ e => e
theorem ev_ifexp {t e f : Expr} {pos : Pos} {c : Bool} {T : Value → Shared → Shared → Prop} (bk : Back T) (ht : EvT prog w A env b t c) (ha : c = true → Ev prog w A env b e T) (hb : c = false → Ev prog w A env b f T) :
    Ev prog w A env b (.IfExp t e f pos) T := by
  intro s E up
  refine wpAny_IfExp (wpAny_mono (ht s E up) (fun x s₁ q => ?_) fun _ _ e => e)
  obtain ⟨k, rfl⟩ := q
  cases x with
  | true => exact wpAny_mono (ha rfl s₁ E (up.trans k.up)) (fun _ _ q₂ => ⟨k.trans q₂.1, bk _ _ _ _ k.up q₂.2⟩) fun _ _ e => e
  | false => exact wpAny_mono (hb rfl s₁ E (up.trans k.up)) (fun _ _ q₂ => ⟨k.trans q₂.1, bk _ _ _ _ k.up q₂.2⟩) fun _ _ e => e
theorem ev_unop {e : Expr} {op : UnaryOp} {pos : Pos} {Pa : Value → Prop} {P : Value → Prop} (ha : EvP prog w A env b e Pa)
    (ho : ∀ u s E, Up b s → Pa u → wpAny (model prog w) A (unaryOp op u) (fun x s' => Keeps s s' ∧ P x) E s) : EvP prog w A env b (.UnaryOp op e pos) P := by
  intro s E up
  exact wpAny_UnaryOp (wpAny_mono (ha s E up) (fun u s₁ q₁ => wpAny_mono (ups (ho u s₁ E (up.trans q₁.1.up) q₁.2)) (fun _ _ q => ⟨q₁.1.trans q.1, q.2⟩) fun _ _ e => e) fun _ _ e => e)

/- the arguments of a call, the items of a display -/
noncomputable def ArgsTo (prog : Program) (w : World) (A : Around) (env : Env) (b : Shared) (es : List Expr) (P : List Value → Shared → Shared → Prop) : Prop :=
  ((starEach es env).any (·.1) = false) ∧ ∀ pos s E, Up b s → wpAny (model prog w) A (spliced (backTo pos (starEach es env))) (fun vs s' => Kp s s' ∧ P vs s s') E s
theorem args0 : ArgsTo prog w A env b [] (fun vs _ _ => vs = []) := ⟨rfl, fun _ s _ _ => Calls.spliced_nil ⟨Kp.refl s, rfl⟩⟩
/- one ahead of more: T may speak of what is new -/
theorem args_consT {e : Expr} {es : List Expr} {T : Value → Shared → Shared → Prop} {Ps : List Value → Shared → Shared → Prop} (he : Ev prog w A env b e T) (hs : ArgsTo prog w A env b es Ps)
    (hp : starEach (e :: es) env = (false, eval e env) :: starEach es env := by rfl) : ArgsTo prog w A env b (e :: es) (fun vs s s' => ∃ v r s₁, vs = v :: r ∧ Kp s s₁ ∧ Kp s₁ s' ∧ T v s s₁ ∧ Ps r s₁ s') := by
  refine ⟨by rw [hp]; exact hs.1, fun pos s E up => ?_⟩
  rw [hp]
  show wpAny _ _ (spliced ((false, eval e env) :: backTo pos (starEach es env))) _ _ _
  refine Calls.spliced_cons (wpAny_mono (he s E up) (fun v s₁ q₁ => wpAny_mono (hs.2 pos s₁ E (up.trans q₁.1.up)) (fun r s₂ q₂ => ?_) fun _ _ e => e) fun _ _ e => e)
  exact ⟨q₁.1.trans q₂.1, v, r, s₁, rfl, q₁.1, q₂.1, q₁.2, q₂.2⟩
theorem ArgsTo.mono {es : List Expr} {P P' : List Value → Shared → Shared → Prop} (x : ArgsTo prog w A env b es P) (k : ∀ vs s s', Up b s → Kp s s' → P vs s s' → P' vs s s') : ArgsTo prog w A env b es P' :=
  ⟨x.1, fun pos s E up => wpAny_mono (x.2 pos s E up) (fun vs _ q => ⟨q.1, k vs _ _ up q.1 q.2⟩) fun _ _ e => e⟩
theorem args1 {e : Expr} {Pa : Value → Prop} (ha : EvP prog w A env b e Pa) (hp : starEach [e] env = [(false, eval e env)] := by rfl) : ArgsTo prog w A env b [e] (fun vs _ _ => ∃ u, vs = [u] ∧ Pa u) :=
  (args_consT ha args0 hp).mono fun _ _ _ _ _ hq7 => by obtain ⟨v, r, _, h, _, _, p, hr⟩ := hq7; exact ⟨v, by rw [h, hr], p⟩
theorem args2 {e f : Expr} {Pa Pb : Value → Prop} (ha : EvP prog w A env b e Pa) (hb : EvP prog w A env b f Pb)
    (hp : starEach [e, f] env = (false, eval e env) :: starEach [f] env := by rfl) (hq : starEach [f] env = [(false, eval f env)] := by rfl) : ArgsTo prog w A env b [e, f] (fun vs _ _ => ∃ u v, vs = [u, v] ∧ Pa u ∧ Pb v) :=
  (args_consT ha (args1 hb hq) hp).mono fun _ _ _ _ _ hq7 => by obtain ⟨v, r, _, h, _, _, p, u, hr, p'⟩ := hq7; exact ⟨v, u, by rw [h, hr], p, p'⟩
theorem args3 {e f g : Expr} {Pa Pb Pc : Value → Prop} (ha : EvP prog w A env b e Pa) (hb : EvP prog w A env b f Pb) (hc : EvP prog w A env b g Pc)
    (hp : starEach [e, f, g] env = (false, eval e env) :: starEach [f, g] env := by rfl) (hq : starEach [f, g] env = (false, eval f env) :: starEach [g] env := by rfl) (hr : starEach [g] env = [(false, eval g env)] := by rfl) :
    ArgsTo prog w A env b [e, f, g] (fun vs _ _ => ∃ u v x, vs = [u, v, x] ∧ Pa u ∧ Pb v ∧ Pc x) :=
  (args_consT ha (args2 hb hc hq hr) hp).mono fun _ _ _ _ _ hq7 => by obtain ⟨v, r, _, h, _, _, p, u, x, hr, p', p''⟩ := hq7; exact ⟨v, u, x, by rw [h, hr], p, p', p''⟩
theorem args4 {e f g i : Expr} {Pa Pb Pc Pd : Value → Prop} (ha : EvP prog w A env b e Pa) (hb : EvP prog w A env b f Pb) (hc : EvP prog w A env b g Pc) (hd : EvP prog w A env b i Pd)
    (hp : starEach [e, f, g, i] env = (false, eval e env) :: starEach [f, g, i] env := by rfl) (hq : starEach [f, g, i] env = (false, eval f env) :: starEach [g, i] env := by rfl) (hr : starEach [g, i] env = (false, eval g env) :: starEach [i] env := by rfl)
    (ht : starEach [i] env = [(false, eval i env)] := by rfl) :
    ArgsTo prog w A env b [e, f, g, i] (fun vs _ _ => ∃ u v x y, vs = [u, v, x, y] ∧ Pa u ∧ Pb v ∧ Pc x ∧ Pd y) :=
  (args_consT ha (args3 hb hc hd hq hr ht) hp).mono fun _ _ _ _ _ hq7 => by obtain ⟨v, r, _, h, _, _, p, u, x, y, hr, p', p'', p3⟩ := hq7; exact ⟨v, u, x, y, by rw [h, hr], p, p', p'', p3⟩

theorem evalArgs_any {f : Value} {trees : List (Bool × Sem Value)} {M : Model} {E : Value → Shared → Prop} {s : Shared} {Q : Args → Shared → Prop} (hplain : trees.any (·.1) = false)
    (hq : wpAny M A (spliced trees) (fun vs s' => Q ⟨vs, []⟩ s') E s) : wpAny M A (evalArgs f true trees []) Q E s := by
  cases trees with
  | nil =>
    unfold evalArgs
    show wpAny M A (spliced [] >>= _) Q E s
    refine wpAny_bind (wpAny_mono hq (fun vs s' h' => wpAny_bind (wpAny_pure ?_)) fun _ _ e => e)
    refine wpAny_holding ?_
    exact wpAny_bind (wpAny_pure (wpAny_bind (wpAny_pure (wpAny_pure h'))))
  | cons t r =>
    obtain ⟨c, x⟩ := t
    cases c with
    | true => simp at hplain
    | false => exact Calls.evalArgs_plain hq

/- a value that can be called: how the call's form takes it -/
inductive Callee (h : Heap) : Value → Prop
  | builtin (id : String) : Callee h (.builtin id)
  | type (t : String) : Callee h (.type t)
  | fn (a : Addr) (o : Obj) (fd : FuncData) : h.get? a = some o → o.data = .func fd → Callee h (.ref a)
theorem Callee.keeps {h h' : Heap} {f : Value} (c : Callee h f) (k : h.StaysIn h') : Callee h' f := by
  cases c with
  | builtin id => exact .builtin id
  | type t => exact .type t
  | fn a o fd ho hd => exact .fn a o fd (k _ _ ho) hd

theorem backTo_plain {pos : Pos} {es : List Expr} (hp : (starEach es env).any (·.1) = false) : (backTo pos (starEach es env)).any (·.1) = false := by
  unfold backTo
  rw [List.any_map]
  exact hp

theorem callWith_any {f : Value} {first : List Value} {es : List Expr} {pos : Pos} {P : List Value → Shared → Shared → Prop} {T : Value → Shared → Shared → Prop} (hc : Callee b.heap f) (ha : ArgsTo prog w A env b es P) {s : Shared} {E : Value → Shared → Prop} (up : Up b s)
    (hcall : ∀ vs s₁ E, Up s s₁ → P vs s s₁ → wpAny (model prog w) A (call f (first ++ vs)) (fun r s' => Keeps s₁ s' ∧ T r s s') E s₁) :
    wpAny (model prog w) A (callWith pos f first (backTo pos (starEach es env)) []) (fun r s' => Kp s s' ∧ T r s s') E s := by
  have hplain := backTo_plain (pos := pos) ha.1
  have main : ∀ (Q : Args → Shared → Prop), (∀ vs s₁, Kp s s₁ → P vs s s₁ → Q ⟨vs, []⟩ s₁) → wpAny (model prog w) A (evalArgs f true (backTo pos (starEach es env)) []) Q E s := by
    intro Q hQ
    exact evalArgs_any hplain (wpAny_mono (ha.2 pos s E up) (fun vs s₁ q => hQ vs s₁ q.1 q.2) fun _ _ e => e)
  have fin : ∀ vs s₁, Kp s s₁ → P vs s s₁ → wpAny (model prog w) A (call f (first ++ vs)) (fun r s' => Kp s s' ∧ T r s s') E s₁ := fun vs s₁ k p =>
    wpAny_mono (ups (hcall vs s₁ E k.up p)) (fun r s' q => ⟨k.trans q.1, q.2⟩) fun _ _ e => e
  cases hc with
  | builtin id => exact Calls.callWith_builtin hplain (main _ fun vs s₁ k p => fin vs s₁ k p)
  | type t => exact PyProof.Rows.callWith_type hplain (main _ fun vs s₁ k p => fin vs s₁ k p)
  | fn a o fd ho hd => exact Calls.callWith_function (main _ fun vs s₁ k p => ⟨⟨k.up.st _ _ (up.st _ _ ho), hd⟩, fin vs s₁ k p⟩)

/- a call of a name -/
theorem ev_call {x : Str} {p pos : Pos} {es : List Expr} {f : Value} {P : List Value → Shared → Shared → Prop} {T : Value → Shared → Shared → Prop} (bk : Back T) (hf : EvP prog w A env b (.Name x p) (· = f)) (hc : Callee b.heap f) (ha : ArgsTo prog w A env b es P)
    (hcall : ∀ vs s s₁ E, Up b s → Up s s₁ → P vs s s₁ → wpAny (model prog w) A (call f vs) (fun r s' => Keeps s₁ s' ∧ T r s s') E s₁) :
    Ev prog w A env b (.Call (.Name x p) es [] pos) T := by
  intro s E up
  show wpAny _ _ (do callWith pos (← eval (.Name x p) env) [] (backTo pos (starEach es env)) (backToKw pos (keywordEach [] env))) _ _ _
  refine wpAny_bind (wpAny_mono (hf s E up) (fun v s₁ q => ?_) fun _ _ e => e)
  obtain ⟨k, rfl⟩ := q
  exact wpAny_mono (callWith_any (first := []) (T := T) hc ha (up.trans k.up) (fun vs s₂ E' u p => hcall vs s₁ s₂ E' (up.trans k.up) u p)) (fun _ _ q => ⟨k.trans q.1, bk _ _ _ _ k.up q.2⟩) fun _ _ e => e

/- a method of a built-in type -/
theorem ev_method {o : Expr} {name : Str} {apos pos : Pos} {es : List Expr} {Po : Value → Prop} {T id : String} {P : List Value → Shared → Shared → Prop} {R : Value → Shared → Shared → Prop} (bk : Back R) (ho : EvP prog w A env b o Po)
    (pa : PlainAttrs T) (slot : Slot T name id) (hty : typeOf (.builtin id) = pure (.type "method_descriptor"))
    (hT : ∀ (v : Value) (s : Shared), Up b s → Po v → s.TypeIs v T ∧ ∀ a, v = .ref a → ∃ o : Obj, s.heap.get? a = some o ∧ o.dict = none)
    (ha : ArgsTo prog w A env b es P)
    (hcall : ∀ ov vs s s₁ E, Up b s → Up s s₁ → Po ov → P vs s s₁ → wpAny (model prog w) A (call (.builtin id) (ov :: vs)) (fun r s' => Keeps s₁ s' ∧ R r s s') E s₁)
    (hbase : attributeBase o name env (eval o env) = eval o env := by rfl) (hlen : decide (es.length < 30) = true := by rfl) (hline : (apos.endLine == pos.line) = true := by rfl) :
    Ev prog w A env b (.Call (.Attribute o name apos) es [] pos) R := by
  intro s E up
  rw [arm_eval_Call, hbase]
  refine wpAny_bind (wpAny_mono (ho s E up) (fun ov s₁ q => ?_) fun _ _ e => e)
  obtain ⟨k, hp⟩ := q
  refine wpAny_bind (wpAny_standAt ?_)
  have hl : es.length < 30 := of_decide_eq_true hlen
  have hform : methodCallForm (es.length + ([] : List Keyword).length) (backTo pos (starEach es env)) (backToKw pos (keywordEach [] env)) = true := by
    unfold methodCallForm
    have h1 : (backTo pos (starEach es env)).all (fun x => !x.1) = true := by
      have := backTo_plain (pos := pos) ha.1
      rw [List.all_eq_true]
      intro x hx
      rw [List.any_eq_false] at this
      simpa using this x hx
    have h2 : (backToKw pos (keywordEach [] env)).all (fun x => x.1.isSome) = true := rfl
    rw [h1, h2]
    show (true && true && decide (es.length + 0 + 0 < 30)) = true
    rw [decide_eq_true (by lia)]; rfl
  have hpos : methodCallPos true o env apos pos = pure pos := by unfold methodCallPos; simp [hline]
  obtain ⟨h1, h2⟩ := hT ov s₁ (up.trans k.up) hp
  unfold methodCall
  rw [hform]
  refine wpAny_bind (wpAny_holding (getMethod_builtin h1 pa slot hty h2 ?_))
  refine wpAny_bind (wpAny_of_eq hpos ?_)
  exact wpAny_mono (callWith_any (first := [ov]) (T := R) (.builtin id) ha (up.trans k.up) (fun vs s₂ E' u pv => hcall ov vs s₁ s₂ E' (up.trans k.up) u hp pv)) (fun _ _ q => ⟨k.trans q.1, bk _ _ _ _ k.up q.2⟩) fun _ _ e => e

/- an item of a built-in thing -/
theorem ev_item {o i : Expr} {pos : Pos} {Po Pi : Value → Prop} {T id : String} {R : Value → Shared → Shared → Prop} (bk : Back R) (ho : EvP prog w A env b o Po) (hi : EvP prog w A env b i Pi)
    (hT : ∀ (v : Value) (s : Shared), Up b s → Po v → s.TypeIs v T) (hl : typeLookup (.type T) "__getitem__" = pure (some (.builtin id)))
    (hg : ∀ ov iv s E, Up b s → Po ov → Pi iv → wpAny (model prog w) A (getItem ov iv) (fun r s' => Keeps s s' ∧ R r s s') E s)
    (hs : ∀ ov iv, subscripted i false ov iv = operate [ov, iv] (getItem ov iv) := by intro _ _; rfl) (ht : ∀ ov r, letTemporaryGo o ov r = pure () := by intro _ _; rfl) :
    Ev prog w A env b (.Subscript o i pos) R := by
  intro s E up
  refine Subscript_ (wpAny_mono (ho s E up) (fun ov s₁ q₁ => wpAny_mono (hi s₁ E (up.trans q₁.1.up)) (fun iv s₂ q₂ => ?_) fun _ _ e => e) fun _ _ e => e)
  have k := q₁.1.trans q₂.1
  have up₂ := up.trans k.up
  refine subscriptTail_builtin (hT ov s₂ up₂ q₁.2) hl (wpAny_mono (ups (hg ov iv s₂ E up₂ q₁.2 q₂.2)) (fun _ _ q => ⟨k.trans q.1, bk _ _ _ _ k.up q.2⟩) fun _ _ e => e) (hs ov iv) (ht ov)
end
end

/- B3 -/
/- statements -/
section
open PySem PySem.W PyProof.Rows PySem.Calls

section
variable {prog : Program} {w : World} {A : Around} {env : Env} {h₀ : Heap} {m cm : List (Str × Value)} {led : List (Addr × Obj)} {s : Shared} {rest : List Stmt} {Q : Flow → Shared → Prop} {E : Value → Shared → Prop}

theorem n_local {x : Str} {pos : Pos} {v : Value} {P : Value → Prop} {b : Shared} {cs : List (Str × Addr)} (S : Sta h₀ env.locals cs m cm led b.heap) (hv : m.lookup x = some v) (hP : P v)
    (hk : env.scope.kind = .function := by rfl) (hl : env.kindOf x = some .local := by rfl) (hd : (x == ("__debug__" : Str)) = false := by decide) : EvP prog w A env b (.Name x pos) P := by
  obtain ⟨mf, hn, hf⟩ := S.ns
  exact ev_local hn (hf x v hv) hP hk hl hd
theorem n_cell {x : Str} {pos : Pos} {v : Value} {P : Value → Prop} {b : Shared} (S : Sta h₀ env.locals env.cells m cm led b.heap) (hv : cm.lookup x = some v) (hP : P v)
    (hk : env.scope.kind = .function := by rfl) (hl : env.kindOf x = some .cell := by rfl) (hd : (x == ("__debug__" : Str)) = false := by decide) : EvP prog w A env b (.Name x pos) P := by
  obtain ⟨c, hc, hi⟩ := S.cell x v hv
  exact ev_cell hc hi hP hk hl hd

/- a name is bound -/
theorem bindLocal {x : Str} {v : Value} {Q : Unit → Shared → Prop} (S : Sta h₀ env.locals env.cells m cm led s.heap) (k : ∀ h' tk, s.toks ≤ tk → Sta h₀ env.locals env.cells ((x, v) :: m) cm led h' → Q () { s with heap := h', toks := tk })
    (hl : env.kindOf x = some .local := by rfl) (hk : env.scope.kind = .function := by rfl) : wpAny (model prog w) A (storeName env x v) Q E s := by
  obtain ⟨mf, hn, hf⟩ := S.ns
  exact wpAny_storeName_local hl hn (fun h' hn' hs => k h' _ (Nat.le_succ _) (S.set hf hn' hs)) (by rw [hk]; rfl)
theorem bindCell {x : Str} {v : Value} {c : Addr} {Q : Unit → Shared → Prop} (S : Sta h₀ env.locals env.cells m cm led s.heap) (hc : env.cells.lookup x = some c) (k : ∀ h' tk, s.toks ≤ tk → Sta h₀ env.locals env.cells m ((x, v) :: cm) led h' → Q () { s with heap := h', toks := tk })
    (hl : env.kindOf x = some .cell := by rfl) (hk : env.scope.kind = .function := by rfl) : wpAny (model prog w) A (storeName env x v) Q E s := by
  obtain ⟨v₀, hi⟩ := S.cellAll x c hc
  exact wpAny_storeName_cell hk hl hc hi fun h' hi' hs => k h' _ (Nat.le_refl _) (S.setCell hc hi' hs)

theorem s_assign {x : Str} {px pos : Pos} {e : Expr} {P : Value → Prop} (S : Sta h₀ env.locals env.cells m cm led s.heap) (he : EvP prog w A env s e P)
    (k : ∀ v h' tk, s.toks ≤ tk → P v → Sta h₀ env.locals env.cells ((x, v) :: m) cm led h' → wpAny (model prog w) A (execs rest env) Q E { s with heap := h', toks := tk })
    (hl : env.kindOf x = some .local := by rfl) (hk : env.scope.kind = .function := by rfl) (hs : swapsWith e (some (.Name x px)) pos.line env = pure false := by rfl) :
    wpAny (model prog w) A (execs (.Assign [.Name x px] e pos :: rest) env) Q E s := by
  refine wpAny_execs_cons (wpAny_Assign_Name (wpAny_mono (he s E (Up.refl _)) (fun v s₁ q => ?_) fun _ _ e => e) hs)
  obtain ⟨kp, p⟩ := q
  obtain ⟨h', tk, rfl, st, ht⟩ := kp.cases
  exact bindLocal (S.keeps st) (fun h'' tk' ht' S' => k v h'' tk' (Nat.le_trans ht ht') p S') hl hk
/- a name is given a thing that is new -/
theorem s_assignN {x : Str} {px pos : Pos} {e : Expr} {P : Value → List (Addr × Obj) → Prop} (S : Sta h₀ env.locals env.cells m cm led s.heap) (he : EvN prog w A env s e P)
    (k : ∀ v nw h' tk, s.toks ≤ tk → P v nw → Sta h₀ env.locals env.cells ((x, v) :: m) cm (nw ++ led) h' → wpAny (model prog w) A (execs rest env) Q E { s with heap := h', toks := tk })
    (hl : env.kindOf x = some .local := by rfl) (hk : env.scope.kind = .function := by rfl) (hs : swapsWith e (some (.Name x px)) pos.line env = pure false := by rfl) :
    wpAny (model prog w) A (execs (.Assign [.Name x px] e pos :: rest) env) Q E s := by
  refine wpAny_execs_cons (wpAny_Assign_Name (wpAny_mono (he s E (Up.refl _)) (fun v s₁ q => ?_) fun _ _ e => e) hs)
  obtain ⟨kp, nw, fr, p⟩ := q
  obtain ⟨h', tk, rfl, st, ht⟩ := kp.cases
  exact bindLocal (S.add st fr) (fun h'' tk' ht' S' => k v nw h'' tk' (Nat.le_trans ht ht') p S') hl hk
theorem s_assignC {x : Str} {px pos : Pos} {e : Expr} {P : Value → List (Addr × Obj) → Prop} (S : Sta h₀ env.locals env.cells m cm led s.heap) (he : EvN prog w A env s e P)
    (k : ∀ v nw h' tk, s.toks ≤ tk → P v nw → Sta h₀ env.locals env.cells m ((x, v) :: cm) (nw ++ led) h' → wpAny (model prog w) A (execs rest env) Q E { s with heap := h', toks := tk })
    (hc : (env.cells.lookup x).isSome = true := by rfl) (hl : env.kindOf x = some .cell := by rfl) (hk : env.scope.kind = .function := by rfl) (hs : swapsWith e (some (.Name x px)) pos.line env = pure false := by rfl) :
    wpAny (model prog w) A (execs (.Assign [.Name x px] e pos :: rest) env) Q E s := by
  obtain ⟨c, hc⟩ := Option.isSome_iff_exists.mp hc
  refine wpAny_execs_cons (wpAny_Assign_Name (wpAny_mono (he s E (Up.refl _)) (fun v s₁ q => ?_) fun _ _ e => e) hs)
  obtain ⟨kp, nw, fr, p⟩ := q
  obtain ⟨h', tk, rfl, st, ht⟩ := kp.cases
  exact bindCell (S.add st fr) hc (fun h'' tk' ht' S' => k v nw h'' tk' (Nat.le_trans ht ht') p S') hl hk

theorem s_aug {x : Str} {px pos : Pos} {op : Operator} {e : Expr} {u : Value} {P R : Value → Prop} (S : Sta h₀ env.locals env.cells m cm led s.heap) (hu : m.lookup x = some u) (he : EvP prog w A env s e P)
    (ho : ∀ v s E, P v → wpAny (model prog w) A (inplaceOp op u v) (fun r s' => Keeps s s' ∧ R r) E s)
    (k : ∀ v h' tk, s.toks ≤ tk → R v → Sta h₀ env.locals env.cells ((x, v) :: m) cm led h' → wpAny (model prog w) A (execs rest env) Q E { s with heap := h', toks := tk })
    (hl : env.kindOf x = some .local := by rfl) (hk : env.scope.kind = .function := by rfl) :
    wpAny (model prog w) A (execs (.AugAssign (.Name x px) op e pos :: rest) env) Q E s := by
  obtain ⟨mf, hn, hf⟩ := S.ns
  refine wpAny_execs_cons (wpAny_AugAssign_Name (wpAny_loadName_local hk hl hn (hf x u hu) (wpAny_mono (he s E (Up.refl _)) (fun v s₁ q => ?_) fun _ _ e => e)))
  refine wpAny_mono (ups (ho v s₁ E q.2)) (fun r s₂ q₂ => ?_) fun _ _ e => e
  obtain ⟨h', tk, rfl, st, ht⟩ := (q.1.trans q₂.1).cases
  exact bindLocal (S.keeps st) (fun h'' tk' ht' S' => k r h'' tk' (Nat.le_trans ht ht') q₂.2 S') hl hk

theorem s_return {e : Expr} {pos : Pos} {T : Value → Shared → Shared → Prop} (he : Ev prog w A env s e T)
    (k : ∀ v h' tk, s.toks ≤ tk → s.heap.StaysIn h' → T v s { s with heap := h', toks := tk } → Q (.ret v) { s with heap := h', toks := tk }) : wpAny (model prog w) A (execs (.Return (some e) pos :: rest) env) Q E s := by
  refine wpAny_execs_cons (wpAny_Return_some (wpAny_mono (he s E (Up.refl _)) (fun v s₁ q => ?_) fun _ _ e => e))
  obtain ⟨kp, p⟩ := q
  obtain ⟨h', tk, rfl, st, ht⟩ := kp.cases
  exact k v h' tk ht st p

/- a test; its two ways -/
theorem s_if {t : Expr} {x y : List Stmt} {pos : Pos} {c : Bool} (ht : EvT prog w A env s t c)
    (k : ∀ h' tk, s.toks ≤ tk → s.heap.StaysIn h' → wpAny (model prog w) A (execs (if c then x else y) env) (fun f s' => match f with | .next => wpAny (model prog w) A (execs rest env) Q E s' | f => Q f s') E { s with heap := h', toks := tk }) :
    wpAny (model prog w) A (execs (.If t x y pos :: rest) env) Q E s := by
  refine wpAny_execs_cons (wpAny_If (wpAny_mono (ht s E (Up.refl _)) (fun c' s₁ q => ?_) fun _ _ e => e))
  obtain ⟨kp, rfl⟩ := q
  obtain ⟨h', tk, rfl, st, ht⟩ := kp.cases
  have := k h' tk ht st
  cases c' <;> exact this
theorem s_nil (h : Q .next s) : wpAny (model prog w) A (execs [] env) Q E s := wpAny_execs_nil h
/- a call whose value is dropped; what it hands back is no object -/
theorem s_expr {e : Expr} {pos : Pos} (he : wpAny (model prog w) A (eval e env) (fun v s' => (∀ a, v ≠ .ref a) ∧ wpAny (model prog w) A (execs rest env) Q E s') E s)
    (hi : interactive env = false := by rfl) (hs : swapsWith e none pos.line env = pure false := by rfl) : wpAny (model prog w) A (execs (.Expr e pos :: rest) env) Q E s := by
  refine wpAny_execs_cons (wpAny_Expr (wpAny_mono he (fun v s' q => ?_) fun _ _ e => e) hi hs)
  obtain ⟨hv, q⟩ := q
  cases v <;> first | exact q | exact absurd rfl (hv _)
end
end

/- B4 -/
/- iterations: what is walked; list comprehensions; loops -/
section
open PySem PySem.W PyProof.Rows PySem.Calls

structure IterAt (prog : Program) (w : World) (A : Around) (I : Addr) (base : List Addr) (n : Nat) (P : Nat → Value → Prop) (St : Nat → Heap → Prop) : Prop where
  W : Walks prog w A I (I :: base) [I] n P St
  here : ∀ i h, St i h → ∃ o, h.get? I = some o
noncomputable def IterOf (prog : Program) (w : World) (A : Around) (h : Heap) (v : Value) (base : List Addr) (n : Nat) (P : Nat → Value → Prop) : Prop :=
  (∀ b ∈ base, ∃ o, h.get? b = some o) ∧
  ∀ (s : Shared) (E : Value → Shared → Prop) (Q : Value → Shared → Prop), h.StaysIn s.heap →
    (∀ I St h', IterAt prog w A I base n P St → St 0 h' → s.heap.StaysIn h' → s.heap.get? I = none → Q (.ref I) { s with heap := h' }) → wpAny (model prog w) A (pyIter v) Q E s

noncomputable abbrev LO (ys : List Value) (n : Nat) : Obj := { cls := .type "list", data := .seq ys.toArray n }

section
variable {prog : Program} {w : World} {A : Around} {env : Env} {h : Heap} {b : Shared}

theorem iter_list (hh : A.handled = none) {l : Addr} {items : Array Value} (hl : h.IsList l items) : IterOf prog w A h (.ref l) [l] items.size (fun i v => items[i]? = some v) := by
  refine ⟨fun b hb => by rw [List.mem_singleton.mp hb]; obtain ⟨o, ho, _⟩ := hl; exact ⟨o, ho⟩, fun s E Q st k => ?_⟩
  have hls : s.heap.IsList l items := hl.at fun o e => st l o e
  obtain ⟨ol, hol, _⟩ := id hls
  refine wpAny_pyIter_list hls ?_
  have hne : l ≠ s.heap.objs.size := Nat.ne_of_lt (Heap.lt_size hol)
  have W := Walks.list (prog := prog) (w := w) hh s.heap.objs.size l hne items
  refine k s.heap.objs.size _ _ ⟨W, fun i h x => by obtain ⟨⟨o, ho, _⟩, _⟩ := x; exact ⟨o, ho⟩⟩ ⟨⟨_, Heap.get?_push_size _ rfl, rfl, rfl⟩, hls.push _⟩ (fun b o e => Heap.get?_push_of_some _ e) ?_
  cases q : s.heap.get? s.heap.objs.size with
  | none => rfl
  | some o => exact absurd (Heap.lt_size q) (Nat.lt_irrefl _)

/- the tests of a comprehension -/
noncomputable def TestsTo (prog : Program) (w : World) (A : Around) (env : Env) (b : Shared) (ifs : List Expr) (c : Bool) : Prop :=
  ∀ s E, Up b s → wpAny (model prog w) A (forIn ifs true fun c r => if r = true then do let ok ← isTrue c env (eval c env); pure (ForInStep.yield ok) else pure (ForInStep.yield r)) (fun ok s' => Kp s s' ∧ ok = c) E s
theorem tests_nil : TestsTo prog w A env b [] true := fun s _ _ => wpAny_tests_nil ⟨Kp.refl s, rfl⟩
theorem tests_one {t : Expr} {c : Bool} (hc : EvT prog w A env b t c) : TestsTo prog w A env b [t] c := fun s E st => wpAny_tests_one (hc s E st)

/- the items that pass, what is made of them, what is new -/
inductive Made3 (p : Value → Bool) (F : Value → Value → List (Addr × Obj) → Prop) : List Value → List Value → List (Addr × Obj) → Prop
  | nil : Made3 p F [] [] []
  | skip {vs ys nw v} : Made3 p F vs ys nw → p v = false → Made3 p F (vs ++ [v]) ys nw
  | take {vs ys nw v y nw'} : Made3 p F vs ys nw → p v = true → F v y nw' → Made3 p F (vs ++ [v]) (ys ++ [y]) (nw' ++ nw)
theorem Made3.length {p : Value → Bool} {F : Value → Value → List (Addr × Obj) → Prop} {vs ys : List Value} {nw : List (Addr × Obj)} (x : Made3 p F vs ys nw) : ys.length ≤ vs.length := by
  induction x with
  | nil => exact Nat.le_refl _
  | skip _ _ ih => simp only [List.length_append, List.length_singleton]; lia
  | take _ _ _ ih => simp only [List.length_append, List.length_singleton]; lia

theorem list_append_at {s : Shared} {l : Addr} {ys : List Value} {n : Nat} {x : Value} {Q : Value → Shared → Prop} {E : Value → Shared → Prop} (hl : s.heap.get? l = some (LO ys n)) (hsz : ys.length ≤ sizeLine)
    (hQ : ∀ h' n', h'.get? l = some (LO (ys ++ [x]) n') → Heap.SameBut l s.heap h' → Q .none { s with heap := h' }) : wpAny (model prog w) A (call (.builtin "list.append") [.ref l, x]) Q E s := by
  have hil : s.heap.IsList l ys.toArray := ⟨_, hl, rfl, n, rfl⟩
  refine wpAny_call_entry slot_list_append hil.typeIs entry_list_append ?_ (args_list_append _ _)
  show wpAny _ _ (updateSeq l (·.push x) >>= fun _ => ret .none) _ _ s
  refine wpAny_bind ?_
  refine wpAny_updateSeq (hz := by simpa using hsz) hl rfl (wpAny_pure ⟨.none, rfl, hQ _ (if (ys.toArray.push x).size == ys.toArray.size then n else n + 1) ?_ (Heap.SameBut.update ..)⟩)
  have := Heap.get?_update_self (Obj.mapSeq fun a => a.push x) hl rfl
  rw [this]
  simp only [Obj.mapSeq, List.push_toArray, List.size_toArray]

noncomputable def ItE (prog : Program) (w : World) (A : Around) (env : Env) (b : Shared) (iter : Expr) (n : Nat) (P : Nat → Value → Prop) : Prop :=
  Ev prog w A env b iter (fun v _ s' => ∃ base, IterOf prog w A s'.heap v base n P)
theorem IterOf.up {h h' : Heap} {v : Value} {base : List Addr} {n : Nat} {P : Nat → Value → Prop} (x : IterOf prog w A h v base n P) (k : h.StaysIn h') : IterOf prog w A h' v base n P :=
  ⟨fun b hb => let ⟨o, e⟩ := x.1 b hb; ⟨o, k _ _ e⟩, fun s E Q st q => x.2 s E Q (stays_trans k st) q⟩
theorem it_of {iter : Expr} {iv : Value} {base : List Addr} {n : Nat} {P : Nat → Value → Prop} (hi : EvP prog w A env b iter (· = iv)) (hI : IterOf prog w A b.heap iv base n P) : ItE prog w A env b iter n P :=
  Ev.mono hi fun v s s' up kp e => ⟨base, by subst e; exact hI.up (stays_trans up.st kp.up.st)⟩
/- a list comprehension over one source -/
theorem ev_compI {elt iter : Expr} {x : Str} {px pos : Pos} {ifs : List Expr} {scope : Scope} {cl : List (Str × Addr)} {n : Nat} {P : Nat → Value → Prop} (p : Value → Bool) (F : Value → Value → List (Addr × Obj) → Prop)
    (hclos : closureFor scope env = pure cl) (hi : ItE prog w A env b iter n P) (hn : n ≤ sizeLine)
    (ht : ∀ C b' m i v, P i v → Up b b' → b'.heap.Ns C m → m x = some v → TestsTo prog w A (compEnvC scope cl C env) b' ifs (p v))
    (he : ∀ C b' m i v, P i v → p v = true → Up b b' → b'.heap.Ns C m → m x = some v → EvN prog w A (compEnvC scope cl C env) b' elt (F v))
    (hcell : ∀ y ∈ scope.names, y.2 ≠ .cell) (hkind : scope.kind = .function) (hnames : ∀ y ∈ scope.names, y.2 = .local → scope.names.lookup y.1 = some .local) (hx : scope.names.lookup x = some .local)
    (hs : ∀ x, foldedSetIterable iter env x = pure x := by intro _; rfl) :
    EvN prog w A env b (.ListComp elt [⟨.Name x px, iter, ifs, 0⟩] scope pos) (fun r nw => ∃ D ys k vs nw', r = .ref D ∧ nw = (D, LO ys k) :: nw' ∧ vs.length = n ∧ (∀ j v, vs[j]? = some v → P j v) ∧ Made3 p F vs ys nw') := by
  refine ev_of fun s E st => ?_
  rw [eval_ListComp]
  refine wpAny_comprehension_free (use := none) rfl hs hclos hkind hnames (wpAny_mono (hi s E st) (fun xv s₁ q₁ => ?_) fun _ _ e => e)
  obtain ⟨kp₁, base, hI⟩ := q₁
  obtain ⟨h₁, tk₁, rfl, st₁, ht₁⟩ := kp₁.cases
  refine hI.2 _ _ _ (stays_refl _) fun I St h₂ IT hst st₂ hI₀ => ?_
  dsimp only at st₂ hI₀ ⊢
  have W := IT.W
  refine wpAny_newObj_type (wpAny_newFunctionEnv hcell (by intro y hy; simp at hy) (fun h₃ hns₃ hsb₃ => ?_) hkind)
  dsimp only at hns₃ hsb₃ ⊢
  generalize hH2 : h₂.push { cls := .type "list", dict := none, data := .seq ([] : List Value).toArray } = H2 at hns₃ hsb₃ ⊢
  have hC : H2.objs.size = h₂.objs.size + 1 := by rw [← hH2, Heap.size_push]
  generalize hCe : H2.objs.size = C at hns₃ hsb₃ hC ⊢
  generalize hDe : h₂.objs.size = D at hC ⊢
  obtain ⟨oI, hoI⟩ := IT.here 0 h₂ hst
  have hId : (I : Nat) < D := hDe ▸ Heap.lt_size hoI
  have ltC : ∀ b : Nat, b < D → b < C := fun b hb => by rw [hC]; exact Nat.lt_succ_of_lt hb
  have hDC : D ≠ C := Nat.ne_of_lt (by rw [hC]; exact Nat.lt_succ_self _)
  have hIC : I ≠ C := Nat.ne_of_lt (ltC _ hId)
  have hID : I ≠ D := Nat.ne_of_lt hId
  have baseLt : ∀ b ∈ base, b ≠ C ∧ b ≠ D := fun b hb => by
    obtain ⟨o, ho⟩ := hI.1 b hb
    have hlt : (b : Nat) < D := hDe ▸ Heap.lt_size (st₂ _ _ ho)
    exact ⟨Nat.ne_of_lt (ltC _ hlt), Nat.ne_of_lt hlt⟩
  have below : ∀ b o, h₂.get? b = some o → b ≠ C ∧ b ≠ D := fun b o e => by
    have hlt : (b : Nat) < D := hDe ▸ Heap.lt_size e
    exact ⟨Nat.ne_of_lt (ltC _ hlt), Nat.ne_of_lt hlt⟩
  have old : ∀ b o, h₂.get? b = some o → h₃.get? b = some o := fun b o e => hsb₃.extBut b o (below b o e).1 (Heap.get?_push_of_some _ (by rw [← hH2]; exact Heap.get?_push_of_some _ e))
  have hacc : h₃.get? D = some (LO [] 0) := hsb₃.extBut _ _ hDC (Heap.get?_push_of_some _ (by rw [← hH2, ← hDe]; exact Heap.get?_push_size _ rfl))
  have hst₃ : St 0 h₃ := W.frame _ _ _ hst fun b _ o e => old b o e
  have gone : ∀ b : Addr, D ≤ (b : Nat) → s.heap.get? b = none := fun b hb => by
    cases e : s.heap.get? b with
    | none => rfl
    | some o =>
      have hlt : (b : Nat) < D := hDe ▸ Heap.lt_size (st₂ _ _ (st₁ _ _ e))
      exact absurd hlt (Nat.not_lt.mpr hb)
  have toH : ∀ h', (∀ b o, b ≠ C → b ≠ I → b ≠ D → h₂.get? b = some o → h'.get? b = some o) → s.heap.StaysIn h' := fun h' hk b o e => by
    have e₂ := st₂ _ _ (st₁ _ _ e)
    refine hk b o (below b o e₂).1 (fun q => ?_) (below b o e₂).2 e₂
    have e₁ := st₁ _ _ e
    rw [q, hI₀] at e₁; cases e₁
  have loop : ∀ s₃ : Shared, s₃ = { s with heap := h₃, toks := tk₁ + ([] : List (Str × Value)).length } →
      codeAny (model prog w) A (.compLoop (.ListComp elt [⟨.Name x px, iter, ifs, 0⟩] scope pos) 0 (.ref I) (.ref D) (compEnvC scope cl C env))
        (compPost (model prog w) A E none (fun v s' => Keeps s s' ∧ ∃ nw, NewIn s.heap s'.heap nw ∧ ∃ D ys k vs nw', v = .ref D ∧ nw = (D, LO ys k) :: nw' ∧ vs.length = n ∧ (∀ j v, vs[j]? = some v → P j v) ∧ Made3 p F vs ys nw') (.ref D) C) s₃ := by
    rintro s₃ rfl
    refine codeAny_compLoop_tests (fun k s' => ∃ h' tk m' vs ys nk nw', s' = { s with heap := h', toks := tk } ∧ s.toks ≤ tk ∧ vs.length ≤ n ∧ k = n + 1 - vs.length ∧ St vs.length h' ∧ h'.Ns C m' ∧ h'.get? D = some (LO ys nk) ∧
        (∀ j v, vs[j]? = some v → P j v) ∧ Made3 p F vs ys nw' ∧ (∀ b o, b ≠ C → b ≠ I → b ≠ D → h₂.get? b = some o → h'.get? b = some o) ∧
        (∀ q ∈ nw', h'.get? q.1 = some q.2 ∧ s.heap.get? q.1 = none ∧ q.1 ≠ C ∧ q.1 ≠ D ∧ q.1 ≠ I) ∧ (nw'.map (·.1)).Nodup) ?_ (n + 1)
      ⟨h₃, _, _, [], [], 0, [], rfl, Nat.le_trans ht₁ (Nat.le_add_right _ _), Nat.zero_le _, rfl, hst₃, hns₃, hacc, fun j v e => by simp at e, .nil, fun b o _ _ _ e => old b o e, (fun q hq => nomatch hq), List.nodup_nil⟩
    intro k s' hq; obtain ⟨h', tk, m', vs, ys, nk, nw', rfl, htk, hle, rfl, hst', hn', hD', hP', hM', hk', hnw, hnod⟩ := hq
    by_cases hlt : vs.length < n
    · refine wpAny_mono (wpAny_toks_of (n := s.toks) htk (W.item vs.length { s with heap := h', toks := tk } (fun r s₁ => ∃ v h₄ tk₄, r = some v ∧ s₁ = { s with heap := h₄, toks := tk₄ } ∧ P vs.length v ∧ St (vs.length + 1) h₄ ∧ (∀ b o, b ∉ [I] → h'.get? b = some o → h₄.get? b = some o)) _ hlt hst'
        fun v h₄ tk₄ a b c => ⟨v, h₄, tk₄, rfl, rfl, a, b, c⟩)) (fun r s₁ q => ?_) (fun _ _ q => q.2)
      obtain ⟨htk₄, v, h₄, tk₄, rfl, rfl, hPv, hst₄, hk₄⟩ := q
      dsimp only at htk₄ ⊢
      have hk₄' : ∀ b o, b ≠ I → h'.get? b = some o → h₄.get? b = some o := fun b o hb e => hk₄ b o (by simpa using hb) e
      refine wpAny_assign_Name (wpAny_storeName_local (lookup_relabel_local hx) (hn'.at' fun o e => hk₄' _ o (Ne.symm hIC) e) (fun h₅ hn₅ hs₅ => ?_) (by simp [compEnvC, relabel, hkind]))
      have hs₅' : ∀ b o, b ≠ C → h₄.get? b = some o → h₅.get? b = some o := fun b o hb e => hs₅.extBut b o hb e
      have st₅ : s.heap.StaysIn h₅ := toH h₅ fun b o h1 h2 h3 e => hs₅' b o h1 (hk₄' b o h2 (hk' b o h1 h2 h3 e))
      have stU : Up b { s with heap := h₅, toks := tk₄ + 1 } := ⟨stays_trans st.st st₅, Nat.le_trans st.tk (Nat.le_succ_of_le htk₄)⟩
      have hst₅ : St (vs.length + 1) h₅ := W.frame _ _ _ hst₄ fun b hb o e => hs₅' b o (by
        rcases List.mem_cons.mp hb with rfl | hb
        · exact hIC
        · exact (baseLt b hb).1) e
      have hm₅ : (fun y => if y = x then some v else m' y) x = some v := by simp
      refine wpAny_mono (ht C { s with heap := h₅, toks := tk₄ + 1 } _ _ v hPv stU hn₅ hm₅ _ _ (Up.refl _)) (fun ok s₆ q₆ => ?_) fun _ _ e => e
      obtain ⟨kp₆, rfl⟩ := q₆
      have up₆' := kp₆.up
      obtain ⟨h₆, tk₆, rfl, st₆, htk₆⟩ := kp₆.cases
      dsimp only at st₆ htk₆
      have htk₆' : s.toks ≤ tk₆ := Nat.le_trans (Nat.le_succ_of_le htk₄) htk₆
      have hst₆ : St (vs.length + 1) h₆ := W.frame _ _ _ hst₅ fun b _ o e => st₆ b o e
      have hPs : ∀ j u, (vs ++ [v])[j]? = some u → P j u := fun j u hj => by
        rcases Nat.lt_trichotomy j vs.length with hl | hl | hl
        · exact hP' j u (by rwa [List.getElem?_append_left hl] at hj)
        · subst hl; simp at hj; subst hj; exact hPv
        · have : (vs ++ [v])[j]? = none := List.getElem?_eq_none (by rw [List.length_append, List.length_singleton]; lia)
          rw [this] at hj; cases hj
      have up₆ : ∀ b o, b ≠ C → b ≠ I → h'.get? b = some o → h₆.get? b = some o := fun b o h1 h2 e => st₆ b o (hs₅' b o h1 (hk₄' b o h2 e))
      have hnw₆ : ∀ q ∈ nw', h₆.get? q.1 = some q.2 ∧ s.heap.get? q.1 = none ∧ q.1 ≠ C ∧ q.1 ≠ D ∧ q.1 ≠ I := fun q hq => by
        obtain ⟨a, b, c, d, e⟩ := hnw q hq
        exact ⟨up₆ _ _ c e a, b, c, d, e⟩
      have hD₆ : h₆.get? D = some (LO ys nk) := up₆ D _ hDC (Ne.symm hID) hD'
      cases hpv : p v with
      | false =>
        simp only [Bool.false_eq_true, if_false]
        refine ⟨n + 1 - (vs.length + 1), by lia, h₆, tk₆, _, vs ++ [v], ys, nk, nw', rfl, htk₆', by simp; lia, by simp, by simpa using hst₆, hn₅.keeps st₆, hD₆, hPs, hM'.skip hpv, fun b o h1 h2 h3 e => up₆ b o h1 h2 (hk' b o h1 h2 h3 e), hnw₆, hnod⟩
      | true =>
        simp only [if_true]
        refine wpAny_mono (he C _ _ _ v hPv hpv (stU.trans up₆') (hn₅.keeps st₆) hm₅ _ _ (Up.refl _)) (fun y s₇ q₇ => ?_) fun _ _ e => e
        obtain ⟨kp₇, nwy, fr, hF⟩ := q₇
        obtain ⟨h₇, tk₇, rfl, st₇, htk₇⟩ := kp₇.cases
        dsimp only at st₇ fr htk₇
        have hD₇ : h₇.get? D = some (LO ys nk) := st₇ _ _ hD₆
        have hlen := hM'.length
        refine list_append_at hD₇ (by lia) fun h₈ n₈ hD₈ hs₈ => ?_
        have hs₈' : ∀ b o, b ≠ D → h₇.get? b = some o → h₈.get? b = some o := fun b o hb e => hs₈.extBut b o hb e
        obtain ⟨oC, _, _, hoC, _⟩ := id hn₅
        obtain ⟨oI₆, hoI₆⟩ := IT.here _ _ hst₆
        refine ⟨n + 1 - (vs.length + 1), by lia, h₈, tk₇, _, vs ++ [v], ys ++ [y], n₈, nwy ++ nw', rfl, Nat.le_trans htk₆' htk₇, by simp; lia, by simp, ?_, ((hn₅.keeps st₆).keeps st₇).at' fun o e => hs₈' _ o (Ne.symm hDC) e, hD₈, hPs, hM'.take hpv hF,
          fun b o h1 h2 h3 e => hs₈' b o h3 (st₇ b o (up₆ b o h1 h2 (hk' b o h1 h2 h3 e))), fun q hq => ?_, ?_⟩
        · have : St (vs.length + 1) h₈ := W.frame _ _ _ hst₆ fun b hb o e => hs₈' b o (by
            rcases List.mem_cons.mp hb with rfl | hb
            · exact hID
            · exact (baseLt b hb).2) (st₇ b o e)
          simpa using this
        · rcases List.mem_append.mp hq with hq | hq
          · obtain ⟨a, b⟩ := fr.1 q hq
            have neD : q.1 ≠ D := fun e => by rw [e, hD₆] at b; cases b
            refine ⟨hs₈' _ _ neD a, ?_, fun e => ?_, neD, fun e => ?_⟩
            · cases e : s.heap.get? q.1 with
              | none => rfl
              | some o => rw [st₆ _ _ (st₅ _ _ e)] at b; cases b
            · have hoC₆ : h₆.get? C = some oC := st₆ _ _ hoC
              rw [e, hoC₆] at b; cases b
            · rw [e, hoI₆] at b; cases b
          · obtain ⟨a, b, c, d, e⟩ := hnw₆ q hq
            exact ⟨hs₈' _ _ d (st₇ _ _ a), b, c, d, e⟩
        · rw [List.map_append, List.nodup_append]
          refine ⟨fr.2, hnod, fun a ha b hb e => ?_⟩
          obtain ⟨q, hq, rfl⟩ := List.mem_map.mp ha
          obtain ⟨r, hr, e2⟩ := List.mem_map.mp hb
          have h1 := (fr.1 q hq).2
          have h2 := (hnw₆ r hr).1
          rw [e2, ← e, h1] at h2; cases h2
    · have hin : vs.length = n := by lia
      refine W.done _ _ _ (hin ▸ hst') fun h₄ tk₄ hk₄ => ?_
      have hk₄' : ∀ b o, b ≠ I → h'.get? b = some o → h₄.get? b = some o := fun b o hb e => hk₄ b o (by simpa using hb) e
      refine ⟨m', hn'.at' fun o e => hk₄' _ o (Ne.symm hIC) e, fun h₅ hs₅ => ?_⟩
      have hs₅' : ∀ b o, b ≠ C → h₄.get? b = some o → h₅.get? b = some o := fun b o hb e => hs₅.extBut b o hb e
      refine ⟨⟨h₅, tk₄, rfl, toH h₅ fun b o h1 h2 h3 e => hs₅' b o h1 (hk₄' b o h2 (hk' b o h1 h2 h3 e))⟩, (D, LO ys nk) :: nw', ⟨fun q hq => ?_, ?_⟩, D, ys, nk, vs, nw', rfl, rfl, hin, hP', hM'⟩
      · rcases List.mem_cons.mp hq with rfl | hq
        · exact ⟨hs₅' _ _ hDC (hk₄' _ _ (Ne.symm hID) hD'), gone D (Nat.le_refl _)⟩
        · obtain ⟨a, b, c, d, e⟩ := hnw q hq
          exact ⟨hs₅' _ _ c (hk₄' _ _ e a), b⟩
      · rw [List.map_cons, List.nodup_cons]
        refine ⟨fun hm => ?_, hnod⟩
        obtain ⟨q, hq, e⟩ := List.mem_map.mp hm
        exact (hnw q hq).2.2.2.1 e
  exact codeAny_compStart_list (loop _ rfl) (W.self 0 _ _ _ hst₃ (loop _ rfl))
/- a list comprehension over one source -/
theorem ev_comp {elt iter : Expr} {x : Str} {px pos : Pos} {ifs : List Expr} {scope : Scope} {cl : List (Str × Addr)} {iv : Value} {base : List Addr} {n : Nat} {P : Nat → Value → Prop} (p : Value → Bool) (F : Value → Value → List (Addr × Obj) → Prop)
    (hclos : closureFor scope env = pure cl) (hi : EvP prog w A env b iter (· = iv)) (hI : IterOf prog w A b.heap iv base n P) (hn : n ≤ sizeLine)
    (ht : ∀ C b' m i v, P i v → Up b b' → b'.heap.Ns C m → m x = some v → TestsTo prog w A (compEnvC scope cl C env) b' ifs (p v))
    (he : ∀ C b' m i v, P i v → p v = true → Up b b' → b'.heap.Ns C m → m x = some v → EvN prog w A (compEnvC scope cl C env) b' elt (F v))
    (hcell : ∀ y ∈ scope.names, y.2 ≠ .cell) (hkind : scope.kind = .function) (hnames : ∀ y ∈ scope.names, y.2 = .local → scope.names.lookup y.1 = some .local) (hx : scope.names.lookup x = some .local)
    (hs : ∀ x, foldedSetIterable iter env x = pure x := by intro _; rfl) :
    EvN prog w A env b (.ListComp elt [⟨.Name x px, iter, ifs, 0⟩] scope pos) (fun r nw => ∃ D ys k vs nw', r = .ref D ∧ nw = (D, LO ys k) :: nw' ∧ vs.length = n ∧ (∀ j v, vs[j]? = some v → P j v) ∧ Made3 p F vs ys nw') :=
  ev_compI p F hclos (it_of hi hI) hn ht he hcell hkind hnames hx hs
end
end

/- B5 -/
/- loops -/
section
open PySem PySem.W PyProof.Rows PySem.Calls

section
variable {prog : Program} {w : World} {A : Around} {env : Env}

theorem for_core {target : Expr} {it : Value} {body : List Stmt} {R : Result → Shared → Prop} (n : Nat) (I : Nat → Shared → Prop)
    (step : ∀ i s, i < n → I i s → wpAny (model prog w) A (pyNext it) (fun r s₁ => ∃ v, r = some v ∧ wpAny (model prog w) A (letOwnedTupleGo target it v) (fun _ s₂ => wpAny (model prog w) A (assign target env v) (fun _ s₃ =>
      wpAny (model prog w) A (execs body env) (fun f s₄ => match f with
        | .next | .cont => I (i + 1) s₄
        | .brk => R (.ok .next) s₄
        | .ret v => R (.ok (.ret v)) s₄) (notedBy (model prog w) A env fun e s' => R (.error e) s') s₃) (notedBy (model prog w) A env fun e s' => R (.error e) s') s₂) (notedBy (model prog w) A env fun e s' => R (.error e) s') s₁) (notedBy (model prog w) A env fun e s' => R (.error e) s') s)
    (fin : ∀ s, I n s → wpAny (model prog w) A (pyNext it) (fun r s₁ => r = none ∧ R (.ok .next) s₁) (notedBy (model prog w) A env fun e s' => R (.error e) s') s)
    {s : Shared} (h : I 0 s) : codeAny (model prog w) A (.forLoop target it body [] env) R s := by
  refine codeAny_loop' rfl (fun k s => ∃ i, i ≤ n ∧ k = n + 1 - i ∧ I i s) (fun k s hI => ?_) (n + 1) ⟨0, Nat.zero_le _, rfl, h⟩
  obtain ⟨i, hi, rfl, hI⟩ := hI
  show wpAny _ _ ((forTurn target it body [] env).onRaise (fun x => do noteFrame x env; theTreesLotGoes x)) _ _ s
  refine wpAny_noted ?_
  simp only [forTurn]
  refine wpAny_bind (wpAny_standAt (wpAny_bind (wpAny_onRaise ?_)))
  by_cases hlt : i < n
  · refine wpAny_mono (step i s hlt hI) (fun r s₁ h₁ => ?_) fun _ _ h' => wpAny_standAt h'
    obtain ⟨v, rfl, h₁⟩ := h₁
    refine wpAny_bind (wpAny_mono h₁ (fun _ s₂ h₂ => ?_) fun _ _ h' => h')
    refine wpAny_bind (wpAny_mono h₂ (fun _ s₃ h₃ => wpAny_bind (wpAny_mono h₃ (fun f s₄ h₄ => ?_) fun _ _ h' => h')) fun _ _ h' => h')
    cases f with
    | next => exact wpAny_pure (.inl ⟨rfl, n + 1 - (i + 1), by lia, i + 1, hlt, rfl, h₄⟩)
    | cont => exact wpAny_pure (.inl ⟨rfl, n + 1 - (i + 1), by lia, i + 1, hlt, rfl, h₄⟩)
    | brk => exact wpAny_pure h₄
    | ret v => exact wpAny_pure h₄
  · have hin : i = n := by lia
    subst hin
    refine wpAny_mono (fin s hI) (fun r s₁ h₁ => ?_) fun _ _ h' => wpAny_standAt h'
    obtain ⟨rfl, h₁⟩ := h₁
    exact wpAny_pure (.inr ⟨rfl, codeAny_block (wpAny_execs_nil h₁)⟩)
end

/- the end of a loop's turn -/
noncomputable def TurnEnd (h₀ : Heap) (env : Env) (J : List (Str × Value) → List (Str × Value) → List (Addr × Obj) → Prop) (I : Addr × Obj) (Q : Flow → Shared → Prop) (s : Shared) (f : Flow) (s' : Shared) : Prop :=
  match f with
  | .next | .cont => ∃ h' tk m cm led, s' = { s with heap := h', toks := tk } ∧ s.toks ≤ tk ∧ Sta h₀ env.locals env.cells m cm (I :: led) h' ∧ J m cm led
  | .brk => False
  | .ret v => Q (.ret v) s'

section
variable {prog : Program} {w : World} {A : Around} {env : Env} {h₀ : Heap} {m cm : List (Str × Value)} {led : List (Addr × Obj)} {s : Shared} {rest : List Stmt} {Q : Flow → Shared → Prop} {E : Value → Shared → Prop}

theorem Sta.snocI {L : Addr} {cs : List (Str × Addr)} {h h' : Heap} {I : Addr} {oI oI' : Obj} (S : Sta h₀ L cs m cm ((I, oI) :: led) h) (hs : ∀ b x, b ≠ I → h.get? b = some x → h'.get? b = some x) (ho : h'.get? I = some oI') : Sta h₀ L cs m cm ((I, oI') :: led) h' :=
  S.turn (pre := []) rfl hs ho
theorem Sta.tail {L : Addr} {cs : List (Str × Addr)} {h : Heap} {p : Addr × Obj} (S : Sta h₀ L cs m cm (p :: led) h) : Sta h₀ L cs m cm led h :=
  S.drop (fun _ hp => List.mem_cons_of_mem _ hp) (by have := S.nod; rw [List.map_cons, List.nodup_cons] at this; exact this.2)
/- the iterator gone, whatever it has become -/
theorem Sta.tailBut {L : Addr} {cs : List (Str × Addr)} {h h' : Heap} {I : Addr} {oI : Obj} (S : Sta h₀ L cs m cm ((I, oI) :: led) h) (hs : ∀ b x, b ≠ I → h.get? b = some x → h'.get? b = some x) : Sta h₀ L cs m cm led h' := by
  have S' := S.tail
  have hm := S.objs (I, oI) (List.mem_cons_self)
  have hnod := S.nod
  rw [List.map_cons, List.nodup_cons] at hnod
  refine { S' with ns := ?_, keep := fun b x e => hs b x (fun q => ?_) (S.keep b x e), cell := fun y u e => ?_, cellAll := fun y c e => ?_, objs := fun p hp => ?_ }
  · obtain ⟨mf, ⟨oL, es, ep, hL, r⟩, b⟩ := S.ns
    exact ⟨mf, ⟨oL, es, ep, hs _ _ (Ne.symm hm.2.2.1) hL, r⟩, b⟩
  · have := hm.2.1; rw [q] at e; rw [e] at this; cases this
  · obtain ⟨c, hc, oc, hoc, hd⟩ := S.cell y u e
    exact ⟨c, hc, oc, hs _ _ (fun q => hm.2.2.2 y c (mem_of_lookup hc) q.symm) hoc, hd⟩
  · obtain ⟨v, oc, hoc, hd⟩ := S.cellAll y c e
    exact ⟨v, oc, hs _ _ (fun q => hm.2.2.2 y c (mem_of_lookup e) q.symm) hoc, hd⟩
  · have q := S'.objs p hp
    exact ⟨hs _ _ (fun e => hnod.1 (List.mem_map.mpr ⟨p, hp, e⟩)) q.1, q.2⟩

/- the loop behind its source: the names that a turn binds are told by hbd -/
theorem loop_over {target : Expr} {iv : Value} {body : List Stmt} {base : List Addr} {n : Nat} {P : Nat → Value → Prop} (J : Nat → List (Str × Value) → List (Str × Value) → List (Addr × Obj) → Prop)
    (B : Value → List (Str × Value) → List (Str × Value) → List (Str × Value) → List (Str × Value) → Prop)
    (S : Sta h₀ env.locals env.cells m cm led s.heap) (hI : IterOf prog w A s.heap iv base n P) (h0 : J 0 m cm led)
    (hbase : ∀ b ∈ base, ∃ o, ∀ i m cm led h, J i m cm led → Sta h₀ env.locals env.cells m cm led h → h.get? b = some o)
    (hgo : ∀ (I : Addr) (St : Nat → Heap → Prop), IterAt prog w A I base n P St → ∀ i v (s₁ : Shared) (Q' : Unit → Shared → Prop) E', St (i + 1) s₁.heap → P i v → Q' () s₁ → wpAny (model prog w) A (letOwnedTupleGo target (.ref I) v) Q' E' s₁)
    (hbd : ∀ i v m₁ cm₁ led₁ led₂ (s₁ : Shared) (Q' : Unit → Shared → Prop) E', P i v → J i m₁ cm₁ led₁ → (∀ p ∈ led₁, p ∈ led₂) → Sta h₀ env.locals env.cells m₁ cm₁ led₂ s₁.heap →
      (∀ h' tk m₂ cm₂, s₁.toks ≤ tk → B v m₁ cm₁ m₂ cm₂ → Sta h₀ env.locals env.cells m₂ cm₂ led₂ h' → Q' () { s₁ with heap := h', toks := tk }) → wpAny (model prog w) A (assign target env v) Q' E' s₁)
    (hbody : ∀ i v m₁ cm₁ m₂ cm₂ led₁ I h tk E', s.toks ≤ tk → i < n → P i v → J i m₁ cm₁ led₁ → B v m₁ cm₁ m₂ cm₂ → Sta h₀ env.locals env.cells m₂ cm₂ (I :: led₁) h →
      wpAny (model prog w) A (execs body env) (TurnEnd h₀ env (J (i + 1)) I Q { s with heap := h, toks := tk }) E' { s with heap := h, toks := tk })
    (hafter : ∀ m₁ cm₁ led₁ h tk, s.toks ≤ tk → J n m₁ cm₁ led₁ → Sta h₀ env.locals env.cells m₁ cm₁ led₁ h → Q .next { s with heap := h, toks := tk }) :
    wpAny (model prog w) A (pyIter iv) (fun it s₂ => codeAny (model prog w) A (.forLoop target it body [] env) (fun r s' => match r with | .ok f => Q f s' | .error e => cameBackBy (model prog w) A env E e s') s₂) E s := by
  refine hI.2 s E _ (stays_refl _) fun I St h₁ IT hst st₁ hI₀ => ?_
  have W := IT.W
  obtain ⟨oI, hoI⟩ := IT.here 0 h₁ hst
  have S₁ := S.add st₁ (nw := [(I, oI)]) ⟨fun p hp => by rw [List.mem_singleton.mp hp]; exact ⟨hoI, hI₀⟩, by simp⟩
  have offB : ∀ i m cm led h o, J i m cm led → Sta h₀ env.locals env.cells m cm ((I, o) :: led) h → ∀ b ∈ base, ∃ o', h.get? b = some o' := fun i m cm led h o hJ S b hb => by
    obtain ⟨o', k⟩ := hbase b hb
    exact ⟨o', k i m cm led h hJ S.tail⟩
  have neI : I ∉ base := fun hm => by
    obtain ⟨o', k⟩ := hbase I hm
    have := k 0 m cm led s.heap h0 S
    rw [hI₀] at this; cases this
  refine for_core n (fun i s' => ∃ h' tk m₁ cm₁ led₁ oI, s' = { s with heap := h', toks := tk } ∧ s.toks ≤ tk ∧ St i h' ∧ Sta h₀ env.locals env.cells m₁ cm₁ ((I, oI) :: led₁) h' ∧ J i m₁ cm₁ led₁) ?_ ?_
    ⟨h₁, _, m, cm, led, oI, rfl, Nat.le_refl _, hst, S₁, h0⟩
  · intro i s' hlt hq; obtain ⟨h', tk, m₁, cm₁, led₁, oI, rfl, htk, hst', S', hJ⟩ := hq
    refine wpAny_mono (wpAny_toks_of (n := s.toks) htk (W.item i { s with heap := h', toks := tk } (fun r s₁ => ∃ v h₂ tk₂, r = some v ∧ s₁ = { s with heap := h₂, toks := tk₂ } ∧ P i v ∧ St (i + 1) h₂ ∧ (∀ b o, b ∉ [I] → h'.get? b = some o → h₂.get? b = some o)) _ hlt hst'
      fun v h₂ tk₂ a b c => ⟨v, h₂, tk₂, rfl, rfl, a, b, c⟩)) (fun r s₁ q => ?_) (fun _ _ q => q.2)
    obtain ⟨htk₂, v, h₂, tk₂, rfl, rfl, hPv, hst₂, hk₂⟩ := q
    dsimp only at htk₂
    refine ⟨v, rfl, ?_⟩
    have hk₂' : ∀ b x, b ≠ I → h'.get? b = some x → h₂.get? b = some x := fun b x hb e => hk₂ b x (by simpa using hb) e
    obtain ⟨oI₂, hoI₂⟩ := IT.here _ _ hst₂
    have S₂ := S'.snocI hk₂' hoI₂
    refine hgo I St IT i v _ _ _ hst₂ hPv ?_
    refine hbd i v m₁ cm₁ led₁ ((I, oI₂) :: led₁) _ _ _ hPv hJ (fun p hp => List.mem_cons_of_mem _ hp) S₂ fun h₃ tk₃ m₂ cm₂ htk₃ hB S₃ => ?_
    dsimp only at htk₃
    refine wpAny_mono (hbody i v m₁ cm₁ m₂ cm₂ led₁ (I, oI₂) h₃ tk₃ _ (Nat.le_trans htk₂ htk₃) hlt hPv hJ hB S₃) (fun f s₄ hf => ?_) fun _ _ e => e
    have fin : (∃ h' tk m cm led, s₄ = { s with heap := h', toks := tk } ∧ tk₃ ≤ tk ∧ Sta h₀ env.locals env.cells m cm ((I, oI₂) :: led) h' ∧ J (i + 1) m cm led) → ∃ h' tk m₁ cm₁ led₁ oI, s₄ = { s with heap := h', toks := tk } ∧ s.toks ≤ tk ∧ St (i + 1) h' ∧ Sta h₀ env.locals env.cells m₁ cm₁ ((I, oI) :: led₁) h' ∧ J (i + 1) m₁ cm₁ led₁ := by
      intro hq; obtain ⟨h₄, tk₄, m₄, cm₄, led₄, rfl, htk₄, S₄, hJ₄⟩ := hq
      refine ⟨h₄, tk₄, m₄, cm₄, led₄, oI₂, rfl, Nat.le_trans (Nat.le_trans htk₂ htk₃) htk₄, W.frame _ _ _ hst₂ fun b hb o e => ?_, S₄, hJ₄⟩
      rcases List.mem_cons.mp hb with rfl | hb
      · rw [hoI₂] at e; cases e; exact (S₄.objs _ List.mem_cons_self).1
      · obtain ⟨o', k⟩ := hbase b hb
        have e₁ := hk₂' b o' (fun q => neI (q ▸ hb)) (k i m₁ cm₁ led₁ h' hJ S'.tail)
        rw [e₁] at e; cases e
        exact k (i + 1) m₄ cm₄ led₄ h₄ hJ₄ S₄.tail
    cases f with
    | next => exact fin hf
    | cont => exact fin hf
    | brk => exact hf.elim
    | ret v => exact hf
  · intro s' hq; obtain ⟨h', tk, m₁, cm₁, led₁, oI, rfl, htk, hst', S', hJ⟩ := hq
    refine wpAny_mono (wpAny_toks_of (n := s.toks) htk (W.done { s with heap := h', toks := tk } (fun r s₁ => ∃ h₂ tk₂, r = none ∧ s₁ = { s with heap := h₂, toks := tk₂ } ∧ (∀ b o, b ∉ [I] → h'.get? b = some o → h₂.get? b = some o)) _ hst'
      fun h₂ tk₂ c => ⟨h₂, tk₂, rfl, rfl, c⟩)) (fun r s₁ q => ?_) (fun _ _ q => q.2)
    obtain ⟨htk₂, h₂, tk₂, rfl, rfl, hk₂⟩ := q
    refine ⟨rfl, ?_⟩
    exact hafter m₁ cm₁ led₁ h₂ tk₂ htk₂ hJ (S'.tailBut fun b x hb e => hk₂ b x (by simpa using hb) e)

/- a for over a source, one local name -/
theorem s_for {x : Str} {px pos : Pos} {iter : Expr} {body : List Stmt} {Pit : Value → List (Addr × Obj) → Prop} (J : Nat → List (Str × Value) → List (Str × Value) → List (Addr × Obj) → Prop)
    (S : Sta h₀ env.locals env.cells m cm led s.heap) (hi : EvN prog w A env s iter Pit)
    (hk : ∀ v nw h, Pit v nw → Sta h₀ env.locals env.cells m cm (nw ++ led) h → ∃ base n P, IterOf prog w A h v base n P ∧ J 0 m cm (nw ++ led) ∧
      (∀ b ∈ base, ∃ o, ∀ i m cm led h, J i m cm led → Sta h₀ env.locals env.cells m cm led h → h.get? b = some o) ∧
      (∀ i v m₁ cm₁ led₁ I h tk E', s.toks ≤ tk → i < n → P i v → J i m₁ cm₁ led₁ → Sta h₀ env.locals env.cells ((x, v) :: m₁) cm₁ (I :: led₁) h →
        wpAny (model prog w) A (execs body env) (TurnEnd h₀ env (J (i + 1)) I Q { s with heap := h, toks := tk }) E' { s with heap := h, toks := tk }) ∧
      (∀ m₁ cm₁ led₁ h tk, s.toks ≤ tk → J n m₁ cm₁ led₁ → Sta h₀ env.locals env.cells m₁ cm₁ led₁ h → wpAny (model prog w) A (execs rest env) Q E { s with heap := h, toks := tk }))
    (hx : env.kindOf x = some .local := by rfl) (hkd : env.scope.kind = .function := by rfl)
    (hs : ∀ x, foldedSetIterable iter env x = pure x := by intro _; rfl) :
    wpAny (model prog w) A (execs (.For (.Name x px) iter body [] pos :: rest) env) Q E s := by
  refine wpAny_execs_cons (wpAny_For (wpAny_mono (hi s E (Up.refl _)) (fun v s₁ q => ?_) fun _ _ e => e) hs)
  obtain ⟨kp, nw, fr, hp⟩ := q
  obtain ⟨h₁, tk₁, rfl, st₁, htk₁⟩ := kp.cases
  have S₁ := S.add st₁ fr
  obtain ⟨base, n, P, hI, h0, hb, hbody, hafter⟩ := hk v nw h₁ hp S₁
  refine loop_over (s := { s with heap := h₁, toks := tk₁ }) J (fun v m cm m' cm' => m' = (x, v) :: m ∧ cm' = cm) S₁ hI h0 hb ?_ ?_ ?_ ?_
  · intro I St _ i v s₁ Q' E' _ _ hQ
    exact wpAny_of_eq rfl hQ
  · intro i v m₁ cm₁ led₁ led₂ s₁ Q' E' _ _ _ S' k
    exact wpAny_assign_Name (bindLocal S' (fun h' tk ht S'' => k h' tk _ _ ht ⟨rfl, rfl⟩ S'') hx hkd)
  · intro i v m₁ cm₁ m₂ cm₂ led₁ I h tk E' htk hlt hP hJ hB S'
    obtain ⟨e1, e2⟩ := hB
    rw [e1, e2] at S'
    refine wpAny_mono (hbody i v m₁ cm₁ led₁ I h tk E' (Nat.le_trans htk₁ htk) hlt hP hJ S') (fun f s' q => ?_) fun _ _ e => e
    cases f <;> exact q
  · intro m₁ cm₁ led₁ h tk htk hJ S'
    exact hafter m₁ cm₁ led₁ h tk (Nat.le_trans htk₁ htk) hJ S'

theorem extBut_stays {h h' : Heap} (x : Heap.ExtBut h.objs.size h h') : h.StaysIn h' := fun b o e => x b o (Nat.ne_of_lt (Heap.lt_size e)) e

theorem assign_pair {a b : Str} {pa pb pos : Pos} {k : Nat} {t : Addr} {va vb : Value} {Q : Unit → Shared → Prop} (hh : A.handled = none) (ht : IsTup s.heap t #[va, vb])
    (h : ∀ h', s.heap.StaysIn h' → wpAny (model prog w) A (storeName env a va) (fun _ s₁ => wpAny (model prog w) A (storeName env b vb) Q E s₁) E { s with heap := h' }) :
    wpAny (model prog w) A (assign (.Tuple [.Name a pa, .Name b pb] k pos) env (.ref t)) Q E s := by
  refine assign_Tuple_tuple hh ht rfl rfl fun h' hx => ?_
  show wpAny _ _ (do holding [vb] (assign (.Name a pa) env va); do holding [] (assign (.Name b pb) env vb); pure ()) _ _ _
  refine wpAny_bind (wpAny_holding (wpAny_assign_Name (wpAny_mono (h h' (extBut_stays hx)) (fun _ s₁ q => ?_) fun _ _ e => e)))
  exact wpAny_bind (wpAny_holding (wpAny_assign_Name (wpAny_mono q (fun _ s₂ q => wpAny_pure q) fun _ _ e => e)))
theorem assign_triple {a b c : Str} {pa pb pc pos : Pos} {k : Nat} {t : Addr} {va vb vc : Value} {Q : Unit → Shared → Prop} (hh : A.handled = none) (ht : IsTup s.heap t #[va, vb, vc])
    (h : ∀ h', s.heap.StaysIn h' → wpAny (model prog w) A (storeName env a va) (fun _ s₁ => wpAny (model prog w) A (storeName env b vb) (fun _ s₂ => wpAny (model prog w) A (storeName env c vc) Q E s₂) E s₁) E { s with heap := h' }) :
    wpAny (model prog w) A (assign (.Tuple [.Name a pa, .Name b pb, .Name c pc] k pos) env (.ref t)) Q E s := by
  refine assign_Tuple_tuple hh ht rfl rfl fun h' hx => ?_
  show wpAny _ _ (do holding [vb, vc] (assign (.Name a pa) env va); do holding [vc] (assign (.Name b pb) env vb); do holding [] (assign (.Name c pc) env vc); pure ()) _ _ _
  refine wpAny_bind (wpAny_holding (wpAny_assign_Name (wpAny_mono (h h' (extBut_stays hx)) (fun _ s₁ q => ?_) fun _ _ e => e)))
  refine wpAny_bind (wpAny_holding (wpAny_assign_Name (wpAny_mono q (fun _ s₂ q => ?_) fun _ _ e => e)))
  exact wpAny_bind (wpAny_holding (wpAny_assign_Name (wpAny_mono q (fun _ s₂ q => wpAny_pure q) fun _ _ e => e)))

/- a for over a list of pairs -/
theorem s_forPairs {a b : Str} {pa pb pt pos : Pos} {kk : Nat} {iter : Expr} {body : List Stmt} {l : Addr} {items : Array Value} (J : Nat → List (Str × Value) → List (Str × Value) → List (Addr × Obj) → Prop)
    (fm fc : Value → Value → List (Str × Value) → List (Str × Value)) (hh : A.handled = none)
    (S : Sta h₀ env.locals env.cells m cm led s.heap) (hi : EvP prog w A env s iter (· = .ref l)) (h0 : J 0 m cm led)
    (hl : ∀ i m cm led h, J i m cm led → Sta h₀ env.locals env.cells m cm led h → h.IsList l items)
    (G : Nat → Value → Value → Prop)
    (ht : ∀ i v m cm led h, items[i]? = some v → J i m cm led → Sta h₀ env.locals env.cells m cm led h → ∃ t va vb, v = .ref t ∧ IsTup h t #[va, vb] ∧ G i va vb)
    (hst : ∀ va vb m₁ cm₁ led₁ (s₁ : Shared) (Q' : Unit → Shared → Prop) E', Sta h₀ env.locals env.cells m₁ cm₁ led₁ s₁.heap → (∀ h' tk, s₁.toks ≤ tk → Sta h₀ env.locals env.cells (fm va vb m₁) (fc va vb cm₁) led₁ h' → Q' () { s₁ with heap := h', toks := tk }) →
      wpAny (model prog w) A (storeName env a va) (fun _ s₂ => wpAny (model prog w) A (storeName env b vb) Q' E' s₂) E' s₁)
    (hbody : ∀ i va vb m₁ cm₁ led₁ I h tk E', s.toks ≤ tk → i < items.size → G i va vb → J i m₁ cm₁ led₁ → Sta h₀ env.locals env.cells (fm va vb m₁) (fc va vb cm₁) (I :: led₁) h →
        wpAny (model prog w) A (execs body env) (TurnEnd h₀ env (J (i + 1)) I Q { s with heap := h, toks := tk }) E' { s with heap := h, toks := tk })
    (hafter : ∀ m₁ cm₁ led₁ h tk, s.toks ≤ tk → J items.size m₁ cm₁ led₁ → Sta h₀ env.locals env.cells m₁ cm₁ led₁ h → wpAny (model prog w) A (execs rest env) Q E { s with heap := h, toks := tk })
    (hs : ∀ x, foldedSetIterable iter env x = pure x := by intro _; rfl) :
    wpAny (model prog w) A (execs (.For (.Tuple [.Name a pa, .Name b pb] kk pt) iter body [] pos :: rest) env) Q E s := by
  refine wpAny_execs_cons (wpAny_For (wpAny_mono (hi s E (Up.refl _)) (fun v s₁ q => ?_) fun _ _ e => e) hs)
  obtain ⟨kp, rfl⟩ := q
  obtain ⟨h₁, tk₁, rfl, st₁, htk₁⟩ := kp.cases
  have S₁ := S.keeps st₁
  have hl₁ := hl 0 m cm led h₁ h0 S₁
  obtain ⟨ol, hol, hol'⟩ := id hl₁
  have kept : ∀ i m cm led h, J i m cm led → Sta h₀ env.locals env.cells m cm led h → h.IsList l items := hl
  -- the walk of the list by hand: the list's own object may be told anew at each turn
  refine wpAny_pyIter_list hl₁ ?_
  have hne : l ≠ h₁.objs.size := Nat.ne_of_lt (Heap.lt_size hol)
  have hI₀ : h₁.get? h₁.objs.size = none := by
    cases q : h₁.get? h₁.objs.size with
    | none => rfl
    | some o => exact absurd (Heap.lt_size q) (Nat.lt_irrefl _)
  generalize hIe : h₁.objs.size = I at hne hI₀ ⊢
  have st₂ : h₁.StaysIn (h₁.push { cls := .type "list_iterator", data := .fields #[.ref l, .int 0 0] }) := fun b o e => Heap.get?_push_of_some _ e
  have hoI : (h₁.push { cls := .type "list_iterator", data := .fields #[.ref l, .int 0 0] }).get? I = some { cls := .type "list_iterator", data := .fields #[.ref l, .int 0 0] } := by rw [← hIe]; exact Heap.get?_push_size _ rfl
  have S₂ := S₁.add st₂ (nw := [(I, _)]) ⟨fun p hp => by rw [List.mem_singleton.mp hp]; exact ⟨hoI, hI₀⟩, by simp⟩
  refine for_core items.size (fun i s' => ∃ h' tk m₁ cm₁ led₁ oI, s' = { s with heap := h', toks := tk } ∧ s.toks ≤ tk ∧ h'.IsListIter I l i ∧ Sta h₀ env.locals env.cells m₁ cm₁ ((I, oI) :: led₁) h' ∧ J i m₁ cm₁ led₁) ?_ ?_
    ⟨_, tk₁, m, cm, led, _, rfl, htk₁, ⟨_, hoI, rfl, rfl⟩, S₂, h0⟩
  · intro i s' hlt hq; obtain ⟨h', tk, m₁, cm₁, led₁, oI, rfl, htk, hit, S', hJ⟩ := hq
    have hl' := hl i m₁ cm₁ led₁ h' hJ S'.tail
    refine wpAny_pyNext_list_item hit hl' (x := items[i]) (by simp [hlt]) fun h₂ hit₂ hs₂ => ⟨_, rfl, ?_⟩
    have hs₂' : ∀ b x, b ≠ I → h'.get? b = some x → h₂.get? b = some x := fun b x hb e => hs₂.extBut b x hb e
    obtain ⟨oI₂, hoI₂, hcI₂, hdI₂⟩ := id hit₂
    have S₃ := S'.snocI hs₂' hoI₂
    obtain ⟨t, va, vb, hv, htup, hG⟩ := ht i items[i] m₁ cm₁ led₁ h₂ (by simp [hlt]) hJ S₃.tail
    rw [hv]
    refine wpAny_letOwnedTupleGo_listiter hit₂ ?_
    refine assign_pair hh htup fun h₃ st₃ => ?_
    refine hst va vb m₁ cm₁ ((I, oI₂) :: led₁) _ _ _ (S₃.keeps st₃) fun h₄ tk₄ htk₄ S₄ => ?_
    dsimp only at htk₄
    refine wpAny_mono (hbody i va vb m₁ cm₁ led₁ (I, oI₂) h₄ tk₄ _ (Nat.le_trans htk htk₄) hlt hG hJ S₄) (fun f s₄ hf => ?_) fun _ _ e => e
    have fin : (∃ h' tk m cm led, s₄ = { s with heap := h', toks := tk } ∧ tk₄ ≤ tk ∧ Sta h₀ env.locals env.cells m cm ((I, oI₂) :: led) h' ∧ J (i + 1) m cm led) → ∃ h' tk m₁ cm₁ led₁ oI, s₄ = { s with heap := h', toks := tk } ∧ s.toks ≤ tk ∧ h'.IsListIter I l (i + 1) ∧ Sta h₀ env.locals env.cells m₁ cm₁ ((I, oI) :: led₁) h' ∧ J (i + 1) m₁ cm₁ led₁ := by
      intro hq; obtain ⟨h₅, tk₅, m₅, cm₅, led₅, rfl, htk₅, S₅, hJ₅⟩ := hq
      exact ⟨h₅, tk₅, m₅, cm₅, led₅, oI₂, rfl, Nat.le_trans (Nat.le_trans htk htk₄) htk₅, ⟨oI₂, (S₅.objs _ List.mem_cons_self).1, hcI₂, hdI₂⟩, S₅, hJ₅⟩
    cases f with
    | next => exact fin hf
    | cont => exact fin hf
    | brk => exact hf.elim
    | ret v => exact hf
  · intro s' hq; obtain ⟨h', tk, m₁, cm₁, led₁, oI, rfl, htk, hit, S', hJ⟩ := hq
    refine wpAny_pyNext_list_end hh hit (hl _ _ _ _ _ hJ S'.tail) (by simp) fun h₂ he₂ => ⟨rfl, ?_⟩
    exact hafter m₁ cm₁ led₁ h₂ tk htk hJ (S'.tailBut fun b x hb e => he₂ b x hb e)
end
end

/- B6 -/
/- while; the call of a def -/
section
open PySem PySem.W PyProof.Rows PySem.Calls

section
variable {prog : Program} {w : World} {A : Around} {env : Env} {h₀ : Heap} {m cm : List (Str × Value)} {led : List (Addr × Obj)} {s : Shared} {rest : List Stmt} {Q : Flow → Shared → Prop} {E : Value → Shared → Prop}

/- a while: J by a measure -/
theorem s_while {t : Expr} {body : List Stmt} {pos : Pos} {X : Type} (J : X → List (Str × Value) → List (Str × Value) → List (Addr × Obj) → Prop) (mu : X → Nat) (x₀ : X)
    (S : Sta h₀ env.locals env.cells m cm led s.heap) (h0 : J x₀ m cm led)
    (hturn : ∀ x m₁ cm₁ led₁ h tk, s.toks ≤ tk → J x m₁ cm₁ led₁ → Sta h₀ env.locals env.cells m₁ cm₁ led₁ h → ∃ c, EvT prog w A env { s with heap := h, toks := tk } t c ∧
      (c = true → ∀ h tk E', s.toks ≤ tk → Sta h₀ env.locals env.cells m₁ cm₁ led₁ h → wpAny (model prog w) A (execs body env) (fun f s' => match f with
        | .next | .cont => ∃ y h' tk' m' cm' led', s' = { s with heap := h', toks := tk' } ∧ tk ≤ tk' ∧ Sta h₀ env.locals env.cells m' cm' led' h' ∧ J y m' cm' led' ∧ mu y < mu x
        | .brk => False
        | .ret v => Q (.ret v) s') E' { s with heap := h, toks := tk }) ∧
      (c = false → ∀ h tk, s.toks ≤ tk → Sta h₀ env.locals env.cells m₁ cm₁ led₁ h → wpAny (model prog w) A (execs rest env) Q E { s with heap := h, toks := tk })) :
    wpAny (model prog w) A (execs (.While t body [] pos :: rest) env) Q E s := by
  refine wpAny_execs_cons (wpAny_While ?_)
  refine codeAny_whileLoop (fun k s' => ∃ x h' tk m₁ cm₁ led₁, s' = { s with heap := h', toks := tk } ∧ s.toks ≤ tk ∧ Sta h₀ env.locals env.cells m₁ cm₁ led₁ h' ∧ J x m₁ cm₁ led₁ ∧ k = mu x) ?_ (mu x₀) ⟨x₀, s.heap, s.toks, m, cm, led, rfl, Nat.le_refl _, S, h0, rfl⟩
  intro k s' hq; obtain ⟨x, h', tk, m₁, cm₁, led₁, rfl, htk, S', hJ, rfl⟩ := hq
  obtain ⟨c, hc, h1, h2⟩ := hturn x m₁ cm₁ led₁ h' tk htk hJ S'
  refine wpAny_mono (hc _ _ (Up.refl _)) (fun b s₂ q => ?_) fun _ _ e => e
  obtain ⟨kp, rfl⟩ := q
  obtain ⟨h₂, tk₂, rfl, st, htk₂⟩ := kp.cases
  dsimp only at st htk₂
  have htk₂' := Nat.le_trans htk htk₂
  cases b with
  | true =>
    simp only [if_true]
    refine wpAny_mono (h1 rfl h₂ tk₂ _ htk₂' (S'.keeps st)) (fun f s₃ q => ?_) fun _ _ e => e
    have fin : (∃ y h' tk m' cm' led', s₃ = { s with heap := h', toks := tk } ∧ tk₂ ≤ tk ∧ Sta h₀ env.locals env.cells m' cm' led' h' ∧ J y m' cm' led' ∧ mu y < mu x) → ∃ k', k' < mu x ∧ ∃ x h' tk m₁ cm₁ led₁, s₃ = { s with heap := h', toks := tk } ∧ s.toks ≤ tk ∧ Sta h₀ env.locals env.cells m₁ cm₁ led₁ h' ∧ J x m₁ cm₁ led₁ ∧ k' = mu x := by
      intro hq; obtain ⟨y, h', tk, m', cm', led', e, ht, S'', hJ', hlt⟩ := hq
      exact ⟨mu y, hlt, y, h', tk, m', cm', led', e, Nat.le_trans htk₂' ht, S'', hJ', rfl⟩
    cases f with
    | next => exact fin q
    | cont => exact fin q
    | brk => exact q.elim
    | ret v => exact q
  | false =>
    simp only [Bool.false_eq_true, if_false]
    exact wpAny_execs_nil (h2 rfl h₂ tk₂ htk₂' (S'.keeps st))
end

/- what is known of the top -/
structure Gl (K : Frag) (p : Program) (loose : List Str) (mean : ExcName → Option Value) (mg mb : Str → Option Value) (s : Shared) : Prop where
  X : K.In s.heap
  T : Top p loose mean mg mb s.heap
  t : 1 ≤ s.toks
theorem Gl.up {K : Frag} {p : Program} {loose : List Str} {mean : ExcName → Option Value} {mg mb : Str → Option Value} {s s' : Shared} (G : Gl K p loose mean mg mb s) (u : Up s s') : Gl K p loose mean mg mb s' :=
  ⟨G.X.keeps u.st, G.T.keeps u.st, Nat.le_trans G.t u.tk⟩

theorem lookup_snoc {l : List (Str × Value)} {x : Str} {v : Value} {y : Str} : (l ++ [(x, v)]).lookup y = match l.lookup y with | some u => some u | none => if y = x then some v else none := by
  induction l with
  | nil =>
    by_cases h : y = x
    · subst h; simp
    · have : (y == x) = false := by simpa using h
      simp [List.lookup_cons, this, h]
  | cons p r ih =>
    obtain ⟨z, u⟩ := p
    rw [List.cons_append, List.lookup_cons, List.lookup_cons]
    cases hz : y == z with
    | true => rfl
    | false => exact ih
theorem lookup_none {l : List (Str × Value)} {x : Str} (h : x ∉ l.map (·.1)) : l.lookup x = none := by
  induction l with
  | nil => rfl
  | cons p r ih =>
    obtain ⟨z, u⟩ := p
    rw [List.map_cons, List.mem_cons, not_or] at h
    have : (x == z) = false := by simpa using h.1
    rw [List.lookup_cons, this]
    exact ih h.2
theorem lookup_rev {l : List (Str × Value)} (hn : (l.map (·.1)).Nodup) (y : Str) : l.reverse.lookup y = l.lookup y := by
  induction l with
  | nil => rfl
  | cons p r ih =>
    obtain ⟨z, u⟩ := p
    rw [List.map_cons, List.nodup_cons] at hn
    rw [List.reverse_cons, lookup_snoc, ih hn.2, List.lookup_cons]
    by_cases h : y = z
    · subst h
      rw [lookup_none hn.1]; simp
    · have : (y == z) = false := by simpa using h
      rw [this]
      cases r.lookup y with
      | some v => rfl
      | none => simp [h]

section
variable {prog : Program} {w : World} {A : Around} {s : Shared} {E : Value → Shared → Prop}

theorem call_def {a : Addr} {o : Obj} {fd : FuncData} {body : List Stmt} {args : List Value} {binds : List (Str × Value)} {T : Value → Shared → Shared → Prop} (hroom : A.depth < recursionLimit) (ho : s.heap.get? a = some o) (hd : o.data = .func fd) (hlim : s.heap.NoLimit)
    (hcd : s.heap.CodeRec fd.code fd.qualname) (hbody : fd.body = .stmts body) (hbind : BindsTo s fd ⟨args, []⟩ binds) (hcell : ∀ x ∈ fd.scope.names, x.2 ≠ .cell) (hloc : ∀ x ∈ binds, fd.scope.names.lookup x.1 = some .local) (hclo : fd.closure = []) (hnd : (binds.map (·.1)).Nodup)
    (h : ∀ L h₁ tk, s.toks ≤ tk → Sta s.heap (callEnv fd L a).locals (callEnv fd L a).cells binds [] [] h₁ → ∀ E', wpAny (model prog w) (A.deeper (callEnv fd L a)) (execs body (callEnv fd L a)) (fun f s' => Keeps s s' ∧ T (match f with | .ret v => v | _ => .none) s s') E' { s with heap := h₁, toks := tk })
    (hco : fd.scope.isCoroutine = false := by rfl) (hgen : fd.scope.isGenerator = false := by rfl) (hk : fd.scope.kind = .function := by rfl) :
    wpAny (model prog w) A (call (.ref a) args) (fun v s' => Keeps s s' ∧ T v s s') E s := by
  refine wpAny_call (codeAny_call_def hroom ho hd hlim hcd hbody hbind hcell hloc (fun h₁ hns hk₁ => ?_) hco hgen hk)
  have S : Sta s.heap (callEnv fd s.heap.objs.size a).locals (callEnv fd s.heap.objs.size a).cells binds [] [] h₁ := by
    have hce : (callEnv fd s.heap.objs.size a).cells = [] := hclo
    rw [hce]
    refine ⟨⟨_, hns, fun x v e => ?_⟩, hk₁, Nat.le_refl _, (fun x v e => by simp at e), (fun x c e => by simp at e), (fun n c hm => nomatch hm), List.Pairwise.nil, List.nodup_nil, (fun p hp => nomatch hp), List.nodup_nil⟩
    rw [lookup_rev hnd]; exact e
  refine wpAny_mono (h _ h₁ _ (Nat.le_add_right _ _) S _) (fun f s' q => ?_) fun e s' q => q
  exact q
/- as the library's, the tokens told -/
theorem codeAny_call_cellsT {R : Result → Shared → Prop} {a : Addr} {o : Obj} {fd : FuncData} {body : List Stmt} {vals : List Value} {binds : List (Str × Value)}
    (hroom : A.depth < recursionLimit) (ho : s.heap.get? a = some o) (hdata : o.data = .func fd) (hlim : s.heap.NoLimit) (hcd : s.heap.CodeRec fd.code fd.qualname)
    (hbody : fd.body = .stmts body) (hbind : bindArgs fd ⟨vals, []⟩ = pure binds) (hclo : fd.closure = [])
    (hkind : ∀ x ∈ binds, fd.scope.names.lookup x.1 = some .local ∨ (fd.scope.names.lookup x.1 = some .cell ∧ ((cellsFrom (s.heap.objs.size + 1) fd.scope.names []).lookup x.1).isSome = true))
    (h : ∀ s₁, s.toks ≤ s₁.toks → InCallC s (callEnvC fd s.heap.objs.size a).locals (bindL (callEnvC fd s.heap.objs.size a).kindOf binds fun _ => none) (callEnvC fd s.heap.objs.size a).cells
        (bindC (callEnvC fd s.heap.objs.size a).kindOf binds fun _ => none) s₁ →
      wpAny (model prog w) (A.deeper (callEnvC fd s.heap.objs.size a)) (execs body (callEnvC fd s.heap.objs.size a)) (fun f s' => R (.ok (.ret (match f with | .ret v => v | _ => .none))) s')
        (fun e s' => wpAny (model prog w) (A.deeper (callEnvC fd s.heap.objs.size a)) (leaving (callEnvC fd s.heap.objs.size a) e) (fun _ s'' => R (.error e) s'') (fun e' s'' => R (.error e') s'') s') s₁)
    (hco : fd.scope.isCoroutine = false := by rfl) (hgen : fd.scope.isGenerator = false := by rfl) (hk : fd.scope.kind = .function := by rfl) :
    codeAny (model prog w) A (.call (.ref a) ⟨vals, []⟩) R s := by
  refine codeAny_call_function hroom ho hdata hco hgen hbody hcd ?_
  rw [hbind, hclo]
  refine wpAny_pure (wpAny_mono (wpAny_toks_of (Nat.le_refl _) (wpAny_newFunctionEnv_cells (E := fun e s' => R (.error e) s') (Q := fun env s' => env = callEnvC fd s.heap.objs.size a ∧ InCallC s (callEnvC fd s.heap.objs.size a).locals (bindL (callEnvC fd s.heap.objs.size a).kindOf binds fun _ => none) (callEnvC fd s.heap.objs.size a).cells
        (bindC (callEnvC fd s.heap.objs.size a).kindOf binds fun _ => none) s') hk hkind fun env he s' x => ?_)) (fun env s' q => ?_) fun _ _ q => q.2)
  · subst he; exact ⟨rfl, x⟩
  · obtain ⟨ht, rfl, x⟩ := q
    exact ⟨hlim.keeps x.toInCall.keep, codeAny_func (h s' ht x)⟩

theorem call_defC {a : Addr} {o : Obj} {fd : FuncData} {body : List Stmt} {args : List Value} {binds m cm : List (Str × Value)} {T : Value → Shared → Shared → Prop} (hroom : A.depth < recursionLimit) (ho : s.heap.get? a = some o) (hd : o.data = .func fd) (hlim : s.heap.NoLimit)
    (hcd : s.heap.CodeRec fd.code fd.qualname) (hbody : fd.body = .stmts body) (hbind : bindArgs fd ⟨args, []⟩ = pure binds) (hclo : fd.closure = [])
    (hkind : (binds.all fun y => fd.scope.names.lookup y.1 == some .local || fd.scope.names.lookup y.1 == some .cell) = true) (hcs : ∀ p ∈ cm, fd.scope.names.lookup p.1 = some .cell)
    (hm : ∀ L, ∀ p ∈ m, bindL (callEnvC fd L a).kindOf binds (fun _ => none) p.1 = some p.2) (hcm : ∀ L, ∀ p ∈ cm, bindC (callEnvC fd L a).kindOf binds (fun _ => none) p.1 = some p.2)
    (hnames : ((cellsFrom 0 fd.scope.names []).map (·.1)).Nodup)
    (h : ∀ L h₁ tk, s.toks ≤ tk → Sta s.heap (callEnvC fd L a).locals (callEnvC fd L a).cells m cm [] h₁ → ∀ E', wpAny (model prog w) (A.deeper (callEnvC fd L a)) (execs body (callEnvC fd L a)) (fun f s' => Keeps s s' ∧ T (match f with | .ret v => v | _ => .none) s s') E' { s with heap := h₁, toks := tk })
    (hco : fd.scope.isCoroutine = false := by rfl) (hgen : fd.scope.isGenerator = false := by rfl) (hk : fd.scope.kind = .function := by rfl) :
    wpAny (model prog w) A (call (.ref a) args) (fun v s' => Keeps s s' ∧ T v s s') E s := by
  refine wpAny_call (codeAny_call_cellsT hroom ho hd hlim hcd hbody hbind hclo (kindsX hkind _) (fun s₁ htk X => ?_) hco hgen hk)
  obtain ⟨h₁, tk, rfl, hk₁⟩ := X.done
  dsimp only at htk
  have hnm : ((callEnvC fd s.heap.objs.size a).cells.map (·.1)).Nodup := cellsFrom_names fd.scope.names 0 (s.heap.objs.size + 1) [] [] rfl ▸ hnames
  have S : Sta s.heap (callEnvC fd s.heap.objs.size a).locals (callEnvC fd s.heap.objs.size a).cells m cm [] h₁ := by
    refine ⟨⟨_, X.toInCall.ns, fun x v e => hm _ (x, v) (mem_of_lookup e)⟩, hk₁, Nat.le_refl _, fun x v e => ?_, fun x c e => ⟨_, X.cell x c e⟩, X.above, X.apart, hnm, (fun p hp => nomatch hp), List.nodup_nil⟩
    have e' := hcm s.heap.objs.size (x, v) (mem_of_lookup e)
    obtain ⟨c, hc⟩ := Option.isSome_iff_exists.mp (cellsFrom_some fd.scope.names (s.heap.objs.size + 1) [] (.inl (hcs (x, v) (mem_of_lookup e))))
    have hX := X.cell x c hc
    dsimp only at e'
    rw [e'] at hX
    exact ⟨c, hc, hX⟩
  refine wpAny_mono (h _ h₁ _ htk S _) (fun f s' q => ?_) fun e s' q => q
  exact q
end
end

/- G1 -/
/- walks in a clean stack: no code in it holds a buffer -/
section
open PySem PySem.W PyProof.Rows PySem.Calls
open Sem (wp)

/- codes that may hold a buffer while they run -/
noncomputable def holders : List String := Builtin.Bytes.decodersThatHold ++ ["bytearray.__contains__", "bytearray.__mod__", "bytearray.__rmod__", "_struct.pack_into.held", "bytearray.find.held"]
noncomputable def cleanC : Code → Bool
  | .builtin id _ => !holders.contains id
  | _ => true
noncomputable def cleanL (l : List (Code × Pos)) : Bool := l.all fun x => cleanC x.1
noncomputable def wpG {α : Type} (M : Model) (A : Around) (t : Sem α) (Q : α → Shared → Prop) (s : Shared) : Prop :=
  ∀ Γ p, Γ.In A → cleanC Γ.code = true → cleanL Γ.below = true → wp M Γ t (fun a _ s' => Q a s') (fun _ _ _ => False) p s
noncomputable def codeG (M : Model) (A : Around) (c : Code) (R : Flow → Shared → Prop) (s : Shared) : Prop :=
  ∀ Γ p, Γ.code = c → Γ.Below A → cleanL Γ.below = true → wpCode M Γ (fun r s' => ∃ f, r = .ok f ∧ R f s') p s

section
variable {α β : Type} {M : Model} {A : Around} {s : Shared}
theorem g_any {t : Sem α} {Q : α → Shared → Prop} (h : wpAny M A t Q (fun _ _ => False) s) : wpG M A t Q s := fun Γ p hΓ _ _ => h Γ p hΓ
theorem g_pure {a : α} {Q : α → Shared → Prop} (h : Q a s) : wpG M A (pure a) Q s := fun _ _ _ _ _ => h
theorem g_mono {t : Sem α} {Q Q' : α → Shared → Prop} (h : wpG M A t Q s) (k : ∀ a s', Q a s' → Q' a s') : wpG M A t Q' s :=
  fun Γ p hΓ c b => Sem.wp_mono M Γ t (fun a _ s' => k a s') (fun _ _ _ e => e) p s (h Γ p hΓ c b)
theorem g_bind {m : Sem α} {f : α → Sem β} {Q : β → Shared → Prop} (h : wpG M A m (fun a s' => wpG M A (f a) Q s') s) : wpG M A (m >>= f) Q s :=
  fun Γ p hΓ c b => by
    rw [Sem.wp_bind']
    exact Sem.wp_mono M Γ m (fun a p' s' q => q Γ p' hΓ c b) (fun _ _ _ e => e) p s (h Γ p hΓ c b)
theorem g_bindA {m : Sem α} {f : α → Sem β} {Q : β → Shared → Prop} (h : wpAny M A m (fun a s' => wpG M A (f a) Q s') (fun _ _ => False) s) : wpG M A (m >>= f) Q s := g_bind (g_any h)
theorem g_holding {vs : List Value} {m : Sem α} {Q : α → Shared → Prop} (h : wpG M A m Q s) : wpG M A (holding vs m) Q s :=
  fun Γ p hΓ c b => by rw [Sem.wp_holding]; exact h Γ p hΓ c b
theorem g_keep {vs : List Value} {m : Sem α} {Q : α → Shared → Prop} (h : wpG M A m Q s) : wpG M A (m.keep vs) Q s :=
  fun Γ p hΓ c b => by rw [Sem.wp_keep]; exact h Γ p hΓ c b
theorem g_onRaise {m : Sem α} {k : Value → Sem Unit} {Q : α → Shared → Prop} (h : wpG M A m Q s) : wpG M A (m.onRaise k) Q s :=
  fun Γ p hΓ c b => by
    rw [Sem.wp_onRaise]
    exact Sem.wp_mono M Γ m (fun _ _ _ q => q) (fun _ _ _ e => e.elim) p s (h Γ p hΓ c b)
theorem g_toks {t : Sem α} {Q : α → Shared → Prop} {n : Nat} (hn : n ≤ s.toks) (h : wpG M A t Q s) : wpG M A t (fun a s' => n ≤ s'.toks ∧ Q a s') s :=
  fun Γ p hΓ c b => Sem.wp_mono M Γ t (fun _ _ _ q => q) (fun _ _ _ e => e.2) p s (Sem.wp_toks M Γ n t _ _ p s hn (h Γ p hΓ c b))
theorem g_standAt {pos : Pos} {f : Unit → Sem β} {Q : β → Shared → Prop} (h : wpG M A (f ()) Q s) : wpG M A (standAt pos >>= f) Q s := g_bindA (wpAny_standAt h)
theorem g_eq {t t' : Sem α} {Q : α → Shared → Prop} (e : t = t') (h : wpG M A t' Q s) : wpG M A t Q s := e ▸ h

theorem cleanL_cons {c : Code} {p : Pos} {l : List (Code × Pos)} (h : cleanC c = true) (h' : cleanL l = true) : cleanL ((c, p) :: l) = true := by
  unfold cleanL at *; rw [List.all_cons, h']; simp [h]
theorem codeG_mono {c : Code} {R R' : Flow → Shared → Prop} (h : codeG M A c R s) (k : ∀ f s', R f s' → R' f s') : codeG M A c R' s :=
  fun Γ p hc hb cl => wpCode_mono (fun _ s' hq => by obtain ⟨f, e, q⟩ := hq; exact ⟨f, e, k f s' q⟩) (h Γ p hc hb cl)
theorem codeG_any {c : Code} {R : Flow → Shared → Prop} (h : codeAny M A c (fun r s' => ∃ f, r = .ok f ∧ R f s') s) : codeG M A c R s :=
  fun Γ p hc hb _ => h Γ p hc hb
theorem g_run {c : Code} {h : Option Value} {Q : Flow → Shared → Prop} (hc : codeG M (A.mark h) c Q s) (hnb : h ≠ some byPass := by intro x; cases x) : wpG M A (run c h) Q s :=
  fun Γ p hΓ cl bl => by
    rw [Sem.wp_run]
    refine wpCode_mono (fun r s' q => ?_) (hc _ p rfl (hΓ.enter c h p hnb) (cleanL_cons cl bl))
    obtain ⟨f, rfl, q⟩ := q
    exact q
theorem g_runOwn {c : Code} {env : Env} {h : Option Value} {Q : Flow → Shared → Prop} (hc : codeG M (A.mark h) c Q s) (hnb : h ≠ some byPass := by intro x; cases x) : wpG M A (runOwn c env h) Q s := by
  unfold runOwn
  exact g_onRaise (g_run hc hnb)
theorem g_call {f : Value} {pos : List Value} {kw : List (Str × Value)} {Q : Value → Shared → Prop} (hc : codeG M A (.call f ⟨pos, kw⟩) (fun fl s' => ∃ v, fl = .ret v ∧ Q v s') s) : wpG M A (call f pos kw) Q s :=
  fun Γ p hΓ cl bl => by
    show wp M Γ (runValue _) _ _ p s
    rw [Sem.wp_runValue]
    refine wpCode_mono (fun r s' q => ?_) (hc _ p rfl (hΓ.enter _ none p (by intro x; cases x)) (cleanL_cons cl bl))
    obtain ⟨f, rfl, v, rfl, q⟩ := q
    exact q
theorem codeG_tree {c : Code} {R : Flow → Shared → Prop} (hcl : cleanC c = true)
    (h : wpG M (A.under c) (M.den c) (fun fin s' => (∃ f, fin = .done f ∧ R f s') ∨ ∃ c', fin = .again c' ∧ c'.quiet = true ∧ codeG M A c' R s') s) : codeG M A c R s :=
  fun Γ p hc hb bl => by
    rw [wpCode_iff_wp, hc]
    refine Sem.wp_mono M Γ _ (fun fin p' s' q => ?_) (fun _ _ _ e => e.elim) p s (h Γ p (hc ▸ hb.in) (hc ▸ hcl) bl)
    rcases q with ⟨f, rfl, q⟩ | ⟨c', rfl, hq, q⟩
    · exact ⟨f, rfl, q⟩
    · exact ⟨hq, q (Γ.goto c') p' rfl (hb.goto c') bl⟩
theorem codeG_loop {c : Code} {R : Flow → Shared → Prop} (hcl : cleanC c = true) (hq : c.quiet = true) (I : Nat → Shared → Prop)
    (turn : ∀ n s, I n s → wpG M (A.under c) (M.den c) (fun fin s' => (∃ f, fin = .done f ∧ R f s') ∨ (fin = .again c ∧ ∃ m, m < n ∧ I m s') ∨ ∃ c', fin = .again c' ∧ c'.quiet = true ∧ codeG M A c' R s') s)
    (n : Nat) (h : I n s) : codeG M A c R s := by
  induction n using Nat.strongRecOn generalizing s with
  | ind n ih =>
    refine codeG_tree hcl (g_mono (turn n s h) fun fin s' q => ?_)
    rcases q with q | ⟨rfl, m, hm, hI⟩ | q
    · exact .inl q
    · exact .inr ⟨c, rfl, hq, ih m hm hI⟩
    · exact .inr q

/- the question whether a buffer is held: no -/
theorem g_exported {v : Value} {Q : Bool → Shared → Prop} (h : Q false s) : wpG M A (Builtin.Bytes.exported v) Q s := fun Γ p hΓ cl bl => by
  unfold Builtin.Bytes.exported
  rw [Sem.wp_bind']
  show wp M Γ (.stack .pure) _ _ p s
  rw [Sem.wp_stack]
  have hall : cleanL ((Γ.code, p) :: Γ.below) = true := cleanL_cons cl bl
  generalize ((Γ.code, p) :: Γ.below) = st at hall
  rw [Sem.wp_pure, Sem.wp_pure']
  rw [show List.any st _ = false from List.any_eq_false.mpr ?_]
  · exact h
  · intro x hx
    have hc : cleanC x.1 = true := by unfold cleanL at hall; exact List.all_eq_true.mp hall x hx
    obtain ⟨c, q⟩ := x
    cases c with
    | builtin id args =>
      obtain ⟨as, kw⟩ := args
      have hn : id ∉ holders := by
        intro hm
        have : holders.contains id = true := by simpa using hm
        simp only [cleanC, this] at hc
        exact absurd hc (by decide)
      have k : ∀ s ∈ (["bytearray.__contains__", "bytearray.__mod__", "bytearray.__rmod__", "_struct.pack_into.held", "bytearray.find.held"] : List String), ¬id = s := fun s hs e => hn (by rw [e]; exact List.mem_append_right _ hs)
      have hn2 : Builtin.Bytes.decodersThatHold.contains id = false := by
        rw [Bool.eq_false_iff]
        exact fun e => hn (List.mem_append_left _ (List.contains_iff_mem.mp e))
      clear hc hall hx h cl bl
      have k1 := k _ (.head _)
      have k2 := k _ (.tail _ (.head _))
      have k3 := k _ (.tail _ (.tail _ (.head _)))
      have k4 := k _ (.tail _ (.tail _ (.tail _ (.head _))))
      have k5 := k _ (.tail _ (.tail _ (.tail _ (.tail _ (.head _)))))
      delta Builtin.Bytes.exported.match_1
      refine ne_true_of_eq_false (Eq.trans (show _ = dite (id = "bytearray.__contains__") _ _ from rfl) (Eq.trans (dif_neg k1) (Eq.trans (dif_neg k2) (Eq.trans (dif_neg k3) (Eq.trans (dif_neg k4) (Eq.trans (dif_neg k5) ?_))))))
      cases as with
      | nil => rfl
      | cons a r =>
        show (Builtin.Bytes.sameRef a v && Builtin.Bytes.decodersThatHold.contains id) = false
        rw [hn2, Bool.and_false]
    | _ => exact Bool.false_ne_true
end
end

/- H1 -/
/- the head, for a walk in a clean stack -/
namespace Head
open _root_.PySem _root_.PySem.W _root_.PyProof.Rows _root_.PySem.Calls

/- the caller's own stack is clean -/
theorem ends_clean {prog : Program} {w : World} {t : Sem Fin} {s : Shared} {R : Result → Shared → Prop} (hreg : s.asleep)
    (h : wpG (model prog w) callerA t (fun fin s' => ∃ f, fin = .done f ∧ R (.ok f) s' ∧ leftWithCleanup s'.gens = false) s) :
    ∃ n r s' s'', runN (denote table) prog w n s ⟨t, .builtin "claim.caller" {}, default, []⟩ = .halted (outcomeOf r) s' ∧
      schedN (denote table) prog w n (.single s ⟨t, .builtin "claim.caller" {}, default, []⟩) = .halted (outcomeOf r) s' ∧ s'.forget = s''.forget ∧ R r s'' := by
  have h0 := h ⟨.builtin "claim.caller" {}, none, none, [], none⟩ default caller_in (by decide +kernel) rfl
  obtain ⟨n, r, a, b, hs, hn, hf, hR⟩ := wp_halts_full (M := model prog w) (R := R) hreg
    (Sem.wp_mono _ _ t (fun fin p s' q => by obtain ⟨f, rfl, q⟩ := q; exact q) (fun _ _ _ e => e.elim) default s h0)
  exact ⟨n, r, b, a, hn, hs, hf, hR⟩

/- a clean call ends as the claim says -/
theorem callFrom_clean {c : ClaimW} {tree : List Value → Sem Fin} {w : World} {s : Shared} {free : Addr → Prop} {gens : Prop} {kept : Heap → Prop} (hz : s.asleep) (hno : s.gens = #[])
    (spec : ∀ args, c.pre args = true → WData.layableAll args = true → ∀ ord : List DictEntry → List DictEntry, (∀ l, (ord l).Perm l) →
      ∃ vs s₁, layAllW c.records (classAt s.heap) w.params ord args s = some (vs, s₁) ∧
        wpG (model c.prog w) callerA (tree vs) (fun fin s' => ∃ f, fin = .done f ∧ (c.Ends s args vs s₁ (.ok f) s' ∧ s'.os = s.os ∧ kept s'.heap) ∧ leftWithCleanup s'.gens = false) s₁) :
    c.CallFrom (fun vs => ⟨tree vs, .builtin "claim.caller" {}, default, []⟩) w free gens kept s := by
  intro args hpre hlay ord hord
  obtain ⟨vs, s₁, hlaid, hrun⟩ := spec args hpre hlay ord hord
  have rest := layAllW_rest _ _ _ hlaid
  obtain ⟨n, r, s', s'', hr, hs, hfo, hE, hos, hk⟩ := ends_clean (R := fun r s' => c.Ends s args vs s₁ r s' ∧ s'.os = s.os ∧ kept s'.heap) (Shared.asleep_of_life rest.2.2.2 hz) hrun
  obtain ⟨eh, _, _, eo, _⟩ := Shared.forget_eq hfo
  have hE' := hE.congr eh
  have hlife : s'.heap.life = s.heap.life := (runN_life _ _ _ hr).trans rest.2.2.2
  refine ⟨vs, s₁, hlaid, n, _, s', hs, ?_, (fun _ i x hx => by rw [hno] at hx; simp at hx), eh ▸ hk, by rw [hlife], Shared.rest_eq (eo ▸ hos)⟩
  rcases hE' with ⟨v, rfl, a1, a2, a3, a4, a5⟩ | ⟨e, ob, cls, rfl, a1, a2, a3, a4, a5⟩
  · exact .inl ⟨v, rfl, a1, a2, a3, fun b o y _ => a4 b o y, a5⟩
  · exact .inr ⟨e, ob, cls, rfl, a1, a2, a3, a4, fun b o y _ => a5 b o y⟩

/- the call of the row, as the caller makes it -/
def theCall (name : Str) (vs : List Value) : Sem Fin := do
  match ← nsGet mainNs name with
  | some f => do ret (← _root_.PySem.call f vs)
  | none => unsupported "claim.caller:no-such-global"

/- what a clean walk of the law has to show -/
abbrev CleanWalk (q : Program) (loose : List Str) (XP : (Str → Option Value) → Heap → Prop) (YP : World → Heap → Prop) (r : RowW) (d : DefRec) (kwd : List (Str × Expr)) : Prop :=
  ∀ (w : World) (s₀ s₁ : Shared) (mg mb : Str → Option Value), Ground q loose r.records XP w s₀ mg mb s₁.heap → YP w s₁.heap → ∀ (a : Addr) (o : Obj) (pm cd doc dV kV : Value), s₁.heap.get? a = some o →
    o.data = .func { docDef d.name d.params d.body d.scope pm cd doc with defaults := dV, kwdefaults := kV } → s₁.heap.CodeRec cd d.name → Dflts mg s₁.heap d.params kwd dV kV → mg d.name = some (.ref a) → s₁.gens = #[] →
    ∀ (args : List WData) (vals : List Value) (as : List Addr), r.claim.pre args = true → WData.layableAll args = true → ReadsAllW r.records (classAt s₀.heap) s₁.heap vals args as → WellAll w.params s₁.heap vals args → (∀ a ∈ as, (a == sysModules) = false) →
      wpG (model r.prog w) callerA (_root_.PySem.call (.ref a) vals) (fun v s' => GoodWG r.claim (classAt s₀.heap) (ExcName.means s₀.heap) args s₁ (.ok (.ret v)) s') s₁

/- what the head's run leaves, as an equation for every world -/
abbrev LeftP (p q : Program) (loose : List Str) (Xt : Shared → Bool) {α : Type} (Yf : Shared → α) (Ya : World → α) (N : Nat) : Prop := LeftO p q loose Xt Yf Ya N
theorem PySem.W.holds_open {r : OpenRow} {q : Program} {loose : List Str} {Xt : Shared → Bool} {XP : (Str → Option Value) → Heap → Prop} {α : Type} {Yf : Shared → α} {Ya : World → α} {YP : World → Heap → Prop} {d : DefRec} {kwd : List (Str × Expr)} {N : Nat}
    (left : LeftP r.prog q loose Xt Yf Ya N) (hY : ∀ w s, Yf s = Ya w → YP w s.heap) (hYk : ∀ w h h', YP w h → (∀ b o, h.get? b = some o → h'.get? b = some o) → YP w h')
    (hX : ∀ s, Xt s = true → XP (s.heap.nsMap mainGlobals) s.heap) (hXk : ∀ mg h h', XP mg h → (∀ b o, h.get? b = some o → h'.get? b = some o) → XP mg h')
    (hdef : defOf q r.name = some (d, kwd)) (hp : r.prog.theDef r.name = some (d.params, d.body, d.scope)) (hk : kwWritten? d.params.kwonlyargs d.params.kw_defaults = some kwd) (hRf : ∀ s, Xt s = true → RecFacts r.records s.heap) (hwr : (!r.writes || r.records.isEmpty) = true)
    (_k0 : true = true) (ok : (chainsOk q && opensWell r.prog && (frees r.toRowW && r.within.isEmpty)) = true) (hb : r.prog.bare) (hw : r.toRowW.promised)
    (walk1 : r.wellSaid = true ∧ CleanWalk q loose XP YP r.toRowW d kwd) : r.Holds := by
  obtain ⟨k1, walk⟩ := walk1
  have ok' := ok
  simp only [Bool.and_eq_true] at ok'
  obtain ⟨⟨hch, o1⟩, hfr, hwithin⟩ := ok'
  obtain ⟨hsame, hu, ha, hap, hm⟩ := frees_parts hfr
  refine ⟨k1, hw, ⟨hb, o1, by show r.makers.map _ = []; rw [show r.makers = [] from hm]; rfl⟩, hw.witness, fun w => ⟨(left.behind hX hch w).1, fun s' hs' => ?_⟩⟩
  obtain ⟨s₀, hf, hg0, s, hT, hz, hgens, hg, G2, y⟩ := (left.behind (XP := fun mg h => XP mg h ∧ RecFacts r.records h) (fun s hs => ⟨hX s hs, hRf s hs⟩) hch w).2 s' hs'
  have RF := G2.X.2
  have G0 : Ground q loose [] XP w s (s.heap.nsMap mainGlobals) (s.heap.nsMap builtinsNs) s.heap := ⟨G2.T, G2.B, G2.D, G2.TE, G2.TD, G2.W, G2.X.1, G2.cls, G2.has, G2.apart, G2.once, G2.K⟩
  have hno : s.gens = #[] := Array.eq_empty_of_size_eq_zero (beq_iff_eq.mp hgens)
  refine ⟨s₀, hf, hg0, s, hT, fun n hn => ?_, RF.1, RF.2.1, ?_⟩
  · obtain rfl : n = r.name := by split at hn <;> simp_all
    exact pinned_of_view hg G0 hdef hp hk
  have G : Ground q loose r.records XP w s _ _ s.heap := RF.ground G0
  refine callFrom_clean (c := r.toRowW.claim) (tree := theCall r.name) hz hno fun args hpre hlay ord hord => ?_
  obtain ⟨⟨vs, s₁⟩, hlaid⟩ := Option.isSome_iff_exists.mp (layAllW_isSome (P := w.params) (ord := ord) G.has args r.args s (pre_splitW hpre).1)
  have rest := layAllW_rest _ _ _ hlaid
  have keeps := layAllW_keeps _ _ _ hlaid
  obtain ⟨as, hrd, hin, hold⟩ := reads_layAllW hord _ _ _ hlaid hlay s₁.heap (fun _ _ e => e)
  have L : Laid r.records w s s₁ args vs as := ⟨⟨ord, hord, hlaid⟩, hrd, hin, hold, keeps, rest.1.trans hno, rest.2.2.1⟩
  have G₁ := G.keeps hXk keeps
  obtain ⟨a, o, pm, cd, doc, dV, kV, h1, h2, h3, h4, h5⟩ := G₁.fn hdef
  have hcall := walk w s s₁ _ _ G₁ (hYk _ _ _ (hY w s y) keeps) a o pm cd doc dV kV h2 h3 h4 h5 (defOf_name hdef ▸ h1) L.gens args vs as hpre hlay L.reads L.well (L.low G.low)
  have hi := ident_freeW hu ha hap
  have hwi : r.toRowW.claim.within = [] := List.isEmpty_iff.mp hwithin
  refine ⟨vs, s₁, hlaid, ?_⟩
  unfold theCall
  refine g_bindA (wpAny_nsGet G₁.T.g ?_)
  rw [h1]
  refine g_bind (g_mono hcall fun v s' g => g_pure ⟨_, rfl, ?_⟩)
  have z := g.laid (c := r.toRowW.claim) hsame hwi hi L
  exact ⟨⟨z.1, z.2.1, fun hq => ⟨namesKept_of hT hg _ keeps g.2.1.old, noTable hwr hq⟩⟩, leftWithCleanup_false_of_bare z.2.2⟩
end Head

/- Hd -/
section
open PySem PySem.W PyProof.Rows
set_option maxHeartbeats 8000000
namespace Head
theorem said_looks : looksOpen PySem.Challenge.rw_ij0173_01.row.prog = true := by
  unfold looksOpen
  refine look_both (look_both (look_both (look_both (look_both ?_ ?_) ?_) ?_) ?_) ?_
  all_goals decide +kernel
theorem said_part : PySem.Challenge.rw_ij0173_01.row.partSaid = true := by
  unfold OpenRow.partSaid
  refine look_both (look_both (look_both (look_both (look_both (look_both (look_both (look_both (look_both (look_both (look_both (look_both (look_both said_looks ?_) ?_) ?_) ?_) ?_) ?_) ?_) ?_) ?_) ?_) ?_) ?_) ?_
  all_goals decide +kernel
theorem said_row : PySem.Challenge.rw_ij0173_01.row.wellSaid = true := by
  unfold OpenRow.wellSaid
  refine look_both (look_both said_part ?_) ?_
  all_goals decide +kernel
theorem said : PySem.Challenge.rw_ij0173_01.wellSaid = true := by
  unfold OpenLaw.wellSaid
  refine look_both (look_both (look_both (look_both (look_both (look_both (look_both (look_both (look_both (look_both (look_both (look_both (look_both (look_both (look_both (look_both (look_both (look_both said_row ?_) ?_) ?_) ?_) ?_) ?_) ?_) ?_) ?_) ?_) ?_) ?_) ?_) ?_) ?_) ?_) ?_) ?_
  all_goals decide +kernel
open_top hd0 for PySem.Challenge.rw_ij0173_01.row
end Head
end

/- B7 -/
/- the program's defs as data -/

section
open PySem PySem.W PyProof.Rows PySem.Spec PySem.Calls
noncomputable abbrev PR : Program := PySem.Challenge.rw_ij0173_01.row.prog
noncomputable abbrev KK (w : World) : Frag := Mine.Head.hd0.heap_1 w.params
noncomputable abbrev LS : List Str := looseW Mine.Head.hd0.view_1 [Str.ofString "escape", Str.ofString "unescape", Str.ofString "quoteattr"]
noncomputable abbrev G0 (w : World) (mean : ExcName → Option Value) (mg mb : Str → Option Value) (s : Shared) : Prop := Gl (KK w) Mine.Head.hd0.view_1 LS mean mg mb s
noncomputable def fnAt? (w : World) (a : Addr) : Option FuncData := match (KK w).lookup a with | some ⟨_, _, .func f, _⟩ => some f | _ => none
theorem fn_obj {w : World} {a : Addr} {fd : FuncData} (h : fnAt? w a = some fd) : ∃ o, (KK w).lookup a = some o ∧ o.data = .func fd := by
  unfold fnAt? at h
  split at h
  · rename_i f _ e
    cases h
    exact ⟨_, e, rfl⟩
  · cases h
noncomputable abbrev FnIs (a : Addr) := { fd : FuncData // ∀ w, fnAt? w a = some fd }
noncomputable def f_repl : FnIs 21 := by refine ⟨?x, fun w => ?h⟩; case h => (conv => lhs; whnf)
noncomputable def f_escape : FnIs 30 := by refine ⟨?x, fun w => ?h⟩; case h => (conv => lhs; whnf)
noncomputable def f_unescape : FnIs 39 := by refine ⟨?x, fun w => ?h⟩; case h => (conv => lhs; whnf)
noncomputable def f_quote : FnIs 48 := by refine ⟨?x, fun w => ?h⟩; case h => (conv => lhs; whnf)
noncomputable def f_T : FnIs 55 := by refine ⟨?x, fun w => ?h⟩; case h => (conv => lhs; whnf)
noncomputable def f_ggi : FnIs 62 := by refine ⟨?x, fun w => ?h⟩; case h => (conv => lhs; whnf)
noncomputable def f_adapt : FnIs 69 := by refine ⟨?x, fun w => ?h⟩; case h => (conv => lhs; whnf)
noncomputable def f_gi : FnIs 76 := by refine ⟨?x, fun w => ?h⟩; case h => (conv => lhs; whnf)
noncomputable def f_dgn : FnIs 83 := by refine ⟨?x, fun w => ?h⟩; case h => (conv => lhs; whnf)
noncomputable def f_is : FnIs 90 := by refine ⟨?x, fun w => ?h⟩; case h => (conv => lhs; whnf)
noncomputable def f_pd : FnIs 97 := by refine ⟨?x, fun w => ?h⟩; case h => (conv => lhs; whnf)
noncomputable def f_draw : FnIs 104 := by refine ⟨?x, fun w => ?h⟩; case h => (conv => lhs; whnf)
noncomputable def f_write : FnIs 111 := by refine ⟨?x, fun w => ?h⟩; case h => (conv => lhs; whnf)
noncomputable def f_turns : FnIs 116 := by refine ⟨?x, fun w => ?h⟩; case h => (conv => lhs; whnf)
noncomputable def f_cells : FnIs 121 := by refine ⟨?x, fun w => ?h⟩; case h => (conv => lhs; whnf)
noncomputable def f_nums : FnIs 126 := by refine ⟨?x, fun w => ?h⟩; case h => (conv => lhs; whnf)
noncomputable def f_job : FnIs 131 := by refine ⟨?x, fun w => ?h⟩; case h => (conv => lhs; whnf)

section
variable {w : World} {A : Around} {s : Shared} {E : Value → Shared → Prop} {mean : ExcName → Option Value} {mg mb : Str → Option Value}

theorem call_fn {a : Addr} (f : FnIs a) {body : List Stmt} {args : List Value} {binds : List (Str × Value)} {T : Value → Shared → Shared → Prop} {n : Nat} (G : G0 w mean mg mb s) (R : Room A n)
    (hcd : codeIn (KK w) f.val.code f.val.qualname = true) (hbody : f.val.body = .stmts body) (hbind : BindsTo s f.val ⟨args, []⟩ binds) (hcell : ∀ x ∈ f.val.scope.names, x.2 ≠ .cell) (hloc : (binds.all fun x => decide (f.val.scope.names.lookup x.1 = some .local)) = true) (hclo : f.val.closure = []) (hnd : decide ((binds.map (·.1)).Nodup) = true)
    (h : ∀ L h₁ tk, s.toks ≤ tk → Sta s.heap (callEnv f.val L a).locals (callEnv f.val L a).cells binds [] [] h₁ → ∀ E', wpAny (model PR w) (A.deeper (callEnv f.val L a)) (execs body (callEnv f.val L a)) (fun fl s' => Keeps s s' ∧ T (match fl with | .ret v => v | _ => .none) s s') E' { s with heap := h₁, toks := tk })
    (hco : f.val.scope.isCoroutine = false := by rfl) (hgen : f.val.scope.isGenerator = false := by rfl) (hk : f.val.scope.kind = .function := by rfl) :
    wpAny (model PR w) A (call (.ref a) args) (fun v s' => Keeps s s' ∧ T v s s') E s := by
  obtain ⟨o, ho, hd⟩ := fn_obj (f.property w)
  exact call_def R.depth (G.X _ _ ho) hd G.T.nolimit (codeRec_of G.X hcd) hbody hbind hcell (locs hloc) hclo (of_decide_eq_true hnd) (fun L h₁ tk ht S E' => h L h₁ tk ht S E') hco hgen hk
theorem call_fnC {a : Addr} (f : FnIs a) {body : List Stmt} {args : List Value} {binds m cm : List (Str × Value)} {T : Value → Shared → Shared → Prop} {n : Nat} (G : G0 w mean mg mb s) (R : Room A n)
    (hcd : codeIn (KK w) f.val.code f.val.qualname = true) (hbody : f.val.body = .stmts body) (hbind : bindArgs f.val ⟨args, []⟩ = pure binds) (hclo : f.val.closure = [])
    (hkind : (binds.all fun y => f.val.scope.names.lookup y.1 == some .local || f.val.scope.names.lookup y.1 == some .cell) = true) (hcs : ∀ p ∈ cm, f.val.scope.names.lookup p.1 = some .cell)
    (hm : ∀ L, ∀ p ∈ m, bindL (callEnvC f.val L a).kindOf binds (fun _ => none) p.1 = some p.2) (hcm : ∀ L, ∀ p ∈ cm, bindC (callEnvC f.val L a).kindOf binds (fun _ => none) p.1 = some p.2)
    (hnames : ((cellsFrom 0 f.val.scope.names []).map (·.1)).Nodup)
    (h : ∀ L h₁ tk, s.toks ≤ tk → Sta s.heap (callEnvC f.val L a).locals (callEnvC f.val L a).cells m cm [] h₁ → ∀ E', wpAny (model PR w) (A.deeper (callEnvC f.val L a)) (execs body (callEnvC f.val L a)) (fun fl s' => Keeps s s' ∧ T (match fl with | .ret v => v | _ => .none) s s') E' { s with heap := h₁, toks := tk })
    (hco : f.val.scope.isCoroutine = false := by rfl) (hgen : f.val.scope.isGenerator = false := by rfl) (hk : f.val.scope.kind = .function := by rfl) :
    wpAny (model PR w) A (call (.ref a) args) (fun v s' => Keeps s s' ∧ T v s s') E s := by
  obtain ⟨o, ho, hd⟩ := fn_obj (f.property w)
  exact call_defC R.depth (G.X _ _ ho) hd G.T.nolimit (codeRec_of G.X hcd) hbody hbind hclo hkind hcs hm hcm hnames (fun L h₁ tk ht S E' => h L h₁ tk ht S E') hco hgen hk

/- a global of the text's own -/
theorem g_def {env : Env} {x : Str} {pos : Pos} {v : Value} {b : Shared} {P : Value → Prop} (G : G0 w mean mg mb b) (e : nsIn (KK w) mainGlobals x = some (some v)) (hP : P v)
    (hg : env.globals = mainGlobals := by rfl) (hk : env.scope.kind = .function := by rfl) (hl : env.kindOf x = some .globalImplicit := by rfl) (hd : (x == ("__debug__" : Str)) = false := by decide) : EvP PR w A env b (.Name x pos) P :=
  ev_global (hg ▸ G.T.g) (mg_of G.X G.T.g e) hP hk hl hd
theorem g_built {env : Env} {x : Str} {pos : Pos} {v : Value} {b : Shared} {P : Value → Prop} (G : G0 w mean mg mb b) (e : nsIn (KK w) mainGlobals x = some none) (hv : bootBuiltins x = some v) (hP : P v) (hn : x ≠ "__name__" := by decide)
    (hg : env.globals = mainGlobals := by rfl) (hb : env.builtins = builtinsNs := by rfl) (hk : env.scope.kind = .function := by rfl) (hl : env.kindOf x = some .globalImplicit := by rfl) (hd : (x == ("__debug__" : Str)) = false := by decide) : EvP PR w A env b (.Name x pos) P :=
  ev_builtin (hg ▸ G.T.g) (mg_none_of G.X G.T.g e) (hb ▸ G.T.b) ((G.T.builtins x hn).trans hv) hP hk hl hd
end
end

/- B8 -/
/- the operations: ints, truth -/
section
open PySem PySem.W PyProof.Rows PySem.Calls

section
variable {prog : Program} {w : World} {A : Around} {env : Env} {b : Shared}

theorem ev_add {l r : Expr} {pos : Pos} {i j : Int} (ha : EvP prog w A env b l (IsI i)) (hb : EvP prog w A env b r (IsI j)) : EvP prog w A env b (.BinOp l .Add r pos) (IsI (i + j)) :=
  ev_binop back_P ha hb fun u v s E _ hq7 hq8 => by obtain ⟨t, e⟩ := hq7; obtain ⟨t', e'⟩ := hq8; rw [e, e']; exact P.add_int ⟨keeps_toks s _, _, rfl⟩
theorem ev_sub {l r : Expr} {pos : Pos} {i j : Int} (ha : EvP prog w A env b l (IsI i)) (hb : EvP prog w A env b r (IsI j)) : EvP prog w A env b (.BinOp l .Sub r pos) (IsI (i - j)) :=
  ev_binop back_P ha hb fun u v s E _ hq7 hq8 => by obtain ⟨t, e⟩ := hq7; obtain ⟨t', e'⟩ := hq8; rw [e, e']; exact P.sub_int ⟨keeps_toks s _, _, rfl⟩
theorem intBits_le {a : Int} (h : a.natAbs < 2 ^ 63) : Builtin.Int.intBits a ≤ 64 := by
  unfold Builtin.Int.intBits
  by_cases h0 : a.natAbs = 0
  · have : a = 0 := by lia
    subst this; decide
  · have : a.natAbs.log2 < 63 := (Nat.log2_lt h0).mpr h
    split <;> lia
theorem ev_mul {l r : Expr} {pos : Pos} {i j : Int} (ha : EvP prog w A env b l (IsI i)) (hb : EvP prog w A env b r (IsI j)) (hs : i.natAbs < 2 ^ 63 ∨ j.natAbs < 2 ^ 63) : EvP prog w A env b (.BinOp l .Mult r pos) (IsI (i * j)) :=
  ev_binop back_P ha hb fun u v s E _ hq7 hq8 => by
    obtain ⟨t, e⟩ := hq7; obtain ⟨t', e'⟩ := hq8
    rw [e, e']
    exact P.mul_int ⟨keeps_toks s _, _, rfl⟩ (hs.elim (fun h => IntMulOk.of_left (intBits_le h)) fun h => IntMulOk.of_right (intBits_le h))
theorem ev_fdiv {l r : Expr} {pos : Pos} {i j : Int} (ha : EvP prog w A env b l (IsI i)) (hb : EvP prog w A env b r (IsI j)) (h0 : j ≠ 0) (hs : j.natAbs < 1073741824) : EvP prog w A env b (.BinOp l .FloorDiv r pos) (IsI (i.fdiv j)) :=
  ev_binop back_P ha hb fun u v s E _ hq7 hq8 => by
    obtain ⟨t, e⟩ := hq7; obtain ⟨t', e'⟩ := hq8
    rw [e, e']
    exact PyProof.Rows.floordiv_int h0 ⟨keeps_toks s _, _, rfl⟩ (.inl (PyProof.noPylong_small hs))
theorem ev_fmod {l r : Expr} {pos : Pos} {i j : Int} (ha : EvP prog w A env b l (IsI i)) (hb : EvP prog w A env b r (IsI j)) (h0 : j ≠ 0) : EvP prog w A env b (.BinOp l .Mod r pos) (IsI (i.fmod j)) :=
  ev_binop back_P ha hb fun u v s E _ hq7 hq8 => by
    obtain ⟨t, e⟩ := hq7; obtain ⟨t', e'⟩ := hq8
    rw [e, e']
    exact PyProof.Rows.mod_int' h0 ⟨keeps_toks s _, _, rfl⟩
theorem ev_neg {l : Expr} {pos : Pos} {i : Int} (ha : EvP prog w A env b l (IsI i)) : EvP prog w A env b (.UnaryOp .USub l pos) (IsI (-i)) :=
  ev_unop ha fun u s E _ hq7 => by obtain ⟨t, e⟩ := hq7; rw [e]; exact P.neg_int ⟨keeps_toks s _, _, rfl⟩

theorem cmp_lt {i j : Int} {u v : Value} {s : Shared} {E : Value → Shared → Prop} (hu : IsI i u) (hv : IsI j v) : wpAny (model prog w) A (compareOp .Lt u v) (fun x s' => Keeps s s' ∧ x = .bool (decide (i < j))) E s := by
  obtain ⟨t, rfl⟩ := hu; obtain ⟨t', rfl⟩ := hv; exact P.lt_int ⟨keeps_refl s, rfl⟩
theorem cmp_le {i j : Int} {u v : Value} {s : Shared} {E : Value → Shared → Prop} (hu : IsI i u) (hv : IsI j v) : wpAny (model prog w) A (compareOp .LtE u v) (fun x s' => Keeps s s' ∧ x = .bool (decide (i ≤ j))) E s := by
  obtain ⟨t, rfl⟩ := hu; obtain ⟨t', rfl⟩ := hv; exact P.le_int ⟨keeps_refl s, rfl⟩
theorem cmp_gt {i j : Int} {u v : Value} {s : Shared} {E : Value → Shared → Prop} (hu : IsI i u) (hv : IsI j v) : wpAny (model prog w) A (compareOp .Gt u v) (fun x s' => Keeps s s' ∧ x = .bool (decide (i > j))) E s := by
  obtain ⟨t, rfl⟩ := hu; obtain ⟨t', rfl⟩ := hv; exact P.gt_int ⟨keeps_refl s, rfl⟩
theorem cmp_eq {i j : Int} {u v : Value} {s : Shared} {E : Value → Shared → Prop} (hu : IsI i u) (hv : IsI j v) : wpAny (model prog w) A (compareOp .Eq u v) (fun x s' => Keeps s s' ∧ x = .bool (i == j)) E s := by
  obtain ⟨t, rfl⟩ := hu; obtain ⟨t', rfl⟩ := hv; exact P.eq_int ⟨keeps_refl s, rfl⟩
theorem evt_lt {l r : Expr} {pos : Pos} {i j : Int} (ha : EvP prog w A env b l (IsI i)) (hb : EvP prog w A env b r (IsI j)) (hm : behindInMarks .Lt r = false := by with_unfolding_all rfl) : EvT prog w A env b (.Compare l [.Lt] [r] pos) (decide (i < j)) :=
  evt_compare ha hb (fun _ _ _ _ _ hu hv => cmp_lt hu hv) hm
theorem evt_le {l r : Expr} {pos : Pos} {i j : Int} (ha : EvP prog w A env b l (IsI i)) (hb : EvP prog w A env b r (IsI j)) (hm : behindInMarks .LtE r = false := by with_unfolding_all rfl) : EvT prog w A env b (.Compare l [.LtE] [r] pos) (decide (i ≤ j)) :=
  evt_compare ha hb (fun _ _ _ _ _ hu hv => cmp_le hu hv) hm
theorem evt_gt {l r : Expr} {pos : Pos} {i j : Int} (ha : EvP prog w A env b l (IsI i)) (hb : EvP prog w A env b r (IsI j)) (hm : behindInMarks .Gt r = false := by with_unfolding_all rfl) : EvT prog w A env b (.Compare l [.Gt] [r] pos) (decide (i > j)) :=
  evt_compare ha hb (fun _ _ _ _ _ hu hv => cmp_gt hu hv) hm
theorem evt_eqI {l r : Expr} {pos : Pos} {i j : Int} (ha : EvP prog w A env b l (IsI i)) (hb : EvP prog w A env b r (IsI j)) (hm : behindInMarks .Eq r = false := by with_unfolding_all rfl) : EvT prog w A env b (.Compare l [.Eq] [r] pos) (i == j) :=
  evt_compare ha hb (fun _ _ _ _ _ hu hv => cmp_eq hu hv) hm
theorem ev_eqI {l r : Expr} {pos : Pos} {i j : Int} (ha : EvP prog w A env b l (IsI i)) (hb : EvP prog w A env b r (IsI j)) (hm : behindInMarks .Eq r = false := by with_unfolding_all rfl) : EvP prog w A env b (.Compare l [.Eq] [r] pos) (· = .bool (i == j)) :=
  ev_compare ha hb (fun _ _ _ _ _ hu hv => cmp_eq hu hv) hm
/- lo ≤ x ≤ hi -/
theorem evt_range {l m r : Expr} {pos : Pos} {i j k : Int} (ha : EvP prog w A env b l (IsI i)) (hb : EvP prog w A env b m (IsI j)) (hc : EvP prog w A env b r (IsI k))
    (hm : markedEach [CmpOp.LtE, CmpOp.LtE] [m, r] [eval m env, eval r env] = [eval m env, eval r env] := by rfl) : EvT prog w A env b (.Compare l [.LtE, .LtE] [m, r] pos) (decide (i ≤ j) && decide (j ≤ k)) :=
  evt_chain ha hb hc (fun _ _ _ _ _ hu hv => cmp_le hu hv) (fun _ _ _ _ _ hu hv => cmp_le hu hv) hm

theorem truth_int {i : Int} : Truth prog w A b (IsI i) (i != 0) := fun v s E _ hq7 => by obtain ⟨t, e⟩ := hq7; rw [e]; exact P.truthy_int ⟨keeps_refl s, rfl⟩
theorem truth_bool {c : Bool} : Truth prog w A b (· = .bool c) c := fun v s E _ e => by rw [e]; exact wpAny_truthy_bool ⟨keeps_refl s, rfl⟩
theorem iadd {i j : Int} {t : Tok} : ∀ v (s : Shared) (E : Value → Shared → Prop), IsI j v → wpAny (model prog w) A (inplaceOp .Add (.int i t) v) (fun r s' => Keeps s s' ∧ IsI (i + j) r) E s :=
  fun v s E hq7 => by obtain ⟨t', e⟩ := hq7; rw [e]; exact P.iadd_int ⟨keeps_toks s _, _, rfl⟩
theorem ifdiv {i j : Int} {t : Tok} (h0 : j ≠ 0) (hs : j.natAbs < 1073741824) : ∀ v (s : Shared) (E : Value → Shared → Prop), IsI j v → wpAny (model prog w) A (inplaceOp .FloorDiv (.int i t) v) (fun r s' => Keeps s s' ∧ IsI (i.fdiv j) r) E s :=
  fun v s E hq7 => by obtain ⟨t', e⟩ := hq7; rw [e]; exact PyProof.Rows.ifloordiv_int h0 ⟨keeps_toks s _, _, rfl⟩ (.inl (PyProof.noPylong_small hs))
end
end

/- B9 -/
/- statements, the second set -/
section
open PySem PySem.W PyProof.Rows PySem.Calls

section
variable {prog : Program} {w : World} {A : Around} {env : Env} {h₀ : Heap} {cs : List (Str × Addr)} {m cm : List (Str × Value)} {led : List (Addr × Obj)} {s : Shared} {rest : List Stmt} {Q : Flow → Shared → Prop} {E : Value → Shared → Prop} {L : Addr}

/- the words of one list are said in the other -/
noncomputable def Sub : List (Str × Value) → List (Str × Value) → Prop
  | [], _ => True
  | p :: r, m => m.lookup p.1 = some p.2 ∧ Sub r m
theorem Sub.all : ∀ {m' m : List (Str × Value)}, Sub m' m → ∀ p ∈ m', m.lookup p.1 = some p.2
  | [], _, _, _, h => nomatch h
  | q :: r, m, ⟨a, b⟩, p, h => by
    rcases List.mem_cons.mp h with rfl | h
    · exact a
    · exact Sub.all b p h
theorem sre {h : Heap} {m' cm' : List (Str × Value)} (S : Sta h₀ L cs m cm led h) (hm : Sub m' m) (hc : Sub cm' cm) : Sta h₀ L cs m' cm' led h := S.re hm.all hc.all
/- a test without else -/
theorem s_ift {t : Expr} {x : List Stmt} {pos : Pos} {c : Bool} (S : Sta h₀ L cs m cm led s.heap) (ht : EvT prog w A env s t c)
    (kt : c = true → ∀ h' tk, s.toks ≤ tk → Sta h₀ L cs m cm led h' → wpAny (model prog w) A (execs x env) (fun f s' => match f with | .next => wpAny (model prog w) A (execs rest env) Q E s' | f => Q f s') E { s with heap := h', toks := tk })
    (kf : c = false → ∀ h' tk, s.toks ≤ tk → Sta h₀ L cs m cm led h' → wpAny (model prog w) A (execs rest env) Q E { s with heap := h', toks := tk }) :
    wpAny (model prog w) A (execs (.If t x [] pos :: rest) env) Q E s := by
  refine s_if ht fun h' tk hq st => ?_
  cases c with
  | true => exact kt rfl h' tk hq (S.keeps st)
  | false => exact s_nil (kf rfl h' tk hq (S.keeps st))
/- a test with both ways -/
theorem s_ife {t : Expr} {x y : List Stmt} {pos : Pos} {c : Bool} (S : Sta h₀ L cs m cm led s.heap) (ht : EvT prog w A env s t c)
    (kt : c = true → ∀ h' tk, s.toks ≤ tk → Sta h₀ L cs m cm led h' → wpAny (model prog w) A (execs x env) (fun f s' => match f with | .next => wpAny (model prog w) A (execs rest env) Q E s' | f => Q f s') E { s with heap := h', toks := tk })
    (kf : c = false → ∀ h' tk, s.toks ≤ tk → Sta h₀ L cs m cm led h' → wpAny (model prog w) A (execs y env) (fun f s' => match f with | .next => wpAny (model prog w) A (execs rest env) Q E s' | f => Q f s') E { s with heap := h', toks := tk }) :
    wpAny (model prog w) A (execs (.If t x y pos :: rest) env) Q E s := by
  refine s_if ht fun h' tk hq st => ?_
  cases c with
  | true => exact kt rfl h' tk hq (S.keeps st)
  | false => exact kf rfl h' tk hq (S.keeps st)
/- a test whose two ways meet -/
theorem s_ifj {t : Expr} {x y : List Stmt} {pos : Pos} {c : Bool} (K : Heap → Prop) (S : Sta h₀ L cs m cm led s.heap) (ht : EvT prog w A env s t c)
    (kt : c = true → ∀ h' tk E', s.toks ≤ tk → Sta h₀ L cs m cm led h' → wpAny (model prog w) A (execs x env) (fun f s' => ∃ h'' tk', f = .next ∧ s' = { s with heap := h'', toks := tk' } ∧ s.toks ≤ tk' ∧ K h'') E' { s with heap := h', toks := tk })
    (kf : c = false → ∀ h' tk E', s.toks ≤ tk → Sta h₀ L cs m cm led h' → wpAny (model prog w) A (execs y env) (fun f s' => ∃ h'' tk', f = .next ∧ s' = { s with heap := h'', toks := tk' } ∧ s.toks ≤ tk' ∧ K h'') E' { s with heap := h', toks := tk })
    (k : ∀ h' tk, s.toks ≤ tk → K h' → wpAny (model prog w) A (execs rest env) Q E { s with heap := h', toks := tk }) :
    wpAny (model prog w) A (execs (.If t x y pos :: rest) env) Q E s := by
  refine s_ife S ht (fun hc h' tk hq S => ?_) fun hc h' tk hq S => ?_
  · refine wpAny_mono (kt hc h' tk _ hq S) (fun f s' q => ?_) fun _ _ e => e
    obtain ⟨h'', tk', rfl, rfl, hq', hk⟩ := q
    exact k h'' tk' hq' hk
  · refine wpAny_mono (kf hc h' tk _ hq S) (fun f s' q => ?_) fun _ _ e => e
    obtain ⟨h'', tk', rfl, rfl, hq', hk⟩ := q
    exact k h'' tk' hq' hk
/- a while by an invariant of the heap -/
theorem s_whileK {env : Env} {t : Expr} {body : List Stmt} {pos : Pos} {X : Type} (K : X → Heap → Prop) (mu : X → Nat) (x₀ : X) (h0 : K x₀ s.heap)
    (hturn : ∀ x h tk, s.toks ≤ tk → K x h → ∃ c, EvT prog w A env { s with heap := h, toks := tk } t c ∧
      (c = true → ∀ h₁ tk₁ E', s.toks ≤ tk₁ → h.StaysIn h₁ → wpAny (model prog w) A (execs body env) (fun f s' => match f with
        | .next | .cont => ∃ y h' tk', s' = { s with heap := h', toks := tk' } ∧ s.toks ≤ tk' ∧ K y h' ∧ mu y < mu x
        | .brk => False
        | .ret v => Q (.ret v) s') E' { s with heap := h₁, toks := tk₁ }) ∧
      (c = false → ∀ h₁ tk₁, s.toks ≤ tk₁ → h.StaysIn h₁ → wpAny (model prog w) A (execs rest env) Q E { s with heap := h₁, toks := tk₁ })) :
    wpAny (model prog w) A (execs (.While t body [] pos :: rest) env) Q E s := by
  refine wpAny_execs_cons (wpAny_While ?_)
  refine codeAny_whileLoop (fun k s' => ∃ x h' tk, s' = { s with heap := h', toks := tk } ∧ s.toks ≤ tk ∧ K x h' ∧ k = mu x) ?_ (mu x₀) ⟨x₀, s.heap, s.toks, rfl, Nat.le_refl _, h0, rfl⟩
  intro k s' hq; obtain ⟨x, h', tk, rfl, htk, hJ, rfl⟩ := hq
  obtain ⟨c, hc, h1, h2⟩ := hturn x h' tk htk hJ
  refine wpAny_mono (hc _ _ (Up.refl _)) (fun b s₂ q => ?_) fun _ _ e => e
  obtain ⟨kp, rfl⟩ := q
  obtain ⟨h₂, tk₂, rfl, st, htk₂⟩ := kp.cases
  dsimp only at st htk₂
  have htk₂' := Nat.le_trans htk htk₂
  cases b with
  | true =>
    simp only [if_true]
    refine wpAny_mono (h1 rfl h₂ tk₂ _ htk₂' st) (fun f s₃ q => ?_) fun _ _ e => e
    have fin : (∃ y h' tk', s₃ = { s with heap := h', toks := tk' } ∧ s.toks ≤ tk' ∧ K y h' ∧ mu y < mu x) → ∃ k', k' < mu x ∧ ∃ x h' tk, s₃ = { s with heap := h', toks := tk } ∧ s.toks ≤ tk ∧ K x h' ∧ k' = mu x := by
      intro hq; obtain ⟨y, h', tk, e, ht, hJ', hlt⟩ := hq
      exact ⟨mu y, hlt, y, h', tk, e, ht, hJ', rfl⟩
    cases f with
    | next => exact fin q
    | cont => exact fin q
    | brk => exact q.elim
    | ret v => exact q
  | false =>
    simp only [Bool.false_eq_true, if_false]
    exact wpAny_execs_nil (h2 rfl h₂ tk₂ htk₂' st)
/- the last word -/
theorem s_ret {e : Expr} {pos : Pos} {s₀ : Shared} {T : Value → Shared → Shared → Prop} {R : Value → Shared → Shared → Prop} {h : Heap} {tk : Nat} (S : Sta s₀.heap L cs m cm led h) (he : Ev prog w A env { s₀ with heap := h, toks := tk } e T)
    (k : ∀ v h' tk', tk ≤ tk' → h.StaysIn h' → T v { s₀ with heap := h, toks := tk } { s₀ with heap := h', toks := tk' } → R v s₀ { s₀ with heap := h', toks := tk' }) :
    wpAny (model prog w) A (execs (.Return (some e) pos :: rest) env) (fun f s' => Keeps s₀ s' ∧ R (match f with | .ret v => v | _ => .none) s₀ s') E { s₀ with heap := h, toks := tk } :=
  s_return he fun v h' tk' ht st p => ⟨⟨h', tk', rfl, stays_trans S.keep st⟩, k v h' tk' ht st p⟩
end

section
variable {w : World} {A : Around} {s b : Shared} {E : Value → Shared → Prop} {mean : ExcName → Option Value} {mg mb : Str → Option Value} {cs : List (Str × Addr)} {m cm : List (Str × Value)} {led : List (Addr × Obj)} {L : Addr}
theorem gdef {env : Env} {x : Str} {pos : Pos} {v : Value} {P : Value → Prop} (G : G0 w mean mg mb s) (S : Sta s.heap L cs m cm led b.heap) (e : nsIn (KK w) mainGlobals x = some (some v)) (hP : P v)
    (hg : env.globals = mainGlobals := by rfl) (hk : env.scope.kind = .function := by rfl) (hl : env.kindOf x = some .globalImplicit := by rfl) (hd : (x == ("__debug__" : Str)) = false := by decide) : EvP PR w A env b (.Name x pos) P :=
  ev_global (hg ▸ (G.T.keeps S.keep).g) (mg_of (G.X.keeps S.keep) (G.T.keeps S.keep).g e) hP hk hl hd
theorem gbuilt {env : Env} {x : Str} {pos : Pos} {v : Value} {P : Value → Prop} (G : G0 w mean mg mb s) (S : Sta s.heap L cs m cm led b.heap) (e : nsIn (KK w) mainGlobals x = some none) (hv : bootBuiltins x = some v) (hP : P v) (hn : x ≠ "__name__" := by decide)
    (hg : env.globals = mainGlobals := by rfl) (hb : env.builtins = builtinsNs := by rfl) (hk : env.scope.kind = .function := by rfl) (hl : env.kindOf x = some .globalImplicit := by rfl) (hd : (x == ("__debug__" : Str)) = false := by decide) : EvP PR w A env b (.Name x pos) P := by
  have T := G.T.keeps S.keep
  exact ev_builtin (hg ▸ T.g) (mg_none_of (G.X.keeps S.keep) T.g e) (hb ▸ T.b) ((T.builtins x hn).trans hv) hP hk hl hd
/- a function of the text, called by its name -/
theorem ev_fn {env : Env} {x : Str} {p pos : Pos} {es : List Expr} {a : Addr} (f : FnIs a) {P : List Value → Shared → Shared → Prop} {T : Value → Shared → Shared → Prop} (bk : Back T) (G : G0 w mean mg mb s) (S : Sta s.heap L cs m cm led b.heap) (hs : s.toks ≤ b.toks) (e : nsIn (KK w) mainGlobals x = some (some (.ref a))) (ha : ArgsTo PR w A env b es P)
    (hcall : ∀ vs s s₁ E, Up b s → Up s s₁ → G0 w mean mg mb s₁ → P vs s s₁ → wpAny (model PR w) A (call (.ref a) vs) (fun r s' => Keeps s₁ s' ∧ T r s s') E s₁)
    (hg : env.globals = mainGlobals := by rfl) (hk : env.scope.kind = .function := by rfl) (hl : env.kindOf x = some .globalImplicit := by rfl) (hd : (x == ("__debug__" : Str)) = false := by decide) : Ev PR w A env b (.Call (.Name x p) es [] pos) T := by
  have Gb : G0 w mean mg mb b := G.up ⟨S.keep, hs⟩
  obtain ⟨o, ho, hd'⟩ := fn_obj (f.property w)
  exact ev_call bk (gdef G S e rfl hg hk hl hd) (.fn a o _ (Gb.X _ _ ho) hd') ha fun vs s₁ s₂ E u u' p => hcall vs s₁ s₂ E u u' (Gb.up (u.trans u')) p
end
end

/- B10 -/
/- statements, from a flat state -/
section
open PySem PySem.W PyProof.Rows PySem.Calls

section
variable {prog : Program} {w : World} {A : Around} {env : Env} {h₀ : Heap} {m cm : List (Str × Value)} {led : List (Addr × Obj)} {s₀ : Shared} {h : Heap} {tk : Nat} {rest : List Stmt} {Q : Flow → Shared → Prop} {E : Value → Shared → Prop}
noncomputable abbrev st (s₀ : Shared) (h : Heap) (tk : Nat) : Shared := { s₀ with heap := h, toks := tk }

theorem t_assign {x : Str} {px pos : Pos} {e : Expr} {P : Value → Prop} (S : Sta h₀ env.locals env.cells m cm led h) (he : EvP prog w A env { s₀ with heap := h, toks := tk } e P)
    (k : ∀ v h' tk', tk ≤ tk' → P v → Sta h₀ env.locals env.cells ((x, v) :: m) cm led h' → wpAny (model prog w) A (execs rest env) Q E { s₀ with heap := h', toks := tk' })
    (hl : env.kindOf x = some .local := by rfl) (hk : env.scope.kind = .function := by rfl) (hs : swapsWith e (some (.Name x px)) pos.line env = pure false := by rfl) :
    wpAny (model prog w) A (execs (.Assign [.Name x px] e pos :: rest) env) Q E { s₀ with heap := h, toks := tk } := s_assign S he k hl hk hs
theorem t_assignN {x : Str} {px pos : Pos} {e : Expr} {P : Value → List (Addr × Obj) → Prop} (S : Sta h₀ env.locals env.cells m cm led h) (he : EvN prog w A env { s₀ with heap := h, toks := tk } e P)
    (k : ∀ v nw h' tk', tk ≤ tk' → P v nw → Sta h₀ env.locals env.cells ((x, v) :: m) cm (nw ++ led) h' → wpAny (model prog w) A (execs rest env) Q E { s₀ with heap := h', toks := tk' })
    (hl : env.kindOf x = some .local := by rfl) (hk : env.scope.kind = .function := by rfl) (hs : swapsWith e (some (.Name x px)) pos.line env = pure false := by rfl) :
    wpAny (model prog w) A (execs (.Assign [.Name x px] e pos :: rest) env) Q E { s₀ with heap := h, toks := tk } := s_assignN S he k hl hk hs
theorem t_assignC {x : Str} {px pos : Pos} {e : Expr} {P : Value → List (Addr × Obj) → Prop} (S : Sta h₀ env.locals env.cells m cm led h) (he : EvN prog w A env { s₀ with heap := h, toks := tk } e P)
    (k : ∀ v nw h' tk', tk ≤ tk' → P v nw → Sta h₀ env.locals env.cells m ((x, v) :: cm) (nw ++ led) h' → wpAny (model prog w) A (execs rest env) Q E { s₀ with heap := h', toks := tk' })
    (hc : (env.cells.lookup x).isSome = true := by rfl) (hl : env.kindOf x = some .cell := by rfl) (hk : env.scope.kind = .function := by rfl) (hs : swapsWith e (some (.Name x px)) pos.line env = pure false := by rfl) :
    wpAny (model prog w) A (execs (.Assign [.Name x px] e pos :: rest) env) Q E { s₀ with heap := h, toks := tk } := s_assignC S he k hc hl hk hs
theorem t_aug {x : Str} {px pos : Pos} {op : Operator} {e : Expr} {u : Value} {P R : Value → Prop} (S : Sta h₀ env.locals env.cells m cm led h) (hu : m.lookup x = some u) (he : EvP prog w A env { s₀ with heap := h, toks := tk } e P)
    (ho : ∀ v s E, P v → wpAny (model prog w) A (inplaceOp op u v) (fun r s' => Keeps s s' ∧ R r) E s)
    (k : ∀ v h' tk', tk ≤ tk' → R v → Sta h₀ env.locals env.cells ((x, v) :: m) cm led h' → wpAny (model prog w) A (execs rest env) Q E { s₀ with heap := h', toks := tk' })
    (hl : env.kindOf x = some .local := by rfl) (hk : env.scope.kind = .function := by rfl) :
    wpAny (model prog w) A (execs (.AugAssign (.Name x px) op e pos :: rest) env) Q E { s₀ with heap := h, toks := tk } := s_aug S hu he ho k hl hk
theorem t_return {e : Expr} {pos : Pos} {T : Value → Shared → Shared → Prop} (he : Ev prog w A env { s₀ with heap := h, toks := tk } e T)
    (k : ∀ v h' tk', tk ≤ tk' → h.StaysIn h' → T v { s₀ with heap := h, toks := tk } { s₀ with heap := h', toks := tk' } → Q (.ret v) { s₀ with heap := h', toks := tk' }) : wpAny (model prog w) A (execs (.Return (some e) pos :: rest) env) Q E { s₀ with heap := h, toks := tk } := s_return he k
section
variable {L : Addr} {cs : List (Str × Addr)}
theorem t_ift {t : Expr} {x : List Stmt} {pos : Pos} {c : Bool} (S : Sta h₀ L cs m cm led h) (ht : EvT prog w A env { s₀ with heap := h, toks := tk } t c)
    (kt : c = true → ∀ h' tk', tk ≤ tk' → Sta h₀ L cs m cm led h' → wpAny (model prog w) A (execs x env) (fun f s' => match f with | .next => wpAny (model prog w) A (execs rest env) Q E s' | f => Q f s') E { s₀ with heap := h', toks := tk' })
    (kf : c = false → ∀ h' tk', tk ≤ tk' → Sta h₀ L cs m cm led h' → wpAny (model prog w) A (execs rest env) Q E { s₀ with heap := h', toks := tk' }) :
    wpAny (model prog w) A (execs (.If t x [] pos :: rest) env) Q E { s₀ with heap := h, toks := tk } := s_ift S ht kt kf
theorem t_ife {t : Expr} {x y : List Stmt} {pos : Pos} {c : Bool} (S : Sta h₀ L cs m cm led h) (ht : EvT prog w A env { s₀ with heap := h, toks := tk } t c)
    (kt : c = true → ∀ h' tk', tk ≤ tk' → Sta h₀ L cs m cm led h' → wpAny (model prog w) A (execs x env) (fun f s' => match f with | .next => wpAny (model prog w) A (execs rest env) Q E s' | f => Q f s') E { s₀ with heap := h', toks := tk' })
    (kf : c = false → ∀ h' tk', tk ≤ tk' → Sta h₀ L cs m cm led h' → wpAny (model prog w) A (execs y env) (fun f s' => match f with | .next => wpAny (model prog w) A (execs rest env) Q E s' | f => Q f s') E { s₀ with heap := h', toks := tk' }) :
    wpAny (model prog w) A (execs (.If t x y pos :: rest) env) Q E { s₀ with heap := h, toks := tk } := s_ife S ht kt kf
theorem t_ifj {t : Expr} {x y : List Stmt} {pos : Pos} {c : Bool} (K : Heap → Nat → Prop) (S : Sta h₀ L cs m cm led h) (ht : EvT prog w A env { s₀ with heap := h, toks := tk } t c)
    (kt : c = true → ∀ h' tk' E', tk ≤ tk' → Sta h₀ L cs m cm led h' → wpAny (model prog w) A (execs x env) (fun f s' => ∃ h'' tk'', f = .next ∧ s' = { s₀ with heap := h'', toks := tk'' } ∧ tk ≤ tk'' ∧ K h'' tk'') E' { s₀ with heap := h', toks := tk' })
    (kf : c = false → ∀ h' tk' E', tk ≤ tk' → Sta h₀ L cs m cm led h' → wpAny (model prog w) A (execs y env) (fun f s' => ∃ h'' tk'', f = .next ∧ s' = { s₀ with heap := h'', toks := tk'' } ∧ tk ≤ tk'' ∧ K h'' tk'') E' { s₀ with heap := h', toks := tk' })
    (k : ∀ h' tk', tk ≤ tk' → K h' tk' → wpAny (model prog w) A (execs rest env) Q E { s₀ with heap := h', toks := tk' }) :
    wpAny (model prog w) A (execs (.If t x y pos :: rest) env) Q E { s₀ with heap := h, toks := tk } := by
  refine t_ife S ht (fun hc h' tk' hq S => ?_) fun hc h' tk' hq S => ?_
  · refine wpAny_mono (kt hc h' tk' _ hq S) (fun f s' q => ?_) fun _ _ e => e
    obtain ⟨h'', tk'', rfl, rfl, hq', hk⟩ := q
    exact k h'' tk'' hq' hk
  · refine wpAny_mono (kf hc h' tk' _ hq S) (fun f s' q => ?_) fun _ _ e => e
    obtain ⟨h'', tk'', rfl, rfl, hq', hk⟩ := q
    exact k h'' tk'' hq' hk
end
theorem t_while {t : Expr} {body : List Stmt} {pos : Pos} {X : Type} (K : X → Heap → Prop) (mu : X → Nat) (x₀ : X) (h0 : K x₀ h)
    (hturn : ∀ x h₁ tk₁, tk ≤ tk₁ → K x h₁ → ∃ c, EvT prog w A env { s₀ with heap := h₁, toks := tk₁ } t c ∧
      (c = true → ∀ h₂ tk₂ E', tk ≤ tk₂ → h₁.StaysIn h₂ → wpAny (model prog w) A (execs body env) (fun f s' => match f with
        | .next | .cont => ∃ y h' tk', s' = { s₀ with heap := h', toks := tk' } ∧ tk ≤ tk' ∧ K y h' ∧ mu y < mu x
        | .brk => False
        | .ret v => Q (.ret v) s') E' { s₀ with heap := h₂, toks := tk₂ }) ∧
      (c = false → ∀ h₂ tk₂, tk ≤ tk₂ → h₁.StaysIn h₂ → wpAny (model prog w) A (execs rest env) Q E { s₀ with heap := h₂, toks := tk₂ })) :
    wpAny (model prog w) A (execs (.While t body [] pos :: rest) env) Q E { s₀ with heap := h, toks := tk } :=
  s_whileK K mu x₀ h0 hturn
end
end

local macro_rules | `(tactic| ktr_rel) => `(tactic| first
  | ((with_reducible show Ev _ _ _ _ _ (PySem.Expr.Constant _ _ _) _); first | exact ev_int | exact ev_none | exact ev_bool | exact ev_str)
  | ((with_reducible show Ev _ _ _ _ _ (PySem.Expr.Name _ _) _); first
      | (refine n_local (by assumption) rfl ?_ <;> first | assumption | exact ⟨_, rfl⟩ | rfl)
      | (refine n_cell (by assumption) rfl ?_ <;> first | assumption | exact ⟨_, rfl⟩ | rfl)
      | (refine gdef (by assumption) (by assumption) rfl ?_ <;> first | exact ⟨_, rfl⟩ | rfl))
  | ((with_reducible show Ev _ _ _ _ _ (PySem.Expr.BinOp _ PySem.Operator.Add _ _) _); refine ev_add ?_ ?_ <;> ktr_rel)
  | ((with_reducible show Ev _ _ _ _ _ (PySem.Expr.BinOp _ PySem.Operator.Sub _ _) _); refine ev_sub ?_ ?_ <;> ktr_rel)
  | ((with_reducible show Ev _ _ _ _ _ (PySem.Expr.BinOp _ PySem.Operator.FloorDiv _ _) _); refine ev_fdiv ?_ ?_ (by assumption) (by assumption) <;> ktr_rel)
  | ((with_reducible show Ev _ _ _ _ _ (PySem.Expr.BinOp _ PySem.Operator.Mod _ _) _); refine ev_fmod ?_ ?_ (by assumption) <;> ktr_rel)
  | ((with_reducible show Ev _ _ _ _ _ (PySem.Expr.BinOp _ PySem.Operator.Mult _ _) _); refine ev_mul ?_ ?_ (by assumption) <;> ktr_rel)
  | ((with_reducible show Ev _ _ _ _ _ (PySem.Expr.UnaryOp PySem.UnaryOp.USub _ _) _); refine ev_neg ?_ <;> ktr_rel)
  | ((with_reducible show EvT _ _ _ _ _ (PySem.Expr.Compare _ [PySem.CmpOp.Lt] _ _) _); refine evt_lt ?_ ?_ <;> ktr_rel)
  | ((with_reducible show EvT _ _ _ _ _ (PySem.Expr.Compare _ [PySem.CmpOp.LtE] _ _) _); refine evt_le ?_ ?_ <;> ktr_rel)
  | ((with_reducible show EvT _ _ _ _ _ (PySem.Expr.Compare _ [PySem.CmpOp.Gt] _ _) _); refine evt_gt ?_ ?_ <;> ktr_rel)
  | ((with_reducible show EvT _ _ _ _ _ (PySem.Expr.Compare _ [PySem.CmpOp.Eq] _ _) _); refine evt_eqI ?_ ?_ <;> ktr_rel)
  | ((with_reducible show Ev _ _ _ _ _ (PySem.Expr.Compare _ [PySem.CmpOp.Eq] _ _) _); refine ev_eqI ?_ ?_ <;> ktr_rel)
  | ((with_reducible show EvT _ _ _ _ _ (PySem.Expr.Compare _ [PySem.CmpOp.LtE, PySem.CmpOp.LtE] _ _) _); refine evt_range ?_ ?_ ?_ <;> ktr_rel))
local macro_rules | `(tactic| ktr_room) => `(tactic| first | assumption | exact Nat.le_refl _ | (dsimp only at *; lia))

/- C1 -/
section
open PySem PySem.W PyProof.Rows PySem.Calls
section
variable {w : World} {A : Around} {s : Shared} {E : Value → Shared → Prop} {mean : ExcName → Option Value} {mg mb : Str → Option Value}
noncomputable def thr (j bias : Int) : Int := if 36 * (j + 1) - bias < 1 then 1 else if 36 * (j + 1) - bias > 26 then 26 else 36 * (j + 1) - bias
theorem c_T {n : Nat} (G : G0 w mean mg mb s) (R : Room A (n + 1)) {j bias : Int} {tj tb : Tok} : wpAny (model PR w) A (call (.ref 55) [.int j tj, .int bias tb]) (fun v s' => Keeps s s' ∧ IsI (thr j bias) v) E s := by
  refine call_fn (T := fun v _ _ => IsI (thr j bias) v) f_T G R (by kernel_rfl) (by rfl) (binds := [("j", .int j tj), ("bias", .int bias tb)]) (BindsTo.of_eq rfl) (by decide) (by rfl) (by rfl) (by rfl) fun L h₁ tk ht S E' => ?_
  have k1 : Int.natAbs 36 < 2 ^ 63 ∨ (j + 1).natAbs < 2 ^ 63 := .inl (by decide)
  refine t_assign S (P := IsI (36 * (j + 1) - bias)) (by ktr_rel) fun v h tk _ p S => ?_
  obtain ⟨t, rfl⟩ := p
  refine t_ift S (c := decide (36 * (j + 1) - bias < 1)) (by ktr_rel) (fun hc h tk _ S => ?_) fun hc h tk _ S => ?_
  · refine t_return (T := fun v _ _ => IsI 1 v) (by ktr_rel) fun v h tk _ st p => ⟨⟨_, _, rfl, stays_trans S.keep st⟩, ?_⟩
    rw [thr, if_pos (of_decide_eq_true hc)]; exact p
  refine t_ift S (c := decide (36 * (j + 1) - bias > 26)) (by ktr_rel) (fun hc2 h tk _ S => ?_) fun hc2 h tk _ S => ?_
  · refine t_return (T := fun v _ _ => IsI 26 v) (by ktr_rel) fun v h tk _ st p => ⟨⟨_, _, rfl, stays_trans S.keep st⟩, ?_⟩
    rw [thr, if_neg (of_decide_eq_false hc), if_pos (of_decide_eq_true hc2)]; exact p
  · refine t_return (T := fun v _ _ => IsI (36 * (j + 1) - bias) v) (by ktr_rel) fun v h tk _ st p => ⟨⟨_, _, rfl, stays_trans S.keep st⟩, ?_⟩
    rw [thr, if_neg (of_decide_eq_false hc), if_neg (of_decide_eq_false hc2)]; exact p

noncomputable def loopA (d dv : Nat) : Nat := if 455 < d then loopA (d / 35) (dv + 36) else dv + 36 * d / (d + 38)
termination_by d
decreasing_by lia
/- what adapt computes -/
noncomputable def adaptN (d : Nat) (first : Bool) (n : Nat) : Nat := let e := if first then d / 700 else d / 2; loopA (e + e / n) 0
theorem fdiv_nat (a b : Nat) : Int.fdiv (a : Int) (b : Int) = ((a / b : Nat) : Int) := by
  rw [Int.fdiv_eq_ediv_of_nonneg _ (by lia)]; rfl
theorem fmod_nat (a b : Nat) : Int.fmod (a : Int) (b : Int) = ((a % b : Nat) : Int) := by
  rw [Int.fmod_eq_emod_of_nonneg _ (by lia)]; rfl
theorem c_adapt {n : Nat} (G : G0 w mean mg mb s) (R : Room A (n + 1)) {d nc : Nat} {first : Bool} {td tn : Tok} (h0 : nc ≠ 0) (hn : nc < 1073741824) : wpAny (model PR w) A (call (.ref 69) [.int d td, .bool first, .int nc tn]) (fun v s' => Keeps s s' ∧ IsI (adaptN d first nc : Nat) v) E s := by
  refine call_fn (T := fun v _ _ => IsI (adaptN d first nc : Nat) v) f_adapt G R (by kernel_rfl) (by rfl) (binds := [("delta", .int d td), ("first", .bool first), ("numchars", .int nc tn)]) (BindsTo.of_eq rfl) (by decide) (by rfl) (by rfl) (by rfl) fun L h₁ tk ht S E' => ?_
  have hc0 : (nc : Int) ≠ 0 := by lia
  have hcs : (nc : Int).natAbs < 1073741824 := by lia
  refine t_ifj (K := fun h _ => ∃ t, Sta s.heap (callEnv f_adapt.val L 69).locals (callEnv f_adapt.val L 69).cells [("delta", .int ((if first then d / 700 else d / 2 : Nat) : Int) t), ("first", .bool first), ("numchars", .int nc tn)] [] [] h) S (c := first) (evt_of (by ktr_rel) truth_bool) (fun hc h tk E' _ S => ?_) (fun hc h tk E' _ S => ?_) ?_
  · refine t_aug S rfl (P := IsI 700) (by ktr_rel) (ifdiv (by decide) (by decide)) fun v h tk _ p S => s_nil ⟨_, _, rfl, rfl, by ktr_room, ?_⟩
    obtain ⟨t, rfl⟩ := p
    subst hc
    exact ⟨t, by rw [if_pos rfl, ← fdiv_nat]; exact sre S ⟨rfl, rfl, rfl, trivial⟩ trivial⟩
  · refine t_aug S rfl (P := IsI 2) (by ktr_rel) (ifdiv (by decide) (by decide)) fun v h tk _ p S => s_nil ⟨_, _, rfl, rfl, by ktr_room, ?_⟩
    obtain ⟨t, rfl⟩ := p
    subst hc
    exact ⟨t, by rw [if_neg (by decide), ← fdiv_nat]; exact sre S ⟨rfl, rfl, rfl, trivial⟩ trivial⟩
  intro h tk _ ⟨t, S⟩
  generalize he : (if first then d / 700 else d / 2) = e at S
  refine t_aug S rfl (P := IsI (Int.fdiv e nc)) (by ktr_rel) iadd fun v h tk _ p S => ?_
  obtain ⟨t, rfl⟩ := p
  rw [fdiv_nat, ← Int.natCast_add] at S
  refine t_assign S (P := IsI 0) (by ktr_rel) fun v h tk _ p S => ?_
  obtain ⟨t', rfl⟩ := p
  have hAd : adaptN d first nc = loopA (e + e / nc) 0 := by rw [adaptN, ← he]
  refine t_while (X := Nat × Nat) (fun x h => (∃ t t', Sta s.heap (callEnv f_adapt.val L 69).locals (callEnv f_adapt.val L 69).cells [("divisions", .int x.2 t'), ("delta", .int x.1 t)] [] [] h) ∧ loopA x.1 x.2 = adaptN d first nc) (fun x => x.1) (e + e / nc, 0) ⟨⟨_, _, sre S ⟨rfl, rfl, trivial⟩ trivial⟩, hAd.symm⟩ fun x h tk _ hJ => ?_
  obtain ⟨x, y⟩ := x
  obtain ⟨⟨t, t', S⟩, hL⟩ := hJ
  dsimp only at S hL ⊢
  refine ⟨decide ((x : Int) > 455), by ktr_rel, fun hc h tk E' _ st => ?_, fun hc h tk _ st => ?_⟩
  · replace S := S.keeps st
    have hc := of_decide_eq_true hc
    have d1 : (35 : Int) ≠ 0 := by decide
    have d2 : (35 : Int).natAbs < 1073741824 := by decide
    refine t_assign S (P := IsI (Int.fdiv x 35)) (by ktr_rel) fun v h tk _ p S => ?_
    rw [show Int.fdiv (x : Int) 35 = ((x / 35 : Nat) : Int) from fdiv_nat x 35] at p
    obtain ⟨t, rfl⟩ := p
    refine t_aug S rfl (P := IsI 36) (by ktr_rel) iadd fun v h tk _ p S => ?_
    obtain ⟨t, rfl⟩ := p
    refine s_nil ⟨(x / 35, y + 36), _, _, rfl, by ktr_room, ⟨⟨_, _, sre S ⟨rfl, rfl, trivial⟩ trivial⟩, ?_⟩, ?_⟩
    · rw [← hL]; dsimp only; conv => rhs; rw [loopA, if_pos (by lia)]
    · show x / 35 < x; lia
  · replace S := S.keeps st
    have hc := of_decide_eq_false hc
    have k1 : (36 : Int).natAbs < 2 ^ 63 ∨ (x : Int).natAbs < 2 ^ 63 := .inl (by decide)
    have d1 : ((x : Int) + 38) ≠ 0 := by lia
    have d2 : ((x : Int) + 38).natAbs < 1073741824 := by lia
    refine t_assign S (P := IsI (y + Int.fdiv (36 * x) (x + 38))) (by ktr_rel) fun v h tk _ p S => ?_
    have hv : ((y : Int) + Int.fdiv (36 * x) (x + 38)) = (adaptN d first nc : Nat) := by
      rw [← hL, loopA, if_neg (by lia)]
      have := fdiv_nat (36 * x) (x + 38)
      rw [show ((36 * x : Nat) : Int) = 36 * (x : Int) by lia, show ((x + 38 : Nat) : Int) = (x : Int) + 38 by lia] at this
      rw [this]; lia
    rw [hv] at p
    exact t_return (T := fun v _ _ => IsI (adaptN d first nc : Nat) v) (by ktr_rel) fun v h tk _ st p => ⟨⟨_, _, rfl, stays_trans S.keep st⟩, p⟩
end
end

/- G2 -/
/- statements and calls in a clean stack -/
section
open PySem PySem.W PyProof.Rows PySem.Calls
open Sem (wp)

section
variable {M : Model} {A : Around} {s : Shared} {env : Env}
/- a statement off the path -/
theorem q_seq {st : Stmt} {rest : List Stmt} {Q : Flow → Shared → Prop} (h : wpAny M A (execs [st] env) (fun f s' => match f with | .next => wpG M A (execs rest env) Q s' | f => Q f s') (fun _ _ => False) s) : wpG M A (execs (st :: rest) env) Q s := fun Γ p hΓ c b => by
  have h' := h Γ p hΓ
  rw [execs_cons, Sem.wp_bind'] at h' ⊢
  refine Sem.wp_mono M Γ _ (fun f p' s' q => ?_) (fun _ _ _ e => e) _ _ h'
  cases f with
  | next => exact (show wpG M A (execs rest env) Q s' from q) Γ p' hΓ c b
  | cont => exact q
  | brk => exact q
  | ret v => exact q
theorem q_cons {st : Stmt} {rest : List Stmt} {Q : Flow → Shared → Prop} (h : wpG M A (exec st env) (fun f s' => match f with | .next => wpG M A (execs rest env) Q s' | f => Q f s') s) : wpG M A (execs (st :: rest) env) Q s := fun Γ p hΓ c b => by
  rw [execs_cons, Sem.wp_bind']
  refine Sem.wp_mono M Γ _ (fun f p' s' q => ?_) (fun _ _ _ e => e) _ _ (h Γ p hΓ c b)
  cases f with
  | next => exact q Γ p' hΓ c b
  | cont => exact q
  | brk => exact q
  | ret v => exact q
theorem q_nil {Q : Flow → Shared → Prop} (h : Q .next s) : wpG M A (execs [] env) Q s := g_any (wpAny_execs_nil h)
theorem q_Assign {x : Str} {px pos : Pos} {e : Expr} {Q : Flow → Shared → Prop} (h : wpG M A (eval e env) (fun v s₁ => wpAny M A (storeName env x v) (fun _ => Q .next) (fun _ _ => False) s₁) s)
    (hs : swapsWith e (some (.Name x px)) pos.line env = pure false := by rfl) : wpG M A (exec (.Assign [.Name x px] e pos) env) Q s := fun Γ p hΓ c b => by
  simp only [exec_Assign_Name env x px e pos hs, Sem.wp_bind', Sem.wp_cmd_standAt, Sem.wp_bindName, Sem.wp_pure']
  exact Sem.wp_mono M Γ _ (fun v _ s₁ q => q Γ _ hΓ) (fun _ _ _ e => e) _ _ (h Γ _ hΓ c b)
theorem q_Return {e : Expr} {pos : Pos} {Q : Flow → Shared → Prop} (h : wpG M A (eval e env) (fun v => Q (.ret v)) s) : wpG M A (exec (.Return (some e) pos) env) Q s := fun Γ p hΓ c b => by
  simp only [exec_Return_some, Sem.wp_bind', Sem.wp_cmd_standAt, Sem.wp_pure']
  exact h Γ _ hΓ c b
theorem q_Expr {e : Expr} {pos : Pos} {Q : Flow → Shared → Prop} (h : wpG M A (eval e env) (fun v s' => (∀ a, v ≠ .ref a) ∧ Q .next s') s)
    (hi : interactive env = false := by rfl) (hs : swapsWith e none pos.line env = pure false := by rfl) : wpG M A (exec (.Expr e pos) env) Q s := by
  rw [exec_Expr env e pos hi hs]
  refine g_standAt (g_bind (g_mono h fun v s' q => ?_))
  rw [dropValue_plain q.1]
  exact g_pure q.2
theorem q_If {t : Expr} {x y : List Stmt} {pos : Pos} {Q : Flow → Shared → Prop}
    (h : wpAny M A (isTrue t env (eval t env)) (fun b s₂ => if b then wpG M A (execs x env) Q s₂ else wpG M A (execs y env) Q s₂) (fun _ _ => False) s) : wpG M A (exec (.If t x y pos) env) Q s := fun Γ p hΓ c b => by
  simp only [exec_If, Sem.wp_bind', Sem.wp_cmd_standAt]
  refine Sem.wp_mono M Γ _ (fun v p₂ s₂ q => ?_) (fun _ _ _ e => e) _ _ (h Γ _ hΓ)
  cases v <;> exact q Γ p₂ hΓ c b
theorem q_While {t : Expr} {x y : List Stmt} {pos : Pos} {Q : Flow → Shared → Prop} (h : codeG M A (.whileLoop t x y env) Q s) : wpG M A (exec (.While t x y pos) env) Q s := by
  rw [exec_While]; exact g_standAt (g_runOwn h)
theorem q_For {target iter : Expr} {x y : List Stmt} {pos : Pos} {Q : Flow → Shared → Prop}
    (h : wpAny M A (eval iter env) (fun v s₁ => wpAny M A (pyIter v) (fun it s₂ => codeG M A (.forLoop target it x y env) Q s₂) (fun _ _ => False) s₁) (fun _ _ => False) s)
    (hs : ∀ x, foldedSetIterable iter env x = pure x := by intro _; rfl) : wpG M A (exec (.For target iter x y pos) env) Q s := by
  rw [exec_For]
  refine g_standAt (g_bindA (wpAny_mono h (fun v s₁ h₁ => ?_) fun _ _ e => e))
  refine g_bindA (wpAny_of_eq (hs v) ?_)
  refine g_standAt (g_bindA (wpAny_holding (wpAny_mono h₁ (fun it s₂ h₂ => g_runOwn h₂) fun _ _ e => e)))

theorem q_evalArgs {f : Value} {trees : List (Bool × Sem Value)} {Q : Args → Shared → Prop} (hplain : trees.any (·.1) = false)
    (hq : wpG M A (spliced trees) (fun vs s' => Q ⟨vs, []⟩ s') s) : wpG M A (evalArgs f true trees []) Q s := by
  cases trees with
  | nil =>
    unfold evalArgs
    show wpG M A (spliced [] >>= _) Q s
    refine g_bind (g_mono hq fun vs s' h' => g_bind (g_pure ?_))
    exact g_holding (g_bind (g_pure (g_bind (g_pure (g_pure h')))))
  | cons t r =>
    obtain ⟨c, x⟩ := t
    cases c with
    | true => simp at hplain
    | false =>
      unfold evalArgs
      show wpG M A (spliced ((false, x) :: r) >>= _) Q s
      refine g_bind (g_mono hq fun vs s' h' => g_holding ?_)
      exact g_bind (g_pure (g_bind (g_pure (g_pure h'))))
theorem q_spliced1 {x : Sem Value} {Q : List Value → Shared → Prop} (h : wpG M A x (fun v s₁ => Q [v] s₁) s) : wpG M A (spliced [(false, x)]) Q s := by
  rw [spliced]
  refine g_bind (g_mono h fun v s₁ h₁ => ?_)
  simp only [Bool.false_eq_true, if_false]
  refine g_bind (g_pure (g_bind (g_holding ?_)))
  exact g_mono (g_any (t := spliced []) (Q := fun vs s' => vs = [] ∧ Q [v] s') (Calls.spliced_nil ⟨rfl, h₁⟩)) fun vs s₂ q => by
    obtain ⟨rfl, q⟩ := q
    exact g_pure q
theorem q_tail {t : Sem Value} {Q : Value → Shared → Prop} (h : wpG M A t Q s) : wpG M A (t >>= fun r => holding [r] point >>= fun _ => pure r) Q s :=
  g_bind (g_mono h fun _ _ q => g_bindA (wpAny_holding (wpAny_point (g_pure q))))
theorem q_callBuiltin {pos : Pos} {id : String} {first : List Value} {args : List (Bool × Sem Value)} {Q : Value → Shared → Prop} (hplain : args.any (·.1) = false)
    (h : wpG M A (evalArgs (.builtin id) true args []) (fun a s₁ => wpG M A (call (.builtin id) (first ++ a.pos) a.kw) Q s₁) s) : wpG M A (callWith pos (.builtin id) first args []) Q s := by
  unfold callWith
  refine g_bind (g_holding (g_mono h fun a s₁ h₁ => g_standAt ?_))
  simp only [hplain, List.any_nil, Bool.or_false]
  exact g_bind (g_pure (q_tail h₁))
theorem q_callType {pos : Pos} {T : String} {first : List Value} {args : List (Bool × Sem Value)} {Q : Value → Shared → Prop} (hplain : args.any (·.1) = false)
    (h : wpG M A (evalArgs (.type T) true args []) (fun a s₁ => wpG M A (call (.type T) (first ++ a.pos) a.kw) Q s₁) s) : wpG M A (callWith pos (.type T) first args []) Q s := by
  unfold callWith
  refine g_bind (g_holding (g_mono h fun a s₁ h₁ => g_standAt ?_))
  simp only [hplain, List.any_nil, Bool.or_false]
  exact g_bind (g_pure (q_tail h₁))
theorem q_callFn {pos : Pos} {a : Addr} {o : Obj} {fd : FuncData} {first : List Value} {args : List (Bool × Sem Value)} {Q : Value → Shared → Prop}
    (h : wpG M A (evalArgs (.ref a) true args []) (fun x s₁ => (s₁.heap.get? a = some o ∧ o.data = .func fd) ∧ wpG M A (call (.ref a) (first ++ x.pos) x.kw) Q s₁) s) : wpG M A (callWith pos (.ref a) first args []) Q s := by
  unfold callWith
  refine g_bind (g_holding (g_mono h fun x s₁ h₁ => g_standAt ?_))
  cases hs : args.any (·.1) <;> simp only [List.any_nil, Bool.or_false] <;>
    refine g_bind (m := keeperOf (.ref a)) ?_ <;> unfold keeperOf <;>
    refine g_bindA (wpAny_load h₁.1.1 ?_) <;> rw [h₁.1.2] <;> refine g_pure ?_
  · first
      | exact q_tail h₁.2
      | (unfold callMarked; (repeat' split) <;> first | exact q_tail h₁.2 | exact q_tail (g_keep h₁.2))
  · first
      | exact q_tail h₁.2
      | (unfold callMarked; exact q_tail (g_keep h₁.2))
end

section
variable {prog : Program} {w : World} {A : Around} {s : Shared} {env : Env}
/- a call, its arguments off the path -/
theorem q_callWith {f : Value} {first : List Value} {es : List Expr} {pos : Pos} {P : List Value → Shared → Shared → Prop} {Q : Value → Shared → Prop} (hc : Callee s.heap f) (ha : ArgsTo prog w A env s es P)
    (hcall : ∀ vs s₁, Kp s s₁ → P vs s s₁ → wpG (model prog w) A (call f (first ++ vs)) Q s₁) : wpG (model prog w) A (callWith pos f first (backTo pos (starEach es env)) []) Q s := by
  have hplain := backTo_plain (pos := pos) ha.1
  have main : ∀ (Q' : Args → Shared → Prop), (∀ vs s₂, Kp s s₂ → P vs s s₂ → Q' ⟨vs, []⟩ s₂) → wpG (model prog w) A (evalArgs f true (backTo pos (starEach es env)) []) Q' s := fun Q' hQ =>
    q_evalArgs hplain (g_any (wpAny_mono (ha.2 pos s _ (Up.refl _)) (fun vs s₂ q => hQ vs s₂ q.1 q.2) fun _ _ e => e))
  cases hc with
  | builtin id => exact q_callBuiltin hplain (main _ fun vs s₁ k p => hcall vs s₁ k p)
  | type t => exact q_callType hplain (main _ fun vs s₁ k p => hcall vs s₁ k p)
  | fn a o fd ho hd => exact q_callFn (main _ fun vs s₁ k p => ⟨⟨k.up.st _ _ ho, hd⟩, hcall vs s₁ k p⟩)
/- a call of a name, its arguments off the path -/
theorem q_evalCall {x : Str} {p pos : Pos} {es : List Expr} {f : Value} {P : List Value → Shared → Shared → Prop} {Q : Value → Shared → Prop} (hf : EvP prog w A env s (.Name x p) (· = f)) (hc : Callee s.heap f) (ha : ArgsTo prog w A env s es P)
    (hcall : ∀ vs s₁ s₂, Kp s s₁ → Kp s₁ s₂ → P vs s₁ s₂ → wpG (model prog w) A (call f vs) Q s₂) :
    wpG (model prog w) A (eval (.Call (.Name x p) es [] pos) env) Q s := by
  show wpG _ _ (do callWith pos (← eval (.Name x p) env) [] (backTo pos (starEach es env)) (backToKw pos (keywordEach [] env))) _ _
  refine g_bindA (wpAny_mono (hf s _ (Up.refl _)) (fun v s₁ q => ?_) fun _ _ e => e)
  obtain ⟨k, rfl⟩ := q
  exact q_callWith (first := []) (hc.keeps k.up.st) ⟨ha.1, fun pos s₂ E u => ha.2 pos s₂ E (k.up.trans u)⟩ fun vs s₂ k₂ p => hcall vs s₁ s₂ k k₂ p
/- a method of a built-in type, its arguments off the path -/
theorem q_evalMethod {o : Expr} {name : Str} {apos pos : Pos} {es : List Expr} {Po : Value → Prop} {T id : String} {P : List Value → Shared → Shared → Prop} {Q : Value → Shared → Prop} (ho : EvP prog w A env s o Po)
    (pa : PlainAttrs T) (slot : Slot T name id) (hty : typeOf (.builtin id) = pure (.type "method_descriptor"))
    (hT : ∀ (v : Value) (s' : Shared), Up s s' → Po v → s'.TypeIs v T ∧ ∀ a, v = .ref a → ∃ o : Obj, s'.heap.get? a = some o ∧ o.dict = none)
    (ha : ArgsTo prog w A env s es P)
    (hcall : ∀ ov vs s₁ s₂, Kp s s₁ → Kp s₁ s₂ → Po ov → P vs s₁ s₂ → wpG (model prog w) A (call (.builtin id) (ov :: vs)) Q s₂)
    (hbase : attributeBase o name env (eval o env) = eval o env := by rfl) (hlen : decide (es.length < 30) = true := by rfl) (hline : (apos.endLine == pos.line) = true := by rfl) :
    wpG (model prog w) A (eval (.Call (.Attribute o name apos) es [] pos) env) Q s := by
  rw [arm_eval_Call, hbase]
  refine g_bindA (wpAny_mono (ho s _ (Up.refl _)) (fun ov s₁ q => ?_) fun _ _ e => e)
  obtain ⟨k, hp⟩ := q
  refine g_standAt ?_
  have hl : es.length < 30 := of_decide_eq_true hlen
  have hform : methodCallForm (es.length + ([] : List Keyword).length) (backTo pos (starEach es env)) (backToKw pos (keywordEach [] env)) = true := by
    unfold methodCallForm
    have h1 : (backTo pos (starEach es env)).all (fun x => !x.1) = true := by
      have := backTo_plain (pos := pos) ha.1
      rw [List.all_eq_true]
      intro x hx
      rw [List.any_eq_false] at this
      simpa using this x hx
    have h2 : (backToKw pos (keywordEach [] env)).all (fun x => x.1.isSome) = true := rfl
    rw [h1, h2]
    show (true && true && decide (es.length + 0 + 0 < 30)) = true
    rw [decide_eq_true (by lia)]; rfl
  have hpos : methodCallPos true o env apos pos = pure pos := by unfold methodCallPos; simp [hline]
  obtain ⟨h1, h2⟩ := hT ov s₁ k.up hp
  unfold methodCall
  rw [hform]
  refine g_bindA (wpAny_holding (getMethod_builtin h1 pa slot hty h2 ?_))
  refine g_bindA (wpAny_of_eq hpos ?_)
  exact q_callWith (first := [ov]) (.builtin id) ⟨ha.1, fun pos s₂ E u => ha.2 pos s₂ E (k.up.trans u)⟩ fun vs s₂ k₂ p => hcall ov vs s₁ s₂ k k₂ hp p

theorem codeG_func {body : List Stmt} {R : Flow → Shared → Prop} (h : wpG (model prog w) (A.deeper env) (execs body env) (fun f s' => R (.ret (match f with | .ret v => v | _ => .none)) s') s) : codeG (model prog w) A (.func body env) R s := by
  refine codeG_tree rfl ?_
  show wpG _ (A.deeper env) (do point; match ← (execs body env).onRaise (leaving env) with | .ret v => ret v | _ => ret .none) _ s
  refine g_bindA (wpAny_point (g_bind (g_onRaise (g_mono h fun f s' q => ?_))))
  cases f <;> exact g_pure (.inl ⟨_, rfl, q⟩)
theorem codeG_callFunction {a : Addr} {args : Args} {o : Obj} {fd : FuncData} {body : List Stmt} {R : Flow → Shared → Prop} (hroom : A.depth < recursionLimit) (ho : s.heap.get? a = some o) (hd : o.data = .func fd)
    (hco : fd.scope.isCoroutine = false) (hgen : fd.scope.isGenerator = false) (hbody : fd.body = .stmts body) (hcd : s.heap.CodeRec fd.code fd.qualname)
    (h : wpAny (model prog w) A.in1 (bindArgs fd args) (fun binds s₁ =>
      wpAny (model prog w) A.in1 (newFunctionEnv fd.scope fd.globals fd.closure binds (fd.qualname ++ ".<locals>.") (some a) fd.code none fd.builtins)
        (fun env s₂ => s₂.heap.NoLimit ∧ wpG (model prog w) (A.deeper env) (execs body env) (fun f s' => R (.ret (match f with | .ret v => v | _ => .none)) s') s₂) (fun _ _ => False) s₁) (fun _ _ => False) s) :
    codeG (model prog w) A (.call (.ref a) args) R s := by
  refine codeG_tree rfl (g_any ?_)
  show wpAny _ A.in1 (callAny (.ref a) args) _ _ s
  simp only [callAny]
  refine wpAny_bind (wpAny_load ho ?_)
  obtain ⟨c, oc, vs, tq, hc, hoc, hdc, hq⟩ := hcd
  simp only [hd, callFunction, hco, hgen, hbody, hc]
  rw [hc] at h
  refine wpAny_bind (m := field (.ref c) 1) (wpAny_field hoc hdc hq (wpAny_bind (wpAny_pure ?_)))
  exact wpAny_bind (wpAny_mono h (fun binds s₁ h₁ => wpAny_bind (wpAny_mono h₁ (fun env s₂ h₂ => wpAny_bind (wpAny_enterFrame h₂.1 hroom
    (wpAny_pure (.inr ⟨_, rfl, rfl, codeG_func h₂.2⟩)))) fun _ _ e => e)) fun _ _ e => e)
end
end

/- G3 -/
/- loops and calls of defs in a clean stack -/
section
open PySem PySem.W PyProof.Rows PySem.Calls
open Sem (wp)

section
variable {prog : Program} {w : World} {A : Around} {s : Shared} {env : Env}
theorem codeG_while {t : Expr} {body orelse : List Stmt} {R : Flow → Shared → Prop} (I : Nat → Shared → Prop)
    (turn : ∀ n s, I n s → wpAny (model prog w) A (isTrue t env (eval t env)) (fun b s₂ =>
        if b then wpG (model prog w) A (execs body env) (fun f s₃ => match f with
            | .next | .cont => ∃ m, m < n ∧ I m s₃
            | .brk => R .next s₃
            | .ret v => R (.ret v) s₃) s₂
        else wpG (model prog w) A (execs orelse env) (fun f s₃ => R f s₃) s₂) (fun _ _ => False) s)
    (n : Nat) (h : I n s) : codeG (model prog w) A (.whileLoop t body orelse env) R s := by
  refine codeG_loop rfl rfl I (fun n s hI => ?_) n h
  show wpG _ A ((whileTurn t body orelse env).onRaise (fun x => do noteFrame x env; theTreesLotGoes x)) _ s
  refine g_onRaise ?_
  simp only [whileTurn]
  refine g_bindA (wpAny_mono (turn n s hI) (fun b s₂ h₂ => ?_) fun _ _ e => e)
  cases b with
  | false =>
    simp only [Bool.false_eq_true, if_false] at h₂ ⊢
    exact g_bind (g_mono h₂ fun f s₃ h₃ => g_pure (.inl ⟨_, rfl, h₃⟩))
  | true =>
    simp only [if_true] at h₂ ⊢
    refine g_bind (g_mono h₂ fun f s₃ h₃ => ?_)
    cases f with
    | next => exact g_pure (.inr (.inl ⟨rfl, h₃⟩))
    | cont => exact g_pure (.inr (.inl ⟨rfl, h₃⟩))
    | brk => exact g_pure (.inl ⟨_, rfl, h₃⟩)
    | ret v => exact g_pure (.inl ⟨_, rfl, h₃⟩)

theorem forG_core {target : Expr} {it : Value} {body : List Stmt} {R : Flow → Shared → Prop} (n : Nat) (I : Nat → Shared → Prop)
    (step : ∀ i s, i < n → I i s → wpAny (model prog w) A (pyNext it) (fun r s₁ => ∃ v, r = some v ∧ wpAny (model prog w) A (letOwnedTupleGo target it v) (fun _ s₂ => wpAny (model prog w) A (assign target env v) (fun _ s₃ =>
      wpG (model prog w) A (execs body env) (fun f s₄ => match f with
        | .next | .cont => I (i + 1) s₄
        | .brk => R .next s₄
        | .ret v => R (.ret v) s₄) s₃) (fun _ _ => False) s₂) (fun _ _ => False) s₁) (fun _ _ => False) s)
    (fin : ∀ s, I n s → wpAny (model prog w) A (pyNext it) (fun r s₁ => r = none ∧ R .next s₁) (fun _ _ => False) s)
    (h : I 0 s) : codeG (model prog w) A (.forLoop target it body [] env) R s := by
  refine codeG_loop rfl rfl (fun k s => ∃ i, i ≤ n ∧ k = n + 1 - i ∧ I i s) (fun k s hI => ?_) (n + 1) ⟨0, Nat.zero_le _, rfl, h⟩
  obtain ⟨i, hi, rfl, hI⟩ := hI
  show wpG _ _ ((forTurn target it body [] env).onRaise (fun x => do noteFrame x env; theTreesLotGoes x)) _ s
  refine g_onRaise ?_
  simp only [forTurn]
  refine g_standAt (g_bind (g_onRaise ?_))
  by_cases hlt : i < n
  · refine g_any (wpAny_mono (step i s hlt hI) (fun r s₁ h₁ => ?_) fun _ _ e => e)
    obtain ⟨v, rfl, h₁⟩ := h₁
    refine g_bindA (wpAny_mono h₁ (fun _ s₂ h₂ => ?_) fun _ _ e => e)
    refine g_bindA (wpAny_mono h₂ (fun _ s₃ h₃ => g_bind (g_mono h₃ fun f s₄ h₄ => ?_)) fun _ _ e => e)
    cases f with
    | next => exact g_pure (.inr (.inl ⟨rfl, n + 1 - (i + 1), by lia, i + 1, hlt, rfl, h₄⟩))
    | cont => exact g_pure (.inr (.inl ⟨rfl, n + 1 - (i + 1), by lia, i + 1, hlt, rfl, h₄⟩))
    | brk => exact g_pure (.inl ⟨_, rfl, h₄⟩)
    | ret v => exact g_pure (.inl ⟨_, rfl, h₄⟩)
  · have hin : i = n := by lia
    subst hin
    refine g_any (wpAny_mono (fin s hI) (fun r s₁ h₁ => ?_) fun _ _ e => e)
    obtain ⟨rfl, h₁⟩ := h₁
    refine g_pure (.inr (.inr ⟨_, rfl, rfl, codeG_any (codeAny_block (wpAny_execs_nil ⟨_, rfl, h₁⟩))⟩))
end

section
variable {prog : Program} {w : World} {A : Around} {env : Env} {s₀ : Shared} {h : Heap} {tk : Nat} {rest : List Stmt} {Q : Flow → Shared → Prop}
theorem gt_while {t : Expr} {body : List Stmt} {pos : Pos} {X : Type} (K : X → Heap → Prop) (mu : X → Nat) (x₀ : X) (h0 : K x₀ h)
    (hturn : ∀ x h₁ tk₁, tk ≤ tk₁ → K x h₁ → ∃ c, EvT prog w A env { s₀ with heap := h₁, toks := tk₁ } t c ∧
      (c = true → ∀ h₂ tk₂, tk ≤ tk₂ → h₁.StaysIn h₂ → wpG (model prog w) A (execs body env) (fun f s' => match f with
        | .next | .cont => ∃ y h' tk', s' = { s₀ with heap := h', toks := tk' } ∧ tk ≤ tk' ∧ K y h' ∧ mu y < mu x
        | .brk => False
        | .ret v => Q (.ret v) s') { s₀ with heap := h₂, toks := tk₂ }) ∧
      (c = false → ∀ h₂ tk₂, tk ≤ tk₂ → h₁.StaysIn h₂ → wpG (model prog w) A (execs rest env) Q { s₀ with heap := h₂, toks := tk₂ })) :
    wpG (model prog w) A (execs (.While t body [] pos :: rest) env) Q { s₀ with heap := h, toks := tk } := by
  refine q_cons (q_While ?_)
  refine codeG_while (fun k s' => ∃ x h' tk', s' = { s₀ with heap := h', toks := tk' } ∧ tk ≤ tk' ∧ K x h' ∧ k = mu x) ?_ (mu x₀) ⟨x₀, h, tk, rfl, Nat.le_refl _, h0, rfl⟩
  intro k s' hq; obtain ⟨x, h', tk', rfl, htk, hJ, rfl⟩ := hq
  obtain ⟨c, hc, h1, h2⟩ := hturn x h' tk' htk hJ
  refine wpAny_mono (hc _ _ (Up.refl _)) (fun b s₂ q => ?_) fun _ _ e => e
  obtain ⟨kp, rfl⟩ := q
  obtain ⟨h₂, tk₂, rfl, st, htk₂⟩ := kp.cases
  dsimp only at st htk₂
  have htk₂' := Nat.le_trans htk htk₂
  cases b with
  | true =>
    simp only [if_true]
    refine g_mono (h1 rfl h₂ tk₂ htk₂' st) fun f s₃ q => ?_
    have fin : (∃ y h' tk', s₃ = { s₀ with heap := h', toks := tk' } ∧ tk ≤ tk' ∧ K y h' ∧ mu y < mu x) → ∃ k', k' < mu x ∧ ∃ x h' tk', s₃ = { s₀ with heap := h', toks := tk' } ∧ tk ≤ tk' ∧ K x h' ∧ k' = mu x := by
      intro hq; obtain ⟨y, h', tk', e, ht, hJ', hlt⟩ := hq
      exact ⟨mu y, hlt, y, h', tk', e, ht, hJ', rfl⟩
    cases f with
    | next => exact fin q
    | cont => exact fin q
    | brk => exact q.elim
    | ret v => exact q
  | false =>
    simp only [Bool.false_eq_true, if_false]
    exact q_nil (h2 rfl h₂ tk₂ htk₂' st)
end

section
variable {prog : Program} {w : World} {A : Around} {s : Shared}
theorem callG_def {a : Addr} {o : Obj} {fd : FuncData} {body : List Stmt} {args : List Value} {binds : List (Str × Value)} {T : Value → Shared → Shared → Prop} (hroom : A.depth < recursionLimit) (ho : s.heap.get? a = some o) (hd : o.data = .func fd) (hlim : s.heap.NoLimit)
    (hcd : s.heap.CodeRec fd.code fd.qualname) (hbody : fd.body = .stmts body) (hbind : BindsTo s fd ⟨args, []⟩ binds) (hcell : ∀ x ∈ fd.scope.names, x.2 ≠ .cell) (hloc : ∀ x ∈ binds, fd.scope.names.lookup x.1 = some .local) (hclo : fd.closure = []) (hnd : (binds.map (·.1)).Nodup)
    (h : ∀ L h₁ tk, s.toks ≤ tk → Sta s.heap (callEnv fd L a).locals (callEnv fd L a).cells binds [] [] h₁ → wpG (model prog w) (A.deeper (callEnv fd L a)) (execs body (callEnv fd L a)) (fun f s' => Keeps s s' ∧ T (match f with | .ret v => v | _ => .none) s s') { s with heap := h₁, toks := tk })
    (hco : fd.scope.isCoroutine = false := by rfl) (hgen : fd.scope.isGenerator = false := by rfl) (hk : fd.scope.kind = .function := by rfl) :
    wpG (model prog w) A (call (.ref a) args) (fun v s' => Kp s s' ∧ T v s s') s := by
  refine g_mono (g_toks (n := s.toks) (Nat.le_refl _) (g_call (Q := fun v s' => Keeps s s' ∧ T v s s') ?_)) fun v s' q => ⟨⟨q.2.1, q.1⟩, q.2.2⟩
  refine codeG_callFunction hroom ho hd hco hgen hbody hcd (hbind _ _ _ _ ?_)
  refine wpAny_newFunctionEnv hcell hloc (fun h₁ hns hsb => ?_) hk
  have hk₁ : s.heap.StaysIn h₁ := fun b o e => hsb.extBut b o (Nat.ne_of_lt (Heap.lt_size e)) (Heap.get?_push_of_some _ e)
  have S : Sta s.heap (callEnv fd s.heap.objs.size a).locals (callEnv fd s.heap.objs.size a).cells binds [] [] h₁ := by
    have hce : (callEnv fd s.heap.objs.size a).cells = [] := hclo
    rw [hce]
    refine ⟨⟨_, hns, fun x v e => ?_⟩, hk₁, Nat.le_refl _, (fun x v e => by simp at e), (fun x c e => by simp at e), (fun n c hm => nomatch hm), List.Pairwise.nil, List.nodup_nil, (fun p hp => nomatch hp), List.nodup_nil⟩
    rw [lookup_rev hnd]; exact e
  refine ⟨hlim.fresh _ hsb, g_mono (h _ h₁ _ (Nat.le_add_right _ _) S) fun f s' q => ⟨_, rfl, q⟩⟩
theorem callG_defC {a : Addr} {o : Obj} {fd : FuncData} {body : List Stmt} {args : List Value} {binds m cm : List (Str × Value)} {T : Value → Shared → Shared → Prop} (hroom : A.depth < recursionLimit) (ho : s.heap.get? a = some o) (hd : o.data = .func fd) (hlim : s.heap.NoLimit)
    (hcd : s.heap.CodeRec fd.code fd.qualname) (hbody : fd.body = .stmts body) (hbind : bindArgs fd ⟨args, []⟩ = pure binds) (hclo : fd.closure = [])
    (hkind : (binds.all fun y => fd.scope.names.lookup y.1 == some .local || fd.scope.names.lookup y.1 == some .cell) = true) (hcs : ∀ p ∈ cm, fd.scope.names.lookup p.1 = some .cell)
    (hm : ∀ L, ∀ p ∈ m, bindL (callEnvC fd L a).kindOf binds (fun _ => none) p.1 = some p.2) (hcm : ∀ L, ∀ p ∈ cm, bindC (callEnvC fd L a).kindOf binds (fun _ => none) p.1 = some p.2)
    (hnames : ((cellsFrom 0 fd.scope.names []).map (·.1)).Nodup)
    (h : ∀ L h₁ tk, s.toks ≤ tk → Sta s.heap (callEnvC fd L a).locals (callEnvC fd L a).cells m cm [] h₁ → wpG (model prog w) (A.deeper (callEnvC fd L a)) (execs body (callEnvC fd L a)) (fun f s' => Keeps s s' ∧ T (match f with | .ret v => v | _ => .none) s s') { s with heap := h₁, toks := tk })
    (hco : fd.scope.isCoroutine = false := by rfl) (hgen : fd.scope.isGenerator = false := by rfl) (hk : fd.scope.kind = .function := by rfl) :
    wpG (model prog w) A (call (.ref a) args) (fun v s' => Kp s s' ∧ T v s s') s := by
  refine g_mono (g_toks (n := s.toks) (Nat.le_refl _) (g_call (Q := fun v s' => Keeps s s' ∧ T v s s') ?_)) fun v s' q => ⟨⟨q.2.1, q.1⟩, q.2.2⟩
  refine codeG_callFunction hroom ho hd hco hgen hbody hcd ?_
  rw [hbind, hclo]
  refine wpAny_pure (wpAny_mono (wpAny_toks_of (Nat.le_refl _) (wpAny_newFunctionEnv_cells (E := fun _ _ => False) (Q := fun env s' => env = callEnvC fd s.heap.objs.size a ∧ InCallC s (callEnvC fd s.heap.objs.size a).locals (bindL (callEnvC fd s.heap.objs.size a).kindOf binds fun _ => none) (callEnvC fd s.heap.objs.size a).cells
        (bindC (callEnvC fd s.heap.objs.size a).kindOf binds fun _ => none) s') hk (kindsX hkind _) fun env he s' x => ?_)) (fun env s' q => ?_) fun _ _ q => q.2)
  · subst he; exact ⟨rfl, x⟩
  obtain ⟨htk, rfl, X⟩ := q
  refine ⟨hlim.keeps X.toInCall.keep, ?_⟩
  obtain ⟨h₁, tk, rfl, hk₁⟩ := X.done
  dsimp only at htk
  have hnm : ((callEnvC fd s.heap.objs.size a).cells.map (·.1)).Nodup := cellsFrom_names fd.scope.names 0 (s.heap.objs.size + 1) [] [] rfl ▸ hnames
  have S : Sta s.heap (callEnvC fd s.heap.objs.size a).locals (callEnvC fd s.heap.objs.size a).cells m cm [] h₁ := by
    refine ⟨⟨_, X.toInCall.ns, fun x v e => hm _ (x, v) (mem_of_lookup e)⟩, hk₁, Nat.le_refl _, fun x v e => ?_, fun x c e => ⟨_, X.cell x c e⟩, X.above, X.apart, hnm, (fun p hp => nomatch hp), List.nodup_nil⟩
    have e' := hcm s.heap.objs.size (x, v) (mem_of_lookup e)
    obtain ⟨c, hc⟩ := Option.isSome_iff_exists.mp (cellsFrom_some fd.scope.names (s.heap.objs.size + 1) [] (.inl (hcs (x, v) (mem_of_lookup e))))
    have hX := X.cell x c hc
    dsimp only at e'
    rw [e'] at hX
    exact ⟨c, hc, hX⟩
  exact g_mono (h _ h₁ _ htk S) fun f s' q => ⟨_, rfl, q⟩
end

section
variable {w : World} {A : Around} {s : Shared} {mean : ExcName → Option Value} {mg mb : Str → Option Value}
theorem callG_fn {a : Addr} (f : FnIs a) {body : List Stmt} {args : List Value} {binds : List (Str × Value)} {T : Value → Shared → Shared → Prop} {n : Nat} (G : G0 w mean mg mb s) (R : Room A n)
    (hcd : codeIn (KK w) f.val.code f.val.qualname = true) (hbody : f.val.body = .stmts body) (hbind : BindsTo s f.val ⟨args, []⟩ binds) (hcell : ∀ x ∈ f.val.scope.names, x.2 ≠ .cell) (hloc : (binds.all fun x => decide (f.val.scope.names.lookup x.1 = some .local)) = true) (hclo : f.val.closure = []) (hnd : decide ((binds.map (·.1)).Nodup) = true)
    (h : ∀ L h₁ tk, s.toks ≤ tk → Sta s.heap (callEnv f.val L a).locals (callEnv f.val L a).cells binds [] [] h₁ → wpG (model PR w) (A.deeper (callEnv f.val L a)) (execs body (callEnv f.val L a)) (fun fl s' => Keeps s s' ∧ T (match fl with | .ret v => v | _ => .none) s s') { s with heap := h₁, toks := tk })
    (hco : f.val.scope.isCoroutine = false := by rfl) (hgen : f.val.scope.isGenerator = false := by rfl) (hk : f.val.scope.kind = .function := by rfl) :
    wpG (model PR w) A (call (.ref a) args) (fun v s' => Kp s s' ∧ T v s s') s := by
  obtain ⟨o, ho, hd⟩ := fn_obj (f.property w)
  exact callG_def R.depth (G.X _ _ ho) hd G.T.nolimit (codeRec_of G.X hcd) hbody hbind hcell (locs hloc) hclo (of_decide_eq_true hnd) h hco hgen hk
theorem callG_fnC {a : Addr} (f : FnIs a) {body : List Stmt} {args : List Value} {binds m cm : List (Str × Value)} {T : Value → Shared → Shared → Prop} {n : Nat} (G : G0 w mean mg mb s) (R : Room A n)
    (hcd : codeIn (KK w) f.val.code f.val.qualname = true) (hbody : f.val.body = .stmts body) (hbind : bindArgs f.val ⟨args, []⟩ = pure binds) (hclo : f.val.closure = [])
    (hkind : (binds.all fun y => f.val.scope.names.lookup y.1 == some .local || f.val.scope.names.lookup y.1 == some .cell) = true) (hcs : ∀ p ∈ cm, f.val.scope.names.lookup p.1 = some .cell)
    (hm : ∀ L, ∀ p ∈ m, bindL (callEnvC f.val L a).kindOf binds (fun _ => none) p.1 = some p.2) (hcm : ∀ L, ∀ p ∈ cm, bindC (callEnvC f.val L a).kindOf binds (fun _ => none) p.1 = some p.2)
    (hnames : ((cellsFrom 0 f.val.scope.names []).map (·.1)).Nodup)
    (h : ∀ L h₁ tk, s.toks ≤ tk → Sta s.heap (callEnvC f.val L a).locals (callEnvC f.val L a).cells m cm [] h₁ → wpG (model PR w) (A.deeper (callEnvC f.val L a)) (execs body (callEnvC f.val L a)) (fun fl s' => Keeps s s' ∧ T (match fl with | .ret v => v | _ => .none) s s') { s with heap := h₁, toks := tk })
    (hco : f.val.scope.isCoroutine = false := by rfl) (hgen : f.val.scope.isGenerator = false := by rfl) (hk : f.val.scope.kind = .function := by rfl) :
    wpG (model PR w) A (call (.ref a) args) (fun v s' => Kp s s' ∧ T v s s') s := by
  obtain ⟨o, ho, hd⟩ := fn_obj (f.property w)
  exact callG_defC R.depth (G.X _ _ ho) hd G.T.nolimit (codeRec_of G.X hcd) hbody hbind hclo hkind hcs hm hcm hnames h hco hgen hk
end
end

/- D0 -/
/- bytearrays -/
section
open PySem PySem.W PyProof.Rows PySem.Calls
open Sem (wp)
namespace FA
theorem mro_ba : mroOf (.type "bytearray") = pure [.type "bytearray", .type "object"] := by rw [mroOf_type]; kernel_rfl
theorem lookup_ba_new : typeLookup (.type "bytearray") "__new__" = pure (some (.builtin "bytearray.__new__")) := by rw [typeLookup_type, builtinLookup_eq_fast]; kernel_rfl
theorem slot_ba_init : Slot "bytearray" "__init__" "bytearray.__init__" :=
  .of (owner := "bytearray") (n := "__init__") (by rw [typeLookup_type, builtinLookup_eq_fast]; kernel_rfl) (by decide +kernel) (by decide +kernel) (by decide +kernel)
    (by first | exact .inl (by decide +kernel) | exact .inr (by decide +kernel)) (by rw [isSubtype_type]; kernel_rfl)
theorem called_ba : TypeCalled "bytearray" "bytearray.__new__" "bytearray.__init__" :=
  ⟨by decide +kernel, by decide +kernel, ⟨_, _, mro_ba⟩, madeBy_type mro_ba lookup_ba_new (by decide +kernel), by decide +kernel, by rw [isSubtype_type]; kernel_rfl, slot_ba_init⟩
theorem typeCall_ba : checkTypeCall "bytearray" ⟨[], []⟩ = pure () := by kernel_rfl
theorem newCall_ba : checkBuiltinCall "bytearray.__new__" ⟨[.type "bytearray"], []⟩ = pure () := by kernel_rfl
theorem entry_ba_init : entryFor table "bytearray.__init__" = some Builtin.«bytearray.__init__» := entryFor_of_tree (by kernel_rfl)
theorem entry_ba_new : entryFor table "bytearray.__new__" = some Builtin.«list.__new__» := entryFor_alias (id' := "list.__new__") (by rw [fastTable_eq_tree]; kernel_rfl) (by first | rfl | decide +kernel) (by decide +kernel) (by rw [fastTable_eq_tree]; kernel_rfl)
theorem plain_ba_new : plainId "bytearray.__new__" = true := by decide +kernel
theorem owner_ba : Manifest.owners.lookup (String.ofList ['y', 'a', 'r', 'r', 'a', 'e', 't', 'y', 'b'].reverse) = some Manifest.sig_bytearray := by kernel_rfl
theorem slot_ba_append : Slot "bytearray" "append" "bytearray.append" :=
  .of (owner := "bytearray") (n := "append") (by rw [typeLookup_type, builtinLookup_eq_fast]; kernel_rfl) (by decide +kernel) (by decide +kernel) (by decide +kernel)
    (by first | exact .inl (by decide +kernel) | exact .inr (by decide +kernel)) (by rw [isSubtype_type]; kernel_rfl)
theorem type_ba_append : typeOf (.builtin "bytearray.append") = pure (.type "method_descriptor") := by show builtinType _ = _; rw [builtinType_eq_fast]; kernel_rfl
theorem entry_ba_append : entryFor table "bytearray.append" = some Builtin.«bytearray.append» := entryFor_of_tree (by kernel_rfl)
theorem args_ba_append (a b : Value) : argsOk "bytearray.append" ⟨[a, b], []⟩ := by
  unfold argsOk; rw [signature?_of (id := "bytearray.append") (n := "append".toList.reverse) (o := ['y', 'a', 'r', 'r', 'a', 'e', 't', 'y', 'b']) (by kernel_rfl) owner_ba]; kernel_rfl
theorem slot_ba_extend : Slot "bytearray" "extend" "bytearray.extend" :=
  .of (owner := "bytearray") (n := "extend") (by rw [typeLookup_type, builtinLookup_eq_fast]; kernel_rfl) (by decide +kernel) (by decide +kernel) (by decide +kernel)
    (by first | exact .inl (by decide +kernel) | exact .inr (by decide +kernel)) (by rw [isSubtype_type]; kernel_rfl)
theorem type_ba_extend : typeOf (.builtin "bytearray.extend") = pure (.type "method_descriptor") := by show builtinType _ = _; rw [builtinType_eq_fast]; kernel_rfl
theorem entry_ba_extend : entryFor table "bytearray.extend" = some Builtin.«bytearray.extend» := entryFor_of_tree (by kernel_rfl)
theorem args_ba_extend (a b : Value) : argsOk "bytearray.extend" ⟨[a, b], []⟩ := by
  unfold argsOk; rw [signature?_of (id := "bytearray.extend") (n := "extend".toList.reverse) (o := ['y', 'a', 'r', 'r', 'a', 'e', 't', 'y', 'b']) (by kernel_rfl) owner_ba]; kernel_rfl
theorem plain_ba : PlainAttrs "bytearray" :=
  ⟨⟨"bytearray.__getattribute__", by rw [typeLookup_type, builtinLookup_eq_fast]; kernel_rfl, by decide +kernel⟩, by rw [typeLookup_type, builtinLookup_eq_fast]; kernel_rfl⟩
theorem sig_ba_init : argsOk "bytearray.__init__" ⟨[.none], []⟩ := by
  unfold argsOk; rw [signature?_of (id := "bytearray.__init__") (n := "__init__".toList.reverse) (o := ['y', 'a', 'r', 'r', 'a', 'e', 't', 'y', 'b']) (by kernel_rfl) owner_ba]; kernel_rfl
theorem args_ba_init (a : Value) : argsOk "bytearray.__init__" ⟨[a], []⟩ := by
  unfold argsOk; rw [signature?_of (id := "bytearray.__init__") (n := "__init__".toList.reverse) (o := ['y', 'a', 'r', 'r', 'a', 'e', 't', 'y', 'b']) (by kernel_rfl) owner_ba]; kernel_rfl
end FA
end

/- D1 -/
/- bytearrays -/
section
open PySem PySem.W PyProof.Rows PySem.Calls
open Sem (wp)
noncomputable abbrev BA (b : Array UInt8) : Obj := { cls := .type "bytearray", data := .bytearray b }

section
variable {prog : Program} {w : World} {A : Around} {s : Shared}
theorem g_call_tree {id : String} {b : Builtin} {self : Value} {rest : List Value} {T : String} {name : Str} {Q : Value → Shared → Prop} (h : Slot T name id) (hcl : cleanC (.builtin id ⟨self :: rest, []⟩) = true) (hT : s.TypeIs self T)
    (hb : entryFor table id = some b) (hc : wpG (model prog w) A.in1 (b ⟨self :: rest, []⟩) (fun fin s' => ∃ v, fin = .done (.ret v) ∧ Q v s') s) (ha : argsOk id ⟨self :: rest, []⟩) :
    wpG (model prog w) A (call (.builtin id) (self :: rest)) Q s := by
  refine g_call (codeG_tree rfl ?_)
  show wpG _ A.in1 (do checkBuiltinCall id ⟨self :: rest, []⟩; again (.builtin id ⟨self :: rest, []⟩)) _ _
  refine g_bindA (h.check _ _ _ _ _ _ _ _ hT ha (g_pure (.inr ⟨_, rfl, plainId_quiet h.plain _, codeG_tree hcl ?_⟩)))
  rw [Around.under_plainId h.plain _]
  show wpG _ _ (match entryFor table id with | some b => b ⟨self :: rest, []⟩ | none => unsupported ((withoutEnding? id "#data").getD id)) _ s
  rw [hb]
  exact g_mono hc fun fin s' ⟨v, e, q⟩ => .inl ⟨_, e, _, rfl, q⟩

theorem code_ba_new {E : Value → Shared → Prop} {Q₁ : Value → Shared → Prop} (h : Q₁ (.ref s.heap.objs.size) { s with heap := s.heap.push (BA #[]) }) :
    codeAny (model prog w) A (.call (.builtin "bytearray.__new__") ⟨[.type "bytearray"], []⟩) (wants Q₁ E) s := by
  refine codeAny_of_tree ?_
  show wpAny _ A.in1 (do checkBuiltinCall "bytearray.__new__" ⟨[.type "bytearray"], []⟩; again (.builtin "bytearray.__new__" ⟨[.type "bytearray"], []⟩)) _ _ s
  refine wpAny_bind (wpAny_of_eq FA.newCall_ba (wpAny_pure ⟨plainId_quiet FA.plain_ba_new _, codeAny_builtin_stack FA.entry_ba_new rfl fun p st => ?_⟩))
  rw [Around.under_plainId FA.plain_ba_new _]
  have hsub : isSubtype (.type "bytearray") (.type "bytearray") = pure true := FA.called_ba.sub
  have hown : ("bytearray.__new__".splitOn ".__new__").headD "" = "bytearray" := by rw [split_bytearray]; rfl
  obtain ⟨hp, g, d, tk, os⟩ := s
  simp only [hown]
  wp_walk
  exact h

section
variable {M : Model} {E : Value → Shared → Prop}
theorem w_payload {a : Addr} {b : Array UInt8} {Q : Array UInt8 → Shared → Prop} (ho : s.heap.get? a = some (BA b)) (h : Q b s) : wpAny M A (Builtin.Bytes.payload (.ref a)) Q E s := by
  unfold Builtin.Bytes.payload Builtin.Bytes.payload?
  refine wpAny_bind (wpAny_bind (wpAny_load ho ?_))
  exact wpAny_pure (wpAny_pure h)
theorem w_exports {a : Addr} {b : Array UInt8} {Q : Nat → Shared → Prop} (ho : s.heap.get? a = some (BA b)) (h : Q 0 s) : wpAny M A (Builtin.Bytes.exportsOf (.ref a)) Q E s := by
  unfold Builtin.Bytes.exportsOf
  refine wpAny_bind (wpAny_load ho ?_)
  exact wpAny_pure h
theorem w_write {a : Addr} {b : Array UInt8} {f : Array UInt8 → Array UInt8} {Q : Unit → Shared → Prop} (ho : s.heap.get? a = some (BA b)) (hz : (f b).size ≤ sizeLine)
    (h : ∀ h', h'.get? a = some (BA (f b)) → Heap.SameBut a s.heap h' → Q () { s with heap := h' }) : wpAny M A (Builtin.Bytes.write (.ref a) f) Q E s := by
  show wpAny M A (updateBytearray a f) Q E s
  unfold updateBytearray
  refine wpAny_bind (wpAny_load ho (wpAny_bind (wpAny_update ho ?_)))
  have hu : (s.heap.update a (Obj.mapBytearray f)).get? a = some (BA (f b)) := Heap.get?_update_self _ ho rfl
  refine wpAny_lookBehind (o := BA (f b)) hu ?_ (h _ hu (Heap.SameBut.update ..))
  show (if (f b).size > sizeLine then _ else none) = none
  rw [if_neg (Nat.not_lt.mpr hz)]
theorem tyBA {a : Addr} {b : Array UInt8} (ho : s.heap.get? a = some (BA b)) : s.TypeIs (.ref a) "bytearray" := ⟨_, ho, rfl⟩
theorem w_ownRelease {a : Addr} {b : Array UInt8} {Q : Bool → Shared → Prop} (ho : s.heap.get? a = some (BA b)) (h : Q false s) : wpAny M A (Builtin.Bytes.ownRelease (.ref a)) Q E s := by
  unfold Builtin.Bytes.ownRelease Builtin.Bytes.slotIsOwn
  refine wpAny_bind (wpAny_bind (wpAny_specialOf (tyBA ho) (show typeLookup (.type "bytearray") _ = pure (some (.builtin "bytearray.__release_buffer__")) by rw [typeLookup_type, builtinLookup_eq_fast]; kernel_rfl) ?_))
  dsimp only
  rw [if_neg (by decide +kernel)]
  refine wpAny_isInstance (T := "bytearray") (b := true) (tyBA ho) ?_ (wpAny_pure h)
  show isSubtype (.type "bytearray") (.type _) = pure true
  rw [isSubtype_type]; kernel_rfl
end
theorem g_free {a : Addr} {b : Array UInt8} {Q : Bool → Shared → Prop} (ho : s.heap.get? a = some (BA b)) (h : Q false s) :
    wpG (model prog w) A (Builtin.Bytes.exported (.ref a) <||> (do return (← Builtin.Bytes.exportsOf (.ref a)) > 0)) Q s := by
  unfold orM
  refine g_bind (g_exported ?_)
  show wpG _ _ (Builtin.Bytes.exportsOf (.ref a) >>= _) _ _
  exact g_bindA (w_exports ho (g_pure h))
theorem g_checkResize {a : Addr} {b : Array UInt8} {Q : Unit → Shared → Prop} (ho : s.heap.get? a = some (BA b)) (h : Q () s) : wpG (model prog w) A (Builtin.Bytes.checkResize (.ref a)) Q s := by
  unfold Builtin.Bytes.checkResize
  exact g_bind (g_free ho (g_pure h))
theorem g_ba_init {a : Addr} {Q : Value → Shared → Prop} (ho : s.heap.get? a = some (BA #[])) (h : ∀ h', h'.get? a = some (BA #[]) → Heap.SameBut a s.heap h' → Q .none { s with heap := h' }) :
    wpG (model prog w) A (Builtin.«bytearray.__init__» ⟨[.ref a], []⟩) (fun fin s' => ∃ v, fin = .done (.ret v) ∧ Q v s') s := by
  unfold Builtin.«bytearray.__init__»
  dsimp only
  refine g_bindA (w_ownRelease ho ?_)
  rw [if_neg Bool.false_ne_true]
  refine g_bindA (wpAny_of_eq (a := [none, none, none]) (by kernel_rfl) ?_)
  refine g_bindA (m := pure ()) (wpAny_pure ?_)
  refine g_bindA (m := pure ()) (wpAny_pure ?_)
  refine g_bind (g_free ho ?_)
  rw [if_neg Bool.false_ne_true]
  refine g_bindA (w_write ho (Nat.zero_le _) fun h' ho' hs => ?_)
  exact g_pure ⟨_, rfl, h h' ho' hs⟩
theorem cl_append (args : Args) : cleanC (.builtin "bytearray.append" args) = true := by show (!holders.contains "bytearray.append") = true; decide +kernel
theorem cl_extend (args : Args) : cleanC (.builtin "bytearray.extend" args) = true := by show (!holders.contains "bytearray.extend") = true; decide +kernel
theorem cl_init (args : Args) : cleanC (.builtin "bytearray.__init__" args) = true := by show (!holders.contains "bytearray.__init__") = true; decide +kernel
theorem cl_type (args : Args) : cleanC (.builtin "type.__call__" args) = true := by show (!holders.contains "type.__call__") = true; decide +kernel
theorem g_append {a : Addr} {b : Array UInt8} {i : Nat} {t : Tok} {Q : Value → Shared → Prop} (ho : s.heap.get? a = some (BA b)) (hi : i < 256) (hz : b.size < sizeLine)
    (h : ∀ h', h'.get? a = some (BA (b.push i.toUInt8)) → Heap.SameBut a s.heap h' → Q .none { s with heap := h' }) :
    wpG (model prog w) A (call (.builtin "bytearray.append") [.ref a, .int i t]) Q s := by
  refine g_call_tree FA.slot_ba_append (cl_append _) (tyBA ho) FA.entry_ba_append ?_ (FA.args_ba_append _ _)
  unfold Builtin.«bytearray.append»
  refine g_bindA (wpAny_of_eq (a := (.ref a, .int i t)) (by rfl) ?_)
  dsimp only
  refine g_bindA (m := Builtin.Bytes.byteValue (.int i t)) ?_
  unfold Builtin.Bytes.byteValue
  refine wpAny_bind (wpAny_of_eq (a := (i : Int)) (by rfl) ?_)
  rw [if_neg (by simp; lia)]
  refine wpAny_pure ?_
  refine g_bind (g_checkResize ho ?_)
  refine g_bindA (w_write ho (by rw [Array.size_push]; lia) fun h' ho' hs => ?_)
  exact g_pure ⟨_, rfl, h h' (by simpa using ho') hs⟩


theorem codeG_builtin {id : String} {args : Args} {b : Builtin} {R : Flow → Shared → Prop} (hcl : cleanC (.builtin id args) = true) (hb : entryFor table id = some b)
    (h : wpG (model prog w) (A.under (.builtin id args)) (b args) (fun fin s' => (∃ f, fin = .done f ∧ R f s') ∨ ∃ c', fin = .again c' ∧ c'.quiet = true ∧ codeG (model prog w) A c' R s') s) : codeG (model prog w) A (.builtin id args) R s := by
  refine codeG_tree hcl ?_
  show wpG _ _ (match entryFor table id with | some b => b args | none => unsupported ((withoutEnding? id "#data").getD id)) _ s
  rw [hb]; exact h
theorem g_callSpecial {self : Value} {T : String} {name : Str} {id : String} {args : List Value} {kw : List (Str × Value)} {Q : Option Value → Shared → Prop} (hT : s.TypeIs self T) (h : Slot T name id)
    (hc : wpG (model prog w) A (call (.builtin id) (self :: args) kw) (fun v => Q (some v)) s) : wpG (model prog w) A (callSpecial? self name args kw) Q s := by
  simp only [callSpecial?]
  refine g_bindA (wpAny_specialOf hT h.lookup ?_)
  simp only [h.bind]
  exact g_holding (g_bind (g_pure (g_bind (g_mono hc fun v s' q => g_pure q))))
theorem g_callType {T newId initId : String} {args : List Value} {Bi : Builtin} {Q Q₁ : Value → Shared → Prop} (ft : TypeCalled T newId initId) (hcl : ∀ a, cleanC (.builtin initId a) = true)
    (hct : checkTypeCall T ⟨args, []⟩ = pure ()) (entryI : entryFor table initId = some Bi)
    (hnew : codeAny (model prog w) A.in1 (.call (.builtin newId) ⟨.type T :: args, []⟩) (wants Q₁ (fun _ _ => False)) s)
    (hnext : ∀ obj s₁, Q₁ obj s₁ → s₁.TypeIs obj T ∧ argsOk initId ⟨obj :: args, []⟩ ∧ wpG (model prog w) A.in1.in1 (Bi ⟨obj :: args, []⟩) (fun fin s' => ∃ v, fin = .done (.ret v) ∧ v = .none ∧ Q obj s') s₁) :
    wpG (model prog w) A (call (.type T) args) Q s := by
  obtain ⟨c, tl, hmro⟩ := ft.mro
  refine g_call (codeG_tree rfl (g_any ?_))
  show wpAny _ _ (pure (Fin.again (.builtin "type.__call__" ⟨.type T :: args, []⟩))) _ _ _
  refine wpAny_pure (Or.inr ⟨.builtin "type.__call__" ⟨.type T :: args, []⟩, rfl, Code.quiet_builtin _ (by decide +kernel), ?_⟩)
  refine codeG_builtin (cl_type _) F.entry_type_call ?_
  rw [Around.under_plain (weight_type_call_type T args []) (units_type_call_type T args [])]
  unfold Builtin.«type.__call__»
  dsimp only
  rw [if_neg (by rw [ft.notType]; exact Bool.false_ne_true), if_neg (by rw [ft.canCreate]; exact Bool.false_ne_true)]
  refine g_bindA (wpAny_of_eq hct ?_)
  refine g_bindA (wpAny_of_eq hmro ?_)
  rw [if_neg (by simp)]
  refine g_bindA (wpAny_of_eq ft.made ?_)
  dsimp only
  refine g_bindA (wpAny_pure ?_)
  refine g_bindA (wpAny_holding (wpAny_call (codeAny_mono hnew fun r s₁ hr => ?_)))
  cases r with
  | error e => exact hr
  | ok fl =>
    cases fl with
    | ret obj =>
      obtain ⟨hT, hok, hrun⟩ := hnext obj s₁ hr
      dsimp only
      refine g_bindA (wpAny_isInstance hT ft.sub ?_)
      rw [if_neg (by simp)]
      refine g_bind (g_holding (g_callSpecial hT ft.init (g_mono (g_call_tree ft.init (hcl _) hT entryI hrun hok) fun v s₂ q => ?_)))
      obtain ⟨rfl, q⟩ := q
      dsimp only
      rw [if_neg (by decide)]
      exact g_pure (.inl ⟨_, rfl, _, rfl, q⟩)
    | _ => exact hr.elim
theorem g_new_ba {Q : Value → Shared → Prop} (h : ∀ a h', s.heap.get? a = none → h'.get? a = some (BA #[]) → s.heap.StaysIn h' → Q (.ref a) { s with heap := h' }) :
    wpG (model prog w) A (call (.type "bytearray") []) Q s := by
  refine g_callType FA.called_ba cl_init FA.typeCall_ba FA.entry_ba_init (code_ba_new (Q₁ := fun v s₁ => v = .ref s.heap.objs.size ∧ s₁ = { s with heap := s.heap.push (BA #[]) }) ⟨rfl, rfl⟩) fun obj s₁ q => ?_
  obtain ⟨rfl, rfl⟩ := q
  have ho : (s.heap.push (BA #[])).get? s.heap.objs.size = some (BA #[]) := Heap.get?_push_size _ rfl
  have hno : s.heap.get? s.heap.objs.size = none := by
    cases q : s.heap.get? s.heap.objs.size with
    | none => rfl
    | some o => exact absurd (Heap.lt_size q) (Nat.lt_irrefl _)
  refine ⟨tyBA ho, FA.args_ba_init _, g_ba_init ho fun h' ho' hs => ⟨rfl, h _ h' hno ho' fun b o e => hs.extBut b o (fun q => ?_) (Heap.get?_push_of_some _ e)⟩⟩
  rw [q, hno] at e; cases e
end
end

/- D2 -/
/- bytearrays: extend; bytes of one -/
section
open PySem PySem.W PyProof.Rows PySem.Calls
open Sem (wp)
section
variable {prog : Program} {w : World} {A : Around} {s : Shared} {M : Model} {E : Value → Shared → Prop}
theorem lk_bytes_buffer : typeLookup (.type "bytes") "__buffer__" = pure (some (.builtin "bytes.__buffer__")) := by rw [typeLookup_type, builtinLookup_eq_fast]; kernel_rfl
theorem lk_bytes_release : typeLookup (.type "bytes") "__release_buffer__" = pure none := by rw [typeLookup_type, builtinLookup_eq_fast]; kernel_rfl
theorem sub_bb : isSubtype (.type "bytes") (.type "bytes") = pure true := F.sub_bytes_bytes
theorem w_own_buffer {b : Array UInt8} {t : Tok} {Q : Bool → Shared → Prop} (h : Q true s) : wpAny M A (Builtin.Bytes.slotIsOwn (.bytes b t) "__buffer__") Q E s := by
  unfold Builtin.Bytes.slotIsOwn
  refine wpAny_bind (wpAny_specialOf (typeIs_bytes s b t) lk_bytes_buffer ?_)
  dsimp only
  rw [if_neg (by decide +kernel)]
  exact wpAny_isInstance (typeIs_bytes s b t) (by rw [isSubtype_type]; kernel_rfl) h
theorem w_own_release {b : Array UInt8} {t : Tok} {Q : Bool → Shared → Prop} (h : Q false s) : wpAny M A (Builtin.Bytes.ownRelease (.bytes b t)) Q E s := by
  unfold Builtin.Bytes.ownRelease Builtin.Bytes.slotIsOwn
  refine wpAny_bind (wpAny_bind (wpAny_specialOf (typeIs_bytes s b t) lk_bytes_release ?_))
  exact wpAny_pure (wpAny_pure h)
theorem w_buffer {b : Array UInt8} {t : Tok} {id : String} {full : Bool} {Q : Option (Array UInt8) → Shared → Prop} (h : Q (some b) s) : wpAny M A (Builtin.Bytes.buffer? id (.bytes b t) full) Q E s := by
  unfold Builtin.Bytes.buffer?
  refine wpAny_bind (wpAny_specialOf (typeIs_bytes s b t) lk_bytes_buffer ?_)
  dsimp only
  refine wpAny_bind (w_own_buffer ?_)
  rw [if_neg (by decide)]
  refine wpAny_bind (wpAny_specialOf (typeIs_bytes s b t) lk_bytes_buffer ?_)
  show wpAny M A (Builtin.Bytes.ownRelease (.bytes b t) >>= _) _ _ _
  refine wpAny_bind (w_own_release ?_)
  rw [if_neg Bool.false_ne_true]
  exact wpAny_bind (wpAny_of_eq (a := b) rfl (wpAny_pure h))
theorem w_takeQuiet {b : Array UInt8} {t : Tok} {id : String} {Q : Option (Array UInt8 × Option Value) → Shared → Prop} (h : Q (some (b, none)) s) : wpAny M A (Builtin.Bytes.takeBufferQuiet? id (.bytes b t) 0) Q E s := by
  unfold Builtin.Bytes.takeBufferQuiet? Builtin.Bytes.takeBuffer?
  refine wpAny_bind (wpAny_attempt ?_)
  refine wpAny_bind (wpAny_specialOf (typeIs_bytes s b t) lk_bytes_buffer ?_)
  dsimp only
  refine wpAny_bind (w_own_buffer ?_)
  rw [if_neg (by decide)]
  refine wpAny_bind (wpAny_specialOf (typeIs_bytes s b t) lk_bytes_buffer ?_)
  show wpAny M A (Builtin.Bytes.buffer? id (.bytes b t) _ >>= _) _ _ _
  exact wpAny_bind (w_buffer (wpAny_pure (wpAny_pure h)))
theorem g_extend {a : Addr} {b c : Array UInt8} {t : Tok} {Q : Value → Shared → Prop} (ho : s.heap.get? a = some (BA b)) (hz : (b ++ c).size ≤ sizeLine)
    (h : ∀ h', h'.get? a = some (BA (b ++ c)) → Heap.SameBut a s.heap h' → Q .none { s with heap := h' }) :
    wpG (model prog w) A (call (.builtin "bytearray.extend") [.ref a, .bytes c t]) Q s := by
  refine g_call_tree FA.slot_ba_extend (cl_extend _) (tyBA ho) FA.entry_ba_extend ?_ (FA.args_ba_extend _ _)
  unfold Builtin.«bytearray.extend»
  refine g_bindA (wpAny_of_eq (a := (.ref a, .bytes c t)) (by rfl) ?_)
  dsimp only
  refine g_bindA (wpAny_specialOf (typeIs_bytes s c t) lk_bytes_buffer ?_)
  rw [if_pos (by rfl)]
  refine g_bindA (wpAny_rule ?_)
  refine g_bindA (w_payload ho ?_)
  refine g_bindA (w_takeQuiet ?_)
  dsimp only
  rw [if_pos (by rfl)]
  have tail : ∀ s' : Shared, s'.heap.get? a = some (BA b) → (∀ h', h'.get? a = some (BA (b ++ c)) → Heap.SameBut a s'.heap h' → Q .none { s' with heap := h' }) → wpG (model prog w) A.in1 (do Builtin.Bytes.write (.ref a) (· ++ c); ret .none) (fun fin s'' => ∃ v, fin = .done (.ret v) ∧ Q v s'') s' := fun s' ho' h' =>
    g_bindA (w_write ho' hz fun h'' a1 a2 => g_pure ⟨_, rfl, h' h'' a1 a2⟩)
  show wpG _ _ (if (!c.isEmpty) = true then _ else _) _ _
  split
  · exact g_bind (g_checkResize ho (tail s ho h))
  · exact tail s ho h
theorem lk_ba_buffer : typeLookup (.type "bytearray") "__buffer__" = pure (some (.builtin "bytearray.__buffer__")) := by rw [typeLookup_type, builtinLookup_eq_fast]; kernel_rfl
theorem lk_ba_bytes : typeLookup (.type "bytearray") "__bytes__" = pure none := by rw [typeLookup_type, builtinLookup_eq_fast]; kernel_rfl
theorem lk_ba_index : typeLookup (.type "bytearray") "__index__" = pure none := by rw [typeLookup_type, builtinLookup_eq_fast]; kernel_rfl
theorem w_own_bufferA {a : Addr} {b : Array UInt8} {Q : Bool → Shared → Prop} (ho : s.heap.get? a = some (BA b)) (h : Q true s) : wpAny M A (Builtin.Bytes.slotIsOwn (.ref a) "__buffer__") Q E s := by
  unfold Builtin.Bytes.slotIsOwn
  refine wpAny_bind (wpAny_specialOf (tyBA ho) lk_ba_buffer ?_)
  dsimp only
  rw [if_neg (by decide +kernel)]
  exact wpAny_isInstance (tyBA ho) (by rw [isSubtype_type]; kernel_rfl) h
theorem w_bufferA {a : Addr} {b : Array UInt8} {id : String} {full : Bool} {Q : Option (Array UInt8) → Shared → Prop} (ho : s.heap.get? a = some (BA b)) (h : Q (some b) s) : wpAny M A (Builtin.Bytes.buffer? id (.ref a) full) Q E s := by
  unfold Builtin.Bytes.buffer?
  refine wpAny_bind (wpAny_specialOf (tyBA ho) lk_ba_buffer ?_)
  dsimp only
  refine wpAny_bind (w_own_bufferA ho ?_)
  rw [if_neg (by decide)]
  refine wpAny_bind (wpAny_specialOf (tyBA ho) lk_ba_buffer ?_)
  show wpAny M A (Builtin.Bytes.ownRelease (.ref a) >>= _) _ _ _
  refine wpAny_bind (w_ownRelease ho ?_)
  rw [if_neg Bool.false_ne_true]
  exact wpAny_bind (w_payload ho (wpAny_pure h))
theorem w_bytes_new {a : Addr} {b : Array UInt8} {Q : Value → Shared → Prop} (ho : s.heap.get? a = some (BA b)) (hz : b.size ≤ sizeLine) (h : Q (.bytes b s.toks) { s with toks := s.toks + 1 }) :
    wpAny (model prog w) A (Builtin.«bytes.__new__» ⟨[.type "bytes", .ref a], []⟩) (fun fin s' => ∃ v, fin = .done (.ret v) ∧ Q v s') E s := by
  unfold Builtin.«bytes.__new__»
  dsimp only
  refine wpAny_bind (wpAny_of_eq (a := true) (by rfl) ?_)
  rw [if_neg (by decide)]
  refine wpAny_bind (wpAny_of_eq sub_bb ?_)
  rw [if_neg (by decide)]
  refine wpAny_bind (wpAny_of_eq (a := [some (.ref a), none, none]) (by rfl) ?_)
  refine wpAny_bind (m := pure ()) (wpAny_pure ?_)
  refine wpAny_bind (m := pure ()) (wpAny_pure ?_)
  dsimp only
  rw [if_neg (by decide)]
  refine wpAny_bind (wpAny_specialOf (tyBA ho) lk_ba_bytes ?_)
  dsimp only
  refine wpAny_bind (wpAny_bind (m := asStr? _) ?_)
  unfold asStr?
  refine wpAny_bind (wpAny_load ho ?_)
  refine wpAny_pure (wpAny_pure ?_)
  rw [if_neg (by decide)]
  refine wpAny_bind (wpAny_specialOf (tyBA ho) lk_ba_index ?_)
  rw [if_pos (by rfl)]
  show wpAny _ _ (Builtin.Bytes.buffer? "bytes.__new__" (.ref a) true >>= _) _ _ _
  refine wpAny_bind (w_bufferA ho ?_)
  dsimp only
  refine wpAny_bind (wpAny_rule ?_)
  refine wpAny_bind (wpAny_mkBytes ?_ hz)
  show wpAny _ _ (ret _) _ _ _
  exact wpAny_pure ⟨_, rfl, h⟩
namespace FB2
theorem mro_by : mroOf (.type "bytes") = pure [.type "bytes", .type "object"] := by rw [mroOf_type]; kernel_rfl
theorem lookup_by_new : typeLookup (.type "bytes") "__new__" = pure (some (.builtin "bytes.__new__")) := by rw [typeLookup_type, builtinLookup_eq_fast]; kernel_rfl
theorem slot_by_init : Slot "bytes" "__init__" "object.__init__" :=
  .of (owner := "object") (n := "__init__") (by rw [typeLookup_type, builtinLookup_eq_fast]; kernel_rfl) (by decide +kernel) (by decide +kernel) (by decide +kernel)
    (by first | exact .inl (by decide +kernel) | exact .inr (by decide +kernel)) (by rw [isSubtype_type]; kernel_rfl)
theorem called_by : TypeCalled "bytes" "bytes.__new__" "object.__init__" :=
  ⟨by decide +kernel, by decide +kernel, ⟨_, _, mro_by⟩, madeBy_type mro_by lookup_by_new (by decide +kernel), by decide +kernel, by rw [isSubtype_type]; kernel_rfl, slot_by_init⟩
theorem typeCall_by_1 (a : Value) : checkTypeCall "bytes" ⟨[a], []⟩ = pure () := by kernel_rfl
theorem newCall_by_1 (a : Value) : checkBuiltinCall "bytes.__new__" ⟨[.type "bytes", a], []⟩ = pure () := by kernel_rfl
theorem entry_by_new : entryFor table "bytes.__new__" = some Builtin.«bytes.__new__» := entryFor_of_tree (by kernel_rfl)
end FB2
theorem call_bytes_ba {a : Addr} {b : Array UInt8} {Q : Value → Shared → Prop} (ho : s.heap.get? a = some (BA b)) (hz : b.size ≤ sizeLine) (h : Q (.bytes b s.toks) { s with toks := s.toks + 1 }) :
    wpAny (model prog w) A (call (.type "bytes") [.ref a]) Q E s :=
  callType_new FB2.called_by (by decide) (FB2.typeCall_by_1 _) (FB2.newCall_by_1 _) (fun obj => F.args_object_init_2 obj _) FB2.entry_by_new
    (S := fun _ R s => s.heap.get? a = some (BA b) ∧ R (.ok (.ret (.bytes b s.toks))) { s with toks := s.toks + 1 })
    (Meets.of_wp fun prog w A R s ⟨ho, hr⟩ => wpAny_mono (w_bytes_new (Q := fun v s' => R (.ok (.ret v)) s') ho hz hr) (fun fin s' hq => by obtain ⟨v, e, q⟩ := hq; exact ⟨_, e, q⟩) fun _ _ e => e) ⟨ho, typeIs_bytes _ _ _, h⟩
end
end

/- G4 -/
/- statements on the path: assignments, appends -/
section
open PySem PySem.W PyProof.Rows PySem.Calls
section
variable {prog : Program} {w : World} {A : Around} {env : Env} {h₀ : Heap} {m cm : List (Str × Value)} {led : List (Addr × Obj)} {s₀ : Shared} {h : Heap} {tk : Nat} {rest : List Stmt} {Q : Flow → Shared → Prop}
theorem gt_assignN {x : Str} {px pos : Pos} {e : Expr} {P : Value → List (Addr × Obj) → Prop} (S : Sta h₀ env.locals env.cells m cm led h)
    (he : wpG (model prog w) A (eval e env) (fun v s' => Kp { s₀ with heap := h, toks := tk } s' ∧ ∃ nw, NewIn h s'.heap nw ∧ P v nw) { s₀ with heap := h, toks := tk })
    (k : ∀ v nw h' tk', tk ≤ tk' → P v nw → Sta h₀ env.locals env.cells ((x, v) :: m) cm (nw ++ led) h' → wpG (model prog w) A (execs rest env) Q { s₀ with heap := h', toks := tk' })
    (hl : env.kindOf x = some .local := by rfl) (hk : env.scope.kind = .function := by rfl) (hs : swapsWith e (some (.Name x px)) pos.line env = pure false := by rfl) :
    wpG (model prog w) A (execs (.Assign [.Name x px] e pos :: rest) env) Q { s₀ with heap := h, toks := tk } := by
  refine q_cons (q_Assign (g_mono he fun v s₁ q => ?_) hs)
  obtain ⟨kp, nw, fr, p⟩ := q
  obtain ⟨h', tk', rfl, st, ht⟩ := kp.cases
  exact bindLocal (s := { s₀ with heap := h', toks := tk' }) (S.add st fr) (fun h'' tk'' ht' S' => k v nw h'' tk'' (Nat.le_trans ht ht') p S') hl hk
theorem gt_assign {x : Str} {px pos : Pos} {e : Expr} {P : Value → Prop} (S : Sta h₀ env.locals env.cells m cm led h)
    (he : wpG (model prog w) A (eval e env) (fun v s' => Kp { s₀ with heap := h, toks := tk } s' ∧ P v) { s₀ with heap := h, toks := tk })
    (k : ∀ v h' tk', tk ≤ tk' → P v → Sta h₀ env.locals env.cells ((x, v) :: m) cm led h' → wpG (model prog w) A (execs rest env) Q { s₀ with heap := h', toks := tk' })
    (hl : env.kindOf x = some .local := by rfl) (hk : env.scope.kind = .function := by rfl) (hs : swapsWith e (some (.Name x px)) pos.line env = pure false := by rfl) :
    wpG (model prog w) A (execs (.Assign [.Name x px] e pos :: rest) env) Q { s₀ with heap := h, toks := tk } :=
  gt_assignN (P := fun v nw => nw = [] ∧ P v) S (g_mono he fun v s' q => ⟨q.1, [], NewIn.nil _ _, rfl, q.2⟩) (fun v nw h' tk' ht p S' => by obtain ⟨rfl, p⟩ := p; exact k v h' tk' ht p S') hl hk hs
theorem gt_ift {t : Expr} {x : List Stmt} {pos : Pos} {c : Bool} {L : Addr} {cs : List (Str × Addr)} (S : Sta h₀ L cs m cm led h) (ht : EvT prog w A env { s₀ with heap := h, toks := tk } t c)
    (kt : c = true → ∀ h' tk', tk ≤ tk' → Sta h₀ L cs m cm led h' → wpG (model prog w) A (execs x env) (fun f s' => match f with | .next => wpG (model prog w) A (execs rest env) Q s' | f => Q f s') { s₀ with heap := h', toks := tk' })
    (kf : c = false → ∀ h' tk', tk ≤ tk' → Sta h₀ L cs m cm led h' → wpG (model prog w) A (execs rest env) Q { s₀ with heap := h', toks := tk' }) :
    wpG (model prog w) A (execs (.If t x [] pos :: rest) env) Q { s₀ with heap := h, toks := tk } := by
  refine q_cons (q_If (wpAny_mono (ht _ _ (Up.refl _)) (fun b s₂ q => ?_) fun _ _ e => e))
  obtain ⟨kp, rfl⟩ := q
  obtain ⟨h', tk', rfl, st, hq⟩ := kp.cases
  cases b with
  | true => simp only [if_true]; exact kt rfl h' tk' hq (S.keeps st)
  | false => simp only [Bool.false_eq_true, if_false]; exact q_nil (kf rfl h' tk' hq (S.keeps st))
/- x.append(e) of a bytearray that the frame made -/
theorem gt_append {x : Str} {px apos pos epos : Pos} {e : Expr} {a : Addr} {b : Array UInt8} {i : Nat} (S : Sta h₀ env.locals env.cells m cm ((a, BA b) :: led) h) (hx : m.lookup x = some (.ref a))
    (he : EvP prog w A env { s₀ with heap := h, toks := tk } e (IsI i)) (hi : i < 256) (hz : b.size < sizeLine)
    (k : ∀ h' tk', tk ≤ tk' → Sta h₀ env.locals env.cells m cm ((a, BA (b.push i.toUInt8)) :: led) h' → wpG (model prog w) A (execs rest env) Q { s₀ with heap := h', toks := tk' })
    (hk : env.scope.kind = .function := by rfl) (hl : env.kindOf x = some .local := by rfl) (hd : (x == ("__debug__" : Str)) = false := by decide)
    (hbase : attributeBase (.Name x px) "append" env (eval (.Name x px) env) = eval (.Name x px) env := by rfl) (hp : starEach [e] env = [(false, eval e env)] := by rfl) (hline : (apos.endLine == pos.line) = true := by rfl)
    (hi' : interactive env = false := by rfl) (hs : swapsWith (.Call (.Attribute (.Name x px) "append" apos) [e] [] pos) none epos.line env = pure false := by rfl) :
    wpG (model prog w) A (execs (.Expr (.Call (.Attribute (.Name x px) "append" apos) [e] [] pos) epos :: rest) env) Q { s₀ with heap := h, toks := tk } := by
  have hb : h.get? a = some (BA b) := (S.objs _ List.mem_cons_self).1
  refine q_cons (q_Expr (q_evalMethod (T := "bytearray") (id := "bytearray.append") (n_local S hx rfl hk hl hd) FA.plain_ba FA.slot_ba_append FA.type_ba_append (Po := (· = .ref a)) (fun v s' u e => ?_) (args1 he hp) (fun ov vs s₁ s₂ k₁ k₂ ho hv => ?_) hbase (by rfl) hline) hi' hs)
  · subst e
    have := u.st _ _ hb
    exact ⟨tyBA this, fun a' e => by cases e; exact ⟨_, this, rfl⟩⟩
  · obtain ⟨u, rfl, t, rfl⟩ := hv
    subst ho
    have kp := k₁.trans k₂
    obtain ⟨h₂, tk₂, rfl, st, ht⟩ := kp.cases
    refine g_append (st _ _ hb) hi hz fun h' ho' hs' => ⟨(fun _ e => nomatch e), ?_⟩
    have S₂ := S.keeps st
    exact k h' tk₂ ht (S₂.turn (pre := []) rfl (fun c o hc e => hs'.extBut c o hc e) ho')

/- x.extend(e) of a bytearray that the frame made -/
theorem gt_extend {x : Str} {px apos pos epos : Pos} {e : Expr} {a : Addr} {b c : Array UInt8} {pre post : List (Addr × Obj)} (S : Sta h₀ env.locals env.cells m cm (pre ++ (a, BA b) :: post) h) (hx : m.lookup x = some (.ref a))
    (he : EvP prog w A env { s₀ with heap := h, toks := tk } e (IsY c)) (hz : (b ++ c).size ≤ sizeLine)
    (k : ∀ h' tk', tk ≤ tk' → Sta h₀ env.locals env.cells m cm (pre ++ (a, BA (b ++ c)) :: post) h' → wpG (model prog w) A (execs rest env) Q { s₀ with heap := h', toks := tk' })
    (hk : env.scope.kind = .function := by rfl) (hl : env.kindOf x = some .local := by rfl) (hd : (x == ("__debug__" : Str)) = false := by decide)
    (hbase : attributeBase (.Name x px) "extend" env (eval (.Name x px) env) = eval (.Name x px) env := by rfl) (hp : starEach [e] env = [(false, eval e env)] := by rfl) (hline : (apos.endLine == pos.line) = true := by rfl)
    (hi' : interactive env = false := by rfl) (hs : swapsWith (.Call (.Attribute (.Name x px) "extend" apos) [e] [] pos) none epos.line env = pure false := by rfl) :
    wpG (model prog w) A (execs (.Expr (.Call (.Attribute (.Name x px) "extend" apos) [e] [] pos) epos :: rest) env) Q { s₀ with heap := h, toks := tk } := by
  have hb : h.get? a = some (BA b) := (S.objs (a, BA b) (by simp)).1
  refine q_cons (q_Expr (q_evalMethod (T := "bytearray") (id := "bytearray.extend") (n_local S hx rfl hk hl hd) FA.plain_ba FA.slot_ba_extend FA.type_ba_extend (Po := (· = .ref a)) (fun v s' u e => ?_) (args1 he hp) (fun ov vs s₁ s₂ k₁ k₂ ho hv => ?_) hbase (by rfl) hline) hi' hs)
  · subst e
    have := u.st _ _ hb
    exact ⟨tyBA this, fun a' e => by cases e; exact ⟨_, this, rfl⟩⟩
  · obtain ⟨u, rfl, t, rfl⟩ := hv
    subst ho
    have kp := k₁.trans k₂
    obtain ⟨h₂, tk₂, rfl, st, ht⟩ := kp.cases
    refine g_extend (st _ _ hb) hz fun h' ho' hs' => ⟨(fun _ e => nomatch e), ?_⟩
    have S₂ := S.keeps st
    exact k h' tk₂ ht (S₂.turn (pre := pre) rfl (fun c o hc e => hs'.extBut c o hc e) ho')
end
end

/- G5 -/
/- a loop over enumerate(list), on the path -/
section
open PySem PySem.W PyProof.Rows PySem.Calls
theorem Sta.turn2 {h₀ h h' : Heap} {L : Addr} {cs : List (Str × Addr)} {m cm : List (Str × Value)} {led : List (Addr × Obj)} {a b : Addr} {oa ob oa' ob' : Obj} (S : Sta h₀ L cs m cm ((a, oa) :: (b, ob) :: led) h)
    (hs : ∀ c x, c ≠ a → c ≠ b → h.get? c = some x → h'.get? c = some x) (ha : h'.get? a = some oa') (hb : h'.get? b = some ob') : Sta h₀ L cs m cm ((a, oa') :: (b, ob') :: led) h' := by
  have A := S.objs (a, oa) (by simp)
  have B := S.objs (b, ob) (by simp)
  have hnod := S.nod
  simp only [List.map_cons, List.nodup_cons, List.mem_cons, not_or] at hnod
  obtain ⟨⟨hab, hal⟩, hbl, hrest⟩ := hnod
  refine { S with ns := ?_, keep := fun c o e => hs c o (fun q => ?_) (fun q => ?_) (S.keep c o e), cell := fun x v e => ?_, cellAll := fun x c e => ?_, objs := fun p hp => ?_, nod := by simp only [List.map_cons, List.nodup_cons, List.mem_cons, not_or]; exact ⟨⟨hab, hal⟩, hbl, hrest⟩ }
  · obtain ⟨mf, n, k⟩ := S.ns
    exact ⟨mf, n.at' fun o e => hs L o (Ne.symm A.2.2.1) (Ne.symm B.2.2.1) e, k⟩
  · rw [q, A.2.1] at e; cases e
  · rw [q, B.2.1] at e; cases e
  · obtain ⟨c, hc, i⟩ := S.cell x v e
    refine ⟨c, hc, ?_⟩
    obtain ⟨o, ho, r⟩ := i
    exact ⟨o, hs c o (Ne.symm (A.2.2.2 x c (mem_of_lookup hc))) (Ne.symm (B.2.2.2 x c (mem_of_lookup hc))) ho, r⟩
  · obtain ⟨v, o, ho, r⟩ := S.cellAll x c e
    exact ⟨v, o, hs c o (Ne.symm (A.2.2.2 x c (mem_of_lookup e))) (Ne.symm (B.2.2.2 x c (mem_of_lookup e))) ho, r⟩
  · rcases List.mem_cons.mp hp with rfl | hp
    · exact ⟨ha, A.2⟩
    rcases List.mem_cons.mp hp with rfl | hp
    · exact ⟨hb, B.2⟩
    have P := S.objs p (List.mem_cons_of_mem _ (List.mem_cons_of_mem _ hp))
    refine ⟨hs _ _ (fun q => hal ?_) (fun q => hbl ?_) P.1, P.2⟩
    · rw [← q]; exact List.mem_map.mpr ⟨p, hp, rfl⟩
    · rw [← q]; exact List.mem_map.mpr ⟨p, hp, rfl⟩

noncomputable abbrev EO (it : Addr) (i : Int) (old : Value) : Obj := { cls := .type "enumerate", data := .fields #[.none, .bool false, .ref it, rawInt i, .none, old] }
section
variable {prog : Program} {w : World} {A : Around} {env : Env} {h₀ : Heap} {m cm : List (Str × Value)} {led : List (Addr × Obj)} {s₀ : Shared} {h : Heap} {tk : Nat} {rest : List Stmt} {Q : Flow → Shared → Prop}
/- for i, v in enumerate(l): K by the turn -/
theorem gt_forEnum {xi xv : Str} {pi pv pt pos : Pos} {kk : Nat} {iter : Expr} {body : List Stmt} {l : Addr} {items : Array Value} (hh : A.handled = none) (K : Nat → List (Str × Value) → List (Addr × Obj) → Prop)
    (S : Sta h₀ env.locals env.cells m cm led h) (hl : h₀.IsList l items)
    (hi : Ev prog w A env { s₀ with heap := h, toks := tk } iter (fun v s s' => ∃ e it, v = .ref e ∧ IsEnum s'.heap e it 0 .none ∧ s'.heap.IsListIter it l 0 ∧ ∃ oi, NewIn s.heap s'.heap [(it, oi), (e, EO it 0 .none)]))
    (h0 : K 0 m led)
    (hbody : ∀ i v m₁ led₁ pre h₁ tk₁ ti, tk ≤ tk₁ → items[i]? = some v → K i m₁ led₁ → pre.length = 2 → Sta h₀ env.locals env.cells ((xv, v) :: (xi, .int i ti) :: m₁) cm (pre ++ led₁) h₁ →
      wpG (model prog w) A (execs body env) (fun f s' => match f with
        | .next | .cont => ∃ h' tk' m₂ led₂, s' = { s₀ with heap := h', toks := tk' } ∧ tk₁ ≤ tk' ∧ Sta h₀ env.locals env.cells m₂ cm (pre ++ led₂) h' ∧ K (i + 1) m₂ led₂
        | .brk => False
        | .ret v => Q (.ret v) s') { s₀ with heap := h₁, toks := tk₁ })
    (hafter : ∀ m₁ led₁ h₁ tk₁, tk ≤ tk₁ → K items.size m₁ led₁ → Sta h₀ env.locals env.cells m₁ cm led₁ h₁ → wpG (model prog w) A (execs rest env) Q { s₀ with heap := h₁, toks := tk₁ })
    (hxi : env.kindOf xi = some .local := by rfl) (hxv : env.kindOf xv = some .local := by rfl) (hkd : env.scope.kind = .function := by rfl) (hs : ∀ x, foldedSetIterable iter env x = pure x := by intro _; rfl) :
    wpG (model prog w) A (execs (.For (.Tuple [.Name xi pi, .Name xv pv] kk pt) iter body [] pos :: rest) env) Q { s₀ with heap := h, toks := tk } := by
  refine q_cons (q_For (wpAny_mono (hi _ _ (Up.refl _)) (fun v s₁ q => ?_) fun _ _ e => e) hs)
  obtain ⟨kp, e, it, rfl, he, hit, oi, fr⟩ := q
  obtain ⟨h₁, tk₁, rfl, st, ht⟩ := kp.cases
  dsimp only at he hit fr ht
  refine wpAny_pyIter_enum he ?_
  have hoi := (fr.1 (it, oi) (by simp)).1
  dsimp only at hoi
  have S₁ := S.add st fr
  have hei : e ≠ it := by
    intro q
    have := fr.2
    rw [q] at this
    simp at this
  refine forG_core items.size (fun i s' => ∃ h' tk' m₁ led₁ old oi, s' = { s₀ with heap := h', toks := tk' } ∧ tk ≤ tk' ∧ IsEnum h' e it ((i : Nat) : Int) old ∧ h'.IsListIter it l i ∧
    Sta h₀ env.locals env.cells m₁ cm ((it, oi) :: (e, EO it (((i : Nat) : Int)) old) :: led₁) h' ∧ K i m₁ led₁) ?_ ?_
    ⟨h₁, tk₁, m, led, .none, oi, rfl, ht, he, hit, S₁, h0⟩
  · intro i s' hlt hq; obtain ⟨h', tk', m₁, led₁, old, oi', rfl, htk, he', hit', S', hK⟩ := hq
    have hl' : h'.IsList l items := hl.at fun o x => S'.keep _ _ x
    refine wpAny_pyNext_enum_item he' hit' hl' (x := items[i]) (by simp [hlt]) hei fun h₂ heo hit₂ htup hz hk₂ => ⟨_, rfl, ?_⟩
    dsimp only at heo htup hz hk₂ ⊢
    refine wpAny_letOwnedTupleGo_enum heo fun h₃ he₃ hs₃ => ?_
    dsimp only at hs₃ ⊢
    have heH : (e : Nat) < h'.objs.size := Heap.lt_size he'
    have hit₃ : h₃.IsListIter it l (i + 1) := hit₂.extBut hs₃.extBut (Ne.symm hei)
    obtain ⟨oi₃, hoi₃, hoc₃, hod₃⟩ := id hit₃
    have S₃ := S'.turn2 (oa' := oi₃) (ob' := EO it (((i : Nat) + 1 : Int)) (items[i])) (h' := h₃) (fun c x h1 h2 hx => hs₃.extBut c x h2 (hk₂ c x h2 h1 hx)) hoi₃ he₃
    have htup₃ : IsTup h₃ h'.objs.size #[.int i tk', items[i]] := ⟨_, (hs₃.2 _ (Nat.ne_of_gt heH)).trans htup, rfl, _, rfl⟩
    refine assign_pair (s := { s₀ with heap := h₃, toks := tk' + 1 }) hh htup₃ fun h₄ st₄ => ?_
    dsimp only at st₄ ⊢
    refine bindLocal (s := { s₀ with heap := h₄, toks := tk' + 1 }) (S₃.keeps st₄) (fun h₅ tk₅ ht₅ S₅ => ?_) hxi hkd
    refine bindLocal (s := { s₀ with heap := h₅, toks := tk₅ }) S₅ (fun h₆ tk₆ ht₆ S₆ => ?_) hxv hkd
    dsimp only at ht₅ ht₆
    have e1 : (((i + 1 : Nat)) : Int) = (i : Int) + 1 := by lia
    refine g_mono (hbody i items[i] m₁ led₁ [(it, oi₃), (e, EO it (((i : Nat) + 1 : Int)) (items[i]))] h₆ tk₆ _ (by lia) (by simp [hlt]) hK rfl S₆) fun f s₄ hf => ?_
    have fin : (∃ h' tk' m₂ led₂, s₄ = { s₀ with heap := h', toks := tk' } ∧ tk₆ ≤ tk' ∧ Sta h₀ env.locals env.cells m₂ cm ((it, oi₃) :: (e, EO it (((i : Nat) + 1 : Int)) (items[i])) :: led₂) h' ∧ K (i + 1) m₂ led₂) →
        ∃ h' tk' m₁ led₁ old oi, s₄ = { s₀ with heap := h', toks := tk' } ∧ tk ≤ tk' ∧ IsEnum h' e it ((i + 1 : Nat) : Int) old ∧ h'.IsListIter it l (i + 1) ∧
          Sta h₀ env.locals env.cells m₁ cm ((it, oi) :: (e, EO it (((i + 1 : Nat) : Int)) old) :: led₁) h' ∧ K (i + 1) m₁ led₁ := by
      intro hq; obtain ⟨h₇, tk₇, m₂, led₂, rfl, ht₇, S₇, hK₇⟩ := hq
      have o1 := (S₇.objs (it, oi₃) (by simp)).1
      have o2 := (S₇.objs (e, EO it ((i : Nat) + 1 : Int) (items[i])) (by simp)).1
      exact ⟨h₇, tk₇, m₂, led₂, items[i], oi₃, rfl, by lia, by rw [e1]; exact o2, ⟨oi₃, o1, hoc₃, hod₃⟩, by rw [e1]; exact S₇, hK₇⟩
    cases f with
    | next => exact fin hf
    | cont => exact fin hf
    | brk => exact hf.elim
    | ret v => exact hf
  · intro s' hq; obtain ⟨h', tk', m₁, led₁, old, oi', rfl, htk, he', hit', S', hK⟩ := hq
    have hl' : h'.IsList l items := hl.at fun o x => S'.keep _ _ x
    refine wpAny_pyNext_enum_end hh he' hit' hl' (by simp) fun h₂ hx₂ => ⟨rfl, ?_⟩
    exact hafter m₁ led₁ h₂ tk' htk hK (S'.tailBut fun b x hb hx => hx₂ b x hb hx).tail

theorem ev_enumerate {x : Str} {pp pos : Pos} {e : Expr} {l : Addr} {items : Array Value} {b : Shared} (hb : EvP prog w A env b (.Name x pp) (· = .type "enumerate")) (he : EvP prog w A env b e (· = .ref l)) (hl : b.heap.IsList l items) (hp : starEach [e] env = [(false, eval e env)] := by rfl) :
    Ev prog w A env b (.Call (.Name x pp) [e] [] pos) (fun v s s' => ∃ e it, v = .ref e ∧ IsEnum s'.heap e it 0 .none ∧ s'.heap.IsListIter it l 0 ∧ ∃ oi, NewIn s.heap s'.heap [(it, oi), (e, EO it 0 .none)]) := by
  refine ev_call ?_ hb (.type _) (args1 he hp) fun vs s s₁ E u u' hv => ?_
  · intro v s s₁ s' u hq; obtain ⟨e, it, rfl, a1, a2, oi, a3⟩ := hq
    exact ⟨e, it, rfl, a1, a2, oi, a3.back u.st⟩
  obtain ⟨_, rfl, rfl⟩ := hv
  have gone : ∀ k : Nat, s₁.heap.get? (s₁.heap.objs.size + k) = none := fun k => by
    cases q : s₁.heap.get? (s₁.heap.objs.size + k) with
    | none => rfl
    | some o => exact absurd (Heap.lt_size q) (Nat.not_lt.mpr (Nat.le_add_right _ _))
  refine call_enumerate_list (items := items) (hl.at fun o x => (u.trans u').st _ _ x) fun h' he' hit hz st => ?_
  obtain ⟨oi, hoi, hx⟩ := id hit
  refine ⟨⟨h', _, rfl, st⟩, _, _, rfl, he', hit, oi, NewIn.back u'.st ⟨fun p hp => ?_, ?_⟩⟩
  · rcases List.mem_cons.mp hp with rfl | hp
    · exact ⟨hoi, gone 0⟩
    · rw [List.mem_singleton.mp hp]; exact ⟨he', gone 1⟩
  · simp
end
end

/- C2 -/
section
open PySem PySem.W PyProof.Rows PySem.Calls
section
variable {w : World} {A : Around} {s : Shared} {E : Value → Shared → Prop} {mean : ExcName → Option Value} {mg mb : Str → Option Value}
/- a digit's byte -/
noncomputable def dig (n : Nat) : Nat := if n < 26 then 97 + n else 22 + n
noncomputable def thrN (j bias : Nat) : Nat := (thr j bias).toNat
theorem thr_bounds (j bias : Int) : 1 ≤ thr j bias ∧ thr j bias ≤ 26 := by unfold thr; split <;> (try split) <;> lia
theorem thrN_eq (j bias : Nat) : (thrN j bias : Int) = thr j bias := by unfold thrN; have := thr_bounds j bias; lia
theorem thrN_bounds (j bias : Nat) : 1 ≤ thrN j bias ∧ thrN j bias ≤ 26 := by have := thrN_eq j bias; have := thr_bounds j bias; lia
/- the digits of a number -/
noncomputable def ggiN (N bias j : Nat) : List Nat :=
  if N < thrN j bias then [dig N] else dig (thrN j bias + (N - thrN j bias) % (36 - thrN j bias)) :: ggiN ((N - thrN j bias) / (36 - thrN j bias)) bias (j + 1)
termination_by N
decreasing_by
  have := thrN_bounds j bias
  have h : (N - thrN j bias) / (36 - thrN j bias) ≤ N - thrN j bias := Nat.div_le_self _ _
  lia
theorem ggiN_length (bias : Nat) : ∀ (k N j : Nat), N < 10 ^ k → (ggiN N bias j).length ≤ k + 1
  | 0, N, j, h => by
    have := thrN_bounds j bias
    have : N < thrN j bias := by lia
    rw [ggiN, if_pos this]; simp
  | k + 1, N, j, h => by
    rw [ggiN]
    split
    · simp
    · have b := thrN_bounds j bias
      rw [List.length_cons]
      have : (N - thrN j bias) / (36 - thrN j bias) < 10 ^ k := by
        rw [Nat.div_lt_iff_lt_mul (by lia)]
        calc N - thrN j bias ≤ N := Nat.sub_le _ _
          _ < 10 ^ k * 10 := by rw [← Nat.pow_succ]; exact h
          _ ≤ 10 ^ k * (36 - thrN j bias) := Nat.mul_le_mul_left _ (by lia)
      have := ggiN_length bias k _ (j + 1) this
      lia
theorem dig_lt {n : Nat} (h : n < 36) : dig n < 256 := by unfold dig; split <;> lia
/- the digits, as the text has them -/
noncomputable def DG : List UInt8 := [97, 98, 99, 100, 101, 102, 103, 104, 105, 106, 107, 108, 109, 110, 111, 112, 113, 114, 115, 116, 117, 118, 119, 120, 121, 122, 48, 49, 50, 51, 52, 53, 54, 55, 56, 57]
theorem digits_at : ∀ n, n < 36 → (DG.getD n 0).toNat = dig n := by decide
theorem x_digits {env : Env} {pos : Pos} {b : Shared} {L : Addr} {cs : List (Str × Addr)} {m cm : List (Str × Value)} {led : List (Addr × Obj)} (G : G0 w mean mg mb s) (S : Sta s.heap L cs m cm led b.heap)
    (hg : env.globals = mainGlobals := by rfl) (hk : env.scope.kind = .function := by rfl) (hl : env.kindOf "digits" = some .globalImplicit := by rfl) :
    EvP PR w A env b (.Name "digits" pos) (IsY DG.toArray) :=
  gdef G S rfl ⟨_, rfl⟩ hg hk hl

theorem ev_digit {env : Env} {pp pos : Pos} {b : Shared} {L : Addr} {cs : List (Str × Addr)} {m cm : List (Str × Value)} {led : List (Addr × Obj)} {e : Expr} {n : Nat} (G : G0 w mean mg mb s) (S : Sta s.heap L cs m cm led b.heap)
    (he : EvP PR w A env b e (IsI n)) (hn : n < 36) (hd : EvP PR w A env b (.Name "digits" pp) (IsY DG.toArray))
    (hs : ∀ ov iv, subscripted e false ov iv = operate [ov, iv] (getItem ov iv) := by intro _ _; rfl) :
    EvP PR w A env b (.Subscript (.Name "digits" pp) e pos) (IsI (dig n : Nat)) :=
  ev_item back_P hd he (T := "bytes") (id := "bytes.__getitem__") (fun v s _ hq => by obtain ⟨t, e⟩ := hq; rw [e]; exact typeIs_bytes _ _ _) FB.slot_bytes_getitem.lookup (fun ov iv s E _ hq7 hq8 => by
    obtain ⟨t, e⟩ := hq7; obtain ⟨u, e'⟩ := hq8
    rw [e, e']
    refine getItem_bytes (by decide) (by lia) (by show (n : Int) < 36; lia) ⟨keeps_toks s _, s.toks, ?_⟩
    rw [Int.toNat_natCast, digits_at n hn]) hs
theorem c_ggi {n : Nat} (G : G0 w mean mg mb s) (R : Room A (n + 2)) {N bias : Nat} {tN tb : Tok} (hN : N < 10 ^ 18) : wpG (model PR w) A (call (.ref 62) [.int N tN, .int bias tb]) (fun v s' => Kp s s' ∧ IsY ((ggiN N bias 0).map (·.toUInt8)).toArray v) s := by
  refine callG_fn (T := fun v _ _ => IsY ((ggiN N bias 0).map (·.toUInt8)).toArray v) f_ggi (args := [.int N tN, .int bias tb]) G R (by kernel_rfl) (by rfl) (binds := [("N", .int N tN), ("bias", .int bias tb)]) (BindsTo.of_eq rfl) (by decide) (by rfl) (by rfl) (by rfl) fun L h₁ tk ht S => ?_
  refine gt_assignN S (P := fun v nw => ∃ a, v = .ref a ∧ nw = [(a, BA #[])]) ?_ ?_
  · refine q_evalCall (f := .type "bytearray") (gbuilt G S rfl rfl rfl) (.type _) args0 fun vs s₁ s₂ k₁ k₂ hv => ?_
    subst hv
    refine g_mono (g_toks (n := s₂.toks) (Nat.le_refl _) (g_new_ba (Q := fun v s' => ∃ a h', v = .ref a ∧ s' = { s₂ with heap := h' } ∧ s₂.heap.get? a = none ∧ h'.get? a = some (BA #[]) ∧ s₂.heap.StaysIn h') fun a h' a1 a2 a3 => ⟨a, h', rfl, rfl, a1, a2, a3⟩)) fun v s' q => ?_
    obtain ⟨_, a, h', rfl, rfl, a1, a2, a3⟩ := q
    have k := k₁.trans k₂
    refine ⟨k.trans ⟨⟨h', _, rfl, a3⟩, Nat.le_refl _⟩, [(a, BA #[])], NewIn.back k.up.st ⟨fun p hp => by rw [List.mem_singleton.mp hp]; exact ⟨a2, a1⟩, by simp⟩, a, rfl, rfl⟩
  intro v nw h tk₁ ht₁ p S
  obtain ⟨a, rfl, rfl⟩ := p
  refine q_seq (t_assign S (P := IsI 0) (by ktr_rel) fun v h tk₂ ht₂ p S => s_nil ?_)
  obtain ⟨tj, rfl⟩ := p
  dsimp only
  have hlen := ggiN_length bias 18 N 0 hN
  refine gt_while (X := Nat × Nat × List Nat) (fun x h => x.2.2 ++ ggiN x.1 bias x.2.1 = ggiN N bias 0 ∧ ∃ tN tj, Sta s.heap (callEnv f_ggi.val L 62).locals (callEnv f_ggi.val L 62).cells
      [("result", .ref a), ("j", .int x.2.1 tj), ("N", .int x.1 tN), ("bias", .int bias tb)] [] [(a, BA (x.2.2.map (·.toUInt8)).toArray)] h) (fun x => x.1) (N, 0, []) ⟨rfl, tN, tj, sre S ⟨rfl, rfl, rfl, rfl, trivial⟩ trivial⟩ fun x h tk₃ ht₃ hK => ?_
  obtain ⟨N', j, pre⟩ := x
  obtain ⟨hpre, tN', tj', S⟩ := hK
  dsimp only at hpre S ⊢
  refine ⟨true, evt_of (P := IsI 1) (c := true) (by ktr_rel) truth_int, fun _ h tk₄ ht₄ st => ?_, fun e => nomatch e⟩
  replace S := S.keeps st
  have b := thrN_bounds j bias
  have hpl : pre.length ≤ 19 := by have := congrArg List.length hpre; rw [List.length_append] at this; lia
  refine q_seq (t_assign S (P := IsI (thrN j bias : Nat)) ?_ fun v h tk₅ ht₅ p S => s_nil ?_)
  · refine ev_fn f_T back_P G S (by ktr_room) rfl (args2 (Pa := IsI j) (Pb := IsI bias) (by ktr_rel) (by ktr_rel)) fun vs s s₁ E _ _ G hv => ?_
    obtain ⟨u, v, rfl, ⟨t, rfl⟩, t', rfl⟩ := hv
    rw [thrN_eq]
    exact c_T G R.deeper
  obtain ⟨tt, rfl⟩ := p
  dsimp only
  refine gt_ift S (c := decide ((N' : Int) < (thrN j bias : Nat))) (by ktr_rel) (fun hc h tk₆ ht₆ S => ?_) fun hc h tk₆ ht₆ S => ?_
  · have hc := of_decide_eq_true hc
    have hlt : N' < thrN j bias := by lia
    refine gt_append S rfl (i := dig N') (ev_digit G S (by ktr_rel) (by lia) (x_digits G S)) (dig_lt (by lia)) (by simp; exact Nat.lt_of_le_of_lt hpl (by decide)) fun h tk₇ ht₇ S => ?_
    have hb := (S.objs _ List.mem_cons_self).1
    refine q_seq (t_return (T := fun v _ _ => IsY ((ggiN N bias 0).map (·.toUInt8)).toArray v) (ev_call back_P (gbuilt G S rfl rfl rfl) (.type "bytes") (args1 (Pa := (· = .ref a)) (by ktr_rel)) fun vs s₁ s₂ E u u' hv => ?_) fun v h tk _ st p => ⟨⟨_, _, rfl, stays_trans S.keep st⟩, p⟩)
    obtain ⟨_, rfl, rfl⟩ := hv
    refine call_bytes_ba ((u.trans u').st _ _ hb) (by simp; exact Nat.le_trans (Nat.succ_le_succ hpl) (by decide)) ⟨keeps_toks _ _, s₂.toks, ?_⟩
    rw [← hpre, ggiN, if_pos hlt]
    simp
  · have hc := of_decide_eq_false hc
    have hge : ¬ N' < thrN j bias := by lia
    have e1 : ((N' : Int) - (thrN j bias : Nat)) = ((N' - thrN j bias : Nat) : Int) := by lia
    have e2 : ((36 : Int) - (thrN j bias : Nat)) = ((36 - thrN j bias : Nat) : Int) := by lia
    have d0 : ((36 : Int) - (thrN j bias : Nat)) ≠ 0 := by lia
    have d1 : ((36 : Int) - (thrN j bias : Nat)).natAbs < 1073741824 := by lia
    have hm : (N' - thrN j bias) % (36 - thrN j bias) < 36 - thrN j bias := Nat.mod_lt _ (by lia)
    refine gt_append S rfl (i := dig (thrN j bias + (N' - thrN j bias) % (36 - thrN j bias))) (ev_digit G S (Ev.mono (T := fun v _ _ => IsI ((thrN j bias : Nat) + Int.fmod ((N' : Int) - (thrN j bias : Nat)) ((36 : Int) - (thrN j bias : Nat))) v) (by ktr_rel) fun v _ _ _ _ p => ?_) (by lia) (x_digits G S)) (dig_lt (by lia)) (by simp; exact Nat.lt_of_le_of_lt hpl (by decide)) fun h tk₇ ht₇ S => ?_
    · rw [e1, e2, fmod_nat] at p
      exact p
    refine q_seq (t_assign S (P := IsI (Int.fdiv ((N' : Int) - (thrN j bias : Nat)) ((36 : Int) - (thrN j bias : Nat)))) (by ktr_rel) fun v h tk₈ ht₈ p S => s_nil ?_)
    rw [e1, e2, fdiv_nat] at p
    obtain ⟨t, rfl⟩ := p
    dsimp only
    refine q_seq (t_aug S rfl (P := IsI 1) (by ktr_rel) iadd fun v h tk₉ ht₉ p S => s_nil ?_)
    obtain ⟨t', rfl⟩ := p
    dsimp only
    refine q_nil ⟨((N' - thrN j bias) / (36 - thrN j bias), j + 1, pre ++ [dig (thrN j bias + (N' - thrN j bias) % (36 - thrN j bias))]), h, tk₉, rfl, by ktr_room, ⟨?_, t, t', sre (by simpa using S) ⟨rfl, rfl, rfl, rfl, trivial⟩ trivial⟩, ?_⟩
    · rw [← hpre]; conv => rhs; rw [ggiN, if_neg hge]
      simp
    · have : (N' - thrN j bias) / (36 - thrN j bias) ≤ N' - thrN j bias := Nat.div_le_self _ _
      show (N' - thrN j bias) / (36 - thrN j bias) < N'
      lia
end
end

/- C3 -/
section
open PySem PySem.W PyProof.Rows PySem.Calls
section
variable {w : World} {A : Around} {s : Shared} {E : Value → Shared → Prop} {mean : ExcName → Option Value} {mg mb : Str → Option Value}
/- the bytes of the numbers -/
noncomputable def giN (bl : Nat) : List Nat → Nat → Nat → List Nat
  | [], _, _ => []
  | d :: ds, p, b => ggiN d b 0 ++ giN bl ds (p + 1) (adaptN d (p == 0) (bl + p + 1))
/- a list of ints -/
noncomputable def LI (items : Array Value) (ds : List Nat) : Prop := items.size = ds.length ∧ ∀ (i : Nat) (d : Nat), ds[i]? = some d → ∃ t, items[i]? = some (Value.int d t)
theorem giN_length (bl : Nat) : ∀ (ds : List Nat) (p b : Nat), (∀ d ∈ ds, d < 10 ^ 18) → (giN bl ds p b).length ≤ 19 * ds.length
  | [], _, _, _ => by simp [giN]
  | d :: ds, p, b, h => by
    rw [giN, List.length_append, List.length_cons]
    have := ggiN_length b 18 d 0 (h d (by simp))
    have := giN_length bl ds (p + 1) (adaptN d (p == 0) (bl + p + 1)) (fun x hx => h x (by simp [hx]))
    lia
theorem c_gi {n : Nat} (G : G0 w mean mg mb s) (R : Room A (n + 3)) {bl : Nat} {l : Addr} {items : Array Value} {ds : List Nat} {tb : Tok} (hl : s.heap.IsList l items) (hi : LI items ds) (hd : ∀ d ∈ ds, d < 10 ^ 18) (hbl : bl < 10 ^ 8) (hn : ds.length ≤ 1000) :
    wpG (model PR w) A (call (.ref 76) [.int bl tb, .ref l]) (fun v s' => Kp s s' ∧ IsY ((giN bl ds 0 72).map (·.toUInt8)).toArray v) s := by
  refine callG_fn (T := fun v _ _ => IsY ((giN bl ds 0 72).map (·.toUInt8)).toArray v) f_gi (args := [.int bl tb, .ref l]) G R (by kernel_rfl) (by rfl) (binds := [("baselen", .int bl tb), ("deltas", .ref l)]) (BindsTo.of_eq rfl) (by decide) (by rfl) (by rfl) (by rfl) fun L h₁ tk ht S => ?_
  refine gt_assignN S (P := fun v nw => ∃ a, v = .ref a ∧ nw = [(a, BA #[])]) ?_ ?_
  · refine q_evalCall (f := .type "bytearray") (gbuilt G S rfl rfl rfl) (.type _) args0 fun vs s₁ s₂ k₁ k₂ hv => ?_
    subst hv
    refine g_mono (g_toks (n := s₂.toks) (Nat.le_refl _) (g_new_ba (Q := fun v s' => ∃ a h', v = .ref a ∧ s' = { s₂ with heap := h' } ∧ s₂.heap.get? a = none ∧ h'.get? a = some (BA #[]) ∧ s₂.heap.StaysIn h') fun a h' a1 a2 a3 => ⟨a, h', rfl, rfl, a1, a2, a3⟩)) fun v s' q => ?_
    obtain ⟨_, a, h', rfl, rfl, a1, a2, a3⟩ := q
    have k := k₁.trans k₂
    refine ⟨k.trans ⟨⟨h', _, rfl, a3⟩, Nat.le_refl _⟩, [(a, BA #[])], NewIn.back k.up.st ⟨fun p hp => by rw [List.mem_singleton.mp hp]; exact ⟨a2, a1⟩, by simp⟩, a, rfl, rfl⟩
  intro v nw h tk₁ ht₁ p S
  obtain ⟨a, rfl, rfl⟩ := p
  refine q_seq (t_assign S (P := IsI 72) (by ktr_rel) fun v h tk₂ ht₂ p S => s_nil ?_)
  obtain ⟨tj, rfl⟩ := p
  dsimp only
  have hlen := giN_length bl ds 0 72 hd
  refine gt_forEnum R.deeper.hh (items := items) (fun i m led => ∃ b tb' pre, m = ([("bias", .int ((b : Nat) : Int) tb'), ("result", .ref a), ("baselen", .int bl tb), ("deltas", .ref l)] : List (Str × Value)) ∧ led = [(a, BA ((pre : List Nat).map (·.toUInt8)).toArray)] ∧ pre ++ giN bl (ds.drop i) i b = giN bl ds 0 72)
    (sre S (m' := [("bias", .int (72 : Nat) tj), ("result", .ref a), ("baselen", .int bl tb), ("deltas", .ref l)]) (cm' := []) ⟨rfl, rfl, rfl, rfl, trivial⟩ trivial) hl (ev_enumerate (gbuilt G S rfl rfl rfl) (by ktr_rel) (hl.at fun o x => S.keep _ _ x)) ⟨72, tj, [], rfl, rfl, rfl⟩ ?_ ?_
  · intro i v m₁ led₁ pre₁ h tk₃ ti htk hv hq; obtain ⟨b, tb', pre, rfl, rfl, hpre⟩ := hq; intro hp2 S
    replace S := sre S (m' := [("delta", v), ("points", .int i ti), ("bias", .int b tb'), ("result", .ref a), ("baselen", .int bl tb), ("deltas", .ref l)]) (cm' := []) ⟨rfl, rfl, rfl, rfl, rfl, rfl, trivial⟩ trivial
    have hlt : i < ds.length := by rw [← hi.1]; exact (Array.getElem?_eq_some_iff.mp hv).1
    obtain ⟨td, htd⟩ := hi.2 i ds[i] (by simp [hlt])
    rw [hv] at htd; cases htd
    have hdd : ds[i] < 10 ^ 18 := hd _ (by simp)
    have hdrop : ds.drop i = ds[i] :: ds.drop (i + 1) := List.drop_eq_getElem_cons hlt
    rw [hdrop, giN] at hpre
    have hpl : (pre ++ ggiN ds[i] b 0).length ≤ 19000 := by
      have := congrArg List.length hpre
      simp only [List.length_append] at this ⊢
      lia
    refine gt_assign S (P := IsY ((ggiN ds[i] b 0).map (·.toUInt8)).toArray) ?_ fun v h tk₄ ht₄ p S => ?_
    · have Gb := G.up (s' := { s with heap := h, toks := tk₃ }) ⟨S.keep, by ktr_room⟩
      obtain ⟨o, ho, hd'⟩ := fn_obj (f_ggi.property w)
      refine q_evalCall (gdef G S rfl rfl) (.fn 62 o _ (Gb.X _ _ ho) hd') (args2 (Pa := IsI ds[i]) (Pb := IsI b) (by ktr_rel) (by ktr_rel)) fun vs s₁ s₂ k₁ k₂ hv => ?_
      obtain ⟨u, v, rfl, ⟨t, rfl⟩, t', rfl⟩ := hv
      exact g_mono (c_ggi (Gb.up (k₁.trans k₂).up) R.deeper hdd) fun v s' q => ⟨(k₁.trans k₂).trans q.1, q.2⟩
    obtain ⟨ty, rfl⟩ := p
    refine gt_extend S rfl (c := ((ggiN ds[i] b 0).map (·.toUInt8)).toArray) (by ktr_rel) (by
      rw [Array.size_append]
      simp only [List.size_toArray, List.length_map]
      rw [List.length_append] at hpl
      exact Nat.le_trans hpl (by decide)) fun h tk₅ ht₅ S => ?_
    have hnc : bl + i + 1 ≠ 0 := by lia
    have hnc' : bl + i + 1 < 1073741824 := by lia
    refine q_seq (t_assign S (P := IsI (adaptN ds[i] (i == 0) (bl + i + 1) : Nat)) ?_ fun v h tk₆ ht₆ p S => s_nil ?_)
    · refine ev_fn f_adapt back_P G S (by ktr_room) rfl (args3 (Pa := IsI ds[i]) (Pb := (· = .bool ((i : Int) == 0))) (Pc := IsI (bl + i + 1)) (by ktr_rel) (by ktr_rel) (by ktr_rel)) fun vs s s₁ E _ _ G hv => ?_
      obtain ⟨u, v, x, rfl, ⟨t, rfl⟩, rfl, t', rfl⟩ := hv
      have e1 : ((i : Int) == 0) = (i == 0) := by cases i <;> rfl
      have e2 : ((bl : Int) + i + 1) = ((bl + i + 1 : Nat) : Int) := by lia
      rw [e1, e2]
      exact c_adapt G R.deeper hnc hnc'
    obtain ⟨tb₂, rfl⟩ := p
    dsimp only
    refine q_nil ⟨h, tk₆, _, _, rfl, by ktr_room, sre S (m' := [("bias", .int ((adaptN ds[i] (i == 0) (bl + i + 1) : Nat) : Int) tb₂), ("result", .ref a), ("baselen", .int bl tb), ("deltas", .ref l)]) (cm' := []) ⟨rfl, rfl, rfl, rfl, trivial⟩ trivial, _, tb₂, pre ++ ggiN ds[i] b 0, rfl, ?_, ?_⟩
    · simp
    · rw [← hpre]; simp
  · intro m₁ led₁ h tk₃ htk hq; obtain ⟨b, tb', pre, rfl, rfl, hpre⟩ := hq; intro S
    have hb := (S.objs _ List.mem_cons_self).1
    rw [hi.1, List.drop_length, giN, List.append_nil] at hpre
    refine q_seq (t_return (T := fun v _ _ => IsY ((giN bl ds 0 72).map (·.toUInt8)).toArray v) (ev_call back_P (gbuilt G S rfl rfl rfl) (.type "bytes") (args1 (Pa := (· = .ref a)) (by ktr_rel)) fun vs s₁ s₂ E u u' hv => ?_) fun v h tk _ st p => ⟨⟨_, _, rfl, stays_trans S.keep st⟩, p⟩)
    obtain ⟨_, rfl, rfl⟩ := hv
    refine call_bytes_ba ((u.trans u').st _ _ hb) (by
      simp only [List.size_toArray, List.length_map, hpre]
      have : (giN bl ds 0 72).length ≤ 19000 := by lia
      exact Nat.le_trans this (by decide)) ⟨keeps_toks _ _, s₂.toks, ?_⟩
    rw [hpre]
end
end

/- E1 -/
/- tuples, unpacking, a try without a raise -/
section
open PySem PySem.W PyProof.Rows PySem.Calls
noncomputable abbrev TO (vs : List Value) : Obj := { cls := .type "tuple", data := .seq vs.toArray }
theorem isTup_TO {h : Heap} {t : Addr} {vs : List Value} (e : h.get? t = some (TO vs)) : IsTup h t vs.toArray := ⟨_, e, rfl, _, rfl⟩
theorem get_none_of_size (h : Heap) (k : Nat) : h.get? (h.objs.size + k) = none := by
  cases q : h.get? (h.objs.size + k) with
  | none => rfl
  | some o => exact absurd (Heap.lt_size q) (Nat.not_lt.mpr (Nat.le_add_right _ _))
theorem new_push {h : Heap} {o : Obj} (ho : o.isFreed = false := by rfl) : NewIn h (h.push o) [(h.objs.size, o)] :=
  ⟨fun p hp => by rw [List.mem_singleton.mp hp]; exact ⟨Heap.get?_push_size _ ho, get_none_of_size h 0⟩, by simp⟩
theorem stays_push (h : Heap) (o : Obj) : h.StaysIn (h.push o) := fun _ _ e => Heap.get?_push_of_some _ e
section
variable {prog : Program} {w : World} {A : Around} {env : Env} {b : Shared}
theorem ev_tupleT {es : List Expr} {k : Nat} {pos : Pos} {P : List Value → Shared → Shared → Prop} (ha : ArgsTo prog w A env b es P) (hn : ∀ vs s s', Up b s → P vs s s' → vs.length ≤ sizeLine) :
    Ev prog w A env b (.Tuple es k pos) (fun v s s' => ∃ t vs s₁, v = .ref t ∧ Kp s s₁ ∧ P vs s s₁ ∧ s₁.heap.StaysIn s'.heap ∧ NewIn s₁.heap s'.heap [(t, TO vs)]) := by
  intro s E up
  refine wpAny_Tuple (wpAny_mono (ha.2 pos s E up) (fun vs s₁ q => ⟨hn vs s s₁ up q.2, ?_⟩) fun _ _ e => e)
  exact ⟨q.1.trans ⟨⟨_, _, rfl, stays_push _ _⟩, Nat.le_refl _⟩, _, vs, s₁, rfl, q.1, q.2, stays_push _ _, new_push⟩
theorem ev_listT {es : List Expr} {pos : Pos} {P : List Value → Shared → Shared → Prop} (ha : ArgsTo prog w A env b es P) (hn : ∀ vs s s', Up b s → P vs s s' → vs.length ≤ sizeLine) :
    Ev prog w A env b (.List es pos) (fun v s s' => ∃ t vs s₁, v = .ref t ∧ Kp s s₁ ∧ P vs s s₁ ∧ s₁.heap.StaysIn s'.heap ∧ NewIn s₁.heap s'.heap [(t, LO vs 0)]) := by
  intro s E up
  refine wpAny_List (wpAny_mono (ha.2 pos s E up) (fun vs s₁ q => ⟨hn vs s s₁ up q.2, ?_⟩) fun _ _ e => e)
  exact ⟨q.1.trans ⟨⟨_, _, rfl, stays_push _ _⟩, Nat.le_refl _⟩, _, vs, s₁, rfl, q.1, q.2, stays_push _ _, new_push⟩
/- a tuple of plain things -/
theorem ev_tuple {es : List Expr} {k : Nat} {pos : Pos} {P : List Value → Prop} (ha : ArgsTo prog w A env b es (fun vs _ _ => P vs)) (hn : ∀ vs, P vs → vs.length ≤ sizeLine) :
    EvN prog w A env b (.Tuple es k pos) (fun v nw => ∃ t vs, v = .ref t ∧ nw = [(t, TO vs)] ∧ P vs) :=
  (ev_tupleT ha fun vs _ _ _ p => hn vs p).mono fun v s s' _ _ hq7 => by obtain ⟨t, vs, s₁, e, k, p, st, n⟩ := hq7; exact ⟨[(t, TO vs)], n.back k.up.st, t, vs, e, rfl, p⟩
theorem ev_list {es : List Expr} {pos : Pos} {P : List Value → Prop} (ha : ArgsTo prog w A env b es (fun vs _ _ => P vs)) (hn : ∀ vs, P vs → vs.length ≤ sizeLine) :
    EvN prog w A env b (.List es pos) (fun v nw => ∃ t vs, v = .ref t ∧ nw = [(t, LO vs 0)] ∧ P vs) :=
  (ev_listT ha fun vs _ _ _ p => hn vs p).mono fun v s s' _ _ hq7 => by obtain ⟨t, vs, s₁, e, k, p, st, n⟩ := hq7; exact ⟨[(t, LO vs 0)], n.back k.up.st, t, vs, e, rfl, p⟩
end
section
variable {prog : Program} {w : World} {A : Around} {env : Env} {h₀ : Heap} {m cm : List (Str × Value)} {led : List (Addr × Obj)} {s₀ : Shared} {h : Heap} {tk : Nat} {rest : List Stmt} {Q : Flow → Shared → Prop} {E : Value → Shared → Prop}
/- a, b = e; what is new goes to the ledger -/
theorem t_pairN {x y : Str} {px py pt pos : Pos} {kk : Nat} {e : Expr} {G : Value → Value → List (Addr × Obj) → Prop} (hh : A.handled = none) (S : Sta h₀ env.locals env.cells m cm led h)
    (he : Ev prog w A env { s₀ with heap := h, toks := tk } e (fun v s s' => ∃ t va vb nw, v = .ref t ∧ IsTup s'.heap t #[va, vb] ∧ NewIn s.heap s'.heap nw ∧ G va vb nw))
    (k : ∀ va vb nw h' tk', tk ≤ tk' → G va vb nw → Sta h₀ env.locals env.cells ((y, vb) :: (x, va) :: m) cm (nw ++ led) h' → wpAny (model prog w) A (execs rest env) Q E { s₀ with heap := h', toks := tk' })
    (hx : env.kindOf x = some .local := by rfl) (hy : env.kindOf y = some .local := by rfl) (hkd : env.scope.kind = .function := by rfl)
    (hs : swapsWithSole [.Tuple [.Name x px, .Name y py] kk pt] e pos.line env = pure false := by rfl) (hw : swappedStores [.Tuple [.Name x px, .Name y py] kk pt] e env = pure none := by rfl) :
    wpAny (model prog w) A (execs (.Assign [.Tuple [.Name x px, .Name y py] kk pt] e pos :: rest) env) Q E { s₀ with heap := h, toks := tk } := by
  refine wpAny_execs_cons (Assign_Tuple (wpAny_mono (he _ _ (Up.refl _)) (fun v s₁ q => ?_) fun _ _ e => e) hs hw)
  obtain ⟨kp, t, va, vb, nw, rfl, htup, fr, g⟩ := q
  obtain ⟨h₁, tk₁, rfl, st, ht⟩ := kp.cases
  refine assign_pair hh htup fun h₂ st₂ => ?_
  refine bindLocal (s := { s₀ with heap := h₂, toks := tk₁ }) ((S.add st fr).keeps st₂) (fun h₃ tk₃ ht₃ S₃ => ?_) hx hkd
  refine bindLocal (s := { s₀ with heap := h₃, toks := tk₃ }) S₃ (fun h₄ tk₄ ht₄ S₄ => ?_) hy hkd
  exact k va vb nw h₄ tk₄ (Nat.le_trans ht (Nat.le_trans ht₃ ht₄)) g S₄
theorem t_tripleN {x y z : Str} {px py pz pt pos : Pos} {kk : Nat} {e : Expr} {G : Value → Value → Value → List (Addr × Obj) → Prop} (hh : A.handled = none) (S : Sta h₀ env.locals env.cells m cm led h)
    (he : Ev prog w A env { s₀ with heap := h, toks := tk } e (fun v s s' => ∃ t va vb vc nw, v = .ref t ∧ IsTup s'.heap t #[va, vb, vc] ∧ NewIn s.heap s'.heap nw ∧ G va vb vc nw))
    (k : ∀ va vb vc nw h' tk', tk ≤ tk' → G va vb vc nw → Sta h₀ env.locals env.cells ((z, vc) :: (y, vb) :: (x, va) :: m) cm (nw ++ led) h' → wpAny (model prog w) A (execs rest env) Q E { s₀ with heap := h', toks := tk' })
    (hx : env.kindOf x = some .local := by rfl) (hy : env.kindOf y = some .local := by rfl) (hz : env.kindOf z = some .local := by rfl) (hkd : env.scope.kind = .function := by rfl)
    (hs : swapsWithSole [.Tuple [.Name x px, .Name y py, .Name z pz] kk pt] e pos.line env = pure false := by rfl) (hw : swappedStores [.Tuple [.Name x px, .Name y py, .Name z pz] kk pt] e env = pure none := by rfl) :
    wpAny (model prog w) A (execs (.Assign [.Tuple [.Name x px, .Name y py, .Name z pz] kk pt] e pos :: rest) env) Q E { s₀ with heap := h, toks := tk } := by
  refine wpAny_execs_cons (Assign_Tuple (wpAny_mono (he _ _ (Up.refl _)) (fun v s₁ q => ?_) fun _ _ e => e) hs hw)
  obtain ⟨kp, t, va, vb, vc, nw, rfl, htup, fr, g⟩ := q
  obtain ⟨h₁, tk₁, rfl, st, ht⟩ := kp.cases
  refine assign_triple hh htup fun h₂ st₂ => ?_
  refine bindLocal (s := { s₀ with heap := h₂, toks := tk₁ }) ((S.add st fr).keeps st₂) (fun h₃ tk₃ ht₃ S₃ => ?_) hx hkd
  refine bindLocal (s := { s₀ with heap := h₃, toks := tk₃ }) S₃ (fun h₄ tk₄ ht₄ S₄ => ?_) hy hkd
  refine bindLocal (s := { s₀ with heap := h₄, toks := tk₄ }) S₄ (fun h₅ tk₅ ht₅ S₅ => ?_) hz hkd
  exact k va vb vc nw h₅ tk₅ (Nat.le_trans ht (Nat.le_trans ht₃ (Nat.le_trans ht₄ ht₅))) g S₅
/- a try whose body does not raise -/
theorem t_try {body : List Stmt} {h₁ : ExceptHandler} {hs : List ExceptHandler} {pos : Pos}
    (k : ∀ E', wpAny (model prog w) A (execs body env) (fun f s' => match f with | .next => wpAny (model prog w) A (execs rest env) Q E s' | f => Q f s') E' { s₀ with heap := h, toks := tk }) :
    wpAny (model prog w) A (execs (.Try body (h₁ :: hs) [] [] pos :: rest) env) Q E { s₀ with heap := h, toks := tk } := by
  refine wpAny_execs_cons (wpAny_Try_except (wpAny_mono (k _) (fun f s' q => ?_) fun _ _ e => e))
  cases f with
  | next => exact wpAny_execs_nil q
  | cont => exact q
  | brk => exact q
  | ret v => exact q
end
end

/- C4 -/
section
open PySem PySem.W PyProof.Rows PySem.Calls
section
variable {w : World} {A : Around} {s : Shared} {E : Value → Shared → Prop} {mean : ExcName → Option Value} {mg mb : Str → Option Value}
noncomputable def upC (c : Nat) : Nat := if 97 ≤ c ∧ c ≤ 122 then c - 32 else c
noncomputable def updig (n : Nat) : Nat := if n < 26 then 65 + n else 22 + n
theorem up_dig {n : Nat} (h : n < 36) : upC (dig n) = updig n := by unfold upC dig updig; split <;> split <;> lia
theorem updig_lt {n : Nat} (h : n < 36) : updig n < 128 := by unfold updig; split <;> lia
/- the first digit -/
noncomputable def hd0 (N bias j : Nat) : Nat := if N < thrN j bias then N else thrN j bias + (N - thrN j bias) % (36 - thrN j bias)
theorem hd0_lt (N bias j : Nat) : hd0 N bias j < 36 := by
  have b := thrN_bounds j bias
  unfold hd0
  split
  · lia
  · have := Nat.mod_lt (N - thrN j bias) (show 36 - thrN j bias > 0 by lia)
    lia
theorem ggi_head (N bias j : Nat) : ∃ l, ggiN N bias j = dig (hd0 N bias j) :: l := by
  rw [ggiN]; unfold hd0
  split <;> exact ⟨_, rfl⟩
theorem ev_byte {env : Env} {pos : Pos} {b : Shared} {x e : Expr} {E : List Nat} {i c : Nat} (hx : EvP PR w A env b x (IsY (E.map (·.toUInt8)).toArray)) (he : EvP PR w A env b e (IsI i)) (hn : E.length ≤ 1000000) (hc : E[i]? = some c) (hc' : c < 256)
    (hs : ∀ ov iv, subscripted e false ov iv = operate [ov, iv] (getItem ov iv) := by intro _ _; rfl) (ht : ∀ ov r, letTemporaryGo x ov r = pure () := by intro _ _; rfl) :
    EvP PR w A env b (.Subscript x e pos) (IsI c) :=
  ev_item back_P hx he (T := "bytes") (id := "bytes.__getitem__") (fun v s _ hq => by obtain ⟨t, e⟩ := hq; rw [e]; exact typeIs_bytes _ _ _) FB.slot_bytes_getitem.lookup (fun ov iv s E' _ hq7 hq8 => by
    obtain ⟨t, e⟩ := hq7; obtain ⟨u, e'⟩ := hq8
    have hlt : i < E.length := by
      rcases Nat.lt_or_ge i E.length with h | h
      · exact h
      · rw [List.getElem?_eq_none h] at hc; cases hc
    rw [e, e']
    refine getItem_bytes (by simp; lia) (by lia) (by simp; lia) ⟨keeps_toks s _, s.toks, ?_⟩
    rw [Int.toNat_natCast]
    have e1 : (E.map (·.toUInt8)).getD i 0 = c.toUInt8 := by rw [List.getD_eq_getElem?_getD, List.getElem?_map, hc]; rfl
    rw [e1]
    have : c.toUInt8.toNat = c := by simp [Nat.toUInt8]; lia
    rw [this]) hs ht
theorem c_dgn {n : Nat} (G : G0 w mean mg mb s) (R : Room A (n + 2)) {E : List Nat} {N bias p : Nat} {rest : List Nat} {tE tp tb te : Tok} (hE : E.drop p = (ggiN N bias 0).map upC ++ rest) (hn : E.length ≤ 1000000) :
    wpAny (model PR w) A (call (.ref 83) [.bytes (E.map (·.toUInt8)).toArray tE, .int p tp, .int bias tb, .str "strict" te])
      (fun v s' => Keeps s s' ∧ ∃ t va vb nw, v = .ref t ∧ IsTup s'.heap t #[va, vb] ∧ NewIn s.heap s'.heap nw ∧ nw = [] ∧ IsI (p + (ggiN N bias 0).length : Nat) va ∧ IsI N vb) (fun _ _ => False) s := by
  refine call_fn (T := fun v s s' => ∃ t va vb nw, v = .ref t ∧ IsTup s'.heap t #[va, vb] ∧ NewIn s.heap s'.heap nw ∧ nw = [] ∧ IsI (p + (ggiN N bias 0).length : Nat) va ∧ IsI N vb) f_dgn G R (by kernel_rfl) (by rfl)
    (binds := [("extended", .bytes (E.map (·.toUInt8)).toArray tE), ("extpos", .int p tp), ("bias", .int bias tb), ("errors", .str "strict" te)]) (BindsTo.of_eq rfl) (by decide) (by rfl) (by rfl) (by rfl) fun L h₁ tk ht S E' => ?_
  refine t_assign S (P := IsI 0) (by ktr_rel) fun v h tk₁ ht₁ p₁ S => ?_
  obtain ⟨tr, rfl⟩ := p₁
  refine t_assign S (P := IsI 1) (by ktr_rel) fun v h tk₂ ht₂ p₂ S => ?_
  obtain ⟨tw, rfl⟩ := p₂
  refine t_assign S (P := IsI 0) (by ktr_rel) fun v h tk₃ ht₃ p₃ S => ?_
  obtain ⟨tj, rfl⟩ := p₃
  refine t_while (X := Nat × Nat × Nat × Nat × Nat) (fun x h => ∃ q j r v N', x = (q, j, r, v, N') ∧ E.drop q = (ggiN N' bias j).map upC ++ rest ∧ r + N' * v = N ∧ q + (ggiN N' bias j).length = p + (ggiN N bias 0).length ∧
      ∃ t1 t2 t3 t4, Sta s.heap (callEnv f_dgn.val L 83).locals (callEnv f_dgn.val L 83).cells [("j", .int j t1), ("w", .int v t2), ("result", .int r t3), ("extpos", .int q t4), ("extended", .bytes (E.map (·.toUInt8)).toArray tE), ("bias", .int bias tb), ("errors", .str "strict" te)] [] [] h)
    (fun x => x.2.2.2.2) (p, 0, 0, 1, N) ⟨p, 0, 0, 1, N, rfl, hE, by lia, rfl, tj, tw, tr, tp, sre S ⟨rfl, rfl, rfl, rfl, rfl, rfl, rfl, trivial⟩ trivial⟩ fun x h tk₄ ht₄ hK => ?_
  obtain ⟨q, j, r, v, N', rfl, hq, hN, hlen, t1, t2, t3, t4, S⟩ := hK
  refine ⟨true, evt_of (P := IsI 1) (c := true) (by ktr_rel) truth_int, fun _ h tk₅ E'' ht₅ st => ?_, fun e => nomatch e⟩
  replace S := S.keeps st
  have b := thrN_bounds j bias
  have hd := hd0_lt N' bias j
  obtain ⟨l, hl⟩ := ggi_head N' bias j
  have hc : E[q]? = some (updig (hd0 N' bias j)) := by
    have : (E.drop q)[0]? = some (updig (hd0 N' bias j)) := by rw [hq, hl, List.map_cons, up_dig hd]; rfl
    rw [List.getElem?_drop] at this; simpa using this
  refine t_try fun E3 => ?_
  refine t_assign S (P := IsI (updig (hd0 N' bias j))) (ev_byte (by ktr_rel) (by ktr_rel) hn hc (by have := updig_lt hd; lia)) fun v₁ h tk₆ ht₆ p₁ S => s_nil ?_
  obtain ⟨tc, rfl⟩ := p₁
  dsimp only
  refine t_aug S rfl (P := IsI 1) (by ktr_rel) iadd fun v₁ h tk₇ ht₇ p₁ S => ?_
  obtain ⟨t4', rfl⟩ := p₁
  generalize hdd : hd0 N' bias j = d at hc hd hl S
  refine t_ifj (K := fun h _ => ∃ td, Sta s.heap (callEnv f_dgn.val L 83).locals (callEnv f_dgn.val L 83).cells [("digit", .int d td), ("extpos", .int ((q : Int) + 1) t4'), ("j", .int j t1), ("w", .int v t2), ("result", .int r t3), ("extended", .bytes (E.map (·.toUInt8)).toArray tE), ("bias", .int bias tb), ("errors", .str "strict" te)] [] [] h)
    S (c := decide ((65 : Int) ≤ (updig d : Nat)) && decide (((updig d : Nat) : Int) ≤ 90)) (by ktr_rel) (fun hc h tk₈ E4 ht₈ S => ?_) (fun hc h tk₈ E4 ht₈ S => ?_) ?_
  · simp only [Bool.and_eq_true, decide_eq_true_eq] at hc
    have e1 : ((updig d : Nat) : Int) - 65 = d := by unfold updig at hc ⊢; split at hc <;> split <;> lia
    refine t_assign S (P := IsI (((updig d : Nat) : Int) - 65)) (by ktr_rel) fun v₁ h tk₉ ht₉ p₁ S => s_nil ⟨_, _, rfl, rfl, by ktr_room, ?_⟩
    rw [e1] at p₁
    obtain ⟨td, rfl⟩ := p₁
    exact ⟨td, sre S ⟨rfl, rfl, rfl, rfl, rfl, rfl, rfl, rfl, trivial⟩ trivial⟩
  · have hnot : ¬ d < 26 := fun hlt => by
      simp only [Bool.and_eq_false_iff, decide_eq_false_iff_not] at hc
      unfold updig at hc; rw [if_pos hlt] at hc; lia
    have hu : updig d = 22 + d := by unfold updig; rw [if_neg hnot]
    refine t_ife S (c := decide ((48 : Int) ≤ (updig d : Nat)) && decide (((updig d : Nat) : Int) ≤ 57)) (by ktr_rel) (fun hc2 h tk₉ ht₉ S => ?_) (fun hc2 h tk₉ ht₉ S => ?_)
    · refine t_assign S (P := IsI (((updig d : Nat) : Int) - 22)) (by ktr_rel) fun v₁ h tk₁₀ ht₁₀ p₁ S => s_nil (s_nil ⟨_, _, rfl, rfl, by ktr_room, ?_⟩)
      rw [show ((updig d : Nat) : Int) - 22 = d by lia] at p₁
      obtain ⟨td, rfl⟩ := p₁
      exact ⟨td, sre S ⟨rfl, rfl, rfl, rfl, rfl, rfl, rfl, rfl, trivial⟩ trivial⟩
    · exfalso
      simp only [Bool.and_eq_false_iff, decide_eq_false_iff_not] at hc2
      lia
  intro h tk₈ ht₈ hq; obtain ⟨td, S⟩ := hq
  refine t_assign S (P := IsI (thrN j bias : Nat)) ?_ fun v₁ h tk₉ ht₉ p₁ S => ?_
  · refine ev_fn f_T back_P G S (by ktr_room) rfl (args2 (Pa := IsI j) (Pb := IsI bias) (by ktr_rel) (by ktr_rel)) fun vs s s₁ E _ _ G hv => ?_
    obtain ⟨u, v, rfl, ⟨t, rfl⟩, t', rfl⟩ := hv
    rw [thrN_eq]
    exact c_T G R.deeper
  obtain ⟨tt, rfl⟩ := p₁
  have kd : (d : Int).natAbs < 2 ^ 63 ∨ (v : Int).natAbs < 2 ^ 63 := .inl (by lia)
  refine t_aug S rfl (P := IsI ((d : Int) * v)) (by ktr_rel) iadd fun v₁ h tk₁₀ ht₁₀ p₁ S => ?_
  obtain ⟨t3', rfl⟩ := p₁
  have hdef : d = hd0 N' bias j := hdd.symm
  refine t_ift S (c := decide ((d : Int) < (thrN j bias : Nat))) (by ktr_rel) (fun hc h tk₁₁ ht₁₁ S => ?_) fun hc h tk₁₁ ht₁₁ S => ?_
  · have hc := of_decide_eq_true hc
    have hlt : N' < thrN j bias := by
      rcases Nat.lt_or_ge N' (thrN j bias) with x | x
      · exact x
      · rw [hd0, if_neg (by lia)] at hdef; lia
    have hdN : d = N' := by rw [hdef, hd0, if_pos hlt]
    have hl1 : (ggiN N' bias j).length = 1 := by rw [ggiN, if_pos hlt]; rfl
    refine t_return (ev_tuple (P := fun vs => ∃ va vb, vs = [va, vb] ∧ IsI ((q : Int) + 1) va ∧ IsI ((r : Int) + d * v) vb) ((args2 (Pa := IsI ((q : Int) + 1)) (Pb := IsI ((r : Int) + d * v)) (by ktr_rel) (by ktr_rel))) fun vs hq7 => by obtain ⟨va, vb, e, _⟩ := hq7; rw [e]; show 2 ≤ sizeLine; decide) fun v₁ h tk _ st p₁ => ?_
    obtain ⟨nw, fr, t, vs, rfl, rfl, va, vb, rfl, pa, pb⟩ := p₁
    refine ⟨⟨_, _, rfl, stays_trans S.keep st⟩, t, va, vb, [], rfl, isTup_TO (fr.1 _ (List.mem_singleton.mpr rfl)).1, NewIn.nil _ _, rfl, ?_, ?_⟩
    · rw [show ((q : Int) + 1) = ((p + (ggiN N bias 0).length : Nat) : Int) by lia] at pa
      exact pa
    · rw [show ((r : Int) + d * v) = (N : Int) by rw [hdN, ← hN]; push_cast; rfl] at pb
      exact pb
  · have hc := of_decide_eq_false hc
    have hge : ¬ N' < thrN j bias := fun x => by rw [hd0, if_pos x] at hdef; lia
    have kw : (v : Int).natAbs < 2 ^ 63 ∨ ((36 : Int) - (thrN j bias : Nat)).natAbs < 2 ^ 63 := .inr (by lia)
    refine t_assign S (P := IsI ((v : Int) * (36 - (thrN j bias : Nat)))) (by ktr_rel) fun v₁ h tk₁₂ ht₁₂ p₁ S => ?_
    rw [show ((v : Int) * (36 - (thrN j bias : Nat))) = ((v * (36 - thrN j bias) : Nat) : Int) by rw [Int.natCast_mul]; congr 1; lia] at p₁
    obtain ⟨t2', rfl⟩ := p₁
    refine t_aug S rfl (P := IsI 1) (by ktr_rel) iadd fun v₁ h tk₁₃ ht₁₃ p₁ S => ?_
    obtain ⟨t1', rfl⟩ := p₁
    have hd' : d = thrN j bias + (N' - thrN j bias) % (36 - thrN j bias) := by rw [hdef, hd0, if_neg hge]
    have hg : ggiN N' bias j = dig d :: ggiN ((N' - thrN j bias) / (36 - thrN j bias)) bias (j + 1) := by rw [ggiN, if_neg hge, ← hd']
    have hmd := Nat.div_add_mod (N' - thrN j bias) (36 - thrN j bias)
    refine s_nil ⟨(q + 1, j + 1, r + d * v, v * (36 - thrN j bias), (N' - thrN j bias) / (36 - thrN j bias)), h, tk₁₃, rfl, by ktr_room, ⟨q + 1, j + 1, r + d * v, v * (36 - thrN j bias), (N' - thrN j bias) / (36 - thrN j bias), rfl, ?_, ?_, ?_, t1', t2', t3', t4', ?_⟩, ?_⟩
    · have : E.drop (q + 1) = (E.drop q).drop 1 := by rw [List.drop_drop]
      rw [this, hq, hg]; rfl
    · rw [← hN]
      have e : N' = d + (36 - thrN j bias) * ((N' - thrN j bias) / (36 - thrN j bias)) := by lia
      have arith : ∀ M K : Nat, r + d * v + M * (v * K) = r + (d + K * M) * v := fun M K => by
        rw [Nat.add_mul, Nat.add_assoc, Nat.mul_comm K M, Nat.mul_assoc M K v, Nat.mul_comm K v]
      conv => rhs; rw [e]
      exact arith _ _
    · rw [← hlen, hg, List.length_cons]; lia
    · exact sre S ⟨rfl, rfl, rfl, rfl, rfl, rfl, rfl, trivial⟩ trivial
    · have : (N' - thrN j bias) / (36 - thrN j bias) ≤ N' - thrN j bias := Nat.div_le_self _ _
      show (N' - thrN j bias) / (36 - thrN j bias) < N'
      lia
end
end

/- E2 -/
/- texts as lists of code points -/
section
open PySem PySem.W PyProof.Rows PySem.Calls
noncomputable def ofL (l : List Nat) : Str := ⟨l.toArray⟩
theorem ofL_length (l : List Nat) : (ofL l).length = l.length := by simp [ofL, Str.length]
theorem ofL_app (a b : List Nat) : ofL a ++ ofL b = ofL (a ++ b) := by
  show (⟨a.toArray ++ b.toArray⟩ : Str) = ⟨(a ++ b).toArray⟩
  simp
theorem ofL_inj {a b : List Nat} (h : ofL a = ofL b) : a = b := by
  have := congrArg Str.cps h
  simpa [ofL] using congrArg Array.toList this
section
variable {prog : Program} {w : World} {A : Around} {env : Env} {b : Shared}
theorem ev_addS {l r : Expr} {pos : Pos} {x y : List Nat} (ha : EvP prog w A env b l (IsS (ofL x))) (hb : EvP prog w A env b r (IsS (ofL y))) (hz : (x ++ y).length ≤ sizeLine) : EvP prog w A env b (.BinOp l .Add r pos) (IsS (ofL (x ++ y))) :=
  ev_binop back_P ha hb fun u v s E _ hq7 hq8 => by
    obtain ⟨t, e⟩ := hq7; obtain ⟨t', e'⟩ := hq8
    rw [e, e']
    refine P.add_str ?_
    rw [ofL_length, ofL_length]
    by_cases h1 : x.length = 0
    · have : x = [] := List.eq_nil_of_length_eq_zero h1
      subst this
      exact ⟨keeps_refl s, _, rfl⟩
    · rw [if_neg (by simpa using h1)]
      by_cases h2 : y.length = 0
      · have : y = [] := List.eq_nil_of_length_eq_zero h2
        subst this
        rw [List.append_nil]
        exact ⟨keeps_refl s, _, rfl⟩
      · rw [if_neg (by simpa using h2), ofL_app]
        exact ⟨by rw [ofL_length]; exact hz, keeps_toks s _, s.toks, rfl⟩
theorem slice_to (x : List Nat) {k : Nat} (h : k ≤ x.length) : Txt.slice (ofL x) none (some (k : Int)) = ofL (x.take k) := by
  unfold Txt.slice
  rw [StrLaws.sliceIdx_none_lo]
  have e := StrLaws.sliced_plain (ofL x) (a := 0) (b := k) (Nat.zero_le _) (by rw [ofL_length]; exact h)
  have e2 := StrLaws.strSliceIndices_plain (a := 0) (b := k) (len := (ofL x).length) (Nat.zero_le _) (by rw [ofL_length]; exact h)
  split
  · rename_i hc
    simp only [Bool.and_eq_true, beq_iff_eq] at hc
    have hl := hc.2
    rw [show ((0 : Int)) = ((0 : Nat) : Int) from rfl, e2, List.length_map, List.length_range, ofL_length] at hl
    rw [show k = x.length by lia, List.take_length]
  · rw [show ((0 : Int)) = ((0 : Nat) : Int) from rfl, e]
    simp [ofL]
theorem slice_from (x : List Nat) {k : Nat} (h : k ≤ x.length) : Txt.slice (ofL x) (some (k : Int)) none = ofL (x.drop k) := by
  unfold Txt.slice
  rw [StrLaws.sliceIdx_none_hi]
  have e := StrLaws.sliced_plain (ofL x) (a := k) (b := x.length) h (by rw [ofL_length]; exact Nat.le_refl _)
  have e2 := StrLaws.strSliceIndices_plain (a := k) (b := x.length) (len := (ofL x).length) h (by rw [ofL_length]; exact Nat.le_refl _)
  rw [ofL_length] at e e2 ⊢
  split
  · rename_i hc
    simp only [Bool.and_eq_true, beq_iff_eq] at hc
    have hl := hc.2
    rw [e2, List.length_map, List.length_range] at hl
    have : k = 0 ∨ x.length = 0 := by lia
    rcases this with rfl | hx
    · rfl
    · rw [List.eq_nil_of_length_eq_zero hx]; simp
  · rw [e]
    simp only [ofL]
    rw [List.take_of_length_le (by simp)]
theorem slice_mid (x : List Nat) {i j : Nat} (h : i ≤ j) (h2 : j ≤ x.length) : Txt.slice (ofL x) (some (i : Int)) (some (j : Int)) = ofL ((x.drop i).take (j - i)) := by
  unfold Txt.slice
  have e := StrLaws.sliced_plain (ofL x) (a := i) (b := j) h (by rw [ofL_length]; exact h2)
  have e2 := StrLaws.strSliceIndices_plain (a := i) (b := j) (len := (ofL x).length) h (by rw [ofL_length]; exact h2)
  rw [ofL_length] at e e2 ⊢
  split
  · rename_i hc
    simp only [Bool.and_eq_true, beq_iff_eq] at hc
    have hl := hc.2
    rw [e2, List.length_map, List.length_range] at hl
    have : x.length = 0 ∨ (i = 0 ∧ j = x.length) := by lia
    rcases this with hx | ⟨rfl, rfl⟩
    · rw [List.eq_nil_of_length_eq_zero hx]; simp
    · simp
  · rw [e]
    rfl

theorem made_post {x : Str} {t : Tok} {l u : Option (Int × Tok)} {Q : Value → Shared → Prop} {s : Shared} (hz : x.length ≤ sizeLine) (h : ∀ t' k, Q (.str (Txt.slice x (l.map (·.1)) (u.map (·.1))) t') { s with toks := k }) : (sliceMade x t l u none).post Q s :=
  post_val_or_str ⟨Nat.le_trans (Txt.slice_le x _ _) hz, fun t' k => h t' k⟩
theorem ev_sliceTo {value e : Expr} {p pos : Pos} {x : List Nat} {k : Nat} (hv : EvP prog w A env b value (IsS (ofL x))) (he : EvP prog w A env b e (IsI k)) (hk : k ≤ x.length) (hz : x.length ≤ sizeLine) (ht : ∀ o r, letTemporaryGo value o r = pure () := by intro _ _; rfl) :
    EvP prog w A env b (.Subscript value (.Slice none (some e) none p) pos) (IsS (ofL (x.take k))) := by
  refine ev_of fun s E up => ?_
  refine wpAny_Subscript_str_slice (wpAny_mono (hv s E up) (fun o s₁ q₁ => evalPart_none_step (evalPart_some_step (wpAny_mono (he s₁ E (up.trans q₁.1.up)) (fun v s₂ q₂ => ?_) fun _ _ e => e))) fun _ _ e => e) ht
  obtain ⟨k₁, t, rfl⟩ := q₁
  obtain ⟨k₂, u, rfl⟩ := q₂
  refine ⟨ofL x, t, none, some ((k : Int), u), rfl, rfl, rfl, made_post (by rw [ofL_length]; exact hz) fun t' tk => ?_⟩
  refine ⟨keeps_trans (k₁.trans k₂).k ⟨_, _, rfl, fun _ _ e => Heap.get?_push_of_some _ e⟩, t', ?_⟩
  show Value.str (Txt.slice (ofL x) none (some (k : Int))) t' = _
  rw [slice_to x hk]
theorem ev_sliceFrom {value e : Expr} {p pos : Pos} {x : List Nat} {k : Nat} (hv : EvP prog w A env b value (IsS (ofL x))) (he : EvP prog w A env b e (IsI k)) (hk : k ≤ x.length) (hz : x.length ≤ sizeLine) (ht : ∀ o r, letTemporaryGo value o r = pure () := by intro _ _; rfl) :
    EvP prog w A env b (.Subscript value (.Slice (some e) none none p) pos) (IsS (ofL (x.drop k))) := by
  refine ev_of fun s E up => ?_
  refine wpAny_Subscript_str_slice (wpAny_mono (hv s E up) (fun o s₁ q₁ => evalPart_some_step (wpAny_mono (he s₁ E (up.trans q₁.1.up)) (fun v s₂ q₂ => evalPart_none_step ?_) fun _ _ e => e)) fun _ _ e => e) ht
  obtain ⟨k₁, t, rfl⟩ := q₁
  obtain ⟨k₂, u, rfl⟩ := q₂
  refine ⟨ofL x, t, some ((k : Int), u), none, rfl, rfl, rfl, made_post (by rw [ofL_length]; exact hz) fun t' tk => ?_⟩
  refine ⟨keeps_trans (k₁.trans k₂).k ⟨_, _, rfl, fun _ _ e => Heap.get?_push_of_some _ e⟩, t', ?_⟩
  show Value.str (Txt.slice (ofL x) (some (k : Int)) none) t' = _
  rw [slice_from x hk]
/- x[1:-1] -/
theorem ev_sliceIn {value e f : Expr} {p pos : Pos} {x : List Nat} (hv : EvP prog w A env b value (IsS (ofL x))) (he : EvP prog w A env b e (IsI 1)) (hf : EvP prog w A env b f (IsI (-1))) (hk : 2 ≤ x.length) (hz : x.length ≤ sizeLine) (ht : ∀ o r, letTemporaryGo value o r = pure () := by intro _ _; rfl) :
    EvP prog w A env b (.Subscript value (.Slice (some e) (some f) none p) pos) (IsS (ofL ((x.drop 1).take (x.length - 2)))) := by
  refine ev_of fun s E up => ?_
  refine wpAny_Subscript_str_slice (wpAny_mono (hv s E up) (fun o s₁ q₁ => evalPart_some_step (wpAny_mono (he s₁ E (up.trans q₁.1.up)) (fun v s₂ q₂ => evalPart_some_step (wpAny_mono (hf s₂ E ((up.trans q₁.1.up).trans q₂.1.up)) (fun v' s₃ q₃ => ?_) fun _ _ e => e)) fun _ _ e => e)) fun _ _ e => e) ht
  obtain ⟨k₁, t, rfl⟩ := q₁
  obtain ⟨k₂, u, rfl⟩ := q₂
  obtain ⟨k₃, u', rfl⟩ := q₃
  refine ⟨ofL x, t, some ((1 : Int), u), some ((-1 : Int), u'), rfl, rfl, rfl, made_post (by rw [ofL_length]; exact hz) fun t' tk => ?_⟩
  refine ⟨keeps_trans ((k₁.trans k₂).trans k₃).k ⟨_, _, rfl, fun _ _ e => Heap.get?_push_of_some _ e⟩, t', ?_⟩
  show Value.str (Txt.slice (ofL x) (some ((1 : Nat) : Int)) (some (-1 : Int))) t' = _
  have e1 : Txt.slice (ofL x) (some ((1 : Nat) : Int)) (some (-1 : Int)) = Txt.slice (ofL x) (some ((1 : Nat) : Int)) (some ((x.length - 1 : Nat) : Int)) := by
    unfold Txt.slice
    rw [StrLaws.sliceIdx_neg_hi _ _ (by decide) (by rw [ofL_length]; lia)]
    rw [show (-1 : Int) + ((ofL x).length : Int) = ((x.length - 1 : Nat) : Int) by rw [ofL_length]; lia]
  rw [e1, slice_mid x (by lia) (by lia)]
  rfl

theorem callee_builtin (h : Heap) (id : String) : Callee h (.builtin id) := .builtin id
theorem ev_lenS {x : Str} {pp pos : Pos} {e : Expr} {l : List Nat} (hn : EvP prog w A env b (.Name x pp) (· = .builtin "len")) (he : EvP prog w A env b e (IsS (ofL l))) (hz : l.length ≤ sizeLine) (hp : starEach [e] env = [(false, eval e env)] := by rfl) : EvP prog w A env b (.Call (.Name x pp) [e] [] pos) (IsI l.length) :=
  ev_call back_P hn (.builtin _) (args1 he hp) fun vs s s₁ E _ _ hq7 => by
    obtain ⟨u, e1, t, e2⟩ := hq7
    subst e1 e2
    refine P.len_str (by rw [ofL_length]; have : sizeLine < 2 ^ 63 := by decide
                         lia) ⟨keeps_toks s₁ _, s₁.toks + 1, ?_⟩
    rw [ofL_length]
theorem ev_chr {x : Str} {pp pos : Pos} {e : Expr} {c : Nat} (hn : EvP prog w A env b (.Name x pp) (· = .builtin "chr")) (he : EvP prog w A env b e (IsI c)) (hc : c ≤ 1114111) (hp : starEach [e] env = [(false, eval e env)] := by rfl) : EvP prog w A env b (.Call (.Name x pp) [e] [] pos) (IsS (ofL [c])) :=
  ev_call back_P hn (.builtin _) (args1 he hp) fun vs s s₁ E _ _ hq7 => by
    obtain ⟨u, e1, t, e2⟩ := hq7
    subst e1 e2
    exact chr_of_range (by lia) (by lia) ⟨keeps_toks s₁ _, _, rfl⟩
theorem ev_ord {x : Str} {pp pos : Pos} {e : Expr} {c : Nat} (hn : EvP prog w A env b (.Name x pp) (· = .builtin "ord")) (he : EvP prog w A env b e (IsS (ofL [c]))) (hp : starEach [e] env = [(false, eval e env)] := by rfl) : EvP prog w A env b (.Call (.Name x pp) [e] [] pos) (IsI c) :=
  ev_call back_P hn (.builtin _) (args1 he hp) fun vs s s₁ E _ _ hq7 => by
    obtain ⟨u, e1, t, e2⟩ := hq7
    subst e1 e2
    exact P.ord_of_char ⟨keeps_toks s₁ _, _, rfl⟩
theorem cmp_eqS {x y : List Nat} {u v : Value} {s : Shared} {E : Value → Shared → Prop} (hu : IsS (ofL x) u) (hv : IsS (ofL y) v) : wpAny (model prog w) A (compareOp .Eq u v) (fun r s' => Keeps s s' ∧ r = .bool (x == y)) E s := by
  obtain ⟨t, rfl⟩ := hu; obtain ⟨t', rfl⟩ := hv
  exact P.eq_str ⟨keeps_refl s, by simp [ofL]⟩
theorem cmp_neS {x y : List Nat} {u v : Value} {s : Shared} {E : Value → Shared → Prop} (hu : IsS (ofL x) u) (hv : IsS (ofL y) v) : wpAny (model prog w) A (compareOp .NotEq u v) (fun r s' => Keeps s s' ∧ r = .bool (x != y)) E s := by
  obtain ⟨t, rfl⟩ := hu; obtain ⟨t', rfl⟩ := hv
  exact P.ne_str ⟨keeps_refl s, by simp [ofL]⟩
theorem evt_eqS {l r : Expr} {pos : Pos} {x y : List Nat} (ha : EvP prog w A env b l (IsS (ofL x))) (hb : EvP prog w A env b r (IsS (ofL y))) (hm : behindInMarks .Eq r = false := by with_unfolding_all rfl) : EvT prog w A env b (.Compare l [.Eq] [r] pos) (x == y) :=
  evt_compare ha hb (fun _ _ _ _ _ hu hv => cmp_eqS hu hv) hm
theorem ev_eqS {l r : Expr} {pos : Pos} {x y : List Nat} (ha : EvP prog w A env b l (IsS (ofL x))) (hb : EvP prog w A env b r (IsS (ofL y))) (hm : behindInMarks .Eq r = false := by with_unfolding_all rfl) : EvP prog w A env b (.Compare l [.Eq] [r] pos) (· = .bool (x == y)) :=
  ev_compare ha hb (fun _ _ _ _ _ hu hv => cmp_eqS hu hv) hm
theorem evt_neS {l r : Expr} {pos : Pos} {x y : List Nat} (ha : EvP prog w A env b l (IsS (ofL x))) (hb : EvP prog w A env b r (IsS (ofL y))) (hm : behindInMarks .NotEq r = false := by with_unfolding_all rfl) : EvT prog w A env b (.Compare l [.NotEq] [r] pos) (x != y) :=
  evt_compare ha hb (fun _ _ _ _ _ hu hv => cmp_neS hu hv) hm
end
end

/- C5 -/
section
open PySem PySem.W PyProof.Rows PySem.Calls
section
variable {w : World} {A : Around} {s : Shared} {E : Value → Shared → Prop} {mean : ExcName → Option Value} {mg mb : Str → Option Value}
/- what the numbers insert -/
noncomputable def insS : List Nat → List Nat → Nat → Nat → List Nat
  | base, [], _, _ => base
  | base, d :: ds, char, pos1 =>
    let p := pos1 + d
    let L := base.length + 1
    insS (base.take (p % L) ++ (char + p / L) :: base.drop (p % L)) ds (char + p / L) (p % L + 1)
/- the signs stay within the range -/
noncomputable def insOK : List Nat → List Nat → Nat → Nat → Prop
  | _, [], _, _ => True
  | base, d :: ds, char, pos1 =>
    let p := pos1 + d
    let L := base.length + 1
    char + p / L ≤ 1114111 ∧ insOK (base.take (p % L) ++ (char + p / L) :: base.drop (p % L)) ds (char + p / L) (p % L + 1)
theorem ins_length (base : List Nat) (q c : Nat) (h : q ≤ base.length) : (base.take q ++ c :: base.drop q).length = base.length + 1 := by
  simp; lia
theorem ggi_pos (N b j : Nat) : 1 ≤ (ggiN N b j).length := by obtain ⟨l, e⟩ := ggi_head N b j; rw [e]; simp
theorem ev_lenY {env : Env} {b : Shared} {x : Str} {pp pos : Pos} {e : Expr} {l : List Nat} (hn : EvP PR w A env b (.Name x pp) (· = .builtin "len")) (he : EvP PR w A env b e (IsY (l.map (·.toUInt8)).toArray)) (hz : l.length ≤ 1000000) (hp : starEach [e] env = [(false, eval e env)] := by rfl) : EvP PR w A env b (.Call (.Name x pp) [e] [] pos) (IsI l.length) :=
  ev_call back_P hn (.builtin _) (args1 he hp) fun vs s s₁ E _ _ hq7 => by
    obtain ⟨u, e1, t, e2⟩ := hq7
    subst e1 e2
    refine len_bytes (by simp; lia) ⟨keeps_toks s₁ _, s₁.toks + 1, ?_⟩
    simp
theorem evt_isNone {env : Env} {b : Shared} {e f : Expr} {pos : Pos} {i : Int} (he : EvP PR w A env b e (IsI i)) (hf : EvP PR w A env b f (· = .none)) (hm : behindInMarks .Is f = false := by with_unfolding_all rfl) : EvT PR w A env b (.Compare e [.Is] [f] pos) false :=
  evt_compare he hf (fun u v s E _ hq e' => by obtain ⟨t, e⟩ := hq; rw [e, e']; exact is_none ⟨keeps_refl s, rfl⟩) hm
theorem c_is {n : Nat} (G : G0 w mean mg mb s) (R : Room A (n + 3)) {base ds : List Nat} {tb tE te : Tok} (hok : insOK base ds 128 0) (hz : base.length + ds.length < 10 ^ 7) (hd : ∀ d ∈ ds, d < 10 ^ 18) (hn : ds.length ≤ 1000) :
    wpAny (model PR w) A (call (.ref 90) [.str (ofL base) tb, .bytes (((giN base.length ds 0 72).map upC).map (·.toUInt8)).toArray tE, .str "strict" te]) (fun v s' => Keeps s s' ∧ IsS (ofL (insS base ds 128 0)) v) (fun _ _ => False) s := by
  refine call_fn (T := fun v _ _ => IsS (ofL (insS base ds 128 0)) v) f_is G R (by kernel_rfl) (by rfl)
    (binds := [("base", .str (ofL base) tb), ("extended", .bytes (((giN base.length ds 0 72).map upC).map (·.toUInt8)).toArray tE), ("errors", .str "strict" te)]) (BindsTo.of_eq rfl) (by decide) (by rfl) (by rfl) (by rfl) fun L h₁ tk ht S E' => ?_
  generalize hEE : (giN base.length ds 0 72).map upC = EE at S
  have hEl : EE.length ≤ 19000 := by have := giN_length base.length ds 0 72 hd; rw [← hEE, List.length_map]; lia
  refine t_assign S (P := IsI 128) (by ktr_rel) fun v h tk₁ ht₁ p₁ S => ?_
  obtain ⟨t1, rfl⟩ := p₁
  refine t_assign S (P := IsI (-1)) (by ktr_rel) fun v h tk₂ ht₂ p₁ S => ?_
  obtain ⟨t2, rfl⟩ := p₁
  refine t_assign S (P := IsI 72) (by ktr_rel) fun v h tk₃ ht₃ p₁ S => ?_
  obtain ⟨t3, rfl⟩ := p₁
  refine t_assign S (P := IsI 0) (by ktr_rel) fun v h tk₄ ht₄ p₁ S => ?_
  obtain ⟨t4, rfl⟩ := p₁
  refine t_while (X := List Nat × List Nat × Nat × Nat × Nat × Nat × Nat) (fun x h => ∃ bs ds' c p1 i b q, x = (bs, ds', c, p1, i, b, q) ∧ insS bs ds' c p1 = insS base ds 128 0 ∧ insOK bs ds' c p1 ∧ bs.length = base.length + i ∧ i + ds'.length = ds.length ∧ (∀ d ∈ ds', d < 10 ^ 18) ∧
      EE.drop q = (giN base.length ds' i b).map upC ∧ q ≤ EE.length ∧ (q = 0 ↔ i = 0) ∧
      ∃ t1 t2 t3 t4 tb, Sta s.heap (callEnv f_is.val L 90).locals (callEnv f_is.val L 90).cells [("extpos", .int q t1), ("bias", .int b t2), ("pos", .int ((p1 : Int) - 1) t3), ("char", .int c t4), ("base", .str (ofL bs) tb), ("extended", .bytes (EE.map (·.toUInt8)).toArray tE), ("errors", .str "strict" te)] [] [] h)
    (fun x => x.2.1.length) (base, ds, 128, 0, 0, 72, 0) ⟨base, ds, 128, 0, 0, 72, 0, rfl, rfl, hok, rfl, Nat.zero_add _, hd, by rw [List.drop_zero]; exact hEE.symm, Nat.zero_le _, Iff.rfl, t4, t3, t2, t1, tb, sre S ⟨rfl, rfl, rfl, rfl, rfl, rfl, rfl, trivial⟩ trivial⟩ fun x h tk₅ ht₅ hK => ?_
  obtain ⟨bs, ds', c, p1, i, b, q, rfl, hins, hok', hbl, hil, hd', hq, hql, hq0, t1, t2, t3, t4, tb, S⟩ := hK
  refine ⟨decide ((q : Int) < EE.length), evt_lt (by ktr_rel) (ev_lenY (gbuilt G S rfl rfl rfl) (by ktr_rel) (by lia)), fun hc h tk₆ E'' ht₆ st => ?_, fun hc h tk₆ ht₆ st => ?_⟩
  · replace S := S.keeps st
    have hc := of_decide_eq_true hc
    cases ds' with
    | nil =>
      exfalso
      have := congrArg List.length hq
      simp [giN] at this
      lia
    | cons d ds' =>
      have hdd : d < 10 ^ 18 := hd' d (by simp)
      rw [giN, List.map_append] at hq
      have hgp := ggi_pos d b 0
      simp only [insS, insOK] at hins hok'
      obtain ⟨hcr, hok'⟩ := hok'
      generalize hL : bs.length + 1 = L at hins hok' hcr
      generalize hP : p1 + d = P at hins hok' hcr
      have hLp : 0 < L := by lia
      have hqL : P % L < L := Nat.mod_lt _ hLp
      have hsz : sizeLine = 16777216 := by decide
      refine t_pairN (G := fun va vb nw => nw = [] ∧ IsI (q + (ggiN d b 0).length : Nat) va ∧ IsI d vb) R.deeper.hh S ?_ ?_
      · refine ev_fn f_dgn ?_ G S (by ktr_room) rfl (args4 (Pa := IsY (EE.map (·.toUInt8)).toArray) (Pb := IsI q) (Pc := IsI b) (Pd := IsS "strict") (by ktr_rel) (by ktr_rel) (by ktr_rel) (by ktr_rel)) fun vs s s₁ E _ u' G hv => ?_
        · intro v s s₁ s' u hq; obtain ⟨t, va, vb, nw, e, a1, a2, a3⟩ := hq
          exact ⟨t, va, vb, nw, e, a1, a2.back u.st, a3⟩
        obtain ⟨u, v, x, y, rfl, ⟨t, rfl⟩, ⟨t5, rfl⟩, ⟨t6, rfl⟩, t7, rfl⟩ := hv
        refine wpAny_mono (c_dgn G R.deeper hq (by lia)) (fun v s' q => ⟨q.1, ?_⟩) fun _ _ e => e.elim
        obtain ⟨_, t, va, vb, nw, rfl, a1, a2, a3, a4⟩ := q
        exact ⟨t, va, vb, nw, rfl, a1, a2.back u'.st, a3, a4⟩
      intro va vb nw h tk₇ ht₇ hq; obtain ⟨rfl, ⟨tn, rfl⟩, td, rfl⟩ := hq; intro S
      refine t_ift S (c := false) (evt_isNone (i := d) (by ktr_rel) ev_none) (fun e => nomatch e) fun _ h tk₈ ht₈ S => ?_
      refine t_aug S rfl (P := IsI ((d : Int) + 1)) (by ktr_rel) iadd fun v h tk₉ ht₉ p₁ S => ?_
      rw [show ((p1 : Int) - 1 + (d + 1)) = (P : Int) by lia] at p₁
      obtain ⟨t3', rfl⟩ := p₁
      have hbsz : bs.length ≤ sizeLine := by lia
      have elen : ((bs.length : Int) + 1) = (L : Int) := by lia
      have d0 : ((bs.length : Int) + 1) ≠ 0 := by lia
      have d1 : ((bs.length : Int) + 1).natAbs < 1073741824 := by lia
      refine t_aug S rfl (P := IsI (Int.fdiv (P : Int) (bs.length + 1))) (ev_fdiv (by ktr_rel) (ev_add (ev_lenS (gbuilt G S rfl rfl rfl) (by ktr_rel) hbsz) (by ktr_rel)) d0 d1) iadd fun v h tk₁₀ ht₁₀ p₁ S => ?_
      rw [elen, fdiv_nat, ← Int.natCast_add] at p₁
      obtain ⟨t4', rfl⟩ := p₁
      refine t_ift S (c := decide (((c + P / L : Nat) : Int) > 1114111)) (by ktr_rel) (fun hc2 => absurd (of_decide_eq_true hc2) (by lia)) fun _ h tk₁₁ ht₁₁ S => ?_
      refine t_assign S (P := IsI (Int.fmod (P : Int) (bs.length + 1))) (ev_fmod (by ktr_rel) (ev_add (ev_lenS (gbuilt G S rfl rfl rfl) (by ktr_rel) hbsz) (by ktr_rel)) d0) fun v h tk₁₂ ht₁₂ p₁ S => ?_
      rw [elen, fmod_nat] at p₁
      obtain ⟨t3'', rfl⟩ := p₁
      generalize hQ : P % L = Q at hins hok' hqL S
      generalize hC : c + P / L = C at hins hok' hcr S
      refine t_assign S (P := IsS (ofL (bs.take Q ++ [C] ++ bs.drop Q))) (ev_addS (ev_addS (ev_sliceTo (x := bs) (by ktr_rel) (by ktr_rel) (by omega) hbsz) (ev_chr (gbuilt G S rfl rfl rfl) (by ktr_rel) hcr) (by simp; omega)) (ev_sliceFrom (x := bs) (by ktr_rel) (by ktr_rel) (by omega) hbsz) (by simp; omega)) fun v h tk₁₃ ht₁₃ p₁ S => ?_
      rw [List.append_assoc, List.singleton_append] at p₁
      have hil2 := ins_length bs Q C (by lia)
      generalize hB : bs.take Q ++ C :: bs.drop Q = B at hins hok' hil2 p₁
      obtain ⟨tb', rfl⟩ := p₁
      have hBl : B.length = base.length + i + 1 := by lia
      refine t_assign S (P := IsI (adaptN d (i == 0) (base.length + i + 1) : Nat)) ?_ fun v h tk₁₄ ht₁₄ p₁ S => ?_
      · refine ev_fn f_adapt back_P G S (by ktr_room) rfl (args3 (Pa := IsI d) (Pb := (· = .bool ((q : Int) == 0))) (Pc := IsI B.length) (by ktr_rel) (by ktr_rel) (ev_lenS (gbuilt G S rfl rfl rfl) (by ktr_rel) (by lia))) fun vs s s₁ E _ _ G hv => ?_
        obtain ⟨u, v, x, rfl, ⟨t, rfl⟩, rfl, t', rfl⟩ := hv
        have e1 : ((q : Int) == 0) = (i == 0) := by
          rw [Bool.eq_iff_iff]; simp only [beq_iff_eq]; lia
        rw [e1, hBl]
        exact c_adapt G R.deeper (by lia) (by lia)
      obtain ⟨t2', rfl⟩ := p₁
      refine t_assign S (P := IsI (q + (ggiN d b 0).length : Nat)) (by ktr_rel) fun v h tk₁₅ ht₁₅ p₁ S => ?_
      obtain ⟨t1', rfl⟩ := p₁
      have hdrop : EE.drop (q + (ggiN d b 0).length) = (giN base.length ds' (i + 1) (adaptN d (i == 0) (base.length + i + 1))).map upC := by
        rw [← List.drop_drop, hq]
        have := List.length_map (f := upC) (as := ggiN d b 0)
        rw [← this, List.drop_left]
      have hql' : q + (ggiN d b 0).length ≤ EE.length := by
        have := congrArg List.length hq
        rw [List.length_drop, List.length_append, List.length_map] at this
        lia
      refine s_nil ⟨(B, ds', C, Q + 1, i + 1, adaptN d (i == 0) (base.length + i + 1), q + (ggiN d b 0).length), h, tk₁₅, rfl, by ktr_room, ⟨B, ds', C, Q + 1, i + 1, _, _, rfl, hins, hok', by lia, by simp at hil; lia, fun x hx => hd' x (by simp [hx]), hdrop, hql', by lia, t1', t2', t3'', t4', tb', ?_⟩, ?_⟩
      · refine sre S ⟨rfl, rfl, ?_, rfl, rfl, rfl, rfl, trivial⟩ trivial
        show some _ = some _
        congr 2
        lia
      · show ds'.length < (d :: ds').length
        simp
  · replace S := S.keeps st
    have hc := of_decide_eq_false hc
    have hqe : q = EE.length := by lia
    cases ds' with
    | cons d ds' =>
      exfalso
      have := congrArg List.length hq
      have := ggi_pos d b 0
      rw [hqe, List.drop_length, giN, List.map_append, List.length_append, List.length_map] at *
      simp at *
      lia
    | nil =>
      refine t_return (T := fun v _ _ => IsS (ofL bs) v) (by ktr_rel) fun v h tk _ st p => ⟨⟨_, _, rfl, stays_trans S.keep st⟩, ?_⟩
      rw [← hins]; exact p
end
end

/- E3 -/
section
open PySem PySem.W PyProof.Rows PySem.Calls
open Builtin Builtin._codecs
theorem loop2 {β : Type} (f : Nat → β → Sem (ForInStep β)) (n : Nat) (b0 b1 : β) (h0 : n ≠ 0 → f 0 b0 = pure (.yield b1)) (h1 : n ≠ 0 → ∀ x, f x b1 = pure (.done b1)) (hz : n = 0 → b0 = b1) : forIn (List.range' 0 n) b0 f = pure b1 := by
  cases n with
  | zero => rw [hz rfl]; rfl
  | succ n =>
    rw [List.range'_succ, List.forIn_cons, h0 (by lia)]
    show forIn (List.range' 1 n) b1 f = pure b1
    cases n with
    | zero => rfl
    | succ n =>
      rw [List.range'_succ, List.forIn_cons, h1 (by lia)]
      rfl
theorem fold_bytes (xs : List Nat) : ∀ acc : Array UInt8, Array.foldl (fun acc y => acc ++ (asciiCodec.bytesOf y).toArray) acc xs.toArray = acc ++ (xs.map (·.toUInt8)).toArray := by
  induction xs with
  | nil => intro acc; simp
  | cons x xs ih =>
    intro acc
    have := ih (acc ++ (asciiCodec.bytesOf x).toArray)
    rw [List.foldl_toArray] at this ⊢
    rw [List.foldl_cons, this]
    simp [asciiCodec]
theorem find_none (l : List Nat) (h : ∀ c ∈ l, c < 128) : Array.findIdx? asciiCodec.bad l.toArray = none := by
  rw [List.findIdx?_toArray, List.findIdx?_eq_none_iff]
  intro c hc
  have := h c hc
  show decide (c ≥ 128) = false
  exact decide_eq_false (by lia)
theorem enc_ascii (id : String) (self : Value) (l : List Nat) (h : ∀ c ∈ l, c < 128) (hz : l.length ≤ sizeLine) : encodeNarrow id asciiCodec none self (ofL l) = pure ((l.map (·.toUInt8)).toArray) := by
  unfold encodeNarrow
  simp only [Std.Legacy.Range.forIn_eq_forIn_range']
  refine (congrArg (fun m => m >>= _) (loop2 _ _ _ (l.length, (l.map (·.toUInt8)).toArray, {}) ?_ ?_ ?_)).trans rfl
  · intro hn
    have hne : l ≠ [] := fun e => hn (by subst e; rfl)
    obtain ⟨c, l', rfl⟩ := List.exists_cons_of_ne_nil hne
    dsimp only
    rw [if_neg (by simp)]
    have hc : (ofL (c :: l')).cps[0]? = some c := rfl
    rw [hc]
    dsimp only
    rw [if_pos (by show (!decide (c ≥ 128)) = true; rw [decide_eq_false (by have := h c (by simp); lia)]; rfl)]
    have e1 : (ofL (c :: l')).cps.extract 0 = (c :: l').toArray := by simp [ofL]
    rw [e1, find_none _ h]
    simp only [Option.getD_none]
    rw [show ((c :: l').toArray.extract 0 (c :: l').toArray.size) = (c :: l').toArray by simp, fold_bytes]
    simp
  · intro hn x
    dsimp only
    rw [if_neg (by simp; lia)]
    rw [show (ofL l).cps[l.length]? = none by simp [ofL]]
  · intro hn
    have : l = [] := by
      cases l with
      | nil => rfl
      | cons a b => simp [ofL, Str.length, Std.Legacy.Range.size] at hn
    subst this; rfl
end

/- E4 -/
section
open PySem PySem.W PyProof.Rows PySem.Calls
open Builtin Builtin._codecs
theorem loopN {β : Type} (f : Nat → β → Sem (ForInStep β)) (S : Nat → β) (n : Nat) (h : ∀ i x, i < n → f x (S i) = pure (.yield (S (i + 1)))) : ∀ k m, k + m = n → ∀ a, forIn (List.range' a m) (S k) f = pure (S n)
  | k, 0, e, a => by rw [show k = n by lia]; rfl
  | k, m + 1, e, a => by
    rw [List.range'_succ, List.forIn_cons, h k a (by lia)]
    show forIn (List.range' (a + 1) m) (S (k + 1)) f = pure (S n)
    exact loopN f S n h (k + 1) m (by lia) (a + 1)
theorem take_snoc (l : List Nat) (i : Nat) (hi : i < l.length) : (l.take i).toArray ++ [l[i]].toArray = (l.take (i + 1)).toArray := by
  rw [List.take_add_one, List.getElem?_eq_getElem hi]; simp
theorem byte_back (l : List Nat) (h : ∀ c ∈ l, c < 128) (i : Nat) (hi : i < l.length) : (((l.map (fun c : Nat => c.toUInt8)).toArray).getD i 0).toNat = l[i] := by
  have h2 := h l[i] (List.getElem_mem hi)
  simp [hi, Nat.toUInt8]
  lia
theorem dec_ascii (id : String) (errors : Option Str) (held : List Value) (l : List Nat) (h : ∀ c ∈ l, c < 128) (hz : l.length ≤ sizeLine) :
    runDecoder id asciiDecoder errors true ((l.map (fun c : Nat => c.toUInt8)).toArray) 0 held = pure (l.toArray, l.length) := by
  unfold runDecoder
  simp only [Std.Legacy.Range.forIn_eq_forIn_range']
  rw [show ([:(l.map (fun c : Nat => c.toUInt8)).toArray.size] : Std.Legacy.Range).size = l.length by simp [Std.Legacy.Range.size]]
  refine (congrArg (fun m => m >>= _) (loopN _ (fun i => (i, (l.take i).toArray, ({ held := held } : Faults))) l.length ?_ 0 l.length (by simp) 0 : _ = _)).trans ?_
  · intro i x hi
    dsimp only
    rw [if_neg (by simp; lia), if_neg (by simp; lia)]
    have hc := byte_back l h i hi
    have h2 := h l[i] (List.getElem_mem hi)
    have hf : asciiDecoder.find true ((l.map (fun c : Nat => c.toUInt8)).toArray) i = .text [l[i]] (i + 1) := by
      show (if (((l.map (fun c : Nat => c.toUInt8)).toArray).getD i 0).toNat < 128 then Found.char (((l.map (fun c : Nat => c.toUInt8)).toArray).getD i 0).toNat (i + 1) else _) = _
      rw [hc, if_pos h2]; rfl
    rw [hf]
    dsimp only
    rw [take_snoc l i hi]
  · simp
noncomputable abbrev toB (l : List Nat) : Array UInt8 := (l.map (fun c : Nat => c.toUInt8)).toArray
section
variable {prog : Program} {w : World} {A : Around} {E : Value → Shared → Prop} {s : Shared}
theorem w_like {b : Array UInt8} {t : Tok} {id : String} {Q : Array UInt8 → Shared → Prop} (h : Q b s) : wpAny (model prog w) A (Builtin.Bytes.bytesLike id (.bytes b t)) Q E s := by
  unfold Builtin.Bytes.bytesLike
  exact wpAny_bind (w_buffer (wpAny_pure h))
theorem w_decodeText {l : List Nat} {t t2 t3 t4 : Tok} {id : Str} {Q : Value → Shared → Prop} (h : ∀ c ∈ l, c < 128) (hz : l.length ≤ sizeLine) (hQ : Q (.str (ofL l) s.toks) { s with toks := s.toks + 1 }) :
    wpAny (model prog w) A (Builtin.«_codecs.decode.text» ⟨[.bytes (toB l) t, .str "ascii" t2, .str "strict" t3, .str id t4], []⟩) (fun fin s' => ∃ v, fin = .done (.ret v) ∧ Q v s') E s := by
  unfold Builtin.«_codecs.decode.text»
  dsimp only
  refine wpAny_bind (wpAny_of_eq (a := some ("strict" : Str)) rfl ?_)
  refine wpAny_bind (w_like ?_)
  unfold dataHeld
  refine wpAny_bind (wpAny_bind (w_like (wpAny_pure ?_)))
  have e2 : decodeRoad id.toString (toB l) ("ascii" : Str) (some ("strict" : Str)) [] = (do mkStr ⟨(← runDecoder id.toString asciiDecoder (some ("strict" : Str)) true (toB l) 0 []).1⟩) := by
    unfold decodeRoad; rfl
  rw [e2]
  refine wpAny_bind (wpAny_bind (wpAny_of_eq (dec_ascii _ _ _ l h hz) ?_))
  exact wpAny_mkStr (wpAny_pure ⟨_, rfl, hQ⟩) (by show (ofL l).length ≤ sizeLine; rw [ofL_length]; exact hz)
end
end

/- E5 -/
section
open PySem PySem.W PyProof.Rows PySem.Calls
open Builtin Builtin._codecs
namespace FC
theorem kind_dt : builtinKind "_codecs.decode.text" = none := by kernel_rfl
theorem plain_dt : plainId "_codecs.decode.text" = true := by decide +kernel
theorem entry_dt : entryFor table "_codecs.decode.text" = some Builtin.«_codecs.decode.text» := entryFor_of_tree (by kernel_rfl)
theorem sig_dt : Manifest.signature? "_codecs.decode.text" = none := by kernel_rfl
theorem args_dt (a b c d : Value) : argsOk "_codecs.decode.text" ⟨[a, b, c, d], []⟩ := by unfold argsOk; rw [sig_dt]
theorem args_decode (x : Array UInt8) (t a b : Tok) : argsOk "bytes.decode" ⟨[.bytes x t], [("encoding", .str "ascii" a), ("errors", .str "strict" b)]⟩ := by
  unfold argsOk; rw [signature?_of (id := "bytes.decode") (n := ['e', 'd', 'o', 'c', 'e', 'd']) (o := ['s', 'e', 't', 'y', 'b']) (by kernel_rfl) FB.owner_bytes]; kernel_rfl
theorem typeCall_str_3 (a b c : Value) : checkTypeCall "str" ⟨[a, b, c], []⟩ = pure () := by kernel_rfl
theorem newCall_str_3 (a b c : Value) : checkBuiltinCall "str.__new__" ⟨[.type "str", a, b, c], []⟩ = pure () := by kernel_rfl
theorem args_init_4 (obj a b c : Value) : argsOk "object.__init__" ⟨[obj, a, b, c], []⟩ := by unfold argsOk; kernel_rfl
end FC
section
variable {prog : Program} {w : World} {A : Around} {E : Value → Shared → Prop} {s : Shared}
theorem w_callText {l : List Nat} {t t2 t3 t4 : Tok} {id : Str} {Q : Value → Shared → Prop} (h : ∀ c ∈ l, c < 128) (hz : l.length ≤ sizeLine) (hQ : Q (.str (ofL l) s.toks) { s with toks := s.toks + 1 }) :
    wpAny (model prog w) A (call (.builtin "_codecs.decode.text") [.bytes (toB l) t, .str "ascii" t2, .str "strict" t3, .str id t4]) Q E s :=
  call_function_entry FC.kind_dt FC.plain_dt FC.entry_dt (FC.args_dt _ _ _ _) (w_decodeText h hz hQ)
theorem w_checkCodec {id f which : String} {x : Str} {t : Tok} {Q : Unit → Shared → Prop} (h1 : x.cps.any Str.isSurrogate = false) (h2 : x.cps.contains 0 = false) (h : Q () s) : wpAny (model prog w) A (Bytes.checkCodecArg id f which (some (.str x t))) Q E s := by
  unfold Bytes.checkCodecArg
  dsimp only
  refine wpAny_bind (wpAny_of_eq (a := some x) rfl ?_)
  dsimp only
  rw [h1, h2]
  rw [if_neg Bool.false_ne_true, if_neg Bool.false_ne_true]
  exact wpAny_pure h
theorem w_bytesDecode {l : List Nat} {t t2 t3 : Tok} {Q : Value → Shared → Prop} (h : ∀ c ∈ l, c < 128) (hz : l.length ≤ sizeLine) (hQ : ∀ t' k, s.toks ≤ k → Q (.str (ofL l) t') { s with toks := k }) :
    wpAny (model prog w) A (Builtin.«bytes.decode» ⟨[.bytes (toB l) t], [("encoding", .str "ascii" t2), ("errors", .str "strict" t3)]⟩) (fun fin s' => ∃ v, fin = .done (.ret v) ∧ Q v s') E s := by
  unfold Builtin.«bytes.decode» Bytes.decodeM
  dsimp only
  refine wpAny_bind (wpAny_of_eq (a := [some (.str "ascii" t2), some (.str "strict" t3)]) (by kernel_rfl) ?_)
  dsimp only
  refine wpAny_bind (w_checkCodec (by decide +kernel) (by decide +kernel) ?_)
  refine wpAny_bind (w_checkCodec (by decide +kernel) (by decide +kernel) ?_)
  rw [if_neg (by decide +kernel)]
  show wpAny _ _ (Bytes.payload (.bytes (toB l) t) >>= _) _ _ _
  refine wpAny_bind (wpAny_of_eq (a := toB l) rfl ?_)
  by_cases hl : (toB l).isEmpty = true
  · rw [if_pos hl]
    have : l = [] := by simpa using hl
    subst this
    refine wpAny_bind (wpAny_rule ?_)
    exact wpAny_bind (wpAny_mkStr (wpAny_pure ⟨_, rfl, hQ _ _ (Nat.le_succ _)⟩) (by decide +kernel))
  · rw [if_neg hl]
    refine wpAny_bind (wpAny_mkStr ?_ (by decide +kernel))
    refine wpAny_bind (wpAny_bind (wpAny_of_eq (a := some (Str.ofString "ascii")) rfl (wpAny_mkStr ?_ (by decide +kernel))))
    refine wpAny_bind (wpAny_bind (wpAny_of_eq (a := some (Str.ofString "strict")) rfl (wpAny_mkStr ?_ (by decide +kernel))))
    refine wpAny_bind (wpAny_mkStr ?_ (by decide +kernel))
    exact wpAny_bind (w_callText h hz (wpAny_pure ⟨_, rfl, hQ _ _ (by dsimp only; lia)⟩))
theorem w_callDecode {l : List Nat} {t t2 t3 : Tok} {Q : Value → Shared → Prop} (h : ∀ c ∈ l, c < 128) (hz : l.length ≤ sizeLine) (hQ : ∀ t' k, s.toks ≤ k → Q (.str (ofL l) t') { s with toks := k }) :
    wpAny (model prog w) A (call (.builtin "bytes.decode") [.bytes (toB l) t] [("encoding", .str "ascii" t2), ("errors", .str "strict" t3)]) Q E s :=
  wpAny_call_entry_kw FB.slot_bytes_decode (typeIs_bytes s _ t) FB.entry_bytes_decode (w_bytesDecode h hz hQ) (FC.args_decode _ _ _ _)
theorem w_codecArg {id f which : String} {x : Str} {t : Tok} {Q : Option Str → Shared → Prop} (h1 : x.cps.any (· ≥ 128) = false) (h2 : x.cps.contains 0 = false) (h : Q (some x) s) : wpAny (model prog w) A (Builtin.Str.codecArg id f which (some (.str x t))) Q E s := by
  unfold Builtin.Str.codecArg
  dsimp only
  refine wpAny_bind (wpAny_of_eq (a := x) rfl ?_)
  rw [h1, h2]
  rw [if_neg Bool.false_ne_true, if_neg Bool.false_ne_true]
  exact wpAny_pure h
theorem w_strNew {l : List Nat} {t t2 t3 : Tok} {Q : Value → Shared → Prop} (h : ∀ c ∈ l, c < 128) (hz : l.length ≤ sizeLine) (hQ : ∀ t' k, s.toks ≤ k → Q (.str (ofL l) t') { s with toks := k }) :
    wpAny (model prog w) A (Builtin.«str.__new__» ⟨[.type "str", .bytes (toB l) t, .str "ascii" t2, .str "strict" t3], []⟩) (fun fin s' => ∃ v, fin = .done (.ret v) ∧ Q v s') E s := by
  unfold Builtin.«str.__new__»
  dsimp only
  refine wpAny_bind (wpAny_pure ?_)
  rw [if_neg (by decide)]
  refine wpAny_bind (wpAny_of_eq isSubtype_str_str ?_)
  rw [if_neg (by decide)]
  rw [if_neg (by exact Bool.false_ne_true)]
  refine wpAny_bind (wpAny_of_eq (a := [some (.bytes (toB l) t), some (.str "ascii" t2), some (.str "strict" t3)]) (by rfl) ?_)
  dsimp only
  refine wpAny_bind ?_
  show wpAny _ _ (asStr? (.str "ascii" t2) >>= _) _ _ _
  refine wpAny_bind (wpAny_of_eq (a := some (Str.ofString "ascii")) rfl ?_)
  rw [if_neg (by exact Bool.false_ne_true)]
  refine w_codecArg (by decide +kernel) (by decide +kernel) ?_
  refine wpAny_bind ?_
  show wpAny _ _ (asStr? (.str "strict" t3) >>= _) _ _ _
  refine wpAny_bind (wpAny_of_eq (a := some (Str.ofString "strict")) rfl ?_)
  rw [if_neg (by exact Bool.false_ne_true)]
  refine w_codecArg (by decide +kernel) (by decide +kernel) ?_
  rw [if_neg (by exact Bool.false_ne_true)]
  refine wpAny_bind ?_
  show wpAny _ _ ((do return [(Str.ofString "encoding", ← mkStr (Str.ofString "ascii"))]) >>= _) _ _ _
  refine wpAny_bind (wpAny_bind (wpAny_mkStr (wpAny_pure ?_) (by decide +kernel)))
  show wpAny _ _ ((do return [(Str.ofString "errors", ← mkStr (Str.ofString "strict"))]) >>= _) _ _ _
  refine wpAny_bind (wpAny_bind (wpAny_mkStr (wpAny_pure ?_) (by decide +kernel)))
  refine wpAny_bind (wpAny_isInstance (typeIs_bytes _ _ t) sub_bb ?_)
  rw [if_pos rfl]
  refine wpAny_bind (wpAny_rule ?_)
  refine w_callDecode h hz fun t' k hk => ?_
  rw [if_pos (by decide)]
  exact wpAny_pure ⟨_, rfl, hQ t' k (by dsimp only at hk; lia)⟩
theorem call_str_ascii {l : List Nat} {t t2 t3 : Tok} {Q : Value → Shared → Prop} (h : ∀ c ∈ l, c < 128) (hz : l.length ≤ sizeLine) (hQ : ∀ t' k, s.toks ≤ k → Q (.str (ofL l) t') { s with toks := k }) :
    wpAny (model prog w) A (call (.type "str") [.bytes (toB l) t, .str "ascii" t2, .str "strict" t3]) Q E s :=
  callType_new F.called_str (by decide) (FC.typeCall_str_3 _ _ _) (FC.newCall_str_3 _ _ _) (fun obj => FC.args_init_4 obj _ _ _) F.entry_str_new
    (S := fun _ R s => ∀ t' k, s.toks ≤ k → R (.ok (.ret (.str (ofL l) t'))) { s with toks := k })
    (Meets.of_wp fun prog w A R s hr => wpAny_mono (w_strNew (Q := fun v s' => R (.ok (.ret v)) s') h hz hr) (fun fin s' hq => by obtain ⟨v, e, q⟩ := hq; exact ⟨_, e, q⟩) fun _ _ e => e) fun t' k hk => ⟨typeIs_str _ _ _, hQ t' k hk⟩
theorem w_encode {l : List Nat} {t t2 : Tok} {Q : Value → Shared → Prop} (h : ∀ c ∈ l, c < 128) (hz : l.length ≤ sizeLine) (hQ : Q (.bytes (toB l) s.toks) { s with toks := s.toks + 1 }) :
    wpAny (model prog w) A (Builtin.«str.encode» ⟨[.str (ofL l) t, .str "ascii" t2], []⟩) (fun fin s' => ∃ v, fin = .done (.ret v) ∧ Q v s') E s := by
  have e : Builtin.«str.encode» ⟨[.str (ofL l) t, .str "ascii" t2], []⟩ = (do
      let encoding := (← Builtin.Str.codecArg "str.encode" "encode" "'encoding'" (some (.str "ascii" t2))).getD "utf-8"
      let errors ← Builtin.Str.codecArg "str.encode" "encode" "'errors'" none
      ret (← encodeRoad "str.encode" (.str (ofL l) t) (ofL l) encoding errors)) := rfl
  rw [e]
  refine wpAny_bind (w_codecArg (by decide +kernel) (by decide +kernel) ?_)
  refine wpAny_bind (wpAny_of_eq (a := none) rfl ?_)
  have e2 : encodeRoad "str.encode" (.str (ofL l) t) (ofL l) (Option.getD (some (Str.ofString "ascii")) (Str.ofString "utf-8")) none = (do mkBytes (← encodeNarrow "str.encode" asciiCodec none (.str (ofL l) t) (ofL l))) := by
    unfold encodeRoad; rfl
  rw [e2]
  refine wpAny_bind (wpAny_bind (wpAny_of_eq (enc_ascii _ _ l h hz) (wpAny_mkBytes (wpAny_pure ⟨_, rfl, hQ⟩) (by simpa using hz))))
end
end

/- E6 -/
section
open PySem PySem.W PyProof.Rows PySem.Calls
open Builtin Builtin._codecs
namespace FC
theorem slot_rfind : Slot "bytes" "rfind" "bytes.rfind" :=
  .of (owner := "bytes") (n := "rfind") (by rw [typeLookup_type, builtinLookup_eq_fast]; kernel_rfl) (by decide +kernel) (by decide +kernel) (by decide +kernel)
    (by first | exact .inl (by decide +kernel) | exact .inr (by decide +kernel)) (by rw [isSubtype_type]; kernel_rfl)
theorem type_rfind : typeOf (.builtin "bytes.rfind") = pure (.type "method_descriptor") := by show builtinType _ = _; rw [builtinType_eq_fast]; kernel_rfl
theorem entry_rfind : entryFor table "bytes.rfind" = some Builtin.«bytes.rfind» := entryFor_of_tree (by kernel_rfl)
theorem args_rfind (a b : Value) : argsOk "bytes.rfind" ⟨[a, b], []⟩ := by
  unfold argsOk; rw [signature?_of (id := "bytes.rfind") (n := "rfind".toList.reverse) (o := ['s', 'e', 't', 'y', 'b']) (by kernel_rfl) FB.owner_bytes]; kernel_rfl
theorem slot_upper : Slot "bytes" "upper" "bytes.upper" :=
  .of (owner := "bytes") (n := "upper") (by rw [typeLookup_type, builtinLookup_eq_fast]; kernel_rfl) (by decide +kernel) (by decide +kernel) (by decide +kernel)
    (by first | exact .inl (by decide +kernel) | exact .inr (by decide +kernel)) (by rw [isSubtype_type]; kernel_rfl)
theorem type_upper : typeOf (.builtin "bytes.upper") = pure (.type "method_descriptor") := by show builtinType _ = _; rw [builtinType_eq_fast]; kernel_rfl
theorem entry_upper : entryFor table "bytes.upper" = some Builtin.«bytes.upper» := entryFor_of_tree (by kernel_rfl)
theorem args_upper (a : Value) : argsOk "bytes.upper" ⟨[a], []⟩ := by
  unfold argsOk; rw [signature?_of (id := "bytes.upper") (n := "upper".toList.reverse) (o := ['s', 'e', 't', 'y', 'b']) (by kernel_rfl) FB.owner_bytes]; kernel_rfl
theorem meta_mv : typeOf (.type "memoryview") = pure (.type "type") := by kernel_rfl
theorem meta_str : typeOf (.type "str") = pure (.type "type") := by kernel_rfl
theorem sub_bytes_mv : isSubtype (.type "bytes") (.type "memoryview") = pure false := by rw [isSubtype_type]; kernel_rfl
end FC
section
variable {prog : Program} {w : World} {A : Around} {E : Value → Shared → Prop} {s : Shared}
theorem isi_true {x : Value} {Tx T : String} {Q : Value → Shared → Prop} (hty : typeOf (.type T) = pure (.type "type")) (hsub : isSubtype (.type Tx) (.type T) = pure true) (hx : s.TypeIs x Tx) (h : Q (.bool true) s) : wpAny (model prog w) A (call (.builtin "isinstance") [x, .type T]) Q E s :=
  call_isinstance (isinstance_true hty hsub) ⟨hx, h⟩
theorem isi_mv {b : Array UInt8} {t : Tok} {Q : Value → Shared → Prop} (h : Q (.bool false) { s with toks := s.toks + 1 }) : wpAny (model prog w) A (call (.builtin "isinstance") [.bytes b t, .type "memoryview"]) Q E s :=
  call_isinstance (S := fun _ R s => R (.ok (.ret (.bool false))) { s with toks := s.toks + 1 }) (fun _ _ _ _ s hs => by
    obtain ⟨h, g, d, t, os⟩ := s
    exact isinstance_outer (isinstance_nested_false_bytes (by decide) FC.meta_mv FC.sub_bytes_mv hs)) h
theorem w_upper {l : List Nat} {t : Tok} {Q : Value → Shared → Prop} (h : ∀ c ∈ l, c < 128) (hz : l.length ≤ sizeLine) (hQ : Q (.bytes (toB (l.map fun c => if 97 ≤ c ∧ c ≤ 122 then c - 32 else c)) s.toks) { s with toks := s.toks + 1 }) :
    wpAny (model prog w) A (call (.builtin "bytes.upper") [.bytes (toB l) t]) Q E s := by
  refine wpAny_call_entry FC.slot_upper (typeIs_bytes s _ t) FC.entry_upper ?_ (FC.args_upper _)
  unfold Builtin.«bytes.upper» Bytes.mappedM
  refine wpAny_bind (wpAny_of_eq (a := .bytes (toB l) t) rfl ?_)
  refine wpAny_bind (wpAny_of_eq (a := toB l) rfl ?_)
  refine wpAny_bind (wpAny_mkBytes (wpAny_pure ⟨_, rfl, ?_⟩) (by simpa using hz))
  have e : (((toB l).toList.map Bytes.toUpper).toArray) = toB (l.map fun c => if 97 ≤ c ∧ c ≤ 122 then c - 32 else c) := by
    simp only [toB, List.map_map]
    congr 1
    refine List.map_congr_left fun c hc => ?_
    have := h c hc
    have e1 : (c.toUInt8).toNat = c := by simp [Nat.toUInt8]; lia
    show Bytes.toUpper c.toUInt8 = _
    unfold Bytes.toUpper Bytes.isLower
    by_cases hc2 : 97 ≤ c ∧ c ≤ 122
    · rw [if_pos (by simp only [Bool.and_eq_true, decide_eq_true_eq, UInt8.le_iff_toNat_le]; rw [e1]; exact hc2)]
      show c.toUInt8 - 32 = (if 97 ≤ c ∧ c ≤ 122 then c - 32 else c).toUInt8
      rw [if_pos hc2]
      apply UInt8.toNat_inj.mp
      rw [UInt8.toNat_sub_of_le _ _ (by rw [UInt8.le_iff_toNat_le, e1]; show 32 ≤ c; lia), e1]
      simp [Nat.toUInt8]; lia
    · rw [if_neg (by simp only [Bool.and_eq_true, decide_eq_true_eq, UInt8.le_iff_toNat_le]; rw [e1]; exact hc2)]
      show c.toUInt8 = (if 97 ≤ c ∧ c ≤ 122 then c - 32 else c).toUInt8
      rw [if_neg hc2]
  rw [e]; exact hQ
/- where the last '-' stands -/
theorem w_rfind {l : List Nat} {t u : Tok} {i : Int} {Q : Value → Shared → Prop} (hi : (match Bytes.rfind? (toB l) #[45] 0 l.length with | some k => (k : Int) | none => -1) = i) (hz : l.length ≤ sizeLine) (hQ : Q (.int i s.toks) { s with toks := s.toks + 1 }) :
    wpAny (model prog w) A (call (.builtin "bytes.rfind") [.bytes (toB l) t, .bytes #[45] u]) Q E s := by
  refine wpAny_call_entry FC.slot_rfind (typeIs_bytes s _ t) FC.entry_rfind ?_ (FC.args_rfind _ _)
  unfold Builtin.«bytes.rfind» Bytes.searchM Bytes.searchArgs
  refine wpAny_bind ?_
  refine wpAny_bind (wpAny_of_eq (a := (.bytes (toB l) t, [.bytes #[45] u])) rfl ?_)
  dsimp only
  refine wpAny_bind (wpAny_of_eq (a := none) rfl ?_)
  refine wpAny_bind (wpAny_of_eq (a := none) rfl ?_)
  refine wpAny_bind (w_buffer ?_)
  dsimp only
  refine wpAny_bind (wpAny_pure ?_)
  refine wpAny_bind (wpAny_of_eq (a := toB l) rfl (wpAny_pure ?_))
  have hw1 : (Bytes.window (toB l).size none none).fst = 0 := by simp [Bytes.window]
  have hw2 : (Bytes.window (toB l).size none none).snd = l.length := by
    simp [Bytes.window]
    rw [if_neg (by lia)]; lia
  dsimp only
  rw [hw1, hw2]
  have hsel : (if ((l.length : Int) - 0 < ((#[45] : Array UInt8).size : Nat)) then none else some ((0 : Int).toNat, (l.length : Int).toNat)).bind (fun x => if true = true then Bytes.rfind? (toB l) #[45] x.fst x.snd else Bytes.find? (toB l) #[45] x.fst x.snd) = Bytes.rfind? (toB l) #[45] 0 l.length := by
    by_cases h0 : l.length = 0
    · have : l = [] := List.eq_nil_of_length_eq_zero h0
      subst this; rfl
    · rw [if_neg (by simp; lia)]; rfl
  rw [hsel]
  cases hr : Bytes.rfind? (toB l) #[45] 0 l.length with
  | some k =>
    rw [hr] at hi
    dsimp only at hi ⊢
    subst hi
    exact wpAny_bind (wpAny_mkInt (wpAny_pure ⟨_, rfl, hQ⟩))
  | none =>
    rw [hr] at hi
    dsimp only at hi ⊢
    subst hi
    refine wpAny_bind (wpAny_rule ?_)
    rw [if_neg Bool.false_ne_true]
    exact wpAny_bind (wpAny_mkInt (wpAny_pure ⟨_, rfl, hQ⟩))
theorem toB_at (l : List Nat) (h : ∀ c ∈ l, c < 128) (i : Nat) : ((toB l).extract i (i + 1) == #[45]) = (l[i]? == some 45) := by
  rw [Bool.eq_iff_iff, beq_iff_eq, beq_iff_eq]
  rcases Nat.lt_or_ge i l.length with hlt | hge
  · have e : (toB l).extract i (i + 1) = #[(l[i]).toUInt8] := by
      simp only [toB, List.extract_toArray, List.extract_eq_take_drop]
      rw [Nat.add_sub_cancel_left, ← List.map_drop, ← List.map_take, List.drop_eq_getElem_cons hlt]
      rfl
    rw [e, List.getElem?_eq_getElem hlt]
    have hc := h l[i] (List.getElem_mem hlt)
    constructor
    · intro q
      have q2 : (l[i]).toUInt8 = 45 := by simpa using q
      have := congrArg UInt8.toNat q2
      simp [Nat.toUInt8] at this
      have : l[i] = 45 := by lia
      rw [this]
    · intro q
      have : l[i] = 45 := by simpa using q
      rw [this]; rfl
  · rw [List.getElem?_eq_none hge]
    constructor
    · intro q
      have := congrArg Array.size q
      simp [toB] at this
      lia
    · intro q; cases q
theorem rfind_none (l : List Nat) (h : ∀ c ∈ l, c < 128) (hn : 45 ∉ l) : Bytes.rfind? (toB l) #[45] 0 l.length = none := by
  unfold Bytes.rfind?
  rw [List.find?_eq_none]
  intro i hi
  show ¬ ((toB l).extract i (i + 1) == #[45]) = true
  rw [toB_at l h i]
  intro q
  have q2 : l[i]? = some 45 := by simpa using q
  exact hn (List.mem_of_getElem? q2)
theorem rfind_at (a r : List Nat) (h : ∀ c ∈ a ++ 45 :: r, c < 128) (hn : 45 ∉ r) : Bytes.rfind? (toB (a ++ 45 :: r)) #[45] 0 (a ++ 45 :: r).length = some a.length := by
  unfold Bytes.rfind?
  have hlen : (a ++ 45 :: r).length + 1 - (0 + (#[45] : Array UInt8).size) = a.length + 1 + r.length := by simp; lia
  rw [hlen]
  have hmap : (List.range (a.length + 1 + r.length)).map (· + 0) = List.range (a.length + 1 + r.length) := by simp
  rw [hmap]
  have hp : ∀ i, ((toB (a ++ 45 :: r)).extract i (i + (#[45] : Array UInt8).size) == #[45]) = ((a ++ 45 :: r)[i]? == some 45) := fun i => toB_at _ h i
  simp only [hp]
  rw [List.range_add, List.range_succ, List.reverse_append, List.find?_append]
  have h1 : ((List.map (fun x => a.length + 1 + x) (List.range r.length)).reverse.find? fun i => (a ++ 45 :: r)[i]? == some 45) = none := by
    rw [List.find?_eq_none]
    intro i hi
    rw [List.mem_reverse, List.mem_map] at hi
    obtain ⟨k, hk, rfl⟩ := hi
    intro q
    have q2 : (a ++ 45 :: r)[a.length + 1 + k]? = some 45 := by simpa using q
    rw [List.getElem?_append_right (by lia), show a.length + 1 + k - a.length = k + 1 by lia, List.getElem?_cons_succ] at q2
    exact hn (List.mem_of_getElem? q2)
  rw [h1, List.reverse_append, List.reverse_singleton, List.singleton_append, List.find?_cons_of_pos (by simp)]
  rfl
end
end

/- E7 -/
section
open PySem PySem.W PyProof.Rows PySem.Calls
open Builtin
section
variable {prog : Program} {w : World} {A : Around} {E : Value → Shared → Prop} {s : Shared}
noncomputable def bPart (v : Value) : Sem Value := do
  if v == .none then return .none
  if (← specialOf v "__index__").isNone then
    rule "bytes.slice.part-no-index"; raiseError "TypeError" "slice indices must be integers or None or have an __index__ method"
  return rawInt (← asIndex v)
theorem byteParts_eq (s : Value) : Bytes.sliceParts s = (do
    let step ← bPart (← field s 2)
    if step == rawInt 0 then rule "bytes.slice.step-zero"; raiseError "ValueError" "slice step cannot be zero"
    let start ← bPart (← field s 0)
    let stop ← bPart (← field s 1)
    return (start, stop, step)) := rfl
theorem w_bPart {M : Model} {v : Value} {k : Option Int} {Q : Value → Shared → Prop} (hv : IsPart v k) (h : Q (rawPart k) s) : wpAny M A (bPart v) Q E s := by
  cases hv with
  | none => exact wpAny_pure h
  | int i t =>
    unfold bPart
    rw [if_neg (show ¬ ((Value.int i t == Value.none) = true) from Bool.false_ne_true)]
    refine wpAny_bind (wpAny_specialOf (T := "int") (typeIs_int s i t) int_index ?_)
    simp only [Option.isNone_some, Bool.false_eq_true, if_false]
    exact wpAny_bind (wpAny_of_eq (a := i) rfl (wpAny_pure h))
theorem bounds_to (n k : Nat) (h : k ≤ n) : sliceBounds none (some (k : Int)) none n = (0, (k : Int), 1) := by
  simp only [sliceBounds, Option.getD_none, show ((1 : Int) > 0) = True from by simp, if_true]
  rw [if_neg (by lia)]
  congr 2
  lia
theorem bounds_from (n k : Nat) (h : k ≤ n) : sliceBounds (some (k : Int)) none none n = ((k : Int), (n : Int), 1) := by
  simp only [sliceBounds, Option.getD_none, show ((1 : Int) > 0) = True from by simp, if_true]
  rw [if_neg (by lia)]
  congr 1
  lia
theorem sliced_ab (l : List Nat) (a b : Nat) (hab : a ≤ b) (hb : b ≤ l.length) : Bytes.sliced (toB l) (a : Int) (b : Int) 1 = toB ((l.drop a).take (b - a)) := by
  have e := StrLaws.picks (l.map (fun c : Nat => c.toUInt8)) (b - a) a (by simp; lia)
  have e2 : sliceRange (a : Int) (b : Int) 1 = (List.range (b - a)).map (fun k => a + k) := by
    have := StrLaws.strSliceIndices_plain (a := a) (b := b) (len := b) hab (Nat.le_refl _)
    unfold sliceRange
    simp only [show ((1 : Int) > 0) = True from by simp, if_true]
    by_cases hlt : (a : Int) < b
    · rw [if_pos hlt, show (((b : Int) - a + 1 - 1) / 1).toNat = b - a by lia]
      refine List.map_congr_left fun k _ => ?_
      lia
    · rw [if_neg hlt, show b - a = 0 by lia]; rfl
  unfold Bytes.sliced
  rw [e2]
  simp only [toB]
  congr 1
  rw [List.map_take, List.map_drop]
  simpa using e
theorem w_sliceB {l : List Nat} {t : Tok} {sl : Addr} {vl vu : Value} {lo hi : Option Int} {a b : Nat} {Q : Value → Shared → Prop} (hs : s.heap.IsSliceOf sl vl vu .none) (pl : IsPart vl lo) (pu : IsPart vu hi) (hb : sliceBounds lo hi none l.length = ((a : Int), (b : Int), 1)) (hab : a ≤ b) (hbl : b ≤ l.length) (hz : l.length ≤ sizeLine)
    (h : ∀ t' k, s.toks ≤ k → Q (.bytes (toB ((l.drop a).take (b - a))) t') { s with toks := k }) : wpAny (model prog w) A (getItem (.bytes (toB l) t) (.ref sl)) Q E s := by
  obtain ⟨os, hos, hcs, hds⟩ := id hs
  have hTs : s.TypeIs (.ref sl) "slice" := ⟨os, hos, hcs⟩
  refine wpAny_getItem_slot (typeIs_bytes s _ t) (by decide) FB.slot_bytes_getitem (wpAny_call_entry FB.slot_bytes_getitem (typeIs_bytes s _ t) FB.entry_bytes_getitem ?_ (FB.args_bytes_getitem_2 _ _))
  unfold Builtin.«bytes.__getitem__»
  refine wpAny_bind (wpAny_of_eq (a := (.bytes (toB l) t, [.ref sl])) rfl ?_)
  dsimp only
  refine wpAny_bind (wpAny_of_eq (a := toB l) rfl ?_)
  refine wpAny_bind ?_
  unfold Bytes.subscript?
  refine wpAny_bind (wpAny_specialOf hTs slice_no_index ?_)
  simp only [Option.isNone_none, if_true]
  refine wpAny_pure ?_
  dsimp only
  refine wpAny_bind (wpAny_typeOf hTs ?_)
  rw [if_neg (by decide)]
  rw [byteParts_eq]
  refine wpAny_bind (wpAny_bind (wpAny_field hos hds (x := .none) rfl ?_))
  refine wpAny_bind (w_bPart .none ?_)
  rw [if_neg (by exact Bool.false_ne_true)]
  refine wpAny_bind (wpAny_field hos hds (x := vl) rfl ?_)
  refine wpAny_bind (w_bPart pl ?_)
  refine wpAny_bind (wpAny_field hos hds (x := vu) rfl ?_)
  refine wpAny_bind (w_bPart pu (wpAny_pure ?_))
  dsimp only
  refine wpAny_bind (wpAny_of_eq (sliceIndices_raw lo hi none _ (by simp)) ?_)
  rw [show (toB l).size = l.length by simp [toB], hb]
  dsimp only
  by_cases hw : ((a : Int) == 0 && (1 : Int) == 1 && (b : Int) == (l.length : Int) && !(toB l).isEmpty) = true
  · rw [if_pos hw]
    simp only [Bool.and_eq_true, beq_iff_eq] at hw
    have e : (l.drop a).take (b - a) = l := by
      have ha : a = 0 := by lia
      have hb' : b = l.length := by lia
      rw [ha, hb']; simp
    rw [e] at h
    refine wpAny_bind (wpAny_typeOf (typeIs_bytes s _ t) ?_)
    rw [if_pos (by decide)]
    exact wpAny_bind (wpAny_rule (wpAny_pure ⟨_, rfl, h t s.toks (Nat.le_refl _)⟩))
  · rw [if_neg hw, sliced_ab l a b hab hbl]
    exact wpAny_bind (wpAny_mkBytes (wpAny_pure ⟨_, rfl, h _ _ (Nat.le_succ _)⟩) (by simp [toB]; lia))
end
section
variable {prog : Program} {w : World} {A : Around} {env : Env} {b : Shared}
theorem ev_bsliceTo {value e : Expr} {p pos : Pos} {x : List Nat} {k : Nat} (hv : EvP prog w A env b value (IsY (toB x))) (he : EvP prog w A env b e (IsI k)) (hk : k ≤ x.length) (hz : x.length ≤ sizeLine) (ht : ∀ o r, letTemporaryGo value o r = pure () := by intro _ _; rfl) :
    EvP prog w A env b (.Subscript value (.Slice none (some e) none p) pos) (IsY (toB (x.take k))) := by
  refine ev_of fun s E up => ?_
  refine wpAny_Subscript_Slice (T := "bytes") FB.slot_bytes_getitem.lookup (wpAny_mono (hv s E up) (fun o s₁ q₁ => wpAny_Slice (evalPart_none_step (evalPart_some_step (wpAny_mono (he s₁ E (up.trans q₁.1.up)) (fun v s₂ q₂ => evalPart_none_step ?_) fun _ _ e => e)))) fun _ _ e => e) ht
  obtain ⟨k₁, t, rfl⟩ := q₁
  obtain ⟨k₂, u, rfl⟩ := q₂
  refine ⟨typeIs_bytes _ _ t, w_sliceB (Heap.IsSliceOf.new _ _ _ _) .none (.int _ _) (bounds_to _ k hk) (Nat.zero_le _) hk hz fun t' tk _ => ?_⟩
  refine ⟨keeps_trans (k₁.trans k₂).k ⟨_, _, rfl, fun _ _ e => Heap.get?_push_of_some _ e⟩, t', ?_⟩
  simp
theorem ev_bsliceFrom {value e : Expr} {p pos : Pos} {x : List Nat} {k : Nat} (hv : EvP prog w A env b value (IsY (toB x))) (he : EvP prog w A env b e (IsI k)) (hk : k ≤ x.length) (hz : x.length ≤ sizeLine) (ht : ∀ o r, letTemporaryGo value o r = pure () := by intro _ _; rfl) :
    EvP prog w A env b (.Subscript value (.Slice (some e) none none p) pos) (IsY (toB (x.drop k))) := by
  refine ev_of fun s E up => ?_
  refine wpAny_Subscript_Slice (T := "bytes") FB.slot_bytes_getitem.lookup (wpAny_mono (hv s E up) (fun o s₁ q₁ => wpAny_Slice (evalPart_some_step (wpAny_mono (he s₁ E (up.trans q₁.1.up)) (fun v s₂ q₂ => evalPart_none_step (evalPart_none_step ?_)) fun _ _ e => e))) fun _ _ e => e) ht
  obtain ⟨k₁, t, rfl⟩ := q₁
  obtain ⟨k₂, u, rfl⟩ := q₂
  refine ⟨typeIs_bytes _ _ t, w_sliceB (Heap.IsSliceOf.new _ _ _ _) (.int _ _) .none (bounds_from _ k hk) hk (Nat.le_refl _) hz fun t' tk _ => ?_⟩
  refine ⟨keeps_trans (k₁.trans k₂).k ⟨_, _, rfl, fun _ _ e => Heap.get?_push_of_some _ e⟩, t', ?_⟩
  rw [List.take_of_length_le (by simp)]
theorem ev_isi {x : Str} {pp pos : Pos} {e f : Expr} {c : Bool} {T : String} {Pe : Value → Prop} (hn : EvP prog w A env b (.Name x pp) (· = .builtin "isinstance")) (he : EvP prog w A env b e Pe) (hf : EvP prog w A env b f (· = .type T))
    (hk : ∀ v (s : Shared) E, Pe v → wpAny (model prog w) A (call (.builtin "isinstance") [v, .type T]) (fun r s' => Keeps s s' ∧ r = .bool c) E s)
    (hp : starEach [e, f] env = (false, eval e env) :: starEach [f] env := by rfl) (hq : starEach [f] env = [(false, eval f env)] := by rfl) : EvP prog w A env b (.Call (.Name x pp) [e, f] [] pos) (· = .bool c) :=
  ev_call back_P hn (.builtin _) (args2 he hf hp hq) fun vs s s₁ E _ _ hq7 => by
    obtain ⟨u, v, e1, p, e2⟩ := hq7
    subst e1 e2
    exact hk u s₁ E p
theorem ev_upper {o : Expr} {apos pos : Pos} {l : List Nat} (ho : EvP prog w A env b o (IsY (toB l))) (h : ∀ c ∈ l, c < 128) (hz : l.length ≤ sizeLine)
    (hbase : attributeBase o "upper" env (eval o env) = eval o env := by rfl) (hline : (apos.endLine == pos.line) = true := by rfl) :
    EvP prog w A env b (.Call (.Attribute o "upper" apos) [] [] pos) (IsY (toB (l.map fun c => if 97 ≤ c ∧ c ≤ 122 then c - 32 else c))) :=
  ev_method back_P ho (T := "bytes") (id := "bytes.upper") FB.plainAttrs_bytes FC.slot_upper FC.type_upper (fun v s _ hq => by obtain ⟨t, e⟩ := hq; exact ⟨by rw [e]; exact typeIs_bytes _ _ t, fun a e' => by rw [e] at e'; cases e'⟩) args0 (fun ov vs s s₁ E _ _ hq7 hv => by
    obtain ⟨t, e⟩ := hq7
    subst e; subst hv
    exact w_upper h hz ⟨keeps_toks s₁ _, _, rfl⟩) hbase (by rfl) hline
theorem ev_rfind {o e : Expr} {apos pos : Pos} {l : List Nat} {i : Int} (ho : EvP prog w A env b o (IsY (toB l))) (he : EvP prog w A env b e (IsY #[45])) (hi : (match Bytes.rfind? (toB l) #[45] 0 l.length with | some k => (k : Int) | none => -1) = i) (hz : l.length ≤ sizeLine)
    (hbase : attributeBase o "rfind" env (eval o env) = eval o env := by rfl) (hline : (apos.endLine == pos.line) = true := by rfl) (hp : starEach [e] env = [(false, eval e env)] := by rfl) :
    EvP prog w A env b (.Call (.Attribute o "rfind" apos) [e] [] pos) (IsI i) :=
  ev_method back_P ho (T := "bytes") (id := "bytes.rfind") FB.plainAttrs_bytes FC.slot_rfind FC.type_rfind (fun v s _ hq => by obtain ⟨t, e⟩ := hq; exact ⟨by rw [e]; exact typeIs_bytes _ _ t, fun a e' => by rw [e] at e'; cases e'⟩) (args1 he hp) (fun ov vs s s₁ E _ _ hq7 hq8 => by
    obtain ⟨t, e⟩ := hq7; obtain ⟨u, e1, t', e2⟩ := hq8
    subst e; subst e1; subst e2
    exact w_rfind hi hz ⟨keeps_toks s₁ _, _, rfl⟩) hbase (by rfl) hline
theorem ev_encode {o e : Expr} {apos pos : Pos} {l : List Nat} (ho : EvP prog w A env b o (IsS (ofL l))) (he : EvP prog w A env b e (IsS "ascii")) (h : ∀ c ∈ l, c < 128) (hz : l.length ≤ sizeLine)
    (hbase : attributeBase o "encode" env (eval o env) = eval o env := by rfl) (hline : (apos.endLine == pos.line) = true := by rfl) (hp : starEach [e] env = [(false, eval e env)] := by rfl) :
    EvP prog w A env b (.Call (.Attribute o "encode" apos) [e] [] pos) (IsY (toB l)) :=
  ev_method back_P ho (T := "str") (id := "str.encode") F.plainAttrs_str F.slot_str_encode F.type_str_encode (fun v s _ hq => by obtain ⟨t, e⟩ := hq; exact ⟨by rw [e]; exact typeIs_str _ _ t, fun a e' => by rw [e] at e'; cases e'⟩) (args1 he hp) (fun ov vs s s₁ E _ _ hq7 hq8 => by
    obtain ⟨t, e⟩ := hq7; obtain ⟨u, e1, t', e2⟩ := hq8
    subst e; subst e1; subst e2
    exact wpAny_call_entry F.slot_str_encode (typeIs_str s₁ _ t) F.entry_str_encode (w_encode h hz ⟨keeps_toks s₁ _, _, rfl⟩) (F.args_str_encode_2 _ _)) hbase (by rfl) hline
theorem ev_strAscii {x : Str} {pp pos : Pos} {e f g : Expr} {l : List Nat} (hn : EvP prog w A env b (.Name x pp) (· = .type "str")) (he : EvP prog w A env b e (IsY (toB l))) (hf : EvP prog w A env b f (IsS "ascii")) (hg : EvP prog w A env b g (IsS "strict")) (h : ∀ c ∈ l, c < 128) (hz : l.length ≤ sizeLine)
    (hp : starEach [e, f, g] env = (false, eval e env) :: starEach [f, g] env := by rfl) (hq : starEach [f, g] env = (false, eval f env) :: starEach [g] env := by rfl) (hr : starEach [g] env = [(false, eval g env)] := by rfl) : EvP prog w A env b (.Call (.Name x pp) [e, f, g] [] pos) (IsS (ofL l)) :=
  ev_call back_P hn (.type _) (args3 he hf hg hp hq hr) fun vs s s₁ E _ _ hq7 => by
    obtain ⟨u, v, y, e1, ⟨t, e2⟩, ⟨t2, e3⟩, t3, e4⟩ := hq7
    subst e1 e2 e3 e4
    exact call_str_ascii h hz fun t' k _ => ⟨keeps_toks s₁ _, _, rfl⟩
end
end

/- C6 -/
section
open PySem PySem.W PyProof.Rows PySem.Calls
section
variable {w : World} {A : Around} {s : Shared} {E : Value → Shared → Prop} {mean : ExcName → Option Value} {mg mb : Str → Option Value}
theorem ggi_chars (b : Nat) : ∀ N j, ∀ c ∈ ggiN N b j, c < 128 ∧ c ≠ 45
  | N, j => by
    intro c hc
    have bb := thrN_bounds j b
    have hd : ∀ n, n < 36 → dig n < 128 ∧ dig n ≠ 45 := fun n hn => by unfold dig; split <;> lia
    rw [ggiN] at hc
    split at hc
    · rw [List.mem_singleton.mp hc]; exact hd _ (by lia)
    · rcases List.mem_cons.mp hc with rfl | hc
      · refine hd _ ?_
        have := Nat.mod_lt (N - thrN j b) (show 36 - thrN j b > 0 by lia)
        lia
      · exact ggi_chars b _ _ c hc
termination_by N => N
decreasing_by
  have h : (N - thrN j b) / (36 - thrN j b) ≤ N - thrN j b := Nat.div_le_self _ _
  lia
theorem gi_chars (bl : Nat) : ∀ (ds : List Nat) (p b : Nat), ∀ c ∈ giN bl ds p b, c < 128 ∧ c ≠ 45
  | [], _, _, c, h => by simp [giN] at h
  | d :: ds, p, b, c, h => by
    rw [giN] at h
    rcases List.mem_append.mp h with h | h
    · exact ggi_chars b d 0 c h
    · exact gi_chars bl ds _ _ c h
/- the text that is decoded -/
noncomputable def punyT (hd row : List Nat) : List Nat := if hd = [] then row else hd ++ 45 :: row
theorem c_pd {n : Nat} (G : G0 w mean mg mb s) (R : Room A (n + 4)) {hd ds : List Nat} {tb te : Tok} (hok : insOK hd ds 128 0) (ha : ∀ c ∈ hd, c < 128) (hz : hd.length + ds.length < 9 * 10 ^ 6) (hds : ∀ d ∈ ds, d < 10 ^ 18) (hn : ds.length ≤ 1000) :
    wpAny (model PR w) A (call (.ref 97) [.str (ofL (punyT hd (giN hd.length ds 0 72))) tb, .str "strict" te]) (fun v s' => Keeps s s' ∧ IsS (ofL (insS hd ds 128 0)) v) (fun _ _ => False) s := by
  refine call_fn (T := fun v _ _ => IsS (ofL (insS hd ds 128 0)) v) f_pd G R (by kernel_rfl) (by rfl)
    (binds := [("text", .str (ofL (punyT hd (giN hd.length ds 0 72))) tb), ("errors", .str "strict" te)]) (BindsTo.of_eq rfl) (by decide) (by rfl) (by rfl) (by rfl) fun L h₁ tk ht S E' => ?_
  have hgl := giN_length hd.length ds 0 72 hds
  have hgc := gi_chars hd.length ds 0 72
  generalize hrow : giN hd.length ds 0 72 = row at S hgl hgc
  generalize hB : punyT hd row = B at S
  have hsz : sizeLine = 16777216 := by decide
  have hBl : B.length ≤ sizeLine := by
    rw [← hB]; unfold punyT; split
    · lia
    · simp; lia
  have hBc : ∀ c ∈ B, c < 128 := by
    intro c hc
    rw [← hB] at hc; unfold punyT at hc
    split at hc
    · exact (hgc c hc).1
    · rcases List.mem_append.mp hc with hc | hc
      · exact ha c hc
      · rcases List.mem_cons.mp hc with rfl | hc
        · decide
        · exact (hgc c hc).1
  refine t_ift S (c := true) (evt_of (ev_isi (c := true) (T := "str") (Pe := IsS (ofL B)) (gbuilt G S rfl rfl rfl) (by ktr_rel) (gbuilt G S rfl rfl rfl) fun v s E hq7 => by obtain ⟨t, e⟩ := hq7; rw [e]; exact isi_true FC.meta_str isSubtype_str_str (typeIs_str _ _ _) ⟨keeps_refl s, rfl⟩) truth_bool) (fun _ h tk₁ ht₁ S => ?_) (fun e => nomatch e)
  refine t_assign S (P := IsY (toB B)) (ev_encode (by ktr_rel) (by ktr_rel) hBc hBl) fun v h tk₂ ht₂ p S => s_nil ?_
  obtain ⟨t1, rfl⟩ := p
  dsimp only
  refine t_ift S (c := false) (evt_of (ev_isi (c := false) (T := "memoryview") (Pe := IsY (toB B)) (gbuilt G S rfl rfl rfl) (by ktr_rel) (gbuilt G S rfl rfl rfl) fun v s E hq7 => by obtain ⟨t, e⟩ := hq7; rw [e]; exact isi_mv ⟨keeps_toks s _, rfl⟩) truth_bool) (fun e => nomatch e) fun _ h tk₃ ht₃ S => ?_
  have hfind : (match Builtin.Bytes.rfind? (toB B) #[45] 0 B.length with | some k => (k : Int) | none => -1) = if hd = [] then -1 else (hd.length : Int) := by
    by_cases hne : hd = []
    · rw [if_pos hne]
      have hBr : B = row := by rw [← hB, punyT, if_pos hne]
      rw [rfind_none B hBc (by rw [hBr]; exact fun hm => (hgc 45 hm).2 rfl)]
    · rw [if_neg hne]
      have hBr : B = hd ++ 45 :: row := by rw [← hB, punyT, if_neg hne]
      rw [hBr] at hBc ⊢
      rw [rfind_at hd row hBc (fun hm => (hgc 45 hm).2 rfl)]
  generalize hi : (if hd = [] then (-1 : Int) else (hd.length : Int)) = i at hfind
  refine t_assign S (P := IsI i) (ev_rfind (l := B) (by ktr_rel) ev_bytes hfind hBl) fun v h tk₄ ht₄ p S => ?_
  obtain ⟨t2, rfl⟩ := p
  have hup : (fun c => if 97 ≤ c ∧ c ≤ 122 then c - 32 else c) = upC := by funext c; rfl
  have hrl : row.length ≤ sizeLine := by lia
  refine t_ifj (K := fun h _ => ∃ t3 t4, Sta s.heap (callEnv f_pd.val L 97).locals (callEnv f_pd.val L 97).cells [("extended", .bytes (toB (row.map upC)) t4), ("base", .str (ofL hd) t3), ("errors", .str "strict" te)] [] [] h) S (c := i == -1) (evt_eqI (by ktr_rel) (by ktr_rel)) (fun hc h tk₅ E4 ht₅ S => ?_) (fun hc h tk₅ E4 ht₅ S => ?_) ?_
  · have hne : hd = [] := by
      have hc := of_decide_eq_true hc
      rcases Classical.em (hd = []) with h | h
      · exact h
      · rw [if_neg h] at hi; lia
    have hBr : B = row := by rw [← hB, punyT, if_pos hne]
    refine t_assign S (P := IsS (ofL hd)) (by rw [hne]; exact ev_str) fun v h tk₆ ht₆ p S => ?_
    obtain ⟨t3, rfl⟩ := p
    refine t_assign S (P := IsY (toB (row.map upC))) (by rw [← hBr, ← hup]; exact ev_upper (by ktr_rel) hBc hBl) fun v h tk₇ ht₇ p S => s_nil ⟨_, _, rfl, rfl, by ktr_room, ?_⟩
    obtain ⟨t4, rfl⟩ := p
    exact ⟨t3, t4, sre S ⟨rfl, rfl, rfl, trivial⟩ trivial⟩
  · have hne : hd ≠ [] := by
      intro h
      rw [if_pos h] at hi
      rw [← hi] at hc
      exact absurd hc (by decide)
    rw [if_neg hne] at hi
    subst hi
    have hBr : B = hd ++ 45 :: row := by rw [← hB, punyT, if_neg hne]
    have htake : B.take hd.length = hd := by rw [hBr, List.take_left']; rfl
    have hdrop : B.drop (hd.length + 1) = row := by
      rw [hBr, ← List.drop_drop, List.drop_left']
      · rfl
      · rfl
    have hlen : hd.length + 1 ≤ B.length := by rw [hBr]; simp
    refine t_try fun E5 => ?_
    refine t_assign S (P := IsS (ofL hd)) (ev_strAscii (gbuilt G S rfl rfl rfl) (by rw [← htake]; exact ev_bsliceTo (x := B) (by ktr_rel) (by ktr_rel) (by lia) hBl) (by ktr_rel) (by ktr_rel) ha (by lia)) fun v h tk₆ ht₆ p S => s_nil ?_
    obtain ⟨t3, rfl⟩ := p
    dsimp only
    have hrc : ∀ c ∈ row, c < 128 := fun c hc => (hgc c hc).1
    refine t_assign S (P := IsY (toB (row.map upC))) (by rw [← hup]; refine ev_upper (l := row) ?_ hrc hrl; rw [← hdrop]; exact ev_bsliceFrom (x := B) (k := hd.length + 1) (by ktr_rel) (Ev.mono (T := fun v _ _ => IsI ((hd.length : Int) + 1) v) (by ktr_rel) fun v _ _ _ _ p => by rw [Int.natCast_add]; exact p) hlen hBl) fun v h tk₇ ht₇ p S => s_nil ⟨_, _, rfl, rfl, by ktr_room, ?_⟩
    obtain ⟨t4, rfl⟩ := p
    exact ⟨t3, t4, sre S ⟨rfl, rfl, rfl, trivial⟩ trivial⟩
  intro h tk₅ ht₅ hq; obtain ⟨t3, t4, S⟩ := hq
  refine t_try fun E5 => ?_
  refine t_return (T := fun v _ _ => IsS (ofL (insS hd ds 128 0)) v) ?_ fun v h tk _ st p => ⟨⟨_, _, rfl, stays_trans S.keep st⟩, p⟩
  refine ev_fn f_is back_P G S (by ktr_room) rfl (args3 (Pa := IsS (ofL hd)) (Pb := IsY (toB (row.map upC))) (Pc := IsS "strict") (by ktr_rel) (by ktr_rel) (by ktr_rel)) fun vs s s₁ E _ u' G hv => ?_
  obtain ⟨u, v, x, rfl, ⟨t, rfl⟩, ⟨t5, rfl⟩, t6, rfl⟩ := hv
  rw [← hrow]
  exact wpAny_mono (c_is G R.deeper hok (by lia) hds hn) (fun v s' q => q) fun _ _ e => e.elim
end
end

/- E8 -/
/- str.replace as a function of lists -/
section
open PySem PySem.W PyProof.Rows PySem.Calls
open Builtin Builtin.Str StrLaws

/- leftmost, not overlapping -/
noncomputable def replL (y z : List Nat) : List Nat → List Nat
  | [] => []
  | c :: r => if (y ≠ [] ∧ y <+: c :: r) then z ++ replL y z ((c :: r).drop y.length) else c :: replL y z r
termination_by l => l.length
decreasing_by
  · rename_i h
    have : y.length ≠ 0 := fun e => h.1 (List.eq_nil_of_length_eq_zero e)
    simp; lia
  · simp
theorem replL_hit {y z l : List Nat} (hy : y ≠ []) : replL y z (y ++ l) = z ++ replL y z l := by
  cases y with
  | nil => exact absurd rfl hy
  | cons c y =>
    rw [List.cons_append, replL, if_pos ⟨by simp, ⟨l, by simp⟩⟩]
    congr 2
    rw [← List.cons_append, List.drop_left']
    rfl
theorem replL_miss {y z : List Nat} {c : Nat} {r : List Nat} (h : ¬ y <+: c :: r) : replL y z (c :: r) = c :: replL y z r := by
  rw [replL, if_neg (fun q => h q.2)]
theorem replL_gap (y z l : List Nat) : ∀ (n a : Nat), a + n ≤ l.length → (∀ k, a ≤ k → k < a + n → ¬ y <+: l.drop k) → replL y z (l.drop a) = (l.drop a).take n ++ replL y z (l.drop (a + n))
  | 0, a, _, _ => by simp
  | n + 1, a, hl, h => by
    have hlt : a < l.length := by lia
    rw [List.drop_eq_getElem_cons hlt, replL_miss (by rw [← List.drop_eq_getElem_cons hlt]; exact h a (Nat.le_refl _) (by lia)), replL_gap y z l n (a + 1) (by lia) (fun k h1 h2 => h k (by lia) (by lia))]
    rw [show a + 1 + n = a + (n + 1) by lia]
    rfl
theorem at_iff (x y : List Nat) (k : Nat) (hy : y ≠ []) : At (ofL x) (ofL y) (ofL x).length k ↔ y <+: x.drop k := by
  unfold At
  rw [subAt_eq, ofL_length, ofL_length]
  show (k + y.length ≤ x.length ∧ ((x.drop k).take y.length == y) = true) ↔ _
  constructor
  · intro hq; obtain ⟨_, h⟩ := hq
    have h := eq_of_beq h
    exact h ▸ List.take_prefix _ _
  · intro hq; obtain ⟨t, h⟩ := hq
    have hl := congrArg List.length h
    rw [List.length_append, List.length_drop] at hl
    have : y.length ≠ 0 := fun e => hy (List.eq_nil_of_length_eq_zero e)
    refine ⟨by lia, ?_⟩
    rw [← h]
    simp
theorem parts_repl (x y z : List Nat) (hy : y ≠ []) : ∀ (cuts : List Nat) (a f : Nat), a ≤ x.length → ChainG (ofL x) (ofL y) (ofL x).length a cuts f → (∀ k, f ≤ k → ¬ At (ofL x) (ofL y) (ofL x).length k) →
    (Str.join (ofL z) (partsFrom (ofL x) (ofL y).length a cuts)).cps.toList = replL y z (x.drop a)
  | [], a, f, ha, h, hn => by
    have e : f = a := h
    subst e
    show (strSub (ofL x) f (ofL x).length).cps.toList = _
    rw [strSub_toList, ofL_length]
    have := replL_gap y z x (x.length - f) f (by lia) (fun k h1 _ hp => hn k h1 ((at_iff x y k hy).mpr hp))
    rw [this, show f + (x.length - f) = x.length by lia, List.drop_length, replL, List.append_nil]
    rfl
  | c :: r, a, f, ha, h, hn => by
    obtain ⟨h1, h2, h3, h4⟩ := h
    have hp := (at_iff x y c hy).mp h2
    obtain ⟨t, ht⟩ := hp
    have hcl : c + y.length ≤ x.length := by have := h2.1; rw [ofL_length, ofL_length] at this; exact this
    have ih := parts_repl x y z hy r (c + (ofL y).length) f (by rw [ofL_length]; exact hcl) h4 hn
    obtain ⟨p, q, hpq⟩ := partsFrom_ne (ofL x) (ofL y).length (c + (ofL y).length) r
    have hj : Str.join (ofL z) (partsFrom (ofL x) (ofL y).length a (c :: r)) = strSub (ofL x) a c ++ ofL z ++ Str.join (ofL z) (partsFrom (ofL x) (ofL y).length (c + (ofL y).length) r) := by
      show Str.join (ofL z) (strSub (ofL x) a c :: partsFrom (ofL x) (ofL y).length (c + (ofL y).length) r) = _
      rw [hpq]; rfl
    rw [hj]
    simp only [Str.cps_append, Array.toList_append]
    rw [ih, strSub_toList, replL_gap y z x (c - a) a (by lia) (fun k k1 k2 hp => h3 k k1 (by lia) ((at_iff x y k hy).mpr hp)), show a + (c - a) = c by lia, ← ht, replL_hit hy]
    have : x.drop (c + (ofL y).length) = t := by
      rw [ofL_length, ← List.drop_drop, ← ht, List.drop_left']
      rfl
    rw [this, List.append_assoc]
    rfl
theorem replace_eq (x y z : List Nat) (hy : y ≠ []) : Txt.replace (ofL x) (ofL y) (ofL z) = ofL (replL y z x) := by
  have hyl : 1 ≤ (ofL y).length := by
    rw [ofL_length]
    exact Nat.pos_of_ne_zero fun e => hy (List.eq_nil_of_length_eq_zero e)
  obtain ⟨f, hG, hn⟩ := occ_tight (ofL x) (ofL y) hyl
  have key := parts_repl x y z hy _ 0 f (Nat.zero_le _) hG hn
  rw [List.drop_zero] at key
  apply Str.ext'
  apply Array.toList_inj.mp
  show _ = replL y z x
  rw [← key]
  unfold Txt.replace
  rw [show ((ofL y).length == 0) = false from by simp; lia, Bool.false_and, Bool.or_false]
  cases he : (occurrences (ofL x) (ofL y) 0 (ofL x).length ((ofL x).length + 1)).isEmpty
  · rw [if_neg Bool.false_ne_true, glued_eq_join, partsBetween_eq]
  · rw [if_pos rfl, List.isEmpty_iff.mp he]
    show _ = (strSub (ofL x) 0 (ofL x).length).cps.toList
    rw [strSub_toList, ofL_length]
    simp [ofL]
end

/- E9 -/
/- str.replace: the calls -/
section
open PySem PySem.W PyProof.Rows PySem.Calls
open Builtin Builtin.Str StrLaws
/- each c becomes z -/
noncomputable def rep (c : Nat) (z : List Nat) (x : List Nat) : List Nat := x.flatMap fun d => if d = c then z else [d]
theorem rep_nil (c : Nat) (z : List Nat) : rep c z [] = [] := rfl
theorem rep_cons (c : Nat) (z : List Nat) (d : Nat) (x : List Nat) : rep c z (d :: x) = (if d = c then z else [d]) ++ rep c z x := by simp [rep]
theorem rep_app (c : Nat) (z a b : List Nat) : rep c z (a ++ b) = rep c z a ++ rep c z b := by simp [rep]
theorem replL_one (c : Nat) (z : List Nat) : ∀ x, replL [c] z x = rep c z x
  | [] => by rw [replL, rep_nil]
  | d :: x => by
    rw [rep_cons, ← replL_one c z x]
    by_cases h : d = c
    · subst h
      rw [if_pos rfl]
      exact replL_hit (y := [d]) (by simp)
    · rw [if_neg h, replL_miss]
      · rfl
      · intro hq; obtain ⟨t, e⟩ := hq
        simp at e
        exact h e.1.symm
theorem gap_count (c : Nat) (l : List Nat) : ∀ (n a : Nat), a + n ≤ l.length → (∀ k, a ≤ k → k < a + n → ¬ [c] <+: l.drop k) → (l.drop a).count c = (l.drop (a + n)).count c
  | 0, a, _, _ => rfl
  | n + 1, a, hl, h => by
    have hlt : a < l.length := by lia
    have h0 := h a (Nat.le_refl _) (by lia)
    rw [List.drop_eq_getElem_cons hlt] at h0 ⊢
    have hne : l[a] ≠ c := fun e => h0 ⟨l.drop (a + 1), by rw [e]; rfl⟩
    rw [List.count_cons_of_ne hne, gap_count c l n (a + 1) (by lia) (fun k h1 h2 => h k (by lia) (by lia)), show a + 1 + n = a + (n + 1) by lia]
theorem cuts_count (x : List Nat) (c : Nat) : ∀ (cuts : List Nat) (a f : Nat), a ≤ x.length → ChainG (ofL x) (ofL [c]) (ofL x).length a cuts f → (∀ k, f ≤ k → ¬ At (ofL x) (ofL [c]) (ofL x).length k) → cuts.length = (x.drop a).count c
  | [], a, f, ha, h, hn => by
    have e : f = a := h
    subst e
    rw [gap_count c x (x.length - f) f (by lia) (fun k h1 _ hp => hn k h1 ((at_iff x [c] k (by simp)).mpr hp)), show f + (x.length - f) = x.length by lia, List.drop_length]
    rfl
  | d :: r, a, f, ha, h, hn => by
    obtain ⟨h1, h2, h3, h4⟩ := h
    obtain ⟨t, ht⟩ := (at_iff x [c] d (by simp)).mp h2
    have hcl : d + 1 ≤ x.length := by have := h2.1; rw [ofL_length, ofL_length] at this; exact this
    have ih := cuts_count x c r (d + 1) f hcl h4 hn
    rw [List.length_cons, ih, gap_count c x (d - a) a (by lia) (fun k k1 k2 hp => h3 k k1 (by lia) ((at_iff x [c] k (by simp)).mpr hp)), show a + (d - a) = d by lia, ← ht]
    have : x.drop (d + 1) = t := by
      rw [← List.drop_drop, ← ht]; rfl
    rw [this]
    show _ = (c :: t).count c
    rw [List.count_cons_self]
theorem occ_count (x : List Nat) (c : Nat) : (occurrences (ofL x) (ofL [c]) 0 (ofL x).length ((ofL x).length + 1)).length = x.count c := by
  obtain ⟨f, hG, hn⟩ := occ_tight (ofL x) (ofL [c]) (Nat.le_refl 1)
  have := cuts_count x c _ 0 f (Nat.zero_le _) hG hn
  rwa [List.drop_zero] at this
section
variable {prog : Program} {w : World} {A : Around} {E : Value → Shared → Prop} {s : Shared}
theorem replace_call {x y z : List Nat} {t u v : Tok} {Q : Value → Shared → Prop} (hy : y ≠ []) (hu : u ≠ 0) (hv : v ≠ 0) (huv : u ≠ v) (hl : x.length + (occurrences (ofL x) (ofL y) 0 (ofL x).length ((ofL x).length + 1)).length * z.length ≤ sizeLine)
    (hnb : NoneBooked s.heap) (hr : (replL y z x).length ≤ sizeLine) (hq : ∀ t' k, Q (.str (ofL (replL y z x)) t') { s with toks := k }) :
    wpAny (model prog w) A (call (.builtin "str.replace") [.str (ofL x) t, .str (ofL y) u, .str (ofL z) v]) Q E s := by
  have htl : tooLong ((ofL x).length + (occurrences (ofL x) (ofL y) 0 (ofL x).length ((ofL x).length + 1)).length * (ofL z).length) = false := by
    unfold tooLong
    rw [ofL_length, ofL_length] at *
    exact decide_eq_false (by lia)
  refine call_givesAt F.slot_str_replace (typeIs_str _ _ _) F.entry_str_replace (F.args_str_replace_3 _ _ _)
    (gives_str_replace2 (ofL x) (ofL y) (ofL z) t u v fun _ => ⟨by simp [hu, hv], by simp [huv], htl⟩) hnb ?_
  have hq' := hq
  have hr' : (ofL (replL y z x)).length ≤ sizeLine := by rw [ofL_length]; exact hr
  rw [← replace_eq x y z hy] at hq' hr'
  unfold Txt.replace at hq' hr'
  cases hc : ((occurrences (ofL x) (ofL y) 0 (ofL x).length ((ofL x).length + 1)).isEmpty || ((ofL y).length == 0 && (ofL z).length == 0))
  · rw [hc] at hq' hr'
    simp only [Bool.false_eq_true, if_false] at hq' hr' ⊢
    cases hyz : (ofL y == ofL z)
    · simp only [Bool.false_eq_true, if_false]
      exact ⟨hr', hq' _ _⟩
    · simp only [if_true]
      have e : ofL y = ofL z := eq_of_beq hyz
      rw [← e, StrLaws.glued_between_self] at hq' hr' ⊢
      dsimp only [Made.post]
      exact ⟨hq' t s.toks, hr', hq' _ _⟩
  · rw [hc] at hq'
    simp only [if_true] at hq' ⊢
    exact hq' t s.toks
theorem rep_length (c : Nat) (z : List Nat) : ∀ x, (rep c z x).length + x.count c = x.length + x.count c * z.length
  | [] => by simp [rep_nil]
  | d :: x => by
    rw [rep_cons, List.length_append]
    have ih := rep_length c z x
    by_cases h : d = c
    · subst h
      rw [if_pos rfl, List.count_cons_self, List.length_cons, Nat.add_mul]
      lia
    · rw [if_neg h, List.count_cons_of_ne h]
      simp only [List.length_cons, List.length_nil]
      lia
/- one sign for a text -/
theorem replace_call1 {x z : List Nat} {c : Nat} {t u v : Tok} {Q : Value → Shared → Prop} (hu : u ≠ 0) (hv : v ≠ 0) (huv : u ≠ v) (hl : x.length + x.count c * z.length ≤ sizeLine) (hnb : NoneBooked s.heap) (hq : ∀ t' k, Q (.str (ofL (rep c z x)) t') { s with toks := k }) :
    wpAny (model prog w) A (call (.builtin "str.replace") [.str (ofL x) t, .str (ofL [c]) u, .str (ofL z) v]) Q E s := by
  rw [← replL_one] at hq
  refine replace_call (by simp) hu hv huv (by rw [occ_count]; exact hl) hnb ?_ hq
  rw [replL_one]
  have := rep_length c z x
  lia
end
theorem noneBooked {w : World} {mean : ExcName → Option Value} {mg mb : Str → Option Value} {s : Shared} (G : G0 w mean mg mb s) : NoneBooked s.heap := by
  obtain ⟨mc, hn, _⟩ := G.T.nolimit
  refine ⟨mc, hn, ?_⟩
  have e : nsIn (KK w) cStatics sharingNotToldKey = some none := by rfl
  obtain ⟨o, es, ep, ho, hd, _, hf⟩ := hn
  unfold nsIn at e
  split at e
  · rename_i c d es' n' sl q
    have := G.X _ _ q
    rw [ho] at this; cases this
    cases hd
    split at e
    · cases e
    · rename_i he
      rw [← hf]
      unfold nsFind findBy
      rw [← Array.find?_toList, he]
      rfl
  · cases e
section
variable {prog : Program} {w : World} {A : Around} {env : Env} {b : Shared}
/- o.replace(c, z): both told with their tokens -/
theorem ev_replaceF {o e f : Expr} {apos pos : Pos} {x : List Nat} {c : Nat} {z : List Nat} (ho : EvP prog w A env b o (IsS (ofL x))) (he : Ev prog w A env b e (IsF (ofL [c]))) (hf : Ev prog w A env b f (IsF (ofL z))) (ht : 1 ≤ b.toks) (hnb : NoneBooked b.heap) (hl : x.length + x.count c * z.length ≤ sizeLine)
    (hbase : attributeBase o "replace" env (eval o env) = eval o env := by rfl) (hline : (apos.endLine == pos.line) = true := by rfl) (hp : starEach [e, f] env = (false, eval e env) :: starEach [f] env := by rfl) (hq : starEach [f] env = [(false, eval f env)] := by rfl) :
    EvP prog w A env b (.Call (.Attribute o "replace" apos) [e, f] [] pos) (IsS (ofL (rep c z x))) :=
  ev_method back_P ho (T := "str") (id := "str.replace") F.plainAttrs_str F.slot_str_replace F.type_str_replace (fun v s _ hq => by obtain ⟨t, e⟩ := hq; exact ⟨by rw [e]; exact typeIs_str _ _ t, fun a e' => by rw [e] at e'; cases e'⟩)
    (args_consT he (args_consT hf args0 hq) hp) (fun ov vs s s₁ E up up₁ hq7 hv => by
      obtain ⟨t, e⟩ := hq7
      obtain ⟨v1, r, s2, rfl, k1, k2, ⟨t1, rfl, a1, a2⟩, v2, r2, s3, rfl, k3, k4, ⟨t2, rfl, b1, b2⟩, rfl⟩ := hv
      subst e
      have h1 := up.tk
      have h2 := k1.t
      have h3 := k3.t
      have n1 : t1 ≠ 0 := Nat.ne_of_gt (Nat.le_trans ht (Nat.le_trans h1 a1))
      have n2 : t2 ≠ 0 := Nat.ne_of_gt (Nat.le_trans ht (Nat.le_trans h1 (Nat.le_trans h2 b1)))
      have n3 : t1 ≠ t2 := Nat.ne_of_lt (Nat.lt_of_lt_of_le a2 b1)
      refine replace_call1 n1 n2 n3 hl ?_ fun t' k => ⟨keeps_toks s₁ _, _, rfl⟩
      obtain ⟨mc, hn, h⟩ := hnb
      exact ⟨mc, hn.keeps (up.trans up₁).st, h⟩) hbase (by rfl) hline
/- a text that has its token -/
theorem ev_replaceV {o e f : Expr} {apos pos : Pos} {x : List Nat} {c : Nat} {z : List Nat} {u v : Tok} (ho : EvP prog w A env b o (IsS (ofL x))) (he : EvP prog w A env b e (· = .str (ofL [c]) u)) (hf : EvP prog w A env b f (· = .str (ofL z) v)) (hu : u ≠ 0) (hv : v ≠ 0) (huv : u ≠ v) (hnb : NoneBooked b.heap) (hl : x.length + x.count c * z.length ≤ sizeLine)
    (hbase : attributeBase o "replace" env (eval o env) = eval o env := by rfl) (hline : (apos.endLine == pos.line) = true := by rfl) (hp : starEach [e, f] env = (false, eval e env) :: starEach [f] env := by rfl) (hq : starEach [f] env = [(false, eval f env)] := by rfl) :
    EvP prog w A env b (.Call (.Attribute o "replace" apos) [e, f] [] pos) (IsS (ofL (rep c z x))) :=
  ev_method back_P ho (T := "str") (id := "str.replace") F.plainAttrs_str F.slot_str_replace F.type_str_replace (fun v s _ hq => by obtain ⟨t, e⟩ := hq; exact ⟨by rw [e]; exact typeIs_str _ _ t, fun a e' => by rw [e] at e'; cases e'⟩)
    (args2 he hf hp hq) (fun ov vs s s₁ E up up₁ hq7 hq8 => by
      obtain ⟨t, e⟩ := hq7; obtain ⟨v1, v2, e1, e2, e3⟩ := hq8
      subst e; subst e1; subst e2; subst e3
      refine replace_call1 hu hv huv hl ?_ fun t' k => ⟨keeps_toks s₁ _, _, rfl⟩
      obtain ⟨mc, hn, h⟩ := hnb
      exact ⟨mc, hn.keeps (up.trans up₁).st, h⟩) hbase (by rfl) hline
/- o.replace(y, z) for a longer y and a z no longer than it -/
theorem ev_replaceW {o e f : Expr} {apos pos : Pos} {x y z : List Nat} (ho : EvP prog w A env b o (IsS (ofL x))) (ha : ArgsTo prog w A env b [e, f] (fun vs s s' => ∃ u v, vs = [.str (ofL y) u, .str (ofL z) v] ∧ u ≠ 0 ∧ v ≠ 0 ∧ u ≠ v)) (hy : y ≠ []) (hnb : NoneBooked b.heap) (hl : x.length + (x.length + 1) * z.length ≤ sizeLine) (hr : (replL y z x).length ≤ sizeLine)
    (hbase : attributeBase o "replace" env (eval o env) = eval o env := by rfl) (hline : (apos.endLine == pos.line) = true := by rfl) :
    EvP prog w A env b (.Call (.Attribute o "replace" apos) [e, f] [] pos) (IsS (ofL (replL y z x))) :=
  ev_method back_P ho (T := "str") (id := "str.replace") F.plainAttrs_str F.slot_str_replace F.type_str_replace (fun v s _ hq => by obtain ⟨t, e⟩ := hq; exact ⟨by rw [e]; exact typeIs_str _ _ t, fun a e' => by rw [e] at e'; cases e'⟩)
    ha (fun ov vs s s₁ E up up₁ hq7 hq8 => by
      obtain ⟨t, e⟩ := hq7; obtain ⟨u, v, e1, hu, hv, huv⟩ := hq8
      subst e; subst e1
      refine replace_call hy hu hv huv ?_ ?_ hr fun t' k => ⟨keeps_toks s₁ _, _, rfl⟩
      · have h1 := StrLaws.occ_length_le (ofL x) (ofL y) 0 (ofL x).length ((ofL x).length + 1)
        have h2 := Nat.mul_le_mul_right z.length h1
        rw [ofL_length] at h2 ⊢
        lia
      · obtain ⟨mc, hn, h⟩ := hnb
        exact ⟨mc, hn.keeps (up.trans up₁).st, h⟩) hbase (by rfl) hline
end
end

/- F1 -/
/- dicts whose keys and values are texts, told with their tokens -/
section
open PySem PySem.W PyProof.Rows PySem.Calls
/- an entry: the key, its token; the value, its token -/
structure Ent where
  k : List Nat
  t : Tok
  z : List Nat
  u : Tok
noncomputable def Ent.key (e : Ent) : Value := .str (ofL e.k) e.t
noncomputable def Ent.val (e : Ent) : Value := .str (ofL e.z) e.u
noncomputable def toE (w : World) (e : Ent) : DictEntry := ⟨hashStr w (ofL e.k), e.key, e.val⟩
noncomputable def DO (w : World) (l : List Ent) (ep : Nat) : Obj := { cls := .type "dict", data := .dict (l.map (toE w)).toArray ep }
noncomputable def keysOf (l : List Ent) : List (List Nat) := l.map (·.k)
/- an entry more, or another value -/
noncomputable def putE (l : List Ent) (n : Ent) : List Ent := if n.k ∈ keysOf l then l.map (fun e => if e.k = n.k then { e with z := n.z, u := n.u } else e) else l ++ [n]
theorem keys_putE (l : List Ent) (n : Ent) (h : (keysOf l).Nodup) : (keysOf (putE l n)).Nodup := by
  unfold putE
  split
  · have : keysOf (l.map (fun e => if e.k = n.k then { e with z := n.z, u := n.u } else e)) = keysOf l := by
      unfold keysOf
      rw [List.map_map]
      refine List.map_congr_left fun e _ => ?_
      show (if e.k = n.k then ({ e with z := n.z, u := n.u } : Ent) else e).k = e.k
      split <;> rfl
    rw [this]; exact h
  · rename_i hn
    unfold keysOf at hn ⊢
    rw [List.map_append, List.nodup_append]
    refine ⟨h, by simp, fun a ha b hb e => ?_⟩
    simp at hb
    subst hb
    exact hn (e ▸ ha)
noncomputable def pairOf (e : Ent) : Str × Value := (ofL e.k, e.val)
section
variable {prog : Program} {w : World}
theorem keysOf_DO (l : List Ent) : KeysOf (PySem.strKind prog w) (l.map (toE w)).toArray := by
  intro e he
  simp at he
  obtain ⟨x, _, rfl⟩ := he
  exact ⟨ofL x.k, by simp [PySem.strKind, Value.isStrOf, toE, Ent.key], rfl⟩
theorem pairs_DO : ∀ (l : List Ent), Pairs (PySem.strKind prog w) (l.map (toE w)) (l.map pairOf)
  | [] => Pairs.nil
  | e :: l => Pairs.cons (by simp [PySem.strKind, Value.isStrOf, toE, Ent.key, pairOf]) rfl (pairs_DO l)
theorem nodup_pairs {l : List Ent} (hn : (keysOf l).Nodup) : ((l.map pairOf).map (·.1)).Nodup := by
  rw [List.map_map]
  unfold keysOf at hn
  have e : l.map ((·.1) ∘ pairOf) = (l.map (·.k)).map ofL := by rw [List.map_map]; rfl
  rw [e]
  exact List.Pairwise.map ofL (fun a b hab e => hab (ofL_inj e)) hn
theorem dictAt_DO {h : Heap} {d : Addr} {l : List Ent} {ep : Nat} (e : h.get? d = some (DO w l ep)) (hn : (keysOf l).Nodup) : h.DictAt (PySem.strKind prog w) d (l.map pairOf) ep :=
  ⟨_, _, e, ⟨rfl, rfl, rfl⟩, rfl, keysOf_DO l, by simpa using pairs_DO l, nodup_pairs hn⟩
theorem dictOf_DO {h : Heap} {d : Addr} {l : List Ent} {ep : Nat} (e : h.get? d = some (DO w l ep)) (hn : (keysOf l).Nodup) : h.DictOf (PySem.strKind prog w) d (l.map pairOf) :=
  ⟨_, _, ep, e, ⟨rfl, rfl, rfl⟩, rfl, keysOf_DO l, by simpa using pairs_DO l, nodup_pairs hn⟩
end
theorem is_toE (w : World) (k : List Nat) (e : Ent) : Value.isStrOf (ofL k) (toE w e).key = decide (e.k = k) := by
  show (ofL e.k == ofL k) = _
  by_cases h : e.k = k
  · rw [h]; simp
  · rw [decide_eq_false h]
    exact beq_eq_false_iff_ne.mpr fun e => h (ofL_inj e)
theorem find_toE (w : World) (k : List Nat) : ∀ l : List Ent, ((l.map (toE w)).findIdx? fun e => Value.isStrOf (ofL k) e.key) = l.findIdx? fun e => decide (e.k = k)
  | [] => rfl
  | e :: l => by
    rw [List.map_cons, List.findIdx?_cons, List.findIdx?_cons, is_toE, find_toE w k l]
theorem modify_toE (w : World) (n : Ent) : ∀ (l : List Ent) (i : Nat), (keysOf l).Nodup → (l.findIdx? fun e => decide (e.k = n.k)) = some i →
    (l.map (toE w)).modify i (fun e => { e with val := n.val }) = (l.map fun e => if e.k = n.k then { e with z := n.z, u := n.u } else e).map (toE w)
  | [], i, _, h => by simp at h
  | e :: l, i, hn, h => by
    rw [List.findIdx?_cons] at h
    unfold keysOf at hn
    rw [List.map_cons, List.nodup_cons] at hn
    by_cases hk : e.k = n.k
    · rw [decide_eq_true hk] at h
      simp only [if_true, Option.some.injEq] at h
      subst h
      have : (l.map fun e => if e.k = n.k then ({ e with z := n.z, u := n.u } : Ent) else e) = l := by
        conv => rhs; rw [← List.map_id l]
        refine List.map_congr_left fun x hx => ?_
        rw [if_neg]; · rfl
        exact fun q => hn.1 (List.mem_map.mpr ⟨x, hx, q.trans hk.symm⟩)
      rw [List.map_cons, List.map_cons, if_pos hk, this]
      rfl
    · rw [decide_eq_false hk] at h
      simp only [Bool.false_eq_true, if_false, Option.map_eq_some_iff] at h
      obtain ⟨j, hj, rfl⟩ := h
      rw [List.map_cons, List.map_cons, if_neg hk, List.map_cons]
      exact congrArg _ (modify_toE w n l j hn.2 hj)
theorem find_some_mem {l : List Ent} {k : List Nat} {i : Nat} (h : (l.findIdx? fun e => decide (e.k = k)) = some i) : k ∈ keysOf l := by
  obtain ⟨hlt, hp, _⟩ := List.findIdx?_eq_some_iff_getElem.mp h
  exact List.mem_map.mpr ⟨l[i], List.getElem_mem hlt, of_decide_eq_true hp⟩
theorem find_none_mem {l : List Ent} {k : List Nat} (h : (l.findIdx? fun e => decide (e.k = k)) = none) : k ∉ keysOf l := by
  intro hm
  obtain ⟨e, he, rfl⟩ := List.mem_map.mp hm
  have := List.findIdx?_eq_none_iff.mp h e he
  simp at this
section
variable {prog : Program} {w : World} {A : Around} {E : Value → Shared → Prop} {s : Shared}
theorem dictFind_DO {d : Addr} {l : List Ent} {ep : Nat} {n : Ent} {Q : Option Nat → Shared → Prop} (ho : s.heap.get? d = some (DO w l ep)) (h : Q (l.findIdx? fun e => decide (e.k = n.k)) s) :
    wpAny (model prog w) A (dictFind d n.key (hashStr w (ofL n.k))) Q E s := by
  refine wpAny_dictFind_of (knd := PySem.strKind prog w) (k := ofL n.k) (by simp [PySem.strKind, Value.isStrOf, Ent.key]) ho rfl (keysOf_DO l) ?_
  have e : ((l.map (toE w)).toArray.findIdx? fun e => (PySem.strKind prog w).is (ofL n.k) e.key) = l.findIdx? fun e => decide (e.k = n.k) := by
    rw [← find_toE w n.k l]; simp [PySem.strKind]
  rw [e]; exact h
theorem store_DO {d : Addr} {l : List Ent} {ep i : Nat} {n : Ent} {part : Option Value} {Q : Unit → Shared → Prop} (ho : s.heap.get? d = some (DO w l ep)) (hn : (keysOf l).Nodup) (hi : (l.findIdx? fun e => decide (e.k = n.k)) = some i)
    (hQ : ∀ h', h'.get? d = some (DO w (putE l n) ep) → Heap.SameBut d s.heap h' → Q () { s with heap := h' }) :
    wpAny (model prog w) A (updateDict d (·.modify i fun e => { e with val := n.val }) part) Q E s := by
  refine wpAny_updateDict ho rfl (hQ _ ?_ (Heap.SameBut.update ..))
  rw [Heap.get?_update_self _ ho (Obj.isFreed_of_dict (Obj.data_mapDict (o := DO w l ep) rfl _))]
  unfold putE
  rw [if_pos (find_some_mem hi)]
  have := modify_toE w n l i hn hi
  show some ({ cls := .type "dict", data := .dict ((l.map (toE w)).toArray.modify i fun e => { e with val := n.val }) ep } : Obj) = _
  unfold DO
  rw [← this]
  simp
theorem push_DO {d : Addr} {l : List Ent} {ep : Nat} {n : Ent} {part : Option Value} {Q : Unit → Shared → Prop} (ho : s.heap.get? d = some (DO w l ep)) (hi : (l.findIdx? fun e => decide (e.k = n.k)) = none) (hz : l.length ≤ sizeLine)
    (hQ : ∀ h', h'.get? d = some (DO w (putE l n) (ep + 1)) → Heap.SameBut d s.heap h' → Q () { s with heap := h' }) :
    wpAny (model prog w) A (updateDictKeys d (·.push ⟨hashStr w (ofL n.k), n.key, n.val⟩) part) Q E s := by
  refine wpAny_updateDictKeys (hz := by simpa using hz) ho rfl (hQ _ ?_ (Heap.SameBut.update ..))
  rw [Heap.get?_update_self _ ho (Obj.isFreed_of_dict (Obj.data_mapDictKeys (o := DO w l ep) rfl _))]
  unfold putE
  rw [if_neg (find_none_mem hi)]
  show some ({ cls := .type "dict", data := .dict ((l.map (toE w)).toArray.push ⟨hashStr w (ofL n.k), n.key, n.val⟩) (ep + 1) } : Obj) = _
  unfold DO
  simp [toE]
theorem dictSetHashed_DO {d : Addr} {l : List Ent} {ep : Nat} {n : Ent} {Q : Unit → Shared → Prop} (ho : s.heap.get? d = some (DO w l ep)) (hn : (keysOf l).Nodup) (hz : l.length ≤ sizeLine)
    (hQ : ∀ h' ep', h'.get? d = some (DO w (putE l n) ep') → Heap.SameBut d s.heap h' → Q () { s with heap := h' }) :
    wpAny (model prog w) A (dictSetHashed d n.key (hashStr w (ofL n.k)) n.val) Q E s := by
  unfold dictSetHashed
  try with_reducible refine wpAny_holding ?_
  refine wpAny_bind (dictFind_DO ho ?_)
  cases hi : l.findIdx? fun e => decide (e.k = n.k) with
  | some i => exact wpAny_bind (wpAny_rule (wpAny_bind (store_DO ho hn hi fun h' a b => wpAny_point (hQ h' _ a b))))
  | none => exact wpAny_bind (wpAny_rule (push_DO ho hi hz fun h' a b => hQ h' _ a b))
theorem dictPut_DO {d : Addr} {l : List Ent} {ep : Nat} {n : Ent} {Q : Unit → Shared → Prop} (ho : s.heap.get? d = some (DO w l ep)) (hn : (keysOf l).Nodup) (hz : l.length ≤ sizeLine)
    (hQ : ∀ h' ep', h'.get? d = some (DO w (putE l n) ep') → Heap.SameBut d s.heap h' → Q () { s with heap := h' }) :
    wpAny (model prog w) A (dictPut d (hashStr w (ofL n.k)) n.key n.val) Q E s := by
  unfold dictPut
  refine wpAny_bind (dictFind_DO ho ?_)
  cases hi : l.findIdx? fun e => decide (e.k = n.k) with
  | some i => exact store_DO ho hn hi fun h' a b => hQ h' _ a b
  | none => exact push_DO ho hi hz fun h' a b => hQ h' _ a b
theorem dictSet_DO {d : Addr} {l : List Ent} {ep : Nat} {n : Ent} {Q : Unit → Shared → Prop} (ho : s.heap.get? d = some (DO w l ep)) (hn : (keysOf l).Nodup) (hz : l.length ≤ sizeLine)
    (hQ : ∀ h' ep', h'.get? d = some (DO w (putE l n) ep') → Heap.SameBut d s.heap h' → Q () { s with heap := h', toks := s.toks + 1 }) :
    wpAny (model prog w) A (dictSet d n.key n.val) Q E s := by
  unfold dictSet
  try with_reducible refine wpAny_holding ?_
  refine wpAny_bind (wpAny_pyHash_str ?_)
  exact dictSetHashed_DO (s := { s with toks := s.toks + 1 }) ho hn hz fun h' ep' a b => hQ h' ep' a b
theorem setItem_DO {d : Addr} {l : List Ent} {ep : Nat} {n : Ent} {Q : Unit → Shared → Prop} (ho : s.heap.get? d = some (DO w l ep)) (hn : (keysOf l).Nodup) (hz : l.length ≤ sizeLine)
    (hQ : ∀ h' ep', h'.get? d = some (DO w (putE l n) ep') → Heap.SameBut d s.heap h' → Q () { s with heap := h', toks := s.toks + 1 }) :
    wpAny (model prog w) A (setItem (.ref d) n.key n.val) Q E s := by
  have hT : s.TypeIs (.ref d) "dict" := ⟨_, ho, rfl⟩
  unfold setItem
  try with_reducible refine wpAny_holding ?_
  refine wpAny_bind (wpAny_sequenceKey hT (by decide) ?_)
  refine wpAny_bind (wpAny_callSpecial?_slot (name := Str.ofString "__setitem__") hT slot_dict_setitem
    (wpAny_call_entry slot_dict_setitem hT entry_dict_setitem ?_ (args_dict_setitem _ _ _)))
  show wpAny _ _ (Builtin.Dict.notOrdered "__setitem__" ⟨[.ref d, n.key, n.val], []⟩ >>= _) _ _ s
  refine wpAny_bind (wpAny_notOrdered_dict hT ?_)
  show wpAny _ _ (dictSet d n.key n.val >>= _) _ _ s
  exact wpAny_bind (dictSet_DO ho hn hz fun h' ep' a b => wpAny_pure ⟨.none, rfl, wpAny_pure (hQ h' ep' a b)⟩)
end
end

/- F2 -/
/- dict displays of texts -/
section
open PySem PySem.W PyProof.Rows PySem.Calls
/- every entry's tokens are new, the key's ahead of the value's -/
noncomputable def Fr (lo hi : Nat) (l : List Ent) : Prop := ∀ e ∈ l, lo ≤ e.t ∧ e.t < e.u ∧ e.u < hi
noncomputable def wordsOf (l : List Ent) : List (List Nat × List Nat) := l.map fun e => (e.k, e.z)
theorem keys_words (l : List Ent) : keysOf l = (wordsOf l).map (·.1) := by
  unfold keysOf wordsOf
  rw [List.map_map]; rfl
noncomputable def mergeE (l more : List Ent) : List Ent := more.foldl putE l
theorem keys_mergeE : ∀ (more l : List Ent), (keysOf l).Nodup → (keysOf (mergeE l more)).Nodup
  | [], l, h => h
  | e :: more, l, h => keys_mergeE more _ (keys_putE l e h)
theorem length_putE (l : List Ent) (n : Ent) : (putE l n).length ≤ l.length + 1 := by
  unfold putE; split <;> simp
theorem length_mergeE : ∀ (more l : List Ent), (mergeE l more).length ≤ l.length + more.length
  | [], l => by simp [mergeE]
  | e :: more, l => by
    have h1 := length_mergeE more (putE l e)
    have h2 := length_putE l e
    show (mergeE (putE l e) more).length ≤ _
    rw [List.length_cons]
    lia
theorem mergeE_fresh : ∀ (more l : List Ent), (keysOf (l ++ more)).Nodup → mergeE l more = l ++ more
  | [], l, _ => by simp [mergeE]
  | e :: more, l, h => by
    have hn : e.k ∉ keysOf l := by
      intro hm
      unfold keysOf at h hm
      rw [List.map_append, List.map_cons, List.nodup_append] at h
      exact h.2.2 e.k hm e.k List.mem_cons_self rfl
    have e1 : putE l e = l ++ [e] := by unfold putE; rw [if_neg hn]
    show mergeE (putE l e) more = _
    rw [e1, mergeE_fresh more (l ++ [e]) (by simpa using h)]
    simp
section
variable {prog : Program} {w : World} {A : Around} {E : Value → Shared → Prop}
theorem storeAll_DO {d : Addr} : ∀ (l acc : List Ent) (ep : Nat) (s : Shared) (Q : PUnit → Shared → Prop), s.heap.get? d = some (DO w acc ep) → (keysOf acc).Nodup → acc.length + l.length ≤ sizeLine →
    (∀ h' ep', h'.get? d = some (DO w (mergeE acc l) ep') → Heap.SameBut d s.heap h' → Q PUnit.unit { s with heap := h', toks := s.toks + l.length }) →
    wpAny (model prog w) A (forIn (l.map fun e => (e.key, e.val)) PUnit.unit fun (x : Value × Value) (_ : PUnit) => (do dictSet d x.1 x.2; pure (ForInStep.yield PUnit.unit) : Sem (ForInStep PUnit))) Q E s
  | [], acc, ep, s, Q, ho, _, _, hQ => by
    rw [List.map_nil, List.forIn_nil]
    exact wpAny_pure (hQ s.heap ep ho (Heap.SameBut.refl _ _))
  | e :: l, acc, ep, s, Q, ho, hn, hz, hQ => by
    rw [List.length_cons] at hz
    rw [List.map_cons, List.forIn_cons]
    refine wpAny_bind (wpAny_bind (dictSet_DO (n := e) ho hn (by lia) fun h₁ ep₁ ho₁ hs₁ => wpAny_pure ?_))
    refine storeAll_DO l (putE acc e) ep₁ _ Q ho₁ (keys_putE _ _ hn) (by have := length_putE acc e; lia) fun h' ep' ho' hs' => ?_
    have := hQ h' ep' ho' (hs₁.trans hs')
    simpa [Nat.add_assoc, Nat.add_comm 1] using this
/- pairs of constant texts -/
noncomputable def PairsTo (prog : Program) (w : World) (A : Around) (pairs : List (Sem Value × Sem Value)) (cs : List (List Nat × List Nat)) : Prop :=
  ∀ s E, wpAny (model prog w) A (evalPairs pairs) (fun vs s' => Kp s s' ∧ ∃ l, vs = l.map (fun e => (e.key, e.val)) ∧ wordsOf l = cs ∧ Fr s.toks s'.toks l) E s
theorem pairs_nil : PairsTo prog w A [] [] := fun s E => evalPairs_nil ⟨Kp.refl s, [], rfl, rfl, (fun _ h => nomatch h)⟩
theorem pairs_cons {env : Env} {ke ve : Expr} {pos : Pos} {k z : List Nat} {rest : List (Sem Value × Sem Value)} {cs : List (List Nat × List Nat)} (hk : ∀ b, Ev prog w A env b ke (IsF (ofL k))) (hv : ∀ b, Ev prog w A env b ve (IsF (ofL z)))
    (hr : PairsTo prog w A rest cs) : PairsTo prog w A ((eval ke env, do let x ← eval ve env; standAt pos; pure x) :: rest) ((k, z) :: cs) := by
  intro s E
  refine evalPairs_cons (wpAny_mono (hk s s E (Up.refl s)) (fun kv s₁ q1 => ?_) fun _ _ e => e)
  refine wpAny_bind (wpAny_mono (hv s₁ s₁ E (Up.refl s₁)) (fun vv s₂ q2 => wpAny_bind (wpAny_standAt (wpAny_pure ?_))) fun _ _ e => e)
  refine wpAny_mono (hr s₂ E) (fun vs s₃ q3 => ?_) fun _ _ e => e
  obtain ⟨k1, t1, rfl, a1, a2⟩ := q1
  obtain ⟨k2, t2, rfl, b1, b2⟩ := q2
  obtain ⟨k3, l, rfl, hw, hf⟩ := q3
  have u1 := k1.t
  have u2 := k2.t
  have u3 := k3.t
  refine ⟨k1.trans (k2.trans k3), ⟨k, t1, z, t2⟩ :: l, rfl, by rw [← hw]; rfl, fun e he => ?_⟩
  rcases List.mem_cons.mp he with rfl | he
  · exact ⟨a1, Nat.lt_of_lt_of_le a2 b1, Nat.lt_of_lt_of_le b2 u3⟩
  · obtain ⟨c1, c2, c3⟩ := hf e he
    exact ⟨Nat.le_trans u1 (Nat.le_trans u2 c1), c2, c3⟩
theorem subDict_DO {pairs : List (Sem Value × Sem Value)} {cs : List (List Nat × List Nat)} {s : Shared} {Q : Addr → Shared → Prop} (hp : PairsTo prog w A pairs cs) (hlen : pairs.length ≤ 15) (hcl : cs.length ≤ 15) (hn : (cs.map (·.1)).Nodup)
    (hQ : ∀ h' tk ep l, s.heap.StaysIn h' → s.toks ≤ tk → h'.get? s.heap.objs.size = some (DO w l ep) → wordsOf l = cs → Fr s.toks tk l → Q s.heap.objs.size { s with heap := h', toks := tk }) :
    wpAny (model prog w) A (subDict pairs) Q E s := by
  unfold subDict
  refine wpAny_bind (wpAny_alloc ?_)
  refine wpAny_bind (wpAny_holding ?_)
  rw [if_pos hlen]
  refine wpAny_bind (wpAny_mono (hp _ E) (fun vs s₁ q => ?_) fun _ _ e => e)
  obtain ⟨kp, l, rfl, hw, hf⟩ := q
  obtain ⟨h₁, tk₁, rfl, st, ht⟩ := kp.cases
  dsimp only at st ht hf
  have hl : l.length = cs.length := by rw [← hw]; simp [wordsOf]
  have ho : h₁.get? s.heap.objs.size = some (DO w [] 0) := st _ _ (Heap.get?_push_size _ rfl)
  refine wpAny_holding ?_
  refine wpAny_bind (storeAll_DO l [] 0 _ _ ho (by simp [keysOf]) (by rw [sizeLine_eq]; simp; lia) fun h' ep' ho' hs' => wpAny_pure (wpAny_pure ?_))
  have e1 : mergeE [] l = l := by
    have := mergeE_fresh l [] (by rw [List.nil_append, keys_words, hw]; exact hn)
    simpa using this
  rw [e1] at ho'
  refine hQ h' _ ep' l (fun b o e => ?_) (Nat.le_trans ht (Nat.le_add_right _ _)) ho' hw fun e he => ?_
  · exact (hs'.2 b (Nat.ne_of_lt (Heap.lt_size e))).trans (st _ _ (Heap.get?_push_of_some _ e))
  · obtain ⟨a, b, c⟩ := hf e he
    exact ⟨a, b, Nat.lt_of_lt_of_le c (Nat.le_add_right _ _)⟩
/- what a new dict is -/
noncomputable def NewDict (w : World) (cs : List (List Nat × List Nat)) (v : Value) (s s' : Shared) : Prop :=
  ∃ d ep l, v = .ref d ∧ s.heap.objs.size ≤ d ∧ NewIn s.heap s'.heap [(d, DO w l ep)] ∧ wordsOf l = cs ∧ Fr s.toks s'.toks l
theorem ev_dictC {env : Env} {b : Shared} {keys : List (Option Expr)} {values : List Expr} {pos : Pos} {cs : List (List Nat × List Nat)} {pairs : List (Sem Value × Sem Value)} (hp : PairsTo prog w A pairs cs)
    (hshape : (evalEachOpt keys env).zip ((evalEach values env).map fun v => do let x ← v; standAt pos; pure x) = pairs.map fun p => (some p.1, p.2)) (h0 : pairs ≠ []) (hlen : pairs.length ≤ 15) (hcl : cs.length ≤ 15) (hn : (cs.map (·.1)).Nodup) :
    Ev prog w A env b (.Dict keys values pos) (NewDict w cs) := by
  intro s E up
  rw [arm_eval_Dict, hshape, dictDisplay_pairs pairs h0 (by lia)]
  refine wpAny_bind (wpAny_standAt (wpAny_bind (subDict_DO hp hlen hcl hn fun h' tk ep l st ht ho hw hf => wpAny_pure ?_)))
  refine ⟨Kp.mk' st ht, _, ep, l, rfl, Nat.le_refl _, ⟨fun p hp => ?_, by simp⟩, hw, hf⟩
  rw [List.mem_singleton.mp hp]
  exact ⟨ho, get_none_of_size s.heap 0⟩
theorem ev_dict0 {env : Env} {b : Shared} {pos : Pos} : Ev prog w A env b (.Dict [] [] pos) (NewDict w []) := by
  intro s E up
  rw [arm_eval_Dict]
  refine wpAny_bind (wpAny_standAt ?_)
  show wpAny _ _ (newObj (.type "dict") (.dict #[])) _ _ _
  refine wpAny_newObj_type ?_
  exact ⟨⟨⟨_, _, rfl, stays_push _ _⟩, Nat.le_refl _⟩, _, 0, [], rfl, Nat.le_refl _, new_push, rfl, (fun _ h => nomatch h)⟩
/- the entries of one dict put into another -/
theorem mergeMapping_DO {d a : Addr} {l more : List Ent} {ep epa : Nat} {s : Shared} {Q : Unit → Shared → Prop} (hda : d ≠ a) (haS : (a == sysModules) = false) (ho : s.heap.get? d = some (DO w l ep)) (ha : s.heap.get? a = some (DO w more epa))
    (hn : (keysOf l).Nodup) (hz : l.length + more.length ≤ sizeLine)
    (hQ : ∀ h' ep', h'.get? d = some (DO w (mergeE l more) ep') → Heap.SameBut d s.heap h' → Q () { s with heap := h' }) :
    wpAny (model prog w) A (mergeMapping d (.ref a) false) Q E s := by
  have hT : s.TypeIs (.ref a) "dict" := ⟨_, ha, rfl⟩
  unfold mergeMapping
  refine wpAny_bind (wpAny_isInstance hT isSubtype_dict_dict ?_)
  dsimp only
  rw [if_pos rfl]
  refine wpAny_bind (wpAny_specialOf hT F.slot_dict_iter.lookup (wpAny_bind (wpAny_pure ?_)))
  rw [show ((some (Value.builtin "dict.__iter__") == some (Value.builtin "dict.__iter__")) = true) from by simp]
  dsimp only
  rw [if_neg (by rw [haS]; exact Bool.false_ne_true)]
  refine wpAny_bind (wpAny_dictEntries ho rfl ?_)
  have turn : ∀ i s', (∃ h' ep', s' = { s with heap := h' } ∧ i ≤ more.length ∧ h'.get? d = some (DO w (mergeE l (more.take i)) ep') ∧ Heap.SameBut d s.heap h') → (hi : i < more.length) →
      ∀ (Q' : Unit → Shared → Prop), (∀ h' ep', h'.get? d = some (DO w (mergeE l (more.take (i + 1))) ep') → Heap.SameBut d s.heap h' → Q' () { s with heap := h' }) →
      wpAny (model prog w) A (dictPut d (toE w more[i]).hash (toE w more[i]).key (toE w more[i]).val) Q' E s' := by
    intro i s' hq; obtain ⟨h', ep', rfl, hi', ho', hs'⟩ := hq; intro hi Q' hq
    have e1 : mergeE l (more.take (i + 1)) = putE (mergeE l (more.take i)) more[i] := by
      unfold mergeE
      rw [List.take_add_one, List.getElem?_eq_getElem hi, Option.toList_some, List.foldl_append]
      rfl
    refine dictPut_DO (n := more[i]) ho' (keys_mergeE _ _ hn) ?_ fun h'' ep'' ho'' hs'' => hq h'' ep'' (e1 ▸ ho'') (hs'.trans hs'')
    have := length_mergeE (more.take i) l
    have : (more.take i).length ≤ more.length := by rw [List.length_take]; lia
    lia
  split
  case' isTrue =>
    refine wpAny_bind (wpAny_dictEntries ha rfl (wpAny_bind (wpAny_of_eq (a := PUnit.unit) ?_ ?_)))
    case' refine_1 =>
      rw [← Array.forIn_toList]
      refine forIn_yield_id _ fun e he c => ?_
      simp at he
      obtain ⟨x, _, rfl⟩ := he
      rfl
  all_goals
    refine wpAny_bind (wpAny_dictEntries ha rfl (wpAny_bind (wpAny_dictEpoch ha rfl ?_)))
    have hsz : (more.map (toE w)).toArray.size = more.length := by simp
    rw [List.range_eq_range', hsz]
    refine wpAny_bind (wpAny_forIn_list _ (fun rest _ s' => ∃ h' i ep', s' = { s with heap := h' } ∧ rest = List.range' i (more.length - i) ∧ i ≤ more.length ∧ h'.get? d = some (DO w (mergeE l (more.take i)) ep') ∧ Heap.SameBut d s.heap h')
      _ ?_ ?_ _ _ ⟨s.heap, 0, ep, rfl, by simp, Nat.zero_le _, ho, Heap.SameBut.refl _ _⟩)
    · intro x rest b s' hq; obtain ⟨h', i, ep', rfl, hr, hi, ho', hs'⟩ := hq
      have hlt : i < more.length := by
        rcases Nat.lt_or_ge i more.length with h | h
        · exact h
        · rw [Nat.sub_eq_zero_of_le h] at hr; simp at hr
      obtain ⟨rfl, hrest⟩ : x = i ∧ rest = List.range' (i + 1) (more.length - (i + 1)) := by
        have e : more.length - i = (more.length - (i + 1)) + 1 := by lia
        rw [e, List.range'_succ] at hr
        injection hr with h1 h2
        exact ⟨h1, h2⟩
      have ha' : h'.get? a = some (DO w more epa) := (hs'.2 a (Ne.symm hda)).trans ha
      refine wpAny_bind (wpAny_dictEntries ha' rfl ?_)
      have he : (more.map (toE w)).toArray[x]? = some (toE w more[x]) := by simp [hlt]
      rw [he]
      dsimp only
      refine wpAny_bind (wpAny_holding ?_)
      rw [if_neg Bool.false_ne_true]
      refine turn x _ ⟨h', ep', rfl, hi, ho', hs'⟩ hlt _ fun h'' ep'' ho'' hs'' => ?_
      have ha'' : h''.get? a = some (DO w more epa) := (hs''.2 a (Ne.symm hda)).trans ha
      refine wpAny_bind (wpAny_dictEpoch ha'' rfl ?_)
      rw [if_neg (by simp)]
      exact wpAny_pure ⟨h'', x + 1, ep'', rfl, hrest, hlt, ho'', hs''⟩
    · intro b s' hq; obtain ⟨h', i, ep', rfl, hr, hi, ho', hs'⟩ := hq
      have hin : i = more.length := by
        rcases Nat.lt_or_ge i more.length with h | h
        · have e : more.length - i = (more.length - (i + 1)) + 1 := by lia
          rw [e, List.range'_succ] at hr; exact nomatch hr
        · exact Nat.le_antisymm hi h
      rw [hin, List.take_length] at ho'
      exact wpAny_pure (hQ h' ep' ho' hs')
end
end

/- F3 -/
/- the display that begins with another dict -/
section
open PySem PySem.W PyProof.Rows PySem.Calls
/- an object above the first two places -/
noncomputable def Big (h : Heap) : Prop := ∃ c o, 1 ≤ c ∧ h.get? c = some o
theorem Big.up {h h' : Heap} (x : Big h) (k : h.StaysIn h') : Big h' := let ⟨c, o, a, e⟩ := x; ⟨c, o, a, k _ _ e⟩
theorem Big.lt {h : Heap} (x : Big h) : 1 < h.objs.size := let ⟨c, o, a, e⟩ := x; Nat.lt_of_le_of_lt a (Heap.lt_size e)
theorem big_G {w : World} {mean : ExcName → Option Value} {mg mb : Str → Option Value} {s : Shared} (G : G0 w mean mg mb s) : Big s.heap := by
  obtain ⟨o, ho, _⟩ := fn_obj (f_T.2 w)
  exact ⟨55, o, by decide, G.X _ _ ho⟩
/- the new place is not that of the table of modules -/
theorem notSys {h : Heap} (x : Big h) {d : Addr} (hd : h.objs.size ≤ d) : (d == sysModules) = false :=
  beq_eq_false_iff_ne.mpr (Nat.ne_of_gt (Nat.lt_of_lt_of_le x.lt hd))
section
variable {prog : Program} {w : World} {A : Around} {E : Value → Shared → Prop}
theorem gatherM (f : (Option (Sem Value) × Sem Value) → (Option Addr × List (Sem Value × Sem Value)) → Sem (ForInStep (Option Addr × List (Sem Value × Sem Value)))) (mn : Option Addr)
    (hf : ∀ (p : Sem Value × Sem Value) (run : List (Sem Value × Sem Value)), run.length + 1 < 17 → f (some p.1, p.2) (mn, run) = pure (.yield (mn, run ++ [p]))) :
    ∀ (items run : List (Sem Value × Sem Value)), run.length + items.length < 17 → forIn (items.map fun p => (some p.1, p.2)) (mn, run) f = pure (mn, run ++ items)
  | [], run, _ => by simp
  | p :: rest, run, h => by
    rw [List.map_cons, List.forIn_cons, hf p run (by simp at h; lia), pure_bind]
    have := gatherM f mn hf rest (run ++ [p]) (by simp at h ⊢; lia)
    simpa using this
theorem ev_dictM {env : Env} {b : Shared} {m : Expr} {keys : List (Option Expr)} {values : List Expr} {pos : Pos} {cs : List (List Nat × List Nat)} {pairs : List (Sem Value × Sem Value)} {a : Addr} {more : List Ent} {epa : Nat}
    (hm : EvP prog w A env b m (· = .ref a)) (ha : b.heap.get? a = some (DO w more epa)) (haS : (a == sysModules) = false) (hb : Big b.heap) (hnm : (keysOf more).Nodup) (hz : more.length ≤ 100)
    (hp : PairsTo prog w A pairs cs)
    (hshape : (evalEachOpt keys env).zip ((evalEach values env).map fun v => do let x ← v; standAt pos; pure x) = (none, do let x ← eval m env; standAt pos; pure x) :: pairs.map fun p => (some p.1, p.2)) (h0 : pairs ≠ []) (hlen : pairs.length ≤ 15) (hcl : cs.length ≤ 15) (hn : (cs.map (·.1)).Nodup) :
    Ev prog w A env b (.Dict keys values pos) (fun v s s' => ∃ d ep l, v = .ref d ∧ s.heap.objs.size ≤ d ∧ NewIn s.heap s'.heap [(d, DO w (mergeE more l) ep)] ∧ wordsOf l = cs ∧ Fr s.toks s'.toks l) := by
  intro s E up
  rw [arm_eval_Dict, hshape]
  refine wpAny_bind (wpAny_standAt ?_)
  unfold dictDisplay
  dsimp only
  rw [List.forIn_cons]
  dsimp only
  simp only [List.isEmpty_nil, if_true]
  refine wpAny_bind (wpAny_bind (wpAny_bind (wpAny_pure ?_)))
  dsimp only
  refine wpAny_bind (wpAny_alloc ?_)
  have st₀ : s.heap.StaysIn (s.heap.push { cls := .type "dict", data := .dict #[] }) := stays_push _ _
  have hs1 : 1 < s.heap.objs.size := (hb.up up.st).lt
  refine wpAny_bind (wpAny_holding (wpAny_bind (wpAny_mono (hm _ _ (up.trans ⟨st₀, Nat.le_refl _⟩)) (fun mv s₁ q => wpAny_bind (wpAny_standAt (wpAny_pure ?_))) fun _ _ e => e)))
  obtain ⟨kp, rfl⟩ := q
  obtain ⟨h₁, tk₁, rfl, st₁, ht₁⟩ := kp.cases
  dsimp only at st₁ ht₁ ⊢
  have hd : h₁.get? s.heap.objs.size = some (DO w [] 0) := st₁ _ _ (Heap.get?_push_size _ rfl)
  have has : s.heap.get? a = some (DO w more epa) := up.st _ _ ha
  have ha₁ : h₁.get? a = some (DO w more epa) := st₁ _ _ (st₀ _ _ has)
  have hda : s.heap.objs.size ≠ a := Nat.ne_of_gt (Heap.lt_size has)
  refine wpAny_bind (wpAny_onRaise (wpAny_tryCatch (wpAny_onRaise (wpAny_holding (mergeMapping_DO (s := { s with heap := h₁, toks := tk₁ }) hda haS hd ha₁ (by simp [keysOf]) (by rw [sizeLine_eq]; simp; lia) fun h₂ ep₂ hd₂ hs₂ => ?_)))))
  dsimp only at hs₂ ⊢
  have e1 : mergeE [] more = more := by simpa using mergeE_fresh more [] (by simpa using hnm)
  rw [e1] at hd₂
  refine wpAny_pure ?_
  dsimp only
  rw [gatherM _ (some s.heap.objs.size) (fun p run h => by
    have hne : ((run ++ [(p.1, p.2)]).length == 17) = false := by simp; lia
    simp only [hne, Bool.false_eq_true, if_false]) pairs [] (by simp; lia)]
  refine wpAny_pure ?_
  simp only [List.nil_append]
  have hne : pairs.isEmpty = false := by simpa using h0
  simp only [hne, Bool.false_eq_true, if_false]
  refine wpAny_bind (wpAny_bind (wpAny_holding (subDict_DO (s := { s with heap := h₂, toks := tk₁ }) hp hlen hcl hn fun h₃ tk₃ ep₃ l st₃ ht₃ hsub hw hf => ?_)))
  dsimp only at st₃ ht₃ hsub hf ⊢
  have hd₃ := st₃ _ _ hd₂
  have hlt : s.heap.objs.size < h₂.objs.size := Heap.lt_size hd₂
  have hl : l.length = cs.length := by rw [← hw]; simp [wordsOf]
  refine wpAny_bind (wpAny_onRaise (wpAny_holding (mergeMapping_DO (s := { s with heap := h₃, toks := tk₃ }) (Nat.ne_of_lt hlt) (beq_eq_false_iff_ne.mpr (Nat.ne_of_gt (Nat.lt_trans hs1 hlt))) hd₃ hsub hnm (by rw [sizeLine_eq]; lia) fun h₄ ep₄ hd₄ hs₄ => ?_)))
  dsimp only at hs₄ ⊢
  refine wpAny_pure (wpAny_pure ?_)
  have st : s.heap.StaysIn h₄ := fun b o e => by
    have hb' : b ≠ s.heap.objs.size := Nat.ne_of_lt (Heap.lt_size e)
    exact (hs₄.2 b hb').trans (st₃ _ _ ((hs₂.2 b hb').trans (st₁ _ _ (st₀ _ _ e))))
  refine ⟨Kp.mk' st (Nat.le_trans ht₁ ht₃), _, ep₄, l, rfl, Nat.le_refl _, ⟨fun p hp => ?_, by simp⟩, hw, fun e he => ?_⟩
  · rw [List.mem_singleton.mp hp]
    exact ⟨hd₄, get_none_of_size s.heap 0⟩
  · obtain ⟨x, y, z⟩ := hf e he
    exact ⟨Nat.le_trans ht₁ x, y, z⟩
theorem ev_dictM3 {env : Env} {b : Shared} {m k1 k2 k3 v1 v2 v3 : Expr} {pos : Pos} {x1 x2 x3 z1 z2 z3 : List Nat} {a : Addr} {more : List Ent} {epa : Nat}
    (hm : EvP prog w A env b m (· = .ref a)) (ha : b.heap.get? a = some (DO w more epa)) (haS : (a == sysModules) = false) (hb : Big b.heap) (hnm : (keysOf more).Nodup) (hz : more.length ≤ 100)
    (hk1 : ∀ b, Ev prog w A env b k1 (IsF (ofL x1))) (hk2 : ∀ b, Ev prog w A env b k2 (IsF (ofL x2))) (hk3 : ∀ b, Ev prog w A env b k3 (IsF (ofL x3))) (hv1 : ∀ b, Ev prog w A env b v1 (IsF (ofL z1))) (hv2 : ∀ b, Ev prog w A env b v2 (IsF (ofL z2))) (hv3 : ∀ b, Ev prog w A env b v3 (IsF (ofL z3)))
    (hn : (([(x1, z1), (x2, z2), (x3, z3)] : List (List Nat × List Nat)).map (·.1)).Nodup) :
    Ev prog w A env b (.Dict [none, some k1, some k2, some k3] [m, v1, v2, v3] pos) (fun v s s' => ∃ d ep l, v = .ref d ∧ s.heap.objs.size ≤ d ∧ NewIn s.heap s'.heap [(d, DO w (mergeE more l) ep)] ∧ wordsOf l = [(x1, z1), (x2, z2), (x3, z3)] ∧ Fr s.toks s'.toks l) :=
  ev_dictM hm ha haS hb hnm hz (pairs_cons hk1 hv1 (pairs_cons hk2 hv2 (pairs_cons hk3 hv3 pairs_nil))) rfl (by simp) (by simp) (by simp) hn
theorem ev_dictC1 {env : Env} {b : Shared} {k1 v1 : Expr} {pos : Pos} {x1 z1 : List Nat}
    (hk1 : ∀ b, Ev prog w A env b k1 (IsF (ofL x1))) (hv1 : ∀ b, Ev prog w A env b v1 (IsF (ofL z1)))
    (hn : (([(x1, z1)] : List (List Nat × List Nat)).map (·.1)).Nodup) :
    Ev prog w A env b (.Dict [some k1] [v1] pos) (NewDict w [(x1, z1)]) :=
  ev_dictC (pairs_cons hk1 hv1 pairs_nil) rfl (by simp) (by simp) (by simp) hn
theorem ev_dictC3 {env : Env} {b : Shared} {k1 k2 k3 v1 v2 v3 : Expr} {pos : Pos} {x1 x2 x3 z1 z2 z3 : List Nat}
    (hk1 : ∀ b, Ev prog w A env b k1 (IsF (ofL x1))) (hk2 : ∀ b, Ev prog w A env b k2 (IsF (ofL x2))) (hk3 : ∀ b, Ev prog w A env b k3 (IsF (ofL x3))) (hv1 : ∀ b, Ev prog w A env b v1 (IsF (ofL z1))) (hv2 : ∀ b, Ev prog w A env b v2 (IsF (ofL z2))) (hv3 : ∀ b, Ev prog w A env b v3 (IsF (ofL z3)))
    (hn : (([(x1, z1), (x2, z2), (x3, z3)] : List (List Nat × List Nat)).map (·.1)).Nodup) :
    Ev prog w A env b (.Dict [some k1, some k2, some k3] [v1, v2, v3] pos) (NewDict w [(x1, z1), (x2, z2), (x3, z3)]) :=
  ev_dictC (pairs_cons hk1 hv1 (pairs_cons hk2 hv2 (pairs_cons hk3 hv3 pairs_nil))) rfl (by simp) (by simp) (by simp) hn
theorem ev_dictC4 {env : Env} {b : Shared} {k1 k2 k3 k4 v1 v2 v3 v4 : Expr} {pos : Pos} {x1 x2 x3 x4 z1 z2 z3 z4 : List Nat}
    (hk1 : ∀ b, Ev prog w A env b k1 (IsF (ofL x1))) (hk2 : ∀ b, Ev prog w A env b k2 (IsF (ofL x2))) (hk3 : ∀ b, Ev prog w A env b k3 (IsF (ofL x3))) (hk4 : ∀ b, Ev prog w A env b k4 (IsF (ofL x4))) (hv1 : ∀ b, Ev prog w A env b v1 (IsF (ofL z1))) (hv2 : ∀ b, Ev prog w A env b v2 (IsF (ofL z2))) (hv3 : ∀ b, Ev prog w A env b v3 (IsF (ofL z3))) (hv4 : ∀ b, Ev prog w A env b v4 (IsF (ofL z4)))
    (hn : (([(x1, z1), (x2, z2), (x3, z3), (x4, z4)] : List (List Nat × List Nat)).map (·.1)).Nodup) :
    Ev prog w A env b (.Dict [some k1, some k2, some k3, some k4] [v1, v2, v3, v4] pos) (NewDict w [(x1, z1), (x2, z2), (x3, z3), (x4, z4)]) :=
  ev_dictC (pairs_cons hk1 hv1 (pairs_cons hk2 hv2 (pairs_cons hk3 hv3 (pairs_cons hk4 hv4 pairs_nil)))) rfl (by simp) (by simp) (by simp) hn
end
end

/- F4 -/
/- the items of a dict of texts, one after the other -/
section
open PySem PySem.W PyProof.Rows PySem.Calls
section
variable {prog : Program} {w : World} {A : Around} {E : Value → Shared → Prop} {s : Shared}
theorem next_DO {it d : Addr} {i ep : Nat} {l : List Ent} {e : Ent} {ok ov : Value} {Q : Option Value → Shared → Prop} (hit : IsItemIter s.heap it d i l.length ep ok ov)
    (hm : s.heap.get? d = some (DO w l ep)) (hx : l[i]? = some e)
    (hQ : ∀ h', IsItemIterOut h' it d (i + 1) l.length ep e.key e.val s.heap.objs.size →
      h'.get? s.heap.objs.size = some { cls := .type "tuple", data := .seq #[e.key, e.val] } → h'.objs.size = s.heap.objs.size + 1 →
      (∀ b o, b ≠ it → s.heap.get? b = some o → h'.get? b = some o) → Q (some (.ref s.heap.objs.size)) { s with heap := h' }) :
    wpAny (model prog w) A (pyNext (.ref it)) Q E s := by
  obtain ⟨hp, g, dr, tk, os⟩ := s
  have hdd : (DO w l ep).data = .dict (l.map (toE w)).toArray ep := rfl
  have hT : Shared.TypeIs ⟨hp, g, dr, tk, os⟩ (.ref it) "dict_itemiterator" := ⟨_, hit, rfl⟩
  unfold pyNext
  refine wpAny_bind (wpAny_attempt (wpAny_callSpecial?_slot (name := Str.ofString "__next__") hT F.slot_dict_itemiterator_next
    (wpAny_call_entry F.slot_dict_itemiterator_next hT F.entry_dict_itemiterator_next ?_ (F.args_dict_itemiterator_next_1 _))))
  refine wpAny_bind (wpAny_pure ?_)
  refine wpAny_bind ?_
  refine wpAny_bind ?_
  first | refine wpAny_bind (wpAny_typeNameOfWhole_itemiter hT (wpAny_pure ?_)) | refine wpAny_bind (wpAny_typeNameOf_itemiter hT (wpAny_pure ?_))
  refine wpAny_bind (wpAny_fieldsOf hit rfl ?_)
  have hown : Builtin.Dict_items.ownsTuple "dict_itemiterator" = true := by decide
  simp only [hown, if_true]
  show wpAny _ _ (if (Value.ref d == Value.none) = true then _ else _) _ _ _
  rw [if_neg (show ¬ ((Value.ref d == Value.none) = true) from Bool.false_ne_true)]
  refine wpAny_bind (wpAny_pure ?_)
  refine wpAny_bind (wpAny_dictEntries hm hdd ?_)
  have hsz : (l.map (toE w)).toArray.size = l.length := by simp
  rw [if_neg (by rw [hsz]; simp)]
  refine wpAny_bind (wpAny_pure ?_)
  refine wpAny_bind (wpAny_dictEpoch hm hdd ?_)
  rw [if_neg (by simp)]
  refine wpAny_pure ?_
  have hget : (l.map (toE w)).toArray[i]? = some (toE w e) := by simp [hx]
  simp only [show ¬ ((i : Int) < 0) from by lia, if_false, Int.toNat_natCast, hget]
  refine wpAny_bind ?_
  first | refine wpAny_bind (wpAny_typeNameOfWhole_itemiter hT (wpAny_pure ?_)) | refine wpAny_bind (wpAny_typeNameOf_itemiter hT (wpAny_pure ?_))
  refine wpAny_bind (wpAny_isOneOf_itemiter hT ?_)
  show wpAny _ _ (setField (.ref it) 3 (rawInt ((i : Int) + 1)) >>= _) _ _ ⟨hp, g, dr, tk, os⟩
  refine wpAny_bind (wpAny_setField_rec hit (by simp) fun h₁ he₁ hs₁ => ?_)
  replace hs₁ : Heap.SameBut it hp h₁ := hs₁
  replace he₁ : IsItemIter h₁ it d (i + 1) l.length ep ok ov := by
    have e : ((i + 1 : Nat) : Int) = (i : Int) + 1 := by lia
    unfold IsItemIter; rw [e]; simpa [rawInt] using he₁
  have hT₁ : Shared.TypeIs ⟨h₁, g, dr, tk, os⟩ (.ref it) "dict_itemiterator" := ⟨_, he₁, rfl⟩
  refine wpAny_bind (wpAny_holding ?_)
  refine wpAny_bind (wpAny_isOneOf_itemiter hT₁ ?_)
  refine wpAny_bind (wpAny_isOneOf_itemiter hT₁ ?_)
  show wpAny _ _ (Builtin.Dict_items.pairFromOwner (.ref it) 6 e.key e.val) _ _ ⟨h₁, g, dr, tk, os⟩
  unfold Builtin.Dict_items.pairFromOwner
  refine wpAny_bind (wpAny_newTuple ?_)
  have he₂ : IsItemIter (h₁.push { cls := .type "tuple", data := .seq #[e.key, e.val] }) it d (i + 1) l.length ep ok ov := Heap.get?_push_of_some _ he₁
  generalize hh₂ : h₁.push { cls := .type "tuple", data := .seq #[e.key, e.val] } = h₂ at he₂
  have hz₁ : h₁.objs.size = hp.objs.size := hs₁.1
  have hil : it < hp.objs.size := Heap.lt_size hit
  have ht₂ : h₂.get? hp.objs.size = some { cls := .type "tuple", data := .seq #[e.key, e.val] } := by rw [← hh₂, ← hz₁]; exact Heap.get?_push_size _ rfl
  have hz₂ : h₂.objs.size = hp.objs.size + 1 := by rw [← hh₂, Heap.size_push, hz₁]
  have hk₂ : ∀ b o, b ≠ it → hp.get? b = some o → h₂.get? b = some o := fun b o hb e => by rw [← hh₂]; exact Heap.get?_push_of_some _ (hs₁.extBut b o hb e)
  show wpAny _ _ (Builtin.Dict_items.ownedTupleIsFree (.ref it) >>= _) _ _ ⟨h₂, g, dr, tk, os⟩
  rw [hz₁]
  clear hh₂ he₁ hs₁ hT₁ hz₁ h₁
  refine wpAny_bind ?_
  unfold Builtin.Dict_items.ownedTupleIsFree
  refine wpAny_bind (wpAny_field he₂ rfl (x := .none) rfl (wpAny_pure ?_))
  simp only [if_true]
  refine wpAny_bind (wpAny_field he₂ rfl (x := ok) rfl ?_)
  refine wpAny_bind (wpAny_field he₂ rfl (x := ov) rfl ?_)
  refine wpAny_bind (wpAny_setField_rec he₂ (by simp) fun h₃ he₃ hs₃ => ?_)
  replace hs₃ : Heap.SameBut it h₂ h₃ := hs₃
  replace he₃ : IsItemIter h₃ it d (i + 1) l.length ep e.key ov := he₃
  refine wpAny_bind (wpAny_setField_rec he₃ (by simp) fun h₄ he₄ hs₄ => ?_)
  replace hs₄ : Heap.SameBut it h₃ h₄ := hs₄
  replace he₄ : IsItemIter h₄ it d (i + 1) l.length ep e.key e.val := he₄
  refine wpAny_bind (wpAny_setField_rec he₄ (by simp) fun h₅ he₅ hs₅ => ?_)
  replace hs₅ : Heap.SameBut it h₄ h₅ := hs₅
  replace he₅ : IsItemIterOut h₅ it d (i + 1) l.length ep e.key e.val hp.objs.size := he₅
  refine wpAny_bind (wpAny_setField_rec he₅ (by simp) fun h₆ he₆ hs₆ => ?_)
  replace hs₆ : Heap.SameBut it h₅ h₆ := hs₆
  replace he₆ : IsItemIterOut h₆ it d (i + 1) l.length ep e.key e.val hp.objs.size := he₆
  refine wpAny_bind (wpAny_letGo (wpAny_pure (wpAny_pure ⟨_, rfl, wpAny_pure (hQ h₆ he₆ ?_ ?_ ?_)⟩)))
  · exact hs₆.extBut _ _ (Nat.ne_of_gt hil) (hs₅.extBut _ _ (Nat.ne_of_gt hil) (hs₄.extBut _ _ (Nat.ne_of_gt hil) (hs₃.extBut _ _ (Nat.ne_of_gt hil) ht₂)))
  · show h₆.objs.size = hp.objs.size + 1
    rw [hs₆.1, hs₅.1, hs₄.1, hs₃.1, hz₂]
  · exact fun b o hb e => hs₆.extBut b o hb (hs₅.extBut b o hb (hs₄.extBut b o hb (hs₃.extBut b o hb (hk₂ b o hb e))))
end
noncomputable abbrev IIO (d i n ep : Nat) (ok ov : Value) : Obj := { cls := .type "dict_itemiterator", dict := none, data := .fields #[.none, .bool false, .ref d, .int i 0, .int n 0, .int ep 0, ok, ov], slots := #[] }
section
variable {prog : Program} {w : World} {A : Around} {env : Env} {h₀ : Heap} {m cm : List (Str × Value)} {led : List (Addr × Obj)} {s₀ : Shared} {h : Heap} {tk : Nat} {rest : List Stmt} {Q : Flow → Shared → Prop} {E : Value → Shared → Prop}
/- for k, v in o.items(): the body leaves the ledger as it was -/
theorem t_forItems {xi xv : Str} {pi pv pt pos apos cpos : Pos} {kk : Nat} {o : Expr} {body : List Stmt} {d : Addr} {l : List Ent} {ep : Nat} (hh : A.handled = none) (K : Nat → List (Str × Value) → Prop)
    (S : Sta h₀ env.locals env.cells m cm led h) (ho : EvP prog w A env { s₀ with heap := h, toks := tk } o (· = .ref d)) (hdS : (d == sysModules) = false) (hn : (keysOf l).Nodup)
    (hd : ∀ m₁ h₁, Sta h₀ env.locals env.cells m₁ cm led h₁ → h₁.get? d = some (DO w l ep)) (h0 : K 0 m)
    (hbody : ∀ i e m₁ p h₁ tk₁ E', tk ≤ tk₁ → l[i]? = some e → K i m₁ → Sta h₀ env.locals env.cells ((xv, e.val) :: (xi, e.key) :: m₁) cm (p :: led) h₁ →
      wpAny (model prog w) A (execs body env) (fun f s' => match f with
        | .next | .cont => ∃ h' tk' m₂, s' = { s₀ with heap := h', toks := tk' } ∧ tk₁ ≤ tk' ∧ Sta h₀ env.locals env.cells m₂ cm (p :: led) h' ∧ K (i + 1) m₂
        | .brk => False
        | .ret v => Q (.ret v) s') E' { s₀ with heap := h₁, toks := tk₁ })
    (hafter : ∀ m₁ h₁ tk₁, tk ≤ tk₁ → K l.length m₁ → Sta h₀ env.locals env.cells m₁ cm led h₁ → wpAny (model prog w) A (execs rest env) Q E { s₀ with heap := h₁, toks := tk₁ })
    (hbase : attributeBase o "items" env (eval o env) = eval o env := by rfl) (hline : (apos.endLine == cpos.line) = true := by rfl)
    (hxi : env.kindOf xi = some .local := by rfl) (hxv : env.kindOf xv = some .local := by rfl) (hkd : env.scope.kind = .function := by rfl) (hs : ∀ x, foldedSetIterable (.Call (.Attribute o "items" apos) [] [] cpos) env x = pure x := by intro _; rfl) :
    wpAny (model prog w) A (execs (.For (.Tuple [.Name xi pi, .Name xv pv] kk pt) (.Call (.Attribute o "items" apos) [] [] cpos) body [] pos :: rest) env) Q E { s₀ with heap := h, toks := tk } := by
  refine wpAny_execs_cons (wpAny_For ?_ hs)
  have hT : ∀ (s : Shared) {x : Obj}, s.heap.get? d = some x → x.cls = .type "dict" → s.TypeIs (.ref d) "dict" := fun s x e c => ⟨x, e, c⟩
  refine wpAny_Call_method (T := "dict") (id := "dict.items") hbase rfl hline F.plainAttrs_dict F.slot_dict_items F.type_dict_items (wpAny_mono (ho _ _ (Up.refl _)) (fun v s₁ q => ?_) fun _ _ e => e)
  obtain ⟨kp, rfl⟩ := q
  obtain ⟨h₁, tk₁, rfl, st₁, ht₁⟩ := kp.cases
  dsimp only at st₁ ht₁ ⊢
  have S₁ := S.keeps st₁
  have hd₁ := hd _ _ S₁
  refine ⟨hT _ hd₁ rfl, fun b e => by injection e with e; subst e; exact ⟨_, hd₁, rfl⟩, ?_⟩
  refine method_meetsIn F.slot_dict_items F.entry_dict_items rfl (PySem.evalArgs_none ⟨rfl, hT _ hd₁ rfl, F.args_dict_items_1 _, _, meets_dict_items (PySem.strKind prog w) d hdS, ⟨_, dictOf_DO hd₁ hn⟩, ?_⟩)
  dsimp only
  have st₂ : h₁.StaysIn (h₁.push { cls := .type "dict_items", data := .fields #[.ref d] }) := stays_push _ _
  have S₂ := S₁.keeps st₂
  have hd₂ := hd _ _ S₂
  refine wpAny_pyIter_items (knd := PySem.strKind prog w) (d := d) (s := { s₀ with heap := h₁.push { cls := .type "dict_items", data := .fields #[.ref d] }, toks := tk₁ }) (kvs := l.map pairOf) (ep := ep) ⟨_, Heap.get?_push_size _ rfl, rfl, rfl⟩ (dictAt_DO hd₂ hn) ?_
  dsimp only
  rw [List.length_map]
  generalize hH : h₁.push { cls := .type "dict_items", data := .fields #[.ref d] } = H at S₂ hd₂
  have S₃ : Sta h₀ env.locals env.cells m cm ((H.objs.size, IIO d 0 l.length ep .none .none) :: led) (H.push (IIO d 0 l.length ep .none .none)) := S₂.add (stays_push _ _) (nw := [_]) new_push
  generalize H.objs.size = it at S₃
  have hit₃ := (S₃.objs _ List.mem_cons_self).1
  dsimp only at hit₃
  refine for_core l.length (fun i s' => ∃ h' tk' m₁ ok ov, s' = { s₀ with heap := h', toks := tk' } ∧ tk ≤ tk' ∧ Sta h₀ env.locals env.cells m₁ cm ((it, IIO d i l.length ep ok ov) :: led) h' ∧ K i m₁) ?_ ?_
    ⟨_, tk₁, m, .none, .none, rfl, ht₁, S₃, h0⟩
  · intro i s' hlt hq; obtain ⟨h', tk', m₁, ok, ov, rfl, htk, S', hK⟩ := hq
    have hit' := (S'.objs _ List.mem_cons_self).1
    dsimp only at hit'
    have hd' := hd _ _ S'.tail
    refine next_DO (e := l[i]) hit' hd' (by simp [hlt]) fun h₂ heo htup hz hk₂ => ⟨_, rfl, ?_⟩
    dsimp only at heo htup hz hk₂ ⊢
    refine wpAny_letOwnedTupleGo_items heo fun h₃ he₃ hs₃ => ?_
    dsimp only at hs₃ ⊢
    have hiH : (it : Nat) < h'.objs.size := Heap.lt_size hit'
    have S₃ := S'.snocI (h' := h₃) (fun c x hc hx => hs₃.extBut c x hc (hk₂ c x hc hx)) he₃
    have htup₃ : IsTup h₃ h'.objs.size #[l[i].key, l[i].val] := ⟨_, (hs₃.2 _ (Nat.ne_of_gt hiH)).trans htup, rfl, _, rfl⟩
    refine assign_pair (s := { s₀ with heap := h₃, toks := tk' }) hh htup₃ fun h₄ st₄ => ?_
    dsimp only at st₄ ⊢
    refine bindLocal (s := { s₀ with heap := h₄, toks := tk' }) (S₃.keeps st₄) (fun h₅ tk₅ ht₅ S₅ => ?_) hxi hkd
    refine bindLocal (s := { s₀ with heap := h₅, toks := tk₅ }) S₅ (fun h₆ tk₆ ht₆ S₆ => ?_) hxv hkd
    dsimp only at ht₅ ht₆
    refine wpAny_mono (hbody i l[i] m₁ _ h₆ tk₆ _ (Nat.le_trans htk (Nat.le_trans ht₅ ht₆)) (by simp [hlt]) hK S₆) (fun f s₄ hf => ?_) fun _ _ e => e
    have fin : (∃ h' tk' m₂, s₄ = { s₀ with heap := h', toks := tk' } ∧ tk₆ ≤ tk' ∧ Sta h₀ env.locals env.cells m₂ cm ((it, IIO d (i + 1) l.length ep l[i].key l[i].val) :: led) h' ∧ K (i + 1) m₂) →
        ∃ h' tk' m₁ ok ov, s₄ = { s₀ with heap := h', toks := tk' } ∧ tk ≤ tk' ∧ Sta h₀ env.locals env.cells m₁ cm ((it, IIO d (i + 1) l.length ep ok ov) :: led) h' ∧ K (i + 1) m₁ := by
      intro hq; obtain ⟨h₇, tk₇, m₂, rfl, ht₇, S₇, hK₇⟩ := hq
      exact ⟨h₇, tk₇, m₂, _, _, rfl, Nat.le_trans htk (Nat.le_trans ht₅ (Nat.le_trans ht₆ ht₇)), S₇, hK₇⟩
    cases f with
    | next => exact fin hf
    | cont => exact fin hf
    | brk => exact hf.elim
    | ret v => exact hf
  · intro s' hq; obtain ⟨h', tk', m₁, ok, ov, rfl, htk, S', hK⟩ := hq
    have hit' := (S'.objs _ List.mem_cons_self).1
    dsimp only at hit'
    refine wpAny_pyNext_items_end (knd := PySem.strKind prog w) (kvs := l.map pairOf) hh (by rw [List.length_map]; exact hit') (dictAt_DO (hd _ _ S'.tail) hn) (by simp) fun h₂ hx₂ => ⟨rfl, ?_⟩
    exact hafter m₁ h₂ tk' htk hK (S'.tailBut fun b x hb hx => hx₂ b x hb hx)
end
end

/- C7 -/
/- dict_replace_saxutils, walked -/
section
open PySem PySem.W PyProof.Rows PySem.Calls
section
variable {w : World} {A : Around} {s : Shared} {E : Value → Shared → Prop} {mean : ExcName → Option Value} {mg mb : Str → Option Value}
/- how often y stands in x -/
noncomputable def occ (x y : List Nat) : Nat := (Builtin.Str.occurrences (ofL x) (ofL y) 0 (ofL x).length ((ofL x).length + 1)).length
noncomputable def OkEnt (e : Ent) : Prop := e.t ≠ 0 ∧ e.u ≠ 0 ∧ e.t ≠ e.u
/- one replacement after the other -/
noncomputable def drep : List (List Nat × List Nat) → List Nat → List Nat
  | [], x => x
  | (y, z) :: r, x => drep r (replL y z x)
noncomputable def Fits : List (List Nat × List Nat) → List Nat → Prop
  | [], _ => True
  | (y, z) :: r, x => y ≠ [] ∧ x.length + occ x y * z.length ≤ sizeLine ∧ (replL y z x).length ≤ sizeLine ∧ Fits r (replL y z x)
theorem drep_app : ∀ (a b : List (List Nat × List Nat)) (x : List Nat), drep (a ++ b) x = drep b (drep a x)
  | [], b, x => rfl
  | (y, z) :: a, b, x => drep_app a b (replL y z x)
theorem fits_at : ∀ (a : List (List Nat × List Nat)) (x : List Nat), Fits a x → ∀ i y z, a[i]? = some (y, z) →
    y ≠ [] ∧ (drep (a.take i) x).length + occ (drep (a.take i) x) y * z.length ≤ sizeLine ∧ (replL y z (drep (a.take i) x)).length ≤ sizeLine
  | [], x, _, i, y, z, h => by simp at h
  | (y0, z0) :: a, x, hf, i, y, z, h => by
    cases i with
    | zero => simp at h; obtain ⟨rfl, rfl⟩ := h; exact ⟨hf.1, hf.2.1, hf.2.2.1⟩
    | succ i => rw [List.getElem?_cons_succ] at h; exact fits_at a _ hf.2.2.2 i y z h
theorem drep_succ {a : List (List Nat × List Nat)} {x : List Nat} {i : Nat} {y z : List Nat} (h : a[i]? = some (y, z)) : drep (a.take (i + 1)) x = replL y z (drep (a.take i) x) := by
  rw [List.take_add_one, h, Option.toList_some, drep_app]; rfl
theorem ev_replaceG {prog : Program} {w : World} {A : Around} {env : Env} {b : Shared} {o e f : Expr} {apos pos : Pos} {x y z : List Nat} {u v : Tok} (ho : EvP prog w A env b o (IsS (ofL x))) (he : EvP prog w A env b e (· = .str (ofL y) u)) (hf : EvP prog w A env b f (· = .str (ofL z) v)) (hy : y ≠ []) (hu : u ≠ 0) (hv : v ≠ 0) (huv : u ≠ v) (hnb : NoneBooked b.heap)
    (hl : x.length + occ x y * z.length ≤ sizeLine) (hr : (replL y z x).length ≤ sizeLine)
    (hbase : attributeBase o "replace" env (eval o env) = eval o env := by rfl) (hline : (apos.endLine == pos.line) = true := by rfl) (hp : starEach [e, f] env = (false, eval e env) :: starEach [f] env := by rfl) (hq : starEach [f] env = [(false, eval f env)] := by rfl) :
    EvP prog w A env b (.Call (.Attribute o "replace" apos) [e, f] [] pos) (IsS (ofL (replL y z x))) :=
  ev_method back_P ho (T := "str") (id := "str.replace") F.plainAttrs_str F.slot_str_replace F.type_str_replace (fun v s _ hq => by obtain ⟨t, e⟩ := hq; exact ⟨by rw [e]; exact typeIs_str _ _ t, fun a e' => by rw [e] at e'; cases e'⟩)
    (args2 he hf hp hq) (fun ov vs s s₁ E up up₁ hq7 hq8 => by
      obtain ⟨t, e⟩ := hq7; obtain ⟨v1, v2, e1, e2, e3⟩ := hq8
      subst e; subst e1; subst e2; subst e3
      refine replace_call hy hu hv huv hl ?_ hr fun t' k => ⟨keeps_toks s₁ _, _, rfl⟩
      obtain ⟨mc, hn, h⟩ := hnb
      exact ⟨mc, hn.keeps (up.trans up₁).st, h⟩) hbase (by rfl) hline
theorem booked_up {h h' : Heap} (x : NoneBooked h) (k : h.StaysIn h') : NoneBooked h' := by
  obtain ⟨mc, hn, h⟩ := x
  exact ⟨mc, hn.keeps k, h⟩
theorem c_repl {n : Nat} (G : G0 w mean mg mb s) (R : Room A (n + 1)) {x : List Nat} {tx : Tok} {d : Addr} {l : List Ent} {ep : Nat} (hd : s.heap.get? d = some (DO w l ep)) (hdS : (d == sysModules) = false) (hn : (keysOf l).Nodup) (hok : ∀ e ∈ l, OkEnt e) (hf : Fits (wordsOf l) x) :
    wpAny (model PR w) A (call (.ref 21) [.str (ofL x) tx, .ref d]) (fun v s' => Keeps s s' ∧ IsS (ofL (drep (wordsOf l) x)) v) E s := by
  refine call_fn (T := fun v _ _ => IsS (ofL (drep (wordsOf l) x)) v) f_repl G R (by kernel_rfl) (by rfl)
    (binds := [("s", .str (ofL x) tx), ("d", .ref d)]) (BindsTo.of_eq rfl) (by decide) (by rfl) (by rfl) (by rfl) fun L h₁ tk ht S E' => ?_
  refine t_forItems (show (A.deeper _).handled = none from R.hh) (fun i m => ∃ t, m = ([("s", .str (ofL (drep ((wordsOf l).take i) x)) t), ("d", .ref d)] : List (Str × Value))) S (by ktr_rel) hdS hn (fun m₁ h₁ S => S.keep _ _ hd) ⟨tx, rfl⟩
    (fun i e m₁ p h tk₁ E' ht₁ he hK S => ?_) (fun m₁ h tk₁ ht₁ hK S => ?_)
  · obtain ⟨t, rfl⟩ := hK
    have hw : (wordsOf l)[i]? = some (e.k, e.z) := by unfold wordsOf; rw [List.getElem?_map, he]; rfl
    obtain ⟨hy, hl, hr⟩ := fits_at _ _ hf i _ _ hw
    obtain ⟨o1, o2, o3⟩ := hok e (List.mem_of_getElem? he)
    refine t_assign S (P := IsS (ofL (drep ((wordsOf l).take (i + 1)) x))) ?_ fun v h tk₂ ht₂ p S => s_nil ?_
    · rw [drep_succ hw]
      exact ev_replaceG (u := e.t) (v := e.u) (by ktr_rel) (by ktr_rel) (by ktr_rel) hy o1 o2 o3 (booked_up (noneBooked G) S.keep) hl hr
    · obtain ⟨t', rfl⟩ := p
      exact ⟨h, tk₂, [("s", .str (ofL (drep ((wordsOf l).take (i + 1)) x)) t'), ("d", .ref d)], rfl, ht₂, sre S ⟨rfl, rfl, trivial⟩ trivial, t', rfl⟩
  · obtain ⟨t, rfl⟩ := hK
    have e1 : (wordsOf l).take l.length = wordsOf l := List.take_of_length_le (by simp [wordsOf])
    rw [e1] at S
    refine t_return (T := fun v _ _ => IsS (ofL (drep (wordsOf l) x)) v) (by ktr_rel) fun v h tk _ st p => ⟨⟨_, _, rfl, stays_trans S.keep st⟩, p⟩
end
end

/- C8 -/
/- escape, unescape, walked -/
section
open PySem PySem.W PyProof.Rows PySem.Calls
section
variable {w : World} {A : Around} {s : Shared} {E : Value → Shared → Prop} {mean : ExcName → Option Value} {mg mb : Str → Option Value}
theorem truth_dict {prog : Program} {b : Shared} {d : Addr} {l : List Ent} {ep : Nat} (hd : b.heap.get? d = some (DO w l ep)) (hdS : (d == sysModules) = false) (hn : (keysOf l).Nodup) (hz : l.length ≤ 1000) : Truth prog w A b (· = .ref d) (!l.isEmpty) := fun v s E up e => by
  rw [e]
  refine wpAny_truthy_dict (knd := PySem.strKind prog w) hdS (dictOf_DO (up.st _ _ hd) hn) (by rw [List.length_map]; lia) ⟨keeps_toks s _, ?_⟩
  cases l <;> rfl
noncomputable def amp : List Nat := [38, 97, 109, 112, 59]
noncomputable def gt : List Nat := [38, 103, 116, 59]
noncomputable def lt : List Nat := [38, 108, 116, 59]
noncomputable def escL (x : List Nat) : List Nat := rep 60 lt (rep 62 gt (rep 38 amp x))
theorem rep_le (c : Nat) (z x : List Nat) : (rep c z x).length ≤ x.length + x.count c * z.length := by
  have := rep_length c z x
  lia
theorem one_le {s : Shared} {h : Heap} {a b : Nat} (h1 : 1 ≤ a) (h2 : a ≤ b) : 1 ≤ b := Nat.le_trans h1 h2
theorem c_escapeG {n : Nat} (G : G0 w mean mg mb s) (R : Room A (n + 2)) (h1 : 1 ≤ s.toks) {x : List Nat} {tx : Tok} {d : Addr} {l : List Ent} {ep : Nat} {args : List Value}
    (hb : BindsTo s f_escape.val ⟨args, []⟩ [("data", .str (ofL x) tx), ("entities", .ref d)]) (hd : s.heap.get? d = some (DO w l ep)) (hdS : (d == sysModules) = false) (hn : (keysOf l).Nodup) (hlz : l.length ≤ 1000) (hok : ∀ e ∈ l, OkEnt e) (hx : x.length ≤ 1000) (hf : Fits (wordsOf l) (escL x)) :
    wpAny (model PR w) A (call (.ref 30) args) (fun v s' => Keeps s s' ∧ IsS (ofL (drep (wordsOf l) (escL x))) v) E s := by
  refine call_fn (T := fun v _ _ => IsS (ofL (drep (wordsOf l) (escL x))) v) f_escape G R (by kernel_rfl) (by rfl)
    (binds := [("data", .str (ofL x) tx), ("entities", .ref d)]) hb (by decide) (by rfl) (by rfl) (by rfl) fun L h₁ tk ht S E' => ?_
  have hsz : sizeLine = 16777216 := by decide
  have c1 := List.count_le_length (a := 38) (l := x)
  have l1 := rep_le 38 amp x
  have a5 : amp.length = 5 := rfl
  have g4 : gt.length = 4 := rfl
  have t4 : lt.length = 4 := rfl
  have c2 := List.count_le_length (a := 62) (l := rep 38 amp x)
  have l2 := rep_le 62 gt (rep 38 amp x)
  have c3 := List.count_le_length (a := 60) (l := rep 62 gt (rep 38 amp x))
  rw [a5] at l1
  rw [g4] at l2
  refine t_assign S (P := IsS (ofL (rep 38 amp x))) (ev_replaceF (by ktr_rel) ev_strF ev_strF (Nat.le_trans h1 ht) (booked_up (noneBooked G) S.keep) (by rw [a5]; lia)) fun v h tk₁ ht₁ p S => ?_
  obtain ⟨t1, rfl⟩ := p
  refine t_assign S (P := IsS (ofL (rep 62 gt (rep 38 amp x)))) (ev_replaceF (by ktr_rel) ev_strF ev_strF (Nat.le_trans h1 (Nat.le_trans ht ht₁)) (booked_up (noneBooked G) S.keep) (by rw [g4]; lia)) fun v h tk₂ ht₂ p S => ?_
  obtain ⟨t2, rfl⟩ := p
  refine t_assign S (P := IsS (ofL (escL x))) (ev_replaceF (by ktr_rel) ev_strF ev_strF (Nat.le_trans h1 (Nat.le_trans ht (Nat.le_trans ht₁ ht₂))) (booked_up (noneBooked G) S.keep) (by rw [t4]; lia)) fun v h tk₃ ht₃ p S => ?_
  obtain ⟨t3, rfl⟩ := p
  have S := sre (m' := [("data", .str (ofL (escL x)) t3), ("entities", .ref d)]) S ⟨rfl, rfl, trivial⟩ (cm' := []) trivial
  refine t_ift S (c := !l.isEmpty) (evt_of (by ktr_rel) (truth_dict (S.keep _ _ hd) hdS hn hlz)) (fun hc h tk₄ ht₄ S => ?_) fun hc h tk₄ ht₄ S => ?_
  · refine t_assign S (P := IsS (ofL (drep (wordsOf l) (escL x)))) ?_ fun v h tk₅ ht₅ p S => s_nil ?_
    · refine ev_fn f_repl back_P G S (by ktr_room) rfl (args2 (Pa := IsS (ofL (escL x))) (Pb := (· = .ref d)) (by ktr_rel) (by ktr_rel)) fun vs s₂ s₃ E u u' G₃ hv => ?_
      obtain ⟨v1, v2, rfl, ⟨ta, rfl⟩, rfl⟩ := hv
      exact c_repl G₃ R.deeper (u'.st _ _ (u.st _ _ (S.keep _ _ hd))) hdS hn hok hf
    · obtain ⟨t4, rfl⟩ := p
      refine t_return (T := fun v _ _ => IsS (ofL (drep (wordsOf l) (escL x))) v) (by ktr_rel) fun v h tk _ st p => ⟨⟨_, _, rfl, stays_trans S.keep st⟩, p⟩
  · have : l = [] := by cases l <;> simp_all
    subst this
    refine t_return (T := fun v _ _ => IsS (ofL (drep (wordsOf []) (escL x))) v) (by ktr_rel) fun v h tk _ st p => ⟨⟨_, _, rfl, stays_trans S.keep st⟩, p⟩
theorem replL_le (y z : List Nat) (hy : y ≠ []) (hz : z.length ≤ y.length) : ∀ n (x : List Nat), x.length ≤ n → (replL y z x).length ≤ x.length
  | n, [], _ => by rw [replL]; exact Nat.le_refl _
  | 0, _ :: _, h => by simp at h
  | n + 1, c :: x, h => by
    rw [List.length_cons] at h
    by_cases hp : y <+: c :: x
    · obtain ⟨r, hr⟩ := hp
      rw [← hr, replL_hit hy, List.length_append, List.length_append]
      have hl : y.length + r.length = x.length + 1 := by rw [← List.length_append, hr, List.length_cons]
      have : y.length ≠ 0 := fun e => hy (List.length_eq_zero_iff.mp e)
      have := replL_le y z hy hz n r (by lia)
      lia
    · rw [replL_miss hp, List.length_cons, List.length_cons]
      have := replL_le y z hy hz n x (by lia)
      lia
theorem ev_replaceWF {prog : Program} {env : Env} {b : Shared} {o e f : Expr} {apos pos : Pos} {x y z : List Nat} (ho : EvP prog w A env b o (IsS (ofL x))) (he : Ev prog w A env b e (IsF (ofL y))) (hf : Ev prog w A env b f (IsF (ofL z))) (ht : 1 ≤ b.toks) (hy : y ≠ []) (hnb : NoneBooked b.heap) (hz : z.length ≤ y.length) (hz1 : z.length ≤ 1) (hl : x.length ≤ 1000000)
    (hbase : attributeBase o "replace" env (eval o env) = eval o env := by rfl) (hline : (apos.endLine == pos.line) = true := by rfl) (hp : starEach [e, f] env = (false, eval e env) :: starEach [f] env := by rfl) (hq : starEach [f] env = [(false, eval f env)] := by rfl) :
    EvP prog w A env b (.Call (.Attribute o "replace" apos) [e, f] [] pos) (IsS (ofL (replL y z x))) := by
  have hsz : sizeLine = 16777216 := by decide
  have h1 := replL_le y z hy hz _ x (Nat.le_refl _)
  have h2 := Nat.mul_le_mul_left (x.length + 1) hz1
  refine ev_replaceW ho ((args_consT he (args_consT hf args0 hq) hp).mono fun vs s s' u k hv => ?_) hy hnb (by lia) (by lia) hbase hline
  obtain ⟨v1, r, s2, rfl, k1, k2, ⟨t1, rfl, a1, a2⟩, v2, r2, s3, rfl, k3, k4, ⟨t2, rfl, b1, b2⟩, rfl⟩ := hv
  have h1 := u.tk
  have h2 := k1.t
  have h3 := k3.t
  exact ⟨t1, t2, rfl, Nat.ne_of_gt (Nat.le_trans ht (Nat.le_trans h1 a1)), Nat.ne_of_gt (Nat.le_trans ht (Nat.le_trans h1 (Nat.le_trans h2 b1))), Nat.ne_of_lt (Nat.lt_of_lt_of_le a2 b1)⟩
noncomputable def unL (l : List (List Nat × List Nat)) (x : List Nat) : List Nat := replL amp [38] (drep l (replL gt [62] (replL lt [60] x)))
theorem c_unescapeG {n : Nat} (G : G0 w mean mg mb s) (R : Room A (n + 2)) (h1 : 1 ≤ s.toks) {x : List Nat} {tx : Tok} {d : Addr} {l : List Ent} {ep : Nat} {args : List Value}
    (hb : BindsTo s f_unescape.val ⟨args, []⟩ [("data", .str (ofL x) tx), ("entities", .ref d)]) (hd : s.heap.get? d = some (DO w l ep)) (hdS : (d == sysModules) = false) (hn : (keysOf l).Nodup) (hlz : l.length ≤ 1000) (hok : ∀ e ∈ l, OkEnt e) (hx : x.length ≤ 1000) (hf : Fits (wordsOf l) (replL gt [62] (replL lt [60] x)))
    (hfz : (drep (wordsOf l) (replL gt [62] (replL lt [60] x))).length ≤ 1000000) :
    wpAny (model PR w) A (call (.ref 39) args) (fun v s' => Keeps s s' ∧ IsS (ofL (unL (wordsOf l) x)) v) E s := by
  refine call_fn (T := fun v _ _ => IsS (ofL (unL (wordsOf l) x)) v) f_unescape G R (by kernel_rfl) (by rfl)
    (binds := [("data", .str (ofL x) tx), ("entities", .ref d)]) hb (by decide) (by rfl) (by rfl) (by rfl) fun L h₁ tk ht S E' => ?_
  have l1 := replL_le lt [60] (by decide) (by decide) _ x (Nat.le_refl _)
  refine t_assign S (P := IsS (ofL (replL lt [60] x))) (ev_replaceWF (by ktr_rel) ev_strF ev_strF (Nat.le_trans h1 ht) (by decide) (booked_up (noneBooked G) S.keep) (by decide) (by decide) (by lia)) fun v h tk₁ ht₁ p S => ?_
  obtain ⟨t1, rfl⟩ := p
  refine t_assign S (P := IsS (ofL (replL gt [62] (replL lt [60] x)))) (ev_replaceWF (by ktr_rel) ev_strF ev_strF (Nat.le_trans h1 (Nat.le_trans ht ht₁)) (by decide) (booked_up (noneBooked G) S.keep) (by decide) (by decide) (by lia)) fun v h tk₂ ht₂ p S => ?_
  obtain ⟨t2, rfl⟩ := p
  have S := sre (m' := [("data", .str (ofL (replL gt [62] (replL lt [60] x))) t2), ("entities", .ref d)]) S ⟨rfl, rfl, trivial⟩ (cm' := []) trivial
  refine t_ift S (c := !l.isEmpty) (evt_of (by ktr_rel) (truth_dict (S.keep _ _ hd) hdS hn hlz)) (fun hc h tk₄ ht₄ S => ?_) fun hc h tk₄ ht₄ S => ?_
  · refine t_assign S (P := IsS (ofL (drep (wordsOf l) (replL gt [62] (replL lt [60] x))))) ?_ fun v h tk₅ ht₅ p S => s_nil ?_
    · refine ev_fn f_repl back_P G S (by ktr_room) rfl (args2 (Pa := IsS (ofL (replL gt [62] (replL lt [60] x)))) (Pb := (· = .ref d)) (by ktr_rel) (by ktr_rel)) fun vs s₂ s₃ E u u' G₃ hv => ?_
      obtain ⟨v1, v2, rfl, ⟨ta, rfl⟩, rfl⟩ := hv
      exact c_repl G₃ R.deeper (u'.st _ _ (u.st _ _ (S.keep _ _ hd))) hdS hn hok hf
    · obtain ⟨t4, rfl⟩ := p
      refine t_return (T := fun v _ _ => IsS (ofL (unL (wordsOf l) x)) v) (ev_replaceWF (by ktr_rel) ev_strF ev_strF (Nat.le_trans h1 (by ktr_room)) (by decide) (booked_up (noneBooked G) S.keep) (by decide) (by decide) hfz) fun v h tk _ st p => ⟨⟨_, _, rfl, stays_trans S.keep st⟩, p⟩
  · have : l = [] := by cases l <;> simp_all
    subst this
    refine t_return (T := fun v _ _ => IsS (ofL (unL (wordsOf []) x)) v) (ev_replaceWF (by ktr_rel) ev_strF ev_strF (Nat.le_trans h1 (by ktr_room)) (by decide) (booked_up (noneBooked G) S.keep) (by decide) (by decide) hfz) fun v h tk _ st p => ⟨⟨_, _, rfl, stays_trans S.keep st⟩, p⟩
end
end

/- C9 -/
/- quoteattr, walked -/
section
open PySem PySem.W PyProof.Rows PySem.Calls
section
variable {w : World} {A : Around} {s : Shared} {E : Value → Shared → Prop} {mean : ExcName → Option Value} {mg mb : Str → Option Value}
theorem binds_escape {v : Value} (G : G0 w mean mg mb s) : BindsTo s f_escape.val ⟨[v], []⟩ [("data", v), ("entities", .ref 22)] :=
  BindsTo.of_defaults (T := 23) (o := TO [.ref 22]) rfl (G.X _ _ (by rfl)) rfl rfl rfl
theorem dict_22 (G : G0 w mean mg mb s) : s.heap.get? 22 = some (DO w [] 0) := G.X _ _ (by rfl)
theorem binds_unescape {v : Value} (G : G0 w mean mg mb s) : BindsTo s f_unescape.val ⟨[v], []⟩ [("data", v), ("entities", .ref 31)] :=
  BindsTo.of_defaults (T := 32) (o := TO [.ref 31]) rfl (G.X _ _ (by rfl)) rfl rfl rfl
theorem dict_31 (G : G0 w mean mg mb s) : s.heap.get? 31 = some (DO w [] 0) := G.X _ _ (by rfl)
theorem binds_quote {v : Value} (G : G0 w mean mg mb s) : BindsTo s f_quote.val ⟨[v], []⟩ [("data", v), ("entities", .ref 40)] :=
  BindsTo.of_defaults (T := 41) (o := TO [.ref 40]) rfl (G.X _ _ (by rfl)) rfl rfl rfl
theorem dict_40 (G : G0 w mean mg mb s) : s.heap.get? 40 = some (DO w [] 0) := G.X _ _ (by rfl)
theorem binds_escape2 {v u : Value} (G : G0 w mean mg mb s) : BindsTo s f_escape.val ⟨[v, u], []⟩ [("data", v), ("entities", u)] :=
  BindsTo.of_defaults (T := 23) (o := TO [.ref 22]) rfl (G.X _ _ (by rfl)) rfl rfl rfl
theorem binds_unescape2 {v u : Value} (G : G0 w mean mg mb s) : BindsTo s f_unescape.val ⟨[v, u], []⟩ [("data", v), ("entities", u)] :=
  BindsTo.of_defaults (T := 32) (o := TO [.ref 31]) rfl (G.X _ _ (by rfl)) rfl rfl rfl
theorem binds_quote2 {v u : Value} (G : G0 w mean mg mb s) : BindsTo s f_quote.val ⟨[v, u], []⟩ [("data", v), ("entities", u)] :=
  BindsTo.of_defaults (T := 41) (o := TO [.ref 40]) rfl (G.X _ _ (by rfl)) rfl rfl rfl
open Builtin Builtin.Str in
theorem mod_dq (z : PySem.Str) (t u : Tok) (hz : z.length ≤ 10000000) : Meets («str.__mod__» ⟨[.str ⟨#[34, 37, 115, 34]⟩ t, .str z u], []⟩) (fun _ R s => ∀ t' k, R (.ok (.ret (.str (PySem.Str.ofString "\"" ++ z ++ PySem.Str.ofString "\"") t'))) { s with toks := k }) := by
  kpc_run_s
open Builtin Builtin.Str in
theorem mod_sq (z : PySem.Str) (t u : Tok) (hz : z.length ≤ 10000000) : Meets («str.__mod__» ⟨[.str ⟨#[39, 37, 115, 39]⟩ t, .str z u], []⟩) (fun _ R s => ∀ t' k, R (.ok (.ret (.str (PySem.Str.ofString "'" ++ z ++ PySem.Str.ofString "'") t'))) { s with toks := k }) := by
  kpc_run_s
theorem ev_mod {prog : Program} {env : Env} {b : Shared} {l r : Expr} {pos : Pos} {X : Str} {x pre suf : List Nat} (hm : ∀ (z : Str) (t u : Tok), z.length ≤ 10000000 → Meets (Builtin.«str.__mod__» ⟨[.str X t, .str z u], []⟩) (fun _ R s => ∀ t' k, R (.ok (.ret (.str (ofL pre ++ z ++ ofL suf) t'))) { s with toks := k }))
    (hl : EvP prog w A env b l (IsS X)) (hr : EvP prog w A env b r (IsS (ofL x))) (hz : x.length ≤ 10000000) : EvP prog w A env b (.BinOp l .Mod r pos) (IsS (ofL (pre ++ x ++ suf))) :=
  ev_binop back_P hl hr (by
    intro u v s E _ hu hv
    obtain ⟨t1, rfl⟩ := hu
    obtain ⟨t2, rfl⟩ := hv
    refine binaryOp_meets (T := "str") (op := .Mod) (typeIs_str s X t1) (typeIs_str s (ofL x) t2) F.fills_str_mod F.slot_str_mod F.entry_str_mod (F.args_str_mod_2 _ _) (hm (ofL x) t1 t2 (by rw [ofL_length]; exact hz)) fun t' k => ⟨(fun e => nomatch e), keeps_toks s k, t', ?_⟩
    rw [ofL_app, ofL_app])
theorem evt_inS {prog : Program} {env : Env} {b : Shared} {l r : Expr} {pos : Pos} {c : Nat} {x : List Nat} (ha : EvP prog w A env b l (IsS (ofL [c]))) (hb : EvP prog w A env b r (IsS (ofL x))) (hm : behindInMarks .In r = false := by with_unfolding_all rfl) : EvT prog w A env b (.Compare l [.In] [r] pos) (decide (c ∈ x)) :=
  evt_compare ha hb (fun u v s E _ hu hv => by
    obtain ⟨t1, rfl⟩ := hu
    obtain ⟨t2, rfl⟩ := hv
    refine P.in_str ⟨keeps_refl s, ?_⟩
    exact congrArg Value.bool (StrLaws.found_one (ofL x) c)) hm
/- an entry more, in words alone -/
noncomputable def putW (l : List (List Nat × List Nat)) (n : List Nat × List Nat) : List (List Nat × List Nat) := if n.1 ∈ l.map (·.1) then l.map (fun e => if e.1 = n.1 then (e.1, n.2) else e) else l ++ [n]
noncomputable def mergeW (l more : List (List Nat × List Nat)) : List (List Nat × List Nat) := more.foldl putW l
theorem words_putE (l : List Ent) (n : Ent) : wordsOf (putE l n) = putW (wordsOf l) (n.k, n.z) := by
  unfold putE putW
  rw [keys_words]
  split
  · unfold wordsOf
    rw [List.map_map, List.map_map]
    refine List.map_congr_left fun e _ => ?_
    show ((if e.k = n.k then ({ e with z := n.z, u := n.u } : Ent) else e).k, (if e.k = n.k then ({ e with z := n.z, u := n.u } : Ent) else e).z) = if e.k = n.k then (e.k, n.z) else (e.k, e.z)
    split <;> rfl
  · unfold wordsOf
    rw [List.map_append]; rfl
theorem words_mergeE : ∀ (more l : List Ent), wordsOf (mergeE l more) = mergeW (wordsOf l) (wordsOf more)
  | [], l => rfl
  | e :: more, l => by
    show wordsOf (mergeE (putE l e) more) = mergeW (putW (wordsOf l) (e.k, e.z)) (wordsOf more)
    rw [words_mergeE more, words_putE]
theorem ok_merge {lo hi : Nat} (h1 : 1 ≤ lo) : ∀ (l more : List Ent), (keysOf l).Nodup → Fr lo hi l → (∀ e ∈ more, OkEnt e ∧ (e.k ∈ keysOf l → e.t < lo)) → ∀ e ∈ mergeE more l, OkEnt e
  | [], more, _, _, h => fun e he => (h e he).1
  | n :: l, more, hn, hf, h => by
    obtain ⟨f1, f2, f3⟩ := hf n List.mem_cons_self
    unfold keysOf at hn
    rw [List.map_cons, List.nodup_cons] at hn
    have hok : OkEnt n := ⟨Nat.ne_of_gt (Nat.le_trans h1 f1), Nat.ne_of_gt (Nat.le_trans h1 (Nat.le_trans f1 (Nat.le_of_lt f2))), Nat.ne_of_lt f2⟩
    refine ok_merge h1 l (putE more n) hn.2 (fun e he => hf e (List.mem_cons_of_mem _ he)) fun e he => ?_
    unfold putE at he
    split at he
    · obtain ⟨e₀, he₀, rfl⟩ := List.mem_map.mp he
      obtain ⟨a, b⟩ := h e₀ he₀
      by_cases hk : e₀.k = n.k
      · rw [if_pos hk]
        have ht : e₀.t < lo := b (by rw [hk]; exact List.mem_cons_self)
        refine ⟨⟨a.1, hok.2.1, Nat.ne_of_lt (Nat.lt_of_lt_of_le ht (Nat.le_trans f1 (Nat.le_of_lt f2)))⟩, fun hk' => absurd (show n.k ∈ l.map (·.k) from hk ▸ hk') hn.1⟩
      · rw [if_neg hk]
        exact ⟨a, fun hk' => b (List.mem_cons_of_mem _ hk')⟩
    · rcases List.mem_append.mp he with he | he
      · obtain ⟨a, b⟩ := h e he
        exact ⟨a, fun hk' => b (List.mem_cons_of_mem _ hk')⟩
      · rw [List.mem_singleton.mp he]
        exact ⟨hok, fun hk' => absurd hk' hn.1⟩
noncomputable def nl10 : List Nat := [38, 35, 49, 48, 59]
noncomputable def nl13 : List Nat := [38, 35, 49, 51, 59]
noncomputable def nl9 : List Nat := [38, 35, 57, 59]
noncomputable def quot : List Nat := [38, 113, 117, 111, 116, 59]
noncomputable def white : List (List Nat × List Nat) := [([10], nl10), ([13], nl13), ([9], nl9)]
noncomputable def quoteF (y : List Nat) : List Nat := if 34 ∈ y then (if 39 ∈ y then [34] ++ rep 34 quot y ++ [34] else [39] ++ y ++ [39]) else [34] ++ y ++ [34]
theorem c_quoteG {n : Nat} (G : G0 w mean mg mb s) (R : Room A (n + 3)) (h1 : 1 ≤ s.toks) {x : List Nat} {tx : Tok} {d : Addr} {l : List Ent} {ep : Nat} {args : List Value}
    (hb : BindsTo s f_quote.val ⟨args, []⟩ [("data", .str (ofL x) tx), ("entities", .ref d)]) (hd : s.heap.get? d = some (DO w l ep)) (hdS : (d == sysModules) = false) (hn : (keysOf l).Nodup) (hlz : l.length ≤ 100) (hok : ∀ e ∈ l, OkEnt e ∧ e.t < s.toks) (hx : x.length ≤ 1000) (hf : Fits (mergeW (wordsOf l) white) (escL x))
    (hz : ∀ y, y = drep (mergeW (wordsOf l) white) (escL x) → y.length + y.count 34 * 6 ≤ 10000000) :
    wpAny (model PR w) A (call (.ref 48) args) (fun v s' => Keeps s s' ∧ IsS (ofL (quoteF (drep (mergeW (wordsOf l) white) (escL x)))) v) E s := by
  refine call_fn (T := fun v _ _ => IsS (ofL (quoteF (drep (mergeW (wordsOf l) white) (escL x)))) v) f_quote G R (by kernel_rfl) (by rfl)
    (binds := [("data", .str (ofL x) tx), ("entities", .ref d)]) hb (by decide) (by rfl) (by rfl) (by rfl) fun L h₁ tk ht S E' => ?_
  refine t_assignN S (P := fun v nw => ∃ d' ep' l', v = .ref d' ∧ (d' == sysModules) = false ∧ nw = [(d', DO w (mergeE l l') ep')] ∧ wordsOf l' = white ∧ ∃ hi, Fr tk hi l') ?_ ?_
  · refine (ev_dictM3 (x1 := [10]) (z1 := nl10) (x2 := [13]) (z2 := nl13) (x3 := [9]) (z3 := nl9) (by ktr_rel) (S.keep _ _ hd) hdS ((big_G G).up S.keep) hn hlz (fun b => ev_strF) (fun b => ev_strF) (fun b => ev_strF) (fun b => ev_strF) (fun b => ev_strF) (fun b => ev_strF) (by decide)).mono ?_
    intro v s₂ s₃ up kp hq; obtain ⟨d', ep', l', rfl, hsz, hnew, hw, hfr⟩ := hq
    exact ⟨_, hnew, d', ep', l', rfl, notSys (((big_G G).up S.keep).up up.st) hsz, rfl, hw, s₃.toks, fun e he => ⟨Nat.le_trans up.tk (hfr e he).1, (hfr e he).2⟩⟩
  intro v nw h tk₁ ht₁ hq; obtain ⟨d', ep', l', rfl, hdS', rfl, hw, hi, hfr⟩ := hq; intro S
  have S := sre (m' := [("entities", .ref d'), ("data", .str (ofL x) tx)]) S ⟨rfl, rfl, trivial⟩ (cm' := []) trivial
  have hd' : h.get? d' = some (DO w (mergeE l l') ep') := (S.objs _ List.mem_cons_self).1
  have hkl : (keysOf l').Nodup := by rw [keys_words, hw]; decide
  have hn' : (keysOf (mergeE l l')).Nodup := keys_mergeE _ _ hn
  have hw' : wordsOf (mergeE l l') = mergeW (wordsOf l) white := by rw [words_mergeE, hw]
  have hl3 : l'.length = 3 := by
    have := congrArg List.length hw
    simpa [wordsOf, white] using this
  have hlen : (mergeE l l').length ≤ 1000 := by
    have := length_mergeE l' l
    lia
  have hok' : ∀ e ∈ mergeE l l', OkEnt e := ok_merge (Nat.le_trans h1 ht) l' l hkl hfr fun e he => ⟨(hok e he).1, fun _ => Nat.lt_of_lt_of_le (hok e he).2 ht⟩
  refine t_assign S (P := IsS (ofL (drep (mergeW (wordsOf l) white) (escL x)))) ?_ fun v h tk₂ ht₂ p S => ?_
  · refine ev_fn f_escape back_P G S (by ktr_room) rfl (args2 (Pa := IsS (ofL x)) (Pb := (· = .ref d')) (by ktr_rel) (by ktr_rel)) fun vs s₂ s₃ E u u' G₃ hv => ?_
    obtain ⟨v1, v2, rfl, ⟨ta, rfl⟩, rfl⟩ := hv
    rw [← hw']
    have hu := u.tk
    have hu' := u'.tk
    dsimp only at hu
    exact c_escapeG (tx := ta) G₃ R.deeper (by lia) (binds_escape2 G₃) (u'.st _ _ (u.st _ _ hd')) hdS' hn' hlen hok' hx (by rw [hw']; exact hf)
  obtain ⟨t2, rfl⟩ := p
  have hy := hz _ rfl
  generalize drep (mergeW (wordsOf l) white) (escL x) = y at S hy ⊢
  have S := sre (m' := [("data", .str (ofL y) t2)]) S ⟨rfl, trivial⟩ (cm' := []) trivial
  have hsz : sizeLine = 16777216 := by decide
  have hq : quot.length = 6 := rfl
  have hrl := rep_le 34 quot y
  rw [hq] at hrl
  refine t_ife S (c := decide (34 ∈ y)) (evt_inS (c := 34) (by ktr_rel) (by ktr_rel)) (fun hc h tk₃ ht₃ S => ?_) fun hc h tk₃ ht₃ S => ?_
  · refine t_ife S (c := decide (39 ∈ y)) (evt_inS (c := 39) (by ktr_rel) (by ktr_rel)) (fun hc' h tk₄ ht₄ S => ?_) fun hc' h tk₄ ht₄ S => ?_
    · refine t_assign S (P := IsS (ofL ([34] ++ rep 34 quot y ++ [34]))) (ev_mod (pre := [34]) (suf := [34]) mod_dq (by ktr_rel) (ev_replaceF (by ktr_rel) ev_strF ev_strF (Nat.le_trans h1 (by ktr_room)) (booked_up (noneBooked G) S.keep) (by rw [hq]; lia)) (by lia)) fun v h tk₅ ht₅ p S => s_nil (s_nil ?_)
      obtain ⟨t3, rfl⟩ := p
      have e : quoteF y = [34] ++ rep 34 quot y ++ [34] := by unfold quoteF; rw [if_pos (of_decide_eq_true hc), if_pos (of_decide_eq_true hc')]
      refine t_return (T := fun v _ _ => IsS (ofL (quoteF y)) v) (by rw [e]; ktr_rel) fun v h tk _ st p => ⟨⟨_, _, rfl, stays_trans S.keep st⟩, p⟩
    · refine t_assign S (P := IsS (ofL ([39] ++ y ++ [39]))) (ev_mod (pre := [39]) (suf := [39]) mod_sq (by ktr_rel) (by ktr_rel) (by lia)) fun v h tk₅ ht₅ p S => s_nil (s_nil ?_)
      obtain ⟨t3, rfl⟩ := p
      have e : quoteF y = [39] ++ y ++ [39] := by unfold quoteF; rw [if_pos (of_decide_eq_true hc), if_neg (of_decide_eq_false hc')]
      refine t_return (T := fun v _ _ => IsS (ofL (quoteF y)) v) (by rw [e]; ktr_rel) fun v h tk _ st p => ⟨⟨_, _, rfl, stays_trans S.keep st⟩, p⟩
  · refine t_assign S (P := IsS (ofL ([34] ++ y ++ [34]))) (ev_mod (pre := [34]) (suf := [34]) mod_dq (by ktr_rel) (by ktr_rel) (by lia)) fun v h tk₅ ht₅ p S => s_nil ?_
    obtain ⟨t3, rfl⟩ := p
    have e : quoteF y = [34] ++ y ++ [34] := by unfold quoteF; rw [if_neg (of_decide_eq_false hc)]
    refine t_return (T := fun v _ _ => IsS (ofL (quoteF y)) v) (by rw [e]; ktr_rel) fun v h tk _ st p => ⟨⟨_, _, rfl, stays_trans S.keep st⟩, p⟩
end
end

/- C10 -/
/- _law_write, walked -/
section
open PySem PySem.W PyProof.Rows PySem.Calls
section
variable {w : World} {A : Around} {s : Shared} {E : Value → Shared → Prop} {mean : ExcName → Option Value} {mg mb : Str → Option Value}
/- what _law_write gives -/
noncomputable def writeF (kind : Nat) (ws : List (List Nat × List Nat)) (x : List Nat) : List Nat :=
  if kind = 0 then x else if kind = 1 then drep ws (escL x) else quoteF (drep (mergeW ws white) (escL x))
theorem c_write {n kind : Nat} (G : G0 w mean mg mb s) (R : Room A (n + 4)) (h1 : 1 ≤ s.toks) {x : List Nat} {tk0 tx : Tok} {d : Addr} {l : List Ent} {ep : Nat}
    (hd : s.heap.get? d = some (DO w l ep)) (hdS : (d == sysModules) = false) (hn : (keysOf l).Nodup) (hlz : l.length ≤ 100) (hok : ∀ e ∈ l, OkEnt e ∧ e.t < s.toks) (hx : x.length ≤ 1000)
    (hf1 : kind = 1 → Fits (wordsOf l) (escL x)) (hf2 : kind = 2 → Fits (mergeW (wordsOf l) white) (escL x)) (hk : kind ≤ 2)
    (hz : kind = 2 → ∀ y, y = drep (mergeW (wordsOf l) white) (escL x) → y.length + y.count 34 * 6 ≤ 10000000) :
    wpAny (model PR w) A (call (.ref 111) [.int kind tk0, .str (ofL x) tx, .ref d]) (fun v s' => Keeps s s' ∧ IsS (ofL (writeF kind (wordsOf l) x)) v) E s := by
  refine call_fn (T := fun v _ _ => IsS (ofL (writeF kind (wordsOf l) x)) v) f_write G R (by kernel_rfl) (by rfl)
    (binds := [("kind", .int kind tk0), ("text", .str (ofL x) tx), ("table", .ref d)]) (BindsTo.of_eq rfl) (by decide) (by rfl) (by rfl) (by rfl) fun L h₁ tk ht S E' => ?_
  refine t_ift S (c := ((kind : Int) == 0)) (by ktr_rel) (fun hc h tk₁ ht₁ S => ?_) fun hc h tk₁ ht₁ S => ?_
  · have hk0 : kind = 0 := by have := eq_of_beq hc; lia
    have e : writeF kind (wordsOf l) x = x := by unfold writeF; rw [if_pos hk0]
    refine t_return (T := fun v _ _ => IsS (ofL (writeF kind (wordsOf l) x)) v) (by rw [e]; ktr_rel) fun v h tk _ st p => ⟨⟨_, _, rfl, stays_trans S.keep st⟩, p⟩
  have hk0 : kind ≠ 0 := by rintro rfl; simp at hc
  have hdh := S.keep _ _ hd
  refine t_ift S (c := ((kind : Int) == 1)) (by ktr_rel) (fun hc h tk₂ ht₂ S => ?_) fun hc h tk₂ ht₂ S => ?_
  · have hk1 : kind = 1 := by have := eq_of_beq hc; lia
    have e : writeF kind (wordsOf l) x = drep (wordsOf l) (escL x) := by unfold writeF; rw [if_neg hk0, if_pos hk1]
    have hf := hf1 hk1
    refine t_return (T := fun v _ _ => IsS (ofL (writeF kind (wordsOf l) x)) v) ?_ fun v h tk _ st p => ⟨⟨_, _, rfl, stays_trans S.keep st⟩, p⟩
    rw [e]
    refine ev_ifexp back_P (c := !l.isEmpty) (evt_of (by ktr_rel) (truth_dict (S.keep _ _ hd) hdS hn (by lia))) (fun hc => ?_) fun hc => ?_
    · refine ev_fn f_escape back_P G S (by ktr_room) rfl (args2 (Pa := IsS (ofL x)) (Pb := (· = .ref d)) (by ktr_rel) (by ktr_rel)) fun vs s₂ s₃ E u u' G₃ hv => ?_
      obtain ⟨v1, v2, rfl, ⟨ta, rfl⟩, rfl⟩ := hv
      have hu := u.tk
      have hu' := u'.tk
      dsimp only at hu
      exact c_escapeG (tx := ta) G₃ (n := n) (R.deeper.le (by lia)) (by lia) (binds_escape2 G₃) (u'.st _ _ (u.st _ _ (S.keep _ _ hd))) hdS hn (by lia) (fun e he => (hok e he).1) hx hf
    · have hl : l = [] := by cases l <;> simp_all
      subst hl
      refine ev_fn f_escape back_P G S (by ktr_room) rfl (args1 (Pa := IsS (ofL x)) (by ktr_rel)) fun vs s₂ s₃ E u u' G₃ hv => ?_
      obtain ⟨v1, rfl, ⟨ta, rfl⟩⟩ := hv
      have hu := u.tk
      have hu' := u'.tk
      dsimp only at hu
      exact c_escapeG (tx := ta) (l := []) G₃ (n := n) (R.deeper.le (by lia)) (by lia) (binds_escape G₃) (dict_22 G₃) (by decide) hn (by decide) (fun _ h => nomatch h) hx trivial
  · have hk2 : kind = 2 := by
      have : kind ≠ 1 := by rintro rfl; simp at hc
      lia
    have e : writeF kind (wordsOf l) x = quoteF (drep (mergeW (wordsOf l) white) (escL x)) := by unfold writeF; rw [if_neg hk0, if_neg (by lia)]
    have hf := hf2 hk2
    have hz' := hz hk2
    refine t_return (T := fun v _ _ => IsS (ofL (writeF kind (wordsOf l) x)) v) ?_ fun v h tk _ st p => ⟨⟨_, _, rfl, stays_trans S.keep st⟩, p⟩
    rw [e]
    refine ev_ifexp back_P (c := !l.isEmpty) (evt_of (by ktr_rel) (truth_dict (S.keep _ _ hd) hdS hn (by lia))) (fun hc => ?_) fun hc => ?_
    · refine ev_fn f_quote back_P G S (by ktr_room) rfl (args2 (Pa := IsS (ofL x)) (Pb := (· = .ref d)) (by ktr_rel) (by ktr_rel)) fun vs s₂ s₃ E u u' G₃ hv => ?_
      obtain ⟨v1, v2, rfl, ⟨ta, rfl⟩, rfl⟩ := hv
      have hu := u.tk
      have hu' := u'.tk
      dsimp only at hu
      exact c_quoteG (tx := ta) G₃ (n := n) (R.deeper.le (by lia)) (by lia) (binds_quote2 G₃) (u'.st _ _ (u.st _ _ (S.keep _ _ hd))) hdS hn hlz (fun e he => ⟨(hok e he).1, Nat.lt_of_lt_of_le (hok e he).2 (by lia)⟩) hx hf hz'
    · have hl : l = [] := by cases l <;> simp_all
      subst hl
      refine ev_fn f_quote back_P G S (by ktr_room) rfl (args1 (Pa := IsS (ofL x)) (by ktr_rel)) fun vs s₂ s₃ E u u' G₃ hv => ?_
      obtain ⟨v1, rfl, ⟨ta, rfl⟩⟩ := hv
      have hu := u.tk
      have hu' := u'.tk
      dsimp only at hu
      exact c_quoteG (tx := ta) (l := []) G₃ (n := n) (R.deeper.le (by lia)) (by lia) (binds_quote G₃) (dict_40 G₃) (by decide) hn (by decide) (fun _ h => nomatch h) hx hf hz'
end
end

/- F5 -/
/- lists of texts: what stands in them; comprehensions; join; append -/
section
open PySem PySem.W PyProof.Rows PySem.Calls
/- one thing for one value -/
noncomputable def All2 {α : Type} (V : α → Value → Prop) : List α → List Value → Prop
  | [], [] => True
  | a :: as, v :: vs => V a v ∧ All2 V as vs
  | _, _ => False
section
variable {α β : Type} {V : α → Value → Prop} {U : β → Value → Prop}
theorem all2_length : ∀ {as : List α} {vs : List Value}, All2 V as vs → as.length = vs.length
  | [], [], _ => rfl
  | _ :: _, _ :: _, h => by rw [List.length_cons, List.length_cons, all2_length h.2]
  | [], _ :: _, h => h.elim
  | _ :: _, [], h => h.elim
theorem all2_get : ∀ {as : List α} {vs : List Value}, All2 V as vs → ∀ {j : Nat} {a : α}, as[j]? = some a → ∃ v, vs[j]? = some v ∧ V a v
  | a :: as, v :: vs, h, j, x, e => by
    cases j with
    | zero => simp at e; subst e; exact ⟨v, by simp, h.1⟩
    | succ j => simp at e ⊢; exact all2_get h.2 e
  | [], _, _, _, _, e => by simp at e
  | _ :: _, [], h, _, _, _ => h.elim
theorem all2_app : ∀ {as : List α} {vs : List Value} {bs : List α} {us : List Value}, All2 V as vs → All2 V bs us → All2 V (as ++ bs) (vs ++ us)
  | [], [], _, _, _, h => h
  | _ :: _, _ :: _, _, _, h, h' => ⟨h.1, all2_app h.2 h'⟩
  | [], _ :: _, _, _, h, _ => h.elim
  | _ :: _, [], _, _, h, _ => h.elim
theorem all2_of : ∀ {as : List α} {vs : List Value}, as.length = vs.length → (∀ (j : Nat) a v, as[j]? = some a → vs[j]? = some v → V a v) → All2 V as vs
  | [], [], _, _ => trivial
  | a :: as, v :: vs, hl, h => ⟨h 0 a v (by simp) (by simp), all2_of (by simpa using hl) fun j x y e e' => h (j + 1) x y (by simpa using e) (by simpa using e')⟩
  | [], _ :: _, hl, _ => by simp at hl
  | _ :: _, [], hl, _ => by simp at hl
theorem all2_snoc : ∀ {as : List α} {vs : List Value} {v : Value}, All2 V as (vs ++ [v]) → ∃ as' a, as = as' ++ [a] ∧ All2 V as' vs ∧ V a v
  | [], vs, v, h => by cases vs <;> exact h.elim
  | [a], [], v, h => ⟨[], a, rfl, trivial, h.1⟩
  | a :: b :: as, [], v, h => h.2.elim
  | a :: as, u :: vs, v, h => by
    obtain ⟨as', x, e, h1, h2⟩ := all2_snoc (as := as) (vs := vs) h.2
    exact ⟨a :: as', x, by rw [e]; rfl, ⟨h.1, h1⟩, h2⟩
theorem all2_mono {V' : α → Value → Prop} (k : ∀ a v, V a v → V' a v) : ∀ {as : List α} {vs : List Value}, All2 V as vs → All2 V' as vs
  | [], [], _ => trivial
  | _ :: _, _ :: _, h => ⟨k _ _ h.1, all2_mono k h.2⟩
  | [], _ :: _, h => h.elim
  | _ :: _, [], h => h.elim
theorem made_all2 {dec : Value → α} (hdec : ∀ a v, V a v → dec v = a) {q : α → Bool} {g : α → β} {vs ys : List Value} {nw : List (Addr × Obj)} (x : Made3 (fun v => q (dec v)) (fun v y nw => nw = [] ∧ U (g (dec v)) y) vs ys nw) :
    ∀ src, All2 V src vs → nw = [] ∧ All2 U ((src.filter q).map g) ys := by
  induction x with
  | nil =>
    intro src h
    cases src with
    | nil => exact ⟨rfl, trivial⟩
    | cons _ _ => exact h.elim
  | skip m hp ih =>
    intro src h
    obtain ⟨s', a, rfl, h1, h2⟩ := all2_snoc h
    obtain ⟨e, i⟩ := ih s' h1
    rw [hdec a _ h2] at hp
    refine ⟨e, ?_⟩
    rw [List.filter_append]
    simpa [hp] using i
  | take m hp hf ih =>
    intro src h
    obtain ⟨s', a, rfl, h1, h2⟩ := all2_snoc h
    obtain ⟨e, i⟩ := ih s' h1
    rw [hdec a _ h2] at hp hf
    obtain ⟨e', u⟩ := hf
    refine ⟨by rw [e, e']; rfl, ?_⟩
    rw [List.filter_append, List.map_append]
    refine all2_app i ?_
    simp only [List.filter_cons, hp, if_true, List.filter_nil, List.map_cons, List.map_nil]
    exact ⟨u, trivial⟩
end
section
variable {prog : Program} {w : World} {A : Around} {env : Env} {h : Heap} {b : Shared}
/- a comprehension that makes nothing but its list -/
theorem ev_compP {α β : Type} {V : α → Value → Prop} {U : β → Value → Prop} {elt iter : Expr} {x : Str} {px pos : Pos} {ifs : List Expr} {scope : Scope} {cl : List (Str × Addr)} {iv : Value} {base : List Addr} {n : Nat} {P : Nat → Value → Prop} (src : List α) (q : α → Bool) (g : α → β) (dec : Value → α)
    (hdec : ∀ a v, V a v → dec v = a) (hsrc : src.length = n) (hP : ∀ j v, P j v → ∃ a, src[j]? = some a ∧ V a v)
    (hclos : closureFor scope env = pure cl) (hi : EvP prog w A env b iter (· = iv)) (hI : IterOf prog w A b.heap iv base n P) (hn : n ≤ sizeLine)
    (ht : ∀ C b' m a v, V a v → a ∈ src → Up b b' → b'.heap.Ns C m → m x = some v → TestsTo prog w A (compEnvC scope cl C env) b' ifs (q a))
    (he : ∀ C b' m a v, V a v → a ∈ src → q a = true → Up b b' → b'.heap.Ns C m → m x = some v → EvP prog w A (compEnvC scope cl C env) b' elt (U (g a)))
    (hcell : ∀ y ∈ scope.names, y.2 ≠ .cell) (hkind : scope.kind = .function) (hnames : ∀ y ∈ scope.names, y.2 = .local → scope.names.lookup y.1 = some .local) (hx : scope.names.lookup x = some .local)
    (hs : ∀ x, foldedSetIterable iter env x = pure x := by intro _; rfl) :
    EvN prog w A env b (.ListComp elt [⟨.Name x px, iter, ifs, 0⟩] scope pos) (fun r nw => ∃ D ys k, r = .ref D ∧ nw = [(D, LO ys k)] ∧ All2 U ((src.filter q).map g) ys) := by
  refine (ev_comp (fun v => q (dec v)) (fun v y nw => nw = [] ∧ U (g (dec v)) y) hclos hi hI hn (fun C b' m i v hp u hn hm => ?_) (fun C b' m i v hp hq u hn hm => ?_) hcell hkind hnames hx hs).mono ?_
  · obtain ⟨a, ha, hv⟩ := hP i v hp
    rw [hdec a v hv]
    exact ht C b' m a v hv (List.mem_of_getElem? ha) u hn hm
  · obtain ⟨a, ha, hv⟩ := hP i v hp
    rw [hdec a v hv] at hq ⊢
    exact (he C b' m a v hv (List.mem_of_getElem? ha) hq u hn hm).toN
  · intro v s s' up kp hq; obtain ⟨nw, hnew, D, ys, k, vs, nw', rfl, rfl, hl, hvs, hm⟩ := hq
    have hall : All2 V src vs := all2_of (by lia) fun j a v e e' => by
      obtain ⟨a', ea, hv⟩ := hP j v (hvs j v e')
      rw [e] at ea; cases ea; exact hv
    obtain ⟨rfl, hy⟩ := made_all2 hdec hm src hall
    exact ⟨_, hnew, D, ys, k, rfl, rfl, hy⟩
theorem iter_str (hh : A.handled = none) (x : Str) (t : Tok) : IterOf prog w A h (.str x t) [] x.cps.size (SignAt x) := by
  refine ⟨(fun _ hb => nomatch hb), fun s E Q st k => ?_⟩
  have key : ∀ (ty : String) (o : Obj), (∀ A' : Around, A'.handled = none → Walks prog w A' s.heap.objs.size [s.heap.objs.size] [s.heap.objs.size] x.cps.size (SignAt x) (fun i h => h.IsStrIter s.heap.objs.size ty x t i)) → (s.heap.push o).IsStrIter s.heap.objs.size ty x t 0 →
      Q (.ref s.heap.objs.size) { s with heap := s.heap.push o } := fun ty o W hst =>
    k s.heap.objs.size _ _ ⟨W A hh, fun i h x => by obtain ⟨o, ho, _⟩ := x; exact ⟨o, ho⟩⟩ hst (stays_push _ _) (get_none_of_size s.heap 0)
  cases ha : x.cps.all (· < 128)
  · exact wpAny_pyIter_wide ha (key _ _ (fun A' hA => Walks.strWide hA _ x t) ⟨_, Heap.get?_push_size _ rfl, rfl, rfl⟩)
  · exact wpAny_pyIter_ascii ha (key _ _ (fun A' hA => Walks.strAscii hA _ x t) ⟨_, Heap.get?_push_size _ rfl, rfl, rfl⟩)
noncomputable def txt (v : Value) : List Nat := match v with | .str x _ => x.cps.toList | _ => []
theorem txt_is {a : List Nat} {v : Value} (h : IsS (ofL a) v) : txt v = a := by
  obtain ⟨t, rfl⟩ := h
  rfl
/- a list of texts -/
noncomputable abbrev TL (xs : List (List Nat)) (ys : List Value) : Prop := All2 (fun x v => IsS (ofL x) v) xs ys
theorem tl_strs : ∀ {xs : List (List Nat)} {ys : List Value}, TL xs ys → ∃ l : List (Str × Tok), ys = strValues l ∧ l.map (·.1) = xs.map ofL
  | [], [], _ => ⟨[], rfl, rfl⟩
  | x :: xs, v :: vs, h => by
    obtain ⟨t, e⟩ := h.1
    obtain ⟨l, e1, e2⟩ := tl_strs h.2
    exact ⟨(ofL x, t) :: l, by rw [e, e1]; rfl, by rw [List.map_cons, e2]; rfl⟩
  | [], _ :: _, h => h.elim
  | _ :: _, [], h => h.elim
theorem join_empty : ∀ xs : List (List Nat), Str.join (ofL []) (xs.map ofL) = ofL xs.flatten
  | [] => rfl
  | [x] => by simp [Str.join]
  | x :: y :: r => by
    have ih := join_empty (y :: r)
    show ofL x ++ ofL [] ++ Str.join (ofL []) ((y :: r).map ofL) = _
    rw [ih, ofL_app, ofL_app]
    simp
/- ''.join(l) -/
theorem ev_join {o e : Expr} {apos pos : Pos} {xs : List (List Nat)} (hz : xs.flatten.length ≤ sizeLine) (ho : EvP prog w A env b o (IsS (ofL []))) (he : EvN prog w A env b e (fun r nw => ∃ D ys k, r = .ref D ∧ nw = [(D, LO ys k)] ∧ TL xs ys))
    (hbase : attributeBase o "join" env (eval o env) = eval o env := by rfl) (hline : (apos.endLine == pos.line) = true := by rfl) (hp : starEach [e] env = [(false, eval e env)] := by rfl) :
    EvP prog w A env b (.Call (.Attribute o "join" apos) [e] [] pos) (IsS (ofL xs.flatten)) :=
  ev_method back_P ho (T := "str") (id := "str.join") F.plainAttrs_str F.slot_str_join F.type_str_join (fun v s _ hq => by obtain ⟨t, e⟩ := hq; exact ⟨by rw [e]; exact typeIs_str _ _ t, fun a e' => by rw [e] at e'; cases e'⟩)
    (args_consT he args0 hp) (fun ov vs s s₁ E up up₁ hq7 hv => by
      obtain ⟨t, e⟩ := hq7
      obtain ⟨v1, r, s2, rfl, k1, k2, ⟨nw, hnew, D, ys, k, rfl, rfl, hL⟩, rfl⟩ := hv
      subst e
      obtain ⟨l, rfl, el⟩ := tl_strs hL
      have hD := k2.up.st _ _ (hnew.1 _ List.mem_cons_self).1
      refine call_meets F.slot_str_join (typeIs_str _ _ _) F.entry_str_join (F.args_str_join_2 _ _) (meets_str_join_list (ofL []) t D l ?_) ⟨⟨_, hD, rfl, k, rfl⟩, ?_⟩
      · rw [el]
        have e1 := StrLaws.joinTotal (ofL []) (xs.map ofL)
        have e2 : (((xs.map ofL)).map (·.length)).sum = xs.flatten.length := by
          rw [List.map_map, List.length_flatten]
          congr 1
        rw [e2, ofL_length, List.length_nil, Nat.mul_zero, Nat.add_zero] at e1
        unfold Builtin.Str.tooLong
        exact decide_eq_false (by rw [ofL_length, List.length_nil] at *; lia)
      · have hj := join_empty xs
        rw [← el] at hj
        unfold joinMade
        split
        · rename_i p
          exact ⟨keeps_refl s₁, p.2, by
            have : p.1 = ofL xs.flatten := hj
            rw [← this]⟩
        · rw [StrLaws.glued_eq_join, hj]
          exact ⟨by rw [ofL_length]; exact hz, keeps_toks s₁ _, _, rfl⟩) hbase (by rfl) hline
end
end

/- F6 -/
/- list.append, list.extend as statements -/
section
open PySem PySem.W PyProof.Rows PySem.Calls
section
variable {prog : Program} {w : World} {A : Around} {env : Env} {h₀ : Heap} {m cm : List (Str × Value)} {led : List (Addr × Obj)} {s₀ : Shared} {h : Heap} {tk : Nat} {rest : List Stmt} {Q : Flow → Shared → Prop} {E : Value → Shared → Prop}
/- a method's call, with what one likes behind it -/
theorem a_method {s : Shared} {o : Expr} {name : Str} {apos pos : Pos} {es : List Expr} {ov : Value} {T id : String} {P : List Value → Shared → Shared → Prop} {R : Value → Shared → Prop} (ho : EvP prog w A env s o (· = ov))
    (pa : PlainAttrs T) (slot : Slot T name id) (hty : typeOf (.builtin id) = pure (.type "method_descriptor"))
    (hT : ∀ s', Up s s' → s'.TypeIs ov T ∧ ∀ a, ov = .ref a → ∃ o : Obj, s'.heap.get? a = some o ∧ o.dict = none)
    (ha : ArgsTo prog w A env s es P)
    (hcall : ∀ vs s₁ s₂, Kp s s₁ → Kp s₁ s₂ → P vs s₁ s₂ → wpAny (model prog w) A (call (.builtin id) (ov :: vs)) R E s₂)
    (hbase : attributeBase o name env (eval o env) = eval o env := by rfl) (hlen : decide (es.length < 30) = true := by rfl) (hline : (apos.endLine == pos.line) = true := by rfl) :
    wpAny (model prog w) A (eval (.Call (.Attribute o name apos) es [] pos) env) R E s := by
  have hplain := backTo_plain (pos := pos) ha.1
  have hl : es.length < 30 := of_decide_eq_true hlen
  refine wpAny_Call_method (T := T) (id := id) hbase ?_ hline pa slot hty (wpAny_mono (ho s E (Up.refl s)) (fun v s₁ q => ?_) fun _ _ e => e)
  · have h1 : (backTo pos (starEach es env)).all (fun x => !x.1) = true := by
      rw [List.all_eq_true]
      intro x hx
      rw [List.any_eq_false] at hplain
      simpa using hplain x hx
    rw [h1]
    show (true && true && decide (es.length + 0 + 0 < 30)) = true
    rw [decide_eq_true (by lia)]; rfl
  · obtain ⟨k, rfl⟩ := q
    obtain ⟨h1, h2⟩ := hT s₁ k.up
    refine ⟨h1, h2, Calls.callWith_builtin hplain (evalArgs_any hplain (wpAny_mono (ha.2 pos s₁ E k.up) (fun vs s₂ q => ?_) fun _ _ e => e))⟩
    exact hcall vs s₁ s₂ k q.1 q.2
theorem tyLO {s : Shared} {a : Addr} {ys : List Value} {n : Nat} (e : s.heap.get? a = some (LO ys n)) : s.TypeIs (.ref a) "list" := ⟨_, e, rfl⟩
/- x.append(e) of a list that the frame made -/
theorem t_append {o e : Expr} {apos pos epos : Pos} {P : Value → List (Addr × Obj) → Prop} {a : Addr} {ys : List Value} {n : Nat} {pre post : List (Addr × Obj)} (S : Sta h₀ env.locals env.cells m cm (pre ++ (a, LO ys n) :: post) h)
    (ho : EvP prog w A env { s₀ with heap := h, toks := tk } o (· = .ref a)) (he : EvN prog w A env { s₀ with heap := h, toks := tk } e P) (hz : ys.length ≤ sizeLine)
    (k : ∀ v nw n' h' tk', tk ≤ tk' → P v nw → Sta h₀ env.locals env.cells m cm (nw ++ pre ++ (a, LO (ys ++ [v]) n') :: post) h' → wpAny (model prog w) A (execs rest env) Q E { s₀ with heap := h', toks := tk' })
    (hbase : attributeBase o "append" env (eval o env) = eval o env := by rfl) (hp : starEach [e] env = [(false, eval e env)] := by rfl) (hline : (apos.endLine == pos.line) = true := by rfl)
    (hi' : interactive env = false := by rfl) (hs : swapsWith (.Call (.Attribute o "append" apos) [e] [] pos) none epos.line env = pure false := by rfl) :
    wpAny (model prog w) A (execs (.Expr (.Call (.Attribute o "append" apos) [e] [] pos) epos :: rest) env) Q E { s₀ with heap := h, toks := tk } := by
  have hb : h.get? a = some (LO ys n) := (S.objs (a, LO ys n) (by simp)).1
  refine s_expr (a_method (T := "list") (id := "list.append") ho F.plainAttrs_list slot_list_append type_list_append (fun s' u => ?_) (args_consT he args0 hp) (fun vs s₁ s₂ k₁ k₂ hv => ?_) hbase (by rfl) hline) hi' hs
  · have := u.st _ _ hb
    exact ⟨tyLO this, fun a' e => by cases e; exact ⟨_, this, rfl⟩⟩
  · obtain ⟨v, r, s₃, rfl, k₃, k₄, ⟨nw, hnew, hP⟩, rfl⟩ := hv
    have kp := k₁.trans k₂
    obtain ⟨h₂, tk₂, rfl, st, ht⟩ := kp.cases
    dsimp only at st ht ⊢
    refine list_append_at (st _ _ hb) hz fun h' n' ho' hs' => ⟨(fun _ e => nomatch e), ?_⟩
    have S₂ : Sta h₀ env.locals env.cells m cm (nw ++ (pre ++ (a, LO ys n) :: post)) h₂ := S.add st ((hnew.back k₁.up.st).up k₄.up.st)
    rw [← List.append_assoc] at S₂
    exact k v nw n' h' tk₂ ht hP (S₂.turn rfl (fun c o hc e => hs'.extBut c o hc e) ho')
/- x.extend(e) with a list -/
theorem t_extend {o e : Expr} {apos pos epos : Pos} {P : Value → List (Addr × Obj) → Prop} {a : Addr} {ys : List Value} {n : Nat} {pre post : List (Addr × Obj)} (S : Sta h₀ env.locals env.cells m cm (pre ++ (a, LO ys n) :: post) h)
    (ho : EvP prog w A env { s₀ with heap := h, toks := tk } o (· = .ref a)) (he : EvN prog w A env { s₀ with heap := h, toks := tk } e (fun r nw => ∃ D zs k nw', r = .ref D ∧ nw = (D, LO zs k) :: nw' ∧ zs.length ≤ 1000 ∧ P r nw)) (hz : ys.length ≤ 1000)
    (k : ∀ D zs j nw' n' h' tk', tk ≤ tk' → P (.ref D) ((D, LO zs j) :: nw') → Sta h₀ env.locals env.cells m cm (((D, LO zs j) :: nw') ++ pre ++ (a, LO (ys ++ zs) n') :: post) h' → wpAny (model prog w) A (execs rest env) Q E { s₀ with heap := h', toks := tk' })
    (hbase : attributeBase o "extend" env (eval o env) = eval o env := by rfl) (hp : starEach [e] env = [(false, eval e env)] := by rfl) (hline : (apos.endLine == pos.line) = true := by rfl)
    (hi' : interactive env = false := by rfl) (hs : swapsWith (.Call (.Attribute o "extend" apos) [e] [] pos) none epos.line env = pure false := by rfl) :
    wpAny (model prog w) A (execs (.Expr (.Call (.Attribute o "extend" apos) [e] [] pos) epos :: rest) env) Q E { s₀ with heap := h, toks := tk } := by
  have hb : h.get? a = some (LO ys n) := (S.objs (a, LO ys n) (by simp)).1
  have hsz : sizeLine = 16777216 := by decide
  refine s_expr (a_method (T := "list") (id := "list.extend") ho F.plainAttrs_list F.slot_list_extend F.type_list_extend (fun s' u => ?_) (args_consT he args0 hp) (fun vs s₁ s₂ k₁ k₂ hv => ?_) hbase (by rfl) hline) hi' hs
  · have := u.st _ _ hb
    exact ⟨tyLO this, fun a' e => by cases e; exact ⟨_, this, rfl⟩⟩
  · obtain ⟨v, r, s₃, rfl, k₃, k₄, ⟨nw, hnew, D, zs, j, nw', rfl, rfl, hzs, hP⟩, rfl⟩ := hv
    have kp := k₁.trans k₂
    have hD := k₄.up.st _ _ (hnew.1 _ List.mem_cons_self).1
    obtain ⟨h₂, tk₂, rfl, st, ht⟩ := kp.cases
    dsimp only at st ht hD ⊢
    have hnt : ¬ ((!ys.toArray.isEmpty && Builtin.List.listTooLong (ys.toArray.size + zs.toArray.size)) = true) := by
      have : Builtin.List.listTooLong (ys.toArray.size + zs.toArray.size) = false := by
        unfold Builtin.List.listTooLong
        refine decide_eq_false ?_
        rw [List.size_toArray, List.size_toArray]
        lia
      rw [this, Bool.and_false]
      exact Bool.false_ne_true
    refine call_meets F.slot_list_extend (tyLO (st _ _ hb)) F.entry_list_extend (F.args_list_extend_2 _ _) (AutoSeq1.list_extend_list_list_0 a ys.toArray n D zs.toArray j hnt (by simp; lia) (by simp; lia)) ⟨st _ _ hb, hD, ?_⟩
    refine ⟨(fun _ e => nomatch e), ?_⟩
    have S₂ : Sta h₀ env.locals env.cells m cm (((D, LO zs j) :: nw') ++ (pre ++ (a, LO ys n) :: post)) h₂ := S.add st ((hnew.back k₁.up.st).up k₄.up.st)
    rw [← List.append_assoc] at S₂
    refine k D zs j nw' (if (ys.toArray ++ zs.toArray).size == ys.toArray.size then n else n + 1) _ tk₂ ht hP (S₂.turn rfl (fun c o hc e => (Heap.SameBut.update ..).extBut c o hc e) ?_)
    rw [Heap.get?_update_self _ (st _ _ hb) rfl]
    simp [Obj.mapSeq]
end
end

/- F7 -/
/- for over a list, told flat -/
section
open PySem PySem.W PyProof.Rows PySem.Calls
theorem isList_LO {h : Heap} {l : Addr} {ys : List Value} {k : Nat} (e : h.get? l = some (LO ys k)) : h.IsList l ys.toArray := ⟨_, e, rfl, k, rfl⟩
namespace Sta
theorem sub {h₀ h : Heap} {L : Addr} {cs : List (Str × Addr)} {m cm : List (Str × Value)} {led led' : List (Addr × Obj)} (S : Sta h₀ L cs m cm led h) (hs : led'.Sublist led) : Sta h₀ L cs m cm led' h :=
  S.drop (fun p hp => hs.subset hp) ((hs.map _).nodup S.nod)
end Sta
section
variable {prog : Program} {w : World} {A : Around} {env : Env} {h₀ : Heap} {m cm : List (Str × Value)} {led : List (Addr × Obj)} {s₀ : Shared} {h : Heap} {tk : Nat} {rest : List Stmt} {Q : Flow → Shared → Prop} {E : Value → Shared → Prop}
/- for x in l -/
theorem t_forL {x : Str} {px pos : Pos} {iter : Expr} {body : List Stmt} {l : Addr} {ys : List Value} {n : Nat} (hh : A.handled = none) (K : Nat → List (Str × Value) → List (Str × Value) → List (Addr × Obj) → Prop)
    (S : Sta h₀ env.locals env.cells m cm led h) (hi : EvP prog w A env { s₀ with heap := h, toks := tk } iter (· = .ref l)) (h0 : K 0 m cm led)
    (hl : ∀ i m₁ cm₁ led₁ h₁, K i m₁ cm₁ led₁ → Sta h₀ env.locals env.cells m₁ cm₁ led₁ h₁ → h₁.get? l = some (LO ys n))
    (hbody : ∀ i v m₁ cm₁ led₁ I h₁ tk₁ E', tk ≤ tk₁ → ys[i]? = some v → K i m₁ cm₁ led₁ → Sta h₀ env.locals env.cells ((x, v) :: m₁) cm₁ (I :: led₁) h₁ →
        wpAny (model prog w) A (execs body env) (TurnEnd h₀ env (K (i + 1)) I Q { s₀ with heap := h₁, toks := tk₁ }) E' { s₀ with heap := h₁, toks := tk₁ })
    (hafter : ∀ m₁ cm₁ led₁ h₁ tk₁, tk ≤ tk₁ → K ys.length m₁ cm₁ led₁ → Sta h₀ env.locals env.cells m₁ cm₁ led₁ h₁ → wpAny (model prog w) A (execs rest env) Q E { s₀ with heap := h₁, toks := tk₁ })
    (hx : env.kindOf x = some .local := by rfl) (hkd : env.scope.kind = .function := by rfl)
    (hs : ∀ x, foldedSetIterable iter env x = pure x := by intro _; rfl) :
    wpAny (model prog w) A (execs (.For (.Name x px) iter body [] pos :: rest) env) Q E { s₀ with heap := h, toks := tk } := by
  refine s_for (s := { s₀ with heap := h, toks := tk }) (Pit := fun v nw => nw = [] ∧ v = .ref l) K S hi.toN (fun v nw h₁ hp S₁ => ?_) hx hkd hs
  obtain ⟨rfl, rfl⟩ := hp
  have hl₁ := hl 0 _ _ _ _ h0 S₁
  refine ⟨_, _, _, iter_list hh (isList_LO hl₁), h0, fun b hb => ?_, fun i v m₁ cm₁ led₁ I h₂ tk₂ E' ht hlt hv hK S₂ => ?_, fun m₁ cm₁ led₁ h₂ tk₂ ht hK S₂ => ?_⟩
  · rw [List.mem_singleton.mp hb]
    exact ⟨_, hl⟩
  · exact hbody i v m₁ cm₁ led₁ I h₂ tk₂ E' ht (by simpa using hv) hK S₂
  · exact hafter m₁ cm₁ led₁ h₂ tk₂ ht (by simpa using hK) S₂
/- two cells are bound -/
theorem st_cells {a b : Str} {ca cb : Addr} (ha : env.cells.lookup a = some ca) (hb : env.cells.lookup b = some cb) (hka : env.kindOf a = some .cell) (hkb : env.kindOf b = some .cell) (hkd : env.scope.kind = .function) :
    ∀ va vb m₁ cm₁ led₁ (s₁ : Shared) (Q' : Unit → Shared → Prop) E', Sta h₀ env.locals env.cells m₁ cm₁ led₁ s₁.heap → (∀ h' tk, s₁.toks ≤ tk → Sta h₀ env.locals env.cells m₁ ((b, vb) :: (a, va) :: cm₁) led₁ h' → Q' () { s₁ with heap := h', toks := tk }) →
      wpAny (model prog w) A (storeName env a va) (fun _ s₂ => wpAny (model prog w) A (storeName env b vb) Q' E' s₂) E' s₁ := by
  intro va vb m₁ cm₁ led₁ s₁ Q' E' S k
  refine bindCell S ha (fun h₁ tk₁ ht₁ S₁ => ?_) hka hkd
  exact bindCell (s := { s₁ with heap := h₁, toks := tk₁ }) S₁ hb (fun h₂ tk₂ ht₂ S₂ => k h₂ tk₂ (Nat.le_trans ht₁ ht₂) S₂) hkb hkd
theorem st_locals {a b : Str} (hka : env.kindOf a = some .local) (hkb : env.kindOf b = some .local) (hkd : env.scope.kind = .function) :
    ∀ va vb m₁ cm₁ led₁ (s₁ : Shared) (Q' : Unit → Shared → Prop) E', Sta h₀ env.locals env.cells m₁ cm₁ led₁ s₁.heap → (∀ h' tk, s₁.toks ≤ tk → Sta h₀ env.locals env.cells ((b, vb) :: (a, va) :: m₁) cm₁ led₁ h' → Q' () { s₁ with heap := h', toks := tk }) →
      wpAny (model prog w) A (storeName env a va) (fun _ s₂ => wpAny (model prog w) A (storeName env b vb) Q' E' s₂) E' s₁ := by
  intro va vb m₁ cm₁ led₁ s₁ Q' E' S k
  refine bindLocal S (fun h₁ tk₁ ht₁ S₁ => ?_) hka hkd
  exact bindLocal (s := { s₁ with heap := h₁, toks := tk₁ }) S₁ (fun h₂ tk₂ ht₂ S₂ => k h₂ tk₂ (Nat.le_trans ht₁ ht₂) S₂) hkb hkd
/- a list of pairs -/
noncomputable abbrev PL {α : Type} (h : Heap) (G : α → Value → Value → Prop) (ps : List α) (ys : List Value) : Prop := All2 (fun p v => ∃ t va vb, v = .ref t ∧ h.get? t = some (TO [va, vb]) ∧ G p va vb) ps ys
theorem PL.up {α : Type} {h h' : Heap} {G : α → Value → Value → Prop} {ps : List α} {ys : List Value} (x : PL h G ps ys) (k : h.StaysIn h') : PL h' G ps ys :=
  all2_mono (fun _ _ hq => by obtain ⟨t, va, vb, e, g, p⟩ := hq; exact ⟨t, va, vb, e, k _ _ g, p⟩) x
/- for a, b in l: the pairs stand in the heap that the frame found -/
theorem t_forPairs {α : Type} {a b : Str} {pa pb pt pos : Pos} {kk : Nat} {iter : Expr} {body : List Stmt} {l : Addr} {ys : List Value} {n : Nat} {ps : List α} {G : α → Value → Value → Prop} (hh : A.handled = none) (K : Nat → List (Str × Value) → List (Str × Value) → List (Addr × Obj) → Prop)
    (fm fc : Value → Value → List (Str × Value) → List (Str × Value))
    (S : Sta h₀ env.locals env.cells m cm led h) (hi : EvP prog w A env { s₀ with heap := h, toks := tk } iter (· = .ref l)) (h0 : K 0 m cm led)
    (hl : ∀ i m₁ cm₁ led₁ h₁, K i m₁ cm₁ led₁ → Sta h₀ env.locals env.cells m₁ cm₁ led₁ h₁ → h₁.get? l = some (LO ys n) ∧ PL h₁ G ps ys)
    (hst : ∀ va vb m₁ cm₁ led₁ (s₁ : Shared) (Q' : Unit → Shared → Prop) E', Sta h₀ env.locals env.cells m₁ cm₁ led₁ s₁.heap → (∀ h' tk, s₁.toks ≤ tk → Sta h₀ env.locals env.cells (fm va vb m₁) (fc va vb cm₁) led₁ h' → Q' () { s₁ with heap := h', toks := tk }) →
      wpAny (model prog w) A (storeName env a va) (fun _ s₂ => wpAny (model prog w) A (storeName env b vb) Q' E' s₂) E' s₁)
    (hbody : ∀ i p va vb m₁ cm₁ led₁ I h₁ tk₁ E', tk ≤ tk₁ → ps[i]? = some p → G p va vb → K i m₁ cm₁ led₁ → Sta h₀ env.locals env.cells (fm va vb m₁) (fc va vb cm₁) (I :: led₁) h₁ →
        wpAny (model prog w) A (execs body env) (TurnEnd h₀ env (K (i + 1)) I Q { s₀ with heap := h₁, toks := tk₁ }) E' { s₀ with heap := h₁, toks := tk₁ })
    (hafter : ∀ m₁ cm₁ led₁ h₁ tk₁, tk ≤ tk₁ → K ps.length m₁ cm₁ led₁ → Sta h₀ env.locals env.cells m₁ cm₁ led₁ h₁ → wpAny (model prog w) A (execs rest env) Q E { s₀ with heap := h₁, toks := tk₁ })
    (hs : ∀ x, foldedSetIterable iter env x = pure x := by intro _; rfl) :
    wpAny (model prog w) A (execs (.For (.Tuple [.Name a pa, .Name b pb] kk pt) iter body [] pos :: rest) env) Q E { s₀ with heap := h, toks := tk } := by
  have hlen : ps.length = ys.length := all2_length (hl _ _ _ _ _ h0 S).2
  refine s_forPairs (s := { s₀ with heap := h, toks := tk }) (l := l) (items := ys.toArray) K fm fc hh S hi h0 (fun i m cm led h hK S => isList_LO (hl _ _ _ _ _ hK S).1) (fun i va vb => ∃ p, ps[i]? = some p ∧ G p va vb) (fun i v m cm led h hv hK S => ?_) hst
    (fun i va vb m₁ cm₁ led₁ I h₁ tk₁ E' ht hlt hG hK S => ?_) (fun m₁ cm₁ led₁ h₁ tk₁ ht hK S => ?_) hs
  · have hv' : ys[i]? = some v := by simpa using hv
    have hlt : i < ps.length := by
      have := (List.getElem?_eq_some_iff.mp hv').1
      lia
    obtain ⟨v', e, t, va, vb, rfl, g, p⟩ := all2_get (hl _ _ _ _ _ hK S).2 (List.getElem?_eq_getElem hlt)
    rw [hv'] at e; cases e
    exact ⟨t, va, vb, rfl, isTup_TO g, _, List.getElem?_eq_getElem hlt, p⟩
  · obtain ⟨p, hp, hG⟩ := hG
    exact hbody i p va vb m₁ cm₁ led₁ I h₁ tk₁ E' ht hp hG hK S
  · exact hafter m₁ cm₁ led₁ h₁ tk₁ ht (by rw [hlen]; simpa using hK) S
end
end

/- C11 -/
/- _law_cells, walked -/
section
open PySem PySem.W PyProof.Rows PySem.Calls
section
variable {w : World} {A : Around} {s : Shared} {E : Value → Shared → Prop} {mean : ExcName → Option Value} {mg mb : Str → Option Value}
noncomputable def repAll (ts : List (Nat × List Nat)) (x : List Nat) : List Nat := ts.foldl (fun x p => rep p.1 p.2 x) x
noncomputable def cellOf (ts : List (Nat × List Nat)) (c : Nat) : List Nat := if c < 128 then repAll ts [c] else [c]
theorem repAll_succ {ts : List (Nat × List Nat)} {x : List Nat} {i : Nat} {p : Nat × List Nat} (h : ts[i]? = some p) : repAll (ts.take (i + 1)) x = rep p.1 p.2 (repAll (ts.take i) x) := by
  unfold repAll
  rw [List.take_add_one, h, Option.toList_some, List.foldl_append]; rfl
theorem rep_none {c : Nat} {z x : List Nat} (h : c ∉ x) : rep c z x = x := by
  induction x with
  | nil => rfl
  | cons d x ih =>
    simp only [List.mem_cons, not_or] at h
    rw [rep_cons, if_neg (fun e => h.1 e.symm), ih h.2]; rfl
/- a turn: the sign, what is laid for it -/
noncomputable abbrev IsTurn (p : Nat × List Nat) (a b : Value) : Prop := IsS (ofL [p.1]) a ∧ IsS (ofL p.2) b
theorem signAt_ofL (x : List Nat) (j : Nat) (v : Value) (h : SignAt (ofL x) j v) : ∃ a, x[j]? = some a ∧ IsS (ofL [a]) v := by
  obtain ⟨c, u, e, rfl⟩ := h
  exact ⟨c, by simpa [ofL] using e, u, rfl⟩
theorem c_cells {n : Nat} (G : G0 w mean mg mb s) (R : Room A (n + 2)) {sl tl : Addr} {sys tys : List Value} {sn tn : Nat} {signs : List Nat} {ts : List (Nat × List Nat)}
    (hsl : s.heap.get? sl = some (LO sys sn)) (hs : TL (signs.map ([·])) sys) (htl : s.heap.get? tl = some (LO tys tn)) (htt : PL s.heap IsTurn ts tys) (hz : ∀ c ∈ signs, ∀ i, (repAll (ts.take i) [c]).length ≤ 10000000) (hsn : signs.length ≤ 1000) :
    wpAny (model PR w) A (call (.ref 121) [.ref sl, .ref tl]) (fun v s' => Keeps s s' ∧ ∃ D ys k, v = .ref D ∧ NewIn s.heap s'.heap [(D, LO ys k)] ∧ TL (signs.map (cellOf ts)) ys) E s := by
  refine call_fnC (T := fun v s s' => ∃ D ys k, v = .ref D ∧ NewIn s.heap s'.heap [(D, LO ys k)] ∧ TL (signs.map (cellOf ts)) ys) f_cells G R (by kernel_rfl) (by rfl)
    (binds := [("signs", .ref sl), ("turns", .ref tl)]) (m := [("signs", .ref sl), ("turns", .ref tl)]) (cm := []) (by rfl) (by rfl) (by rfl) (by simp) (fun L p hp => ?_) (by simp) (by decide +kernel) fun L h₁ tk ht S E' => ?_
  · simp only [List.mem_cons, List.not_mem_nil, or_false] at hp
    rcases hp with rfl | rfl <;> rfl
  have hsz : sizeLine = 16777216 := by decide
  refine t_assignN S (P := fun v nw => ∃ D, v = .ref D ∧ nw = [(D, LO [] 0)]) ((ev_list (args0) (fun vs e => by rw [e]; decide)).mono ?_) ?_
  · intro v s₂ s₃ _ _ hq; obtain ⟨nw, hnew, t, vs, rfl, rfl, rfl⟩ := hq
    exact ⟨_, hnew, t, rfl, rfl⟩
  intro v nw h tk₁ ht₁ hq; obtain ⟨D, rfl, rfl⟩ := hq; intro S
  have S := sre (m' := [("cells", .ref D), ("signs", .ref sl), ("turns", .ref tl)]) S ⟨rfl, rfl, rfl, trivial⟩ (cm' := []) trivial
  refine t_forL (show (A.deeper _).handled = none from R.hh) (l := sl) (ys := sys) (n := sn) (fun i m cm led => m = ([("cells", .ref D), ("signs", .ref sl), ("turns", .ref tl)] : List (Str × Value)) ∧ cm = [] ∧ ∃ ys k, led = [(D, LO ys k)] ∧ TL ((signs.take i).map (cellOf ts)) ys)
    S (by ktr_rel) ⟨rfl, rfl, [], 0, rfl, trivial⟩ (fun i m₁ cm₁ led₁ h₁ hK S => S.keep _ _ hsl) (fun i v m₁ cm₁ led₁ I h tk₂ E' ht₂ hv hK S => ?_) (fun m₁ cm₁ led₁ h tk₂ ht₂ hK S => ?_)
  rotate_left
  · obtain ⟨rfl, rfl, ys, k, rfl, hT⟩ := hK
    have hl : sys.length = signs.length := by have := all2_length hs; simpa using this.symm
    rw [hl, List.take_length] at hT
    refine t_return (T := fun v _ _ => v = .ref D) (by ktr_rel) fun v h tk _ st p => ⟨⟨_, _, rfl, stays_trans S.keep st⟩, D, ys, k, p, ?_, hT⟩
    have hD := S.objs _ List.mem_cons_self
    exact ⟨fun q hq => by rw [List.mem_singleton.mp hq]; exact ⟨st _ _ hD.1, hD.2.1⟩, by simp⟩
  obtain ⟨rfl, rfl, ys, k, rfl, hT⟩ := hK
  have hlt : i < signs.length := by
    have := (List.getElem?_eq_some_iff.mp hv).1
    have := all2_length hs
    simp at this
    lia
  obtain ⟨v', ev, hsv⟩ := all2_get hs (j := i) (a := [signs[i]]) (by simp [hlt])
  rw [hv] at ev; cases ev
  obtain ⟨t1, rfl⟩ := hsv
  have hmem : signs[i] ∈ signs := List.getElem_mem hlt
  have htake : (signs.take (i + 1)).map (cellOf ts) = (signs.take i).map (cellOf ts) ++ [cellOf ts signs[i]] := by
    rw [List.take_add_one, List.getElem?_eq_getElem hlt, Option.toList_some, List.map_append]; rfl
  have hzi := hz _ hmem
  generalize signs[i] = c at *
  refine t_assign S (P := (· = .str (ofL [c]) t1)) (by ktr_rel) fun v h tk₃ ht₃ p S => ?_
  subst p
  refine t_ifj (fun h tk => ∃ t, Sta s.heap (callEnvC f_cells.val L 121).locals (callEnvC f_cells.val L 121).cells [("cell", .str (ofL (cellOf ts c)) t), ("cells", .ref D), ("signs", .ref sl), ("turns", .ref tl)] [] [I, (D, LO ys k)] h) S (c := decide ((c : Int) < 128))
    (evt_lt (ev_ord (gbuilt G S rfl rfl rfl) (n_local S rfl ⟨_, rfl⟩)) ev_int) (fun hc h tk₄ E' ht₄ S => ?_) (fun hc h tk₄ E' ht₄ S => ?_) fun h tk₄ ht₄ hK => ?_
  · have hc : c < 128 := by have := of_decide_eq_true hc; lia
    have ecell : cellOf ts c = repAll ts [c] := by unfold cellOf; rw [if_pos hc]
    refine t_forPairs (show (A.deeper _).handled = none from R.hh) (l := tl) (ys := tys) (n := tn) (ps := ts) (G := IsTurn) (fun i m cm led => (∃ t, m = ([("cell", .str (ofL (repAll (ts.take i) [c])) t), ("cells", .ref D), ("signs", .ref sl), ("turns", .ref tl)] : List (Str × Value))) ∧ cm = [] ∧ led = [I, (D, LO ys k)])
      (fun va vb m => m) (fun va vb cm => ("laid", vb) :: ("key", va) :: cm) (sre (m' := [("cell", .str (ofL [c]) t1), ("cells", .ref D), ("signs", .ref sl), ("turns", .ref tl)]) S ⟨rfl, rfl, rfl, rfl, trivial⟩ (cm' := []) trivial) (by ktr_rel) ⟨⟨t1, rfl⟩, rfl, rfl⟩
      (fun i m₁ cm₁ led₁ h₁ _ S => ⟨S.keep _ _ htl, htt.up S.keep⟩) (st_cells (ca := L + 1) (cb := L + 1 + 1) rfl rfl rfl rfl rfl) (fun j p va vb m₁ cm₁ led₁ I₂ h tk₅ E' ht₅ hp hG hK S => ?_) (fun m₁ cm₁ led₁ h tk₅ ht₅ hK S => ?_)
    rotate_left
    · obtain ⟨⟨t, rfl⟩, rfl, rfl⟩ := hK
      rw [List.take_length] at S
      refine s_nil ⟨h, tk₅, rfl, rfl, Nat.le_trans ht₄ ht₅, t, ?_⟩
      rw [ecell]; exact S
    obtain ⟨⟨t, rfl⟩, rfl, rfl⟩ := hK
    obtain ⟨⟨ta, rfl⟩, ⟨tb, rfl⟩⟩ := hG
    have hs1 := repAll_succ (x := [c]) hp
    have hz1 := hzi (j + 1)
    have hz0 := hzi j
    rw [hs1] at hz1
    generalize repAll (ts.take j) [c] = x at *
    refine t_ift S (c := decide (p.1 ∈ x)) (evt_inS (c := p.1) (by ktr_rel) (by ktr_rel)) (fun hc h tk₆ ht₆ S => ?_) fun hc h tk₆ ht₆ S => ?_
    · refine t_assign S (P := IsS (ofL (rep p.1 p.2 x))) ?_ fun v h tk₇ ht₇ q S => s_nil (s_nil ?_)
      · have hk := S.cell "key" _ rfl
        have hl := S.cell "laid" _ rfl
        obtain ⟨a1, b1, hk⟩ := hk
        obtain ⟨a2, b2, hl⟩ := hl
        have e1 : (callEnvC f_cells.val L 121).cells.lookup ("key" : Str) = some (L + 1) := rfl
        have e2 : (callEnvC f_cells.val L 121).cells.lookup ("laid" : Str) = some (L + 1 + 1) := rfl
        rw [e1] at b1; cases b1
        rw [e2] at b2; cases b2
        have ej : ((x.filter (fun _ => true)).map fun d => if d = p.1 then p.2 else [d]).flatten = rep p.1 p.2 x := by
          rw [List.filter_eq_self.mpr (fun _ _ => rfl)]; rfl
        rw [← ej] at hz1 ⊢
        refine ev_join (by lia) (by ktr_rel) (ev_compP (V := fun d v => IsS (ofL [d]) v) (U := fun y v => IsS (ofL y) v) x (fun _ => true) (fun d => if d = p.1 then p.2 else [d]) (fun v => (txt v).headD 0)
          (fun a v hv => by rw [txt_is hv]; rfl) (n := x.length) rfl (signAt_ofL x) (cl := [("laid", L + 1 + 1), ("key", L + 1)]) rfl (n_local S rfl rfl) (iter_str (show (A.deeper _).handled = none from R.hh) (ofL x) t) (by lia)
          (fun C b' m a v hv _ u hn hm => tests_nil) (fun C b' m a v hv _ _ u hn hm => ?_) (by decide) rfl (by decide) rfl)
        have hk' := hk.keeps u.st
        have hl' := hl.keeps u.st
        refine ev_ifexp back_P (c := ([a] == [p.1])) (evt_eqS (ev_local hn hm hv) (ev_cell rfl hk' ⟨_, rfl⟩)) (fun hc => ?_) fun hc => ?_
        · have : a = p.1 := by simpa using hc
          rw [if_pos this]
          exact ev_cell rfl hl' ⟨_, rfl⟩
        · have : a ≠ p.1 := by simpa using hc
          rw [if_neg this]
          exact ev_local hn hm hv
      · obtain ⟨t', rfl⟩ := q
        refine ⟨h, tk₇, _, _, _, rfl, Nat.le_trans ht₆ ht₇, sre (m' := [("cell", .str (ofL (rep p.1 p.2 x)) t'), ("cells", .ref D), ("signs", .ref sl), ("turns", .ref tl)]) S ⟨rfl, rfl, rfl, rfl, trivial⟩ (cm' := []) trivial, ⟨t', by rw [hs1]⟩, rfl, rfl⟩
    · have : rep p.1 p.2 x = x := rep_none (of_decide_eq_false hc)
      rw [this] at hs1
      exact s_nil ⟨h, tk₆, _, _, _, rfl, ht₆, sre (m' := [("cell", .str (ofL x) t), ("cells", .ref D), ("signs", .ref sl), ("turns", .ref tl)]) S ⟨rfl, rfl, rfl, rfl, trivial⟩ (cm' := []) trivial, ⟨t, by rw [hs1]⟩, rfl, rfl⟩
  · have hc : ¬ c < 128 := by have := of_decide_eq_false hc; lia
    have ecell : cellOf ts c = [c] := by unfold cellOf; rw [if_neg hc]
    refine s_nil ⟨h, tk₄, rfl, rfl, ht₄, t1, ?_⟩
    rw [ecell]
    exact sre S ⟨rfl, rfl, rfl, rfl, trivial⟩ trivial
  · obtain ⟨t, S⟩ := hK
    have hyl := all2_length hT
    rw [List.length_map, List.length_take] at hyl
    refine t_append (pre := [I]) (post := []) (P := fun v nw => nw = [] ∧ v = .str (ofL (cellOf ts c)) t) S (by ktr_rel) (Ev.toN (by ktr_rel)) (by lia) fun v nw n' h tk₅ ht₅ q S => s_nil ?_
    obtain ⟨rfl, rfl⟩ := q
    refine ⟨h, tk₅, _, _, _, rfl, Nat.le_trans ht₃ (Nat.le_trans ht₄ ht₅), sre (m' := [("cells", .ref D), ("signs", .ref sl), ("turns", .ref tl)]) S ⟨rfl, rfl, rfl, trivial⟩ (cm' := []) trivial, rfl, rfl, _, _, rfl, ?_⟩
    rw [htake]
    exact all2_app hT ⟨⟨t, rfl⟩, trivial⟩
end
end

/- F8 -/
/- a dict of texts: its keys walked, asked, its items read -/
section
open PySem PySem.W PyProof.Rows PySem.Calls
theorem valueAt_DO (k : List Nat) : ∀ l : List Ent, valueAt (l.map pairOf) (ofL k) = (l.find? fun e => decide (e.k = k)).map Ent.val
  | [] => rfl
  | e :: l => by
    have ih := valueAt_DO k l
    unfold valueAt at ih ⊢
    rw [List.map_cons, List.find?_cons, List.find?_cons]
    by_cases h : e.k = k
    · have h1 : decide ((pairOf e).1 = ofL k) = true := decide_eq_true (by rw [← h]; rfl)
      rw [h1, decide_eq_true h]; rfl
    · have h1 : decide ((pairOf e).1 = ofL k) = false := decide_eq_false fun q => h (ofL_inj q)
      rw [h1, decide_eq_false h]; exact ih
theorem find_words (k : List Nat) : ∀ l : List Ent, (l.find? fun e => decide (e.k = k)).map (·.z) = (wordsOf l).lookup k
  | [] => rfl
  | e :: l => by
    have ih := find_words k l
    show _ = List.lookup k ((e.k, e.z) :: wordsOf l)
    rw [List.find?_cons, List.lookup_cons]
    by_cases h : e.k = k
    · rw [decide_eq_true h, show (k == e.k) = true from by rw [h]; simp]; rfl
    · rw [decide_eq_false h, show (k == e.k) = false from beq_eq_false_iff_ne.mpr (fun q => h q.symm)]; exact ih
theorem some_words (k : List Nat) (l : List Ent) : (valueAt (l.map pairOf) (ofL k)).isSome = decide (k ∈ keysOf l) := by
  rw [valueAt_DO]
  rw [Option.isSome_map]
  by_cases h : k ∈ keysOf l
  · rw [decide_eq_true h]
    obtain ⟨e, he, hk⟩ := List.mem_map.mp h
    rw [List.find?_isSome]
    exact ⟨e, he, by simpa using hk⟩
  · rw [decide_eq_false h]
    cases q : l.find? fun e => decide (e.k = k) with
    | none => rfl
    | some e =>
      have h1 := List.mem_of_find?_eq_some q
      have h2 := List.find?_some q
      exact absurd (List.mem_map.mpr ⟨e, h1, by simpa using h2⟩) h
section
variable {prog : Program} {w : World} {A : Around} {env : Env} {h : Heap} {b : Shared}
theorem iter_dict (hh : A.handled = none) {d : Addr} {l : List Ent} {ep : Nat} (hd : h.get? d = some (DO w l ep)) (hdS : (d == sysModules) = false) (hn : (keysOf l).Nodup) :
    IterOf prog w A h (.ref d) [d] l.length (fun i v => ∃ e, l[i]? = some e ∧ IsS (ofL e.k) v) := by
  refine ⟨fun b hb => by rw [List.mem_singleton.mp hb]; exact ⟨_, hd⟩, fun s E Q st k => ?_⟩
  have hds := st _ _ hd
  refine wpAny_pyIter_dict (knd := PySem.strKind prog w) hdS (dictAt_DO hds hn) ?_
  have hne : d ≠ s.heap.objs.size := Nat.ne_of_lt (Heap.lt_size hds)
  have W := Walks.dictKeys (prog := prog) (w := w) (knd := PySem.strKind prog w) hh s.heap.objs.size d hne (l.map pairOf) ep
  refine k s.heap.objs.size (fun i h => h.IsKeyIter s.heap.objs.size d i (l.map pairOf).length ep ∧ h.DictAt (PySem.strKind prog w) d (l.map pairOf) ep) _ ⟨⟨W.sub, W.frame, fun i s Q E hi st hQ => ?_, fun s Q E st hQ => ?_, W.self⟩, fun i h x => by obtain ⟨⟨o, ho, _⟩, _⟩ := x; exact ⟨o, ho⟩⟩
    ⟨⟨_, Heap.get?_push_size _ rfl, rfl, rfl⟩, (dictAt_DO hds hn).push _⟩ (stays_push _ _) (get_none_of_size s.heap 0)
  · refine W.item i s Q E (by rw [List.length_map]; exact hi) st fun v h' tk hv h1 h2 => hQ v h' tk ?_ h1 h2
    obtain ⟨k, x, e, hk⟩ := hv
    rw [List.getElem?_map, Option.map_eq_some_iff] at e
    obtain ⟨en, he, e2⟩ := e
    cases e2
    obtain ⟨t, e3⟩ := Value.isStrOf_shape hk
    exact ⟨en, he, t, e3⟩
  · exact W.done s Q E (by have := st; rw [show l.length = (l.map pairOf).length from (List.length_map ..).symm] at this; exact this) hQ
theorem in_D {d : Addr} {l : List Ent} {ep : Nat} {k : List Nat} (hd : b.heap.get? d = some (DO w l ep)) (hdS : (d == sysModules) = false) (hn : (keysOf l).Nodup) {s : Shared} {E : Value → Shared → Prop} (up : Up b s) {u v : Value} (hu : IsS (ofL k) u) (hv : v = .ref d) :
    wpAny (model prog w) A (compareOp .In u v) (fun x s' => Keeps s s' ∧ x = .bool (decide (k ∈ keysOf l))) E s := by
  obtain ⟨t, rfl⟩ := hu
  subst hv
  refine wpAny_in_of (knd := PySem.strKind prog w) (strKind_is prog w (ofL k) t) hdS (dictOf_DO (up.st _ _ hd) hn).mapOf ⟨keeps_toks s _, ?_⟩
  rw [some_words]
theorem evt_inD {l' r : Expr} {pos : Pos} {d : Addr} {l : List Ent} {ep : Nat} {k : List Nat} (ha : EvP prog w A env b l' (IsS (ofL k))) (hb : EvP prog w A env b r (· = .ref d)) (hd : b.heap.get? d = some (DO w l ep)) (hdS : (d == sysModules) = false) (hn : (keysOf l).Nodup)
    (hm : behindInMarks .In r = false := by with_unfolding_all rfl) : EvT prog w A env b (.Compare l' [.In] [r] pos) (decide (k ∈ keysOf l)) :=
  evt_compare ha hb (fun u v s E up hu hv => in_D hd hdS hn up hu hv) hm
theorem evt_ninD {l' r : Expr} {pos : Pos} {d : Addr} {l : List Ent} {ep : Nat} {k : List Nat} (ha : EvP prog w A env b l' (IsS (ofL k))) (hb : EvP prog w A env b r (· = .ref d)) (hd : b.heap.get? d = some (DO w l ep)) (hdS : (d == sysModules) = false) (hn : (keysOf l).Nodup)
    (hm : behindInMarks .NotIn r = false := by with_unfolding_all rfl) : EvT prog w A env b (.Compare l' [.NotIn] [r] pos) (!decide (k ∈ keysOf l)) :=
  evt_compare ha hb (fun u v s E up hu hv => by
    obtain ⟨t, rfl⟩ := hu
    subst hv
    refine wpAny_notIn_of (knd := PySem.strKind prog w) (strKind_is prog w (ofL k) t) hdS (dictOf_DO (up.st _ _ hd) hn).mapOf ⟨keeps_toks s _, ?_⟩
    rw [some_words]) hm
theorem ev_itemD {o i : Expr} {pos : Pos} {d : Addr} {l : List Ent} {ep : Nat} {k z : List Nat} (ho : EvP prog w A env b o (· = .ref d)) (hi : EvP prog w A env b i (IsS (ofL k))) (hd : b.heap.get? d = some (DO w l ep)) (hdS : (d == sysModules) = false) (hn : (keysOf l).Nodup) (hz : (wordsOf l).lookup k = some z)
    (hs : ∀ ov iv, subscripted i false ov iv = operate [ov, iv] (getItem ov iv) := by intro _ _; rfl) (ht : ∀ ov r, letTemporaryGo o ov r = pure () := by intro _ _; rfl) :
    EvP prog w A env b (.Subscript o i pos) (IsS (ofL z)) :=
  ev_item back_P ho hi (T := "dict") (id := "dict.__getitem__") (fun v s u e => by subst e; exact ⟨_, u.st _ _ hd, rfl⟩) slot_dict_getitem.lookup (fun ov iv s E up e hq7 => by
    obtain ⟨t, e'⟩ := hq7
    subst e; subst e'
    rw [← find_words] at hz
    obtain ⟨en, he, rfl⟩ := Option.map_eq_some_iff.mp hz
    refine wpAny_getItem_of (knd := PySem.strKind prog w) (strKind_is prog w (ofL k) t) (dictOf_DO (up.st _ _ hd) hn).mapOf (v := en.val) ?_ ⟨keeps_toks s _, _, rfl⟩
    rw [valueAt_DO, he]; rfl) hs ht
end
end

/- F9 -/
/- comprehensions whose elements are new objects -/
section
open PySem PySem.W PyProof.Rows PySem.Calls
section
variable {α β : Type} {V : α → Value → Prop} {U : β → Value → List (Addr × Obj) → Prop}
/- made, with what is new of it among nw -/
noncomputable abbrev Of {β : Type} (U : β → Value → List (Addr × Obj) → Prop) (nw : List (Addr × Obj)) (b : β) (y : Value) : Prop := ∃ n₁, (∀ p ∈ n₁, p ∈ nw) ∧ U b y n₁
theorem made_of {dec : Value → α} (hdec : ∀ a v, V a v → dec v = a) {q : α → Bool} {g : α → β} {vs ys : List Value} {nw : List (Addr × Obj)} (x : Made3 (fun v => q (dec v)) (fun v y nw => U (g (dec v)) y nw) vs ys nw) :
    ∀ src, All2 V src vs → All2 (Of U nw) ((src.filter q).map g) ys := by
  induction x with
  | nil =>
    intro src h
    cases src with
    | nil => exact trivial
    | cons _ _ => exact h.elim
  | skip m hp ih =>
    intro src h
    obtain ⟨s', a, rfl, h1, h2⟩ := all2_snoc h
    have i := ih s' h1
    rw [hdec a _ h2] at hp
    rw [List.filter_append]
    simpa [hp] using i
  | take m hp hf ih =>
    intro src h
    obtain ⟨s', a, rfl, h1, h2⟩ := all2_snoc h
    have i := ih s' h1
    rw [hdec a _ h2] at hp hf
    rw [List.filter_append, List.map_append]
    refine all2_app (all2_mono (fun b y hq => by obtain ⟨n₁, hs, u⟩ := hq; exact ⟨n₁, fun p hp => List.mem_append_right _ (hs p hp), u⟩) i) ?_
    simp only [List.filter_cons, hp, if_true, List.filter_nil, List.map_cons, List.map_nil]
    exact ⟨⟨_, fun p hp => List.mem_append_left _ hp, hf⟩, trivial⟩
end
section
variable {prog : Program} {w : World} {A : Around} {env : Env} {h : Heap} {b : Shared}
theorem ev_compN {α β : Type} {V : α → Value → Prop} {U : β → Value → List (Addr × Obj) → Prop} {elt iter : Expr} {x : Str} {px pos : Pos} {ifs : List Expr} {scope : Scope} {cl : List (Str × Addr)} {iv : Value} {base : List Addr} {n : Nat} {P : Nat → Value → Prop} (src : List α) (q : α → Bool) (g : α → β) (dec : Value → α)
    (hdec : ∀ a v, V a v → dec v = a) (hsrc : src.length = n) (hP : ∀ j v, P j v → ∃ a, src[j]? = some a ∧ V a v)
    (hclos : closureFor scope env = pure cl) (hi : EvP prog w A env b iter (· = iv)) (hI : IterOf prog w A b.heap iv base n P) (hn : n ≤ sizeLine)
    (ht : ∀ C b' m a v, V a v → a ∈ src → Up b b' → b'.heap.Ns C m → m x = some v → TestsTo prog w A (compEnvC scope cl C env) b' ifs (q a))
    (he : ∀ C b' m a v, V a v → a ∈ src → q a = true → Up b b' → b'.heap.Ns C m → m x = some v → EvN prog w A (compEnvC scope cl C env) b' elt (U (g a)))
    (hcell : ∀ y ∈ scope.names, y.2 ≠ .cell) (hkind : scope.kind = .function) (hnames : ∀ y ∈ scope.names, y.2 = .local → scope.names.lookup y.1 = some .local) (hx : scope.names.lookup x = some .local)
    (hs : ∀ x, foldedSetIterable iter env x = pure x := by intro _; rfl) :
    EvN prog w A env b (.ListComp elt [⟨.Name x px, iter, ifs, 0⟩] scope pos) (fun r nw => ∃ D ys k nw', r = .ref D ∧ nw = (D, LO ys k) :: nw' ∧ All2 (Of U nw') ((src.filter q).map g) ys) := by
  refine (ev_comp (fun v => q (dec v)) (fun v y nw => U (g (dec v)) y nw) hclos hi hI hn (fun C b' m i v hp u hn hm => ?_) (fun C b' m i v hp hq u hn hm => ?_) hcell hkind hnames hx hs).mono ?_
  · obtain ⟨a, ha, hv⟩ := hP i v hp
    rw [hdec a v hv]
    exact ht C b' m a v hv (List.mem_of_getElem? ha) u hn hm
  · obtain ⟨a, ha, hv⟩ := hP i v hp
    rw [hdec a v hv] at hq ⊢
    exact he C b' m a v hv (List.mem_of_getElem? ha) hq u hn hm
  · intro v s s' up kp hq; obtain ⟨nw, hnew, D, ys, k, vs, nw', rfl, rfl, hl, hvs, hm⟩ := hq
    have hall : All2 V src vs := all2_of (by lia) fun j a v e e' => by
      obtain ⟨a', ea, hv⟩ := hP j v (hvs j v e')
      rw [e] at ea; cases ea; exact hv
    exact ⟨_, hnew, D, ys, k, nw', rfl, rfl, made_of hdec hm src hall⟩
/- a new pair -/
noncomputable def NewPair {β : Type} (G : β → Value → Value → Prop) (b : β) (y : Value) (nw : List (Addr × Obj)) : Prop := ∃ t va vb, y = .ref t ∧ nw = [(t, TO [va, vb])] ∧ G b va vb
/- pairs of which the ledger knows -/
theorem pl_of {β : Type} {G : β → Value → Value → Prop} {nw : List (Addr × Obj)} {bs : List β} {ys : List Value} {h : Heap} (x : All2 (Of (NewPair G) nw) bs ys) (k : ∀ p ∈ nw, h.get? p.1 = some p.2) : PL h G bs ys :=
  all2_mono (fun b y hq => by obtain ⟨n₁, hs, t, va, vb, e, e', g⟩ := hq; exact ⟨t, va, vb, e, by subst e'; exact k _ (hs _ List.mem_cons_self), g⟩) x
theorem ev_pair {e f : Expr} {k : Nat} {pos : Pos} {β : Type} {G : β → Value → Value → Prop} {c : β} {Pa Pb : Value → Prop} (he : EvP prog w A env b e Pa) (hf : EvP prog w A env b f Pb) (hG : ∀ u v, Pa u → Pb v → G c u v)
    (hp : starEach [e, f] env = (false, eval e env) :: starEach [f] env := by rfl) (hq : starEach [f] env = [(false, eval f env)] := by rfl) :
    EvN prog w A env b (.Tuple [e, f] k pos) (NewPair G c) :=
  (ev_tuple (P := fun vs => ∃ u v, vs = [u, v] ∧ Pa u ∧ Pb v) (args2 he hf hp hq) (fun vs hq => by obtain ⟨u, v, e, _⟩ := hq; rw [e]; show 2 ≤ sizeLine; decide)).mono fun v s s' _ _ hq7 => by obtain ⟨nw, hnew, t, vs, e, en, u, u', ev, p, p'⟩ := hq7; exact ⟨nw, hnew, t, u, u', e, by rw [en, ev], hG u u' p p'⟩
end
end

/- F10 -/
/- displays whose elements are new objects -/
section
open PySem PySem.W PyProof.Rows PySem.Calls
section
variable {prog : Program} {w : World} {A : Around} {env : Env} {h : Heap} {b : Shared} {β : Type} {U : β → Value → List (Addr × Obj) → Prop}
noncomputable def ArgsN (prog : Program) (w : World) (A : Around) (env : Env) (b : Shared) (es : List Expr) (U : β → Value → List (Addr × Obj) → Prop) (cs : List β) : Prop :=
  ArgsTo prog w A env b es (fun vs s s' => ∃ nw, NewIn s.heap s'.heap nw ∧ All2 (Of U nw) cs vs)
theorem argsN_nil : ArgsN prog w A env b [] U [] := args0.mono fun vs s s' _ _ e => ⟨[], NewIn.nil _ _, by rw [e]; trivial⟩
theorem argsN_cons {e : Expr} {es : List Expr} {c : β} {cs : List β} (he : EvN prog w A env b e (U c)) (hs : ArgsN prog w A env b es U cs) (hp : starEach (e :: es) env = (false, eval e env) :: starEach es env := by rfl) : ArgsN prog w A env b (e :: es) U (c :: cs) :=
  (args_consT he hs hp).mono fun vs s s' _ _ hq7 => by
    obtain ⟨v, r, s₁, e1, k1, k2, ⟨nw1, n1, u⟩, nw2, n2, all⟩ := hq7
    refine ⟨nw2 ++ nw1, NewIn.append k1.up.st k2.up.st n1 n2, ?_⟩
    rw [e1]
    exact ⟨⟨nw1, fun p hp => List.mem_append_right _ hp, u⟩, all2_mono (fun b y hq => by obtain ⟨n₁, hs, u⟩ := hq; exact ⟨n₁, fun p hp => List.mem_append_left _ (hs p hp), u⟩) all⟩
theorem ev_listN {es : List Expr} {pos : Pos} {cs : List β} (ha : ArgsN prog w A env b es U cs) (hz : cs.length ≤ 1000) :
    EvN prog w A env b (.List es pos) (fun r nw => ∃ D ys k nw', r = .ref D ∧ nw = (D, LO ys k) :: nw' ∧ All2 (Of U nw') cs ys) :=
  (ev_listT ha fun vs s s' _ hq7 => by
    obtain ⟨nw, _, all⟩ := hq7
    have := all2_length all
    have hsz : sizeLine = 16777216 := by decide
    lia).mono fun v s s' _ _ hq7 => by obtain ⟨t, vs, s₁, e, k, ⟨nw, n1, all⟩, st, n2⟩ := hq7; exact ⟨[(t, LO vs 0)] ++ nw, NewIn.append k.up.st st n1 n2, t, vs, 0, nw, e, rfl, all⟩
end
end

/- S1 -/
/- the sort's tree of questions: what it ends with, where the keys are apart -/
section
open PySem PySem.W PyProof.Rows
section
variable {cmp : Nat → Nat → (Bool → Shared → Prop) → Shared → Prop} {n : Nat} {key : Nat → Nat} {s : Shared}
noncomputable def Pm (n : Nat) (p : Array Nat) : Prop := p.toList.Perm (List.range n)
noncomputable def KY (key : Nat → Nat) (p : Array Nat) (i : Nat) : Nat := key (p.getD i 0)
noncomputable def Inc (key : Nat → Nat) (p : Array Nat) (m : Nat) : Prop := ∀ i j, i < j → j < m → KY key p i < KY key p j
noncomputable def Dec (key : Nat → Nat) (p : Array Nat) (m : Nat) : Prop := ∀ i j, i < j → j < m → KY key p j < KY key p i
theorem Pm.size {p : Array Nat} (h : Pm n p) : p.size = n := by have := h.length_eq; simpa using this
theorem getD_eq {p : Array Nat} {i : Nat} (h : i < p.size) : p.getD i 0 = p[i] := by simp [Array.getD, h]
theorem Pm.lt {p : Array Nat} (h : Pm n p) {i : Nat} (hi : i < n) : p.getD i 0 < n := by
  have hs := h.size
  rw [getD_eq (by lia)]
  have : p[i] ∈ p.toList := by simp
  exact List.mem_range.mp (h.mem_iff.mp this)
theorem Pm.inj {p : Array Nat} (h : Pm n p) {i j : Nat} (hi : i < n) (hj : j < n) (e : p.getD i 0 = p.getD j 0) : i = j := by
  have hs := h.size
  have nd : p.toList.Nodup := h.nodup_iff.mpr List.nodup_range
  rw [getD_eq (by lia), getD_eq (by lia)] at e
  exact (List.getElem_inj nd (h₀ := by simpa using (by lia : i < p.size)) (h₁ := by simpa using (by lia : j < p.size))).mp (by simpa using e)
theorem Pm.apart {p : Array Nat} (h : Pm n p) (hk : ∀ i j, i < n → j < n → key i = key j → i = j) {i j : Nat} (hi : i < n) (hj : j < n) (hij : i ≠ j) : KY key p i ≠ KY key p j :=
  fun e => hij (h.inj hi hj (hk _ _ (h.lt hi) (h.lt hj) e))
theorem inc_snoc {p : Array Nat} {m : Nat} (h : Inc key p m) (hm : 1 ≤ m) (hl : KY key p (m - 1) < KY key p m) : Inc key p (m + 1) := fun i j hij hj => by
  rcases Nat.lt_or_ge j m with hj' | hj'
  · exact h i j hij hj'
  · have : j = m := by lia
    subst this
    rcases Nat.lt_or_ge i (j - 1) with hi | hi
    · exact Nat.lt_trans (h i (j - 1) hi (by lia)) hl
    · have : i = j - 1 := by lia
      subst this; exact hl
theorem dec_snoc {p : Array Nat} {m : Nat} (h : Dec key p m) (hm : 1 ≤ m) (hl : KY key p m < KY key p (m - 1)) : Dec key p (m + 1) := fun i j hij hj => by
  rcases Nat.lt_or_ge j m with hj' | hj'
  · exact h i j hij hj'
  · have : j = m := by lia
    subst this
    rcases Nat.lt_or_ge i (j - 1) with hi | hi
    · exact Nat.lt_trans hl (h i (j - 1) hi (by lia))
    · have : i = j - 1 := by lia
      subst this; exact hl
variable (hc : ∀ i j C, i < n → j < n → C (decide (key i < key j)) s → cmp i j C s) (hk : ∀ i j, i < n → j < n → key i = key j → i = j)
include hc hk
theorem asc_ok {p : Array Nat} (hp : Pm n p) {Q : Nat → Shared → Prop} {top : Nat} (htop : top ≤ n) : ∀ (f m : Nat), 1 ≤ m → m + f = top → Inc key p m → (∀ r, m ≤ r → r ≤ top → Inc key p r → (r = top ∨ KY key p r < KY key p (r - 1)) → Q r s) → (kas_asc p f m).kasWp cmp Q s
  | 0, m, h1, ht, hi, hq => hq m (Nat.le_refl _) (by lia) hi (.inl (by lia))
  | f + 1, m, h1, ht, hi, hq => by
    refine hc _ _ _ (hp.lt (by lia)) (hp.lt (by lia)) ?_
    by_cases h : key (p.getD m 0) < key (p.getD (m - 1) 0)
    · rw [decide_eq_true h]
      exact hq m (Nat.le_refl _) (by lia) hi (.inr h)
    · rw [decide_eq_false h]
      have hne := hp.apart hk (i := m) (j := m - 1) (by lia) (by lia) (by lia)
      refine asc_ok hp htop f (m + 1) (by lia) (by lia) (inc_snoc hi h1 ?_) fun r hr hr' hi' ho => hq r (by lia) hr' hi' ho
      unfold KY at hne ⊢; lia
theorem desc_ok {p : Array Nat} (hp : Pm n p) {Q : Array Nat × Nat × Nat → Shared → Prop} {top : Nat} (htop : top ≤ n) : ∀ (f m : Nat), 1 ≤ m → m + f = top → Dec key p m → (∀ r, m ≤ r → r ≤ top → Dec key p r → Q (p, r, 0) s) → (kas_desc f p m 0).kasWp cmp Q s
  | 0, m, h1, ht, hi, hq => hq m (Nat.le_refl _) (by lia) hi
  | f + 1, m, h1, ht, hi, hq => by
    refine hc _ _ _ (hp.lt (by lia)) (hp.lt (by lia)) ?_
    by_cases h : key (p.getD m 0) < key (p.getD (m - 1) 0)
    · rw [decide_eq_true h]
      exact desc_ok hp htop f (m + 1) (by lia) (by lia) (dec_snoc hi h1 h) fun r hr hr' hi' => hq r (by lia) hr' hi'
    · rw [decide_eq_false h]
      have hne := hp.apart hk (i := m) (j := m - 1) (by lia) (by lia) (by lia)
      refine hc _ _ _ (hp.lt (by lia)) (hp.lt (by lia)) ?_
      have h2 : key (p.getD (m - 1) 0) < key (p.getD m 0) := by unfold KY at hne; lia
      rw [decide_eq_true h2]
      exact hq m (Nat.le_refl _) (by lia) hi
omit hc hk in
theorem rev_ok {p : Array Nat} (hp : Pm n p) {m : Nat} (hm : m ≤ n) (h : Dec key p m) : Pm n (kas_rev p 0 m) ∧ Inc key (kas_rev p 0 m) m := by
  have hs := hp.size
  refine ⟨(Array.perm_iff_toList_perm.mp (mirror_perm _ _ _ _)).trans hp, fun i j hij hj => ?_⟩
  have e : ∀ k, k < m → KY key (kas_rev p 0 m) k = KY key p (m - 1 - k) := fun k hk => by
    unfold KY
    have e := getElem?_mirror_all (i := 0) (show m ≤ p.size by lia) k
    rw [if_pos ⟨Nat.zero_le _, hk⟩] at e
    have e2 : ∀ (q : Array Nat) (i : Nat), q.getD i 0 = (q[i]?).getD 0 := fun q i => by simp
    rw [e2, e2]
    unfold kas_rev
    rw [e, Nat.zero_add]
  rw [e i (by lia), e j hj]
  exact h _ _ (by lia) (by lia)
theorem tail3_ok {p : Array Nat} (hp : Pm n p) {m : Nat} (h1 : 1 ≤ m) (hm : m ≤ n) (hd : Dec key p m) {Q : Nat × Array Nat → Shared → Prop} (hq : ∀ r p', 1 ≤ r → r ≤ n → Pm n p' → Inc key p' r → Q (r, p') s) : (kas_tail3 m n p).kasWp cmp Q s := by
  obtain ⟨hp', hi⟩ := rev_ok hp hm hd
  unfold kas_tail3
  rw [KasT.kasWp_bind]
  exact asc_ok hc hk hp' (Nat.le_refl n) (n - m) m h1 (by lia) hi fun r hr hr' hi' _ => hq r _ (by lia) hr' hp' hi'
theorem count_ok {p : Array Nat} (hp : Pm n p) (hn : 2 ≤ n) {Q : Nat × Array Nat → Shared → Prop} (hq : ∀ r p', 1 ≤ r → r ≤ n → Pm n p' → Inc key p' r → Q (r, p') s) : (kas_count n p).kasWp cmp Q s := by
  unfold kas_count
  rw [KasT.kasWp_bind]
  refine asc_ok hc hk hp (Nat.le_refl n) (n - 1) 1 (Nat.le_refl 1) (by lia) (fun i j hij hj => by lia) fun r hr hr' hi ho => ?_
  by_cases e : r = n
  · subst e
    rw [if_pos (by simp)]
    exact hq _ _ hr hr' hp hi
  · rw [if_neg (by simpa using e)]
    have ho := ho.resolve_left e
    by_cases h1 : r > 1
    · rw [if_pos h1]
      refine hc _ _ _ (hp.lt (by lia)) (hp.lt (by lia)) ?_
      have hlt : key (p.getD 0 0) < key (p.getD (r - 1) 0) := hi 0 (r - 1) (by lia) (by lia)
      rw [decide_eq_true hlt]
      exact hq _ _ hr hr' hp hi
    · rw [if_neg h1]
      have : r = 1 := by lia
      subst this
      unfold kas_descPart
      rw [KasT.kasWp_bind]
      refine desc_ok hc hk hp (Nat.le_refl n) (n - (1 + 1)) (1 + 1) (by lia) (by lia) (dec_snoc (fun i j hij hj => by lia) (Nat.le_refl 1) ho) fun r hr hr' hd => ?_
      exact tail3_ok hc hk hp (by lia) hr' hd hq
theorem place_ok {p : Array Nat} (hp : Pm n p) {k : Nat} (hkn : k < n) {Q : Nat → Shared → Prop} (hq : ∀ l, l ≤ k → (∀ i, i < l → KY key p i < KY key p k) → (∀ i, l ≤ i → i < k → KY key p k < KY key p i) → Q l s) (hi : Inc key p k) :
    ∀ (f l r : Nat), l ≤ r → r ≤ k → r - l ≤ f → (∀ i, i < l → KY key p i < KY key p k) → (∀ i, r ≤ i → i < k → KY key p k < KY key p i) → (kas_place p k f l r).kasWp cmp Q s
  | 0, l, r, h1, h2, h3, h4, h5 => hq l (by lia) h4 fun i a b => h5 i (by lia) b
  | f + 1, l, r, h1, h2, h3, h4, h5 => by
    unfold kas_place
    split
    · exact hq l (by lia) h4 fun i a b => h5 i (by lia) b
    · rename_i hlr
      refine hc _ _ _ (hp.lt hkn) (hp.lt (by lia)) ?_
      by_cases h : key (p.getD k 0) < key (p.getD ((l + r) / 2) 0)
      · rw [decide_eq_true h]
        refine place_ok hp hkn hq hi f l ((l + r) / 2) (by lia) (by lia) (by lia) h4 fun i a b => ?_
        rcases Nat.lt_or_ge ((l + r) / 2) i with c | c
        · exact Nat.lt_trans h (hi _ _ c b)
        · have : i = (l + r) / 2 := by lia
          subst this; exact h
      · rw [decide_eq_false h]
        have hne := hp.apart hk (i := k) (j := (l + r) / 2) hkn (by lia) (by lia)
        have h' : KY key p ((l + r) / 2) < KY key p k := by unfold KY at hne ⊢; lia
        refine place_ok hp hkn hq hi f ((l + r) / 2 + 1) r (by lia) h2 (by lia) (fun i a => ?_) h5
        rcases Nat.lt_or_ge i ((l + r) / 2) with c | c
        · exact Nat.lt_trans (hi _ _ c (by lia)) h'
        · have : i = (l + r) / 2 := by lia
          subst this; exact h'
theorem bin_ok {Q : Array Nat → Shared → Prop} (hq : ∀ p, Pm n p → Inc key p n → Q p s) : ∀ (f : Nat) (p : Array Nat) (k : Nat), Pm n p → 1 ≤ k → k + f = n → Inc key p k → (kas_bin f p k).kasWp cmp Q s
  | 0, p, k, hp, h1, h2, hi => by
    have : k = n := by lia
    subst this; exact hq p hp hi
  | f + 1, p, k, hp, h1, h2, hi => by
    unfold kas_bin
    rw [KasT.kasWp_bind]
    refine place_ok hc hk hp (by lia) (fun l hl a b => ?_) hi k 0 k (Nat.zero_le _) (Nat.le_refl _) (by lia) (fun i h => by lia) fun i a b => by lia
    have hs := hp.size
    have e : ∀ i, KY key (bubble p k (k - l)) i = if i = l then KY key p k else if l < i ∧ i ≤ k then KY key p (i - 1) else KY key p i := fun i => by
      unfold KY
      have e := getElem?_bubble (show k < p.size by lia) (k - l) (by lia) i
      rw [show k - (k - l) = l by lia] at e
      have e2 : ∀ (q : Array Nat) (i : Nat), q.getD i 0 = (q[i]?).getD 0 := fun q i => by simp
      simp only [e2]
      rw [e]
      split
      · rfl
      · split <;> rfl
    refine bin_ok hq f _ (k + 1) ((Array.perm_iff_toList_perm.mp (bubble_perm _ _ _)).trans hp) (by lia) (by lia) fun i j hij hj => ?_
    rw [e i, e j]
    by_cases i1 : i = l
    · rw [if_pos i1, if_neg (by lia), if_pos (by lia)]
      exact b _ (by lia) (by lia)
    · rw [if_neg i1]
      by_cases i2 : l < i ∧ i ≤ k
      · rw [if_pos i2, if_neg (by lia), if_pos (by lia)]
        exact hi _ _ (by lia) (by lia)
      · rw [if_neg i2]
        by_cases j1 : j = l
        · rw [if_pos j1]; exact a _ (by lia)
        · rw [if_neg j1]
          by_cases j2 : l < j ∧ j ≤ k
          · rw [if_pos j2]
            by_cases j3 : i < j - 1
            · exact hi _ _ j3 (by lia)
            · lia
          · rw [if_neg j2]
            exact hi _ _ hij (by lia)
theorem sort_ok (hn : 2 ≤ n) {Q : Array Nat → Shared → Prop} (hq : ∀ p, Pm n p → Inc key p n → Q p s) : (kas_sort n).kasWp cmp Q s := by
  unfold kas_sort
  rw [KasT.kasWp_bind]
  refine count_ok hc hk (p := List.toArray (List.range n)) (List.Perm.refl _) hn fun r p' h1 h2 hp hi => ?_
  dsimp only
  split
  · exact bin_ok hc hk hq _ _ _ hp (by lia) (by lia) (by rw [show max r 1 = r by lia]; exact hi)
  · have : r = n := by lia
    subst this
    exact hq _ hp hi
end
end

/- S2 -/
/- sorted of a list of pairs of ints -/
section
open PySem PySem.W PyProof.Rows PySem.Calls
section
variable {prog : Program} {w : World} {A : Around} {E : Value → Shared → Prop} {s : Shared}
/- a pair of numbers -/
noncomputable abbrev IsNP (p : Nat × Nat) (a b : Value) : Prop := IsI p.1 a ∧ IsI p.2 b
noncomputable def pkey (p : Nat × Nat) : Nat := p.1 * 64 + p.2
theorem pl_firsts {h : Heap} : ∀ {ps : List (Nat × Nat)} {vs : List Value}, PL h IsNP ps vs → ∃ fs, KatTups h vs fs ∧ fs.length = vs.length ∧ ∀ v ∈ fs, ∃ i t, v = .int i t
  | [], [], _ => ⟨[], trivial, rfl, fun _ h => nomatch h⟩
  | p :: ps, v :: vs, x => by
    obtain ⟨⟨t, va, vb, rfl, ho, ⟨ta, rfl⟩, _⟩, x⟩ := x
    obtain ⟨fs, a, b, c⟩ := pl_firsts x
    refine ⟨.int p.1 ta :: fs, KatTups.cons ho rfl rfl rfl a, by simp [b], fun v hv => ?_⟩
    rcases List.mem_cons.mp hv with rfl | hv
    · exact ⟨_, _, rfl⟩
    · exact c v hv
  | [], _ :: _, x => x.elim
  | _ :: _, [], x => x.elim
theorem np_lt {p q : Nat × Nat} {x y : Value} {Q : Bool → Shared → Prop} (hp : p.2 < 64) (hq : q.2 < 64) (hx : ∃ t va vb, x = .ref t ∧ s.heap.get? t = some (TO [va, vb]) ∧ IsNP p va vb) (hy : ∃ t va vb, y = .ref t ∧ s.heap.get? t = some (TO [va, vb]) ∧ IsNP q va vb)
    (h : Q (decide (pkey p < pkey q)) s) : wpAny (model prog w) A (keyLt' (tuples' true) x y) Q E s := by
  obtain ⟨t1, a1, b1, rfl, o1, ⟨u1, rfl⟩, ⟨u2, rfl⟩⟩ := hx
  obtain ⟨t2, a2, b2, rfl, o2, ⟨u3, rfl⟩, ⟨u4, rfl⟩⟩ := hy
  refine kat_lt o1 rfl o2 rfl ?_
  refine kat_cons (wpAny_eqBool_int ?_)
  by_cases e1 : p.1 = q.1
  · have : ((p.1 : Int) == (q.1 : Int)) = true := by simp [e1]
    rw [this]
    refine kat_yes (kat_cons (wpAny_eqBool_int ?_))
    by_cases e2 : p.2 = q.2
    · have : ((p.2 : Int) == (q.2 : Int)) = true := by simp [e2]
      rw [this]
      refine kat_yes (kat_nil ?_)
      have hd : decide (pkey p < pkey q) = false := decide_eq_false (by unfold pkey; lia)
      rw [hd] at h
      exact h
    · have : ((p.2 : Int) == (q.2 : Int)) = false := beq_eq_false_iff_ne.mpr (by lia)
      rw [this]
      refine kat_no (kat_one _ _ (wpAny_lt_int ?_))
      have hd : decide (pkey p < pkey q) = decide ((p.2 : Int) < q.2) := by unfold pkey; exact decide_eq_decide.mpr (by lia)
      rw [hd] at h
      exact h
  · have : ((p.1 : Int) == (q.1 : Int)) = false := beq_eq_false_iff_ne.mpr (by lia)
    rw [this]
    refine kat_no (oneLt_int ?_)
    have hd : decide (pkey p < pkey q) = decide ((p.1 : Int) < q.1) := by unfold pkey; exact decide_eq_decide.mpr (by lia)
    rw [hd] at h
    exact h
theorem pl_get {h : Heap} {ps : List (Nat × Nat)} {vs : List Value} (x : PL h IsNP ps vs) {i : Nat} (hi : i < ps.length) : ∃ t va vb, vs.getD i Value.none = .ref t ∧ h.get? t = some (TO [va, vb]) ∧ IsNP (ps.getD i (0, 0)) va vb := by
  have hl := all2_length x
  obtain ⟨v, e, t, va, vb, rfl, ho, g⟩ := all2_get x (j := i) (a := ps[i]) (by simp [hi])
  refine ⟨t, va, vb, ?_, ho, ?_⟩
  · rw [List.getD_eq_getElem?_getD, e]; rfl
  · have : ps.getD i (0, 0) = ps[i] := by simp [hi]
    rw [this]; exact g
/- what comes out of it -/
noncomputable def SortedNP (ps : List (Nat × Nat)) (vs out : List Value) : Prop := ∃ ps', (∀ V : Nat × Nat → Value → Prop, All2 V ps vs → All2 V ps' out) ∧ ps'.Perm ps ∧ ps'.Pairwise (fun p q => pkey p < pkey q)
theorem sorted_of {ps : List (Nat × Nat)} {vs : List Value} {p : Array Nat} (hp : Pm ps.length p) (hi : Inc (fun i => pkey (ps.getD i (0, 0))) p ps.length) : SortedNP ps vs (p.toList.map fun i => vs.getD i Value.none) := by
  have hs := hp.size
  refine ⟨p.toList.map fun i => ps.getD i (0, 0), ?_, ?_, ?_⟩
  · intro V x
    refine all2_of (by simp) fun j a v e e' => ?_
    rw [List.getElem?_map] at e e'
    cases hj : p.toList[j]? with
    | none => rw [hj] at e; simp at e
    | some i =>
      rw [hj] at e e'
      simp only [Option.map_some, Option.some.injEq] at e e'
      have him : i < ps.length := List.mem_range.mp (hp.mem_iff.mp (List.mem_of_getElem? hj))
      obtain ⟨v', e1, hv⟩ := all2_get x (j := i) (a := ps[i]) (by simp [him])
      have e2 : ps.getD i (0, 0) = ps[i] := by simp [him]
      have e3 : vs.getD i Value.none = v' := by rw [List.getD_eq_getElem?_getD, e1]; rfl
      rw [← e, ← e', e2, e3]
      exact hv
  · refine (List.Perm.map _ hp).trans (List.Perm.of_eq ?_)
    refine List.ext_getElem? fun i => ?_
    rw [List.getElem?_map]
    by_cases h : i < ps.length
    · rw [List.getElem?_range h]
      simp [h]
    · simp [h]
  · rw [List.pairwise_iff_getElem]
    intro i j hi' hj hij
    have h1 : i < p.size := by simpa using hi'
    have h2 : j < p.size := by simpa using hj
    have := hi i j hij (by lia)
    unfold KY at this
    rw [getD_eq h1, getD_eq h2] at this
    simpa using this
theorem PL.heap {h h' : Heap} {ps : List (Nat × Nat)} {vs : List Value} (x : PL h IsNP ps vs) (k : ∀ b o, h.get? b = some o → o.cls = .type "tuple" → h'.get? b = some o) : PL h' IsNP ps vs :=
  all2_mono (fun p v hq => by obtain ⟨t, va, vb, e, ho, g⟩ := hq; exact ⟨t, va, vb, e, k _ _ ho rfl, g⟩) x
theorem list_sort_np {a : Addr} {vs : List Value} {ps : List (Nat × Nat)} {n : Nat} {P : PySem.Fin → Shared → Prop} (ho : s.heap.get? a = some (seqObj "list" vs.toArray n)) (x : PL s.heap IsNP ps vs) (h64 : ps.length < 64) (hb : ∀ p ∈ ps, p.2 < 64) (hd : ps.Nodup)
    (h : ∀ out, SortedNP ps vs out → P (.done (.ret .none)) { s with heap := sortedHeap s.heap a vs out.toArray }) :
    wpAny (model prog w) A (Builtin.«list.sort» ⟨[.ref a], []⟩) P E s := by
  have hl := all2_length x
  rw [list_sort_plain]
  have ha : a < s.heap.objs.size := Heap.lt_size ho
  refine wpAny_bind (listItems_at ho rfl ?_)
  refine wpAny_bind (listUpdate_at ho rfl ?_ (by rw [List.size_toArray, sizeLine_eq]; lia) (Nat.zero_le _))
  obtain ⟨e1, ho1⟩ : ∃ e1, (s.heap.update a (Obj.mapSeq fun _ => #[])).get? a = some (seqObj "list" #[] e1) := ⟨_, get?_update_seq ho (fun _ => #[])⟩
  refine wpAny_bind (seqEpoch_at ho1 rfl ?_)
  refine wpAny_bind (wpAny_newTuple ?_ (by show vs.length ≤ _; rw [sizeLine_eq]; lia))
  refine wpAny_bind (wpAny_newList ?_ (Nat.zero_le _))
  refine wpAny_holding ?_
  have ho6 : (((s.heap.update a (Obj.mapSeq fun _ => #[])).push (seqObj "tuple" vs.toArray 0)).push (seqObj "list" #[] 0)).get? a = some (seqObj "list" #[] e1) := by
    rw [Heap.get?_push_ne _ _ _ (by rw [size_push', Heap.size_update]; exact Nat.ne_of_lt (Nat.lt_succ_of_lt ha)), Heap.get?_push_ne _ _ _ (by rw [Heap.size_update]; exact Nat.ne_of_lt ha)]
    exact ho1
  have keep : ∀ b o, s.heap.get? b = some o → o.cls = .type "tuple" → (((s.heap.update a (Obj.mapSeq fun _ => #[])).push (seqObj "tuple" vs.toArray 0)).push (seqObj "list" #[] 0)).get? b = some o := fun b o e ec => by
    refine Heap.get?_push_of_some _ (Heap.get?_push_of_some _ ?_)
    rw [Heap.get?_update_ne]
    · exact e
    · rintro rfl
      rw [ho] at e; cases e
      exact absurd (show Value.type "list" = Value.type "tuple" from ec) (by decide)
  have x' := x.heap keep
  show wpAny (model prog w) A _ P E { s with heap := ((s.heap.update a (Obj.mapSeq fun _ => #[])).push (seqObj "tuple" vs.toArray 0)).push (seqObj "list" #[] 0) }
  dsimp only
  have fin : ∀ p : Array Nat, Pm ps.length p → Inc (fun i => pkey (ps.getD i (0, 0))) p ps.length →
      P (.done (.ret .none)) { s with heap := sortedHeap s.heap a vs (p.toList.map fun i => vs.getD i Value.none).toArray } := fun p hp hi => h _ (sorted_of hp hi)
  by_cases h2 : vs.toArray.size < 2
  · rw [if_pos h2, if_pos h2]
    refine wpAny_bind (wpAny_pure ?_)
    rw [StateT.run_pure]
    refine wpAny_bind (wpAny_pure ?_)
    dsimp only
    refine wpAny_bind (seqEpoch_at ho6 rfl ?_)
    refine wpAny_bind (listUpdate_at ho6 rfl ?_ (Nat.zero_le _) (hsz2 := by rw [Array.size_map]; show (pairsOf vs).size ≤ _; rw [pairsOf_size, sizeLine_eq]; lia))
    simp only [bne_self_eq_false, Bool.false_eq_true, if_false]
    have hf := fin (List.toArray (List.range ps.length)) (List.Perm.refl _) (fun i j hij hj => by simp at h2; lia)
    have e : (arrOf (SortSt.mk' general' (vs.toArray.zip vs.toArray) #[] 7 none)).map (·.2) = ((List.toArray (List.range ps.length)).toList.map fun i => vs.getD i Value.none).toArray := by
      apply Array.toList_inj.mp
      show ((vs.toArray.zip vs.toArray).map (·.2)).toList = _
      rw [hl]
      refine List.ext_getElem? fun i => ?_
      by_cases hi : i < vs.length
      · simp [hi]
      · simp [hi]
    refine wpAny_pure ?_
    show P _ { s with heap := sortedHeap s.heap a vs ((arrOf (SortSt.mk' general' (vs.toArray.zip vs.toArray) #[] 7 none)).map (·.2)) }
    rw [e]; exact hf
  · rw [if_neg h2, if_neg h2]
    have h2' : 2 ≤ vs.length := by simp at h2; lia
    obtain ⟨fs, k1, k2, k3⟩ := pl_firsts x'
    refine wpAny_bind (kat_kind (T := .type "int") k1 (by lia) (fun v hv => ?_) rfl ?_)
    · obtain ⟨i, t, rfl⟩ := k3 v hv
      exact Looks.of_pure rfl
    have hT : (Value.type "int" != Value.type "tuple") = true := by rfl
    rw [hT]
    refine wpAny_bind (wpAny_mono (kat_run (ks := vs) (vs := vs) (κ := tuples' true) (G := fun p s' => s' = { s with heap := ((s.heap.update a (Obj.mapSeq fun _ => #[])).push (seqObj "tuple" vs.toArray 0)).push (seqObj "list" #[] 0) } ∧ Pm ps.length p ∧ Inc (fun i => pkey (ps.getD i (0, 0))) p ps.length)
      (Q := fun st' s' => ∃ p : Array Nat, arrOf st' = p.map (kas_item (vs.toArray.zip vs.toArray)) ∧ failedOf st' = none ∧ s' = { s with heap := ((s.heap.update a (Obj.mapSeq fun _ => #[])).push (seqObj "tuple" vs.toArray 0)).push (seqObj "list" #[] 0) } ∧ Pm ps.length p ∧ Inc (fun i => pkey (ps.getD i (0, 0))) p ps.length)
      rfl h2' (by lia) (fun p' st' s' a1 a2 a3 a4 => ⟨p', a2, a3, a4⟩) ?_) ?_ fun _ _ e => e)
    · rw [← hl]
      refine sort_ok (n := ps.length) (key := fun i => pkey (ps.getD i (0, 0))) (fun i j C hi hj hC => ?_) (fun i j hi hj e => ?_) (by lia) fun p hp hi => ⟨rfl, hp, hi⟩
      · have m : ∀ k, k < ps.length → (ps.getD k (0, 0)).2 < 64 := fun k hk => by
          have : ps.getD k (0, 0) = ps[k] := by simp [hk]
          rw [this]; exact hb _ (List.getElem_mem hk)
        exact np_lt (m i hi) (m j hj) (pl_get x' hi) (pl_get x' hj) hC
      · have m : ∀ k, k < ps.length → (ps.getD k (0, 0)).2 < 64 := fun k hk => by
          have : ps.getD k (0, 0) = ps[k] := by simp [hk]
          rw [this]; exact hb _ (List.getElem_mem hk)
        have m1 := m i hi
        have m2 := m j hj
        have e : pkey (ps.getD i (0, 0)) = pkey (ps.getD j (0, 0)) := e
        have e3 : ps.getD i (0, 0) = ps.getD j (0, 0) := by unfold pkey at e; exact Prod.ext (by lia) (by lia)
        have g1 : ps.getD i (0, 0) = ps[i] := by simp [hi]
        have g2 : ps.getD j (0, 0) = ps[j] := by simp [hj]
        rw [g1, g2] at e3
        exact (List.getElem_inj hd).mp e3
    · intro hq; obtain ⟨⟨⟩, st'⟩ := hq; intro s' hq; obtain ⟨p, har, hf, rfl, hp, hi⟩ := hq
      dsimp only
      have hout := kat_snds (ks := vs) (vs := vs) rfl har
      have hsz : (List.toArray (p.toList.map fun i => vs.getD i Value.none)).size = vs.length := by rw [List.size_toArray, List.length_map, Array.length_toList, hp.size, hl]
      rw [hout]
      refine wpAny_bind (seqEpoch_at ho6 rfl ?_)
      refine wpAny_bind (listUpdate_at ho6 rfl ?_ (Nat.zero_le _) (Nat.le_trans (Nat.le_of_eq hsz) (by rw [sizeLine_eq]; lia)))
      rw [hf]
      simp only [bne_self_eq_false, Bool.false_eq_true, if_false]
      exact wpAny_pure (fin p hp hi)
theorem sorted_np {l : Addr} {vs : List Value} {ps : List (Nat × Nat)} {n : Nat} {Q : Value → Shared → Prop} (hl : s.heap.get? l = some (LO vs n)) (x : PL s.heap IsNP ps vs) (h64 : ps.length < 64) (hb : ∀ p ∈ ps, p.2 < 64) (hd : ps.Nodup)
    (h : ∀ D ps' ys k h', s.heap.StaysIn h' → NewIn s.heap h' [(D, LO ys k)] → (∀ V : Nat × Nat → Value → Prop, All2 V ps vs → All2 V ps' ys) → ps'.Perm ps → ps'.Pairwise (fun p q => pkey p < pkey q) → Q (.ref D) { s with heap := h' }) :
    wpAny (model prog w) A (call (.builtin "sorted") [.ref l]) Q E s := by
  have hlen := all2_length x
  refine Calls.call_function_entry kind_sorted plain_sorted entry_sorted (args_sorted1 _) ?_
  unfold Builtin.«sorted»
  refine wpAny_bind (m := checkCount "sorted" 1 1 _) (wpAny_pure ?_)
  refine wpAny_bind (collect_list (vs := vs) ⟨_, hl, rfl, _, rfl⟩ ?_ (by rw [sizeLine_eq]; lia))
  refine wpAny_bind (wpAny_newList ?_ (by rw [sizeLine_eq]; lia))
  have hsz : ((s.heap.push (seqObj "list" #[] 0)).update s.heap.objs.size (Obj.mapSeq (· ++ vs.toArray))).objs.size = s.heap.objs.size + 1 := by
    rw [Heap.size_update, size_push']
  have hoL : (((s.heap.push (seqObj "list" #[] 0)).update s.heap.objs.size (Obj.mapSeq (· ++ vs.toArray))).push (seqObj "list" vs.toArray 0)).get? (s.heap.objs.size + 1) = some (seqObj "list" vs.toArray 0) := by
    rw [← hsz]; exact Heap.get?_push_size _ rfl
  have keep : s.heap.StaysIn (((s.heap.push (seqObj "list" #[] 0)).update s.heap.objs.size (Obj.mapSeq (· ++ vs.toArray))).push (seqObj "list" vs.toArray 0)) := fun b o q => by
    have hlt : b < s.heap.objs.size := Heap.lt_size q
    rw [Heap.get?_push_ne _ _ _ (by rw [hsz]; exact Nat.ne_of_lt (Nat.lt_succ_of_lt hlt)), Heap.get?_update_ne _ _ _ _ (Nat.ne_of_lt hlt), Heap.get?_push_ne _ _ _ (Nat.ne_of_lt hlt)]
    exact q
  show wpAny _ _ _ _ _ { s with heap := ((s.heap.push (seqObj "list" #[] 0)).update s.heap.objs.size (Obj.mapSeq (· ++ vs.toArray))).push (seqObj "list" vs.toArray 0) }
  rw [hsz]
  refine wpAny_bind (wpAny_holding (wpAny_call_entry slot_list_sort ⟨_, hoL, rfl⟩ entry_list_sort (list_sort_np (s := { s with heap := ((s.heap.push (seqObj "list" #[] 0)).update s.heap.objs.size (Obj.mapSeq (· ++ vs.toArray))).push (seqObj "list" vs.toArray 0) }) hoL (x.up keep) h64 hb hd fun out so => ⟨_, rfl, ?_⟩) (args_list_sort _)))
  refine wpAny_pure ⟨_, rfl, ?_⟩
  obtain ⟨ps', a1, a2, a3⟩ := so
  have st : s.heap.StaysIn (sortedAll s.heap vs out.toArray) := fun b o e => sortedAll_old e
  obtain ⟨e, he⟩ := sortedAll_at s.heap vs out.toArray
  refine h _ ps' out e (sortedAll s.heap vs out.toArray) st ⟨fun p hp => ?_, by simp⟩ a1 a2 a3
  rw [List.mem_singleton.mp hp]
  exact ⟨he, Heap.get?_none_of_le (Nat.le_succ _)⟩
end
end

/- F11 -/
/- comprehensions over what is made on the way; range; slices, len, items and sums of lists -/
section
open PySem PySem.W PyProof.Rows PySem.Calls
section
variable {prog : Program} {w : World} {A : Around} {env : Env} {h : Heap} {b : Shared}
/- a comprehension that makes nothing but its list -/
theorem ev_compPI {α β : Type} {V : α → Value → Prop} {U : β → Value → Prop} {elt iter : Expr} {x : Str} {px pos : Pos} {ifs : List Expr} {scope : Scope} {cl : List (Str × Addr)} {n : Nat} {P : Nat → Value → Prop} (src : List α) (q : α → Bool) (g : α → β) (dec : Value → α)
    (hdec : ∀ a v, V a v → dec v = a) (hsrc : src.length = n) (hP : ∀ j v, P j v → ∃ a, src[j]? = some a ∧ V a v)
    (hclos : closureFor scope env = pure cl) (hi : ItE prog w A env b iter n P) (hn : n ≤ sizeLine)
    (ht : ∀ C b' m a v, V a v → a ∈ src → Up b b' → b'.heap.Ns C m → m x = some v → TestsTo prog w A (compEnvC scope cl C env) b' ifs (q a))
    (he : ∀ C b' m a v, V a v → a ∈ src → q a = true → Up b b' → b'.heap.Ns C m → m x = some v → EvP prog w A (compEnvC scope cl C env) b' elt (U (g a)))
    (hcell : ∀ y ∈ scope.names, y.2 ≠ .cell) (hkind : scope.kind = .function) (hnames : ∀ y ∈ scope.names, y.2 = .local → scope.names.lookup y.1 = some .local) (hx : scope.names.lookup x = some .local)
    (hs : ∀ x, foldedSetIterable iter env x = pure x := by intro _; rfl) :
    EvN prog w A env b (.ListComp elt [⟨.Name x px, iter, ifs, 0⟩] scope pos) (fun r nw => ∃ D ys k, r = .ref D ∧ nw = [(D, LO ys k)] ∧ All2 U ((src.filter q).map g) ys) := by
  refine (ev_compI (fun v => q (dec v)) (fun v y nw => nw = [] ∧ U (g (dec v)) y) hclos hi hn (fun C b' m i v hp u hn hm => ?_) (fun C b' m i v hp hq u hn hm => ?_) hcell hkind hnames hx hs).mono ?_
  · obtain ⟨a, ha, hv⟩ := hP i v hp
    rw [hdec a v hv]
    exact ht C b' m a v hv (List.mem_of_getElem? ha) u hn hm
  · obtain ⟨a, ha, hv⟩ := hP i v hp
    rw [hdec a v hv] at hq ⊢
    exact (he C b' m a v hv (List.mem_of_getElem? ha) hq u hn hm).toN
  · intro v s s' up kp hq; obtain ⟨nw, hnew, D, ys, k, vs, nw', rfl, rfl, hl, hvs, hm⟩ := hq
    have hall : All2 V src vs := all2_of (by lia) fun j a v e e' => by
      obtain ⟨a', ea, hv⟩ := hP j v (hvs j v e')
      rw [e] at ea; cases ea; exact hv
    obtain ⟨rfl, hy⟩ := made_all2 hdec hm src hall
    exact ⟨_, hnew, D, ys, k, rfl, rfl, hy⟩
theorem ev_compNI {α β : Type} {V : α → Value → Prop} {U : β → Value → List (Addr × Obj) → Prop} {elt iter : Expr} {x : Str} {px pos : Pos} {ifs : List Expr} {scope : Scope} {cl : List (Str × Addr)} {n : Nat} {P : Nat → Value → Prop} (src : List α) (q : α → Bool) (g : α → β) (dec : Value → α)
    (hdec : ∀ a v, V a v → dec v = a) (hsrc : src.length = n) (hP : ∀ j v, P j v → ∃ a, src[j]? = some a ∧ V a v)
    (hclos : closureFor scope env = pure cl) (hi : ItE prog w A env b iter n P) (hn : n ≤ sizeLine)
    (ht : ∀ C b' m a v, V a v → a ∈ src → Up b b' → b'.heap.Ns C m → m x = some v → TestsTo prog w A (compEnvC scope cl C env) b' ifs (q a))
    (he : ∀ C b' m a v, V a v → a ∈ src → q a = true → Up b b' → b'.heap.Ns C m → m x = some v → EvN prog w A (compEnvC scope cl C env) b' elt (U (g a)))
    (hcell : ∀ y ∈ scope.names, y.2 ≠ .cell) (hkind : scope.kind = .function) (hnames : ∀ y ∈ scope.names, y.2 = .local → scope.names.lookup y.1 = some .local) (hx : scope.names.lookup x = some .local)
    (hs : ∀ x, foldedSetIterable iter env x = pure x := by intro _; rfl) :
    EvN prog w A env b (.ListComp elt [⟨.Name x px, iter, ifs, 0⟩] scope pos) (fun r nw => ∃ D ys k nw', r = .ref D ∧ nw = (D, LO ys k) :: nw' ∧ All2 (Of U nw') ((src.filter q).map g) ys) := by
  refine (ev_compI (fun v => q (dec v)) (fun v y nw => U (g (dec v)) y nw) hclos hi hn (fun C b' m i v hp u hn hm => ?_) (fun C b' m i v hp hq u hn hm => ?_) hcell hkind hnames hx hs).mono ?_
  · obtain ⟨a, ha, hv⟩ := hP i v hp
    rw [hdec a v hv]
    exact ht C b' m a v hv (List.mem_of_getElem? ha) u hn hm
  · obtain ⟨a, ha, hv⟩ := hP i v hp
    rw [hdec a v hv] at hq ⊢
    exact he C b' m a v hv (List.mem_of_getElem? ha) hq u hn hm
  · intro v s s' up kp hq; obtain ⟨nw, hnew, D, ys, k, vs, nw', rfl, rfl, hl, hvs, hm⟩ := hq
    have hall : All2 V src vs := all2_of (by lia) fun j a v e e' => by
      obtain ⟨a', ea, hv⟩ := hP j v (hvs j v e')
      rw [e] at ea; cases ea; exact hv
    exact ⟨_, hnew, D, ys, k, nw', rfl, rfl, made_of hdec hm src hall⟩

/- range(n) -/
theorem it_range (hh : A.handled = none) {x : Str} {pp pos : Pos} {e : Expr} {n : Nat} (hn : EvP prog w A env b (.Name x pp) (· = .type "range")) (he : EvP prog w A env b e (IsI n)) (hz : n ≤ 1000000) (hp : starEach [e] env = [(false, eval e env)] := by rfl) :
    ItE prog w A env b (.Call (.Name x pp) [e] [] pos) n (fun i v => i < n ∧ IsI i v) :=
  ev_call (T := fun v s s' => ∃ base, IterOf prog w A s'.heap v base n (fun i v => i < n ∧ IsI i v)) (fun _ _ _ _ _ x => x) hn (.type _) (args1 he hp) fun vs s s₁ E _ _ hq7 => by
    obtain ⟨u, e1, t, e2⟩ := hq7
    subst e1 e2
    refine call_range_1 ⟨⟨_, _, rfl, stays_push _ _⟩, [], (fun b hb => nomatch hb), fun s₂ E₂ Q st k => ?_⟩
    have hr : IsRange s₂.heap s₁.heap.objs.size 0 n 1 s₁.toks t (s₁.toks + 1) := st _ _ (Heap.get?_push_size _ rfl)
    refine wpAny_pyIter_range hr (small_one (by lia) (by lia) (by lia) (by lia)) ?_
    have hsz : Builtin.Range.rangeSize 0 (n : Int) 1 = (n : Int) := by rw [rangeSize_one]; split <;> lia
    rw [hsz]
    have W := Walks.range (prog := prog) (w := w) (A := A) hh s₂.heap.objs.size 0 1 n
    refine k s₂.heap.objs.size (fun i h => IsRangeIter h s₂.heap.objs.size (0 + (i : Nat) * 1) ((n : Int) - (i : Nat)) 1) _ ⟨⟨W.sub, W.frame, fun i s Q E hi st hQ => ?_, W.done, W.self⟩, fun i h x => ⟨_, x⟩⟩ ?_ (stays_push _ _) (get_none_of_size s₂.heap 0)
    · refine W.item i s Q E hi st fun v h' tk hv a b => hQ v h' tk ?_ a b
      obtain ⟨t, rfl⟩ := hv
      exact ⟨hi, t, by simp⟩
    · simpa using Heap.get?_push_size s₂.heap rfl
/- a list, told where it stands -/
noncomputable abbrev IsL (ys : List Value) (v : Value) (s' : Shared) : Prop := ∃ l n, v = .ref l ∧ s'.heap.get? l = some (LO ys n)
/- x[:k] of a list -/
theorem ev_lsliceTo {value e : Expr} {p pos : Pos} {l : Addr} {ys : List Value} {n k : Nat} (hv : EvP prog w A env b value (· = .ref l)) (hl : b.heap.get? l = some (LO ys n)) (he : EvP prog w A env b e (IsI k)) (hk : k ≤ ys.length) (hz : ys.length ≤ 1000) (ht : ∀ o r, letTemporaryGo value o r = pure () := by intro _ _; rfl) :
    Ev prog w A env b (.Subscript value (.Slice none (some e) none p) pos) (fun v _ s' => IsL (ys.take k) v s') := by
  refine ev_of fun s E up => ?_
  have hsz : sizeLine = 16777216 := by decide
  refine wpAny_Subscript_list_slice (wpAny_mono (hv s E up) (fun o s₁ q₁ => evalPart_none_step (evalPart_some_step (wpAny_mono (he s₁ E (up.trans q₁.1.up)) (fun v s₂ q₂ => ?_) fun _ _ e => e))) fun _ _ e => e) ht
  obtain ⟨k₁, rfl⟩ := q₁
  obtain ⟨k₂, u, rfl⟩ := q₂
  refine ⟨l, ys.toArray, none, some (k : Int), rfl, ⟨_, (up.trans (k₁.trans k₂).up).st _ _ hl, rfl, _, rfl⟩, by rw [List.size_toArray]; lia, .none, .int _ _, ?_⟩
  refine ⟨keeps_trans (k₁.trans k₂).k ⟨_, _, rfl, fun _ _ e => Heap.get?_push_of_some _ (Heap.get?_push_of_some _ e)⟩, _, 0, rfl, ?_⟩
  have e1 : slicePick ys.toArray none (some (k : Int)) none = (ys.take k).toArray := by
    have h0 : slicePick ys.toArray none (some (k : Int)) none = slicePick ys.toArray (some ((0 : Nat) : Int)) (some (k : Int)) none := by
      unfold slicePick sliceBounds; simp
      rw [show max (0 : Int) (min 0 (ys.length : Int)) = 0 by lia]
    rw [h0, slicePick_run _ 0 k (by simpa using hk) (Nat.zero_le _)]
    simp
  rw [e1]
  rw [← Heap.size_push]
  exact Heap.get?_push_size _ rfl
theorem it_lsliceTo (hh : A.handled = none) {value e : Expr} {p pos : Pos} {l : Addr} {ys : List Value} {n k : Nat} (hv : EvP prog w A env b value (· = .ref l)) (hl : b.heap.get? l = some (LO ys n)) (he : EvP prog w A env b e (IsI k)) (hk : k ≤ ys.length) (hz : ys.length ≤ 1000) (ht : ∀ o r, letTemporaryGo value o r = pure () := by intro _ _; rfl) :
    ItE prog w A env b (.Subscript value (.Slice none (some e) none p) pos) k (fun i v => (ys.take k)[i]? = some v) :=
  (ev_lsliceTo hv hl he hk hz ht).mono fun v s s' _ _ hq7 => by
    obtain ⟨l', n', e, ho⟩ := hq7
    subst e
    have := iter_list (prog := prog) (w := w) hh (isList_LO ho)
    refine ⟨[l'], ?_⟩
    simpa [Nat.min_eq_left hk] using this
theorem it_L (hh : A.handled = none) {iter : Expr} {l : Addr} {ys : List Value} {n : Nat} (hi : EvP prog w A env b iter (· = .ref l)) (hl : b.heap.get? l = some (LO ys n)) : ItE prog w A env b iter ys.length (fun i v => ys[i]? = some v) :=
  it_of hi (by simpa using iter_list (prog := prog) (w := w) hh (isList_LO hl))
/- len(l) -/
theorem ev_lenL {x : Str} {pp pos : Pos} {e : Expr} {len : Nat} (hn : EvP prog w A env b (.Name x pp) (· = .builtin "len")) (he : Ev prog w A env b e (fun v _ s' => ∃ ys, IsL ys v s' ∧ ys.length = len)) (hz : len ≤ 1000000) (hp : starEach [e] env = [(false, eval e env)] := by rfl) : EvP prog w A env b (.Call (.Name x pp) [e] [] pos) (IsI len) :=
  ev_call back_P hn (.builtin _) (args_consT he args0 hp) fun vs s s₁ E _ _ hv => by
    obtain ⟨v1, r, s2, rfl, k1, k2, ⟨ys, ⟨l, n, rfl, hl⟩, el⟩, rfl⟩ := hv
    refine len_list (items := ys.toArray) ⟨_, k2.up.st _ _ hl, rfl, _, rfl⟩ (by rw [List.size_toArray]; lia) ⟨keeps_toks s₁ _, s₁.toks + 1, ?_⟩
    rw [List.size_toArray, el]
theorem ev_lenAt {x : Str} {pp pos : Pos} {e : Expr} {l : Addr} {ys : List Value} {n : Nat} (hn : EvP prog w A env b (.Name x pp) (· = .builtin "len")) (he : EvP prog w A env b e (· = .ref l)) (hl : b.heap.get? l = some (LO ys n)) (hz : ys.length ≤ 1000000) (hp : starEach [e] env = [(false, eval e env)] := by rfl) : EvP prog w A env b (.Call (.Name x pp) [e] [] pos) (IsI ys.length) :=
  ev_lenL hn (Ev.mono he fun v s s' up kp e => ⟨ys, ⟨l, n, e, kp.up.st _ _ (up.st _ _ hl)⟩, rfl⟩) hz hp
/- l[i] -/
theorem ev_itemL {o i : Expr} {pos : Pos} {l : Addr} {ys : List Value} {n k : Nat} {y : Value} (ho : EvP prog w A env b o (· = .ref l)) (hl : b.heap.get? l = some (LO ys n)) (hi : EvP prog w A env b i (IsI k)) (hy : ys[k]? = some y) (hk : k < 1000000)
    (hs : ∀ ov iv, subscripted i false ov iv = operate [ov, iv] (getItem ov iv) := by intro _ _; rfl) (ht : ∀ ov r, letTemporaryGo o ov r = pure () := by intro _ _; rfl) :
    EvP prog w A env b (.Subscript o i pos) (· = y) :=
  ev_item back_P ho hi (T := "list") (id := "list.__getitem__") (fun v s u e => by subst e; exact ⟨_, u.st _ _ hl, rfl⟩) slot_list_getitem.lookup (fun ov iv s E up e hq7 => by
    obtain ⟨t, e'⟩ := hq7
    subst e; subst e'
    exact wpAny_getItem_list (isList_LO (up.st _ _ hl)) (by lia) (by lia) (by simpa using hy) ⟨keeps_toks s s.toks, rfl⟩) hs ht
noncomputable abbrev NL (xs : List Int) (ys : List Value) : Prop := All2 IsI xs ys
theorem nl_items : ∀ {xs : List Int} {ys : List Value}, NL xs ys → ∃ l : List (Int × Tok), ys = l.map (fun p => Value.int p.1 p.2) ∧ l.map (·.1) = xs
  | [], [], _ => ⟨[], rfl, rfl⟩
  | x :: xs, v :: vs, h => by
    obtain ⟨t, e⟩ := h.1
    obtain ⟨l, e1, e2⟩ := nl_items h.2
    exact ⟨(x, t) :: l, by rw [e, e1]; rfl, by rw [List.map_cons, e2]⟩
  | [], _ :: _, h => h.elim
  | _ :: _, [], h => h.elim
/- sum(l) -/
theorem ev_sumL (hh : A.handled = none) {x : Str} {pp pos : Pos} {e : Expr} {xs : List Int} (hn : EvP prog w A env b (.Name x pp) (· = .builtin "sum")) (he : Ev prog w A env b e (fun v _ s' => ∃ ys, IsL ys v s' ∧ NL xs ys)) (hp : starEach [e] env = [(false, eval e env)] := by rfl) : EvP prog w A env b (.Call (.Name x pp) [e] [] pos) (IsI xs.sum) :=
  ev_call back_P hn (.builtin _) (args_consT he args0 hp) fun vs s s₁ E _ _ hv => by
    obtain ⟨v1, r, s2, rfl, k1, k2, ⟨ys, ⟨l, n, rfl, hl⟩, el⟩, rfl⟩ := hv
    obtain ⟨li, rfl, e2⟩ := nl_items el
    have hil : s₁.heap.IsList l (intItems li.toArray) := ⟨_, k2.up.st _ _ hl, rfl, n, by simp [intItems]⟩
    refine sum_intListG hh hil fun h' tk t' hk => ⟨⟨h', tk, rfl, hk⟩, t', ?_⟩
    rw [preSum_eq, List.take_of_length_le (by simp), e2]
end
end

/- F12 -/
/- four names at once; two names swapped; a cell and a local -/
section
open PySem PySem.W PyProof.Rows PySem.Calls
section
variable {prog : Program} {w : World} {A : Around} {env : Env} {b : Shared} {h₀ : Heap} {m cm : List (Str × Value)} {led : List (Addr × Obj)} {s₀ : Shared} {h : Heap} {tk : Nat} {rest : List Stmt} {Q : Flow → Shared → Prop} {E : Value → Shared → Prop}
theorem assign_quad {a b c d : Str} {pa pb pc pd pos : Pos} {k : Nat} {t : Addr} {va vb vc vd : Value} {s : Shared} {Q : Unit → Shared → Prop} (hh : A.handled = none) (ht : IsTup s.heap t #[va, vb, vc, vd])
    (h : ∀ h', s.heap.StaysIn h' → wpAny (model prog w) A (storeName env a va) (fun _ s₁ => wpAny (model prog w) A (storeName env b vb) (fun _ s₂ => wpAny (model prog w) A (storeName env c vc) (fun _ s₃ => wpAny (model prog w) A (storeName env d vd) Q E s₃) E s₂) E s₁) E { s with heap := h' }) :
    wpAny (model prog w) A (assign (.Tuple [.Name a pa, .Name b pb, .Name c pc, .Name d pd] k pos) env (.ref t)) Q E s := by
  refine assign_Tuple_tuple hh ht rfl rfl fun h' hx => ?_
  show wpAny _ _ (do holding [vb, vc, vd] (assign (.Name a pa) env va); do holding [vc, vd] (assign (.Name b pb) env vb); do holding [vd] (assign (.Name c pc) env vc); do holding [] (assign (.Name d pd) env vd); pure ()) _ _ _
  refine wpAny_bind (wpAny_holding (wpAny_assign_Name (wpAny_mono (h h' (extBut_stays hx)) (fun _ s₁ q => ?_) fun _ _ e => e)))
  refine wpAny_bind (wpAny_holding (wpAny_assign_Name (wpAny_mono q (fun _ s₂ q => ?_) fun _ _ e => e)))
  refine wpAny_bind (wpAny_holding (wpAny_assign_Name (wpAny_mono q (fun _ s₂ q => ?_) fun _ _ e => e)))
  exact wpAny_bind (wpAny_holding (wpAny_assign_Name (wpAny_mono q (fun _ s₂ q => wpAny_pure q) fun _ _ e => e)))
theorem t_quadN {x y z u : Str} {px py pz pu pt pos : Pos} {kk : Nat} {e : Expr} {G : Value → Value → Value → Value → Prop} (hh : A.handled = none) (S : Sta h₀ env.locals env.cells m cm led h)
    (he : Ev prog w A env { s₀ with heap := h, toks := tk } e (fun v s s' => ∃ t va vb vc vd, v = .ref t ∧ IsTup s'.heap t #[va, vb, vc, vd] ∧ G va vb vc vd))
    (k : ∀ va vb vc vd h' tk', tk ≤ tk' → G va vb vc vd → Sta h₀ env.locals env.cells ((u, vd) :: (z, vc) :: (y, vb) :: (x, va) :: m) cm led h' → wpAny (model prog w) A (execs rest env) Q E { s₀ with heap := h', toks := tk' })
    (hx : env.kindOf x = some .local := by rfl) (hy : env.kindOf y = some .local := by rfl) (hz : env.kindOf z = some .local := by rfl) (hu : env.kindOf u = some .local := by rfl) (hkd : env.scope.kind = .function := by rfl)
    (hs : swapsWithSole [.Tuple [.Name x px, .Name y py, .Name z pz, .Name u pu] kk pt] e pos.line env = pure false := by rfl) (hw : swappedStores [.Tuple [.Name x px, .Name y py, .Name z pz, .Name u pu] kk pt] e env = pure none := by rfl) :
    wpAny (model prog w) A (execs (.Assign [.Tuple [.Name x px, .Name y py, .Name z pz, .Name u pu] kk pt] e pos :: rest) env) Q E { s₀ with heap := h, toks := tk } := by
  refine wpAny_execs_cons (Assign_Tuple (wpAny_mono (he _ _ (Up.refl _)) (fun v s₁ q => ?_) fun _ _ e => e) hs hw)
  obtain ⟨kp, t, va, vb, vc, vd, rfl, htup, g⟩ := q
  obtain ⟨h₁, tk₁, rfl, st, ht⟩ := kp.cases
  refine assign_quad hh htup fun h₂ st₂ => ?_
  refine bindLocal (s := { s₀ with heap := h₂, toks := tk₁ }) ((S.keeps st).keeps st₂) (fun h₃ tk₃ ht₃ S₃ => ?_) hx hkd
  refine bindLocal (s := { s₀ with heap := h₃, toks := tk₃ }) S₃ (fun h₄ tk₄ ht₄ S₄ => ?_) hy hkd
  refine bindLocal (s := { s₀ with heap := h₄, toks := tk₄ }) S₄ (fun h₅ tk₅ ht₅ S₅ => ?_) hz hkd
  refine bindLocal (s := { s₀ with heap := h₅, toks := tk₅ }) S₅ (fun h₆ tk₆ ht₆ S₆ => ?_) hu hkd
  exact k va vb vc vd h₆ tk₆ (Nat.le_trans ht (Nat.le_trans ht₃ (Nat.le_trans ht₄ (Nat.le_trans ht₅ ht₆)))) g S₆
theorem ev_tup3 {e f g : Expr} {k : Nat} {pos : Pos} {Pa Pb Pc : Value → Prop} (he : EvP prog w A env b e Pa) (hf : EvP prog w A env b f Pb) (hg : EvP prog w A env b g Pc)
    (hp : starEach [e, f, g] env = (false, eval e env) :: starEach [f, g] env := by rfl) (hq : starEach [f, g] env = (false, eval f env) :: starEach [g] env := by rfl) (hr : starEach [g] env = [(false, eval g env)] := by rfl) :
    Ev prog w A env b (.Tuple [e, f, g] k pos) (fun v s s' => ∃ t va vb vc nw, v = .ref t ∧ IsTup s'.heap t #[va, vb, vc] ∧ NewIn s.heap s'.heap nw ∧ nw = [] ∧ Pa va ∧ Pb vb ∧ Pc vc) :=
  (ev_tuple (P := fun vs => ∃ u v w, vs = [u, v, w] ∧ Pa u ∧ Pb v ∧ Pc w) (args3 he hf hg hp hq hr) (fun vs hq => by obtain ⟨u, v, w, e, _⟩ := hq; rw [e]; show 3 ≤ sizeLine; decide)).mono fun v s s' _ _ hq7 => by
    obtain ⟨nw, hnew, t, vs, e, en, u, u', u'', ev, p, p', p''⟩ := hq7
    refine ⟨t, u, u', u'', [], e, ?_, NewIn.nil _ _, rfl, p, p', p''⟩
    subst en ev
    exact isTup_TO (hnew.1 _ List.mem_cons_self).1
theorem ev_tup4 {e f g i : Expr} {k : Nat} {pos : Pos} {Pa Pb Pc Pd : Value → Prop} (he : EvP prog w A env b e Pa) (hf : EvP prog w A env b f Pb) (hg : EvP prog w A env b g Pc) (hi : EvP prog w A env b i Pd)
    (hp : starEach [e, f, g, i] env = (false, eval e env) :: starEach [f, g, i] env := by rfl) (hq : starEach [f, g, i] env = (false, eval f env) :: starEach [g, i] env := by rfl) (hr : starEach [g, i] env = (false, eval g env) :: starEach [i] env := by rfl) (hj : starEach [i] env = [(false, eval i env)] := by rfl) :
    Ev prog w A env b (.Tuple [e, f, g, i] k pos) (fun v s s' => ∃ t va vb vc vd, v = .ref t ∧ IsTup s'.heap t #[va, vb, vc, vd] ∧ Pa va ∧ Pb vb ∧ Pc vc ∧ Pd vd) :=
  (ev_tuple (P := fun vs => ∃ u v w x, vs = [u, v, w, x] ∧ Pa u ∧ Pb v ∧ Pc w ∧ Pd x) (args4 he hf hg hi hp hq hr hj) (fun vs hq => by obtain ⟨u, v, w, x, e, _⟩ := hq; rw [e]; show 4 ≤ sizeLine; decide)).mono fun v s s' _ _ hq7 => by
    obtain ⟨nw, hnew, t, vs, e, en, u, u', u'', u3, ev, p, p', p'', p3⟩ := hq7
    refine ⟨t, u, u', u'', u3, e, ?_, p, p', p'', p3⟩
    subst en ev
    exact isTup_TO (hnew.1 _ List.mem_cons_self).1
/- a cell and a local are bound -/
theorem st_cl {a b : Str} {ca : Addr} (ha : env.cells.lookup a = some ca) (hka : env.kindOf a = some .cell) (hkb : env.kindOf b = some .local) (hkd : env.scope.kind = .function) :
    ∀ va vb m₁ cm₁ led₁ (s₁ : Shared) (Q' : Unit → Shared → Prop) E', Sta h₀ env.locals env.cells m₁ cm₁ led₁ s₁.heap → (∀ h' tk, s₁.toks ≤ tk → Sta h₀ env.locals env.cells ((b, vb) :: m₁) ((a, va) :: cm₁) led₁ h' → Q' () { s₁ with heap := h', toks := tk }) →
      wpAny (model prog w) A (storeName env a va) (fun _ s₂ => wpAny (model prog w) A (storeName env b vb) Q' E' s₂) E' s₁ := by
  intro va vb m₁ cm₁ led₁ s₁ Q' E' S k
  refine bindCell S ha (fun h₁ tk₁ ht₁ S₁ => ?_) hka hkd
  exact bindLocal (s := { s₁ with heap := h₁, toks := tk₁ }) S₁ (fun h₂ tk₂ ht₂ S₂ => k h₂ tk₂ (Nat.le_trans ht₁ ht₂) S₂) hkb hkd
/- x, y = a, b: stored in the other order -/
theorem t_swap2 {x y : Str} {px py pt pos : Pos} {kk : Nat} {e : Expr} {G : Value → Value → Prop} (hh : A.handled = none) (S : Sta h₀ env.locals env.cells m cm led h)
    (he : Ev prog w A env { s₀ with heap := h, toks := tk } e (fun v s s' => ∃ t va vb, v = .ref t ∧ IsTup s'.heap t #[va, vb] ∧ G va vb))
    (k : ∀ va vb h' tk', tk ≤ tk' → G va vb → Sta h₀ env.locals env.cells ((x, va) :: (y, vb) :: m) cm led h' → wpAny (model prog w) A (execs rest env) Q E { s₀ with heap := h', toks := tk' })
    (hx : env.kindOf x = some .local := by rfl) (hy : env.kindOf y = some .local := by rfl) (hkd : env.scope.kind = .function := by rfl)
    (hs : swapsWithSole [.Tuple [.Name x px, .Name y py] kk pt] e pos.line env = pure false := by rfl) (hw : swappedStores [.Tuple [.Name x px, .Name y py] kk pt] e env = pure (some [x, y]) := by rfl) :
    wpAny (model prog w) A (execs (.Assign [.Tuple [.Name x px, .Name y py] kk pt] e pos :: rest) env) Q E { s₀ with heap := h, toks := tk } := by
  refine wpAny_execs_cons (Assign_Tuple_swapped (wpAny_mono (he _ _ (Up.refl _)) (fun v s₁ q => ?_) fun _ _ e => e) hs hw)
  obtain ⟨kp, t, va, vb, rfl, htup, g⟩ := q
  obtain ⟨h₁, tk₁, rfl, st, ht⟩ := kp.cases
  show wpAny _ _ (unpackItems (.ref t) (#[va, vb] : Array Value).size none) _ _ _
  refine unpackItems_tuple hh htup fun h₂ st₂ => ?_
  show wpAny _ _ (assignInOrder [bindName env y, bindName env x] [vb, va]) _ _ _
  refine wpAny_assignInOrder_more (wpAny_bindName ?_)
  refine bindLocal (s := { s₀ with heap := h₂, toks := tk₁ }) ((S.keeps st).keeps (extBut_stays st₂)) (fun h₃ tk₃ ht₃ S₃ => ?_) hy hkd
  refine wpAny_assignInOrder_more (wpAny_bindName ?_)
  refine bindLocal (s := { s₀ with heap := h₃, toks := tk₃ }) S₃ (fun h₄ tk₄ ht₄ S₄ => ?_) hx hkd
  exact wpAny_assignInOrder_none (k va vb h₄ tk₄ (Nat.le_trans ht (Nat.le_trans ht₃ ht₄)) g S₄)
end
end

/- C12 -/
/- _law_turns, walked -/
section
open PySem PySem.W PyProof.Rows PySem.Calls
section
variable {w : World} {A : Around} {s : Shared} {E : Value → Shared → Prop} {mean : ExcName → Option Value} {mg mb : Str → Option Value}
noncomputable abbrev Pr := List Nat × List Nat
noncomputable abbrev IsPr (p : Pr) (a b : Value) : Prop := IsS (ofL p.1) a ∧ IsS (ofL p.2) b
noncomputable def base3 : List Pr := [([38], amp), ([60], lt), ([62], gt)]
noncomputable def ownW (wh : Bool) : List Pr := if wh then white else []
noncomputable def turnsW (ws : List Pr) (wh : Bool) : List Pr :=
  base3 ++ ((ws.map (·.1)).map fun k => (k, ((ownW wh).lookup k).getD ((ws.lookup k).getD []))) ++ ((((ownW wh).map (·.1)).filter fun k => !decide (k ∈ ws.map (·.1))).map fun k => (k, ((ownW wh).lookup k).getD []))

theorem lookup_mem {ws : List Pr} {k : List Nat} (h : k ∈ ws.map (·.1)) : ∃ z, ws.lookup k = some z := by
  induction ws with
  | nil => exact absurd h (by simp)
  | cons p ws ih =>
    by_cases e : k = p.1
    · exact ⟨p.2, by rw [show p = (p.1, p.2) from rfl, List.lookup_cons, show (k == p.1) = true from by rw [e]; simp]⟩
    · have hb : (k == p.1) = false := beq_eq_false_iff_ne.mpr e
      rw [List.map_cons, List.mem_cons] at h
      obtain ⟨z, hz⟩ := ih (h.resolve_left e)
      exact ⟨z, by rw [show p = (p.1, p.2) from rfl, List.lookup_cons, hb]; exact hz⟩
theorem lookup_non {ws : List Pr} {k : List Nat} (h : k ∉ ws.map (·.1)) : ws.lookup k = none := by
  induction ws with
  | nil => rfl
  | cons p ws ih =>
    rw [List.map_cons, List.mem_cons, not_or] at h
    have hb : (k == p.1) = false := beq_eq_false_iff_ne.mpr h.1
    rw [show p = (p.1, p.2) from rfl, List.lookup_cons, hb]
    exact ih h.2
theorem keysV {l : List Ent} : ∀ (j : Nat) (v : Value), (∃ e, l[j]? = some e ∧ IsS (ofL e.k) v) → ∃ a, (keysOf l)[j]? = some a ∧ IsS (ofL a) v := fun j v hq7 => by obtain ⟨e, h, k⟩ := hq7; exact ⟨e.k, by unfold keysOf; rw [List.getElem?_map, h]; rfl, k⟩
theorem lo_inj {D D' : Addr} {zs zs' : List Value} {j j' : Nat} {nw nw' : List (Addr × Obj)} (e : (D, LO zs j) :: nw = (D', LO zs' j') :: nw') : zs = zs' ∧ nw = nw' := by
  obtain ⟨q3, q4⟩ := List.cons.inj e
  obtain ⟨_, q5⟩ := Prod.mk.inj q3
  have := congrArg Obj.data q5
  simp only [Data.seq.injEq] at this
  exact ⟨by simpa using this.1, q4⟩
theorem newIn_mid {h h' : Heap} {pre post : List (Addr × Obj)} {p : Addr × Obj} (x : ∀ q ∈ pre ++ p :: post, h'.get? q.1 = some q.2 ∧ h.get? q.1 = none) (nd : ((pre ++ p :: post).map (·.1)).Nodup) : NewIn h h' (p :: (pre ++ post)) :=
  ⟨fun q hq => x q (List.perm_middle.mem_iff.mpr hq), ((List.perm_middle (a := p) (l₁ := pre) (l₂ := post)).map (·.1)).nodup_iff.mp nd⟩
set_option maxHeartbeats 1000000 in
theorem c_turns {n : Nat} (G : G0 w mean mg mb s) (R : Room A (n + 2)) {d : Addr} {l : List Ent} {ep : Nat} {wh : Bool} (hd : s.heap.get? d = some (DO w l ep)) (hdS : (d == sysModules) = false) (hn : (keysOf l).Nodup) (hlz : l.length ≤ 100) :
    wpAny (model PR w) A (call (.ref 116) [.ref d, .bool wh]) (fun v s' => Keeps s s' ∧ ∃ D ys k nw, v = .ref D ∧ NewIn s.heap s'.heap ((D, LO ys k) :: nw) ∧ All2 (Of (NewPair IsPr) nw) (turnsW (wordsOf l) wh) ys) E s := by
  refine call_fnC (T := fun v s s' => ∃ D ys k nw, v = .ref D ∧ NewIn s.heap s'.heap ((D, LO ys k) :: nw) ∧ All2 (Of (NewPair IsPr) nw) (turnsW (wordsOf l) wh) ys) f_turns G R (by kernel_rfl) (by rfl)
    (binds := [("table", .ref d), ("white", .bool wh)]) (m := [("white", .bool wh)]) (cm := [("table", .ref d)]) (by rfl) (by rfl) (by rfl) (fun p hp => by rw [List.mem_singleton.mp hp]; rfl) (fun L p hp => ?_) (fun L p hp => ?_) (by decide +kernel) fun L h₁ tk ht S E' => ?_
  · rw [List.mem_singleton.mp hp]; rfl
  · rw [List.mem_singleton.mp hp]; rfl
  have hG := big_G G
  generalize hE : Expr.List _ _ = e0
  refine t_assignN S (P := fun r nw => ∃ D ys k nw', r = .ref D ∧ nw = (D, LO ys k) :: nw' ∧ All2 (Of (NewPair IsPr) nw') base3 ys) ?_ (hs := by rw [← hE]; rfl) fun v nw h tk₁ ht₁ p S => ?_
  · rw [← hE]
    exact ev_listN (U := NewPair IsPr) (cs := base3) (argsN_cons (ev_pair (G := IsPr) (c := (([38] : List Nat), amp)) (Pa := IsS (ofL [38])) (Pb := IsS (ofL amp)) ev_str ev_str fun u v a b => ⟨a, b⟩) (argsN_cons (ev_pair (G := IsPr) (c := (([60] : List Nat), lt)) (Pa := IsS (ofL [60])) (Pb := IsS (ofL lt)) ev_str ev_str fun u v a b => ⟨a, b⟩) (argsN_cons (ev_pair (G := IsPr) (c := (([62] : List Nat), gt)) (Pa := IsS (ofL [62])) (Pb := IsS (ofL gt)) ev_str ev_str fun u v a b => ⟨a, b⟩) argsN_nil))) (by decide)
  obtain ⟨D, ys, k, nw1, rfl, rfl, all1⟩ := p
  rw [List.append_nil] at S
  refine t_assignC S (P := fun v nw => ∃ d' l' ep', v = .ref d' ∧ nw = [(d', DO w l' ep')] ∧ wordsOf l' = ownW wh ∧ (d' == sysModules) = false) (ev_ifexp back_N (c := wh) (evt_of (P := (· = .bool wh)) (n_local S rfl rfl) truth_bool) (fun hc => ?_) fun hc => ?_) fun v nw h tk₂ ht₂ p S => ?_
  · refine (ev_dictC3 (x1 := [10]) (z1 := nl10) (x2 := [13]) (z2 := nl13) (x3 := [9]) (z3 := nl9) (fun b => ev_strF) (fun b => ev_strF) (fun b => ev_strF) (fun b => ev_strF) (fun b => ev_strF) (fun b => ev_strF) (by decide)).mono ?_
    intro v s₂ s₃ up kp hq; obtain ⟨d', ep', l', rfl, hsz, hnew, hw, hfr⟩ := hq
    exact ⟨_, hnew, d', l', ep', rfl, rfl, by rw [hw, hc]; rfl, notSys ((hG.up S.keep).up up.st) hsz⟩
  · refine ev_dict0.mono ?_
    intro v s₂ s₃ up kp hq; obtain ⟨d', ep', l', rfl, hsz, hnew, hw, hfr⟩ := hq
    exact ⟨_, hnew, d', l', ep', rfl, rfl, by rw [hw, hc]; rfl, notSys ((hG.up S.keep).up up.st) hsz⟩
  obtain ⟨d', l', ep', rfl, rfl, hw', hdS'⟩ := p
  have hkl : keysOf l' = (ownW wh).map (·.1) := by rw [keys_words, hw']
  have hn' : (keysOf l').Nodup := by rw [hkl]; cases wh <;> decide
  have hll : l'.length = (ownW wh).length := by
    have := congrArg List.length hw'
    simpa [wordsOf] using this
  have hll3 : l'.length ≤ 3 := by rw [hll]; cases wh <;> decide
  have e1 : (callEnvC f_turns.val L 116).cells.lookup ("own" : Str) = some (L + 1 + 1) := rfl
  have e2 : (callEnvC f_turns.val L 116).cells.lookup ("table" : Str) = some (L + 1) := rfl
  have hsz : sizeLine = 16777216 := by decide
  have len1 := all2_length all1
  have cellsOf : ∀ {led : List (Addr × Obj)} {m : List (Str × Value)} {h : Heap}, Sta s.heap (callEnvC f_turns.val L 116).locals (callEnvC f_turns.val L 116).cells m [("own", .ref d'), ("table", .ref d)] led h → h.IsCell (L + 1 + 1) (some (.ref d')) ∧ h.IsCell (L + 1) (some (.ref d)) := fun S => by
    obtain ⟨a1, b1, hk⟩ := S.cell "own" _ rfl
    obtain ⟨a2, b2, hl⟩ := S.cell "table" _ rfl
    rw [e1] at b1; cases b1
    rw [e2] at b2; cases b2
    exact ⟨hk, hl⟩
  have hres := R.hh
  refine t_extend (pre := [(d', DO w l' ep')]) (a := D) (post := nw1) (P := fun r nw => ∃ D' zs k nw', r = .ref D' ∧ nw = (D', LO zs k) :: nw' ∧ All2 (Of (NewPair IsPr) nw') (((keysOf l).filter fun _ => true).map fun k => (k, ((ownW wh).lookup k).getD (((wordsOf l).lookup k).getD []))) zs) S (n_local S rfl rfl) ?_ (by rw [← len1]; decide) fun Da za ja nwa n' h tk₃ ht₃ p S => ?_
  · obtain ⟨ho, hc⟩ := cellsOf S
    have hd1 := S.keep _ _ hd
    have hd2 : h.get? d' = some (DO w l' ep') := (S.objs _ List.mem_cons_self).1
    refine (ev_compN (V := fun k v => IsS (ofL k) v) (U := NewPair IsPr) (keysOf l) (fun _ => true) (fun k => (k, ((ownW wh).lookup k).getD (((wordsOf l).lookup k).getD []))) txt (fun a v hv => txt_is hv) (n := l.length) (by simp [keysOf]) keysV (cl := [("table", L + 1), ("own", L + 1 + 1)]) rfl (ev_cell rfl hc rfl) (iter_dict (show (A.deeper _).handled = none from hres) hd1 hdS hn) (by lia)
      (fun C b' m a v hv _ u hn hm => tests_nil) (fun C b' m a v hv ha _ u hnn hm => ?_) (by decide) rfl (by decide) rfl).mono ?_
    · have ho' := ho.keeps u.st
      have hc' := hc.keeps u.st
      refine ev_pair (G := IsPr) (c := (a, ((ownW wh).lookup a).getD (((wordsOf l).lookup a).getD []))) (Pa := IsS (ofL a)) (Pb := IsS (ofL (((ownW wh).lookup a).getD (((wordsOf l).lookup a).getD [])))) (ev_local hnn hm hv) (ev_ifexp back_P (c := decide (a ∈ keysOf l')) (evt_inD (ev_local hnn hm hv) (ev_cell rfl ho' rfl) (u.st _ _ hd2) hdS' hn') (fun hc1 => ?_) fun hc1 => ?_) fun u v a b => ⟨a, b⟩
      · obtain ⟨z, hz⟩ := lookup_mem (by rw [← hkl]; exact of_decide_eq_true hc1)
        rw [hz]
        exact ev_itemD (ev_cell rfl ho' rfl) (ev_local hnn hm hv) (u.st _ _ hd2) hdS' hn' (by rw [hw']; exact hz)
      · have hz := lookup_non (ws := ownW wh) (k := a) (by rw [← hkl]; exact of_decide_eq_false hc1)
        obtain ⟨z, hz2⟩ := lookup_mem (ws := wordsOf l) (k := a) (by rw [← keys_words]; exact ha)
        rw [hz, hz2]
        exact ev_itemD (ev_cell rfl hc' rfl) (ev_local hnn hm hv) (u.st _ _ hd1) hdS hn hz2
    · intro v s₂ s₃ up kp hq; obtain ⟨nw, hnew, D', zs, k, nw', rfl, rfl, all⟩ := hq
      have := all2_length all
      rw [List.length_map] at this
      have l1 := List.length_filter_le (fun _ => true) (keysOf l)
      have l2 : (keysOf l).length = l.length := by simp [keysOf]
      exact ⟨_, hnew, D', zs, k, nw', rfl, rfl, by lia, D', zs, k, nw', rfl, rfl, all⟩
  obtain ⟨D₂, zs₂, k₂, nw₂, q1, q2, all2⟩ := p
  cases q1
  obtain ⟨rfl, rfl⟩ := lo_inj q2
  clear q2
  have len2 := all2_length all2
  refine t_extend (pre := ((Da, LO za ja) :: nwa) ++ [(d', DO w l' ep')]) (a := D) (post := nw1) (P := fun r nw => ∃ D' zs k nw', r = .ref D' ∧ nw = (D', LO zs k) :: nw' ∧ All2 (Of (NewPair IsPr) nw') (((keysOf l').filter fun k => !decide (k ∈ keysOf l)).map fun k => (k, ((ownW wh).lookup k).getD [])) zs) S (n_local S rfl rfl) ?_ ?_ fun D' zs' j' nw' n' h tk₃ ht₃ p S => ?_
  · obtain ⟨ho, hc⟩ := cellsOf S
    have hd1 := S.keep _ _ hd
    have hd2 : h.get? d' = some (DO w l' ep') := (S.objs (d', DO w l' ep') (by simp)).1
    refine (ev_compN (V := fun k v => IsS (ofL k) v) (U := NewPair IsPr) (keysOf l') (fun k => !decide (k ∈ keysOf l)) (fun k => (k, ((ownW wh).lookup k).getD [])) txt (fun a v hv => txt_is hv) (n := l'.length) (by simp [keysOf]) keysV (cl := [("table", L + 1), ("own", L + 1 + 1)]) rfl (ev_cell rfl ho rfl) (iter_dict (show (A.deeper _).handled = none from hres) hd2 hdS' hn') (by lia)
      (fun C b' m a v hv _ u hnn hm => by have hc' := hc.keeps u.st; exact tests_one (evt_ninD (ev_local hnn hm hv) (ev_cell rfl hc' rfl) (u.st _ _ hd1) hdS hn)) (fun C b' m a v hv ha _ u hnn hm => ?_) (by decide) rfl (by decide) rfl).mono ?_
    · have ho' := ho.keeps u.st
      refine ev_pair (G := IsPr) (c := (a, ((ownW wh).lookup a).getD [])) (Pa := IsS (ofL a)) (Pb := IsS (ofL (((ownW wh).lookup a).getD []))) (ev_local hnn hm hv) ?_ fun u v a b => ⟨a, b⟩
      obtain ⟨z, hz⟩ := lookup_mem (ws := ownW wh) (k := a) (by rw [← hkl]; exact ha)
      rw [hz]
      exact ev_itemD (ev_cell rfl ho' rfl) (ev_local hnn hm hv) (u.st _ _ hd2) hdS' hn' (by rw [hw']; exact hz)
    · intro v s₂ s₃ up kp hq; obtain ⟨nw, hnew, D', zs, k, nw', rfl, rfl, all⟩ := hq
      have := all2_length all
      have l1 := List.length_filter_le (fun k => !decide (k ∈ keysOf l)) (keysOf l')
      rw [List.length_map] at this
      have l2 : (keysOf l').length = l'.length := by simp [keysOf]
      exact ⟨_, hnew, D', zs, k, nw', rfl, rfl, by lia, D', zs, k, nw', rfl, rfl, all⟩
  · have l1 := List.length_filter_le (fun _ => true) (keysOf l)
    rw [List.length_map] at len2
    rw [List.length_append]
    have : base3.length = 3 := rfl
    have l2 : (keysOf l).length = l.length := by simp [keysOf]
    lia
  obtain ⟨D₃, zs₃, k₃, nw₃, q1, q2, all3⟩ := p
  cases q1
  obtain ⟨rfl, rfl⟩ := lo_inj q2
  clear q2
  refine t_return (T := fun v _ _ => v = .ref D) (n_local S rfl rfl) fun v h tk _ st p => ⟨⟨_, _, rfl, stays_trans S.keep st⟩, D, _, _, _, p, newIn_mid (fun q hq => ⟨st _ _ (S.objs q hq).1, (S.objs q hq).2.1⟩) S.nod, ?_⟩
  unfold turnsW
  rw [← hkl, ← keys_words]
  have f1 : (keysOf l).filter (fun _ => true) = keysOf l := List.filter_eq_self.mpr fun _ _ => rfl
  rw [f1] at all2
  refine all2_app (all2_app (all2_mono (fun b y ⟨n₁, hs, u⟩ => ⟨n₁, fun p hp => ?_, u⟩) all1) (all2_mono (fun b y ⟨n₁, hs, u⟩ => ⟨n₁, fun p hp => ?_, u⟩) all2)) (all2_mono (fun b y ⟨n₁, hs, u⟩ => ⟨n₁, fun p hp => ?_, u⟩) all3)
  · have := hs p hp; simp [this]
  · have := hs p hp; simp [this]
  · have := hs p hp; simp [this]
end
end

/- C13 -/
/- _law_numbers, walked -/
section
open PySem PySem.W PyProof.Rows PySem.Calls
section
variable {w : World} {A : Around} {s : Shared} {E : Value → Shared → Prop} {mean : ExcName → Option Value} {mg mb : Str → Option Value}
noncomputable def pairsF (signs : List Nat) : List (Nat × Nat) := ((List.range signs.length).filter fun i => decide (((signs.getD i 0 : Nat) : Int) > 127)).map fun i => (signs.getD i 0, i)
noncomputable def spotF (signs : List Nat) (high i : Nat) : Nat := ((signs.take i).filter fun c : Nat => decide ((c : Int) ≤ (high : Int))).length
noncomputable def wideF (cells : List (List Nat)) (lead : Int) (i : Nat) : Int := lead + ((List.range i).map fun j => ((cells.getD j []).length : Int) - 1).sum
noncomputable def numsG (signs : List Nat) (cells : List (List Nat)) (more lead : Int) : List (Nat × Nat) → Int → Int → Int → Int → List Int
  | [], _, _, _, _ => []
  | p :: r, code, place, grown, inside =>
    (((p.1 : Int) - code) * (inside + 1) + spotF signs p.1 p.2 - place - 1 + more * ((p.1 : Int) - code) + wideF cells lead p.2 - grown) :: numsG signs cells more lead r p.1 (spotF signs p.1 p.2) (wideF cells lead p.2) (inside + 1)
noncomputable def intOf (v : Value) : Nat := match v with | .int i _ => i.toNat | _ => 0
theorem intOf_is {i : Nat} {v : Value} (h : IsI i v) : intOf v = i := by
  obtain ⟨t, rfl⟩ := h
  simp [intOf]
theorem pairsF_mem {signs : List Nat} {p : Nat × Nat} (h : p ∈ pairsF signs) : p.2 < signs.length ∧ p.1 = signs.getD p.2 0 ∧ 127 < p.1 := by
  unfold pairsF at h
  obtain ⟨i, hi, rfl⟩ := List.mem_map.mp h
  rw [List.mem_filter, List.mem_range] at hi
  have := of_decide_eq_true hi.2
  exact ⟨hi.1, rfl, by lia⟩
theorem pairsF_nodup (signs : List Nat) : (pairsF signs).Nodup := by
  unfold pairsF
  rw [List.Nodup, List.pairwise_map]
  exact (List.nodup_range.filter _).imp fun h e => h (Prod.mk.inj e).2
theorem pairsF_len (signs : List Nat) : (pairsF signs).length ≤ signs.length := by
  unfold pairsF
  rw [List.length_map]
  have := List.length_filter_le (fun i => decide (((signs.getD i 0 : Nat) : Int) > 127)) (List.range signs.length)
  rwa [List.length_range] at this
theorem rangeV {n : Nat} : ∀ (j : Nat) (v : Value), j < n ∧ IsI j v → ∃ a : Nat, (List.range n)[j]? = some a ∧ IsI a v := fun j v hq7 => by obtain ⟨hj, h⟩ := hq7; exact ⟨j, by rw [List.getElem?_range hj], h⟩
theorem tl_at {xs : List (List Nat)} {ys : List Value} (h : TL xs ys) {i : Nat} (hi : i < xs.length) : ∃ y, ys[i]? = some y ∧ IsS (ofL (xs.getD i [])) y := by
  obtain ⟨y, e, k⟩ := all2_get h (j := i) (a := xs[i]) (by simp [hi])
  exact ⟨y, e, by have : xs.getD i [] = xs[i] := by simp [hi]
                  rw [this]; exact k⟩
theorem tl_sign {signs : List Nat} {ys : List Value} (h : TL (signs.map ([·])) ys) {i : Nat} (hi : i < signs.length) : ∃ y, ys[i]? = some y ∧ IsS (ofL [signs.getD i 0]) y := by
  obtain ⟨y, e, k⟩ := tl_at h (i := i) (by simpa using hi)
  refine ⟨y, e, ?_⟩
  have : (signs.map ([·])).getD i [] = [signs.getD i 0] := by simp [hi]
  rw [this] at k; exact k
theorem signV {signs : List Nat} {sys : List Value} (hs : TL (signs.map ([·])) sys) {k : Nat} : ∀ (j : Nat) (v : Value), (sys.take k)[j]? = some v → ∃ a : Nat, (signs.take k)[j]? = some a ∧ IsS (ofL [a]) v := fun j v e => by
  rw [List.getElem?_take] at e
  split at e
  · rename_i hj
    have hl := all2_length hs
    rw [List.length_map] at hl
    have hlt : j < signs.length := by
      have := (List.getElem?_eq_some_iff.mp e).1
      lia
    obtain ⟨y, ey, ky⟩ := tl_sign hs hlt
    rw [e] at ey; cases ey
    have : signs.getD j 0 = signs[j] := by simp [hlt]
    rw [this] at ky
    exact ⟨signs[j], by rw [List.getElem?_take, if_pos hj, List.getElem?_eq_getElem hlt], ky⟩
  · cases e
theorem c_numbers {n : Nat} (G : G0 w mean mg mb s) (R : Room A (n + 2)) {sl cl : Addr} {sys cys : List Value} {sn cn : Nat} {signs : List Nat} {cells : List (List Nat)} {more lead : Int} {tm tl : Tok}
    (hsl : s.heap.get? sl = some (LO sys sn)) (hs : TL (signs.map ([·])) sys) (hcl : s.heap.get? cl = some (LO cys cn)) (hc : TL cells cys) (hlen : cells.length = signs.length) (hn60 : signs.length ≤ 60) (hcz : ∀ c ∈ cells, c.length ≤ 10000000) (hsz : ∀ c ∈ signs, c ≤ 1114111) :
    wpAny (model PR w) A (call (.ref 126) [.ref sl, .ref cl, .int more tm, .int lead tl]) (fun v s' => Keeps s s' ∧ ∃ D ys k order, v = .ref D ∧ NewIn s.heap s'.heap [(D, LO ys k)] ∧ order.Perm (pairsF signs) ∧ order.Pairwise (fun p q => pkey p < pkey q) ∧ NL (numsG signs cells more lead order 128 (-1) 0 ((signs.length : Int) - order.length)) ys) E s := by
  refine call_fnC (T := fun v s s' => ∃ D ys k order, v = .ref D ∧ NewIn s.heap s'.heap [(D, LO ys k)] ∧ order.Perm (pairsF signs) ∧ order.Pairwise (fun p q => pkey p < pkey q) ∧ NL (numsG signs cells more lead order 128 (-1) 0 ((signs.length : Int) - order.length)) ys) f_nums G R (by kernel_rfl) (by rfl)
    (binds := [("signs", .ref sl), ("cells", .ref cl), ("more", .int more tm), ("lead", .int lead tl)]) (m := [("more", .int more tm), ("lead", .int lead tl)]) (cm := [("signs", .ref sl), ("cells", .ref cl)]) (by rfl) (by rfl) (by rfl) (fun p hp => ?_) (fun L p hp => ?_) (fun L p hp => ?_) (by decide +kernel) fun L h₁ tk ht S E' => ?_
  · simp only [List.mem_cons, List.not_mem_nil, or_false] at hp
    rcases hp with rfl | rfl <;> rfl
  · simp only [List.mem_cons, List.not_mem_nil, or_false] at hp
    rcases hp with rfl | rfl <;> rfl
  · simp only [List.mem_cons, List.not_mem_nil, or_false] at hp
    rcases hp with rfl | rfl <;> rfl
  have hszl : sizeLine = 16777216 := by decide
  have hsl1 := all2_length hs
  rw [List.length_map] at hsl1
  have hcl1 := all2_length hc
  have hres : (A.deeper (callEnvC f_nums.val L 126)).handled = none := R.hh
  have hsl0 := S.keep _ _ hsl
  have hsig : signs.map ([·]) = signs.map (fun c => [c]) := rfl
  have cellS : ∀ {led : List (Addr × Obj)} {m cm : List (Str × Value)} {h : Heap}, cm.lookup ("signs" : Str) = some (.ref sl) → Sta s.heap (callEnvC f_nums.val L 126).locals (callEnvC f_nums.val L 126).cells m cm led h → h.IsCell (L + 1) (some (.ref sl)) := fun e S => by
    obtain ⟨a1, b1, hk⟩ := S.cell "signs" _ e
    have e1 : (callEnvC f_nums.val L 126).cells.lookup ("signs" : Str) = some (L + 1) := rfl
    rw [e1] at b1; cases b1
    exact hk
  have cellC : ∀ {led : List (Addr × Obj)} {m cm : List (Str × Value)} {h : Heap}, cm.lookup ("cells" : Str) = some (.ref cl) → Sta s.heap (callEnvC f_nums.val L 126).locals (callEnvC f_nums.val L 126).cells m cm led h → h.IsCell (L + 1 + 1) (some (.ref cl)) := fun e S => by
    obtain ⟨a1, b1, hk⟩ := S.cell "cells" _ e
    have e1 : (callEnvC f_nums.val L 126).cells.lookup ("cells" : Str) = some (L + 1 + 1) := rfl
    rw [e1] at b1; cases b1
    exact hk
  have cellH : ∀ {led : List (Addr × Obj)} {m cm : List (Str × Value)} {h : Heap} {u : Value}, cm.lookup ("high" : Str) = some u → Sta s.heap (callEnvC f_nums.val L 126).locals (callEnvC f_nums.val L 126).cells m cm led h → h.IsCell (L + 1 + 1 + 1) (some u) := fun e S => by
    obtain ⟨a1, b1, hk⟩ := S.cell "high" _ e
    have e1 : (callEnvC f_nums.val L 126).cells.lookup ("high" : Str) = some (L + 1 + 1 + 1) := rfl
    rw [e1] at b1; cases b1
    exact hk
  have hcs := cellS rfl S
  refine t_assignN S (P := fun v nw => ∃ D ys k nw' order, v = .ref D ∧ nw = (D, LO ys k) :: nw' ∧ All2 (Of (NewPair IsNP) nw') order ys ∧ order.Perm (pairsF signs) ∧ order.Pairwise (fun p q => pkey p < pkey q)) ?_ fun v nw h tk₁ ht₁ p S => ?_
  · refine ev_call back_N (gbuilt G S rfl rfl rfl) (.builtin _) (args_consT (ev_compNI (V := fun (i : Nat) v => IsI i v) (U := NewPair IsNP) (List.range signs.length) (fun i => decide (((signs.getD i 0 : Nat) : Int) > 127)) (fun i => (signs.getD i 0, i)) intOf (fun a v hv => intOf_is hv) (n := signs.length) (by simp) rangeV (cl := [("signs", L + 1)]) rfl
        (it_range hres (gbuilt G S rfl rfl rfl) (by rw [hsl1]; exact ev_lenAt (gbuilt G S rfl rfl rfl) (n_cell S rfl rfl) hsl0 (by lia)) (by lia)) (by lia)
        (fun C b' m a v hv ha u hnn hm => ?_) (fun C b' m a v hv ha _ u hnn hm => ?_) (by decide) rfl (by decide) rfl) args0) fun vs s₂ s₁ E _ _ hv => ?_
    · obtain ⟨y, hy, ky⟩ := tl_sign hs (List.mem_range.mp ha)
      have hcs' := hcs.keeps u.st
      have ha' := List.mem_range.mp ha
      exact tests_one (evt_gt (ev_ord (gbuilt G (S.keeps u.st) rfl rfl rfl) ((ev_itemL (ev_cell rfl hcs' rfl) (u.st _ _ hsl0) (ev_local hnn hm hv) hy (by lia)).mono fun v _ _ _ _ e => by rw [e]; exact ky)) ev_int)
    · obtain ⟨y, hy, ky⟩ := tl_sign hs (List.mem_range.mp ha)
      have hcs' := hcs.keeps u.st
      have ha' := List.mem_range.mp ha
      exact ev_pair (G := IsNP) (c := (signs.getD a 0, a)) (Pa := IsI (signs.getD a 0 : Nat)) (Pb := IsI a) (ev_ord (gbuilt G (S.keeps u.st) rfl rfl rfl) ((ev_itemL (ev_cell rfl hcs' rfl) (u.st _ _ hsl0) (ev_local hnn hm hv) hy (by lia)).mono fun v _ _ _ _ e => by rw [e]; exact ky)) (ev_local hnn hm hv) fun u v a b => ⟨a, b⟩
    · obtain ⟨v1, r, s3, rfl, k1, k2, ⟨nw, hnew, D, ys, k, nw', rfl, rfl, all⟩, rfl⟩ := hv
      have hD := k2.up.st _ _ (hnew.1 _ List.mem_cons_self).1
      refine sorted_np (ps := pairsF signs) hD ((pl_of all fun p hp => (hnew.1 p (List.mem_cons_of_mem _ hp)).1).up k2.up.st) (by have := pairsF_len signs; lia) (fun p hp => by have := (pairsF_mem hp).1; lia) (pairsF_nodup signs) fun D' ps' ys' k' h' st hn' hall perm pw => ?_
      refine ⟨⟨h', _, rfl, st⟩, [(D', LO ys' k')] ++ nw', ?_, D', ys', k', nw', ps', rfl, rfl, hall _ all, perm, pw⟩
      have hn2 : NewIn s₂.heap s3.heap nw' := ⟨fun p hp => hnew.1 p (List.mem_cons_of_mem _ hp), (List.nodup_cons.mp hnew.2).2⟩
      exact NewIn.append (stays_trans k1.up.st k2.up.st) st (hn2.up k2.up.st) hn'
  obtain ⟨O, oys, ok, nwo, order, rfl, rfl, allo, perm, pw⟩ := p
  rw [List.append_nil] at S
  have holen := all2_length allo
  have hol2 : order.length ≤ signs.length := by rw [perm.length_eq]; exact pairsF_len signs
  refine t_assign S (P := IsI ((signs.length : Int) - order.length)) (ev_sub (by rw [hsl1]; exact ev_lenAt (gbuilt G S rfl rfl rfl) (n_cell S rfl rfl) (S.keep _ _ hsl) (by lia)) (by rw [holen]; exact ev_lenAt (gbuilt G S rfl rfl rfl) (n_local S rfl rfl) (S.objs _ List.mem_cons_self).1 (by lia))) fun v h tk₂ ht₂ p S => ?_
  obtain ⟨ti, rfl⟩ := p
  refine t_tripleN hres S (ev_tup3 (Pa := IsI 128) (Pb := IsI (-1)) (Pc := IsI 0) ev_int (ev_neg ev_int) ev_int) fun va vb vc nw h tk₃ ht₃ p S => ?_
  obtain ⟨rfl, ⟨t1, rfl⟩, ⟨t2, rfl⟩, ⟨t3, rfl⟩⟩ := p
  refine t_assignN S (P := fun v nw => ∃ D, v = .ref D ∧ nw = [(D, LO [] 0)]) ((ev_list (args0) (fun vs e => by rw [e]; decide)).mono ?_) ?_
  · intro v s₂ s₃ _ _ hq; obtain ⟨nw, hnew, t, vs, rfl, rfl, rfl⟩ := hq
    exact ⟨_, hnew, t, rfl, rfl⟩
  intro v nw h tk₄ ht₄ hq; obtain ⟨N, rfl, rfl⟩ := hq; intro S
  have S := sre (m' := [("code", .int (128 : Nat) t1), ("place", .int (-1) t2), ("grown", .int 0 t3), ("inside", .int ((signs.length : Int) - order.length) ti), ("numbers", .ref N), ("order", .ref O), ("lead", .int lead tl), ("more", .int more tm)]) S ⟨rfl, rfl, rfl, rfl, rfl, rfl, rfl, rfl, trivial⟩ (cm' := [("signs", .ref sl), ("cells", .ref cl)]) ⟨rfl, rfl, trivial⟩
  generalize hin : (signs.length : Int) - order.length = inside₀ at S ⊢
  refine t_forPairs hres (l := O) (ys := oys) (n := ok) (ps := order) (G := IsNP) (fun i m cm led => ∃ (code : Nat) (place grown inside : Int) (tc tp tg tin : Tok) (ys : List Value) (k : Nat) (done : List Int),
      m = ([("code", .int code tc), ("place", .int place tp), ("grown", .int grown tg), ("inside", .int inside tin), ("numbers", .ref N), ("order", .ref O), ("lead", .int lead tl), ("more", .int more tm)] : List (Str × Value)) ∧ cm = ([("signs", .ref sl), ("cells", .ref cl)] : List (Str × Value)) ∧
      led = (N, LO ys k) :: (O, LO oys ok) :: nwo ∧ code ≤ 1114111 ∧ ys.length ≤ i ∧ NL done ys ∧ done ++ numsG signs cells more lead (order.drop i) code place grown inside = numsG signs cells more lead order 128 (-1) 0 inside₀)
    (fun va vb m => ("i", vb) :: m) (fun va vb cm => ("high", va) :: cm) S (n_local S rfl rfl) ⟨128, -1, 0, _, _, _, _, _, [], 0, [], rfl, rfl, by simp, by lia, Nat.le_refl _, trivial, rfl⟩
    (fun i m₁ cm₁ led₁ h₁ hK S => ?_) (st_cl (ca := L + 1 + 1 + 1) rfl rfl rfl rfl) (fun j p va vb m₁ cm₁ led₁ I h tk₅ E' ht₅ hp hG hK S => ?_) fun m₁ cm₁ led₁ h tk₅ ht₅ hK S => ?_
  · obtain ⟨code, place, grown, inside, tc, tp, tg, tin, ys, k, done, rfl, rfl, rfl, h1, h2, h3, h4⟩ := hK
    exact ⟨(S.objs (O, LO oys ok) (by simp)).1, pl_of allo fun p hp => (S.objs p (by simp [hp])).1⟩
  rotate_left
  · obtain ⟨code, place, grown, inside, tc, tp, tg, tin, ys, k, done, rfl, rfl, rfl, h1, h2, h3, h4⟩ := hK
    rw [List.drop_length] at h4
    refine t_return (T := fun v _ _ => v = .ref N) (n_local S rfl rfl) fun v h tk _ st p => ⟨⟨_, _, rfl, stays_trans S.keep st⟩, N, ys, k, order, p, ?_, perm, pw, ?_⟩
    · have hD := S.objs _ List.mem_cons_self
      exact ⟨fun q hq => by rw [List.mem_singleton.mp hq]; exact ⟨st _ _ hD.1, hD.2.1⟩, by simp⟩
    · rw [hin, ← h4]
      simpa [numsG] using h3
  obtain ⟨code, place, grown, inside, tc, tp, tg, tin, ys, k, done, rfl, rfl, rfl, hcode, hyl, hNL, heq⟩ := hK
  obtain ⟨⟨tva, rfl⟩, ⟨tvb, rfl⟩⟩ := hG
  have hjl : j < order.length := (List.getElem?_eq_some_iff.mp hp).1
  have hpm := pairsF_mem (perm.mem_iff.mp (List.mem_of_getElem? hp))
  have hp1 : p.1 ≤ 1114111 := by
    rw [hpm.2.1]
    have : signs.getD p.2 0 = signs[p.2]'hpm.1 := by simp [hpm.1]
    rw [this]
    exact hsz _ (List.getElem_mem _)
  have hp2 := hpm.1
  refine t_assign S (P := IsI (spotF signs p.1 p.2 : Nat)) (ev_lenL (gbuilt G S rfl rfl rfl) ((ev_compPI (V := fun (c : Nat) v => IsS (ofL [c]) v) (U := fun (c : Nat) v => IsS (ofL [c]) v) (signs.take p.2) (fun c => decide ((c : Int) ≤ (p.1 : Int))) id (fun v => (txt v).headD 0) (fun a v hv => by rw [txt_is hv]; rfl) (n := p.2) (by simp; lia) (signV hs) (cl := [("high", L + 1 + 1 + 1)]) rfl
      (it_lsliceTo hres (n_cell S rfl rfl) (S.keep _ _ hsl) (n_local S rfl ⟨_, rfl⟩) (by lia) (by lia)) (by lia)
      (fun C b' m a v hv ha u hnn hm => ?_) (fun C b' m a v hv ha _ u hnn hm => ev_local hnn hm hv) (by decide) rfl (by decide) rfl).mono ?_) (by have := List.length_filter_le (fun c : Nat => decide ((c : Int) ≤ (p.1 : Int))) (signs.take p.2); rw [List.length_take] at this; unfold spotF; lia)) fun v h tk₆ ht₆ q S => ?_
  · have hch := (cellH (u := .int p.1 tva) rfl S).keeps u.st
    exact tests_one (evt_le (ev_ord (gbuilt G (S.keeps u.st) rfl rfl rfl) (ev_local hnn hm hv)) (ev_cell rfl hch ⟨_, rfl⟩))
  · intro v s₂ s₃ _ _ hq; obtain ⟨nw, hnew, D, ys, k, rfl, rfl, all⟩ := hq
    have := all2_length all
    rw [List.length_map] at this
    exact ⟨ys, ⟨D, k, rfl, (hnew.1 _ List.mem_cons_self).1⟩, this.symm⟩
  obtain ⟨ts, rfl⟩ := q
  refine t_assign S (P := IsI (wideF cells lead p.2)) (ev_add (n_local S rfl ⟨_, rfl⟩) (ev_sumL hres (gbuilt G S rfl rfl rfl) ((ev_compPI (V := fun (i : Nat) v => IsI i v) (U := IsI) (List.range p.2) (fun _ => true) (fun j => ((cells.getD j []).length : Int) - 1) intOf (fun a v hv => intOf_is hv) (n := p.2) (by simp) rangeV (cl := [("cells", L + 1 + 1)]) rfl
      (it_range hres (gbuilt G S rfl rfl rfl) (n_local S rfl ⟨_, rfl⟩) (by lia)) (by lia)
      (fun C b' m a v hv ha u hnn hm => tests_nil) (fun C b' m a v hv ha _ u hnn hm => ?_) (by decide) rfl (by decide) rfl).mono ?_))) fun v h tk₇ ht₇ q S => ?_
  · have ha' := List.mem_range.mp ha
    obtain ⟨y, hy, ky⟩ := tl_at hc (i := a) (by lia)
    have hcc := (cellC rfl S).keeps u.st
    have hz : (cells.getD a []).length ≤ 10000000 := by
      have : cells.getD a [] = cells[a]'(by lia) := by simp [show a < cells.length by lia]
      rw [this]; exact hcz _ (List.getElem_mem _)
    exact ev_sub (ev_lenS (gbuilt G (S.keeps u.st) rfl rfl rfl) ((ev_itemL (ev_cell rfl hcc rfl) (u.st _ _ (S.keep _ _ hcl)) (ev_local hnn hm hv) hy (by lia)).mono fun v _ _ _ _ e => by rw [e]; exact ky) (by lia)) ev_int
  · intro v s₂ s₃ _ _ hq; obtain ⟨nw, hnew, D, ys, k, rfl, rfl, all⟩ := hq
    rw [List.filter_eq_self.mpr (fun _ _ => rfl)] at all
    exact ⟨ys, ⟨D, k, rfl, (hnew.1 _ List.mem_cons_self).1⟩, all⟩
  obtain ⟨tw, rfl⟩ := q
  have hb1 : ((p.1 : Int) - code).natAbs < 2 ^ 63 := by lia
  refine t_assign S (P := IsI (((p.1 : Int) - code) * (inside + 1) + (spotF signs p.1 p.2 : Nat) - place - 1)) (ev_sub (ev_sub (ev_add (ev_mul (ev_sub (n_cell S rfl ⟨_, rfl⟩) (n_local S rfl ⟨_, rfl⟩)) (ev_add (n_local S rfl ⟨_, rfl⟩) ev_int) (.inl hb1)) (n_local S rfl ⟨_, rfl⟩)) (n_local S rfl ⟨_, rfl⟩)) ev_int) fun v h tk₈ ht₈ q S => ?_
  obtain ⟨tga, rfl⟩ := q
  refine t_append (pre := [I]) (post := (O, LO oys ok) :: nwo) (P := fun v nw => nw = [] ∧ IsI (((p.1 : Int) - code) * (inside + 1) + (spotF signs p.1 p.2 : Nat) - place - 1 + more * ((p.1 : Int) - code) + wideF cells lead p.2 - grown) v) S (n_local S rfl rfl)
    (Ev.toN (ev_sub (ev_add (ev_add (n_local S rfl ⟨_, rfl⟩) (ev_mul (n_local S rfl ⟨_, rfl⟩) (ev_sub (n_cell S rfl ⟨_, rfl⟩) (n_local S rfl ⟨_, rfl⟩)) (.inr hb1))) (n_local S rfl ⟨_, rfl⟩)) (n_local S rfl ⟨_, rfl⟩))) (by lia) fun v nw n' h tk₉ ht₉ q S => ?_
  obtain ⟨rfl, hv⟩ := q
  refine t_quadN hres S (ev_tup4 (Pa := IsI p.1) (Pb := IsI (spotF signs p.1 p.2 : Nat)) (Pc := IsI (wideF cells lead p.2)) (Pd := IsI (inside + 1)) (n_cell S rfl ⟨_, rfl⟩) (n_local S rfl ⟨_, rfl⟩) (n_local S rfl ⟨_, rfl⟩) (ev_add (n_local S rfl ⟨_, rfl⟩) ev_int)) fun va vb vc vd h tk₁₀ ht₁₀ q S => s_nil ?_
  obtain ⟨⟨u1, rfl⟩, ⟨u2, rfl⟩, ⟨u3, rfl⟩, ⟨u4, rfl⟩⟩ := q
  refine ⟨h, tk₁₀, _, _, _, rfl, Nat.le_trans ht₆ (Nat.le_trans ht₇ (Nat.le_trans ht₈ (Nat.le_trans ht₉ ht₁₀))), sre (m' := [("code", .int p.1 u1), ("place", .int (spotF signs p.1 p.2 : Nat) u2), ("grown", .int (wideF cells lead p.2) u3), ("inside", .int (inside + 1) u4), ("numbers", .ref N), ("order", .ref O), ("lead", .int lead tl), ("more", .int more tm)]) S ⟨rfl, rfl, rfl, rfl, rfl, rfl, rfl, rfl, trivial⟩ (cm' := [("signs", .ref sl), ("cells", .ref cl)]) ⟨rfl, rfl, trivial⟩,
    p.1, _, _, _, u1, u2, u3, u4, ys ++ [v], n', done ++ [((p.1 : Int) - code) * (inside + 1) + (spotF signs p.1 p.2 : Nat) - place - 1 + more * ((p.1 : Int) - code) + wideF cells lead p.2 - grown], rfl, rfl, rfl, hp1, by simp; lia, all2_app hNL ⟨hv, trivial⟩, ?_⟩
  rw [← heq, List.append_assoc]
  congr 1
  have hget : order[j] = p := by
    have := List.getElem?_eq_getElem hjl
    rw [hp] at this; exact (Option.some.inj this).symm
  rw [List.drop_eq_getElem_cons hjl, hget]
  rfl
end
end

/- F13 -/
/- loops whose state knows the tokens; what draw needs -/
section
open PySem PySem.W PyProof.Rows PySem.Calls
/- the end of a loop's turn -/
noncomputable def TurnEndT (h₀ : Heap) (env : Env) (J : Nat → List (Str × Value) → List (Str × Value) → List (Addr × Obj) → Prop) (I : Addr × Obj) (Q : Flow → Shared → Prop) (s : Shared) (f : Flow) (s' : Shared) : Prop :=
  match f with
  | .next | .cont => ∃ h' tk m cm led, s' = { s with heap := h', toks := tk } ∧ s.toks ≤ tk ∧ Sta h₀ env.locals env.cells m cm (I :: led) h' ∧ J tk m cm led
  | .brk => False
  | .ret v => Q (.ret v) s'

section
variable {prog : Program} {w : World} {A : Around} {env : Env} {h₀ : Heap} {m cm : List (Str × Value)} {led : List (Addr × Obj)} {s : Shared} {rest : List Stmt} {Q : Flow → Shared → Prop} {E : Value → Shared → Prop}
/- the loop behind its source: the names that a turn binds are told by hbd -/
theorem loop_overT {target : Expr} {iv : Value} {body : List Stmt} {base : List Addr} {n : Nat} {P : Nat → Value → Prop} (J : Nat → Nat → List (Str × Value) → List (Str × Value) → List (Addr × Obj) → Prop) (hmono : ∀ i a b m cm led, a ≤ b → J i a m cm led → J i b m cm led)
    (B : Value → List (Str × Value) → List (Str × Value) → List (Str × Value) → List (Str × Value) → Prop)
    (S : Sta h₀ env.locals env.cells m cm led s.heap) (hI : IterOf prog w A s.heap iv base n P) (h0 : J 0 s.toks m cm led)
    (hbase : ∀ b ∈ base, ∃ o, ∀ i a m cm led h, J i a m cm led → Sta h₀ env.locals env.cells m cm led h → h.get? b = some o)
    (hgo : ∀ (I : Addr) (St : Nat → Heap → Prop), IterAt prog w A I base n P St → ∀ i v (s₁ : Shared) (Q' : Unit → Shared → Prop) E', St (i + 1) s₁.heap → P i v → Q' () s₁ → wpAny (model prog w) A (letOwnedTupleGo target (.ref I) v) Q' E' s₁)
    (hbd : ∀ i a v m₁ cm₁ led₁ led₂ (s₁ : Shared) (Q' : Unit → Shared → Prop) E', P i v → J i a m₁ cm₁ led₁ → (∀ p ∈ led₁, p ∈ led₂) → Sta h₀ env.locals env.cells m₁ cm₁ led₂ s₁.heap →
      (∀ h' tk m₂ cm₂, s₁.toks ≤ tk → B v m₁ cm₁ m₂ cm₂ → Sta h₀ env.locals env.cells m₂ cm₂ led₂ h' → Q' () { s₁ with heap := h', toks := tk }) → wpAny (model prog w) A (assign target env v) Q' E' s₁)
    (hbody : ∀ i v m₁ cm₁ m₂ cm₂ led₁ I h tk E', s.toks ≤ tk → i < n → P i v → J i tk m₁ cm₁ led₁ → B v m₁ cm₁ m₂ cm₂ → Sta h₀ env.locals env.cells m₂ cm₂ (I :: led₁) h →
      wpAny (model prog w) A (execs body env) (TurnEndT h₀ env (J (i + 1)) I Q { s with heap := h, toks := tk }) E' { s with heap := h, toks := tk })
    (hafter : ∀ m₁ cm₁ led₁ h tk, s.toks ≤ tk → J n tk m₁ cm₁ led₁ → Sta h₀ env.locals env.cells m₁ cm₁ led₁ h → Q .next { s with heap := h, toks := tk }) :
    wpAny (model prog w) A (pyIter iv) (fun it s₂ => codeAny (model prog w) A (.forLoop target it body [] env) (fun r s' => match r with | .ok f => Q f s' | .error e => cameBackBy (model prog w) A env E e s') s₂) E s := by
  refine hI.2 s E _ (stays_refl _) fun I St h₁ IT hst st₁ hI₀ => ?_
  have W := IT.W
  obtain ⟨oI, hoI⟩ := IT.here 0 h₁ hst
  have S₁ := S.add st₁ (nw := [(I, oI)]) ⟨fun p hp => by rw [List.mem_singleton.mp hp]; exact ⟨hoI, hI₀⟩, by simp⟩
  have offB : ∀ i a m cm led h o, J i a m cm led → Sta h₀ env.locals env.cells m cm ((I, o) :: led) h → ∀ b ∈ base, ∃ o', h.get? b = some o' := fun i a m cm led h o hJ S b hb => by
    obtain ⟨o', k⟩ := hbase b hb
    exact ⟨o', k i a m cm led h hJ S.tail⟩
  have neI : I ∉ base := fun hm => by
    obtain ⟨o', k⟩ := hbase I hm
    have := k 0 _ m cm led s.heap h0 S
    rw [hI₀] at this; cases this
  refine for_core n (fun i s' => ∃ h' tk m₁ cm₁ led₁ oI, s' = { s with heap := h', toks := tk } ∧ s.toks ≤ tk ∧ St i h' ∧ Sta h₀ env.locals env.cells m₁ cm₁ ((I, oI) :: led₁) h' ∧ J i tk m₁ cm₁ led₁) ?_ ?_
    ⟨h₁, _, m, cm, led, oI, rfl, Nat.le_refl _, hst, S₁, h0⟩
  · intro i s' hlt hq; obtain ⟨h', tk, m₁, cm₁, led₁, oI, rfl, htk, hst', S', hJ⟩ := hq
    refine wpAny_mono (wpAny_toks_of (n := tk) (Nat.le_refl _) (W.item i { s with heap := h', toks := tk } (fun r s₁ => ∃ v h₂ tk₂, r = some v ∧ s₁ = { s with heap := h₂, toks := tk₂ } ∧ P i v ∧ St (i + 1) h₂ ∧ (∀ b o, b ∉ [I] → h'.get? b = some o → h₂.get? b = some o)) _ hlt hst'
      fun v h₂ tk₂ a b c => ⟨v, h₂, tk₂, rfl, rfl, a, b, c⟩)) (fun r s₁ q => ?_) (fun _ _ q => q.2)
    obtain ⟨htk₂', v, h₂, tk₂, rfl, rfl, hPv, hst₂, hk₂⟩ := q
    dsimp only at htk₂'
    have htk₂ := Nat.le_trans htk htk₂'
    refine ⟨v, rfl, ?_⟩
    have hk₂' : ∀ b x, b ≠ I → h'.get? b = some x → h₂.get? b = some x := fun b x hb e => hk₂ b x (by simpa using hb) e
    obtain ⟨oI₂, hoI₂⟩ := IT.here _ _ hst₂
    have S₂ := S'.snocI hk₂' hoI₂
    refine hgo I St IT i v _ _ _ hst₂ hPv ?_
    refine hbd i tk v m₁ cm₁ led₁ ((I, oI₂) :: led₁) _ _ _ hPv hJ (fun p hp => List.mem_cons_of_mem _ hp) S₂ fun h₃ tk₃ m₂ cm₂ htk₃ hB S₃ => ?_
    dsimp only at htk₃
    refine wpAny_mono (hbody i v m₁ cm₁ m₂ cm₂ led₁ (I, oI₂) h₃ tk₃ _ (Nat.le_trans htk₂ htk₃) hlt hPv (hmono _ _ _ _ _ _ (Nat.le_trans htk₂' htk₃) hJ) hB S₃) (fun f s₄ hf => ?_) fun _ _ e => e
    have fin : (∃ h' tk m cm led, s₄ = { s with heap := h', toks := tk } ∧ tk₃ ≤ tk ∧ Sta h₀ env.locals env.cells m cm ((I, oI₂) :: led) h' ∧ J (i + 1) tk m cm led) → ∃ h' tk m₁ cm₁ led₁ oI, s₄ = { s with heap := h', toks := tk } ∧ s.toks ≤ tk ∧ St (i + 1) h' ∧ Sta h₀ env.locals env.cells m₁ cm₁ ((I, oI) :: led₁) h' ∧ J (i + 1) tk m₁ cm₁ led₁ := by
      intro hq; obtain ⟨h₄, tk₄, m₄, cm₄, led₄, rfl, htk₄, S₄, hJ₄⟩ := hq
      refine ⟨h₄, tk₄, m₄, cm₄, led₄, oI₂, rfl, Nat.le_trans (Nat.le_trans htk₂ htk₃) htk₄, W.frame _ _ _ hst₂ fun b hb o e => ?_, S₄, hJ₄⟩
      rcases List.mem_cons.mp hb with rfl | hb
      · rw [hoI₂] at e; cases e; exact (S₄.objs _ List.mem_cons_self).1
      · obtain ⟨o', k⟩ := hbase b hb
        have e₁ := hk₂' b o' (fun q => neI (q ▸ hb)) (k i _ m₁ cm₁ led₁ h' hJ S'.tail)
        rw [e₁] at e; cases e
        exact k (i + 1) _ m₄ cm₄ led₄ h₄ hJ₄ S₄.tail
    cases f with
    | next => exact fin hf
    | cont => exact fin hf
    | brk => exact hf.elim
    | ret v => exact hf
  · intro s' hq; obtain ⟨h', tk, m₁, cm₁, led₁, oI, rfl, htk, hst', S', hJ⟩ := hq
    refine wpAny_mono (wpAny_toks_of (n := tk) (Nat.le_refl _) (W.done { s with heap := h', toks := tk } (fun r s₁ => ∃ h₂ tk₂, r = none ∧ s₁ = { s with heap := h₂, toks := tk₂ } ∧ (∀ b o, b ∉ [I] → h'.get? b = some o → h₂.get? b = some o)) _ hst'
      fun h₂ tk₂ c => ⟨h₂, tk₂, rfl, rfl, c⟩)) (fun r s₁ q => ?_) (fun _ _ q => q.2)
    obtain ⟨htk₂', h₂, tk₂, rfl, rfl, hk₂⟩ := q
    have htk₂ := Nat.le_trans htk htk₂'
    refine ⟨rfl, ?_⟩
    exact hafter m₁ cm₁ led₁ h₂ tk₂ htk₂ (hmono _ _ _ _ _ _ htk₂' hJ) (S'.tailBut fun b x hb e => hk₂ b x (by simpa using hb) e)

/- a for over a source, one local name -/
theorem s_forT {x : Str} {px pos : Pos} {iter : Expr} {body : List Stmt} {Pit : Value → List (Addr × Obj) → Prop} (J : Nat → Nat → List (Str × Value) → List (Str × Value) → List (Addr × Obj) → Prop) (hmono : ∀ i a b m cm led, a ≤ b → J i a m cm led → J i b m cm led)
    (S : Sta h₀ env.locals env.cells m cm led s.heap) (hi : EvN prog w A env s iter Pit)
    (hk : ∀ v nw h, Pit v nw → Sta h₀ env.locals env.cells m cm (nw ++ led) h → ∃ base n P, IterOf prog w A h v base n P ∧ J 0 s.toks m cm (nw ++ led) ∧
      (∀ b ∈ base, ∃ o, ∀ i a m cm led h, J i a m cm led → Sta h₀ env.locals env.cells m cm led h → h.get? b = some o) ∧
      (∀ i v m₁ cm₁ led₁ I h tk E', s.toks ≤ tk → i < n → P i v → J i tk m₁ cm₁ led₁ → Sta h₀ env.locals env.cells ((x, v) :: m₁) cm₁ (I :: led₁) h →
        wpAny (model prog w) A (execs body env) (TurnEndT h₀ env (J (i + 1)) I Q { s with heap := h, toks := tk }) E' { s with heap := h, toks := tk }) ∧
      (∀ m₁ cm₁ led₁ h tk, s.toks ≤ tk → J n tk m₁ cm₁ led₁ → Sta h₀ env.locals env.cells m₁ cm₁ led₁ h → wpAny (model prog w) A (execs rest env) Q E { s with heap := h, toks := tk }))
    (hx : env.kindOf x = some .local := by rfl) (hkd : env.scope.kind = .function := by rfl)
    (hs : ∀ x, foldedSetIterable iter env x = pure x := by intro _; rfl) :
    wpAny (model prog w) A (execs (.For (.Name x px) iter body [] pos :: rest) env) Q E s := by
  refine wpAny_execs_cons (wpAny_For (wpAny_mono (hi s E (Up.refl _)) (fun v s₁ q => ?_) fun _ _ e => e) hs)
  obtain ⟨kp, nw, fr, hp⟩ := q
  obtain ⟨h₁, tk₁, rfl, st₁, htk₁⟩ := kp.cases
  have S₁ := S.add st₁ fr
  obtain ⟨base, n, P, hI, h0, hb, hbody, hafter⟩ := hk v nw h₁ hp S₁
  refine loop_overT (s := { s with heap := h₁, toks := tk₁ }) J hmono (fun v m cm m' cm' => m' = (x, v) :: m ∧ cm' = cm) S₁ hI (hmono _ _ _ _ _ _ htk₁ h0) hb ?_ ?_ ?_ ?_
  · intro I St _ i v s₁ Q' E' _ _ hQ
    exact wpAny_of_eq rfl hQ
  · intro i a v m₁ cm₁ led₁ led₂ s₁ Q' E' _ _ _ S' k
    exact wpAny_assign_Name (bindLocal S' (fun h' tk ht S'' => k h' tk _ _ ht ⟨rfl, rfl⟩ S'') hx hkd)
  · intro i v m₁ cm₁ m₂ cm₂ led₁ I h tk E' htk hlt hP hJ hB S'
    obtain ⟨e1, e2⟩ := hB
    rw [e1, e2] at S'
    refine wpAny_mono (hbody i v m₁ cm₁ led₁ I h tk E' (Nat.le_trans htk₁ htk) hlt hP hJ S') (fun f s' q => ?_) fun _ _ e => e
    cases f <;> exact q
  · intro m₁ cm₁ led₁ h tk htk hJ S'
    exact hafter m₁ cm₁ led₁ h tk (Nat.le_trans htk₁ htk) hJ S'

end
end

/- F14 -/
/- items of texts and of displays; a dict's item set; a slice of a list as a new list -/
section
open PySem PySem.W PyProof.Rows PySem.Calls
section
variable {prog : Program} {w : World} {A : Around} {env : Env} {b : Shared} {h₀ : Heap} {m cm : List (Str × Value)} {led : List (Addr × Obj)} {s₀ : Shared} {h : Heap} {tk : Nat} {rest : List Stmt} {Q : Flow → Shared → Prop} {E : Value → Shared → Prop}
/- x[k] of a text: a new text -/
theorem ev_itemS {o i : Expr} {pos : Pos} {x : List Nat} {k c : Nat} (ho : EvP prog w A env b o (IsS (ofL x))) (hi : EvP prog w A env b i (IsI k)) (hc : x[k]? = some c) (hk : k < 1000000)
    (hs : ∀ ov iv, subscripted i false ov iv = operate [ov, iv] (getItem ov iv) := by intro _ _; rfl) (ht : ∀ ov r, letTemporaryGo o ov r = pure () := by intro _ _; rfl) :
    Ev prog w A env b (.Subscript o i pos) (IsF (ofL [c])) :=
  ev_item back_F ho hi (T := "str") (id := "str.__getitem__") (fun v s _ hq => by obtain ⟨t, e⟩ := hq; rw [e]; exact typeIs_str _ _ _) F.slot_str_getitem.lookup (fun ov iv s E _ hq7 hq8 => by
    obtain ⟨t, e⟩ := hq7; obtain ⟨u, e'⟩ := hq8
    subst e; subst e'
    have hlt : k < x.length := (List.getElem?_eq_some_iff.mp hc).1
    refine P.getItem_str (c := c) ?_ ?_ ⟨keeps_toks s _, s.toks, rfl, Nat.le_refl _, Nat.lt_succ_self _⟩
    · rw [Bool.or_eq_false_iff]; exact ⟨decide_eq_false (by lia), decide_eq_false (by lia)⟩
    · rw [seqIndex_of (by lia) (by rw [ofL_length]; lia)]
      simpa [ofL] using hc) hs ht
theorem ev_modN {l r : Expr} {pos : Pos} {i : Int} {k : Nat} (ha : EvP prog w A env b l (IsI i)) (hb : EvP prog w A env b r (IsI k)) (h0 : 0 < k) : EvP prog w A env b (.BinOp l .Mod r pos) (IsI ((i.fmod k).toNat : Nat)) :=
  (ev_fmod ha hb (by lia)).mono fun v _ _ _ _ ⟨t, e⟩ => ⟨t, by
    have : 0 ≤ i.fmod k := Int.fmod_nonneg_of_pos _ (by lia)
    rw [e, Int.toNat_of_nonneg this]⟩
theorem modN_lt (i : Int) {k : Nat} (h0 : 0 < k) : (i.fmod k).toNat < k := by
  have := Int.fmod_lt_of_pos i (show (0 : Int) < k by lia)
  have : 0 ≤ i.fmod k := Int.fmod_nonneg_of_pos _ (by lia)
  lia
/- an item of a display whose elements are new -/
theorem ev_itemN {β : Type} {U : β → Value → List (Addr × Obj) → Prop} {o i : Expr} {pos : Pos} {cs : List β} {k : Nat} {c : β} (ho : EvN prog w A env b o (fun r nw => ∃ D ys k nw', r = .ref D ∧ nw = (D, LO ys k) :: nw' ∧ All2 (Of U nw') cs ys))
    (hi : EvP prog w A env b i (IsI k)) (hc : cs[k]? = some c) (hk : k < 1000000) (hsub : ∀ y n₁, U c y n₁ → (n₁.map (·.1)).Nodup)
    (hs : ∀ ov iv, subscripted i false ov iv = operate [ov, iv] (getItem ov iv) := by intro _ _; rfl) :
    EvN prog w A env b (.Subscript o i pos) (fun r nw => U c r nw) := by
  intro s E up
  refine Subscript_ (wpAny_mono (ho s E up) (fun ov s₁ q₁ => wpAny_mono (hi s₁ E (up.trans q₁.1.up)) (fun iv s₂ q₂ => ?_) fun _ _ e => e) fun _ _ e => e)
  obtain ⟨k₁, nw, hnew, D, ys, kk, nw', rfl, rfl, all⟩ := q₁
  obtain ⟨k₂, u, rfl⟩ := q₂
  have hD := k₂.up.st _ _ (hnew.1 _ List.mem_cons_self).1
  obtain ⟨y, hy, n₁, hn₁, hU⟩ := all2_get all hc
  refine tail_any (T := "list") (id := "list.__getitem__") ⟨_, hD, rfl⟩ slot_list_getitem.lookup (wpAny_getItem_list (isList_LO hD) (by lia) (by lia) (by simpa using hy) ⟨k₁.trans k₂, n₁, ⟨fun p hp => ?_, hsub _ _ hU⟩, hU⟩) (hs _ _)
  have := hnew.1 p (List.mem_cons_of_mem _ (hn₁ p hp))
  exact ⟨k₂.up.st _ _ this.1, this.2⟩
noncomputable def ArgsV (prog : Program) (w : World) (A : Around) (env : Env) (b : Shared) {β : Type} (es : List Expr) (V : β → Value → Prop) (cs : List β) : Prop := ArgsTo prog w A env b es (fun vs _ _ => All2 V cs vs)
theorem argsV_nil {β : Type} {V : β → Value → Prop} : ArgsV prog w A env b [] V [] := args0.mono fun vs s s' _ _ e => by rw [e]; trivial
theorem argsV_cons {β : Type} {V : β → Value → Prop} {e : Expr} {es : List Expr} {c : β} {cs : List β} (he : EvP prog w A env b e (V c)) (hs : ArgsV prog w A env b es V cs) (hp : starEach (e :: es) env = (false, eval e env) :: starEach es env := by rfl) : ArgsV prog w A env b (e :: es) V (c :: cs) :=
  (args_consT he hs hp).mono fun vs s s' _ _ hq7 => by obtain ⟨v, r, s₁, e1, k1, k2, u, all⟩ := hq7; rw [e1]; exact ⟨u, all⟩
/- new texts, told with their tokens -/
noncomputable abbrev FT (lo hi : Nat) (z : List Nat) (v : Value) : Prop := ∃ u : Tok, v = .str (ofL z) u ∧ lo ≤ u ∧ u < hi
noncomputable def ArgsF (prog : Program) (w : World) (A : Around) (env : Env) (b : Shared) (es : List Expr) (cs : List (List Nat)) : Prop := ArgsTo prog w A env b es (fun vs s s' => All2 (FT s.toks s'.toks) cs vs)
theorem argsF_nil : ArgsF prog w A env b [] [] := args0.mono fun vs s s' _ _ e => by rw [e]; trivial
theorem argsF_cons {e : Expr} {es : List Expr} {c : List Nat} {cs : List (List Nat)} (he : Ev prog w A env b e (IsF (ofL c))) (hs : ArgsF prog w A env b es cs) (hp : starEach (e :: es) env = (false, eval e env) :: starEach es env := by rfl) : ArgsF prog w A env b (e :: es) (c :: cs) :=
  (args_consT he hs hp).mono fun vs s s' _ _ hq7 => by
    obtain ⟨v, r, s₁, e1, k1, k2, ⟨t, e2, a1, a2⟩, all⟩ := hq7
    rw [e1]
    exact ⟨⟨t, e2, a1, Nat.lt_of_lt_of_le a2 k2.t⟩, all2_mono (fun z v hq => by obtain ⟨u, e, l1, l2⟩ := hq; exact ⟨u, e, Nat.le_trans k1.t l1, l2⟩) all⟩
theorem ev_listT2 {es : List Expr} {pos : Pos} {P : List Value → Shared → Shared → Prop} (ha : ArgsTo prog w A env b es P) (hn : ∀ vs s s', Up b s → P vs s s' → vs.length ≤ sizeLine) :
    Ev prog w A env b (.List es pos) (fun v s s' => ∃ t vs s₁, v = .ref t ∧ Kp s s₁ ∧ P vs s s₁ ∧ Kp s₁ s' ∧ NewIn s₁.heap s'.heap [(t, LO vs 0)]) := by
  intro s E up
  refine wpAny_List (wpAny_mono (ha.2 pos s E up) (fun vs s₁ q => ⟨hn vs s s₁ up q.2, ?_⟩) fun _ _ e => e)
  have kp : Kp s₁ { s₁ with heap := s₁.heap.push (LO vs 0) } := ⟨⟨_, _, rfl, stays_push _ _⟩, Nat.le_refl _⟩
  exact ⟨q.1.trans kp, _, vs, s₁, rfl, q.1, q.2, kp, new_push⟩
theorem back_NT {P : Value → List (Addr × Obj) → Nat → Prop} : Back (fun v s s' => ∃ nw, NewIn s.heap s'.heap nw ∧ P v nw s'.toks) :=
  fun _ _ _ _ k hq7 => by obtain ⟨nw, x, p⟩ := hq7; exact ⟨nw, x.back k.st, p⟩
/- an assignment whose word may speak of the tokens -/
theorem t_assignT {x : Str} {px pos : Pos} {e : Expr} {P : Value → List (Addr × Obj) → Nat → Prop} (S : Sta h₀ env.locals env.cells m cm led h) (hP : ∀ v nw a b, a ≤ b → P v nw a → P v nw b)
    (he : Ev prog w A env { s₀ with heap := h, toks := tk } e (fun v s s' => ∃ nw, NewIn s.heap s'.heap nw ∧ P v nw s'.toks))
    (k : ∀ v nw h' tk', tk ≤ tk' → P v nw tk' → Sta h₀ env.locals env.cells ((x, v) :: m) cm (nw ++ led) h' → wpAny (model prog w) A (execs rest env) Q E { s₀ with heap := h', toks := tk' })
    (hl : env.kindOf x = some .local := by rfl) (hk : env.scope.kind = .function := by rfl) (hs : swapsWith e (some (.Name x px)) pos.line env = pure false := by rfl) :
    wpAny (model prog w) A (execs (.Assign [.Name x px] e pos :: rest) env) Q E { s₀ with heap := h, toks := tk } := by
  refine wpAny_execs_cons (wpAny_Assign_Name (wpAny_mono (he _ E (Up.refl _)) (fun v s₁ q => ?_) fun _ _ e => e) hs)
  obtain ⟨kp, nw, fr, p⟩ := q
  obtain ⟨h', tk', rfl, st, ht⟩ := kp.cases
  exact bindLocal (s := { s₀ with heap := h', toks := tk' }) (S.add st fr) (fun h'' tk'' ht' S' => k v nw h'' tk'' (Nat.le_trans ht ht') (hP _ _ _ _ ht' p) S') hl hk
/- d[k] = v -/
theorem t_setItem {o i value : Expr} {pos' pos : Pos} {d : Addr} {l : List Ent} {ep : Nat} {pre post : List (Addr × Obj)} {z kk : List Nat} {u : Tok} (S : Sta h₀ env.locals env.cells m cm (pre ++ (d, DO w l ep) :: post) h)
    (hv : EvP prog w A env { s₀ with heap := h, toks := tk } value (· = .str (ofL z) u)) (ho : EvP prog w A env { s₀ with heap := h, toks := tk } o (· = .ref d)) (hi : Ev prog w A env { s₀ with heap := h, toks := tk } i (IsF (ofL kk))) (hn : (keysOf l).Nodup) (hz : l.length ≤ 1000)
    (k : ∀ t ep' h' tk', tk ≤ t → t < tk' → Sta h₀ env.locals env.cells m cm (pre ++ (d, DO w (putE l ⟨kk, t, z, u⟩) ep') :: post) h' → wpAny (model prog w) A (execs rest env) Q E { s₀ with heap := h', toks := tk' })
    (hs : swapsWith value (some (.Subscript o i pos')) pos.line env = pure false := by rfl) :
    wpAny (model prog w) A (execs (.Assign [.Subscript o i pos'] value pos :: rest) env) Q E { s₀ with heap := h, toks := tk } := by
  have hd : h.get? d = some (DO w l ep) := (S.objs (d, DO w l ep) (by simp)).1
  have hsz : sizeLine = 16777216 := by decide
  refine wpAny_execs_cons (wpAny_Assign_Subscript (wpAny_mono (hv _ _ (Up.refl _)) (fun v s₁ q₁ => wpAny_mono (ho s₁ _ q₁.1.up) (fun ov s₂ q₂ => wpAny_mono (hi s₂ _ (q₁.1.trans q₂.1).up) (fun iv s₃ q₃ => ?_) fun _ _ e => e) fun _ _ e => e) fun _ _ e => e) hs)
  obtain ⟨k₁, rfl⟩ := q₁
  obtain ⟨k₂, rfl⟩ := q₂
  obtain ⟨k₃, t, rfl, t1, t2⟩ := q₃
  have hlo : tk ≤ t := Nat.le_trans (k₁.trans k₂).t t1
  obtain ⟨h₃, tk₃, rfl, st, ht⟩ := ((k₁.trans k₂).trans k₃).cases
  dsimp only at st ht t2 ⊢
  exact setItem_DO (n := ⟨kk, t, z, u⟩) (s := { s₀ with heap := h₃, toks := tk₃ }) (st _ _ hd) hn (by lia) fun h' ep' ho' hs' => k t ep' h' _ hlo (Nat.lt_succ_of_lt t2) ((S.keeps st).turn rfl (fun c o hc e => hs'.extBut c o hc e) ho')
/- x[:k] as a new list, k beyond the end too -/
theorem slice_min (ys : List Value) (k : Nat) : slicePick ys.toArray none (some (k : Int)) none = (ys.take k).toArray := by
  have h0 : slicePick ys.toArray none (some (k : Int)) none = slicePick ys.toArray (some ((0 : Nat) : Int)) (some ((min k ys.length : Nat) : Int)) none := by
    unfold slicePick sliceBounds
    simp
    rw [show max (0 : Int) (min 0 (ys.length : Int)) = 0 by lia]
    split
    · lia
    · rw [if_neg (by lia), show min ((min k ys.length : Nat) : Int) (ys.length : Int) = min (k : Int) ys.length by lia]
  rw [h0, slicePick_run _ 0 (min k ys.length) (by simp; lia) (Nat.zero_le _)]
  simp
theorem ev_lsliceMin {value e : Expr} {p pos : Pos} {l : Addr} {ys : List Value} {k : Nat} (hv : EvP prog w A env b value (· = .ref l)) (hl : b.heap.IsList l ys.toArray) (he : EvP prog w A env b e (IsI k)) (hz : ys.length ≤ 1000) (ht : ∀ o r, letTemporaryGo value o r = pure () := by intro _ _; rfl) :
    EvN prog w A env b (.Subscript value (.Slice none (some e) none p) pos) (fun v nw => ∃ D, v = .ref D ∧ nw = [(D, LO (ys.take k) 0)]) := by
  refine ev_of fun s E up => ?_
  have hsz : sizeLine = 16777216 := by decide
  refine wpAny_Subscript_list_slice (wpAny_mono (hv s E up) (fun o s₁ q₁ => evalPart_none_step (evalPart_some_step (wpAny_mono (he s₁ E (up.trans q₁.1.up)) (fun v s₂ q₂ => ?_) fun _ _ e => e))) fun _ _ e => e) ht
  obtain ⟨k₁, rfl⟩ := q₁
  obtain ⟨k₂, u, rfl⟩ := q₂
  have kp := k₁.trans k₂
  refine ⟨l, ys.toArray, none, some (k : Int), rfl, hl.at fun o e => (up.trans kp.up).st _ _ e, by rw [List.size_toArray]; lia, .none, .int _ _, ?_⟩
  refine ⟨keeps_trans kp.k ⟨_, _, rfl, fun _ _ e => Heap.get?_push_of_some _ (Heap.get?_push_of_some _ e)⟩, _, ?_, _, rfl, rfl⟩
  rw [slice_min]
  have hn : NewIn (s₂.heap.push { cls := .type "slice", data := .fields #[.none, .int (k : Int) u, .none] }) ((s₂.heap.push { cls := .type "slice", data := .fields #[.none, .int (k : Int) u, .none] }).push (LO (ys.take k) 0)) [((s₂.heap.push { cls := .type "slice", data := .fields #[.none, .int (k : Int) u, .none] }).objs.size, LO (ys.take k) 0)] := new_push
  rw [Heap.size_push] at hn
  exact hn.back (stays_trans kp.up.st (stays_push _ _))
/- a for over a list that is made for it -/
theorem t_forT {x : Str} {px pos : Pos} {iter : Expr} {body : List Stmt} {ys : List Value} (hh : A.handled = none) (K : Addr → Nat → Nat → List (Str × Value) → List (Str × Value) → List (Addr × Obj) → Prop) (hmono : ∀ D i a b m cm led, a ≤ b → K D i a m cm led → K D i b m cm led)
    (S : Sta h₀ env.locals env.cells m cm led h) (hi : EvN prog w A env { s₀ with heap := h, toks := tk } iter (fun v nw => ∃ D, v = .ref D ∧ nw = [(D, LO ys 0)])) (h0 : ∀ D, K D 0 tk m cm ((D, LO ys 0) :: led)) (hmem : ∀ D i a m cm led, K D i a m cm led → (D, LO ys 0) ∈ led)
    (hbody : ∀ D i v m₁ cm₁ led₁ I h₁ tk₁ E', tk ≤ tk₁ → ys[i]? = some v → K D i tk₁ m₁ cm₁ led₁ → Sta h₀ env.locals env.cells ((x, v) :: m₁) cm₁ (I :: led₁) h₁ →
        wpAny (model prog w) A (execs body env) (TurnEndT h₀ env (K D (i + 1)) I Q { s₀ with heap := h₁, toks := tk₁ }) E' { s₀ with heap := h₁, toks := tk₁ })
    (hafter : ∀ D m₁ cm₁ led₁ h₁ tk₁, tk ≤ tk₁ → K D ys.length tk₁ m₁ cm₁ led₁ → Sta h₀ env.locals env.cells m₁ cm₁ led₁ h₁ → wpAny (model prog w) A (execs rest env) Q E { s₀ with heap := h₁, toks := tk₁ })
    (hx : env.kindOf x = some .local := by rfl) (hkd : env.scope.kind = .function := by rfl)
    (hs : ∀ x, foldedSetIterable iter env x = pure x := by intro _; rfl) :
    wpAny (model prog w) A (execs (.For (.Name x px) iter body [] pos :: rest) env) Q E { s₀ with heap := h, toks := tk } := by
  refine wpAny_execs_cons (wpAny_For (wpAny_mono (hi _ _ (Up.refl _)) (fun v s₁ q => ?_) fun _ _ e => e) hs)
  obtain ⟨kp, nw, fr, D, rfl, rfl⟩ := q
  obtain ⟨h₁, tk₁, rfl, st₁, htk₁⟩ := kp.cases
  have S₁ := S.add st₁ fr
  have hD : ∀ i a m cm led h, K D i a m cm led → Sta h₀ env.locals env.cells m cm led h → h.get? D = some (LO ys 0) := fun i a m cm led h hK S => (S.objs _ (hmem D i a m cm led hK)).1
  have hD₁ := hD _ _ _ _ _ _ (h0 D) S₁
  have hI := iter_list (prog := prog) (w := w) hh (isList_LO hD₁)
  refine loop_overT (s := { s₀ with heap := h₁, toks := tk₁ }) (K D) (fun i a b m cm led => hmono D i a b m cm led) (fun v m cm m' cm' => m' = (x, v) :: m ∧ cm' = cm) S₁ hI (hmono _ _ _ _ _ _ _ htk₁ (h0 D)) ?_ ?_ ?_ ?_ ?_
  · intro b hb
    rw [List.mem_singleton.mp hb]
    exact ⟨_, hD⟩
  · intro I St _ i v s₁ Q' E' _ _ hQ
    exact wpAny_of_eq rfl hQ
  · intro i a v m₁ cm₁ led₁ led₂ s₁ Q' E' _ _ _ S' k
    exact wpAny_assign_Name (bindLocal S' (fun h' tk ht S'' => k h' tk _ _ ht ⟨rfl, rfl⟩ S'') hx hkd)
  · intro i v m₁ cm₁ m₂ cm₂ led₁ I h tk' E' htk hlt hP hJ hB S'
    obtain ⟨e1, e2⟩ := hB
    rw [e1, e2] at S'
    refine wpAny_mono (hbody D i v m₁ cm₁ led₁ I h tk' E' (Nat.le_trans htk₁ htk) (by simpa using hP) hJ S') (fun f s' q => ?_) fun _ _ e => e
    cases f <;> exact q
  · intro m₁ cm₁ led₁ h tk' htk hJ S'
    exact hafter D m₁ cm₁ led₁ h tk' (Nat.le_trans htk₁ htk) (by simpa using hJ) S'
theorem ev_lenIL {x : Str} {pp pos : Pos} {e : Expr} {l : Addr} {ys : List Value} (hn : EvP prog w A env b (.Name x pp) (· = .builtin "len")) (he : EvP prog w A env b e (· = .ref l)) (hl : b.heap.IsList l ys.toArray) (hz : ys.length ≤ 1000000) (hp : starEach [e] env = [(false, eval e env)] := by rfl) : EvP prog w A env b (.Call (.Name x pp) [e] [] pos) (IsI ys.length) :=
  ev_call back_P hn (.builtin _) (args1 he hp) fun vs s s₁ E up up₁ hq7 => by
    obtain ⟨v, e1, e2⟩ := hq7
    subst e1 e2
    refine len_list (items := ys.toArray) (hl.at fun o e => (up.trans up₁).st _ _ e) (by rw [List.size_toArray]; lia) ⟨keeps_toks s₁ _, s₁.toks + 1, ?_⟩
    rw [List.size_toArray]
end
end

/- C14 -/
/- _law_draw, walked -/
section
open PySem PySem.W PyProof.Rows PySem.Calls
section
variable {w : World} {A : Around} {s : Shared} {E : Value → Shared → Prop} {mean : ExcName → Option Value} {mg mb : Str → Option Value}
noncomputable def plainL : List Nat := [38, 60, 62, 34, 39, 10, 13, 9, 45, 59, 97, 90, 57, 35]
noncomputable def textsL : List (List Nat) := [[], [120], [38], [45, 45], [34], [39], [38, 97, 109, 112, 59], [10, 60]]
noncomputable def valsL : List (List Nat) := [76, 45] :: textsL
/- what the draw may give -/
structure Drawn (sg : List Nat) (ws : List (List Nat × List Nat)) : Prop where
  len : sg.length ≤ 10
  cod : ∀ c ∈ sg, c ≤ 55295
  wlen : ws.length ≤ 7
  nod : (ws.map (·.1)).Nodup
  ent : ∀ e ∈ ws, (∃ c, e.1 = [c] ∧ c < 128) ∧ e.2 ∈ valsL
noncomputable abbrev NewTexts (c : List Nat) (y : Value) (nw : List (Addr × Obj)) : Prop := ∃ D ys k, y = .ref D ∧ nw = [(D, LO ys k)] ∧ TL (c.map ([·])) ys
noncomputable def TokOK (hi tk : Nat) (l : List Ent) : Prop := ∀ e ∈ l, OkEnt e ∧ hi ≤ e.t ∧ e.t < tk
theorem TokOK.mono {hi a b : Nat} {l : List Ent} (h : TokOK hi a l) (k : a ≤ b) : TokOK hi b l := fun e he => ⟨(h e he).1, (h e he).2.1, Nat.lt_of_lt_of_le (h e he).2.2 k⟩
theorem TokOK.put {hi a b : Nat} {l : List Ent} {n : Ent} (h : TokOK hi a l) (h1 : 1 ≤ n.u) (hu : n.u < hi) (ha : hi ≤ a) (k : a ≤ n.t) (kb : n.t < b) : TokOK hi b (putE l n) := by
  intro e he
  have hab : a ≤ b := Nat.le_trans k (Nat.le_of_lt kb)
  unfold putE at he
  split at he
  · obtain ⟨e₀, he₀, rfl⟩ := List.mem_map.mp he
    obtain ⟨o, p1, p2⟩ := h e₀ he₀
    split
    · exact ⟨⟨o.1, Nat.ne_of_gt h1, Nat.ne_of_gt (Nat.lt_of_lt_of_le hu p1)⟩, p1, Nat.lt_of_lt_of_le p2 hab⟩
    · exact ⟨o, p1, Nat.lt_of_lt_of_le p2 hab⟩
  · rcases List.mem_append.mp he with he | he
    · obtain ⟨o, p1, p2⟩ := h e he
      exact ⟨o, p1, Nat.lt_of_lt_of_le p2 hab⟩
    · rw [List.mem_singleton.mp he]
      have h2 : hi ≤ n.t := Nat.le_trans ha k
      exact ⟨⟨Nat.ne_of_gt (Nat.lt_of_lt_of_le (Nat.lt_of_le_of_lt (Nat.zero_le _) hu) h2), Nat.ne_of_gt h1, Nat.ne_of_gt (Nat.lt_of_lt_of_le hu h2)⟩, h2, kb⟩
/- words of the right kind -/
noncomputable def WordsOK (ws : List (List Nat × List Nat)) : Prop := ∀ e ∈ ws, (∃ c, e.1 = [c] ∧ c < 128) ∧ e.2 ∈ valsL
theorem WordsOK.put {ws : List (List Nat × List Nat)} {n : List Nat × List Nat} (h : WordsOK ws) (hn : (∃ c, n.1 = [c] ∧ c < 128) ∧ n.2 ∈ valsL) : WordsOK (putW ws n) := by
  intro e he
  unfold putW at he
  split at he
  · obtain ⟨e₀, he₀, rfl⟩ := List.mem_map.mp he
    split
    · exact ⟨(h e₀ he₀).1, hn.2⟩
    · exact h e₀ he₀
  · rcases List.mem_append.mp he with he | he
    · exact h e he
    · rw [List.mem_singleton.mp he]; exact hn
/- what stands at a turn of the draw -/
noncomputable def DrawK (w : World) (tp : Tok) (TX Sg Tb sc : Addr) (xs tys : List Value) (hi : Nat) (D : Addr) (i a : Nat) (m cm : List (Str × Value)) (led : List (Addr × Obj)) : Prop :=
  ∃ (ys : List Value) (k : Nat) (l : List Ent) (ep : Nat) (sg : List Nat), m = ([("plain", .str (ofL plainL) tp), ("texts", .ref TX), ("signs", .ref Sg), ("table", .ref Tb), ("script", .ref sc)] : List (Str × Value)) ∧ cm = [] ∧
      led = [(D, LO xs 0), (Tb, DO w l ep), (Sg, LO ys k), (TX, LO tys 0)] ∧ TL (sg.map ([·])) ys ∧ sg.length ≤ 4 + i ∧ (∀ c ∈ sg, c ≤ 55295) ∧ (keysOf l).Nodup ∧ WordsOK (wordsOf l) ∧ l.length ≤ 1 + i ∧ TokOK hi a l
set_option maxHeartbeats 1000000 in
theorem c_draw {n : Nat} (G : G0 w mean mg mb s) (R : Room A (n + 2)) (h1 : 1 ≤ s.toks) {a : Addr} {xs : List Value} {is : List Int} (ha : s.heap.IsList a xs.toArray) (hx : NL is xs) (hl : xs.length ≤ 63) :
    wpAny (model PR w) A (call (.ref 104) [.ref a]) (fun v s' => Kp s s' ∧ ∃ T Sg Tb ys k l ep sg, v = .ref T ∧ NewIn s.heap s'.heap [(T, TO [.ref Sg, .ref Tb]), (Tb, DO w l ep), (Sg, LO ys k)] ∧ TL (sg.map ([·])) ys ∧ Drawn sg (wordsOf l) ∧ (keysOf l).Nodup ∧ (Tb == sysModules) = false ∧ (∀ e ∈ l, OkEnt e ∧ e.t < s'.toks)) E s := by
  refine ups (call_fn (T := fun v s s' => ∃ T Sg Tb ys k l ep sg, v = .ref T ∧ NewIn s.heap s'.heap [(T, TO [.ref Sg, .ref Tb]), (Tb, DO w l ep), (Sg, LO ys k)] ∧ TL (sg.map ([·])) ys ∧ Drawn sg (wordsOf l) ∧ (keysOf l).Nodup ∧ (Tb == sysModules) = false ∧ (∀ e ∈ l, OkEnt e ∧ e.t < s'.toks)) f_draw G R (by kernel_rfl) (by rfl)
    (binds := [("script", .ref a)]) (BindsTo.of_eq rfl) (by decide) (by rfl) (by rfl) (by rfl) fun L h₁ tk ht S E' => ?_)
  have hres : (A.deeper (callEnv f_draw.val L 104)).handled = none := R.hh
  have hG := big_G G
  have hlen := all2_length hx
  refine t_assign S (P := IsS (ofL plainL)) ev_str fun v h tk₁ ht₁ p S => ?_
  obtain ⟨tp, rfl⟩ := p
  generalize hE : Expr.List _ _ = e0
  refine t_assignT S (P := fun v nw a => ∃ D ys, v = .ref D ∧ nw = [(D, LO ys 0)] ∧ All2 (FT tk₁ a) textsL ys) (fun v nw a b hab hq => by obtain ⟨D, ys, e1, e2, e3⟩ := hq; exact ⟨D, ys, e1, e2, all2_mono (fun z v hq => by obtain ⟨u, e, l1, l2⟩ := hq; exact ⟨u, e, l1, Nat.lt_of_lt_of_le l2 hab⟩) e3⟩) ?_ (hs := by rw [← hE]; rfl) fun v nw h tk₂ ht₂ p S => ?_
  · rw [← hE]
    refine (ev_listT2 (P := fun vs s s' => All2 (FT s.toks s'.toks) textsL vs) (argsF_cons ev_strF (argsF_cons ev_strF (argsF_cons ev_strF (argsF_cons ev_strF (argsF_cons ev_strF (argsF_cons ev_strF (argsF_cons ev_strF (argsF_cons ev_strF argsF_nil)))))))) (fun vs s s' _ all => by rw [← all2_length all]; decide)).mono ?_
    intro v s₂ s₃ up kp hq; obtain ⟨t, vs, s₄, rfl, k1, all, k2, hnew⟩ := hq
    exact ⟨[(t, LO vs 0)], hnew.back k1.up.st, t, vs, rfl, rfl, all2_mono (fun z v hq => by obtain ⟨u, e, l1, l2⟩ := hq; exact ⟨u, e, Nat.le_trans up.tk l1, Nat.lt_of_lt_of_le l2 k2.t⟩) all⟩
  obtain ⟨TX, tys, rfl, rfl, htx⟩ := p
  have hIL := fun {m cm led h} (S : Sta s.heap (callEnv f_draw.val L 104).locals (callEnv f_draw.val L 104).cells m cm led h) => ha.at fun o e => S.keep _ _ e
  have hk3 := modN_lt (xs.length : Int) (k := 3) (by decide)
  have hcs : ∃ c, ([[252, 60, 38, 233], [233], []] : List (List Nat))[((xs.length : Int).fmod (3 : Nat)).toNat]? = some c ∧ c ∈ ([[252, 60, 38, 233], [233], []] : List (List Nat)) :=
    ⟨_, List.getElem?_eq_getElem (by exact hk3), List.getElem_mem _⟩
  obtain ⟨c, hc, hcm⟩ := hcs
  have hc4 : c.length ≤ 4 ∧ ∀ x ∈ c, x ≤ 55295 := (by decide : ∀ c ∈ ([[252, 60, 38, 233], [233], []] : List (List Nat)), c.length ≤ 4 ∧ ∀ x ∈ c, x ≤ 55295) c hcm
  have hmk : ∀ {v : Value} {nw : List (Addr × Obj)} {c : List Nat}, (∃ t vs, v = .ref t ∧ nw = [(t, LO vs 0)] ∧ TL (c.map ([·])) vs) → NewTexts c v nw := fun hq7 => by obtain ⟨t, vs, e1, e2, e3⟩ := hq7; exact ⟨t, vs, 0, e1, e2, e3⟩
  refine t_assignN S (P := fun v nw => NewTexts c v nw) (ev_itemN (U := NewTexts) (cs := [[252, 60, 38, 233], [233], []]) (k := ((xs.length : Int).fmod (3 : Nat)).toNat)
    (ev_listN (argsN_cons (Ev.mono (ev_list (P := fun vs => TL (([252, 60, 38, 233] : List Nat).map ([·])) vs) (argsV_cons (ev_chr (c := 252) (gbuilt G S rfl rfl rfl) ev_int (by decide)) (argsV_cons (V := fun x v => IsS (ofL x) v) (c := [60]) ev_str (argsV_cons (V := fun x v => IsS (ofL x) v) (c := [38]) ev_str (argsV_cons (ev_chr (c := 233) (gbuilt G S rfl rfl rfl) ev_int (by decide)) argsV_nil)))) (fun vs all => by rw [← all2_length all]; decide)) fun v _ _ _ _ ⟨nw, hn, q⟩ => ⟨nw, hn, hmk q⟩)
      (argsN_cons (Ev.mono (ev_list (P := fun vs => TL (([233] : List Nat).map ([·])) vs) (argsV_cons (ev_chr (c := 233) (gbuilt G S rfl rfl rfl) ev_int (by decide)) argsV_nil) (fun vs all => by rw [← all2_length all]; decide)) fun v _ _ _ _ ⟨nw, hn, q⟩ => ⟨nw, hn, hmk q⟩)
      (argsN_cons (Ev.mono (ev_list (P := fun vs => TL (([] : List Nat).map ([·])) vs) argsV_nil (fun vs all => by rw [← all2_length all]; decide)) fun v _ _ _ _ ⟨nw, hn, q⟩ => ⟨nw, hn, hmk q⟩) argsN_nil))) (by decide))
    (ev_modN (k := 3) (ev_lenIL (gbuilt G S rfl rfl rfl) (n_local S rfl rfl) (hIL S) (by lia)) ev_int (by decide)) hc (by lia) (fun y n₁ hq => by obtain ⟨D, ys, k, _, e, _⟩ := hq; rw [e]; simp)) fun v nw h tk₃ ht₃ p S => ?_
  obtain ⟨Sg, gys, gk, rfl, rfl, htl⟩ := p
  refine t_assignT S (P := fun v nw a => ∃ d l ep, v = .ref d ∧ nw = [(d, DO w l ep)] ∧ (d == sysModules) = false ∧ (wordsOf l = [([108], [76, 45])] ∨ wordsOf l = []) ∧ Fr tk₃ a l) (fun v nw a b hab hq => by obtain ⟨d, l, ep, e1, e2, e3, e4, e5⟩ := hq; exact ⟨d, l, ep, e1, e2, e3, e4, fun e he => ⟨(e5 e he).1, (e5 e he).2.1, Nat.lt_of_lt_of_le (e5 e he).2.2 hab⟩⟩)
    (ev_ifexp (back_NT (P := fun v nw a => ∃ d l ep, v = .ref d ∧ nw = [(d, DO w l ep)] ∧ (d == sysModules) = false ∧ (wordsOf l = [([108], [76, 45])] ∨ wordsOf l = []) ∧ Fr tk₃ a l)) (evt_eqI (ev_modN (k := 3) (ev_lenIL (gbuilt G S rfl rfl rfl) (n_local S rfl rfl) (hIL S) (by lia)) ev_int (by decide)) ev_int) (fun _ => ?_) fun _ => ?_) fun v nw h tk₄ ht₄ p S => ?_
  · refine (ev_dictC1 (x1 := [108]) (z1 := [76, 45]) (fun b => ev_strF) (fun b => ev_strF) (by decide)).mono ?_
    intro v s₂ s₃ up kp hq; obtain ⟨d', ep', l', rfl, hsz, hnew, hw, hfr⟩ := hq
    exact ⟨_, hnew, d', l', ep', rfl, rfl, notSys ((hG.up S.keep).up up.st) hsz, .inl hw, fun e he => ⟨Nat.le_trans up.tk (hfr e he).1, (hfr e he).2⟩⟩
  · refine ev_dict0.mono ?_
    intro v s₂ s₃ up kp hq; obtain ⟨d', ep', l', rfl, hsz, hnew, hw, hfr⟩ := hq
    exact ⟨_, hnew, d', l', ep', rfl, rfl, notSys ((hG.up S.keep).up up.st) hsz, .inr hw, fun e he => ⟨Nat.le_trans up.tk (hfr e he).1, (hfr e he).2⟩⟩
  obtain ⟨Tb, l₀, ep₀, rfl, rfl, hTbS, hw₀, hfr₀⟩ := p
  have h1tk : 1 ≤ tk₁ := Nat.le_trans h1 (Nat.le_trans ht ht₁)
  have htok₀ : TokOK tk₂ tk₄ l₀ := fun e he => by
    obtain ⟨a1, a2, a3⟩ := hfr₀ e he
    have a4 : tk₂ ≤ e.t := Nat.le_trans ht₃ a1
    have a5 : 1 ≤ e.t := Nat.le_trans h1tk (Nat.le_trans ht₂ a4)
    exact ⟨⟨Nat.ne_of_gt a5, Nat.ne_of_gt (Nat.lt_of_lt_of_le a5 (Nat.le_of_lt a2)), Nat.ne_of_lt a2⟩, a4, Nat.lt_trans a2 a3⟩
  have hwok₀ : WordsOK (wordsOf l₀) := by
    rcases hw₀ with e | e <;> rw [e]
    · intro e he
      rw [List.mem_singleton.mp he]
      exact ⟨⟨108, rfl, by decide⟩, by decide⟩
    · exact fun _ h => nomatch h
  have hnd₀ : (keysOf l₀).Nodup := by rw [keys_words]; rcases hw₀ with e | e <;> rw [e] <;> decide
  have hll₀ : l₀.length ≤ 1 := by
    have : (wordsOf l₀).length = l₀.length := by simp [wordsOf]
    rw [← this]; rcases hw₀ with e | e <;> rw [e] <;> decide
  have S := sre (m' := [("plain", .str (ofL plainL) tp), ("texts", .ref TX), ("signs", .ref Sg), ("table", .ref Tb), ("script", .ref a)]) S ⟨rfl, rfl, rfl, rfl, rfl, trivial⟩ (cm' := []) trivial
  have hsz6 : (xs.take 6).length ≤ 6 := by rw [List.length_take]; lia
  refine t_forT hres (DrawK w tp TX Sg Tb a (xs.take 6) tys tk₂) (fun D i a b m cm led hab hq => by obtain ⟨ys, k, l, ep, sg, e1, e2, e3, e4, e5, e6, e7, e8, e9, e10⟩ := hq; exact ⟨ys, k, l, ep, sg, e1, e2, e3, e4, e5, e6, e7, e8, e9, e10.mono hab⟩)
    S (ev_lsliceMin (k := 6) (n_local S rfl rfl) (hIL S) ev_int (by lia)) (fun D => ⟨gys, gk, l₀, ep₀, c, rfl, rfl, rfl, htl, by lia, hc4.2, hnd₀, hwok₀, by lia, htok₀⟩) (fun D i a m cm led hq => by obtain ⟨ys, k, l, ep, sg, e1, e2, e3, e4, e5, e6, e7, e8, e9, e10⟩ := hq; rw [e3]; exact List.mem_cons_self)
    (fun D i v m₁ cm₁ led₁ I h tk₅ E' ht₅ hv hK S => ?_) fun D m₁ cm₁ led₁ h tk₅ ht₅ hK S => ?_
  rotate_left
  · obtain ⟨ys, k, l, ep, sg, rfl, rfl, rfl, e4, e5, e6, e7, e8, e9, e10⟩ := hK
    refine t_return (ev_tuple (P := fun vs => ∃ u v, vs = [u, v] ∧ u = .ref Sg ∧ v = .ref Tb) (args2 (n_local S rfl rfl) (n_local S rfl rfl)) (fun vs hq => by obtain ⟨u, v, e, _⟩ := hq; rw [e]; show 2 ≤ sizeLine; decide)) fun v h tk ht₆ st p => ?_
    obtain ⟨nw, hnew, T, vs, rfl, rfl, u, u', rfl, rfl, rfl⟩ := p
    have S' := S.add st hnew
    refine ⟨⟨_, _, rfl, S'.keep⟩, T, Sg, Tb, ys, k, l, ep, sg, rfl, ⟨fun q hq => ?_, ?_⟩, e4, ⟨by lia, e6, ?_, by rw [← keys_words]; exact e7, e8⟩, e7, hTbS, fun e he => ⟨(e10 e he).1, Nat.lt_of_lt_of_le (e10 e he).2.2 ht₆⟩⟩
    · refine ⟨(S'.objs q ?_).1, (S'.objs q ?_).2.1⟩ <;>
      · simp only [List.mem_cons, List.not_mem_nil, or_false] at hq
        rcases hq with rfl | rfl | rfl <;> simp
    · refine S'.nod.sublist ?_
      exact .cons_cons _ (.cons _ (.cons_cons _ (.cons_cons _ (.cons _ .slnil))))
    · have : (wordsOf l).length = l.length := by simp [wordsOf]
      rw [this]; lia
  obtain ⟨ys, k, l, ep, sg, rfl, rfl, rfl, e4, e5, e6, e7, e8, e9, e10⟩ := hK
  have hi6 : i < 6 := by have := (List.getElem?_eq_some_iff.mp hv).1; lia
  have hvI : ∃ n : Int, IsI n v := by
    rw [List.getElem?_take, if_pos hi6] at hv
    have hlt : i < is.length := by have := (List.getElem?_eq_some_iff.mp hv).1; lia
    obtain ⟨v', e, k⟩ := all2_get hx (List.getElem?_eq_getElem hlt)
    rw [hv] at e; cases e
    exact ⟨_, k⟩
  obtain ⟨nn, tn, rfl⟩ := hvI
  have hyl := all2_length e4
  rw [List.length_map] at hyl
  refine t_swap2 hres S (G := fun a b => IsI ((nn.fmod (6 : Nat)).toNat : Nat) a ∧ IsI (nn.fdiv 6) b) (Ev.mono (ev_tuple (P := fun vs => ∃ u v, vs = [u, v] ∧ IsI ((nn.fmod (6 : Nat)).toNat : Nat) u ∧ IsI (nn.fdiv 6) v) (args2 (ev_modN (k := 6) (n_local S rfl ⟨_, rfl⟩) ev_int (by decide)) (ev_fdiv (n_local S rfl ⟨_, rfl⟩) ev_int (by decide) (by decide))) (fun vs hq => by obtain ⟨u, v, e, _⟩ := hq; rw [e]; show 2 ≤ sizeLine; decide)) ?_) fun va vb h tk₆ ht₆ p S => ?_
  · intro v s₂ s₃ _ _ hq; obtain ⟨nw, hnew, t, vs, e1, e2, u, u', e3, p1, p2⟩ := hq
    subst e2 e3
    exact ⟨t, u, u', e1, isTup_TO (hnew.1 _ List.mem_cons_self).1, p1, p2⟩
  obtain ⟨⟨tw, rfl⟩, ⟨tr, rfl⟩⟩ := p
  generalize hway : (nn.fmod (6 : Nat)).toNat = way at S
  generalize hrest : nn.fdiv 6 = rest at S
  have hp14 := modN_lt rest (k := 14) (by decide)
  obtain ⟨pc, hpc, hpcm⟩ : ∃ c, plainL[(rest.fmod (14 : Nat)).toNat]? = some c ∧ c ∈ plainL := ⟨_, List.getElem?_eq_getElem (by exact hp14), List.getElem_mem _⟩
  have hpc128 : pc < 128 := (by decide : ∀ c ∈ plainL, c < 128) pc hpcm
  have hsgn : ∀ {c : Nat} {tkk : Nat} {hh : Heap} {t' : Tok} {n' : Nat}, tk₆ ≤ tkk → c ≤ 55295 →
      Sta s.heap (callEnv f_draw.val L 104).locals (callEnv f_draw.val L 104).cells [("way", .int way tw), ("rest", .int rest tr), ("n", .int nn tn), ("plain", .str (ofL plainL) tp), ("texts", .ref TX), ("signs", .ref Sg), ("table", .ref Tb), ("script", .ref a)] [] ([] ++ [I, (D, LO (xs.take 6) 0), (Tb, DO w l ep)] ++ (Sg, LO (ys ++ [.str (ofL [c]) t']) n') :: [(TX, LO tys 0)]) hh →
      ∃ h' tk' m cm led, ({ s with heap := hh, toks := tkk } : Shared) = { ({ s with heap := h, toks := tk₅ } : Shared) with heap := h', toks := tk' } ∧ tk₅ ≤ tk' ∧ Sta s.heap (callEnv f_draw.val L 104).locals (callEnv f_draw.val L 104).cells m cm (I :: led) h' ∧ DrawK w tp TX Sg Tb a (xs.take 6) tys tk₂ D (i + 1) tk' m cm led :=
    fun {c tkk hh t' n'} hle hc55 S => ⟨hh, tkk, _, _, _, rfl, Nat.le_trans ht₆ hle, sre (m' := [("plain", .str (ofL plainL) tp), ("texts", .ref TX), ("signs", .ref Sg), ("table", .ref Tb), ("script", .ref a)]) S ⟨rfl, rfl, rfl, rfl, rfl, trivial⟩ (cm' := []) trivial,
      _, _, l, ep, sg ++ [c], rfl, rfl, rfl, by rw [List.map_append]; exact all2_app e4 ⟨⟨t', rfl⟩, trivial⟩, by simp; lia, fun x hx => by
        rcases List.mem_append.mp hx with hx | hx
        · exact e6 x hx
        · rw [List.mem_singleton.mp hx]; exact hc55, e7, e8, by lia, e10.mono (Nat.le_trans ht₆ hle)⟩
  have hisS : ∀ {c : Nat} {v : Value} {s s' : Shared}, IsF (ofL [c]) v s s' → IsS (ofL [c]) v := fun hq7 => by obtain ⟨t, e, _⟩ := hq7; exact ⟨t, e⟩
  have S := sre (m' := [("way", .int way tw), ("rest", .int rest tr), ("n", .int nn tn), ("plain", .str (ofL plainL) tp), ("texts", .ref TX), ("signs", .ref Sg), ("table", .ref Tb), ("script", .ref a)]) S ⟨rfl, rfl, rfl, rfl, rfl, rfl, rfl, rfl, trivial⟩ (cm' := []) trivial
  have hszl : sizeLine = 16777216 := by decide
  refine t_ife S (c := decide ((way : Int) < 2)) (evt_lt (n_local S rfl ⟨_, rfl⟩) ev_int) (fun hc h tk₇ ht₇ S => ?_) fun hc h tk₇ ht₇ S => ?_
  · refine t_append (pre := [I, (D, LO (xs.take 6) 0), (Tb, DO w l ep)]) (post := [(TX, LO tys 0)]) (P := fun v nw => nw = [] ∧ IsS (ofL [pc]) v) S (n_local S rfl rfl) (Ev.toN ((ev_itemS (n_local S rfl ⟨_, rfl⟩) (ev_modN (k := 14) (n_local S rfl ⟨_, rfl⟩) ev_int (by decide)) hpc (by lia)).mono fun v _ _ _ _ q => hisS q)) (by lia) fun v nw n' h tk₈ ht₈ q S => s_nil (s_nil ?_)
    obtain ⟨rfl, ⟨t', rfl⟩⟩ := q
    exact hsgn (Nat.le_trans ht₇ ht₈) (by lia) S
  refine t_ife S (c := ((way : Int) == 2)) (evt_eqI (n_local S rfl ⟨_, rfl⟩) ev_int) (fun hc h tk₈ ht₈ S => ?_) fun hc h tk₈ ht₈ S => ?_
  · have hm := modN_lt rest (k := 4) (by decide)
    refine t_append (pre := [I, (D, LO (xs.take 6) 0), (Tb, DO w l ep)]) (post := [(TX, LO tys 0)]) (P := fun v nw => nw = [] ∧ IsS (ofL [232 + (rest.fmod (4 : Nat)).toNat]) v) S (n_local S rfl rfl) (Ev.toN (ev_chr (gbuilt G S rfl rfl rfl) (ev_add (i := (232 : Nat)) ev_int (ev_modN (k := 4) (n_local S rfl ⟨_, rfl⟩) ev_int (by decide))) (by lia))) (by lia) fun v nw n' h tk₉ ht₉ q S => s_nil (s_nil (s_nil ?_))
    obtain ⟨rfl, ⟨t', rfl⟩⟩ := q
    exact hsgn (Nat.le_trans ht₇ (Nat.le_trans ht₈ ht₉)) (by lia) S
  refine t_ife S (c := ((way : Int) == 3)) (evt_eqI (n_local S rfl ⟨_, rfl⟩) ev_int) (fun hc h tk₉ ht₉ S => ?_) fun hc h tk₉ ht₉ S => ?_
  · have hm := modN_lt rest (k := 55168) (by decide)
    refine t_append (pre := [I, (D, LO (xs.take 6) 0), (Tb, DO w l ep)]) (post := [(TX, LO tys 0)]) (P := fun v nw => nw = [] ∧ IsS (ofL [128 + (rest.fmod (55168 : Nat)).toNat]) v) S (n_local S rfl rfl) (Ev.toN (ev_chr (gbuilt G S rfl rfl rfl) (ev_add (i := (128 : Nat)) ev_int (ev_modN (k := 55168) (n_local S rfl ⟨_, rfl⟩) ev_int (by decide))) (by lia))) (by lia) fun v nw n' h tk₁₀ ht₁₀ q S => s_nil (s_nil (s_nil (s_nil ?_)))
    obtain ⟨rfl, ⟨t', rfl⟩⟩ := q
    exact hsgn (Nat.le_trans ht₇ (Nat.le_trans ht₈ (Nat.le_trans ht₉ ht₁₀))) (by lia) S
  · have hm := modN_lt (rest.fdiv 14) (k := 8) (by decide)
    obtain ⟨zc, hzc, hzcm⟩ : ∃ c, textsL[((rest.fdiv 14).fmod (8 : Nat)).toNat]? = some c ∧ c ∈ textsL := ⟨_, List.getElem?_eq_getElem (by exact hm), List.getElem_mem _⟩
    obtain ⟨y, hy, u, rfl, hu1, hu2⟩ := all2_get htx hzc
    refine t_setItem (pre := [I, (D, LO (xs.take 6) 0)]) (post := [(Sg, LO ys k), (TX, LO tys 0)]) (d := Tb) (l := l) (ep := ep) (z := zc) (kk := [pc]) (u := u) S (ev_itemL (n_local S rfl rfl) (S.objs (TX, LO tys 0) (by simp)).1 (ev_modN (k := 8) (ev_fdiv (n_local S rfl ⟨_, rfl⟩) ev_int (by decide) (by decide)) ev_int (by decide)) hy (by lia)) (n_local S rfl rfl)
      (ev_itemS (n_local S rfl ⟨_, rfl⟩) (ev_modN (k := 14) (n_local S rfl ⟨_, rfl⟩) ev_int (by decide)) hpc (by lia)) e7 (by lia) fun t ep' h tk₁₀ hlo hhi S => s_nil (s_nil (s_nil (s_nil ?_)))
    have hle : tk₅ ≤ t := Nat.le_trans ht₆ (Nat.le_trans ht₇ (Nat.le_trans ht₈ (Nat.le_trans ht₉ hlo)))
    refine ⟨h, tk₁₀, _, _, _, rfl, Nat.le_trans hle (Nat.le_of_lt hhi), sre (m' := [("plain", .str (ofL plainL) tp), ("texts", .ref TX), ("signs", .ref Sg), ("table", .ref Tb), ("script", .ref a)]) S ⟨rfl, rfl, rfl, rfl, rfl, trivial⟩ (cm' := []) trivial,
      ys, k, putE l ⟨[pc], t, zc, u⟩, ep', sg, rfl, rfl, rfl, e4, by lia, e6, keys_putE _ _ e7, ?_, by have := length_putE l ⟨[pc], t, zc, u⟩; lia, e10.put (Nat.le_trans h1tk hu1) hu2 (Nat.le_trans ht₃ (Nat.le_trans ht₄ ht₅)) hle hhi⟩
    rw [words_putE]
    exact e8.put ⟨⟨pc, rfl, hpc128⟩, List.mem_cons_of_mem _ hzcm⟩
end
end

/- F15 -/
/- list(d.items()), and two such lists compared -/
section
open PySem PySem.W PyProof.Rows PySem.Calls
section
variable {prog : Program} {w : World} {A : Around} {env : Env} {b : Shared}
theorem ev_dItems {o : Expr} {apos pos : Pos} {d : Addr} {l : List Ent} {ep : Nat} (ho : EvP prog w A env b o (· = .ref d)) (hd : b.heap.get? d = some (DO w l ep)) (hdS : (d == sysModules) = false) (hn : (keysOf l).Nodup)
    (hbase : attributeBase o "items" env (eval o env) = eval o env := by rfl) (hline : (apos.endLine == pos.line) = true := by rfl) :
    Ev prog w A env b (.Call (.Attribute o "items" apos) [] [] pos) (fun v s s' => ∃ r, v = .ref r ∧ s'.heap.IsItemsView r d) :=
  ev_method (fun _ _ _ _ _ x => x) ho (T := "dict") (id := "dict.items") F.plainAttrs_dict F.slot_dict_items F.type_dict_items (fun v s u e => by subst e; exact ⟨⟨_, u.st _ _ hd, rfl⟩, fun a e => by cases e; exact ⟨_, u.st _ _ hd, rfl⟩⟩)
    args0 (fun ov vs s s₁ E up up₁ e hv => by
      subst e; subst hv
      have hd₁ := (up.trans up₁).st _ _ hd
      exact call_meetsIn F.slot_dict_items ⟨_, hd₁, rfl⟩ F.entry_dict_items (F.args_dict_items_1 _) (meets_dict_items (PySem.strKind prog w) d hdS) ⟨⟨_, dictOf_DO hd₁ hn⟩, ⟨⟨_, _, rfl, stays_push _ _⟩, _, rfl, _, Heap.get?_push_size _ rfl, rfl, rfl⟩⟩) hbase (by rfl) hline
noncomputable abbrev IsItem (e : Ent) (a b : Value) : Prop := IsS (ofL e.k) a ∧ b = e.val
theorem ev_listItems (hh : A.handled = none) {x : Str} {pp : Pos} {o : Expr} {apos ppos pos : Pos} {d : Addr} {l : List Ent} {ep : Nat} (hx : EvP prog w A env b (.Name x pp) (· = .type "list")) (ho : EvP prog w A env b o (· = .ref d)) (hd : b.heap.get? d = some (DO w l ep)) (hdS : (d == sysModules) = false) (hn : (keysOf l).Nodup) (hz : l.length ≤ 1000)
    (hbase : attributeBase o "items" env (eval o env) = eval o env := by rfl) (hline : (apos.endLine == ppos.line) = true := by rfl) (hp : starEach [.Call (.Attribute o "items" apos) [] [] ppos] env = [(false, eval (.Call (.Attribute o "items" apos) [] [] ppos) env)] := by rfl) :
    EvN prog w A env b (.Call (.Name x pp) [.Call (.Attribute o "items" apos) [] [] ppos] [] pos) (fun v nw => ∃ D ys k nw', v = .ref D ∧ nw = (D, LO ys k) :: nw' ∧ All2 (Of (NewPair IsItem) nw') l ys) := by
  refine ev_call back_N hx (.type _) (args_consT (ev_dItems ho hd hdS hn hbase hline) args0 hp) fun vs s s₁ E up up₁ hv => ?_
  obtain ⟨v1, r, s2, rfl, k1, k2, ⟨q, rfl, hq⟩, rfl⟩ := hv
  have hd₁ := (up.trans up₁).st _ _ hd
  have hq₁ : s₁.heap.IsItemsView q d := let ⟨o, e, x⟩ := hq; ⟨o, k2.up.st _ _ e, x⟩
  have hsz : sizeLine = 16777216 := by decide
  refine kdx_call (knd := PySem.strKind prog w) (kvs := l.map pairOf) (ep := ep) hh hq₁ (dictAt_DO hd₁ hn) (by rw [List.length_map]; lia) fun h' tk acc c as hk hS hl hG hacc => ?_
  rw [List.length_map] at hl
  have hob : ∀ a ∈ as, ∃ o, h'.get? a = some o := fun a ha => by
    obtain ⟨j, hj⟩ := List.mem_iff_getElem?.mp ha
    obtain ⟨_, _, _, _, _, e⟩ := hG.pairs j a hj
    exact ⟨_, e⟩
  let nw' : List (Addr × Obj) := as.map fun a => (a, (h'.get? a).getD (TO []))
  have hnw' : ∀ p ∈ nw', p.1 ∈ as ∧ h'.get? p.1 = some p.2 := fun p hp => by
    obtain ⟨a, ha, rfl⟩ := List.mem_map.mp hp
    obtain ⟨o, ho⟩ := hob a ha
    exact ⟨ha, by show h'.get? a = some ((h'.get? a).getD _); rw [ho]; rfl⟩
  have ea : acc = (as.map Value.ref).toArray := by rw [← hacc, Array.toArray_toList]
  have fresh : ∀ a : Nat, s₁.heap.objs.size ≤ a → s₁.heap.get? a = none := fun a ha => Heap.get?_none_of_le ha
  refine ⟨⟨h', tk, rfl, hk⟩, (s₁.heap.objs.size, LO (as.map Value.ref) c) :: nw', NewIn.back up₁.st ⟨fun p hp => ?_, ?_⟩, _, _, c, nw', rfl, rfl, ?_⟩
  · rcases List.mem_cons.mp hp with rfl | hp
    · exact ⟨by rw [hS, ea], fresh _ (Nat.le_refl _)⟩
    · obtain ⟨a1, a2⟩ := hnw' p hp
      exact ⟨a2, fresh _ (Nat.le_of_lt (hG.above _ a1))⟩
  · have e1 : nw'.map (·.1) = as := by show List.map _ (List.map _ _) = _; rw [List.map_map]; exact List.map_id _
    rw [List.map_cons, e1, List.nodup_cons]
    refine ⟨fun hm => absurd (hG.above _ hm) (Nat.lt_irrefl _), hG.rise.imp fun h => Nat.ne_of_lt h⟩
  · refine all2_of (by rw [List.length_map, hl]) fun j e v he hv => ?_
    rw [List.getElem?_map, Option.map_eq_some_iff] at hv
    obtain ⟨a, ha, rfl⟩ := hv
    obtain ⟨key, k, x, e1, e2, e3⟩ := hG.pairs j a ha
    rw [List.getElem?_map, he] at e1
    have e4 : pairOf e = (k, x) := Option.some.inj e1
    cases e4
    obtain ⟨t, rfl⟩ := Value.isStrOf_shape e2
    refine ⟨[(a, TO [.str (ofL e.k) t, e.val])], fun p hp => ?_, a, _, _, rfl, rfl, ⟨t, rfl⟩, rfl⟩
    rw [List.mem_singleton.mp hp]
    exact List.mem_map.mpr ⟨a, List.mem_of_getElem? ha, by rw [e3]; rfl⟩
open PySem.SeqAt in
theorem items_same {s : Shared} {l : List Ent} {ys zs : List Value} (hu : A.units + 2 < cLine) (hy : PL s.heap IsItem l ys) (hz : PL s.heap IsItem l zs) : ∀ j (h1 : j < ys.toArray.size) (h2 : j < zs.toArray.size), EqAt A s ys.toArray[j] zs.toArray[j] true := fun j h1 h2 => by
  have l1 := all2_length hy
  have hj : j < l.length := by simp at h1; lia
  obtain ⟨v, e, t, va, vb, rfl, ho, ⟨tk, rfl⟩, rfl⟩ := all2_get hy (List.getElem?_eq_getElem hj)
  obtain ⟨v', e', t', va', vb', rfl, ho', ⟨tk', rfl⟩, rfl⟩ := all2_get hz (List.getElem?_eq_getElem hj)
  have g1 : ys.toArray[j] = .ref t := by
    have : ys.toArray[j]? = some (.ref t) := by simpa using e
    rw [Array.getElem?_eq_getElem h1] at this; exact Option.some.inj this
  have g2 : zs.toArray[j] = .ref t' := by
    have : zs.toArray[j]? = some (.ref t') := by simpa using e'
    rw [Array.getElem?_eq_getElem h2] at this; exact Option.some.inj this
  rw [g1, g2]
  by_cases ht : t = t'
  · subst ht; exact EqAt.same _
  · refine EqAt.of_refs ht ?_
    have key := RcAt.tuples (A := A) (e := fun _ => true) (l := t) (b := t') (items := #[.str (ofL l[j].k) tk, l[j].val]) (items2 := #[.str (ofL l[j].k) tk', l[j].val]) ⟨_, ho, rfl, _, rfl⟩ ⟨_, ho', rfl, _, rfl⟩ (by lia) (fun i h1 h2 => ?_)
    · exact key
    · match i, h1, h2 with
      | 0, _, _ =>
        have := EqAt.str_str (A := A.in1) (s := s) (ofL l[j].k) tk (ofL l[j].k) tk'
        rw [beq_self_eq_true] at this
        exact this
      | 1, _, _ => exact EqAt.same _
      | n + 2, h1, _ => exact absurd h1 (by simp)
/- list(d.items()) != kept: the dict as it was -/
theorem evt_neItems {le re : Expr} {pos : Pos} {l : List Ent} {K : Addr} {ys : List Value} {k : Nat} (hu : A.units + 8 < cLine) (ha : EvN prog w A env b le (fun v nw => ∃ D ys k nw', v = .ref D ∧ nw = (D, LO ys k) :: nw' ∧ All2 (Of (NewPair IsItem) nw') l ys)) (hb : EvP prog w A env b re (· = .ref K)) (hK : b.heap.get? K = some (LO ys k)) (hP : PL b.heap IsItem l ys)
    (hm : behindInMarks .NotEq re = false := by with_unfolding_all rfl) : EvT prog w A env b (.Compare le [.NotEq] [re] pos) false := by
  intro s E up
  refine wpAny_isTrue_Compare1 (wpAny_mono (ha s E up) (fun u s₁ q₁ => wpAny_mono (hb s₁ E (up.trans q₁.1.up)) (fun v s₂ q₂ => ?_) fun _ _ e => e) fun _ _ e => e) hm
  obtain ⟨k₁, nw, hnew, D, zs, kk, nw', rfl, rfl, all⟩ := q₁
  obtain ⟨k₂, rfl⟩ := q₂
  have kp := k₁.trans k₂
  have hD := k₂.up.st _ _ (hnew.1 _ List.mem_cons_self).1
  have hP1 : PL s₂.heap IsItem l zs := (pl_of all fun p hp => (hnew.1 p (List.mem_cons_of_mem _ hp)).1).up k₂.up.st
  have hP2 : PL s₂.heap IsItem l ys := hP.up (up.trans kp.up).st
  have hK2 := (up.trans kp.up).st _ _ hK
  have l1 := all2_length hP1
  have l2 := all2_length hP2
  have key := SeqAt.RcNeAt.lists (A := A) (s := s₂) (e := fun _ => true) (isList_LO hD) (isList_LO hK2) (by simp; lia) (by lia) (fun j h1 h2 => items_same (A := A.in1) (by show A.units + 1 + 2 < cLine; lia) hP1 hP2 j h1 h2)
  have e0 : (!(List.range zs.toArray.size).all fun _ => true) = false := by simp
  rw [e0] at key
  exact key prog w E _ (wpAny_truthy_bool ⟨kp, rfl⟩)
end
end

/- F16 -/
/- what job needs: join of a list that stands; the truth of a text; the signs of bytes -/
section
open PySem PySem.W PyProof.Rows PySem.Calls
section
variable {prog : Program} {w : World} {A : Around} {env : Env} {h : Heap} {b : Shared}
/- ''.join(l) -/
theorem ev_joinT {o e : Expr} {apos pos : Pos} {xs : List (List Nat)} (hz : xs.flatten.length ≤ sizeLine) (ho : EvP prog w A env b o (IsS (ofL []))) (he : Ev prog w A env b e (fun v _ s' => ∃ ys, IsL ys v s' ∧ TL xs ys))
    (hbase : attributeBase o "join" env (eval o env) = eval o env := by rfl) (hline : (apos.endLine == pos.line) = true := by rfl) (hp : starEach [e] env = [(false, eval e env)] := by rfl) :
    EvP prog w A env b (.Call (.Attribute o "join" apos) [e] [] pos) (IsS (ofL xs.flatten)) :=
  ev_method back_P ho (T := "str") (id := "str.join") F.plainAttrs_str F.slot_str_join F.type_str_join (fun v s _ hq => by obtain ⟨t, e⟩ := hq; exact ⟨by rw [e]; exact typeIs_str _ _ t, fun a e' => by rw [e] at e'; cases e'⟩)
    (args_consT he args0 hp) (fun ov vs s s₁ E up up₁ hq7 hv => by
      obtain ⟨t, e⟩ := hq7
      obtain ⟨v1, r, s2, rfl, k1, k2, ⟨ys, ⟨D, k, rfl, hD0⟩, hL⟩, rfl⟩ := hv
      subst e
      obtain ⟨l, rfl, el⟩ := tl_strs hL
      have hD := k2.up.st _ _ hD0
      refine call_meets F.slot_str_join (typeIs_str _ _ _) F.entry_str_join (F.args_str_join_2 _ _) (meets_str_join_list (ofL []) t D l ?_) ⟨⟨_, hD, rfl, k, rfl⟩, ?_⟩
      · rw [el]
        have e1 := StrLaws.joinTotal (ofL []) (xs.map ofL)
        have e2 : (((xs.map ofL)).map (·.length)).sum = xs.flatten.length := by
          rw [List.map_map, List.length_flatten]
          congr 1
        rw [e2, ofL_length, List.length_nil, Nat.mul_zero, Nat.add_zero] at e1
        unfold Builtin.Str.tooLong
        exact decide_eq_false (by rw [ofL_length, List.length_nil] at *; lia)
      · have hj := join_empty xs
        rw [← el] at hj
        unfold joinMade
        split
        · rename_i p
          exact ⟨keeps_refl s₁, p.2, by
            have : p.1 = ofL xs.flatten := hj
            rw [← this]⟩
        · rw [StrLaws.glued_eq_join, hj]
          exact ⟨by rw [ofL_length]; exact hz, keeps_toks s₁ _, _, rfl⟩) hbase (by rfl) hline

theorem ev_joinAt {o e : Expr} {apos pos : Pos} {xs : List (List Nat)} {l : Addr} {ys : List Value} {n : Nat} (hz : xs.flatten.length ≤ sizeLine) (ho : EvP prog w A env b o (IsS (ofL []))) (he : EvP prog w A env b e (· = .ref l)) (hl : b.heap.get? l = some (LO ys n)) (hx : TL xs ys)
    (hbase : attributeBase o "join" env (eval o env) = eval o env := by rfl) (hline : (apos.endLine == pos.line) = true := by rfl) (hp : starEach [e] env = [(false, eval e env)] := by rfl) :
    EvP prog w A env b (.Call (.Attribute o "join" apos) [e] [] pos) (IsS (ofL xs.flatten)) :=
  ev_joinT hz ho (Ev.mono he fun v s s' up kp e => ⟨ys, ⟨l, n, e, kp.up.st _ _ (up.st _ _ hl)⟩, hx⟩) hbase hline hp
theorem truth_strL {x : List Nat} (hz : x.length ≤ sizeLine) : Truth prog w A b (IsS (ofL x)) (!x.isEmpty) := fun v s E _ hq7 => by
  obtain ⟨t, e⟩ := hq7
  rw [e]
  have hsz : sizeLine = 16777216 := by decide
  refine P.truthy_str (by rw [ofL_length]; lia) ⟨keeps_toks s _, ?_⟩
  rw [ofL_length]
  cases x with
  | nil => rfl
  | cons c x => simp; lia
theorem iter_bytes (hh : A.handled = none) (B : List Nat) (hB : ∀ c ∈ B, c < 256) (t : Tok) : IterOf prog w A h (.bytes (B.map (·.toUInt8)).toArray t) [] B.length (fun i v => ∃ c, B[i]? = some c ∧ IsI c v) := by
  refine ⟨(fun _ hb => nomatch hb), fun s E Q st k => ?_⟩
  refine KBw.pyIter_bytes ?_
  have W := KBw.walks (prog := prog) (w := w) (A := A) hh s.heap.objs.size (B.map (·.toUInt8)).toArray t
  have hsz : (B.map (·.toUInt8)).toArray.size = B.length := by simp
  rw [hsz] at W
  refine k s.heap.objs.size _ _ ⟨⟨W.sub, W.frame, fun i s Q E hi st hQ => ?_, W.done, W.self⟩, fun i h x => let ⟨o, e, _⟩ := x; ⟨o, e⟩⟩ ⟨_, Heap.get?_push_size _ rfl, rfl, rfl⟩ (stays_push _ _) (get_none_of_size s.heap 0)
  refine W.item i s Q E hi st fun v h' tk hv a b => hQ v h' tk ?_ a b
  obtain ⟨c, u, hc, rfl⟩ := hv
  have hc' : (B.map (·.toUInt8))[i]? = some c := by simpa using hc
  rw [List.getElem?_map, Option.map_eq_some_iff] at hc'
  obtain ⟨c', e, rfl⟩ := hc'
  have := hB c' (List.mem_of_getElem? e)
  refine ⟨c', e, u, ?_⟩
  have : c'.toUInt8.toNat = c' := by simp [Nat.toUInt8]; lia
  rw [this]
end
end

/- C15 -/
/- what _law_job makes -/
section
open PySem PySem.W PyProof.Rows PySem.Calls
section
variable {w : World} {A : Around} {s : Shared} {E : Value → Shared → Prop} {mean : ExcName → Option Value} {mg mb : Str → Option Value}
noncomputable def turnPairs (ts : List (Nat × List Nat)) : List Pr := ts.map fun p => ([p.1], p.2)
noncomputable def markF (kind : Nat) (c0 : List (List Nat)) : List Nat := if kind = 2 then (if 34 ∈ c0.flatten ∧ 39 ∉ c0.flatten then [39] else [34]) else []
noncomputable def cellsF (kind : Nat) (c0 : List (List Nat)) : List (List Nat) := if kind = 2 ∧ 34 ∈ c0.flatten ∧ 39 ∈ c0.flatten then c0.map (rep 34 quot) else c0
noncomputable def wantF (kind : Nat) (c0 : List (List Nat)) : List Nat := markF kind c0 ++ (cellsF kind c0).flatten ++ markF kind c0
noncomputable def pick (sg : List Nat) (cells : List (List Nat)) : List (List Nat) := ((List.range sg.length).filter fun i => decide (((sg.getD i 0 : Nat) : Int) < 128)).map fun i => cells.getD i []
noncomputable def headF (kind : Nat) (sg : List Nat) (c0 : List (List Nat)) : List Nat := markF kind c0 ++ (pick sg (cellsF kind c0)).flatten ++ markF kind c0
noncomputable def plainF (sg : List Nat) : List Nat := sg.filter fun c : Nat => decide ((c : Int) < 128)
noncomputable def unD : List Pr := [(nl10, [10]), (nl13, [13]), (nl9, [9]), (quot, [34])]
noncomputable def midL (x : List Nat) : List Nat := (x.drop 1).take (x.length - 2)
/- all that the job leans on -/
structure JobOK (kind : Nat) (sg : List Nat) (ws : List Pr) (ts : List (Nat × List Nat)) (c0 : List (List Nat)) : Prop where
  k2 : kind ≤ 2
  len : sg.length ≤ 60
  cod : ∀ c ∈ sg, c ≤ 1114111
  hc0 : c0 = sg.map (cellOf ts)
  turns : kind ≠ 0 → turnsW ws (kind == 2) = turnPairs ts
  turns0 : kind = 0 → ts = []
  text : writeF kind ws sg = wantF kind c0
  plain : writeF kind ws (plainF sg) = headF kind sg c0
  f1 : kind = 1 → Fits ws (escL sg) ∧ Fits ws (escL (plainF sg))
  f2 : kind = 2 → Fits (mergeW ws white) (escL sg) ∧ Fits (mergeW ws white) (escL (plainF sg))
  z2 : kind = 2 → ∀ y, (y = drep (mergeW ws white) (escL sg) ∨ y = drep (mergeW ws white) (escL (plainF sg))) → y.length + y.count 34 * 6 ≤ 10000000
  hz : ∀ c ∈ sg, ∀ i, (repAll (ts.take i) [c]).length ≤ 10000000
  cz0 : c0.flatten.length ≤ 10000000
  cz1 : ∀ c ∈ c0, (rep 34 quot c).length ≤ 10000000
  cz : ∀ c ∈ cellsF kind c0, c.length ≤ 10000000
  wz : (wantF kind c0).length ≤ 8000000
  pz : (headF kind sg c0).length ≤ 8000000
  nums : ∀ order, order.Perm (pairsF sg) → order.Pairwise (fun p q => pkey p < pkey q) → ∃ ds : List Nat, numsG sg (cellsF kind c0) ((headF kind sg c0).length - (plainF sg).length) (markF kind c0).length order 128 (-1) 0 ((sg.length : Int) - order.length) = ds.map Int.ofNat ∧
    (∀ d ∈ ds, d < 10 ^ 18) ∧ ds.length ≤ 1000 ∧ insOK (headF kind sg c0) ds 128 0 ∧ insS (headF kind sg c0) ds 128 0 = wantF kind c0
  asc : ∀ c ∈ headF kind sg c0, c < 128
  un1 : kind = 1 → ws = [] → unL [] (wantF kind c0) = sg ∧ (wantF kind c0).length ≤ 1000
  un2 : kind = 2 → ws = [] → unL unD (midL (wantF kind c0)) = sg ∧ 2 ≤ (wantF kind c0).length ∧ (wantF kind c0).length ≤ 1000
theorem all2_map {α β : Type} {V : β → Value → Prop} {f : α → β} : ∀ {as : List α} {vs : List Value}, All2 V (as.map f) vs → All2 (fun a v => V (f a) v) as vs
  | [], [], _ => trivial
  | _ :: _, _ :: _, h => ⟨h.1, all2_map h.2⟩
  | [], _ :: _, h => h.elim
  | _ :: _, [], h => h.elim
theorem flat1 (sg : List Nat) : (sg.map ([·])).flatten = sg := by
  induction sg with
  | nil => rfl
  | cons c sg ih => rw [List.map_cons, List.flatten_cons, ih]; rfl
theorem evt_ninS {prog : Program} {env : Env} {b : Shared} {l r : Expr} {pos : Pos} {c : Nat} {x : List Nat} (ha : EvP prog w A env b l (IsS (ofL [c]))) (hb : EvP prog w A env b r (IsS (ofL x))) (hm : behindInMarks .NotIn r = false := by with_unfolding_all rfl) : EvT prog w A env b (.Compare l [.NotIn] [r] pos) (!decide (c ∈ x)) :=
  evt_compare ha hb (fun u v s E _ hu hv => by
    obtain ⟨t1, rfl⟩ := hu
    obtain ⟨t2, rfl⟩ := hv
    refine P.notIn_str ⟨keeps_refl s, ?_⟩
    exact congrArg Value.bool (congrArg not (StrLaws.found_one (ofL x) c))) hm
theorem signV0 {signs : List Nat} {sys : List Value} (hs : TL (signs.map ([·])) sys) : ∀ (j : Nat) (v : Value), sys[j]? = some v → ∃ a : Nat, signs[j]? = some a ∧ IsS (ofL [a]) v := fun j v e => by
  have hl := all2_length hs
  rw [List.length_map] at hl
  obtain ⟨a, ha, k⟩ := signV hs (k := sys.length) j v (by rw [List.take_length]; exact e)
  rw [← hl, List.take_length] at ha
  exact ⟨a, ha, k⟩
theorem len_le_flatten : ∀ {L : List (List Nat)} {a : List Nat}, a ∈ L → a.length ≤ L.flatten.length
  | x :: L, a, h => by
    rw [List.flatten_cons, List.length_append]
    rcases List.mem_cons.mp h with rfl | h
    · lia
    · have := len_le_flatten h; lia
theorem fits_un : ∀ (ws : List Pr) (x : List Nat), (∀ p ∈ ws, 1 ≤ p.1.length ∧ p.2.length ≤ 1) → x.length ≤ 1000 → Fits ws x ∧ (drep ws x).length ≤ 1000
  | [], x, _, hx => ⟨trivial, hx⟩
  | (y, z) :: ws, x, h, hx => by
    have h1 : 1 ≤ y.length := (h (y, z) List.mem_cons_self).1
    have h2 : z.length ≤ 1 := (h (y, z) List.mem_cons_self).2
    have hy : y ≠ [] := fun e => by rw [e] at h1; simp at h1
    have hle := replL_le y z hy (by lia) _ x (Nat.le_refl _)
    obtain ⟨f, d⟩ := fits_un ws (replL y z x) (fun p hp => h p (List.mem_cons_of_mem _ hp)) (by lia)
    have hsz : sizeLine = 16777216 := by decide
    have hocc : occ x y ≤ x.length + 1 := by
      have h1 := StrLaws.occ_length_le (ofL x) (ofL y) 0 (ofL x).length ((ofL x).length + 1)
      unfold occ
      rw [ofL_length] at h1 ⊢
      exact h1
    refine ⟨⟨hy, ?_, by lia, f⟩, d⟩
    have : occ x y * z.length ≤ 1001 * 1 := Nat.mul_le_mul (by lia) h2
    lia
/- the numbers do -/
noncomputable def NumOK (kind : Nat) (sg : List Nat) (c0 : List (List Nat)) (ds : List Nat) : Prop := (∀ d ∈ ds, d < 10 ^ 18) ∧ ds.length ≤ 1000 ∧ insOK (headF kind sg c0) ds 128 0 ∧ insS (headF kind sg c0) ds 128 0 = wantF kind c0
theorem li_of {ds : List Nat} {ys : List Value} (h : NL (ds.map Int.ofNat) ys) : LI ys.toArray ds := by
  have hl := all2_length h
  rw [List.length_map] at hl
  refine ⟨by simp; lia, fun i d e => ?_⟩
  obtain ⟨v, e', t, rfl⟩ := all2_get h (j := i) (a := Int.ofNat d) (by rw [List.getElem?_map, e]; rfl)
  exact ⟨t, by simpa using e'⟩
theorem cellsF_len (kind : Nat) (c0 : List (List Nat)) : (cellsF kind c0).length = c0.length := by unfold cellsF; split <;> simp
set_option maxHeartbeats 4000000 in
theorem c_job {n kind : Nat} (G : G0 w mean mg mb s) (R : Room A (n + 6)) (ht1 : 1 ≤ s.toks) {sl d : Addr} {sys : List Value} {sn : Nat} {sg : List Nat} {l : List Ent} {ep : Nat} {tk0 : Tok} {ts : List (Nat × List Nat)} {c0 : List (List Nat)}
    (hsl : s.heap.get? sl = some (LO sys sn)) (hs : TL (sg.map ([·])) sys) (hd : s.heap.get? d = some (DO w l ep)) (hdS : (d == sysModules) = false) (hn : (keysOf l).Nodup) (hlz : l.length ≤ 100) (hok : ∀ e ∈ l, OkEnt e ∧ e.t < s.toks) (J : JobOK kind sg (wordsOf l) ts c0) :
    wpG (model PR w) A (call (.ref 131) [.int kind tk0, .ref sl, .ref d]) (fun v s' => Kp s s' ∧ v = .bool true) s := by
  refine callG_fnC (T := fun v _ _ => v = .bool true) f_job G R (by kernel_rfl) (by rfl)
    (binds := [("kind", .int kind tk0), ("signs", .ref sl), ("table", .ref d)]) (m := [("kind", .int kind tk0), ("table", .ref d)]) (cm := [("signs", .ref sl)]) (by rfl) (by rfl) (by rfl) (fun p hp => by rw [List.mem_singleton.mp hp]; rfl) (fun L p hp => ?_) (fun L p hp => ?_) (by decide +kernel) fun L h₁ tk ht S => ?_
  · simp only [List.mem_cons, List.not_mem_nil, or_false] at hp
    rcases hp with rfl | rfl <;> rfl
  · rw [List.mem_singleton.mp hp]; rfl
  have hszl : sizeLine = 16777216 := by decide
  have hres : (A.deeper (callEnvC f_job.val L 131)).handled = none := R.hh
  have hsl1 := all2_length hs
  rw [List.length_map] at hsl1
  have hlen := J.len
  have hpl : (plainF sg).length ≤ 60 := Nat.le_trans (List.length_filter_le _ _) hlen
  have cellS : ∀ {led : List (Addr × Obj)} {m cm : List (Str × Value)} {h : Heap}, cm.lookup ("signs" : Str) = some (.ref sl) → Sta s.heap (callEnvC f_job.val L 131).locals (callEnvC f_job.val L 131).cells m cm led h → h.IsCell (L + 1) (some (.ref sl)) := fun e S => by
    obtain ⟨a1, b1, hk⟩ := S.cell "signs" _ e
    have e1 : (callEnvC f_job.val L 131).cells.lookup ("signs" : Str) = some (L + 1) := rfl
    rw [e1] at b1; cases b1
    exact hk
  have cellC : ∀ {led : List (Addr × Obj)} {m cm : List (Str × Value)} {h : Heap} {u : Value}, cm.lookup ("cells" : Str) = some u → Sta s.heap (callEnvC f_job.val L 131).locals (callEnvC f_job.val L 131).cells m cm led h → h.IsCell (L + 1 + 1) (some u) := fun e S => by
    obtain ⟨a1, b1, hk⟩ := S.cell "cells" _ e
    have e1 : (callEnvC f_job.val L 131).cells.lookup ("cells" : Str) = some (L + 1 + 1) := rfl
    rw [e1] at b1; cases b1
    exact hk
  have hf1 := flat1 sg
  -- text, plain
  refine q_seq (t_assign S (P := IsS (ofL sg)) (by rw [← hf1]; exact ev_joinAt (by rw [hf1]; lia) ev_str (n_cell S rfl rfl) (S.keep _ _ hsl) hs) fun v h tk₁ ht₁ p S => s_nil ?_)
  obtain ⟨t1, rfl⟩ := p
  dsimp only
  have hpj : ((sg.filter fun c : Nat => decide ((c : Int) < 128)).map fun c => [c]).flatten = plainF sg := flat1 _
  refine q_seq (t_assign S (P := IsS (ofL (plainF sg))) (by
    rw [← hpj]
    refine ev_joinT (by rw [hpj]; lia) ev_str ((ev_compPI (V := fun (c : Nat) v => IsS (ofL [c]) v) (U := fun (x : List Nat) v => IsS (ofL x) v) sg (fun c => decide ((c : Int) < 128)) (fun c => [c]) (fun v => (txt v).headD 0) (fun a v hv => by rw [txt_is hv]; rfl) (n := sys.length) hsl1 (signV0 hs) (cl := []) rfl
      (it_L hres (n_cell S rfl rfl) (S.keep _ _ hsl)) (by lia)
      (fun C b' m a v hv ha u hnn hm => tests_one (evt_lt (ev_ord (gbuilt G (S.keeps u.st) rfl rfl rfl) (ev_local hnn hm hv)) ev_int)) (fun C b' m a v hv ha _ u hnn hm => ev_local hnn hm hv) (by decide) rfl (by decide) rfl).mono ?_)
    intro v s₂ s₃ _ _ hq; obtain ⟨nw, hnew, D, ys, k, rfl, rfl, all⟩ := hq
    exact ⟨ys, ⟨D, k, rfl, (hnew.1 _ List.mem_cons_self).1⟩, all⟩) fun v h tk₂ ht₂ p S => s_nil ?_)
  obtain ⟨t2, rfl⟩ := p
  dsimp only
  -- kept
  refine q_seq (t_assignN S (ev_listItems hres (l := l) (gbuilt G S rfl rfl rfl) (n_local S rfl rfl) (S.keep _ _ hd) hdS hn (by lia)) fun v nw h tk₃ ht₃ p S => s_nil ?_)
  obtain ⟨Kp0, kys, kk, knw, rfl, rfl, kall⟩ := p
  dsimp only
  rw [List.append_nil] at S
  -- made, bare
  have hwr : ∀ {x : List Nat} {tx : Tok} {s₃ : Shared} {E : Value → Shared → Prop}, x.length ≤ 60 → G0 w mean mg mb s₃ → Up s s₃ → (kind = 1 → Fits (wordsOf l) (escL x)) → (kind = 2 → Fits (mergeW (wordsOf l) white) (escL x)) → (kind = 2 → ∀ y, y = drep (mergeW (wordsOf l) white) (escL x) → y.length + y.count 34 * 6 ≤ 10000000) →
      wpAny (model PR w) (A.deeper (callEnvC f_job.val L 131)) (call (.ref 111) [.int kind tk0, .str (ofL x) tx, .ref d]) (fun v s' => Keeps s₃ s' ∧ IsS (ofL (writeF kind (wordsOf l) x)) v) E s₃ := fun hx G₃ u f1 f2 z2 =>
    c_write (n := n) G₃ (R.deeper.le (by lia)) (Nat.le_trans ht1 u.tk) (u.st _ _ hd) hdS hn hlz (fun e he => ⟨(hok e he).1, Nat.lt_of_lt_of_le (hok e he).2 u.tk⟩) (by lia) f1 f2 J.k2 z2
  refine q_seq (t_assign S (P := IsS (ofL (wantF kind c0))) (by
    rw [← J.text]
    refine ev_fn f_write back_P G S (by ktr_room) rfl (args3 (Pa := (· = .int kind tk0)) (Pb := IsS (ofL sg)) (Pc := (· = .ref d)) (n_local S rfl rfl) (n_local S rfl ⟨_, rfl⟩) (n_local S rfl rfl)) fun vs s₂ s₃ E u u' G₃ hv => ?_
    obtain ⟨v1, v2, v3, rfl, rfl, ⟨ta, rfl⟩, rfl⟩ := hv
    exact hwr hlen G₃ ((Up.mk S.keep (by ktr_room)).trans (u.trans u')) (fun e => (J.f1 e).1) (fun e => (J.f2 e).1) (fun e y hy => J.z2 e y (.inl hy))) fun v h tk₄ ht₄ p S => s_nil ?_)
  obtain ⟨t3, rfl⟩ := p
  dsimp only
  refine q_seq (t_assign S (P := IsS (ofL (headF kind sg c0))) (by
    rw [← J.plain]
    refine ev_fn f_write back_P G S (by ktr_room) rfl (args3 (Pa := (· = .int kind tk0)) (Pb := IsS (ofL (plainF sg))) (Pc := (· = .ref d)) (n_local S rfl rfl) (n_local S rfl ⟨_, rfl⟩) (n_local S rfl rfl)) fun vs s₂ s₃ E u u' G₃ hv => ?_
    obtain ⟨v1, v2, v3, rfl, rfl, ⟨ta, rfl⟩, rfl⟩ := hv
    exact hwr hpl G₃ ((Up.mk S.keep (by ktr_room)).trans (u.trans u')) (fun e => (J.f1 e).2) (fun e => (J.f2 e).2) (fun e y hy => J.z2 e y (.inr hy))) fun v h tk₅ ht₅ p S => s_nil ?_)
  obtain ⟨t4, rfl⟩ := p
  dsimp only
  -- cells
  refine q_seq (t_assignC S (P := fun v nw => ∃ C cys k, v = .ref C ∧ nw = [(C, LO cys k)] ∧ TL c0 cys) (ev_fn f_cells back_N G S (by ktr_room) rfl (args_consT (T := fun v _ _ => v = .ref sl) (n_cell S rfl rfl) (args_consT (T := fun v _ s' => ∃ D ys k, v = .ref D ∧ s'.heap.get? D = some (LO ys k) ∧ PL s'.heap IsTurn ts ys)
      (ev_ifexp (fun _ _ _ _ _ x => x) (c := (kind : Int) != 0) (evt_of (P := IsI kind) (n_local S rfl ⟨_, rfl⟩) truth_int) (fun hc => ?_) fun hc => ?_) args0)) fun vs s₂ s₃ E u u' G₃ hv => ?_) fun v nw h tk₆ ht₆ p S => s_nil ?_)
  · refine ev_fn f_turns (fun _ _ _ _ _ x => x) G S (by ktr_room) rfl (args2 (Pa := (· = .ref d)) (Pb := (· = .bool ((kind : Int) == 2))) (n_local S rfl rfl) (ev_eqI (n_local S rfl ⟨_, rfl⟩) ev_int)) fun vs s₂ s₃ E u u' G₃ hv => ?_
    obtain ⟨v1, v2, rfl, rfl, rfl⟩ := hv
    refine wpAny_mono (c_turns (n := n) G₃ (R.deeper.le (by lia)) (u'.st _ _ (u.st _ _ (S.keep _ _ hd))) hdS hn hlz) (fun v s' q => ?_) fun _ _ e => e
    obtain ⟨kp, D, ys, k, nw, rfl, hnew, all⟩ := q
    have hk0 : kind ≠ 0 := by rintro rfl; simp at hc
    have hkb : ((kind : Int) == 2) = (kind == 2) := by
      rw [Bool.eq_iff_iff]; simp; lia
    rw [hkb, J.turns hk0] at all
    exact ⟨kp, D, ys, k, rfl, (hnew.1 _ List.mem_cons_self).1, all2_map (pl_of all fun p hp => (hnew.1 p (List.mem_cons_of_mem _ hp)).1)⟩
  · have hk0 : kind = 0 := by
      have : ((kind : Int) != 0) = false := hc
      simp at this; lia
    refine (ev_list args0 (fun vs e => by rw [e]; decide)).mono ?_
    intro v s₂ s₃ _ _ hq; obtain ⟨nw, hnew, t, vs, rfl, rfl, rfl⟩ := hq
    exact ⟨t, [], 0, rfl, (hnew.1 _ List.mem_cons_self).1, by rw [J.turns0 hk0]; trivial⟩
  · obtain ⟨v1, r, s4, rfl, k1, k2, rfl, v2, r2, s5, rfl, k3, k4, ⟨D, ys, k, rfl, hD, hP⟩, rfl⟩ := hv
    refine wpAny_mono (c_cells (n := n) G₃ (R.deeper.le (by lia)) (u'.st _ _ (u.st _ _ (S.keep _ _ hsl))) hs (k4.up.st _ _ hD) (hP.up k4.up.st) J.hz (by lia)) (fun v s' q => ?_) fun _ _ e => e
    obtain ⟨kp, D', ys', k', rfl, hnew, all⟩ := q
    exact ⟨kp, _, hnew.back u'.st, D', ys', k', rfl, rfl, by rw [J.hc0]; exact all⟩
  obtain ⟨C, cys, ck, rfl, rfl, hcy⟩ := p
  dsimp only
  refine q_seq (t_assign S (P := IsS (ofL [])) ev_str fun v h tk₇ ht₇ p S => s_nil ?_)
  obtain ⟨t5, rfl⟩ := p
  dsimp only
  have S := sre (m' := [("mark", .str (ofL []) t5), ("bare", .str (ofL (headF kind sg c0)) t4), ("made", .str (ofL (wantF kind c0)) t3), ("kept", .ref Kp0), ("plain", .str (ofL (plainF sg)) t2), ("text", .str (ofL sg) t1), ("kind", .int kind tk0), ("table", .ref d)]) S ⟨rfl, rfl, rfl, rfl, rfl, rfl, rfl, rfl, trivial⟩ (cm' := [("cells", .ref C), ("signs", .ref sl)]) ⟨rfl, rfl, trivial⟩
  -- mark
  refine q_seq (t_ifj (fun h tk => ∃ tm C cys ck led, Sta s.heap (callEnvC f_job.val L 131).locals (callEnvC f_job.val L 131).cells [("mark", .str (ofL (markF kind c0)) tm), ("bare", .str (ofL (headF kind sg c0)) t4), ("made", .str (ofL (wantF kind c0)) t3), ("kept", .ref Kp0), ("plain", .str (ofL (plainF sg)) t2), ("text", .str (ofL sg) t1), ("kind", .int kind tk0), ("table", .ref d)] [("cells", .ref C), ("signs", .ref sl)] led h ∧
      (C, LO cys ck) ∈ led ∧ TL (cellsF kind c0) cys ∧ (Kp0, LO kys kk) ∈ led ∧ ∀ p ∈ knw, p ∈ led) S (c := (kind : Int) == 2) (evt_eqI (n_local S rfl ⟨_, rfl⟩) ev_int) (fun hc h tk₈ E4 ht₈ S => ?_) (fun hc h tk₈ E4 ht₈ S => ?_) fun h tk₈ ht₈ hK => s_nil ?_)
  · have hk2 : kind = 2 := by have := eq_of_beq hc; lia
    have hCl := (S.objs (C, LO cys ck) (by simp)).1
    refine t_assign S (P := IsS (ofL c0.flatten)) (ev_joinAt (Nat.le_trans J.cz0 (by lia)) ev_str (n_cell S rfl rfl) hCl hcy) fun v h tk₉ ht₉ p S => ?_
    obtain ⟨tw, rfl⟩ := p
    refine t_assign S (P := IsS (ofL (markF kind c0))) (ev_ifexp back_P (evt_and (evt_inS (c := 34) ev_str (n_local S rfl ⟨_, rfl⟩)) fun _ => evt_ninS (c := 39) ev_str (n_local S rfl ⟨_, rfl⟩)) (fun hc => ?_) fun hc => ?_) fun v h tk₁₀ ht₁₀ p S => ?_
    · have e : markF kind c0 = [39] := by
        rw [Bool.and_eq_true, Bool.not_eq_true', decide_eq_true_eq, decide_eq_false_iff_not] at hc
        unfold markF; rw [if_pos hk2, if_pos hc]
      rw [e]; exact ev_str
    · have e : markF kind c0 = [34] := by
        have : ¬ (34 ∈ c0.flatten ∧ 39 ∉ c0.flatten) := fun q => by
          rw [decide_eq_true q.1, decide_eq_false q.2] at hc; simp at hc
        unfold markF; rw [if_pos hk2, if_neg this]
      rw [e]; exact ev_str
    obtain ⟨tm, rfl⟩ := p
    refine t_ift S (evt_and (evt_inS (c := 34) ev_str (n_local S rfl ⟨_, rfl⟩)) fun _ => evt_inS (c := 39) ev_str (n_local S rfl ⟨_, rfl⟩)) (fun hc h tk₁₁ ht₁₁ S => ?_) fun hc h tk₁₁ ht₁₁ S => ?_
    · rw [Bool.and_eq_true, decide_eq_true_eq, decide_eq_true_eq] at hc
      have ecf : cellsF kind c0 = c0.map (rep 34 quot) := by unfold cellsF; rw [if_pos ⟨hk2, hc⟩]
      have hCl2 := (S.objs (C, LO cys ck) (by simp)).1
      refine t_assignC S (P := fun v nw => ∃ C cys k, v = .ref C ∧ nw = [(C, LO cys k)] ∧ TL (cellsF kind c0) cys) ((ev_compPI (V := fun (x : List Nat) v => IsS (ofL x) v) (U := fun (x : List Nat) v => IsS (ofL x) v) c0 (fun _ => true) (rep 34 quot) txt (fun a v hv => txt_is hv) (n := cys.length) (all2_length hcy) (fun j v e => ?_) (cl := []) rfl
        (it_L hres (n_cell S rfl rfl) hCl2) ?_
        (fun C b' m a v hv ha u hnn hm => tests_nil) (fun C b' m a v hv ha _ u hnn hm => ?_) (by decide) rfl (by decide) rfl).mono ?_) fun v nw h tk₁₂ ht₁₂ p S => s_nil (s_nil ?_)
      · have hlt : j < c0.length := by rw [all2_length hcy]; exact (List.getElem?_eq_some_iff.mp e).1
        obtain ⟨v', e', k⟩ := all2_get hcy (List.getElem?_eq_getElem hlt)
        rw [e] at e'; cases e'
        exact ⟨_, List.getElem?_eq_getElem hlt, k⟩
      · rw [← all2_length hcy, J.hc0, List.length_map]; lia
      · obtain ⟨ta, rfl⟩ := hv
        have hz := J.cz1 a ha
        have ej : ((a.filter (fun _ => true)).map fun d => if d = 34 then quot else [d]).flatten = rep 34 quot a := by
          rw [List.filter_eq_self.mpr (fun _ _ => rfl)]; rfl
        have haz : a.length ≤ 10000000 := by
          have h2 := len_le_flatten ha
          have := J.cz0
          lia
        rw [← ej] at hz ⊢
        refine ev_join (by lia) ev_str (ev_compP (V := fun d v => IsS (ofL [d]) v) (U := fun y v => IsS (ofL y) v) a (fun _ => true) (fun d => if d = 34 then quot else [d]) (fun v => (txt v).headD 0)
          (fun a v hv => by rw [txt_is hv]; rfl) (n := a.length) rfl (signAt_ofL a) (cl := []) rfl (ev_local hnn hm rfl) (iter_str hres (ofL a) ta) (by lia)
          (fun C b' m a v hv _ u hn hm => tests_nil) (fun C b' m a v hv _ _ u hn hm => ?_) (by decide) rfl (by decide) rfl)
        refine ev_ifexp back_P (c := ([a] == [34])) (evt_eqS (ev_local hn hm hv) ev_str) (fun hc => ?_) fun hc => ?_
        · have : a = 34 := by simpa using hc
          rw [if_pos this]
          exact ev_str
        · have : a ≠ 34 := by simpa using hc
          rw [if_neg this]
          exact ev_local hn hm hv
      · intro v s₂ s₃ _ _ hq; obtain ⟨nw, hnew, D, ys, k, rfl, rfl, all⟩ := hq
        rw [List.filter_eq_self.mpr (fun _ _ => rfl), ← ecf] at all
        exact ⟨_, hnew, D, ys, k, rfl, rfl, all2_map (f := id) (by rw [List.map_id]; exact all)⟩
      obtain ⟨C', cys', ck', rfl, rfl, hcy'⟩ := p
      refine ⟨h, tk₁₂, rfl, rfl, by ktr_room, tm, C', cys', ck', _, sre (m' := [("mark", .str (ofL (markF kind c0)) tm), ("bare", .str (ofL (headF kind sg c0)) t4), ("made", .str (ofL (wantF kind c0)) t3), ("kept", .ref Kp0), ("plain", .str (ofL (plainF sg)) t2), ("text", .str (ofL sg) t1), ("kind", .int kind tk0), ("table", .ref d)]) S ⟨rfl, rfl, rfl, rfl, rfl, rfl, rfl, rfl, trivial⟩ (cm' := [("cells", .ref C'), ("signs", .ref sl)]) ⟨rfl, rfl, trivial⟩, by simp, hcy', by simp, fun p hp => by simp [hp]⟩
    · have ecf : cellsF kind c0 = c0 := by
        unfold cellsF; rw [if_neg]
        intro hq; obtain ⟨_, q1, q2⟩ := hq
        rw [decide_eq_true q1, decide_eq_true q2] at hc; simp at hc
      refine s_nil ⟨h, tk₁₁, rfl, rfl, by ktr_room, tm, C, cys, ck, _, sre (m' := [("mark", .str (ofL (markF kind c0)) tm), ("bare", .str (ofL (headF kind sg c0)) t4), ("made", .str (ofL (wantF kind c0)) t3), ("kept", .ref Kp0), ("plain", .str (ofL (plainF sg)) t2), ("text", .str (ofL sg) t1), ("kind", .int kind tk0), ("table", .ref d)]) S ⟨rfl, rfl, rfl, rfl, rfl, rfl, rfl, rfl, trivial⟩ (cm' := [("cells", .ref C), ("signs", .ref sl)]) ⟨rfl, rfl, trivial⟩, by simp, by rw [ecf]; exact hcy, by simp, fun p hp => by simp [hp]⟩
  · have hk2 : kind ≠ 2 := by rintro rfl; simp at hc
    have em : markF kind c0 = [] := by unfold markF; rw [if_neg hk2]
    have ecf : cellsF kind c0 = c0 := by unfold cellsF; rw [if_neg (fun q => hk2 q.1)]
    refine s_nil ⟨h, tk₈, rfl, rfl, by ktr_room, t5, C, cys, ck, [(C, LO cys ck)] ++ ((Kp0, LO kys kk) :: knw), ?_, by simp, by rw [ecf]; exact hcy, by simp, fun p hp => by simp [hp]⟩
    rw [em]; exact S
  obtain ⟨tm, C₂, cys₂, ck₂, led, S, hC₂, hcy₂, hKp, hknw⟩ := hK
  dsimp only
  have hCl := (S.objs _ hC₂).1
  have hcl2 := all2_length hcy₂
  have hcfl : (cellsF kind c0).length = sg.length := by rw [cellsF_len, J.hc0, List.length_map]
  have hKl := (S.objs _ hKp).1
  have hwz := J.wz
  have hpz := J.pz
  have hwl : (wantF kind c0).length = (markF kind c0).length + (cellsF kind c0).flatten.length + (markF kind c0).length := by unfold wantF; rw [List.length_append, List.length_append]
  have hhl : (headF kind sg c0).length = (markF kind c0).length + (pick sg (cellsF kind c0)).flatten.length + (markF kind c0).length := by unfold headF; rw [List.length_append, List.length_append]
  -- want
  refine q_seq (t_assign S (P := IsS (ofL (markF kind c0 ++ (cellsF kind c0).flatten ++ markF kind c0))) (ev_addS (ev_addS (n_local S rfl ⟨_, rfl⟩) (ev_joinAt (by lia) ev_str (n_cell S rfl rfl) hCl hcy₂) (by rw [List.length_append]; lia)) (n_local S rfl ⟨_, rfl⟩) (by rw [List.length_append, List.length_append]; lia)) fun v h tk₉ ht₉ p S => s_nil ?_)
  obtain ⟨t6, rfl⟩ := p
  dsimp only
  -- head
  refine q_seq (t_assign S (P := IsS (ofL (markF kind c0 ++ (pick sg (cellsF kind c0)).flatten ++ markF kind c0))) (ev_addS (ev_addS (n_local S rfl ⟨_, rfl⟩) (ev_joinT (by lia) ev_str ((ev_compPI (V := fun (i : Nat) v => IsI i v) (U := fun (x : List Nat) v => IsS (ofL x) v) (List.range sg.length) (fun i => decide (((sg.getD i 0 : Nat) : Int) < 128)) (fun i => (cellsF kind c0).getD i []) intOf (fun a v hv => intOf_is hv) (n := sg.length) (by simp) rangeV (cl := [("signs", L + 1), ("cells", L + 1 + 1)]) rfl
      (it_range hres (gbuilt G S rfl rfl rfl) (by rw [hsl1]; exact ev_lenAt (gbuilt G S rfl rfl rfl) (n_cell S rfl rfl) (S.keep _ _ hsl) (by lia)) (by lia)) (by lia)
      (fun C b' m a v hv ha u hnn hm => ?_) (fun C b' m a v hv ha _ u hnn hm => ?_) (by decide) rfl (by decide) rfl).mono ?_)) (by rw [List.length_append]; lia)) (n_local S rfl ⟨_, rfl⟩) (by rw [List.length_append, List.length_append]; lia)) fun v h tk₁₀ ht₁₀ p S => s_nil ?_)
  · obtain ⟨y, hy, ky⟩ := tl_sign hs (List.mem_range.mp ha)
    have ha' := List.mem_range.mp ha
    have hcs := (cellS rfl S).keeps u.st
    exact tests_one (evt_lt (ev_ord (gbuilt G (S.keeps u.st) rfl rfl rfl) ((ev_itemL (ev_cell rfl hcs rfl) (u.st _ _ (S.keep _ _ hsl)) (ev_local hnn hm hv) hy (by lia)).mono fun v _ _ _ _ e => by rw [e]; exact ky)) ev_int)
  · have ha' := List.mem_range.mp ha
    obtain ⟨y, hy, ky⟩ := tl_at hcy₂ (i := a) (by lia)
    have hcc := (cellC rfl S).keeps u.st
    have hC3 := (S.objs _ hC₂).1
    exact (ev_itemL (ev_cell rfl hcc rfl) (u.st _ _ hC3) (ev_local hnn hm hv) hy (by lia)).mono fun v _ _ _ _ e => by rw [e]; exact ky
  · intro v s₂ s₃ _ _ hq; obtain ⟨nw, hnew, D, ys, k, rfl, rfl, all⟩ := hq
    exact ⟨ys, ⟨D, k, rfl, (hnew.1 _ List.mem_cons_self).1⟩, all⟩
  obtain ⟨t7, rfl⟩ := p
  dsimp only
  have S := sre (m' := [("head", .str (ofL (headF kind sg c0)) t7), ("want", .str (ofL (wantF kind c0)) t6), ("mark", .str (ofL (markF kind c0)) tm), ("bare", .str (ofL (headF kind sg c0)) t4), ("made", .str (ofL (wantF kind c0)) t3), ("kept", .ref Kp0), ("plain", .str (ofL (plainF sg)) t2), ("text", .str (ofL sg) t1), ("kind", .int kind tk0), ("table", .ref d)]) S ⟨rfl, rfl, rfl, rfl, rfl, rfl, rfl, rfl, rfl, rfl, trivial⟩ (cm' := [("cells", .ref C₂), ("signs", .ref sl)]) ⟨rfl, rfl, trivial⟩
  have hu8 : (A.deeper (callEnvC f_job.val L 131)).units + 8 < cLine := by
    have h1 := R.deeper (env := callEnvC f_job.val L 131) |>.hu
    have h2 : cLine = 9900 := by rfl
    lia
  -- the first test
  refine gt_ift S (c := (wantF kind c0 != wantF kind c0 || headF kind sg c0 != headF kind sg c0 || false)) (evt_or3 (evt_neS (n_local S rfl ⟨_, rfl⟩) (n_local S rfl ⟨_, rfl⟩)) (fun _ => evt_neS (n_local S rfl ⟨_, rfl⟩) (n_local S rfl ⟨_, rfl⟩)) fun _ _ => evt_neItems (l := l) hu8 (ev_listItems hres (gbuilt G S rfl rfl rfl) (n_local S rfl rfl) (S.keep _ _ hd) hdS hn (by lia)) (n_local S rfl rfl) (S.objs _ hKp).1 (pl_of kall fun p hp => (S.objs p (hknw p hp)).1)) (fun e => by simp at e) fun _ h tk₁₁ ht₁₁ S => ?_
  -- row
  refine gt_assign S (P := fun v => ∃ ds, NumOK kind sg c0 ds ∧ IsY ((giN (headF kind sg c0).length ds 0 72).map (·.toUInt8)).toArray v) ?_ fun v h tk₁₂ ht₁₂ p S => ?_
  · have Gb := G.up (s' := { s with heap := h, toks := tk₁₁ }) ⟨S.keep, by ktr_room⟩
    obtain ⟨o, ho, hd'⟩ := fn_obj (f_gi.property w)
    refine q_evalCall (gdef G S rfl rfl) (.fn 76 o _ (Gb.X _ _ ho) hd') (args_consT (T := fun v _ _ => IsI (headF kind sg c0).length v) (ev_lenS (gbuilt G S rfl rfl rfl) (n_local S rfl ⟨_, rfl⟩) (by lia)) (args_consT (T := fun v _ s' => ∃ (ds : List Nat) (D : Addr) (ys : List Value) (k : Nat), v = .ref D ∧ s'.heap.get? D = some (LO ys k) ∧ NL (ds.map Int.ofNat) ys ∧ NumOK kind sg c0 ds)
      (ev_fn f_nums (fun _ _ _ _ _ x => x) G S (by ktr_room) rfl (args4 (Pa := (· = .ref sl)) (Pb := (· = .ref C₂)) (Pc := IsI (((headF kind sg c0).length : Int) - (plainF sg).length)) (Pd := IsI ((markF kind c0).length : Nat)) (n_cell S rfl rfl) (n_cell S rfl rfl) (ev_sub (ev_lenS (gbuilt G S rfl rfl rfl) (n_local S rfl ⟨_, rfl⟩) (by lia)) (ev_lenS (gbuilt G S rfl rfl rfl) (n_local S rfl ⟨_, rfl⟩) (by lia))) (ev_lenS (gbuilt G S rfl rfl rfl) (n_local S rfl ⟨_, rfl⟩) (by lia))) fun vs s₂ s₃ E u u' G₃ hv => ?_) args0)) fun vs s₁ s₂ k₁ k₂ hv => ?_
    · obtain ⟨v1, v2, v3, v4, rfl, rfl, rfl, ⟨ta, rfl⟩, ⟨tb, rfl⟩⟩ := hv
      have hC3 := (S.objs _ hC₂).1
      refine wpAny_mono (c_numbers (n := n) G₃ (R.deeper.le (by lia)) (u'.st _ _ (u.st _ _ (S.keep _ _ hsl))) hs (u'.st _ _ (u.st _ _ hC3)) hcy₂ hcfl hlen J.cz J.cod) (fun v s' q => ?_) fun _ _ e => e
      obtain ⟨kp, D, ys, k, order, rfl, hnew, perm, pw, all⟩ := q
      obtain ⟨ds, e, h1, h2, h3, h4⟩ := J.nums order perm pw
      rw [e] at all
      exact ⟨kp, ds, D, ys, k, rfl, (hnew.1 _ List.mem_cons_self).1, all, h1, h2, h3, h4⟩
    · obtain ⟨v1, r, s4, rfl, k3, k4, ⟨ta, rfl⟩, v2, r2, s5, rfl, k5, k6, ⟨ds, D, ys, k, rfl, hD, hNL, hds⟩, rfl⟩ := hv
      exact g_mono (c_gi (n := n) (Gb.up (k₁.trans k₂).up) (R.deeper.le (by lia)) (isList_LO (k6.up.st _ _ hD)) (li_of hNL) hds.1 (by lia) hds.2.1) fun v s' q => ⟨(k₁.trans k₂).trans q.1, ds, hds, q.2⟩
  obtain ⟨ds, ⟨hd1, hd2, hd3, hd4⟩, tr, rfl⟩ := p
  have hgl := giN_length (headF kind sg c0).length ds 0 72 hd1
  have hgc := gi_chars (headF kind sg c0).length ds 0 72
  -- isinstance
  refine gt_ift S (c := !true) (evt_not (evt_of (ev_isi (c := true) (T := "bytes") (Pe := IsY ((giN (headF kind sg c0).length ds 0 72).map (·.toUInt8)).toArray) (gbuilt G S rfl rfl rfl) (n_local S rfl ⟨_, rfl⟩) (gbuilt G S rfl rfl rfl) fun v s E hq7 => by obtain ⟨t, e⟩ := hq7; rw [e]; exact isi_true (by kernel_rfl) sub_bb (typeIs_bytes _ _ _) ⟨keeps_refl s, rfl⟩) truth_bool)) (fun e => by simp at e) fun _ h tk₁₃ ht₁₃ S => ?_
  refine g_any ?_
  -- back
  have hrow : ((giN (headF kind sg c0).length ds 0 72).map fun c => [c]).flatten = giN (headF kind sg c0).length ds 0 72 := flat1 _
  have hpt : (if headF kind sg c0 = [] then [] else headF kind sg c0 ++ [45]) ++ giN (headF kind sg c0).length ds 0 72 = punyT (headF kind sg c0) (giN (headF kind sg c0).length ds 0 72) := by
    unfold punyT
    split
    · rfl
    · simp
  refine t_assign S (P := IsS (ofL (wantF kind c0))) ?_ fun v h tk₁₄ ht₁₄ p S => ?_
  · rw [← hd4]
    refine ev_fn f_pd back_P G S (by ktr_room) rfl (args2 (Pa := IsS (ofL ((if headF kind sg c0 = [] then [] else headF kind sg c0 ++ [45]) ++ giN (headF kind sg c0).length ds 0 72))) (Pb := IsS "strict") (ev_addS (ev_ifexp back_P (c := !(headF kind sg c0).isEmpty) (evt_of (n_local S rfl ⟨_, rfl⟩) (truth_strL (by lia))) (fun hc => ?_) fun hc => ?_) (by
        rw [← hrow]
        refine ev_joinT (by rw [hrow]; lia) ev_str ((ev_compPI (V := fun (c : Nat) v => IsI c v) (U := fun (x : List Nat) v => IsS (ofL x) v) (giN (headF kind sg c0).length ds 0 72) (fun _ => true) (fun c => [c]) intOf (fun a v hv => intOf_is hv) (n := (giN (headF kind sg c0).length ds 0 72).length) rfl (fun j v e => e) (cl := []) rfl
          (it_of (n_local S rfl rfl) (iter_bytes hres _ (fun c hc => by have := (hgc c hc).1; lia) tr)) (by lia)
          (fun C b' m a v hv ha u hnn hm => tests_nil) (fun C b' m a v hv ha _ u hnn hm => ?_) (by decide) rfl (by decide) rfl).mono ?_)
        · have := (hgc a ha).1
          exact ev_chr (gbuilt G (S.keeps u.st) rfl rfl rfl) (ev_local hnn hm hv) (by lia)
        · intro v s₂ s₃ _ _ hq; obtain ⟨nw, hnew, D, ys, k, rfl, rfl, all⟩ := hq
          rw [List.filter_eq_self.mpr (fun _ _ => rfl)] at all
          exact ⟨ys, ⟨D, k, rfl, (hnew.1 _ List.mem_cons_self).1⟩, all⟩) (by
        rw [List.length_append]
        split
        · simp; lia
        · rw [List.length_append]; simp; lia)) ev_str) fun vs s₂ s₃ E u u' G₃ hv => ?_
    · have hne : headF kind sg c0 ≠ [] := by rintro e; rw [e] at hc; simp at hc
      rw [if_neg hne]
      exact ev_addS (n_local S rfl ⟨_, rfl⟩) ev_str (by rw [List.length_append]; simp; lia)
    · have he : headF kind sg c0 = [] := by cases hh : headF kind sg c0 <;> simp_all
      rw [if_pos he]
      exact ev_str
    · obtain ⟨v1, v2, rfl, ⟨ta, rfl⟩, ⟨tb, rfl⟩⟩ := hv
      rw [hpt]
      exact wpAny_mono (c_pd (n := n) G₃ (R.deeper.le (by lia)) hd3 J.asc (by lia) hd1 hd2) (fun v s' q => q) fun _ _ e => e.elim
  obtain ⟨t8, rfl⟩ := p
  refine t_ift S (c := (wantF kind c0 != wantF kind c0)) (evt_neS (n_local S rfl ⟨_, rfl⟩) (n_local S rfl ⟨_, rfl⟩)) (fun e => by simp at e) fun _ h tk₁₅ ht₁₅ S => ?_
  have hupS : ∀ {h : Heap} {tkk : Nat} {s₂ : Shared} {led : List (Addr × Obj)} {m cm : List (Str × Value)}, Sta s.heap (callEnvC f_job.val L 131).locals (callEnvC f_job.val L 131).cells m cm led h → s.toks ≤ tkk → Up { s with heap := h, toks := tkk } s₂ → Up s s₂ := fun S ht u => (Up.mk S.keep ht : Up s { s with heap := _, toks := _ }).trans u
  -- unescape without a table
  refine t_ift S (evt_and (evt_eqI (n_local S rfl ⟨_, rfl⟩) ev_int) fun _ => evt_not (evt_of (P := (· = .ref d)) (n_local S rfl rfl) (truth_dict (S.keep _ _ hd) hdS hn (by lia)))) (fun hc h tk₁₆ ht₁₆ S => ?_) fun _ h tk₁₆ ht₁₆ S => ?_
  · rw [Bool.and_eq_true] at hc
    have hk1 : kind = 1 := by have := eq_of_beq hc.1; lia
    have hl0 : l = [] := by have := hc.2; cases l <;> simp_all
    obtain ⟨q1, q2⟩ := J.un1 hk1 (by rw [hl0]; rfl)
    refine t_return (T := fun v _ _ => v = .bool true) ?_ fun v h tk _ st p => ⟨⟨_, _, rfl, stays_trans S.keep st⟩, p⟩
    refine (ev_eqS (x := unL [] (wantF kind c0)) (y := sg) (ev_fn f_unescape back_P G S (by ktr_room) rfl (args1 (Pa := IsS (ofL (wantF kind c0))) (n_local S rfl ⟨_, rfl⟩)) fun vs s₂ s₃ E u u' G₃ hv => ?_) (n_local S rfl ⟨_, rfl⟩)).mono fun v _ _ _ _ e => by rw [e, q1, beq_self_eq_true]
    obtain ⟨v1, rfl, ⟨ta, rfl⟩⟩ := hv
    have hup := hupS S (by ktr_room) (u.trans u')
    have hfu := fits_un [] (replL gt [62] (replL lt [60] (wantF kind c0))) (fun _ h => nomatch h) (by
      have h1 := replL_le gt [62] (by decide) (by decide) _ (replL lt [60] (wantF kind c0)) (Nat.le_refl _)
      have h2 := replL_le lt [60] (by decide) (by decide) _ (wantF kind c0) (Nat.le_refl _)
      lia)
    exact c_unescapeG (tx := ta) (l := []) G₃ (n := n) (R.deeper.le (by lia)) (Nat.le_trans ht1 hup.tk) (binds_unescape G₃) (dict_31 G₃) (by decide) (by decide) (by decide) (fun _ h => nomatch h) q2 hfu.1 (Nat.le_trans hfu.2 (by decide))
  refine t_ift S (evt_and (evt_eqI (n_local S rfl ⟨_, rfl⟩) ev_int) fun _ => evt_not (evt_of (P := (· = .ref d)) (n_local S rfl rfl) (truth_dict (S.keep _ _ hd) hdS hn (by lia)))) (fun hc h tk₁₇ ht₁₇ S => ?_) fun _ h tk₁₇ ht₁₇ S => ?_
  · rw [Bool.and_eq_true] at hc
    have hk2 : kind = 2 := by have := eq_of_beq hc.1; lia
    have hl0 : l = [] := by have := hc.2; cases l <;> simp_all
    obtain ⟨q1, q2, q3⟩ := J.un2 hk2 (by rw [hl0]; rfl)
    refine t_return (T := fun v _ _ => v = .bool true) ?_ fun v h tk _ st p => ⟨⟨_, _, rfl, stays_trans S.keep st⟩, p⟩
    refine (ev_eqS (x := unL unD (midL (wantF kind c0))) (y := sg) (ev_fn f_unescape back_P G S (by ktr_room) rfl (args_consT (T := fun v _ _ => IsS (ofL (midL (wantF kind c0))) v) (ev_sliceIn (n_local S rfl ⟨_, rfl⟩) ev_int (ev_neg ev_int) q2 (by lia)) (args_consT (ev_dictC4 (x1 := nl10) (z1 := [10]) (x2 := nl13) (z2 := [13]) (x3 := nl9) (z3 := [9]) (x4 := quot) (z4 := [34]) (fun b => ev_strF) (fun b => ev_strF) (fun b => ev_strF) (fun b => ev_strF) (fun b => ev_strF) (fun b => ev_strF) (fun b => ev_strF) (fun b => ev_strF) (by decide)) args0)) fun vs s₂ s₃ E u u' G₃ hv => ?_) (n_local S rfl ⟨_, rfl⟩)).mono fun v _ _ _ _ e => by rw [e, q1, beq_self_eq_true]
    obtain ⟨v1, r, s4, rfl, k1, k2, ⟨ta, rfl⟩, v2, r2, s5, rfl, k3, k4, ⟨d', ep', l', rfl, hsz', hnew, hw, hfr⟩, rfl⟩ := hv
    have hup := hupS S (by ktr_room) (u.trans k1.up)
    have hupA := hupS S (by ktr_room) (u.trans u')
    have hml : (midL (wantF kind c0)).length ≤ 1000 := by
      unfold midL
      rw [List.length_take, List.length_drop]; lia
    have hfu := fits_un unD (replL gt [62] (replL lt [60] (midL (wantF kind c0)))) (by decide) (by
      have h1 := replL_le gt [62] (by decide) (by decide) _ (replL lt [60] (midL (wantF kind c0))) (Nat.le_refl _)
      have h2 := replL_le lt [60] (by decide) (by decide) _ (midL (wantF kind c0)) (Nat.le_refl _)
      lia)
    have hkl : (keysOf l').Nodup := by rw [keys_words, hw]; decide
    have hl4 : l'.length = 4 := by
      have := congrArg List.length hw
      simpa [wordsOf, unD] using this
    have ew : unL unD (midL (wantF kind c0)) = unL (wordsOf l') (midL (wantF kind c0)) := by rw [hw]; rfl
    rw [ew]
    have hw' : wordsOf l' = unD := hw
    refine c_unescapeG (tx := ta) (l := l') G₃ (n := n) (R.deeper.le (by lia)) (Nat.le_trans ht1 hupA.tk) (binds_unescape2 G₃) (k4.up.st _ _ (hnew.1 _ List.mem_cons_self).1) (notSys ((big_G G).up hup.st) hsz') hkl (by lia) (fun e he => ?_) hml (by rw [hw']; exact hfu.1) (by rw [hw']; exact Nat.le_trans hfu.2 (by decide))
    obtain ⟨a1, a2, a3⟩ := hfr e he
    have a5 : 1 ≤ e.t := Nat.le_trans ht1 (Nat.le_trans hup.tk a1)
    exact ⟨Nat.ne_of_gt a5, Nat.ne_of_gt (Nat.lt_of_lt_of_le a5 (Nat.le_of_lt a2)), Nat.ne_of_lt a2⟩
  refine t_return (T := fun v _ _ => v = .bool true) ev_bool fun v h tk _ st p => ⟨⟨_, _, rfl, stays_trans S.keep st⟩, p⟩
end
end

/- F17 -/
/- a comprehension over triples, in a clean stack -/
section
open PySem PySem.W PyProof.Rows PySem.Calls
section
variable {α : Type} {M : Model} {A : Around} {s : Shared}
theorem g_attempt {m : Sem α} {Q : Except Value α → Shared → Prop} (h : wpG M A m (fun a s' => Q (.ok a) s') s) : wpG M A m.attempt Q s := fun Γ p hΓ c b => by
  rw [Sem.wp_attempt]
  exact Sem.wp_mono M Γ m (fun _ _ _ q => q) (fun _ _ _ e => e.elim) p s (h Γ p hΓ c b)
end
section
variable {M : Model} {A : Around} {s : Shared} {env : Env}
theorem g_standIf {α : Type} {c : Prop} [Decidable c] {pos : Pos} {k : PUnit → Sem α} {Q : α → Shared → Prop} (h : wpG M A (k ()) Q s) :
    wpG M A (if c then (standAt pos >>= k) else k ()) Q s := by
  split
  · exact g_bindA (wpAny_standAt h)
  · exact h
theorem g_comprehension {e : Expr} {scope : Scope} {pos : Pos} {newAcc first : Sem Value} {g : Comprehension} {gs : List Comprehension} {cl : List (Str × Addr)} {Q : Value → Shared → Prop}
    (hcl : clausesOf e = g :: gs) (hs : ∀ x, foldedSetIterable g.iter env x = pure x) (hclos : closureFor scope env = pure cl)
    (hkind : scope.kind = .function) (hnames : ∀ x ∈ scope.names, x.2 = .local → scope.names.lookup x.1 = some .local)
    (h : wpAny M A first (fun x s₁ => wpAny M A (pyIter x) (fun it s₂ => wpAny M A newAcc (fun acc s₃ =>
      wpAny M A (newFunctionEnv scope env.globals cl [] env.qual none .none (some env)) (fun cenv s₄ =>
        codeG M A (.compStart e 0 it acc { cenv with scope := relabel scope env }) (fun _ s' => ∃ m, s'.heap.Ns cenv.locals m ∧ ∀ h', Heap.SameBut cenv.locals s'.heap h' → Q acc { s' with heap := h' }) s₄) (fun _ _ => False) s₃) (fun _ _ => False) s₂) (fun _ _ => False) s₁) (fun _ _ => False) s) :
    wpG M A (comprehension e scope env pos newAcc false first none) Q s := by
  unfold comprehension
  rw [hclos, hcl]
  refine g_bindA (wpAny_mono h (fun x s₁ h₁ => g_bindA (wpAny_standAt (g_bindA (wpAny_of_eq (hs x) (g_bindA (wpAny_holding (wpAny_mono h₁ (fun it s₂ h₂ => ?_) fun _ _ h' => h'))))))) fun _ _ h' => h')
  refine g_standIf (g_bindA (wpAny_mono h₂ (fun acc s₃ h₃ => g_bind (g_pure (g_bindA (wpAny_mono h₃ (fun cenv s₄ h₄ => ?_) fun _ _ h' => h')))) fun _ _ h' => h'))
  dsimp only
  have hv : ∀ x ∈ (scope.names.filter fun x => (x.2 == .local || x.2 == .cell) && x.1 != (".0" : Str)).reverse, x.2 = .local →
      Env.kindOf { cenv with scope := relabel scope env } x.1 = some .local := fun x hx hl => lookup_relabel_local (hnames x (List.mem_filter.mp (List.mem_reverse.mp hx)).1 hl)
  refine g_holding (g_bind (g_attempt (g_holding (g_run (codeG_mono h₄ fun f s' hr => ?_)))))
  obtain ⟨m, hn, hr⟩ := hr
  exact g_bindA (wpAny_holding (wpAny_comp_letGo (cenv := { cenv with scope := relabel scope env }) hkind _ s' m hv hn fun h' m' _ hs' => g_pure (hr h' hs')))
end
section
variable {prog : Program} {w : World} {A : Around} {s : Shared} {env : Env} {R : Flow → Shared → Prop}
theorem codeG_compStart {elt target iter ifs rest scope pos it acc env}
    (h0 : codeG (model prog w) A (.compLoop (.ListComp elt (⟨target, iter, ifs, 0⟩ :: rest) scope pos) 0 it acc env) R s)
    (h : wpAny (model prog w) A (pyIter it) (fun it' s' => codeG (model prog w) A (.compLoop (.ListComp elt (⟨target, iter, ifs, 0⟩ :: rest) scope pos) 0 it' acc env) R s') (fun _ _ => False) s) :
    codeG (model prog w) A (.compStart (.ListComp elt (⟨target, iter, ifs, 0⟩ :: rest) scope pos) 0 it acc env) R s := by
  refine codeG_tree rfl ?_
  show wpG _ _ ((compStart (.ListComp elt (⟨target, iter, ifs, 0⟩ :: rest) scope pos) 0 it acc env).onRaise (fun x => do noteFrame x env; standAt theWindowsPlace)) _ s
  refine g_onRaise ?_
  unfold compStart
  show wpG _ _ (ask >>= _) _ s
  refine g_bindA (wpAny_askSetting ?_)
  have hend : ∀ (c : Prop) [Decidable c] (t u : Sem PySem.Fin) (Q : PySem.Fin → Shared → Prop), wpG (model prog w) A t Q s → wpG (model prog w) A u Q s → wpG (model prog w) A (if c then t else u) Q s := fun c _ t u Q a b => by split <;> assumption
  refine hend _ _ _ _ ?_ ?_
  · first
      | exact g_bind (g_pure (g_pure (.inr ⟨_, rfl, rfl, h0⟩)))
      | exact g_pure (.inr ⟨_, rfl, rfl, h0⟩)
  · first
      | exact g_bindA (wpAny_rule (g_bindA (wpAny_standAt (g_bindA (wpAny_mono h (fun it' s' h' => g_pure (.inr ⟨_, rfl, rfl, h'⟩)) fun _ _ x => x)))))
      | (refine g_bindA (wpAny_rule ?_); show wpG _ _ (standAt iter.pos >>= _) _ s; exact g_bindA (wpAny_standAt (g_bindA (wpAny_mono h (fun it' s' h' => g_pure (.inr ⟨_, rfl, rfl, h'⟩)) fun _ _ x => x))))
theorem codeG_compLoop {elt target iter : Expr} {scope : Scope} {pos : Pos} {it acc : Value} {env : Env} (I : Nat → Shared → Prop)
    (turn : ∀ n s, I n s → wpAny (model prog w) A (pyNext it) (fun r s₁ => match r with
      | none => R .next s₁
      | some v => wpAny (model prog w) A (letOwnedTupleGo target it v) (fun _ s₁' => wpAny (model prog w) A (assign target env v) (fun _ s₂ => wpG (model prog w) A (eval elt env) (fun x s₃ =>
          wpAny (model prog w) A (call (.builtin "list.append") [acc, x]) (fun _ s₄ => ∃ m, m < n ∧ I m s₄) (fun _ _ => False) s₃) s₂) (fun _ _ => False) s₁') (fun _ _ => False) s₁) (fun _ _ => False) s)
    (n : Nat) (h : I n s) :
    codeG (model prog w) A (.compLoop (.ListComp elt [⟨target, iter, [], 0⟩] scope pos) 0 it acc env) R s := by
  refine codeG_loop rfl rfl I (fun n s hI => ?_) n h
  show wpG _ _ ((compTurn (.ListComp elt [⟨target, iter, [], 0⟩] scope pos) 0 it acc env).onRaise (fun x => do noteFrame x env; theTreesLotGoes x)) _ s
  refine g_onRaise ?_
  rw [compTurn_list1]
  refine g_bindA (wpAny_standAt (g_bindA (wpAny_mono (turn n s hI) (fun r s₁ h₁ => ?_) fun _ _ h' => h')))
  cases r with
  | none => exact g_pure (.inl ⟨_, rfl, h₁⟩)
  | some v =>
    refine g_bindA (wpAny_mono h₁ (fun _ s₁' h₁' => g_bindA (wpAny_mono h₁' (fun _ s₂ h₂ => ?_) fun _ _ h' => h')) fun _ _ h' => h')
    refine g_bind (g_bind (g_mono h₂ fun x s₃ h₃ => g_bindA (wpAny_mono h₃ (fun _ s₄ h₄ => g_pure ?_) fun _ _ h' => h')))
    exact g_pure (.inr (.inl ⟨rfl, h₄⟩))
end
end

/- F18 -/
/- lists put together; all(l); the comprehension that law makes -/
section
open PySem PySem.W PyProof.Rows PySem.Calls
section
variable {prog : Program} {w : World} {A : Around} {env : Env} {b : Shared} {h₀ : Heap} {m cm : List (Str × Value)} {led : List (Addr × Obj)} {s₀ : Shared} {h : Heap} {tk : Nat} {rest : List Stmt} {Q : Flow → Shared → Prop} {E : Value → Shared → Prop}
theorem t_pairT {x y : Str} {px py pt pos : Pos} {kk : Nat} {e : Expr} {G : Value → Value → List (Addr × Obj) → Nat → Prop} (hh : A.handled = none) (S : Sta h₀ env.locals env.cells m cm led h) (hG : ∀ va vb nw a b, a ≤ b → G va vb nw a → G va vb nw b)
    (he : Ev prog w A env { s₀ with heap := h, toks := tk } e (fun v s s' => ∃ t va vb nw, v = .ref t ∧ IsTup s'.heap t #[va, vb] ∧ NewIn s.heap s'.heap nw ∧ G va vb nw s'.toks))
    (k : ∀ va vb nw h' tk', tk ≤ tk' → G va vb nw tk' → Sta h₀ env.locals env.cells ((y, vb) :: (x, va) :: m) cm (nw ++ led) h' → wpAny (model prog w) A (execs rest env) Q E { s₀ with heap := h', toks := tk' })
    (hx : env.kindOf x = some .local := by rfl) (hy : env.kindOf y = some .local := by rfl) (hkd : env.scope.kind = .function := by rfl)
    (hs : swapsWithSole [.Tuple [.Name x px, .Name y py] kk pt] e pos.line env = pure false := by rfl) (hw : swappedStores [.Tuple [.Name x px, .Name y py] kk pt] e env = pure none := by rfl) :
    wpAny (model prog w) A (execs (.Assign [.Tuple [.Name x px, .Name y py] kk pt] e pos :: rest) env) Q E { s₀ with heap := h, toks := tk } := by
  refine wpAny_execs_cons (Assign_Tuple (wpAny_mono (he _ _ (Up.refl _)) (fun v s₁ q => ?_) fun _ _ e => e) hs hw)
  obtain ⟨kp, t, va, vb, nw, rfl, htup, fr, g⟩ := q
  obtain ⟨h₁, tk₁, rfl, st, ht⟩ := kp.cases
  refine assign_pair hh htup fun h₂ st₂ => ?_
  refine bindLocal (s := { s₀ with heap := h₂, toks := tk₁ }) ((S.add st fr).keeps st₂) (fun h₃ tk₃ ht₃ S₃ => ?_) hx hkd
  refine bindLocal (s := { s₀ with heap := h₃, toks := tk₃ }) S₃ (fun h₄ tk₄ ht₄ S₄ => ?_) hy hkd
  exact k va vb nw h₄ tk₄ (Nat.le_trans ht (Nat.le_trans ht₃ ht₄)) (hG _ _ _ _ _ (Nat.le_trans ht₃ ht₄) g) S₄
/- a + b of lists, b a display -/
theorem ev_addL {l r : Expr} {pos : Pos} {a : Addr} {ys : List Value} {n : Nat} {P : List Value → Prop} (ha : EvP prog w A env b l (· = .ref a)) (hl : b.heap.get? a = some (LO ys n)) (hb : EvN prog w A env b r (fun v nw => ∃ t vs, v = .ref t ∧ nw = [(t, LO vs 0)] ∧ P vs)) (hz : ys.length ≤ 1000) (hP : ∀ vs, P vs → vs.length ≤ 1000) :
    EvN prog w A env b (.BinOp l .Add r pos) (fun v nw => ∃ D vs, v = .ref D ∧ nw = [(D, LO (ys ++ vs) 0)] ∧ P vs) := by
  intro s E up
  refine wpAny_BinOp (wpAny_mono (ha s E up) (fun u s₁ q₁ => wpAny_mono (hb s₁ E (up.trans q₁.1.up)) (fun v s₂ q₂ => ?_) fun _ _ e => e) fun _ _ e => e)
  obtain ⟨k₁, rfl⟩ := q₁
  obtain ⟨k₂, nw, hnew, t, vs, rfl, rfl, hp⟩ := q₂
  have kp := k₁.trans k₂
  have hsz : sizeLine = 16777216 := by decide
  have hvz := hP vs hp
  have h1 := (up.trans kp.up).st _ _ hl
  have h2 := (hnew.1 _ List.mem_cons_self).1
  have e : ys.toArray ++ vs.toArray = (ys ++ vs).toArray := by simp
  refine concat_meets ⟨_, h1, rfl⟩ ⟨_, h2, rfl⟩ noFill_list_add seq_list_add PySem.F.slot_list_add PySem.F.entry_list_add (PySem.F.args_list_add_2 _ _) (list_addW a t ys.toArray vs.toArray n 0 none none #[] #[] (by simp; lia)) ⟨h1, h2, ?_⟩
  rw [e]
  have hn : NewIn s₂.heap (s₂.heap.push (LO (ys ++ vs) 0)) [(s₂.heap.objs.size, LO (ys ++ vs) 0)] := new_push
  exact ⟨kp.trans ⟨⟨_, _, rfl, stays_push _ _⟩, Nat.le_refl _⟩, _, hn.back kp.up.st, _, vs, rfl, rfl, hp⟩
/- all(l), every item True -/
theorem call_all_true {s : Shared} {l : Addr} {k n : Nat} {Q : Value → Shared → Prop} (hh : A.handled = none) (hl : s.heap.get? l = some (LO (List.replicate n (.bool true)) k)) (hQ : ∀ h' tk, s.heap.StaysIn h' → Q (.bool true) { s with heap := h', toks := tk }) : wpAny (model prog w) A (call (.builtin "all") [.ref l]) Q E s := by
  refine call_all_walk ?_
  have hil := isList_LO hl
  obtain ⟨I, hI⟩ : ∃ I, I = s.heap.objs.size := ⟨_, rfl⟩
  refine (iter_list (prog := prog) (w := w) (A := A.in1) hh hil).2 s E _ (stays_refl _) fun I St h' IT hst st hI => ?_
  refine ⟨I, _, _, _, _, St, fun _ => true, rfl, IT.W, hst, ?_, fun h'' tk hk => ?_⟩
  · intro i v s Q E hP hQ
    have hP' : (List.replicate n (Value.bool true)).toArray[i]? = some v := hP
    have : v = .bool true := by
      have h1 : (List.replicate n (Value.bool true))[i]? = some v := by rw [List.getElem?_toArray] at hP'; exact hP'
      exact (List.mem_replicate.mp (List.mem_of_getElem? h1)).2
    rw [this]
    exact wpAny_truthy_bool hQ
  · have e : (List.range (List.replicate n (Value.bool true)).toArray.size).all (fun _ => true) = true := by simp
    rw [e]
    refine hQ h'' tk fun b o e => hk b o (fun hb => ?_) (st _ _ e)
    rw [List.mem_singleton.mp hb, hI] at e; cases e
theorem g_bindEv {α : Type} {s : Shared} {e : Expr} {f : Value → Sem α} {T : Value → Shared → Shared → Prop} {Q : α → Shared → Prop} (h : Ev prog w A env s e T) (k : ∀ v s', Kp s s' → T v s s' → wpG (model prog w) A (f v) Q s') : wpG (model prog w) A (eval e env >>= f) Q s :=
  g_bindA (wpAny_mono (h s _ (Up.refl _)) (fun v s' q => k v s' q.1 q.2) fun _ _ e => e)
/- [f(x, y, z) for x, y, z in l], every item True -/
theorem g_comp3 {elt iter : Expr} {x y z : Str} {px py pz pt pos : Pos} {kk : Nat} {scope : Scope} {cl : List (Str × Addr)} {l : Addr} {ys : List Value} {n : Nat} {s : Shared} {P : Nat → Value → Value → Value → Prop} (hh : A.handled = none)
    (hclos : closureFor scope env = pure cl) (hi : EvP prog w A env s iter (· = .ref l)) (hl : s.heap.get? l = some (LO ys n)) (hz : ys.length ≤ 1000)
    (hP : ∀ i v, ys[i]? = some v → ∃ t va vb vc, v = .ref t ∧ s.heap.get? t = some (TO [va, vb, vc]) ∧ P i va vb vc)
    (he : ∀ C (b' : Shared) m i va vb vc, P i va vb vc → Up s b' → b'.heap.Ns C m → m x = some va → m y = some vb → m z = some vc → wpG (model prog w) A (eval elt (compEnvC scope cl C env)) (fun v s' => Kp b' s' ∧ v = .bool true) b')
    (hcell : ∀ y ∈ scope.names, y.2 ≠ .cell) (hkind : scope.kind = .function) (hnames : ∀ y ∈ scope.names, y.2 = .local → scope.names.lookup y.1 = some .local) (hx : scope.names.lookup x = some .local) (hy : scope.names.lookup y = some .local) (hzz : scope.names.lookup z = some .local) (hxy : x ≠ y) (hxz : x ≠ z) (hyz : y ≠ z)
    (hs : ∀ x, foldedSetIterable iter env x = pure x := by intro _; rfl) :
    wpG (model prog w) A (eval (.ListComp elt [⟨.Tuple [.Name x px, .Name y py, .Name z pz] kk pt, iter, [], 0⟩] scope pos) env) (fun r s' => Kp s s' ∧ ∃ D k, r = .ref D ∧ s'.heap.get? D = some (LO (List.replicate ys.length (.bool true)) k)) s := by
  rw [eval_ListComp]
  refine g_comprehension rfl hs hclos hkind hnames (wpAny_mono (hi s _ (Up.refl _)) (fun xv s₁ q₁ => ?_) fun _ _ e => e)
  obtain ⟨kp₁, rfl⟩ := q₁
  obtain ⟨h₁, tk₁, rfl, st₁, ht₁⟩ := kp₁.cases
  have hl₁ : h₁.get? l = some (LO ys n) := st₁ _ _ hl
  refine wpAny_pyIter_list (isList_LO hl₁) ?_
  have hI₀ := get_none_of_size h₁ 0
  rw [Nat.add_zero] at hI₀
  dsimp only
  generalize hH1 : h₁.push { cls := .type "list_iterator", data := .fields #[.ref l, .int 0 0] } = H1
  have hI1 : H1.objs.size = h₁.objs.size + 1 := by rw [← hH1, Heap.size_push]
  have hit₀ : H1.IsListIter h₁.objs.size l 0 := ⟨_, by rw [← hH1]; exact Heap.get?_push_size _ rfl, rfl, rfl⟩
  have stH1 : h₁.StaysIn H1 := by rw [← hH1]; exact stays_push _ _
  generalize hIe : h₁.objs.size = I at hI₀ hit₀ hI1 ⊢
  refine wpAny_newObj_type (wpAny_newFunctionEnv hcell (by intro y hy; simp at hy) (fun h₃ hns₃ hsb₃ => ?_) hkind)
  dsimp only at hns₃ hsb₃ ⊢
  generalize hH2 : H1.push { cls := .type "list", dict := none, data := .seq ([] : List Value).toArray } = H2 at hns₃ hsb₃ ⊢
  have hC : H2.objs.size = H1.objs.size + 1 := by rw [← hH2, Heap.size_push]
  generalize hCe : H2.objs.size = C at hns₃ hsb₃ hC ⊢
  generalize hDe : H1.objs.size = D at hC hI1 ⊢
  have hDC : D ≠ C := Nat.ne_of_lt (by rw [hC]; exact Nat.lt_succ_self _)
  have hID : I ≠ D := Nat.ne_of_lt (by rw [hI1]; exact Nat.lt_succ_self _)
  have hIC : I ≠ C := Nat.ne_of_lt (by rw [hC, hI1]; exact Nat.lt_succ_of_lt (Nat.lt_succ_self _))
  have below : ∀ b o, h₁.get? b = some o → b ≠ I ∧ b ≠ C ∧ b ≠ D := fun b o e => by
    have hlt : (b : Nat) < I := hIe ▸ Heap.lt_size e
    have h1 : (b : Nat) < D := by rw [hI1]; exact Nat.lt_succ_of_lt hlt
    have h2 : (b : Nat) < C := by rw [hC]; exact Nat.lt_succ_of_lt h1
    exact ⟨Nat.ne_of_lt hlt, Nat.ne_of_lt h2, Nat.ne_of_lt h1⟩
  have old3 : ∀ b o, b ≠ C → H1.get? b = some o → h₃.get? b = some o := fun b o hb e => hsb₃.extBut b o hb (Heap.get?_push_of_some _ (by rw [← hH2]; exact Heap.get?_push_of_some _ e))
  have hacc : h₃.get? D = some (LO [] 0) := hsb₃.extBut _ _ hDC (Heap.get?_push_of_some _ (by rw [← hH2, ← hDe]; exact Heap.get?_push_size _ rfl))
  have hit₃ : h₃.IsListIter I l 0 := let ⟨o, e, r⟩ := hit₀; ⟨o, old3 _ _ hIC e, r⟩
  have K₃ : h₁.StaysIn h₃ := fun b o e => old3 b o (below b o e).2.1 (stH1 _ _ e)
  have loop : codeG (model prog w) A (.compLoop (.ListComp elt [⟨.Tuple [.Name x px, .Name y py, .Name z pz] kk pt, iter, [], 0⟩] scope pos) 0 (.ref I) (.ref D) (compEnvC scope cl C env))
      (fun _ s' => ∃ m, s'.heap.Ns C m ∧ ∀ h', Heap.SameBut C s'.heap h' → Kp s { s' with heap := h' } ∧ ∃ D' k, (Value.ref D) = .ref D' ∧ h'.get? D' = some (LO (List.replicate ys.length (.bool true)) k)) { s with heap := h₃, toks := tk₁ + ([] : List (Str × Value)).length } := by
    refine codeG_compLoop (fun k s' => ∃ i h' tk m' nk, s' = { s with heap := h', toks := tk } ∧ s.toks ≤ tk ∧ i ≤ ys.length ∧ k = ys.length + 1 - i ∧ h'.IsListIter I l i ∧ h₁.StaysIn h' ∧ h'.Ns C m' ∧ h'.get? D = some (LO (List.replicate i (.bool true)) nk)) ?_ (ys.length + 1)
      ⟨0, h₃, _, _, 0, rfl, Nat.le_trans ht₁ (Nat.le_add_right _ _), Nat.zero_le _, rfl, hit₃, K₃, hns₃, hacc⟩
    intro k s' hq; obtain ⟨i, h', tk, m', nk, rfl, htk, hle, rfl, hit, hK, hn, hD⟩ := hq
    have hl' : h'.IsList l ys.toArray := isList_LO (hK _ _ hl₁)
    by_cases hlt : i < ys.length
    · refine wpAny_pyNext_list_item hit hl' (x := ys[i]) (by simp [hlt]) fun h₄ hit₄ hs₄ => ?_
      have hs₄' : ∀ b o, b ≠ I → h'.get? b = some o → h₄.get? b = some o := fun b o hb e => hs₄.extBut b o hb e
      have hK₄ : h₁.StaysIn h₄ := fun b o e => hs₄' b o (below b o e).1 (hK b o e)
      have hn₄ : h₄.Ns C m' := hn.at' fun o e => hs₄' _ o (Ne.symm hIC) e
      have hD₄ := hs₄' _ _ (Ne.symm hID) hD
      obtain ⟨t, va, vb, vc, hv, hto, hp⟩ := hP i ys[i] (List.getElem?_eq_getElem hlt)
      rw [hv]
      dsimp only
      refine wpAny_letOwnedTupleGo_listiter hit₄ ?_
      have htup : IsTup h₄ t #[va, vb, vc] := isTup_TO (hK₄ _ _ (st₁ _ _ hto))
      refine assign_triple hh htup fun h₅ st₅ => ?_
      have hfn : (compEnvC scope cl C env).scope.kind = .function := by simp [compEnvC, relabel, hkind]
      refine wpAny_storeName_local (lookup_relabel_local hx) (hn₄.keeps st₅) (fun h₆ hn₆ hs₆ => ?_) (by rw [hfn]; rfl)
      refine wpAny_storeName_local (lookup_relabel_local hy) hn₆ (fun h₇ hn₇ hs₇ => ?_) (by rw [hfn]; rfl)
      refine wpAny_storeName_local (lookup_relabel_local hzz) hn₇ (fun h₈ hn₈ hs₈ => ?_) (by rw [hfn]; rfl)
      have toN : ∀ b o, b ≠ C → h₄.get? b = some o → h₈.get? b = some o := fun b o hb e => hs₈.extBut b o hb (hs₇.extBut b o hb (hs₆.extBut b o hb (st₅ _ _ e)))
      have hK₈ : h₁.StaysIn h₈ := fun b o e => toN b o (below b o e).2.1 (hK₄ b o e)
      have hD₈ := toN _ _ hDC hD₄
      have hit₈ : h₈.IsListIter I l (i + 1) := let ⟨o, e, r⟩ := hit₄; ⟨o, toN _ _ hIC e, r⟩
      refine g_mono (he C _ _ i va vb vc hp ⟨stays_trans st₁ hK₈, ?_⟩ hn₈ ?_ ?_ ?_) fun v s' q => ?_
      · exact Nat.le_succ_of_le (Nat.le_succ_of_le (Nat.le_succ_of_le htk))
      · simp [hxy, hxz]
      · simp [hyz]
      · simp
      obtain ⟨kp, rfl⟩ := q
      obtain ⟨h₉, tk₉, rfl, st₉, ht₉⟩ := kp.cases
      dsimp only at st₉ ht₉
      have hsz : sizeLine = 16777216 := by decide
      refine list_append_at (st₉ _ _ hD₈) (by rw [List.length_replicate]; lia) fun ha na hDa hsa => ?_
      have hsa' : ∀ b o, b ≠ D → h₉.get? b = some o → ha.get? b = some o := fun b o hb e => hsa.extBut b o hb e
      refine ⟨ys.length + 1 - (i + 1), by lia, i + 1, ha, tk₉, _, na, rfl, Nat.le_trans (Nat.le_succ_of_le (Nat.le_succ_of_le (Nat.le_succ_of_le htk))) ht₉, hlt, rfl, ?_, fun b o e => hsa' b o (below b o e).2.2 (st₉ _ _ (hK₈ _ _ e)), (hn₈.keeps st₉).at' fun o e => hsa' _ o (Ne.symm hDC) e, by rw [hDa, List.replicate_succ']⟩
      obtain ⟨o, e, r⟩ := hit₈
      exact ⟨o, hsa' _ _ hID (st₉ _ _ e), r⟩
    · have hin : i = ys.length := by lia
      subst hin
      refine wpAny_pyNext_list_end hh hit hl' (by simp) fun h₄ hs₄ => ?_
      have hs₄' : ∀ b o, b ≠ I → h'.get? b = some o → h₄.get? b = some o := fun b o hb e => hs₄ b o hb e
      refine ⟨m', hn.at' fun o e => hs₄' _ o (Ne.symm hIC) e, fun h₅ hs₅ => ?_⟩
      have hs₅' : ∀ b o, b ≠ C → h₄.get? b = some o → h₅.get? b = some o := fun b o hb e => hs₅.extBut b o hb e
      exact ⟨Kp.mk' (stays_trans st₁ fun b o e => hs₅' b o (below b o e).2.1 (hs₄' b o (below b o e).1 (hK b o e))) htk, D, nk, rfl, hs₅' _ _ hDC (hs₄' _ _ (Ne.symm hID) hD)⟩
  exact codeG_compStart loop (wpAny_pyIter_listiter hit₃ loop)
end
end

/- C16 -/
/- law, walked -/
section
open PySem PySem.W PyProof.Rows PySem.Calls
section
variable {w : World} {A : Around} {s : Shared} {E : Value → Shared → Prop} {mean : ExcName → Option Value} {mg mb : Str → Option Value}
theorem dummy_c16 : True := trivial
end
section
variable {prog : Program} {w : World} {A : Around} {s : Shared}
theorem callG_def1 {a : Addr} {o : Obj} {fd : FuncData} {body : List Stmt} {args : List Value} {binds : List (Str × Value)} {T : Value → Shared → Shared → Prop} (hroom : A.depth < recursionLimit) (ho : s.heap.get? a = some o) (hd : o.data = .func fd) (hlim : s.heap.NoLimit)
    (hcd : s.heap.CodeRec fd.code fd.qualname) (hbody : fd.body = .stmts body) (hbind : BindsTo s fd ⟨args, []⟩ binds) (hcell : ∀ x ∈ fd.scope.names, x.2 ≠ .cell) (hloc : ∀ x ∈ binds, fd.scope.names.lookup x.1 = some .local) (hclo : fd.closure = []) (hnd : (binds.map (·.1)).Nodup)
    (h : ∀ L h₁ tk, s.toks + binds.length ≤ tk → Sta s.heap (callEnv fd L a).locals (callEnv fd L a).cells binds [] [] h₁ → wpG (model prog w) (A.deeper (callEnv fd L a)) (execs body (callEnv fd L a)) (fun f s' => Keeps s s' ∧ T (match f with | .ret v => v | _ => .none) s s') { s with heap := h₁, toks := tk })
    (hco : fd.scope.isCoroutine = false := by rfl) (hgen : fd.scope.isGenerator = false := by rfl) (hk : fd.scope.kind = .function := by rfl) :
    wpG (model prog w) A (call (.ref a) args) (fun v s' => Kp s s' ∧ T v s s') s := by
  refine g_mono (g_toks (n := s.toks) (Nat.le_refl _) (g_call (Q := fun v s' => Keeps s s' ∧ T v s s') ?_)) fun v s' q => ⟨⟨q.2.1, q.1⟩, q.2.2⟩
  refine codeG_callFunction hroom ho hd hco hgen hbody hcd (hbind _ _ _ _ ?_)
  refine wpAny_newFunctionEnv hcell hloc (fun h₁ hns hsb => ?_) hk
  have hk₁ : s.heap.StaysIn h₁ := fun b o e => hsb.extBut b o (Nat.ne_of_lt (Heap.lt_size e)) (Heap.get?_push_of_some _ e)
  have S : Sta s.heap (callEnv fd s.heap.objs.size a).locals (callEnv fd s.heap.objs.size a).cells binds [] [] h₁ := by
    have hce : (callEnv fd s.heap.objs.size a).cells = [] := hclo
    rw [hce]
    refine ⟨⟨_, hns, fun x v e => ?_⟩, hk₁, Nat.le_refl _, (fun x v e => by simp at e), (fun x c e => by simp at e), (fun n c hm => nomatch hm), List.Pairwise.nil, List.nodup_nil, (fun p hp => nomatch hp), List.nodup_nil⟩
    rw [lookup_rev hnd]; exact e
  refine ⟨hlim.fresh _ hsb, g_mono (h _ h₁ _ (Nat.le_refl _) S) fun f s' q => ⟨_, rfl, q⟩⟩
end
noncomputable def f_law : FnIs 136 := by refine ⟨?x, fun w => ?h⟩; case h => (conv => lhs; whnf)
section
variable {w : World} {A : Around} {s : Shared} {E : Value → Shared → Prop} {mean : ExcName → Option Value} {mg mb : Str → Option Value}
/- what the plain law gives -/
noncomputable def AllJobs (sg : List Nat) (ws : List Pr) : Prop :=
  (∃ ts c0, JobOK 0 sg [] ts c0) ∧ (∃ ts c0, JobOK 1 sg [] ts c0) ∧ (∃ ts c0, JobOK 1 sg ws ts c0) ∧ (∃ ts c0, JobOK 2 sg ws ts c0) ∧ (∃ ts c0, JobOK 2 (sg ++ [34]) [] ts c0) ∧ (∃ ts c0, JobOK 2 (sg ++ [39, 34]) ws ts c0)
theorem ev_trip {prog : Program} {env : Env} {b : Shared} {e1 e2 e3 : Expr} {k : Nat} {pos : Pos} {kind : Nat} {A2 A3 : Value → List (Addr × Obj) → Prop} (h1 : EvP prog w A env b e1 (IsI kind)) (h2 : EvN prog w A env b e2 A2) (h3 : EvN prog w A env b e3 A3)
    (hp : starEach [e1, e2, e3] env = (false, eval e1 env) :: starEach [e2, e3] env := by rfl) (hq : starEach [e2, e3] env = (false, eval e2 env) :: starEach [e3] env := by rfl) (hr : starEach [e3] env = [(false, eval e3 env)] := by rfl) :
    EvN prog w A env b (.Tuple [e1, e2, e3] k pos) (fun y nw => ∃ t tk0 v2 v3 n2 n3, y = .ref t ∧ nw = (t, TO [.int kind tk0, v2, v3]) :: (n3 ++ n2) ∧ A2 v2 n2 ∧ A3 v3 n3) :=
  by
  refine (ev_tupleT (args_consT h1 (args_consT h2 (args_consT h3 args0 hr) hq) hp) ?_).mono ?_
  · intro vs s s' _ hx
    obtain ⟨v, r, s₁, e, _, _, _, v2, r2, s2, e2, _, _, _, v3, r3, s3, e3, _, _, _, e4⟩ := hx
    rw [e, e2, e3, e4]; show 3 ≤ sizeLine; decide
  · intro y s s' _ _ hx
    obtain ⟨t, vs, s₁, e, k0, ⟨v, r, s2, e1, k1, k2, ⟨tk0, ev⟩, v2, r2, s3, e2, k3, k4, ⟨n2, hn2, p2⟩, v3, r3, s4, e3, k5, k6, ⟨n3, hn3, p3⟩, e4⟩, st, hn⟩ := hx
    subst e4 e3 e2 e1 ev
    refine ⟨[(t, TO [.int kind tk0, v2, v3])] ++ (n3 ++ n2), ?_, t, tk0, v2, v3, n2, n3, e, rfl, p2, p3⟩
    have a1 : NewIn s.heap s₁.heap (n3 ++ n2) := NewIn.append (stays_trans k1.up.st k3.up.st) (k5.trans k6).up.st (hn2.back k1.up.st) (hn3.up k6.up.st)
    exact NewIn.append k0.up.st st a1 hn
/- a job of the list -/
noncomputable def JobIn (w : World) (Sg Tb : Addr) (gys : List Value) (c : Nat × List Nat × Bool) (y : Value) (n₁ : List (Addr × Obj)) : Prop :=
  ∃ t tk0 a d, y = .ref t ∧ (t, TO [.int c.1 tk0, .ref a, .ref d]) ∈ n₁ ∧ ((a = Sg ∧ c.2.1 = []) ∨ (∃ ys' n, (a, LO (gys ++ ys') n) ∈ n₁ ∧ TL (c.2.1.map ([·])) ys')) ∧ ((d = Tb ∧ c.2.2 = true) ∨ (∃ ep, c.2.2 = false ∧ (d, DO w [] ep) ∈ n₁ ∧ (d == sysModules) = false))
/- a job's things where they stand -/
noncomputable def JobAt (w : World) (h : Heap) (tks : Nat) (va vb vc : Value) : Prop :=
  ∃ kind tk0 a d ys n l ep sg ts c0, va = .int (kind : Nat) tk0 ∧ vb = .ref a ∧ vc = .ref d ∧ h.get? a = some (LO ys n) ∧ TL (sg.map ([·])) ys ∧ h.get? d = some (DO w l ep) ∧ (d == sysModules) = false ∧ (keysOf l).Nodup ∧ l.length ≤ 100 ∧ (∀ e ∈ l, OkEnt e ∧ e.t < tks) ∧ JobOK kind sg (wordsOf l) ts c0
noncomputable abbrev jobsL : List (Nat × List Nat × Bool) := [(0, [], false), (1, [], false), (1, [], true), (2, [], true), (2, [34], false), (2, [39, 34], true)]
theorem c_law {n : Nat} (GX : (KK w).In s.heap) (GT : Top Mine.Head.hd0.view_1 LS mean mg mb s.heap) (R : Room A (n + 8)) {a : Addr} {xs : List Value} {is : List Int} (ha : s.heap.IsList a xs.toArray) (hx : NL is xs) (hl : xs.length ≤ 63)
    (hJ : ∀ sg ws, Drawn sg ws → AllJobs sg ws) : wpG (model PR w) A (call (.ref 136) [.ref a]) (fun v s' => Kp s s' ∧ v = .bool true) s := by
  obtain ⟨of, hof, hdf⟩ := fn_obj (f_law.property w)
  refine callG_def1 (T := fun v _ _ => v = .bool true) (binds := [("script", .ref a)]) R.depth (GX _ _ hof) hdf GT.nolimit (codeRec_of GX (by kernel_rfl)) (body := ?body) (by rfl) (BindsTo.of_eq rfl) (by decide) (locs (by rfl)) (by rfl) (by simp) fun L h₁ tk ht S => ?_
  have htk1 : 1 ≤ tk := Nat.le_trans (Nat.le_add_left 1 s.toks) ht
  have G : G0 w mean mg mb { s with toks := tk } := ⟨GX, GT, htk1⟩
  have S : Sta ({ s with toks := tk } : Shared).heap (callEnv f_law.val L 136).locals (callEnv f_law.val L 136).cells [("script", .ref a)] [] [] h₁ := S
  have ha : ({ s with toks := tk } : Shared).heap.IsList a xs.toArray := ha
  have hst : ({ s with toks := tk } : Shared).toks ≤ tk := Nat.le_refl _
  refine g_mono (Q := fun f s'' => Keeps ({ s with toks := tk } : Shared) s'' ∧ (match f with | .ret v => v | _ => .none) = Value.bool true) ?_ (fun f s'' q => ⟨keeps_trans (keeps_toks s tk) q.1, q.2⟩)
  show wpG _ _ _ _ { ({ s with toks := tk } : Shared) with heap := h₁, toks := tk }
  generalize ({ s with toks := tk } : Shared) = s' at G S ha hst ⊢
  clear ht htk1 GX GT hof
  have hres : (A.deeper (callEnv f_law.val L 136)).handled = none := R.hh
  refine q_seq (t_pairT hres S (G := fun va vb nw a => ∃ (Sg Tb : Addr) (ys : List Value) (k : Nat) (l : List Ent) (ep : Nat) (sg : List Nat), va = .ref Sg ∧ vb = .ref Tb ∧ nw = [(Tb, DO w l ep), (Sg, LO ys k)] ∧ TL (sg.map ([·])) ys ∧ Drawn sg (wordsOf l) ∧ (keysOf l).Nodup ∧ (Tb == sysModules) = false ∧ (∀ e ∈ l, OkEnt e ∧ e.t < a))
    (fun va vb nw a b hab hq => by obtain ⟨Sg, Tb, ys, k, l, ep, sg, e1, e2, e3, e4, e5, e6, e7, e8⟩ := hq; exact ⟨Sg, Tb, ys, k, l, ep, sg, e1, e2, e3, e4, e5, e6, e7, fun e he => ⟨(e8 e he).1, Nat.lt_of_lt_of_le (e8 e he).2 hab⟩⟩)
    (ev_fn f_draw ?_ G S (by ktr_room) rfl (args1 (Pa := (· = .ref a)) (n_local S rfl rfl)) fun vs s₂ s₃ E u u' G₃ hv => ?_) fun va vb nw h tk₁ ht₁ p S => s_nil ?_)
  · intro v s s₁ s' u hq; obtain ⟨t, va, vb, nw, e1, e2, e3, e4⟩ := hq
    exact ⟨t, va, vb, nw, e1, e2, e3.back u.st, e4⟩
  · obtain ⟨v1, rfl, rfl⟩ := hv
    refine wpAny_mono (c_draw (n := n) G₃ (R.deeper.le (by lia)) G₃.t (ha.at fun o e => u'.st _ _ (u.st _ _ (S.keep _ _ e))) hx hl) (fun v s' q => ?_) fun _ _ e => e
    obtain ⟨kp, T, Sg, Tb, ys, k, l, ep, sg, rfl, hnew, e1, e2, e3, e4, e5⟩ := q
    have hT := hnew.1 _ List.mem_cons_self
    have hn2 : NewIn s₃.heap s'.heap [(Tb, DO w l ep), (Sg, LO ys k)] := ⟨fun p hp => hnew.1 p (List.mem_cons_of_mem _ hp), (List.nodup_cons.mp hnew.2).2⟩
    exact ⟨kp.k, T, _, _, _, rfl, isTup_TO hT.1, hn2.back u'.st, Sg, Tb, ys, k, l, ep, sg, rfl, rfl, rfl, e1, e2, e3, e4, e5⟩
  obtain ⟨Sg, Tb, gys, gk, l, ep, sg, rfl, rfl, rfl, htl, hdr, hnd, hTS, htok⟩ := p
  dsimp only
  rw [List.append_nil] at S
  have hgl := all2_length htl
  rw [List.length_map] at hgl
  have hg10 := hdr.len
  have hdict : ∀ {pos : Pos}, EvN PR w (A.deeper (callEnv f_law.val L 136)) (callEnv f_law.val L 136) { s' with heap := h, toks := tk₁ } (.Dict [] [] pos) (fun v nw => ∃ d ep, v = .ref d ∧ nw = [(d, DO w [] ep)] ∧ (d == sysModules) = false) := fun {pos} => by
    refine ev_dict0.mono ?_
    intro v s₂ s₃ up kp hq; obtain ⟨d', ep', l', rfl, hsz, hnew, hw, hfr⟩ := hq
    have hl0 : l' = [] := by
      cases l' with
      | nil => rfl
      | cons e l => simp [wordsOf] at hw
    subst hl0
    exact ⟨_, hnew, d', ep', rfl, rfl, notSys (((big_G G).up S.keep).up up.st) hsz⟩
  refine q_seq (t_assignN S (ev_listN (U := JobIn w Sg Tb gys) (cs := jobsL)
    (argsN_cons (Ev.mono (ev_trip (kind := 0) ev_int (Ev.toN (P := (· = .ref Sg)) (n_local S rfl rfl)) hdict) ?e1)
    (argsN_cons (Ev.mono (ev_trip (kind := 1) ev_int (Ev.toN (P := (· = .ref Sg)) (n_local S rfl rfl)) hdict) ?e2)
    (argsN_cons (Ev.mono (ev_trip (kind := 1) ev_int (Ev.toN (P := (· = .ref Sg)) (n_local S rfl rfl)) (Ev.toN (P := (· = .ref Tb)) (n_local S rfl rfl))) ?e3)
    (argsN_cons (Ev.mono (ev_trip (kind := 2) ev_int (Ev.toN (P := (· = .ref Sg)) (n_local S rfl rfl)) (Ev.toN (P := (· = .ref Tb)) (n_local S rfl rfl))) ?e4)
    (argsN_cons (Ev.mono (ev_trip (kind := 2) ev_int (ev_addL (n_local S rfl rfl) (S.objs (Sg, LO gys gk) (by simp)).1 (ev_list (P := fun vs => TL (([34] : List Nat).map ([·])) vs) (argsV_cons ev_str argsV_nil) (fun vs all => by rw [← all2_length all]; decide)) (by lia) (fun vs all => by rw [← all2_length all]; decide)) hdict) ?e5)
    (argsN_cons (Ev.mono (ev_trip (kind := 2) ev_int (ev_addL (n_local S rfl rfl) (S.objs (Sg, LO gys gk) (by simp)).1 (ev_list (P := fun vs => TL (([39, 34] : List Nat).map ([·])) vs) (argsV_cons ev_str (argsV_cons ev_str argsV_nil)) (fun vs all => by rw [← all2_length all]; decide)) (by lia) (fun vs all => by rw [← all2_length all]; decide)) (Ev.toN (P := (· = .ref Tb)) (n_local S rfl rfl))) ?e6) argsN_nil)))))) (by decide)) fun v nw h tk₂ ht₂ p S => s_nil ?_)
  case e1 | e2 =>
    intro v s₂ s₃ _ _ hq; obtain ⟨nw, hnew, t, tk0, v2, v3, n2, n3, rfl, rfl, ⟨rfl, rfl⟩, d, ep, rfl, rfl, hdS⟩ := hq
    exact ⟨_, hnew, t, tk0, Sg, d, rfl, by simp, .inl ⟨rfl, rfl⟩, .inr ⟨ep, rfl, by simp, hdS⟩⟩
  case e3 | e4 =>
    intro v s₂ s₃ _ _ hq; obtain ⟨nw, hnew, t, tk0, v2, v3, n2, n3, rfl, rfl, ⟨rfl, rfl⟩, rfl, rfl⟩ := hq
    exact ⟨_, hnew, t, tk0, Sg, Tb, rfl, by simp, .inl ⟨rfl, rfl⟩, .inl ⟨rfl, rfl⟩⟩
  case e5 =>
    intro v s₂ s₃ _ _ hq; obtain ⟨nw, hnew, t, tk0, v2, v3, n2, n3, rfl, rfl, ⟨D, vs, rfl, rfl, hvs⟩, d, ep, rfl, rfl, hdS⟩ := hq
    exact ⟨_, hnew, t, tk0, D, d, rfl, by simp, .inr ⟨vs, 0, by simp, hvs⟩, .inr ⟨ep, rfl, by simp, hdS⟩⟩
  case e6 =>
    intro v s₂ s₃ _ _ hq; obtain ⟨nw, hnew, t, tk0, v2, v3, n2, n3, rfl, rfl, ⟨D, vs, rfl, rfl, hvs⟩, rfl, rfl⟩ := hq
    exact ⟨_, hnew, t, tk0, D, Tb, rfl, by simp, .inr ⟨vs, 0, by simp, hvs⟩, .inl ⟨rfl, rfl⟩⟩
  obtain ⟨JB, jys, jk, nwj, rfl, rfl, jall⟩ := p
  dsimp only
  have hjl := all2_length jall
  have hJ' : ∀ c ∈ jobsL, ∃ ts c0, JobOK c.1 (sg ++ c.2.1) (if c.2.2 = true then wordsOf l else []) ts c0 := by
    obtain ⟨j1, j2, j3, j4, j5, j6⟩ := hJ sg (wordsOf l) hdr
    intro c hc
    simp only [jobsL, List.mem_cons, List.not_mem_nil, or_false] at hc
    rcases hc with rfl | rfl | rfl | rfl | rfl | rfl
    · simpa using j1
    · simpa using j2
    · simpa using j3
    · simpa using j4
    · simpa using j5
    · simpa using j6
  have hll : l.length ≤ 100 := by
    have h1 := hdr.wlen
    have h2 : (wordsOf l).length = l.length := by simp [wordsOf]
    lia
  have hat : ∀ (i : Nat) (v : Value), jys[i]? = some v → ∃ (t : Addr) (va vb vc : Value), v = Value.ref t ∧ h.get? t = some (TO [va, vb, vc]) ∧ JobAt w h tk₂ va vb vc := fun i v e => by
    have hlt : i < jobsL.length := by rw [hjl]; exact (List.getElem?_eq_some_iff.mp e).1
    obtain ⟨v', e', n₁, hsub, t, tk0, a, d, rfl, hto, hA, hB⟩ := all2_get jall (List.getElem?_eq_getElem hlt)
    rw [e] at e'; cases e'
    have hc := List.getElem_mem hlt
    generalize jobsL[i] = c at hto hA hB hc
    have hin : ∀ p ∈ n₁, h.get? p.1 = some p.2 := fun p hp => (S.objs p (by simp [hsub p hp])).1
    obtain ⟨ts, c0, hOK⟩ := hJ' c hc
    refine ⟨t, _, _, _, rfl, hin _ hto, ?_⟩
    have hA' : ∃ ys n, h.get? a = some (LO ys n) ∧ TL ((sg ++ c.2.1).map ([·])) ys := by
      rcases hA with ⟨rfl, e0⟩ | ⟨ys', n, hm, hT⟩
      · exact ⟨gys, gk, (S.objs (a, LO gys gk) (by simp)).1, by rw [e0, List.append_nil]; exact htl⟩
      · exact ⟨_, _, hin _ hm, by rw [List.map_append]; exact all2_app htl hT⟩
    obtain ⟨ys, n, g1, g2⟩ := hA'
    rcases hB with ⟨rfl, e0⟩ | ⟨ep', e0, hm, hdS⟩
    · rw [if_pos e0] at hOK
      exact ⟨c.1, tk0, a, d, ys, n, l, ep, _, ts, c0, rfl, rfl, rfl, g1, g2, (S.objs (d, DO w l ep) (by simp)).1, hTS, hnd, hll, fun e he => ⟨(htok e he).1, Nat.lt_of_lt_of_le (htok e he).2 ht₂⟩, hOK⟩
    · rw [if_neg (by rw [e0]; decide)] at hOK
      exact ⟨c.1, tk0, a, d, ys, n, [], ep', _, ts, c0, rfl, rfl, rfl, g1, g2, hin _ hm, hdS, by decide, by decide, (fun _ h => nomatch h), hOK⟩
  have hjb := (S.objs _ List.mem_cons_self).1
  refine q_cons (q_Return ?_)
  show wpG _ _ (do callWith _ (← eval (.Name "all" _) (callEnv f_law.val L 136)) [] (backTo _ (starEach _ (callEnv f_law.val L 136))) (backToKw _ (keywordEach [] (callEnv f_law.val L 136)))) _ _
  refine g_bindEv (T := fun v _ _ => v = Value.builtin "all") (gbuilt G S rfl rfl rfl) fun v s₁ kp0 q => ?_
  subst q
  have up0 := kp0.up
  refine q_callBuiltin rfl (q_evalArgs rfl (q_spliced1 (g_mono (g_comp3 (P := fun _ va vb vc => JobAt w h tk₂ va vb vc) (n := jk) (ys := jys) hres (cl := []) rfl (Ev.up (T := fun v _ _ => v = Value.ref JB) (n_local S rfl rfl) up0) (up0.st _ _ hjb) (by rw [← hjl]; decide) (fun i v e => ?_) (fun C b' m i va vb vc hp u hnn hm1 hm2 hm3 => ?_) (by decide) rfl (by decide) rfl rfl rfl (by decide) (by decide) (by decide)) fun v s₂ q => ?_)))
  · obtain ⟨t, va, vb, vc, e1, e2, e3⟩ := hat i v e
    exact ⟨t, va, vb, vc, e1, up0.st _ _ e2, e3⟩
  · obtain ⟨kind, tk0, a', d, ys, n', l', ep', sg', ts, c0, rfl, rfl, rfl, g1, g2, g3, g4, g5, g6, g7, hOK⟩ := hp
    have ub : Up { s' with heap := h, toks := tk₂ } b' := up0.trans u
    have Gb : G0 w mean mg mb b' := G.up ((Up.mk S.keep (by ktr_room) : Up s' { s' with heap := h, toks := tk₂ }).trans ub)
    obtain ⟨o, ho, hd'⟩ := fn_obj (f_job.property w)
    refine q_evalCall (gdef G (S.keeps ub.st) rfl rfl) (.fn 131 o _ (Gb.X _ _ ho) hd') (args3 (Pa := (· = .int (kind : Nat) tk0)) (Pb := (· = .ref a')) (Pc := (· = .ref d)) (ev_local hnn hm1 rfl) (ev_local hnn hm2 rfl) (ev_local hnn hm3 rfl)) fun vs s₁ s₂ k₁ k₂ hv => ?_
    obtain ⟨v1, v2, v3, rfl, rfl, rfl, rfl⟩ := hv
    have uc := (k₁.trans k₂).up
    have ud := ub.trans uc
    refine g_mono (c_job (n := n) (Gb.up uc) (R.deeper.le (by lia)) (Gb.up uc).t (ud.st _ _ g1) g2 (ud.st _ _ g3) g4 g5 g6 (fun e he => ⟨(g7 e he).1, Nat.lt_of_lt_of_le (g7 e he).2 ud.tk⟩) hOK) fun v s' q => ⟨(k₁.trans k₂).trans q.1, q.2⟩
  · obtain ⟨kp2, D, k, rfl, hD⟩ := q
    have kp3 := kp0.trans kp2
    obtain ⟨h₃, tk₃, rfl, st₃, ht₃⟩ := kp3.cases
    refine g_any (call_all_true hres hD fun h' tk' st' => ⟨⟨h', tk', rfl, stays_trans S.keep (stays_trans st₃ st')⟩, rfl⟩)
end
end

/- P1 -/
/- plain: what the replacements make, sign by sign; sizes -/
section
open PySem PySem.W PyProof.Rows
theorem repAll_nil (x : List Nat) : repAll [] x = x := rfl
theorem repAll_cons (p : Nat × List Nat) (ts : List (Nat × List Nat)) (x : List Nat) : repAll (p :: ts) x = repAll ts (rep p.1 p.2 x) := rfl
theorem repAll_app2 (a b : List (Nat × List Nat)) (x : List Nat) : repAll (a ++ b) x = repAll b (repAll a x) := by unfold repAll; rw [List.foldl_append]
theorem repAll_append : ∀ (ts : List (Nat × List Nat)) (x y : List Nat), repAll ts (x ++ y) = repAll ts x ++ repAll ts y
  | [], _, _ => rfl
  | p :: ts, x, y => by rw [repAll_cons, rep_app, repAll_append ts]; rfl
theorem repAll_empty : ∀ (ts : List (Nat × List Nat)), repAll ts [] = []
  | [] => rfl
  | p :: ts => by rw [repAll_cons, rep_nil, repAll_empty ts]
theorem repAll_flat (ts : List (Nat × List Nat)) : ∀ x : List Nat, repAll ts x = (x.map fun c => repAll ts [c]).flatten
  | [] => repAll_empty ts
  | c :: x => by
    rw [show c :: x = [c] ++ x from rfl, repAll_append, repAll_flat ts x]
    rfl
theorem repAll_other : ∀ (ts : List (Nat × List Nat)) (c : Nat), (∀ p ∈ ts, p.1 ≠ c) → repAll ts [c] = [c]
  | [], _, _ => rfl
  | p :: ts, c, h => by
    have hne := h p List.mem_cons_self
    rw [repAll_cons, rep_cons, rep_nil, if_neg (fun e => hne e.symm)]
    exact repAll_other ts c fun q hq => h q (List.mem_cons_of_mem _ hq)
/- the cells, one behind the other -/
theorem cells_flat {ts : List (Nat × List Nat)} (hk : ∀ p ∈ ts, p.1 < 128) (sg : List Nat) : (sg.map (cellOf ts)).flatten = repAll ts sg := by
  rw [repAll_flat ts sg]
  congr 1
  refine List.map_congr_left fun c _ => ?_
  unfold cellOf
  split
  · rfl
  · exact (repAll_other ts c fun p hp e => by have := hk p hp; lia).symm
theorem drep_pairs : ∀ (ts : List (Nat × List Nat)) (x : List Nat), drep (turnPairs ts) x = repAll ts x
  | [], _ => rfl
  | p :: ts, x => by
    show drep (turnPairs ts) (replL [p.1] p.2 x) = _
    rw [replL_one, drep_pairs ts, repAll_cons]
theorem rep_flatMap (c : Nat) (z : List Nat) (e : Nat → List Nat) : ∀ x : List Nat, rep c z (x.flatMap e) = x.flatMap fun d => rep c z (e d)
  | [] => rfl
  | d :: x => by rw [List.flatMap_cons, rep_app, rep_flatMap c z e x, List.flatMap_cons]
/- one sign, escaped -/
noncomputable def e0 (c : Nat) : List Nat := if c = 38 then amp else if c = 60 then lt else if c = 62 then gt else [c]
theorem rep_one (c : Nat) (z : List Nat) (d : Nat) : rep c z [d] = if d = c then z else [d] := by rw [rep_cons, rep_nil, List.append_nil]
theorem escL_flat (x : List Nat) : escL x = x.flatMap e0 := by
  unfold escL
  rw [show rep 38 amp x = x.flatMap (fun d => if d = 38 then amp else [d]) from rfl, rep_flatMap, rep_flatMap]
  refine congrArg (fun f => List.flatMap f x) (funext fun d => ?_)
  unfold e0
  by_cases h1 : d = 38
  · subst h1; decide
  · rw [if_neg h1, if_neg h1, rep_one]
    by_cases h2 : d = 62
    · subst h2; decide
    · rw [if_neg h2, rep_one]
theorem base_flat (x : List Nat) : repAll [(38, amp), (60, lt), (62, gt)] x = x.flatMap e0 := by
  show rep 62 gt (rep 60 lt (rep 38 amp x)) = _
  rw [show rep 38 amp x = x.flatMap (fun d => if d = 38 then amp else [d]) from rfl, rep_flatMap, rep_flatMap]
  refine congrArg (fun f => List.flatMap f x) (funext fun d => ?_)
  unfold e0
  by_cases h1 : d = 38
  · subst h1; decide
  · rw [if_neg h1, if_neg h1, rep_one]
    by_cases h2 : d = 60
    · subst h2; decide
    · rw [if_neg h2, rep_one, if_neg h2]
theorem base_esc (x : List Nat) : repAll [(38, amp), (60, lt), (62, gt)] x = escL x := by rw [base_flat, escL_flat]

/- sizes -/
theorem count_rep (c : Nat) (z : List Nat) (d : Nat) : ∀ x : List Nat, (rep c z x).count d = (if d = c then 0 else x.count d) + x.count c * z.count d
  | [] => by rw [rep_nil]; simp
  | a :: x => by
    rw [rep_cons, List.count_append, count_rep c z d x]
    by_cases h : a = c
    · subst h
      rw [if_pos rfl, List.count_cons_self, Nat.add_mul]
      by_cases hd : d = a
      · rw [if_pos hd, if_pos hd]; lia
      · rw [if_neg hd, if_neg hd, List.count_cons_of_ne (fun e => hd e.symm)]; lia
    · rw [if_neg h, List.count_cons_of_ne h]
      by_cases hd : d = c
      · rw [if_pos hd, if_pos hd, hd, List.count_cons_of_ne h]; simp
      · rw [if_neg hd, if_neg hd, List.count_cons]
        simp only [List.count_cons, List.count_nil]
        lia
/- how often a sign may stand there -/
noncomputable def CB (b : Nat) (x : List Nat) : Prop := (∀ d, d ≠ 45 → x.count d ≤ b) ∧ x.count 45 ≤ 2 * b
noncomputable def OKz (z : List Nat) : Prop := (∀ d, d ≠ 45 → z.count d ≤ 1) ∧ z.count 45 ≤ 2
theorem CB.le {b : Nat} {x : List Nat} (h : CB b x) (d : Nat) : x.count d ≤ 2 * b := by
  by_cases e : d = 45
  · rw [e]; exact h.2
  · have := h.1 d e; lia
theorem CB.mono {a b : Nat} {x : List Nat} (h : CB a x) (k : a ≤ b) : CB b x := ⟨fun d e => Nat.le_trans (h.1 d e) k, by have := h.2; lia⟩
noncomputable def fac (c : Nat) : Nat := if c = 45 then 4 else 2
theorem CB.rep {b : Nat} {x z : List Nat} (h : CB b x) (hz : OKz z) (c : Nat) : CB (b * fac c) (rep c z x) := by
  unfold fac
  by_cases hc : c = 45
  · subst hc
    rw [if_pos rfl]
    refine ⟨fun d hd => ?_, ?_⟩
    · rw [count_rep, if_neg hd]
      have h1 := h.1 d hd
      have h2 : x.count 45 * z.count d ≤ (2 * b) * 1 := Nat.mul_le_mul h.2 (hz.1 d hd)
      lia
    · rw [count_rep, if_pos rfl]
      have h2 : x.count 45 * z.count 45 ≤ (2 * b) * 2 := Nat.mul_le_mul h.2 hz.2
      lia
  · rw [if_neg hc]
    refine ⟨fun d hd => ?_, ?_⟩
    · rw [count_rep]
      have h1 := h.1 d hd
      have h2 : x.count c * z.count d ≤ b * 1 := Nat.mul_le_mul (h.1 c hc) (hz.1 d hd)
      split <;> lia
    · rw [count_rep, if_neg (fun e => hc e.symm)]
      have h1 := h.2
      have h2 : x.count c * z.count 45 ≤ b * 2 := Nat.mul_le_mul (h.1 c hc) hz.2
      lia
noncomputable def facs : List (Nat × List Nat) → Nat
  | [] => 1
  | p :: ts => fac p.1 * facs ts
theorem facs_pos : ∀ ts, 1 ≤ facs ts
  | [] => Nat.le_refl _
  | p :: ts => by
    have := facs_pos ts
    unfold facs fac
    split <;> lia
theorem CB.all : ∀ {ts : List (Nat × List Nat)} {b : Nat} {x : List Nat}, CB b x → (∀ p ∈ ts, OKz p.2) → CB (b * facs ts) (repAll ts x)
  | [], b, x, h, _ => by rw [facs, Nat.mul_one]; exact h
  | p :: ts, b, x, h, hz => by
    rw [repAll_cons, facs, ← Nat.mul_assoc]
    exact CB.all (h.rep (hz p List.mem_cons_self) p.1) fun q hq => hz q (List.mem_cons_of_mem _ hq)
theorem facs_app (a b : List (Nat × List Nat)) : facs (a ++ b) = facs a * facs b := by
  induction a with
  | nil => rw [List.nil_append, facs, Nat.one_mul]
  | cons p a ih => rw [List.cons_append, facs, facs, ih, Nat.mul_assoc]
theorem facs_take (ts : List (Nat × List Nat)) (i : Nat) : facs (ts.take i) ≤ facs ts := by
  have h := facs_app (ts.take i) (ts.drop i)
  rw [List.take_append_drop] at h
  rw [h]
  exact Nat.le_mul_of_pos_right _ (facs_pos _)
theorem facs_le : ∀ (ts : List (Nat × List Nat)), (ts.map (·.1)).count 45 ≤ 1 → facs ts ≤ 2 ^ (ts.length + (ts.map (·.1)).count 45)
  | [], _ => by decide
  | p :: ts, h => by
    rw [facs, List.map_cons, List.length_cons]
    by_cases hp : p.1 = 45
    · rw [List.map_cons, hp, List.count_cons_self] at h
      rw [hp, List.count_cons_self]
      have ih := facs_le ts (by lia)
      have : (ts.map (·.1)).count 45 = 0 := by lia
      rw [this] at ih ⊢
      rw [show ts.length + 1 + (0 + 1) = ts.length + 0 + 2 by lia, Nat.pow_add]
      unfold fac; rw [if_pos rfl]
      lia
    · rw [List.map_cons, List.count_cons_of_ne hp] at h
      rw [List.count_cons_of_ne hp]
      have ih := facs_le ts h
      rw [show ts.length + 1 + (ts.map (·.1)).count 45 = ts.length + (ts.map (·.1)).count 45 + 1 by lia, Nat.pow_succ]
      unfold fac; rw [if_neg hp]
      lia
theorem len_le_alpha (al : List Nat) (B : Nat) (x : List Nat) (hs : ∀ c ∈ x, c ∈ al) (hb : ∀ d, x.count d ≤ B) : x.length ≤ al.length * B := by
  have h1 : ∀ (al : List Nat), (al.map fun d => x.count d).sum ≤ al.length * B := fun al => by
    induction al with
    | nil => simp
    | cons a al ih =>
      rw [List.map_cons, List.sum_cons, List.length_cons, Nat.add_mul, Nat.one_mul]
      have := hb a
      lia
  have h2 : x.length ≤ (al.map fun d => x.count d).sum := by
    clear h1 hb
    induction x with
    | nil => simp
    | cons c x ih =>
      have ih := ih fun d hd => hs d (List.mem_cons_of_mem _ hd)
      have hc := hs c List.mem_cons_self
      have h3 : ∀ (al : List Nat), (al.map fun d => (c :: x).count d).sum = (al.map fun d => x.count d).sum + al.count c := fun al => by
        induction al with
        | nil => simp
        | cons a al ih2 =>
          rw [List.map_cons, List.sum_cons, ih2, List.map_cons, List.sum_cons, List.count_cons, List.count_cons]
          by_cases e : c = a
          · subst e; simp; lia
          · have e1 : (c == a) = false := by simpa using e
            have e2 : (a == c) = false := by simpa using fun q => e q.symm
            rw [e1, e2]; simp; lia
      rw [h3, List.length_cons]
      have : 1 ≤ al.count c := List.count_pos_iff.mpr hc
      lia
  exact Nat.le_trans h2 (h1 al)
theorem rep_sub {c : Nat} {z x al : List Nat} (hx : ∀ d ∈ x, d ∈ al) (hz : ∀ d ∈ z, d ∈ al) : ∀ d ∈ rep c z x, d ∈ al := by
  intro d hd
  unfold rep at hd
  obtain ⟨a, ha, h⟩ := List.mem_flatMap.mp hd
  split at h
  · exact hz d h
  · rw [List.mem_singleton.mp h]; exact hx a ha
theorem repAll_sub : ∀ {ts : List (Nat × List Nat)} {x al : List Nat}, (∀ d ∈ x, d ∈ al) → (∀ p ∈ ts, ∀ d ∈ p.2, d ∈ al) → ∀ d ∈ repAll ts x, d ∈ al
  | [], _, _, hx, _ => hx
  | p :: ts, x, al, hx, hz => by
    rw [repAll_cons]
    exact repAll_sub (rep_sub hx (hz p List.mem_cons_self)) fun q hq => hz q (List.mem_cons_of_mem _ hq)
theorem fits_ok : ∀ (ts : List (Nat × List Nat)) (x al : List Nat) (b : Nat), CB b x → (∀ c ∈ x, c ∈ al) → al.length ≤ 40 → (∀ p ∈ ts, OKz p.2 ∧ (∀ d ∈ p.2, d ∈ al) ∧ p.2.length ≤ 6) → b * facs ts ≤ 60000 → Fits (turnPairs ts) x
  | [], _, _, _, _, _, _, _, _ => trivial
  | p :: ts, x, al, b, hb, hx, ha, hz, hf => by
    obtain ⟨z1, z2, z3⟩ := hz p List.mem_cons_self
    have hsz : sizeLine = 16777216 := by decide
    have hfp := facs_pos ts
    have hb6 : b * fac p.1 ≤ 60000 := by
      rw [facs, ← Nat.mul_assoc] at hf
      exact Nat.le_trans (Nat.le_mul_of_pos_right _ hfp) hf
    have hb0 : b ≤ 60000 := Nat.le_trans (Nat.le_mul_of_pos_right b (by unfold fac; split <;> lia)) hb6
    have hl := len_le_alpha al (2 * b) x hx fun d => hb.le d
    have hl2 : al.length * (2 * b) ≤ 40 * 120000 := Nat.mul_le_mul ha (by lia)
    have hb' := hb.rep z1 p.1
    have hx' := rep_sub (c := p.1) hx z2
    have hl3 := len_le_alpha al (2 * (b * fac p.1)) _ hx' fun d => hb'.le d
    have hl4 : al.length * (2 * (b * fac p.1)) ≤ 40 * 120000 := Nat.mul_le_mul ha (by lia)
    have hocc : occ x [p.1] = x.count p.1 := by unfold occ; exact occ_count x p.1
    have hc := hb.le p.1
    have hm : occ x [p.1] * p.2.length ≤ 120000 * 6 := Nat.mul_le_mul (by rw [hocc]; lia) z3
    refine ⟨by simp, by lia, ?_, ?_⟩
    · rw [replL_one]; lia
    · rw [replL_one]
      exact fits_ok ts _ al _ hb' hx' ha (fun q hq => hz q (List.mem_cons_of_mem _ hq)) (by rw [facs, ← Nat.mul_assoc] at hf; exact hf)
theorem esc_count (d : Nat) : ∀ x : List Nat, (x.flatMap e0).count d ≤ x.length
  | [] => by simp
  | c :: x => by
    rw [List.flatMap_cons, List.count_append, List.length_cons]
    have ih := esc_count d x
    have h1 : (e0 c).count d ≤ 1 := by
      have ha : ∀ z : List Nat, z.Nodup → z.count d ≤ 1 := fun z hz => List.nodup_iff_count.mp hz d
      unfold e0
      split
      · exact ha _ (by decide)
      · split
        · exact ha _ (by decide)
        · split
          · exact ha _ (by decide)
          · exact ha _ (by simp)
    lia
theorem esc_CB (x : List Nat) : CB x.length (escL x) := by
  rw [escL_flat]
  exact ⟨fun d _ => esc_count d x, by have := esc_count 45 x; lia⟩
end

/- P2 -/
/- plain: the turns are the merged table behind the three -/
section
open PySem PySem.W PyProof.Rows
theorem lk_mem : ∀ {ws : List Pr} {e : Pr}, (ws.map (·.1)).Nodup → e ∈ ws → ws.lookup e.1 = some e.2
  | p :: ws, e, hn, he => by
    rw [List.map_cons, List.nodup_cons] at hn
    rcases List.mem_cons.mp he with rfl | he
    · rw [show e :: ws = (e.1, e.2) :: ws from rfl, List.lookup_cons, beq_self_eq_true]
    · have hne : e.1 ≠ p.1 := fun q => hn.1 (List.mem_map.mpr ⟨e, he, q⟩)
      have hb : (e.1 == p.1) = false := beq_eq_false_iff_ne.mpr hne
      rw [show p :: ws = (p.1, p.2) :: ws from rfl, List.lookup_cons, hb]
      exact lk_mem hn.2 he
theorem lk_some : ∀ {ws : List Pr} {k z : List Nat}, ws.lookup k = some z → (k, z) ∈ ws
  | p :: ws, k, z, h => by
    rw [show p :: ws = (p.1, p.2) :: ws from rfl, List.lookup_cons] at h
    by_cases e : k = p.1
    · rw [e, beq_self_eq_true] at h
      simp only [Option.some.injEq] at h
      rw [e, ← h]; exact List.mem_cons_self
    · rw [show (k == p.1) = false from beq_eq_false_iff_ne.mpr e] at h
      exact List.mem_cons_of_mem _ (lk_some h)
theorem merge_eq : ∀ (more ws : List Pr), (more.map (·.1)).Nodup → (ws.map (·.1)).Nodup → mergeW ws more = ws.map (fun e => (e.1, (more.lookup e.1).getD e.2)) ++ more.filter (fun e => !decide (e.1 ∈ ws.map (·.1)))
  | [], ws, _, _ => by
    show ws = _
    simp
  | n :: more, ws, hm, hw => by
    rw [List.map_cons, List.nodup_cons] at hm
    have hnl : more.lookup n.1 = none := lookup_non hm.1
    have lkn : ∀ k, (n :: more).lookup k = if k = n.1 then some n.2 else more.lookup k := fun k => by
      rw [show n :: more = (n.1, n.2) :: more from rfl, List.lookup_cons]
      by_cases e : k = n.1
      · rw [if_pos e, e, beq_self_eq_true]
      · rw [if_neg e, show (k == n.1) = false from beq_eq_false_iff_ne.mpr e]
    show mergeW (putW ws n) more = _
    by_cases h : n.1 ∈ ws.map (·.1)
    · have hp : putW ws n = ws.map (fun e => if e.1 = n.1 then (e.1, n.2) else e) := by unfold putW; rw [if_pos h]
      have hk : (putW ws n).map (·.1) = ws.map (·.1) := by
        rw [hp, List.map_map]
        refine List.map_congr_left fun e _ => ?_
        show (if e.1 = n.1 then (e.1, n.2) else e).1 = e.1
        split <;> rfl
      rw [merge_eq more (putW ws n) hm.2 (by rw [hk]; exact hw), hk, hp, List.map_map, List.filter_cons]
      rw [if_neg (by simp [h])]
      congr 1
      refine List.map_congr_left fun e _ => ?_
      show ((if e.1 = n.1 then (e.1, n.2) else e).1, (more.lookup (if e.1 = n.1 then (e.1, n.2) else e).1).getD (if e.1 = n.1 then (e.1, n.2) else e).2) = _
      rw [lkn]
      by_cases e1 : e.1 = n.1
      · rw [if_pos e1, if_pos e1]
        show (e.1, (more.lookup e.1).getD n.2) = _
        rw [e1, hnl]; rfl
      · rw [if_neg e1, if_neg e1]
    · have hp : putW ws n = ws ++ [n] := by unfold putW; rw [if_neg h]
      have hk : (putW ws n).map (·.1) = ws.map (·.1) ++ [n.1] := by rw [hp, List.map_append]; rfl
      have hnd : (ws.map (·.1) ++ [n.1]).Nodup := by
        rw [List.nodup_append]
        exact ⟨hw, by simp, fun a ha b hb e => h (by rw [List.mem_singleton.mp hb] at e; rw [← e]; exact ha)⟩
      rw [merge_eq more (putW ws n) hm.2 (by rw [hk]; exact hnd), hk, hp, List.map_append, List.filter_cons, if_pos (by simp [h])]
      rw [List.append_assoc]
      congr 1
      · refine List.map_congr_left fun e he => ?_
        rw [lkn, if_neg (fun q => h (by rw [← q]; exact List.mem_map.mpr ⟨e, he, rfl⟩))]
      · rw [List.map_cons, List.map_nil, hnl]
        show (n.1, n.2) :: _ = _
        congr 1
        refine List.filter_congr fun e he => ?_
        have hne : e.1 ≠ n.1 := fun q => hm.1 (List.mem_map.mpr ⟨e, he, q⟩)
        congr 1
        exact decide_eq_decide.mpr ⟨fun q => (List.mem_append.mp q).resolve_right (fun r => hne (List.mem_singleton.mp r)), fun q => List.mem_append_left _ q⟩
theorem own_nodup (wh : Bool) : ((ownW wh).map (·.1)).Nodup := by cases wh <;> decide
theorem turns_eq {ws : List Pr} (hw : (ws.map (·.1)).Nodup) (wh : Bool) : turnsW ws wh = base3 ++ mergeW ws (ownW wh) := by
  unfold turnsW
  rw [merge_eq _ _ (own_nodup wh) hw, List.append_assoc]
  congr 1
  congr 1
  · rw [List.map_map]
    refine List.map_congr_left fun e he => ?_
    show (e.1, ((ownW wh).lookup e.1).getD ((ws.lookup e.1).getD [])) = _
    rw [lk_mem hw he]; rfl
  · have key : ∀ (own : List Pr), (own.map (·.1)).Nodup → ∀ (q : List Nat → Bool), ((own.map (·.1)).filter q).map (fun k => (k, (own.lookup k).getD [])) = own.filter fun e => q e.1 := fun own hn q => by
      rw [List.filter_map, List.map_map]
      have : ∀ e ∈ own.filter (q ∘ fun e => e.1), (fun k => (k, (own.lookup k).getD [])) e.1 = e := fun e he => by
        show (e.1, (own.lookup e.1).getD []) = e
        rw [lk_mem hn (List.mem_filter.mp he).1]; rfl
      exact (List.map_congr_left this).trans (List.map_id _)
    exact key _ (own_nodup wh) _
noncomputable def valsAll : List (List Nat) := [amp, lt, gt, nl10, nl13, nl9, quot] ++ valsL
noncomputable def al0 : List Nat := [38, 97, 109, 112, 59, 108, 116, 103, 35, 49, 48, 51, 57, 113, 117, 111, 120, 45, 34, 39, 10, 60, 76]
theorem okz_of {z : List Nat} (h1 : (z.filter (· != 45)).Nodup) (h2 : z.count 45 ≤ 2) : OKz z := ⟨fun d hd => by
  have h := List.nodup_iff_count.mp h1 d
  rw [List.count_filter (by simpa using hd)] at h
  exact h, h2⟩
theorem vals_ok : ∀ z ∈ valsAll, OKz z ∧ (∀ d ∈ z, d ∈ al0) ∧ z.length ≤ 6 := fun z hz => by
  have h := (by decide : ∀ z ∈ valsAll, (z.filter (· != 45)).Nodup ∧ z.count 45 ≤ 2 ∧ (∀ d ∈ z, d ∈ al0) ∧ z.length ≤ 6) z hz
  exact ⟨okz_of h.1 h.2.1, h.2.2.1, h.2.2.2⟩
/- the words are of the kind that the draw makes -/
noncomputable abbrev WOK (ws : List Pr) : Prop := ∀ e ∈ ws, (∃ c, e.1 = [c] ∧ c < 128) ∧ e.2 ∈ valsAll
theorem wok_of {ws : List Pr} (h : WordsOK ws) : WOK ws := fun e he => ⟨(h e he).1, List.mem_append_right _ (h e he).2⟩
theorem wok_own (wh : Bool) : WOK (ownW wh) := by
  cases wh
  · exact fun _ h => nomatch h
  · intro e he
    simp only [ownW, white, if_true, List.mem_cons, List.not_mem_nil, or_false] at he
    rcases he with rfl | rfl | rfl
    · exact ⟨⟨10, rfl, by decide⟩, by decide⟩
    · exact ⟨⟨13, rfl, by decide⟩, by decide⟩
    · exact ⟨⟨9, rfl, by decide⟩, by decide⟩
theorem wok_base : WOK base3 := by
  intro e he
  simp only [base3, List.mem_cons, List.not_mem_nil, or_false] at he
  rcases he with rfl | rfl | rfl
  · exact ⟨⟨38, rfl, by decide⟩, by decide⟩
  · exact ⟨⟨60, rfl, by decide⟩, by decide⟩
  · exact ⟨⟨62, rfl, by decide⟩, by decide⟩
theorem wok_merge {ws own : List Pr} (hw : WOK ws) (ho : WOK own) (hn : (ws.map (·.1)).Nodup) (hno : (own.map (·.1)).Nodup) : WOK (mergeW ws own) := by
  rw [merge_eq own ws hno hn]
  intro e he
  rcases List.mem_append.mp he with he | he
  · obtain ⟨e₀, he₀, rfl⟩ := List.mem_map.mp he
    refine ⟨(hw e₀ he₀).1, ?_⟩
    show ((own.lookup e₀.1).getD e₀.2) ∈ valsAll
    cases q : own.lookup e₀.1 with
    | none => exact (hw e₀ he₀).2
    | some z => exact (ho _ (lk_some q)).2
  · exact ho e (List.mem_filter.mp he).1
theorem merge_keys {ws own : List Pr} (hn : (ws.map (·.1)).Nodup) (hno : (own.map (·.1)).Nodup) : ((mergeW ws own).map (·.1)).Nodup := by
  rw [merge_eq own ws hno hn, List.map_append, List.nodup_append]
  refine ⟨by rw [List.map_map]; exact hn, (hno.sublist ((List.filter_sublist).map _)), fun a ha b hb e => ?_⟩
  rw [List.map_map] at ha
  obtain ⟨e₁, h₁, rfl⟩ := List.mem_map.mp hb
  have := (List.mem_filter.mp h₁).2
  simp only [Bool.not_eq_true', decide_eq_false_iff_not] at this
  exact this (e ▸ ha)
theorem merge_len {ws own : List Pr} (hn : (ws.map (·.1)).Nodup) (hno : (own.map (·.1)).Nodup) : (mergeW ws own).length ≤ ws.length + own.length := by
  rw [merge_eq own ws hno hn, List.length_append, List.length_map]
  have := List.length_filter_le (fun e : Pr => !decide (e.1 ∈ ws.map (·.1))) own
  lia
/- words with one sign as their key, as turns -/
noncomputable def toT (ws : List Pr) : List (Nat × List Nat) := ws.map fun p => (p.1.headD 0, p.2)
theorem toT_pairs {ws : List Pr} (h : WOK ws) : turnPairs (toT ws) = ws := by
  unfold turnPairs toT
  rw [List.map_map]
  refine (List.map_congr_left fun e he => ?_).trans (List.map_id _)
  obtain ⟨⟨c, hc, _⟩, _⟩ := h e he
  show ([e.1.headD 0], e.2) = e
  rw [hc]
  exact Prod.ext hc.symm rfl
theorem toT_ok {ws : List Pr} (h : WOK ws) : ∀ p ∈ toT ws, p.1 < 128 ∧ OKz p.2 ∧ (∀ d ∈ p.2, d ∈ al0) ∧ p.2.length ≤ 6 := by
  intro p hp
  obtain ⟨e, he, rfl⟩ := List.mem_map.mp hp
  obtain ⟨⟨c, hc, h128⟩, hv⟩ := h e he
  refine ⟨by show e.1.headD 0 < 128; rw [hc]; exact h128, vals_ok _ hv⟩
theorem toT_count {ws : List Pr} (h : WOK ws) (hn : (ws.map (·.1)).Nodup) : ((toT ws).map (·.1)).count 45 ≤ 1 := by
  refine List.nodup_iff_count.mp ?_ 45
  unfold toT
  rw [List.map_map, List.Nodup, List.pairwise_map]
  rw [List.Nodup, List.pairwise_map] at hn
  refine hn.imp_of_mem fun {a b} ha hb hne e => hne ?_
  obtain ⟨⟨c, hc, _⟩, _⟩ := h a ha
  obtain ⟨⟨d, hd, _⟩, _⟩ := h b hb
  have e : a.1.headD 0 = b.1.headD 0 := e
  rw [hc, hd] at e ⊢
  simp at e
  rw [e]
theorem toT_facs {ws : List Pr} (h : WOK ws) (hn : (ws.map (·.1)).Nodup) (hl : ws.length ≤ 10) : facs (toT ws) ≤ 2048 := by
  have h1 := toT_count h hn
  have h2 := facs_le (toT ws) h1
  have h3 : (toT ws).length = ws.length := by unfold toT; rw [List.length_map]
  refine Nat.le_trans h2 (Nat.le_trans (Nat.pow_le_pow_right (by decide) (show _ ≤ 11 by lia)) (by decide))
end

/- P3 -/
/- plain: the numbers put the strange signs in their places -/
section
open PySem PySem.W PyProof.Rows
section
variable (f : Nat → List Nat) (n : Nat)
noncomputable def preL (S : Nat → Bool) (i : Nat) : List Nat := ((List.range i).filter S).flatMap f
noncomputable def sufL (S : Nat → Bool) (i : Nat) : List Nat := ((List.range' i (n - i)).filter S).flatMap f
theorem pre_succ (S : Nat → Bool) (i : Nat) : preL f S (i + 1) = preL f S i ++ (if S i = true then f i else []) := by
  unfold preL
  rw [List.range_succ, List.filter_append, List.flatMap_append]
  congr 1
  by_cases h : S i = true
  · rw [if_pos h, List.filter_cons, if_pos h]; simp
  · rw [if_neg h, List.filter_cons, if_neg h]; simp
theorem suf_succ (S : Nat → Bool) {i : Nat} (h : i < n) : sufL f n S i = (if S i = true then f i else []) ++ sufL f n S (i + 1) := by
  unfold sufL
  rw [show n - i = (n - (i + 1)) + 1 by lia, List.range'_succ, List.filter_cons]
  by_cases h : S i = true
  · rw [if_pos h, if_pos h, List.flatMap_cons]
  · rw [if_neg h, if_neg h, List.nil_append]
theorem pre_suf (S : Nat → Bool) {i : Nat} (h : i ≤ n) : preL f S n = preL f S i ++ sufL f n S i := by
  unfold preL sufL
  rw [← List.flatMap_append, ← List.filter_append]
  congr 2
  rw [List.range_eq_range', List.range_eq_range']
  have := List.range'_append_1 (s := 0) (m := i) (n := n - i)
  rw [Nat.zero_add, show i + (n - i) = n by lia] at this
  exact this.symm
theorem pre_congr {S S' : Nat → Bool} {i : Nat} (h : ∀ j, j < i → S j = S' j) : preL f S i = preL f S' i := by
  unfold preL
  rw [List.filter_congr fun j hj => h j (List.mem_range.mp hj)]
theorem suf_congr {S S' : Nat → Bool} {i : Nat} (h : ∀ j, i ≤ j → S j = S' j) : sufL f n S i = sufL f n S' i := by
  unfold sufL
  rw [List.filter_congr fun j hj => h j (List.mem_range'_1.mp hj).1]
theorem pre_len_mono (S : Nat → Bool) {i : Nat} : ∀ {j : Nat}, i ≤ j → (preL f S i).length ≤ (preL f S j).length
  | 0, h => by rw [Nat.le_zero.mp h]; exact Nat.le_refl _
  | j + 1, h => by
    rcases Nat.lt_or_ge i (j + 1) with h' | h'
    · refine Nat.le_trans (pre_len_mono S (show i ≤ j by lia)) ?_
      rw [pre_succ, List.length_append]; lia
    · rw [show i = j + 1 by lia]; exact Nat.le_refl _
end
section
variable (sg : List Nat) (cells : List (List Nat)) (mark : List Nat)
noncomputable def fC (i : Nat) : List Nat := cells.getD i []
noncomputable def inS (done : List (Nat × Nat)) (j : Nat) : Bool := decide (sg.getD j 0 < 128) || decide ((sg.getD j 0, j) ∈ done)
noncomputable def partL (done : List (Nat × Nat)) : List Nat := mark ++ preL (fC cells) (inS sg done) sg.length ++ mark
theorem spot_wide (lead : Int) (high : Nat) (S : Nat → Bool) : ∀ i, i ≤ sg.length → (∀ j, j < i → S j = decide (sg.getD j 0 ≤ high)) → (∀ j, j < i → S j = false → (fC cells j).length = 1) →
    ((preL (fC cells) S i).length : Int) + lead = spotF sg high i + wideF cells lead i
  | 0, _, _, _ => by simp [preL, spotF, wideF]
  | i + 1, h, hS, h1 => by
    have ih := spot_wide lead high S i (by lia) (fun j hj => hS j (by lia)) (fun j hj => h1 j (by lia))
    have hlt : i < sg.length := by lia
    have hSi := hS i (by lia)
    have hgd : sg.getD i 0 = sg[i] := by simp [hlt]
    have hw : wideF cells lead (i + 1) = wideF cells lead i + (((fC cells i).length : Int) - 1) := by
      unfold wideF fC
      rw [List.range_succ, List.map_append, List.sum_append]
      simp; lia
    have hsp : (spotF sg high (i + 1) : Int) = spotF sg high i + (if S i = true then 1 else 0) := by
      unfold spotF
      rw [List.take_add_one, List.getElem?_eq_getElem hlt, Option.toList_some, List.filter_append, List.length_append, List.filter_cons]
      rw [hSi, hgd]
      by_cases q : sg[i] ≤ high
      · rw [if_pos (by simpa using q), if_pos (by simpa using q)]; simp
      · rw [if_neg (by simpa using q), if_neg (by simpa using q)]; simp
    rw [pre_succ, List.length_append, hw, hsp]
    by_cases q : S i = true
    · rw [if_pos q, if_pos q]; lia
    · have := h1 i (by lia) (by simpa using q)
      rw [if_neg q, if_neg q, this]
      simp; lia
end
theorem pkey_lt {p q : Nat × Nat} (h : pkey p < pkey q) (hq : q.2 < 64) : p.1 ≤ q.1 := by unfold pkey at h; lia
theorem pkey_eq {p q : Nat × Nat} (h : pkey p < pkey q) (e : q.1 = p.1) : p.2 < q.2 := by unfold pkey at h; lia
theorem nums_go {sg : List Nat} {cells : List (List Nat)} {mark : List Nat} {order : List (Nat × Nat)} (hn60 : sg.length ≤ 60) (hcell : ∀ i, i < sg.length → 128 ≤ sg.getD i 0 → cells.getD i [] = [sg.getD i 0]) (hcod : ∀ i, i < sg.length → sg.getD i 0 ≤ 55295)
    (perm : order.Perm (pairsF sg)) (pw : order.Pairwise (fun p q => pkey p < pkey q)) (more lead : Int) (hlead : lead = mark.length) :
    ∀ (r done : List (Nat × Nat)), order = done ++ r → ∀ (code : Nat) (place grown inside : Int) (pos1 : Nat), place + grown + 1 = pos1 → ((partL sg cells mark done).length : Int) = inside + more → (∀ p ∈ r, code ≤ p.1) →
      (pos1 = 0 ∨ ∃ i0, i0 < sg.length ∧ pos1 = mark.length + (preL (fC cells) (inS sg done) (i0 + 1)).length ∧ ∀ p ∈ r, p.1 = code → i0 < p.2) → pos1 ≤ (partL sg cells mark done).length → (partL sg cells mark done).length + r.length ≤ 9000000 →
      ∃ ds : List Nat, numsG sg cells more lead r code place grown inside = ds.map Int.ofNat ∧ ds.length = r.length ∧ (∀ d ∈ ds, d < 10 ^ 18) ∧ insOK (partL sg cells mark done) ds code pos1 ∧ insS (partL sg cells mark done) ds code pos1 = partL sg cells mark order
  | [], done, ho, code, place, grown, inside, pos1, _, _, _, _, _, _ => ⟨[], rfl, rfl, (fun _ h => nomatch h), trivial, by rw [ho, List.append_nil]; rfl⟩
  | p :: r, done, ho, code, place, grown, inside, pos1, hpl, hbl, hcode, hpos, hp1, hbig => by
    obtain ⟨high, i⟩ := p
    have hmem : (high, i) ∈ order := by rw [ho]; simp
    obtain ⟨hi, hhigh, h127⟩ := pairsF_mem (perm.mem_iff.mp hmem)
    dsimp only at hi hhigh h127
    have hidx : ∀ q ∈ order, q.2 < 64 := fun q hq => by have := (pairsF_mem (perm.mem_iff.mp hq)).1; lia
    rw [ho, List.pairwise_append] at pw
    obtain ⟨pwd, pwr, pwx⟩ := pw
    rw [List.pairwise_cons] at pwr
    have hcp : code ≤ high := hcode _ List.mem_cons_self
    have hh : high ≤ 55295 := by rw [hhigh]; exact hcod i hi
    have hfi : fC cells i = [high] := by unfold fC; rw [hcell i hi (by lia), ← hhigh]
    -- who is in, ahead of i
    have hS : ∀ j, j < i → inS sg done j = decide (sg.getD j 0 ≤ high) := fun j hj => by
      unfold inS
      by_cases h1 : sg.getD j 0 ≤ high
      · rw [decide_eq_true h1]
        by_cases h2 : sg.getD j 0 < 128
        · rw [decide_eq_true h2]; rfl
        · have hjm : (sg.getD j 0, j) ∈ order := by
            refine perm.mem_iff.mpr ?_
            unfold pairsF
            refine List.mem_map.mpr ⟨j, List.mem_filter.mpr ⟨List.mem_range.mpr (by lia), ?_⟩, rfl⟩
            exact decide_eq_true (by lia)
          rw [ho] at hjm
          rcases List.mem_append.mp hjm with q | q
          · rw [decide_eq_true q]; simp
          · rcases List.mem_cons.mp q with q | q
            · have := (Prod.mk.inj q).2; lia
            · have := pwr.1 _ q
              unfold pkey at this
              dsimp only at this
              lia
      · rw [decide_eq_false h1, decide_eq_false (by lia), decide_eq_false (fun q => h1 ?_)]; rfl
        have := pwx _ q _ List.mem_cons_self
        exact pkey_lt this (by show i < 64; lia)
    have hSi : inS sg done i = false := by
      unfold inS
      rw [← hhigh, decide_eq_false (by lia), decide_eq_false (fun q => ?_)]; rfl
      have := pwx _ q _ List.mem_cons_self
      lia
    have hS' : ∀ j, j ≠ i → inS sg (done ++ [(high, i)]) j = inS sg done j := fun j hj => by
      unfold inS
      congr 1
      refine decide_eq_decide.mpr ⟨fun q => ?_, fun q => List.mem_append_left _ q⟩
      rcases List.mem_append.mp q with q | q
      · exact q
      · exact absurd (Prod.mk.inj (List.mem_singleton.mp q)).2 hj
    have hSi' : inS sg (done ++ [(high, i)]) i = true := by
      unfold inS
      rw [← hhigh, decide_eq_true (show (high, i) ∈ done ++ [(high, i)] by simp)]; simp
    have hother : ∀ j, j < i → inS sg done j = false → (fC cells j).length = 1 := fun j hj e => by
      rw [hS j hj] at e
      have := of_decide_eq_false e
      unfold fC
      rw [hcell j (by lia) (by lia)]; rfl
    -- the text, cut at the place
    have hbase : partL sg cells mark done = (mark ++ preL (fC cells) (inS sg done) i) ++ (sufL (fC cells) sg.length (inS sg done) (i + 1) ++ mark) := by
      unfold partL
      rw [pre_suf (fC cells) sg.length _ (Nat.le_of_lt hi), suf_succ (fC cells) sg.length _ hi, hSi]
      simp
    have hbase' : partL sg cells mark (done ++ [(high, i)]) = (mark ++ preL (fC cells) (inS sg done) i) ++ high :: (sufL (fC cells) sg.length (inS sg done) (i + 1) ++ mark) := by
      unfold partL
      rw [pre_suf (fC cells) sg.length _ (Nat.le_of_lt hi), suf_succ (fC cells) sg.length _ hi, hSi', if_pos rfl, hfi,
        pre_congr (fC cells) (S' := inS sg done) (fun j hj => hS' j (by lia)), suf_congr (fC cells) sg.length (S' := inS sg done) (fun j hj => hS' j (by lia))]
      simp
    generalize hpos' : mark.length + (preL (fC cells) (inS sg done) i).length = pos
    have hpl' : (mark ++ preL (fC cells) (inS sg done) i).length = pos := by rw [List.length_append]; exact hpos'
    have hposle : pos ≤ (partL sg cells mark done).length := by rw [hbase, List.length_append, hpl']; lia
    have hL0 : 0 < (partL sg cells mark done).length + 1 := by lia
    have hge : pos1 ≤ pos + (high - code) * ((partL sg cells mark done).length + 1) := by
      by_cases e : high = code
      · rcases hpos with h0 | ⟨i0, h1, h2, h3⟩
        · lia
        · have h4 : i0 < i := h3 _ List.mem_cons_self e
          have h5 := pre_len_mono (fC cells) (inS sg done) (show i0 + 1 ≤ i by lia)
          lia
      · have : (partL sg cells mark done).length + 1 ≤ (high - code) * ((partL sg cells mark done).length + 1) := Nat.le_mul_of_pos_left _ (by lia)
        lia
    have hsw := spot_wide sg cells lead high (inS sg done) i (by lia) hS hother
    obtain ⟨d, hd⟩ : ∃ d, d = pos + (high - code) * ((partL sg cells mark done).length + 1) - pos1 := ⟨_, rfl⟩
    have hpd : pos1 + d = pos + (high - code) * ((partL sg cells mark done).length + 1) := by lia
    have hmod : (pos1 + d) % ((partL sg cells mark done).length + 1) = pos := by
      rw [hpd, Nat.add_mul_mod_self_right, Nat.mod_eq_of_lt (by lia)]
    have hdiv : (pos1 + d) / ((partL sg cells mark done).length + 1) = high - code := by
      rw [hpd, Nat.add_mul_div_right _ _ hL0, Nat.div_eq_of_lt (by lia), Nat.zero_add]
    have hch : code + (high - code) = high := by lia
    have hins : (partL sg cells mark done).take pos ++ high :: (partL sg cells mark done).drop pos = partL sg cells mark (done ++ [(high, i)]) := by
      rw [hbase', hbase, List.take_left' hpl', List.drop_left' hpl']
    have hlen' : (partL sg cells mark (done ++ [(high, i)])).length = (partL sg cells mark done).length + 1 := by
      rw [hbase', hbase]; simp; lia
    have hr64 : ∀ q ∈ r, q.2 < 64 := fun q hq => hidx q (by rw [ho]; simp [hq])
    obtain ⟨ds, e1, e2, e3, e4, e5⟩ := nums_go hn60 hcell hcod perm (by rw [ho, List.pairwise_append]; exact ⟨pwd, List.pairwise_cons.mpr pwr, pwx⟩) more lead hlead r (done ++ [(high, i)]) (by rw [ho]; simp) high (spotF sg high i) (wideF cells lead i) (inside + 1) (pos + 1)
      (by lia) (by lia) (fun q hq => pkey_lt (pwr.1 q hq) (hr64 q hq))
      (.inr ⟨i, hi, by rw [pre_succ, hSi', if_pos rfl, hfi, List.length_append, pre_congr (fC cells) (S' := inS sg done) (fun j hj => hS' j (by lia))]; simp; lia, fun q hq e => pkey_eq (pwr.1 q hq) e⟩)
      (by lia) (by rw [hlen']; simp at hbig; lia)
    refine ⟨d :: ds, ?_, by simp [e2], fun x hx => ?_, ?_, ?_⟩
    · rw [numsG, List.map_cons, ← e1]
      congr 1
      have hm : ((high : Int) - code) * (inside + 1) + more * ((high : Int) - code) = ((high - code : Nat) : Int) * (((partL sg cells mark done).length + 1 : Nat) : Int) := by
        rw [Int.mul_comm more, ← Int.mul_add]
        congr 1
        · lia
        · lia
      have hd2 : (d : Int) = pos + ((high - code : Nat) : Int) * (((partL sg cells mark done).length + 1 : Nat) : Int) - pos1 := by
        rw [← Int.natCast_mul]; lia
      show _ = (d : Int)
      dsimp only
      lia
    · rcases List.mem_cons.mp hx with rfl | hx
      · have h1 : (high - code) * ((partL sg cells mark done).length + 1) ≤ 55295 * 9000001 := Nat.mul_le_mul (by lia) (by simp at hbig; lia)
        simp at hbig
        lia
      · exact e3 x hx
    · show code + (pos1 + d) / _ ≤ 1114111 ∧ insOK _ _ _ _
      rw [hmod, hdiv, hch, hins]
      exact ⟨by lia, e4⟩
    · rw [insS]
      rw [hmod, hdiv, hch, hins]
      exact e5
theorem part_len (q : Nat → Bool) : ∀ l : List Nat, (l.filter q).length + (l.filter fun c => !q c).length = l.length
  | [] => rfl
  | c :: l => by
    have ih := part_len q l
    rw [List.filter_cons, List.filter_cons, List.length_cons]
    cases q c <;> simp <;> lia
theorem range_getD (sg : List Nat) : (List.range sg.length).map (fun i => sg.getD i 0) = sg := by
  refine List.ext_getElem? fun i => ?_
  rw [List.getElem?_map]
  by_cases h : i < sg.length
  · rw [List.getElem?_range h]; simp [h]
  · simp [h]
theorem range_getL {cells : List (List Nat)} {n : Nat} (h : cells.length = n) : (List.range n).flatMap (fC cells) = cells.flatten := by
  have e : (List.range n).map (fC cells) = cells := by
    subst h
    refine List.ext_getElem? fun i => ?_
    rw [List.getElem?_map]
    by_cases h : i < cells.length
    · rw [List.getElem?_range h]; simp [fC, h]
    · simp [h]
  rw [List.flatMap_def, e]
theorem plain_len (sg : List Nat) : (plainF sg).length + (pairsF sg).length = sg.length := by
  have h1 : (pairsF sg).length = (sg.filter fun c : Nat => !decide ((c : Int) < 128)).length := by
    unfold pairsF
    rw [List.length_map]
    conv => rhs; rw [← range_getD sg]
    rw [List.filter_map, List.length_map]
    congr 1
    refine List.filter_congr fun i _ => ?_
    show decide (((sg.getD i 0 : Nat) : Int) > 127) = !decide (((sg.getD i 0 : Nat) : Int) < 128)
    rw [Bool.eq_iff_iff]; simp; lia
  rw [h1]
  exact part_len _ _
theorem head_part (sg : List Nat) (cells : List (List Nat)) (mark : List Nat) : mark ++ (pick sg cells).flatten ++ mark = partL sg cells mark [] := by
  unfold partL pick preL
  rw [← List.flatMap_def]
  congr 3
  refine List.filter_congr fun i _ => ?_
  unfold inS
  have e : decide (((sg.getD i 0 : Nat) : Int) < 128) = decide (sg.getD i 0 < 128) := decide_eq_decide.mpr (by lia)
  rw [e]; simp
theorem want_part {sg : List Nat} {cells : List (List Nat)} {mark : List Nat} {order : List (Nat × Nat)} (hcl : cells.length = sg.length) (perm : order.Perm (pairsF sg)) : mark ++ cells.flatten ++ mark = partL sg cells mark order := by
  unfold partL preL
  have e : (List.range sg.length).filter (inS sg order) = List.range sg.length := by
    refine List.filter_eq_self.mpr fun j hj => ?_
    unfold inS
    by_cases h : sg.getD j 0 < 128
    · rw [decide_eq_true h]; rfl
    · have : (sg.getD j 0, j) ∈ order := by
        refine perm.mem_iff.mpr ?_
        unfold pairsF
        exact List.mem_map.mpr ⟨j, List.mem_filter.mpr ⟨hj, decide_eq_true (by lia)⟩, rfl⟩
      rw [decide_eq_true this]; simp
  rw [e, range_getL hcl]
theorem nums_ok {sg : List Nat} {cells : List (List Nat)} {mark : List Nat} (hn60 : sg.length ≤ 60) (hcl : cells.length = sg.length) (hcell : ∀ i, i < sg.length → 128 ≤ sg.getD i 0 → cells.getD i [] = [sg.getD i 0]) (hcod : ∀ c ∈ sg, c ≤ 55295)
    (hbig : (mark ++ (pick sg cells).flatten ++ mark).length ≤ 8000000) (order : List (Nat × Nat)) (perm : order.Perm (pairsF sg)) (pw : order.Pairwise (fun p q => pkey p < pkey q)) :
    ∃ ds : List Nat, numsG sg cells ((mark ++ (pick sg cells).flatten ++ mark).length - (plainF sg).length) mark.length order 128 (-1) 0 ((sg.length : Int) - order.length) = ds.map Int.ofNat ∧
      (∀ d ∈ ds, d < 10 ^ 18) ∧ ds.length ≤ 1000 ∧ insOK (mark ++ (pick sg cells).flatten ++ mark) ds 128 0 ∧ insS (mark ++ (pick sg cells).flatten ++ mark) ds 128 0 = mark ++ cells.flatten ++ mark := by
  have hol : order.length ≤ 60 := by rw [perm.length_eq]; have := pairsF_len sg; lia
  have hpl := plain_len sg
  rw [← perm.length_eq] at hpl
  rw [want_part hcl perm]
  rw [head_part] at hbig ⊢
  have hcod' : ∀ i, i < sg.length → sg.getD i 0 ≤ 55295 := fun i hi => by
    have : sg.getD i 0 = sg[i] := by simp [hi]
    rw [this]; exact hcod _ (List.getElem_mem hi)
  obtain ⟨ds, h1, h2, h3, h4, h5⟩ := nums_go (mark := mark) hn60 hcell hcod' perm pw ((partL sg cells mark []).length - (plainF sg).length) mark.length rfl order [] rfl 128 (-1) 0 ((sg.length : Int) - order.length) 0 (by lia) (by lia) (fun p hp => by have := (pairsF_mem (perm.mem_iff.mp hp)).2.2; lia) (.inl rfl) (Nat.zero_le _) (by lia)
  exact ⟨ds, h1, h3, by lia, h4, h5⟩
end

/- P4 -/
/- plain: unescape reads the text out again -/
section
open PySem PySem.W PyProof.Rows
noncomputable def mism : List Nat → List Nat → Bool
  | a :: y, b :: w => a != b || mism y w
  | _, _ => false
theorem mism_not : ∀ {y w l : List Nat}, mism y w = true → ¬ y <+: w ++ l
  | a :: y, b :: w, l, h, hp => by
    rw [List.cons_append, List.cons_prefix_cons] at hp
    simp only [mism, Bool.or_eq_true, bne_iff_ne] at h
    rcases h with h | h
    · exact h hp.1
    · exact mism_not h hp.2
  | [], _, _, h, _ => by simp [mism] at h
  | _ :: _, [], _, h, _ => by simp [mism] at h
noncomputable def clean (y : List Nat) : List Nat → Bool
  | [] => true
  | b :: w => mism y (b :: w) && clean y w
theorem clean_app {y z : List Nat} : ∀ {w l : List Nat}, clean y w = true → replL y z (w ++ l) = w ++ replL y z l
  | [], l, _ => rfl
  | b :: w, l, h => by
    simp only [clean, Bool.and_eq_true] at h
    have hm : ¬ y <+: b :: (w ++ l) := mism_not (w := b :: w) (l := l) h.1
    rw [List.cons_append, replL_miss hm, clean_app h.2, List.cons_append]
noncomputable def eT (tab : List (Nat × List Nat)) (c : Nat) : List Nat := (tab.lookup c).getD [c]
theorem lkN_cons (k : Nat) (y : List Nat) (tab : List (Nat × List Nat)) (c : Nat) : ((k, y) :: tab).lookup c = if c = k then some y else tab.lookup c := by
  rw [List.lookup_cons]
  by_cases h : c = k
  · rw [if_pos h, h, beq_self_eq_true]
  · rw [if_neg h, show (c == k) = false from beq_eq_false_iff_ne.mpr h]
theorem lkN_some : ∀ {tab : List (Nat × List Nat)} {c : Nat} {y : List Nat}, tab.lookup c = some y → (c, y) ∈ tab
  | (k, w) :: tab, c, y, h => by
    rw [lkN_cons] at h
    by_cases e : c = k
    · rw [if_pos e] at h
      rw [e, ← Option.some.inj h]; exact List.mem_cons_self
    · rw [if_neg e] at h
      exact List.mem_cons_of_mem _ (lkN_some h)
theorem lkN_filter (k : Nat) : ∀ (tab : List (Nat × List Nat)) (c : Nat), (tab.filter fun p => p.1 != k).lookup c = if c = k then none else tab.lookup c
  | [], c => by simp
  | (j, w) :: tab, c => by
    rw [List.filter_cons]
    by_cases e : j = k
    · subst e
      rw [if_neg (by simp), lkN_filter j tab c, lkN_cons]
      by_cases q : c = j
      · rw [if_pos q, if_pos q]
      · rw [if_neg q, if_neg q, if_neg q]
    · rw [if_pos (by simpa using e), lkN_cons, lkN_filter k tab c, lkN_cons]
      by_cases q : c = j
      · rw [if_pos q, if_neg (by lia), if_pos q]
      · rw [if_neg q, if_neg q]
theorem clean_one {y' : List Nat} {c : Nat} (h : c ≠ 38) : clean (38 :: y') [c] = true := by
  simp only [clean, mism, Bool.and_true]
  rw [show (38 != c) = true from by simpa using fun q => h q.symm]; rfl
/- one reference read back -/
theorem un_step {tab : List (Nat × List Nat)} {k : Nat} {y y' : List Nat} (hy : y = 38 :: y') (h1 : tab.lookup k = some y) (h4 : ∀ p ∈ tab, p.1 ≠ k → clean y p.2 = true) (h6 : (tab.lookup 38).isSome = true) : ∀ x : List Nat, replL y [k] (x.flatMap (eT tab)) = x.flatMap (eT (tab.filter fun p => p.1 != k))
  | [] => by rw [List.flatMap_nil, replL]; rfl
  | c :: x => by
    rw [List.flatMap_cons, List.flatMap_cons]
    have ih := un_step hy h1 h4 h6 x
    by_cases e : c = k
    · have e1 : eT tab c = y := by unfold eT; rw [e, h1]; rfl
      have e2 : eT (tab.filter fun p => p.1 != k) c = [k] := by unfold eT; rw [lkN_filter, if_pos e, e]; rfl
      rw [e1, e2, replL_hit (by rw [hy]; simp), ih]
    · have e2 : eT (tab.filter fun p => p.1 != k) c = eT tab c := by unfold eT; rw [lkN_filter, if_neg e]
      rw [e2, ← ih]
      refine clean_app ?_
      unfold eT
      cases q : tab.lookup c with
      | some w => exact h4 _ (lkN_some q) e
      | none =>
        rw [hy]
        refine clean_one ?_
        rintro rfl
        rw [q] at h6; cases h6
theorem un_none {tab : List (Nat × List Nat)} {y y' z : List Nat} (hy : y = 38 :: y') (h4 : ∀ p ∈ tab, clean y p.2 = true) (h6 : (tab.lookup 38).isSome = true) : ∀ x : List Nat, replL y z (x.flatMap (eT tab)) = x.flatMap (eT tab)
  | [] => by rw [List.flatMap_nil, replL]
  | c :: x => by
    rw [List.flatMap_cons]
    rw [clean_app, un_none hy h4 h6 x]
    unfold eT
    cases q : tab.lookup c with
    | some w => exact h4 _ (lkN_some q)
    | none =>
      rw [hy]
      refine clean_one ?_
      rintro rfl
      rw [q] at h6; cases h6
theorem eT_nil (x : List Nat) : x.flatMap (eT []) = x := by
  induction x with
  | nil => rfl
  | cons c x ih => rw [List.flatMap_cons, ih]; rfl
theorem rep_eT {tab : List (Nat × List Nat)} {k : Nat} {z : List Nat} (h : ∀ p ∈ tab, k ∉ p.2 ∧ p.1 ≠ k) (x : List Nat) : rep k z (x.flatMap (eT tab)) = x.flatMap (eT (tab ++ [(k, z)])) := by
  rw [rep_flatMap]
  refine congrArg (fun f => List.flatMap f x) (funext fun c => ?_)
  have hl : (tab ++ [(k, z)]).lookup c = (tab.lookup c).or (if c = k then some z else none) := by
    rw [List.lookup_append, lkN_cons]; rfl
  unfold eT
  rw [hl]
  cases q : tab.lookup c with
  | some w => exact rep_none (h _ (lkN_some q)).1
  | none =>
    show rep k z [c] = ((if c = k then some z else none : Option (List Nat))).getD [c]
    rw [rep_one]
    split <;> rfl
noncomputable def tab0 : List (Nat × List Nat) := [(38, amp), (60, lt), (62, gt)]
noncomputable def tabW : List (Nat × List Nat) := [(38, amp), (60, lt), (62, gt), (10, nl10), (13, nl13), (9, nl9)]
theorem esc_eT (x : List Nat) : escL x = x.flatMap (eT tab0) := by
  rw [escL_flat]
  refine congrArg (fun f => List.flatMap f x) (funext fun c => ?_)
  unfold e0 eT tab0
  rw [lkN_cons, lkN_cons, lkN_cons]
  by_cases h1 : c = 38
  · rw [if_pos h1, if_pos h1]; rfl
  · rw [if_neg h1, if_neg h1]
    by_cases h2 : c = 60
    · rw [if_pos h2, if_pos h2]; rfl
    · rw [if_neg h2, if_neg h2]
      by_cases h3 : c = 62
      · rw [if_pos h3, if_pos h3]; rfl
      · rw [if_neg h3, if_neg h3]; rfl
theorem white_eT (x : List Nat) : repAll (toT white) (escL x) = x.flatMap (eT tabW) := by
  rw [esc_eT]
  show rep 9 nl9 (rep 13 nl13 (rep 10 nl10 (x.flatMap (eT tab0)))) = _
  rw [rep_eT (by decide), rep_eT (by decide), rep_eT (by decide)]
  rfl
theorem un_esc (x : List Nat) : unL [] (escL x) = x := by
  unfold unL
  rw [esc_eT, un_step (k := 60) (y := lt) (y' := [108, 116, 59]) rfl rfl (by decide) (by decide), un_step (k := 62) (y := gt) (y' := [103, 116, 59]) rfl (by decide) (by decide) (by decide)]
  show replL amp [38] (x.flatMap (eT [(38, amp)])) = x
  rw [un_step (k := 38) (y := amp) (y' := [97, 109, 112, 59]) rfl rfl (by decide) (by decide)]
  exact eT_nil x
theorem un_white (x : List Nat) : unL unD (x.flatMap (eT tabW)) = x := by
  unfold unL
  rw [un_step (k := 60) (y := lt) (y' := [108, 116, 59]) rfl rfl (by decide) (by decide), un_step (k := 62) (y := gt) (y' := [103, 116, 59]) rfl (by decide) (by decide) (by decide)]
  show replL amp [38] (replL quot [34] (replL nl9 [9] (replL nl13 [13] (replL nl10 [10] _)))) = x
  rw [un_step (k := 10) (y := nl10) (y' := [35, 49, 48, 59]) rfl (by decide) (by decide) (by decide), un_step (k := 13) (y := nl13) (y' := [35, 49, 51, 59]) rfl (by decide) (by decide) (by decide), un_step (k := 9) (y := nl9) (y' := [35, 57, 59]) rfl (by decide) (by decide) (by decide)]
  rw [un_none (y := quot) (y' := [113, 117, 111, 116, 59]) rfl (by decide) (by decide)]
  rw [un_step (k := 38) (y := amp) (y' := [97, 109, 112, 59]) rfl (by decide) (by decide) (by decide)]
  exact eT_nil x
theorem un_quot (x : List Nat) : unL unD (rep 34 quot (x.flatMap (eT tabW))) = x := by
  rw [rep_eT (by decide)]
  unfold unL
  rw [un_step (k := 60) (y := lt) (y' := [108, 116, 59]) rfl (by decide) (by decide) (by decide), un_step (k := 62) (y := gt) (y' := [103, 116, 59]) rfl (by decide) (by decide) (by decide)]
  show replL amp [38] (replL quot [34] (replL nl9 [9] (replL nl13 [13] (replL nl10 [10] _)))) = x
  rw [un_step (k := 10) (y := nl10) (y' := [35, 49, 48, 59]) rfl (by decide) (by decide) (by decide), un_step (k := 13) (y := nl13) (y' := [35, 49, 51, 59]) rfl (by decide) (by decide) (by decide), un_step (k := 9) (y := nl9) (y' := [35, 57, 59]) rfl (by decide) (by decide) (by decide)]
  rw [un_step (k := 34) (y := quot) (y' := [113, 117, 111, 116, 59]) rfl (by decide) (by decide) (by decide)]
  rw [un_step (k := 38) (y := amp) (y' := [97, 109, 112, 59]) rfl (by decide) (by decide) (by decide)]
  exact eT_nil x
theorem eT_len {tab : List (Nat × List Nat)} {b : Nat} (hb : 1 ≤ b) (h : ∀ p ∈ tab, p.2.length ≤ b) : ∀ x : List Nat, (x.flatMap (eT tab)).length ≤ b * x.length
  | [] => by simp
  | c :: x => by
    rw [List.flatMap_cons, List.length_append, List.length_cons, Nat.mul_add, Nat.mul_one]
    have ih := eT_len hb h x
    have h1 : (eT tab c).length ≤ b := by
      unfold eT
      cases q : tab.lookup c with
      | some w => exact h _ (lkN_some q)
      | none => exact hb
    lia
theorem mid_wrap (a b : Nat) (y : List Nat) : midL ([a] ++ y ++ [b]) = y := by
  unfold midL
  simp
end

/- P5 -/
/- plain: every job comes out right -/
section
open PySem PySem.W PyProof.Rows
theorem rep_flatten (c : Nat) (z : List Nat) : ∀ L : List (List Nat), rep c z L.flatten = (L.map (rep c z)).flatten
  | [] => rfl
  | x :: L => by rw [List.flatten_cons, rep_app, rep_flatten c z L, List.map_cons, List.flatten_cons]
theorem pick_map (sg : List Nat) (g : Nat → List Nat) : pick sg (sg.map g) = (plainF sg).map g := by
  unfold pick plainF
  conv => rhs; rw [← range_getD sg]
  rw [List.filter_map, List.map_map]
  have e : ∀ (l : List Nat), (∀ i ∈ l, i < sg.length) → l.map (fun i => (sg.map g).getD i []) = l.map (g ∘ fun i => sg.getD i 0) := fun l hl => by
    refine List.map_congr_left fun i hi => ?_
    have hlt := hl i hi
    show (sg.map g).getD i [] = g (sg.getD i 0)
    simp [hlt]
  exact e _ fun i hi => List.mem_range.mp (List.mem_filter.mp hi).1
theorem plain_mem {sg : List Nat} {c : Nat} (h : c ∈ plainF sg) : c ∈ sg ∧ c < 128 := by
  have := List.mem_filter.mp h
  exact ⟨this.1, by have := of_decide_eq_true this.2; lia⟩
theorem mem_plain {ts : List (Nat × List Nat)} {sg : List Nat} {d : Nat} (hd : d < 128) : d ∈ (sg.map (cellOf ts)).flatten ↔ d ∈ ((plainF sg).map (cellOf ts)).flatten := by
  constructor
  · intro h
    obtain ⟨x, hx, hdx⟩ := List.mem_flatten.mp h
    obtain ⟨c, hc, rfl⟩ := List.mem_map.mp hx
    by_cases h1 : c < 128
    · exact List.mem_flatten.mpr ⟨_, List.mem_map.mpr ⟨c, List.mem_filter.mpr ⟨hc, decide_eq_true (by lia)⟩, rfl⟩, hdx⟩
    · unfold cellOf at hdx
      rw [if_neg h1] at hdx
      have := List.mem_singleton.mp hdx
      lia
  · intro h
    obtain ⟨x, hx, hdx⟩ := List.mem_flatten.mp h
    obtain ⟨c, hc, rfl⟩ := List.mem_map.mp hx
    exact List.mem_flatten.mpr ⟨_, List.mem_map.mpr ⟨c, (plain_mem hc).1, rfl⟩, hdx⟩
theorem esc_sub {x al : List Nat} (hx : ∀ d ∈ x, d ∈ al) (h0 : ∀ d ∈ al0, d ∈ al) : ∀ d ∈ escL x, d ∈ al := by
  unfold escL
  have e : ∀ z ∈ [amp, lt, gt], ∀ d ∈ z, d ∈ al := fun z hz d hd => h0 d ((by decide : ∀ z ∈ [amp, lt, gt], ∀ d ∈ z, d ∈ al0) z hz d hd)
  exact rep_sub (rep_sub (rep_sub hx (e amp (by simp))) (e gt (by simp))) (e lt (by simp))
theorem quote_len (y : List Nat) : (quoteF y).length ≤ y.length + y.count 34 * 6 + 2 := by
  have h := rep_le 34 quot y
  have hq : quot.length = 6 := rfl
  rw [hq] at h
  unfold quoteF
  split
  · split
    · simp; lia
    · simp
  · simp
/- the quoted text, by its cells -/
theorem quote_want {c0 p0 : List (List Nat)} (h34 : 34 ∈ c0.flatten ↔ 34 ∈ p0.flatten) (h39 : 39 ∈ c0.flatten ↔ 39 ∈ p0.flatten) :
    quoteF p0.flatten = markF 2 c0 ++ (if 34 ∈ c0.flatten ∧ 39 ∈ c0.flatten then p0.map (rep 34 quot) else p0).flatten ++ markF 2 c0 := by
  unfold quoteF markF
  rw [if_pos rfl]
  by_cases a : 34 ∈ c0.flatten
  · rw [if_pos (h34.mp a)]
    by_cases b : 39 ∈ c0.flatten
    · have m1 : (if 34 ∈ c0.flatten ∧ 39 ∉ c0.flatten then ([39] : List Nat) else [34]) = [34] := if_neg fun q => q.2 b
      have m2 : (if 34 ∈ c0.flatten ∧ 39 ∈ c0.flatten then p0.map (rep 34 quot) else p0) = p0.map (rep 34 quot) := if_pos ⟨a, b⟩
      rw [m1, m2, if_pos (h39.mp b), ← rep_flatten]
    · have m1 : (if 34 ∈ c0.flatten ∧ 39 ∉ c0.flatten then ([39] : List Nat) else [34]) = [39] := if_pos ⟨a, b⟩
      have m2 : (if 34 ∈ c0.flatten ∧ 39 ∈ c0.flatten then p0.map (rep 34 quot) else p0) = p0 := if_neg fun q => b q.2
      rw [m1, m2, if_neg (fun q => b (h39.mpr q))]
  · have m1 : (if 34 ∈ c0.flatten ∧ 39 ∉ c0.flatten then ([39] : List Nat) else [34]) = [34] := if_neg fun q => a q.1
    have m2 : (if 34 ∈ c0.flatten ∧ 39 ∈ c0.flatten then p0.map (rep 34 quot) else p0) = p0 := if_neg fun q => a q.1
    rw [m1, m2, if_neg (fun q => a (h34.mpr q))]
theorem al0_lt : ∀ d ∈ al0, d < 128 := by decide
section
variable {sg : List Nat} {M : List Pr} (hlen : sg.length ≤ 12) (hM : WOK M) (hMn : (M.map (·.1)).Nodup) (hMl : M.length ≤ 10)
include hlen hM hMn hMl
theorem W_CB {x : List Nat} (hx : x.length ≤ 12) : CB 24576 (repAll (toT M) (escL x)) := by
  have h1 := CB.all (ts := toT M) (esc_CB x) fun p hp => (toT_ok hM p hp).2.1
  have h2 : x.length * facs (toT M) ≤ 12 * 2048 := Nat.mul_le_mul hx (toT_facs hM hMn hMl)
  exact h1.mono (by lia)
theorem W_sub {x : List Nat} (hx : ∀ d ∈ x, d ∈ sg) : ∀ d ∈ repAll (toT M) (escL x), d ∈ sg ++ al0 :=
  repAll_sub (esc_sub (fun d hd => List.mem_append_left _ (hx d hd)) fun d hd => List.mem_append_right _ hd) fun p hp d hd => List.mem_append_right _ ((toT_ok hM p hp).2.2.1 d hd)
theorem al_len : (sg ++ al0).length ≤ 35 := by
  rw [List.length_append]
  have : al0.length = 23 := rfl
  lia
theorem W_len {x : List Nat} (hx : x.length ≤ 12) (hs : ∀ d ∈ x, d ∈ sg) : (repAll (toT M) (escL x)).length ≤ 1720320 := by
  have hb := W_CB hlen hM hMn hMl hx
  have h1 := len_le_alpha (sg ++ al0) 49152 _ (W_sub hlen hM hMn hMl hs) fun d => hb.le d
  have h2 : (sg ++ al0).length * 49152 ≤ 35 * 49152 := Nat.mul_le_mul_right _ (al_len hlen hM hMn hMl)
  lia
theorem W_fits {x : List Nat} (hx : x.length ≤ 12) (hs : ∀ d ∈ x, d ∈ sg) : Fits M (escL x) := by
  have h := fits_ok (toT M) (escL x) (sg ++ al0) 12 ((esc_CB x).mono hx) (esc_sub (fun d hd => List.mem_append_left _ (hs d hd)) fun d hd => List.mem_append_right _ hd) (by have := al_len hlen hM hMn hMl; lia)
    (fun p hp => ⟨(toT_ok hM p hp).2.1, fun d hd => List.mem_append_right _ ((toT_ok hM p hp).2.2.1 d hd), (toT_ok hM p hp).2.2.2⟩) (by have := toT_facs hM hMn hMl; lia)
  rwa [toT_pairs hM] at h
theorem cell_len {c : Nat} (hc : c ∈ sg) (i : Nat) : (repAll ((toT (base3 ++ M)).take i) [c]).length ≤ 1146880 := by
  have hts : toT (base3 ++ M) = [(38, amp), (60, lt), (62, gt)] ++ toT M := by unfold toT; rw [List.map_append]; rfl
  have hok := toT_ok (ws := base3 ++ M) (fun e he => (List.mem_append.mp he).elim (wok_base e) (hM e))
  have hf : facs (toT (base3 ++ M)) ≤ 16384 := by
    rw [hts, facs_app]
    have h1 : facs [(38, amp), (60, lt), (62, gt)] = 8 := by decide
    have h2 := toT_facs hM hMn hMl
    rw [h1]; lia
  have hft := facs_take (toT (base3 ++ M)) i
  have hb0 : CB 1 [c] := ⟨fun d _ => Nat.le_trans (List.count_le_length ..) (by simp), Nat.le_trans (List.count_le_length ..) (by simp)⟩
  have hb := CB.all (ts := (toT (base3 ++ M)).take i) hb0 fun p hp => (hok p (List.mem_of_mem_take hp)).2.1
  have hs : ∀ d ∈ repAll ((toT (base3 ++ M)).take i) [c], d ∈ sg ++ al0 := repAll_sub (fun d hd => by rw [List.mem_singleton.mp hd]; exact List.mem_append_left _ hc) fun p hp d hd => List.mem_append_right _ ((hok p (List.mem_of_mem_take hp)).2.2.1 d hd)
  have h1 := len_le_alpha (sg ++ al0) 32768 _ hs fun d => Nat.le_trans (hb.le d) (by lia)
  have h2 : (sg ++ al0).length * 32768 ≤ 35 * 32768 := Nat.mul_le_mul_right _ (al_len hlen hM hMn hMl)
  lia
end
theorem cellsF_at {kind : Nat} {sg : List Nat} {ts : List (Nat × List Nat)} {i : Nat} (hi : i < sg.length) (h : 128 ≤ sg.getD i 0) : (cellsF kind (sg.map (cellOf ts))).getD i [] = [sg.getD i 0] := by
  have hg : sg.getD i 0 = sg[i] := by simp [hi]
  rw [hg] at h ⊢
  have hc : cellOf ts sg[i] = [sg[i]] := by unfold cellOf; rw [if_neg (by lia)]
  unfold cellsF
  split
  · have e : ((sg.map (cellOf ts)).map (rep 34 quot)).getD i [] = rep 34 quot (cellOf ts sg[i]) := by simp [hi]
    rw [e, hc, rep_one, if_neg (by lia)]
  · have e : (sg.map (cellOf ts)).getD i [] = cellOf ts sg[i] := by simp [hi]
    rw [e, hc]
theorem job_of {kind : Nat} {sg : List Nat} {ws : List Pr} {ts : List (Nat × List Nat)} (k2 : kind ≤ 2) (hlen : sg.length ≤ 12) (hcod : ∀ c ∈ sg, c ≤ 55295) (hts : ∀ p ∈ ts, p.1 < 128)
    (turns : kind ≠ 0 → turnsW ws (kind == 2) = turnPairs ts) (turns0 : kind = 0 → ts = [])
    (text : writeF kind ws sg = wantF kind (sg.map (cellOf ts))) (plain : writeF kind ws (plainF sg) = headF kind sg (sg.map (cellOf ts)))
    (f1 : kind = 1 → Fits ws (escL sg) ∧ Fits ws (escL (plainF sg))) (f2 : kind = 2 → Fits (mergeW ws white) (escL sg) ∧ Fits (mergeW ws white) (escL (plainF sg)))
    (z2 : kind = 2 → ∀ y, (y = drep (mergeW ws white) (escL sg) ∨ y = drep (mergeW ws white) (escL (plainF sg))) → y.length + y.count 34 * 6 ≤ 7000000)
    (hz : ∀ c ∈ sg, ∀ i, (repAll (ts.take i) [c]).length ≤ 1146880) (cz0 : (sg.map (cellOf ts)).flatten.length ≤ 7000000)
    (wz : (writeF kind ws sg).length ≤ 8000000) (pz : (writeF kind ws (plainF sg)).length ≤ 8000000) (asc : ∀ c ∈ writeF kind ws (plainF sg), c < 128)
    (un1 : kind = 1 → ws = [] → unL [] (writeF kind ws sg) = sg ∧ (writeF kind ws sg).length ≤ 1000)
    (un2 : kind = 2 → ws = [] → unL unD (midL (writeF kind ws sg)) = sg ∧ 2 ≤ (writeF kind ws sg).length ∧ (writeF kind ws sg).length ≤ 1000) :
    JobOK kind sg ws ts (sg.map (cellOf ts)) := by
  have hcl : ∀ c ∈ sg.map (cellOf ts), c.length ≤ 1146880 := fun x hx => by
    obtain ⟨c, hc, rfl⟩ := List.mem_map.mp hx
    unfold cellOf
    split
    · have := hz c hc ts.length
      rwa [List.take_length] at this
    · simp
  have hcr : ∀ c ∈ sg.map (cellOf ts), (rep 34 quot c).length ≤ 10000000 := fun x hx => by
    have h1 := hcl x hx
    have h2 := rep_le 34 quot x
    have hq : quot.length = 6 := rfl
    have h3 : x.count 34 ≤ x.length := List.count_le_length ..
    rw [hq] at h2
    lia
  refine { k2 := k2, len := by lia, cod := fun c hc => Nat.le_trans (hcod c hc) (by decide), hc0 := rfl, turns := turns, turns0 := turns0, text := text, plain := plain, f1 := f1, f2 := f2, z2 := fun e y hy => Nat.le_trans (z2 e y hy) (by decide), hz := fun c hc i => Nat.le_trans (hz c hc i) (by decide), cz0 := Nat.le_trans cz0 (by decide), cz1 := hcr, cz := fun c hc => ?_, wz := text ▸ wz, pz := plain ▸ pz, nums := ?_, asc := plain ▸ asc, un1 := fun a b => text ▸ un1 a b, un2 := fun a b => text ▸ un2 a b }
  · unfold cellsF at hc
    split at hc
    · obtain ⟨x, hx, rfl⟩ := List.mem_map.mp hc
      exact hcr x hx
    · exact Nat.le_trans (hcl c hc) (by decide)
  · intro order perm pw
    exact nums_ok (sg := sg) (cells := cellsF kind (sg.map (cellOf ts))) (mark := markF kind (sg.map (cellOf ts))) (by lia) (by rw [cellsF_len, List.length_map]) (fun i hi h => cellsF_at hi h) hcod (show (headF kind sg (sg.map (cellOf ts))).length ≤ 8000000 from plain ▸ pz) order perm pw
end

/- P6 -/
/- plain: the six jobs -/
section
open PySem PySem.W PyProof.Rows
theorem plain_sub {sg : List Nat} : ∀ d ∈ plainF sg, d ∈ sg := fun d hd => (plain_mem hd).1
theorem plainF_len {sg : List Nat} (h : sg.length ≤ 12) : (plainF sg).length ≤ 12 := Nat.le_trans (List.length_filter_le _ _) h
theorem cells_nil (x : List Nat) : (x.map (cellOf [])).flatten = x := by
  have h := cells_flat (ts := []) (fun _ h => nomatch h) x
  rw [h]; rfl
theorem job0 {sg : List Nat} {ws : List Pr} (hlen : sg.length ≤ 12) (hcod : ∀ c ∈ sg, c ≤ 55295) : ∃ ts c0, JobOK 0 sg ws ts c0 := by
  have hm : ∀ c0, markF 0 c0 = [] := fun c0 => by unfold markF; rw [if_neg (by decide)]
  have hc : ∀ c0, cellsF 0 c0 = c0 := fun c0 => by unfold cellsF; rw [if_neg (fun q => absurd q.1 (by decide))]
  have hw : ∀ x, writeF 0 ws x = x := fun x => by unfold writeF; rw [if_pos rfl]
  have hpl := plainF_len hlen
  refine ⟨[], _, job_of (ts := []) (by decide) hlen hcod (fun _ h => nomatch h) (fun h => absurd rfl h) (fun _ => rfl) ?_ ?_ (fun e => by cases e) (fun e => by cases e) (fun e => by cases e) (fun c _ i => ?_) ?_ ?_ ?_ ?_ (fun e => by cases e) (fun e => by cases e)⟩
  · rw [hw]; unfold wantF; rw [hm, hc, cells_nil]; simp
  · rw [hw]; unfold headF; rw [hm, hc, pick_map, cells_nil]; simp
  · rw [List.take_nil]; show ([c] : List Nat).length ≤ _; simp
  · rw [cells_nil]; lia
  · rw [hw]; lia
  · rw [hw]; lia
  · rw [hw]; exact fun c hc => (plain_mem hc).2
theorem W_asc {M : List Pr} (hM : WOK M) {x : List Nat} (hx : ∀ d ∈ x, d < 128) : ∀ d ∈ repAll (toT M) (escL x), d < 128 := fun d hd => by
  have h : ∀ d ∈ repAll (toT M) (escL x), d ∈ x ++ al0 := repAll_sub (esc_sub (fun d hd => List.mem_append_left _ hd) fun d hd => List.mem_append_right _ hd) fun p hp d hd => List.mem_append_right _ ((toT_ok hM p hp).2.2.1 d hd)
  rcases List.mem_append.mp (h d hd) with q | q
  · exact hx d q
  · exact al0_lt d q
theorem all_base (M : List Pr) (x : List Nat) : repAll (toT (base3 ++ M)) x = repAll (toT M) (escL x) := by
  have hts : toT (base3 ++ M) = [(38, amp), (60, lt), (62, gt)] ++ toT M := by unfold toT; rw [List.map_append]; rfl
  rw [hts, repAll_app2, base_esc]
theorem drep_toT {M : List Pr} (hM : WOK M) (x : List Nat) : drep M x = repAll (toT M) x := by
  have := drep_pairs (toT M) x
  rwa [toT_pairs hM] at this
theorem merge_nil (ws : List Pr) : mergeW ws [] = ws := rfl
theorem job1 {sg : List Nat} {ws : List Pr} (hlen : sg.length ≤ 12) (hcod : ∀ c ∈ sg, c ≤ 55295) (hw : WOK ws) (hn : (ws.map (·.1)).Nodup) (hl : ws.length ≤ 7) : ∃ ts c0, JobOK 1 sg ws ts c0 := by
  have hm : ∀ c0, markF 1 c0 = [] := fun c0 => by unfold markF; rw [if_neg (by decide)]
  have hc : ∀ c0, cellsF 1 c0 = c0 := fun c0 => by unfold cellsF; rw [if_neg (fun q => absurd q.1 (by decide))]
  have hwr : ∀ x, writeF 1 ws x = repAll (toT ws) (escL x) := fun x => by unfold writeF; rw [if_neg (by decide), if_pos rfl, drep_toT hw]
  have hl10 : ws.length ≤ 10 := by lia
  have hpl := plainF_len hlen
  have hbm : WOK (base3 ++ ws) := fun e he => (List.mem_append.mp he).elim (wok_base e) (hw e)
  have hts := toT_ok hbm
  have h128 : ∀ p ∈ toT (base3 ++ ws), p.1 < 128 := fun p hp => (hts p hp).1
  have hW1 := W_len hlen hw hn hl10 hlen (fun d hd => hd)
  have hW2 := W_len hlen hw hn hl10 hpl plain_sub
  refine ⟨toT (base3 ++ ws), _, job_of (ts := toT (base3 ++ ws)) (by decide) hlen hcod h128 (fun _ => ?_) (fun e => by cases e) ?_ ?_ (fun _ => ⟨W_fits hlen hw hn hl10 hlen (fun d hd => hd), W_fits hlen hw hn hl10 hpl plain_sub⟩) (fun e => by cases e) (fun e => by cases e) (fun c hc i => cell_len hlen hw hn hl10 hc i) ?_ ?_ ?_ ?_ (fun _ e => ?_) (fun e => by cases e)⟩
  · rw [toT_pairs hbm]
    exact turns_eq hn false
  · rw [hwr]; unfold wantF; rw [hm, hc, cells_flat h128, all_base]; simp
  · rw [hwr]; unfold headF; rw [hm, hc, pick_map, cells_flat h128, all_base]; simp
  · rw [cells_flat h128, all_base]; lia
  · rw [hwr]; lia
  · rw [hwr]; lia
  · rw [hwr]; exact W_asc hw fun d hd => (plain_mem hd).2
  · subst e
    rw [hwr]
    show unL [] (escL sg) = sg ∧ (escL sg).length ≤ 1000
    refine ⟨un_esc sg, ?_⟩
    rw [esc_eT]
    have := eT_len (tab := tab0) (b := 5) (by decide) (by decide) sg
    lia
theorem job2 {sg : List Nat} {ws : List Pr} (hlen : sg.length ≤ 12) (hcod : ∀ c ∈ sg, c ≤ 55295) (hw : WOK ws) (hn : (ws.map (·.1)).Nodup) (hl : ws.length ≤ 7) : ∃ ts c0, JobOK 2 sg ws ts c0 := by
  have hwn : (white.map (·.1)).Nodup := by decide
  have hM : WOK (mergeW ws white) := wok_merge hw (wok_own true) hn hwn
  have hMn := merge_keys hn hwn
  have hMl : (mergeW ws white).length ≤ 10 := by
    have := merge_len hn hwn
    have h3 : white.length = 3 := rfl
    lia
  have hwr : ∀ x, writeF 2 ws x = quoteF (repAll (toT (mergeW ws white)) (escL x)) := fun x => by unfold writeF; rw [if_neg (by decide), if_neg (by decide), drep_toT hM]
  have hpl := plainF_len hlen
  have hbm : WOK (base3 ++ mergeW ws white) := fun e he => (List.mem_append.mp he).elim (wok_base e) (hM e)
  have hts := toT_ok hbm
  have h128 : ∀ p ∈ toT (base3 ++ mergeW ws white), p.1 < 128 := fun p hp => (hts p hp).1
  have hW1 := W_len hlen hM hMn hMl hlen (fun d hd => hd)
  have hW2 := W_len hlen hM hMn hMl hpl plain_sub
  have hC1 := W_CB hlen hM hMn hMl hlen
  have hC2 := W_CB hlen hM hMn hMl hpl
  have hq1 := quote_len (repAll (toT (mergeW ws white)) (escL sg))
  have hq2 := quote_len (repAll (toT (mergeW ws white)) (escL (plainF sg)))
  have hb1 := hC1.le 34
  have hb2 := hC2.le 34
  have hfl : ∀ x : List Nat, repAll (toT (mergeW ws white)) (escL x) = (x.map (cellOf (toT (base3 ++ mergeW ws white)))).flatten := fun x => by rw [cells_flat h128, all_base]
  refine ⟨toT (base3 ++ mergeW ws white), _, job_of (ts := toT (base3 ++ mergeW ws white)) (by decide) hlen hcod h128 (fun _ => ?_) (fun e => by cases e) ?_ ?_ (fun e => by cases e) (fun _ => ⟨W_fits hlen hM hMn hMl hlen (fun d hd => hd), W_fits hlen hM hMn hMl hpl plain_sub⟩) (fun _ y hy => ?_) (fun c hc i => cell_len hlen hM hMn hMl hc i) ?_ ?_ ?_ ?_ (fun e => by cases e) (fun _ e => ?_)⟩
  · rw [toT_pairs hbm]
    exact turns_eq hn true
  · rw [hwr, hfl, quote_want (c0 := sg.map (cellOf (toT (base3 ++ mergeW ws white)))) Iff.rfl Iff.rfl]
    unfold wantF cellsF
    congr 3
    by_cases q : 34 ∈ (sg.map (cellOf (toT (base3 ++ mergeW ws white)))).flatten ∧ 39 ∈ (sg.map (cellOf (toT (base3 ++ mergeW ws white)))).flatten
    · rw [if_pos q, if_pos ⟨rfl, q⟩]
    · rw [if_neg q, if_neg (fun r => q r.2)]
  · rw [hwr, hfl, quote_want (c0 := sg.map (cellOf (toT (base3 ++ mergeW ws white)))) (mem_plain (by decide)) (mem_plain (by decide))]
    unfold headF cellsF
    congr 3
    by_cases q : 34 ∈ (sg.map (cellOf (toT (base3 ++ mergeW ws white)))).flatten ∧ 39 ∈ (sg.map (cellOf (toT (base3 ++ mergeW ws white)))).flatten
    · rw [if_pos q, if_pos ⟨rfl, q⟩, List.map_map, List.map_map, pick_map]
    · rw [if_neg q, if_neg (fun r => q r.2), pick_map]
  · rw [drep_toT hM, drep_toT hM] at hy
    rcases hy with rfl | rfl <;> lia
  · rw [← hfl]; lia
  · rw [hwr]; lia
  · rw [hwr]; lia
  · rw [hwr]
    have ha := W_asc hM (x := plainF sg) fun d hd => (plain_mem hd).2
    have hqa : ∀ d ∈ quot, d < 128 := by decide
    intro c hc
    unfold quoteF at hc
    have hone : ∀ a y b, (∀ d ∈ y, d < 128) → a < 128 → b < 128 → ∀ d ∈ [a] ++ y ++ [b], d < 128 := fun a y b hy h1 h2 d hd => by
      rcases List.mem_append.mp hd with hd | hd
      · rcases List.mem_append.mp hd with hd | hd
        · rw [List.mem_singleton.mp hd]; exact h1
        · exact hy d hd
      · rw [List.mem_singleton.mp hd]; exact h2
    have hr : ∀ d ∈ rep 34 quot (repAll (toT (mergeW ws white)) (escL (plainF sg))), d < 128 := fun d hd => by
      have := rep_sub (al := List.range 128) (fun d hd => List.mem_range.mpr (ha d hd)) (fun d hd => List.mem_range.mpr (hqa d hd)) d hd
      exact List.mem_range.mp this
    split at hc
    · split at hc
      · exact hone _ _ _ hr (by decide) (by decide) c hc
      · exact hone _ _ _ ha (by decide) (by decide) c hc
    · exact hone _ _ _ ha (by decide) (by decide) c hc
  · subst e
    rw [hwr]
    have e1 : mergeW [] white = white := by decide
    rw [e1, white_eT]
    have h1 := eT_len (tab := tabW) (b := 5) (by decide) (by decide) sg
    have h2 := quote_len (sg.flatMap (eT tabW))
    have h3 : (sg.flatMap (eT tabW)).count 34 ≤ (sg.flatMap (eT tabW)).length := List.count_le_length ..
    refine ⟨?_, ?_, by lia⟩
    · unfold quoteF
      split
      · split
        · rw [mid_wrap]; exact un_quot sg
        · rw [mid_wrap]; exact un_white sg
      · rw [mid_wrap]; exact un_white sg
    · unfold quoteF
      split
      · split <;> simp
      · simp
theorem all_jobs : ∀ sg ws, Drawn sg ws → (∃ ts c0, JobOK 0 sg [] ts c0) ∧ (∃ ts c0, JobOK 1 sg [] ts c0) ∧ (∃ ts c0, JobOK 1 sg ws ts c0) ∧ (∃ ts c0, JobOK 2 sg ws ts c0) ∧ (∃ ts c0, JobOK 2 (sg ++ [34]) [] ts c0) ∧ (∃ ts c0, JobOK 2 (sg ++ [39, 34]) ws ts c0) := fun sg ws D => by
  have hw : WOK ws := wok_of D.ent
  have h0 : WOK [] := fun _ h => nomatch h
  have hl := D.len
  have hc := D.cod
  have hca : ∀ x : List Nat, (∀ c ∈ x, c ≤ 55295) → ∀ c ∈ sg ++ x, c ≤ 55295 := fun x hx c h => (List.mem_append.mp h).elim (hc c) (hx c)
  exact ⟨job0 (by lia) hc, job1 (by lia) hc h0 (by decide) (by decide), job1 (by lia) hc hw D.nod D.wlen, job2 (by lia) hc hw D.nod D.wlen,
    job2 (by simp; lia) (hca _ (by decide)) h0 (by decide) (by decide), job2 (by simp; lia) (hca _ (by decide)) hw D.nod D.wlen⟩
end

/- Z1 -/
set_option maxHeartbeats 8000000
section
open PySem PySem.W PyProof.Rows PySem.Calls
theorem fin_law (hJ : ∀ sg ws, Drawn sg ws → AllJobs sg ws) : PySem.Challenge.rw_ij0173_01.Holds := by
  refine holds_law Mine.Head.said fun _ => Mine.Head.hd0 ⟨row_said Mine.Head.said, ?_⟩
  intro w s₀ s₁ mg mb G Y a o pm cd doc dV kV ho hd hcd hD hmg hg args vals as hpre hlay hrd hwl hlo
  have KX := kIn_of Y
  have T := G.T
  have ea : a = 136 := by
    have h1 : mg ("law" : Str) = some (.ref a) := hmg
    have h2 := mg_of KX T.g (n := "law") (v := .ref 136) rfl
    rw [h1] at h2; cases h2; rfl
  subst ea
  wrow_args hpre hlay hrd hwl hlo
  clear hcd hD hd hmg
  rename_i ns hs hlay0 hL1 hr1 hl2 wa wb a vs wc hL ra w1 r0 hI hr hc1 hc2
  have hNL : ∀ {vs : List Value} {ns : List Int}, IntsAre vs ns → NL ns vs := fun h => by
    induction h with
    | nil => trivial
    | cons a u r ih => exact ⟨⟨u, rfl⟩, ih⟩
  have hlen : vs.length = ns.length := hI.length
  refine g_mono (c_law (n := 0) (A := callerA) KX T ⟨rfl, by decide, by decide⟩ hL (hNL hI) (by lia) hJ) fun v s' q => ?_
  obtain ⟨kp, rfl⟩ := q
  obtain ⟨h', tk, rfl, st, _⟩ := kp.cases
  refine ⟨.inl ⟨.bool true, .bool true, [], rfl, fun cls => ?_, .bool true, ?_, ?_⟩, .of_keep fun b o e => st _ _ e, rfl, .of_eq hg⟩
  · first | rfl | decide
  · first | rfl | (wrow_post)
  · first | exact unshared_nil
end
end Mine

theorem PySem.Challenge.cw_ij0173_01_holds : PySem.Challenge.rw_ij0173_01.Holds :=
  Mine.fin_law fun sg ws D => Mine.all_jobs sg ws D
