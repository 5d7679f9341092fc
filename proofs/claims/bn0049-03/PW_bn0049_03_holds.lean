import PyProof.Rows.All
import Wide.All
import OpenK.AllK
import Wide.FinOn
import PySem.Challenge.RW_bn0049_03
open PySem PySem.W PyProof.Rows
set_option Elab.async false
set_option linter.unusedVariables false
set_option linter.all false
namespace Mine
/-! # Lay1 -/

/-! ## values without tokens, cells, the abstract heap -/
def er : Value → Value
  | .int i _ => .int i 0
  | .float b _ => .float b 0
  | .str s _ => .str s 0
  | .bytes b _ => .bytes b 0
  | v => v
@[simp] theorem er_int (i : Int) (t : Tok) : er (.int i t) = .int i 0 := rfl
@[simp] theorem er_bool (b : Bool) : er (.bool b) = .bool b := rfl
@[simp] theorem er_none : er .none = .none := rfl
@[simp] theorem er_ref (a : Addr) : er (.ref a) = .ref a := rfl
@[simp] theorem er_str (x : Str) (t : Tok) : er (.str x t) = .str x 0 := rfl
@[simp] theorem er_type (x : String) : er (.type x) = .type x := rfl
@[simp] theorem er_builtin (x : String) : er (.builtin x) = .builtin x := rfl
@[simp] theorem er_er (v : Value) : er (er v) = er v := by cases v <;> rfl
theorem er_ref_inv {v : Value} {a : Addr} (h : er v = .ref a) : v = .ref a := by cases v <;> first | exact h | cases h
theorem er_bool_inv {v : Value} {b : Bool} (h : er v = .bool b) : v = .bool b := by cases v <;> first | exact h | cases h
theorem er_none_inv {v : Value} (h : er v = .none) : v = .none := by cases v <;> first | exact h | cases h
theorem er_int_inv {v : Value} {i : Int} {t : Tok} (h : er v = .int i t) : ∃ u, v = .int i u := by cases v <;> first | (cases h; exact ⟨_, rfl⟩) | cases h
theorem er_str_inv {v : Value} {x : Str} {t : Tok} (h : er v = .str x t) : ∃ u, v = .str x u := by cases v <;> first | (cases h; exact ⟨_, rfl⟩) | cases h
theorem er_type_inv {v : Value} {x : String} (h : er v = .type x) : v = .type x := by cases v <;> first | exact h | cases h
abbrev LM := Str → Option Value
def upd {α β : Type} [DecidableEq α] (f : α → β) (x : α) (v : β) : α → β := fun y => if y = x then v else f y
@[simp] theorem upd_self {α β : Type} [DecidableEq α] (f : α → β) (x : α) (v : β) : upd f x v x = v := by simp [upd]
theorem upd_ne {α β : Type} [DecidableEq α] (f : α → β) {x y : α} (v : β) (h : y ≠ x) : upd f x v y = f y := by simp [upd, h]

/-- a dict's key, by what it is equal to -/
inductive DK where
  | n (i : Int)
  | s (x : Str)
  deriving DecidableEq
def dk : Value → Option DK
  | .int i _ => some (.n i)
  | .bool b => some (.n (if b then 1 else 0))
  | .str x _ => some (.s x)
  | _ => none
def dkHash (H : Str → Int) : DK → Int
  | .n i => hashInt i
  | .s x => H x

inductive Cell where
  | inst (C : Addr) (f : LM) (k : Nat)
  | seq (ty : String) (vs : List Value)
  | dict (l : List (Value × Value))
  | exc (cls : Value) (tb ctx : Bool)
  | pred (P : Obj → Prop)

abbrev AH := Addr → Option Cell

inductive All2 {α β : Type} (R : α → β → Prop) : List α → List β → Prop
  | nil : All2 R [] []
  | cons {a b l k} : R a b → All2 R l k → All2 R (a :: l) (b :: k)

def EntOf (H : Str → Int) (e : DictEntry) (p : Value × Value) : Prop := er e.key = p.1 ∧ er e.val = p.2 ∧ ∃ k, dk e.key = some k ∧ e.hash = dkHash H k

def StrK (es : List DictEntry) : Prop := ∀ e ∈ es, ∃ x t, e.key = .str x t
def fieldOf (es : List DictEntry) (x : Str) : Option Value := (es.find? (·.key.isStr x)).map fun e => er e.val

/-- what the heap holds for a cell; `hid` is the address of an instance's dict, or of an exception's traceback -/
def Cell.At (H : Str → Int) (h : Heap) (hid a : Addr) : Cell → Prop
  | .inst C f k => h.get? a = some (instObj C hid) ∧ ∃ es n, h.get? hid = some (dictOf es n) ∧ StrK es ∧ es.length = k ∧ ∀ x, fieldOf es x = f x
  | .seq ty vs => ∃ vr n, h.get? a = some { cls := .type ty, data := .seq vr n } ∧ vr.toList.map er = vs
  | .dict l => a ≠ sysModules ∧ ∃ es n, h.get? a = some (dictOf es n) ∧ All2 (EntOf H) es l ∧ (l.map fun p => dk p.1).Nodup
  | .exc cls tb ctx => ∃ d vs sl, h.get? a = some ⟨cls, d, .fields vs, sl⟩ ∧ 5 < vs.size ∧ (ctx = false → vs[2]? = some .none) ∧
      (tb = false → vs[1]? = some .none) ∧ (tb = true → vs[1]? = some (.ref hid) ∧ ∃ o ts, h.get? hid = some o ∧ o.data = .fields ts ∧ 5 ≤ ts.size)
  | .pred P => ∃ o, h.get? a = some o ∧ P o

/-- does the cell own its hidden address -/
def Cell.hides : Cell → Bool
  | .inst .. => true
  | .exc _ tb _ => tb
  | _ => false

structure Base where
  h : Heap
  os : OsState
  hs : Str → Int

def frA (env : Env) : List Addr := env.frame.toList
def frames (fs : List (Env × LM)) : List Addr := fs.filterMap fun p => p.1.frame

def FrOk (b h : Heap) (p : Env × LM) : Prop :=
  p.1.frame = some p.1.locals ∧ p.1.scope.kind = .function ∧ b.get? p.1.locals = none ∧ ∃ mr, h.Ns p.1.locals mr ∧ ∀ x, (mr x).map er = p.2 x

structure Rel (B : Base) (fs : List (Env × LM)) (σ : AH) (s : Shared) : Prop where
  keep : B.h.StaysIn s.heap
  fr : ∀ p ∈ fs, FrOk B.h s.heap p
  nd : (fs.map fun p => p.1.locals).Nodup
  cells : ∃ δ : Addr → Addr,
    (∀ a c, σ a = some c → c.At B.hs s.heap (δ a) a ∧ B.h.get? a = none ∧ (∀ p ∈ fs, p.1.locals ≠ a)) ∧
    (∀ a c, σ a = some c → c.hides = true → B.h.get? (δ a) = none ∧ σ (δ a) = none ∧ (∀ p ∈ fs, p.1.locals ≠ δ a)) ∧
    (∀ a b c d, σ a = some c → σ b = some d → c.hides = true → d.hides = true → δ a = δ b → a = b)
  gens : s.gens = #[]
  os : s.os = B.os

theorem Cell.At.some {H : Str → Int} {h : Heap} {hid a : Addr} {c : Cell} (x : c.At H h hid a) : ∃ o, h.get? a = some o := by
  cases c with
  | inst => exact ⟨_, x.1⟩
  | seq => obtain ⟨_, _, e, _⟩ := x; exact ⟨_, e⟩
  | dict => obtain ⟨_, _, _, e, _⟩ := x; exact ⟨_, e⟩
  | exc => obtain ⟨_, _, _, e, _⟩ := x; exact ⟨_, e⟩
  | pred => obtain ⟨_, e, _⟩ := x; exact ⟨_, e⟩
theorem Cell.At.hidSome {H : Str → Int} {h : Heap} {hid a : Addr} {c : Cell} (x : c.At H h hid a) (q : c.hides = true) : ∃ o, h.get? hid = Option.some o := by
  cases c with
  | inst => obtain ⟨_, _, _, e, _⟩ := x; exact ⟨_, e⟩
  | exc _ tb =>
    obtain ⟨_, _, _, _, _, _, _, e⟩ := x
    cases tb with
    | true => obtain ⟨_, _, _, e, _⟩ := e rfl; exact ⟨_, e⟩
    | false => cases q
  | _ => cases q
/-- a cell depends on its address and, where it hides one, on the hidden address -/
theorem Cell.At.congr {H : Str → Int} {h h' : Heap} {hid a : Addr} {c : Cell} (x : c.At H h hid a) (ea : h'.get? a = h.get? a) (ed : c.hides = true → h'.get? hid = h.get? hid) : c.At H h' hid a := by
  cases c with
  | inst =>
    obtain ⟨e, es, n, r, q⟩ := x
    exact ⟨ea.trans e, es, n, (ed rfl).trans r, q⟩
  | seq => obtain ⟨_, _, e, q⟩ := x; exact ⟨_, _, ea.trans e, q⟩
  | dict => obtain ⟨n, _, _, e, q⟩ := x; exact ⟨n, _, _, ea.trans e, q⟩
  | exc _ tb =>
    obtain ⟨d, vs, sl, e, q1, q2, q3, q4⟩ := x
    refine ⟨d, vs, sl, ea.trans e, q1, q2, q3, fun t => ?_⟩
    obtain ⟨z1, o, ts, z2, z3⟩ := q4 t
    exact ⟨z1, o, ts, (ed t).trans z2, z3⟩
  | pred => obtain ⟨_, e, q⟩ := x; exact ⟨_, ea.trans e, q⟩

section
variable {B : Base} {fs : List (Env × LM)} {σ : AH} {s s' : Shared}

theorem Rel.fresh (R : Rel B fs σ s) {a : Addr} (h : s.heap.get? a = none) : B.h.get? a = none ∧ σ a = none ∧ (∀ p ∈ fs, p.1.locals ≠ a) := by
  refine ⟨?_, ?_, fun p hp e => ?_⟩
  · cases q : B.h.get? a with
    | none => rfl
    | some o => have := R.keep a o q; rw [h] at this; cases this
  · cases q : σ a with
    | none => rfl
    | some c =>
      obtain ⟨δ, c1, _⟩ := R.cells
      obtain ⟨o, e⟩ := (c1 a c q).1.some
      rw [h] at e; cases e
  · obtain ⟨_, _, _, mr, hn, _⟩ := R.fr p hp
    obtain ⟨o, _, _, ho, _⟩ := hn
    rw [e, h] at ho; cases ho

/-- old objects stay (pushes only) -/
theorem Rel.grow (R : Rel B fs σ s) (k : ∀ b o, s.heap.get? b = some o → s'.heap.get? b = some o) (hg : s'.gens = s.gens) (ho : s'.os = s.os) : Rel B fs σ s' := by
  obtain ⟨δ, c1, c2, c3⟩ := R.cells
  refine ⟨fun b o e => k b o (R.keep b o e), fun p hp => ?_, R.nd, ⟨δ, fun a c e => ?_, c2, c3⟩, hg.trans R.gens, ho.trans R.os⟩
  · obtain ⟨f1, f2, f3, mr, hn, hm⟩ := R.fr p hp
    exact ⟨f1, f2, f3, mr, hn.keeps k, hm⟩
  · obtain ⟨x, y⟩ := c1 a c e
    obtain ⟨o, ho⟩ := x.some
    exact ⟨x.congr ((k _ _ ho).trans ho.symm) (fun q => by obtain ⟨o, ho⟩ := x.hidSome q; exact (k _ _ ho).trans ho.symm), y⟩

/-- tokens do not matter -/
theorem Rel.toks (R : Rel B fs σ s) (t : Nat) : Rel B fs σ { s with toks := t } := R.grow (fun _ _ e => e) rfl rfl

/-- a new cell at an address that was free -/
theorem Rel.add (R : Rel B fs σ s) {a hid : Addr} {c : Cell} (k : ∀ b o, s.heap.get? b = some o → s'.heap.get? b = some o) (hg : s'.gens = s.gens) (ho : s'.os = s.os)
    (ha : s.heap.get? a = none) (hh : c.hides = true → s.heap.get? hid = none ∧ hid ≠ a) (hc : c.At B.hs s'.heap hid a) : Rel B fs (upd σ a (some c)) s' := by
  have R' := R.grow k hg ho
  obtain ⟨n1, n2, n3⟩ := R.fresh ha
  obtain ⟨δ, c1, c2, c3⟩ := R'.cells
  obtain ⟨δ₀, d1, d2, d3⟩ := R.cells
  refine ⟨R'.keep, R'.fr, R'.nd, ⟨upd δ₀ a hid, fun b d e => ?_, fun b d e q => ?_, fun b b' d d' e e' q q' z => ?_⟩, R'.gens, R'.os⟩
  · by_cases hb : b = a
    · subst hb; rw [upd_self] at e; cases e; rw [upd_self]; exact ⟨hc, n1, n3⟩
    · rw [upd_ne _ _ hb] at e
      rw [upd_ne _ _ hb]
      obtain ⟨x, y⟩ := d1 b d e
      obtain ⟨o, ho⟩ := x.some
      exact ⟨x.congr ((k _ _ ho).trans ho.symm) (fun q => by obtain ⟨o, ho⟩ := x.hidSome q; exact (k _ _ ho).trans ho.symm), y⟩
  · by_cases hb : b = a
    · subst hb; rw [upd_self] at e; cases e; rw [upd_self]
      obtain ⟨m1, m2⟩ := hh q
      obtain ⟨x1, x2, x3⟩ := R.fresh m1
      exact ⟨x1, by rw [upd_ne _ _ m2]; exact x2, x3⟩
    · rw [upd_ne _ _ hb] at e
      rw [upd_ne _ _ hb]
      obtain ⟨x1, x2, x3⟩ := d2 b d e q
      refine ⟨x1, ?_, x3⟩
      have : δ₀ b ≠ a := fun z => by
        obtain ⟨o, ho⟩ := (d1 b d e).1.hidSome q
        rw [z, ha] at ho; cases ho
      rw [upd_ne _ _ this]; exact x2
  · by_cases hb : b = a <;> by_cases hb' : b' = a
    · rw [hb, hb']
    · subst hb
      rw [upd_self] at e z; cases e
      rw [upd_ne _ _ hb'] at e' z
      obtain ⟨o, ho⟩ := (d1 b' d' e').1.hidSome q'
      rw [← z, (hh q).1] at ho; cases ho
    · subst hb'
      rw [upd_self] at e' z; cases e'
      rw [upd_ne _ _ hb] at e z
      obtain ⟨o, ho⟩ := (d1 b d e).1.hidSome q
      rw [z, (hh q').1] at ho; cases ho
    · rw [upd_ne _ _ hb] at e z; rw [upd_ne _ _ hb'] at e' z
      exact d3 b b' d d' e e' q q' z

/-- a cell is turned at its own address -/
theorem Rel.turn (R : Rel B fs σ s) {a : Addr} {c c' : Cell} (hσ : σ a = some c) (k : ∀ b, b ≠ a → s'.heap.get? b = s.heap.get? b) (hg : s'.gens = s.gens) (ho : s'.os = s.os)
    (hc : ∀ hid, c.At B.hs s.heap hid a → c'.At B.hs s'.heap hid a) (hh : c'.hides = true → c.hides = true) : Rel B fs (upd σ a (some c')) s' := by
  obtain ⟨δ, c1, c2, c3⟩ := R.cells
  obtain ⟨a1, a2, a3⟩ := c1 a c hσ
  refine ⟨fun b o e => (k b fun z => by rw [z, a2] at e; cases e).trans (R.keep b o e), fun p hp => ?_, R.nd, ⟨δ, fun b d e => ?_, fun b d e q => ?_, fun b b' d d' e e' q q' z => ?_⟩, hg.trans R.gens, ho.trans R.os⟩
  · obtain ⟨f1, f2, f3, mr, ⟨o, es, ep, ho, r⟩, hm⟩ := R.fr p hp
    exact ⟨f1, f2, f3, mr, ⟨o, es, ep, (k _ (a3 p hp)).trans ho, r⟩, hm⟩
  · by_cases hb : b = a
    · subst hb; rw [upd_self] at e; cases e; exact ⟨hc _ a1, a2, a3⟩
    · rw [upd_ne _ _ hb] at e
      obtain ⟨x, y⟩ := c1 b d e
      refine ⟨x.congr (k _ hb) (fun q => k _ fun z => ?_), y⟩
      have := (c2 b d e q).2.1
      rw [z, hσ] at this; cases this
  · by_cases hb : b = a
    · subst hb; rw [upd_self] at e; cases e
      obtain ⟨x1, x2, x3⟩ := c2 b c hσ (hh q)
      refine ⟨x1, ?_, x3⟩
      rw [upd_ne _ _ (fun z => by rw [z, hσ] at x2; cases x2)]; exact x2
    · rw [upd_ne _ _ hb] at e
      obtain ⟨x1, x2, x3⟩ := c2 b d e q
      refine ⟨x1, ?_, x3⟩
      rw [upd_ne _ _ (fun z => by rw [z, hσ] at x2; cases x2)]; exact x2
  · have inv : ∀ b d, upd σ a (some c') b = some d → d.hides = true → ∃ d₀, σ b = some d₀ ∧ d₀.hides = true := fun b d e q => by
      by_cases hb : b = a
      · subst hb; rw [upd_self] at e; cases e; exact ⟨c, hσ, hh q⟩
      · rw [upd_ne _ _ hb] at e; exact ⟨d, e, q⟩
    obtain ⟨x, x1, x2⟩ := inv b d e q
    obtain ⟨y, y1, y2⟩ := inv b' d' e' q'
    exact c3 b b' x y x1 y1 x2 y2 z

/-- a cell is turned at its hidden address -/
theorem Rel.turnHid (R : Rel B fs σ s) {a : Addr} {c c' : Cell} (hσ : σ a = some c) (hq : c.hides = true) (hg : s'.gens = s.gens) (ho : s'.os = s.os)
    (k : ∀ hid, c.At B.hs s.heap hid a → (∀ b, b ≠ hid → s'.heap.get? b = s.heap.get? b) ∧ (hid ≠ a → c'.At B.hs s'.heap hid a)) (hh : c'.hides = true) : Rel B fs (upd σ a (some c')) s' := by
  obtain ⟨δ, c1, c2, c3⟩ := R.cells
  obtain ⟨a1, a2, a3⟩ := c1 a c hσ
  obtain ⟨h1, h2, h3⟩ := c2 a c hσ hq
  obtain ⟨k, hc⟩ := k _ a1
  have hc := hc (fun z => by rw [z, hσ] at h2; cases h2)
  refine ⟨fun b o e => (k b fun z => by rw [z, h1] at e; cases e).trans (R.keep b o e), fun p hp => ?_, R.nd, ⟨δ, fun b d e => ?_, fun b d e q => ?_, fun b b' d d' e e' q q' z => ?_⟩, hg.trans R.gens, ho.trans R.os⟩
  · obtain ⟨f1, f2, f3, mr, ⟨o, es, ep, ho, r⟩, hm⟩ := R.fr p hp
    exact ⟨f1, f2, f3, mr, ⟨o, es, ep, (k _ (h3 p hp)).trans ho, r⟩, hm⟩
  · by_cases hb : b = a
    · subst hb; rw [upd_self] at e; cases e; exact ⟨hc, a2, a3⟩
    · rw [upd_ne _ _ hb] at e
      obtain ⟨x, y⟩ := c1 b d e
      refine ⟨x.congr (k _ fun z => by rw [z, h2] at e; cases e) (fun q => k _ fun z => hb (c3 _ _ _ _ e hσ q hq z)), y⟩
  · by_cases hb : b = a
    · subst hb; rw [upd_self] at e; cases e
      refine ⟨h1, ?_, h3⟩
      rw [upd_ne _ _ (fun z => by rw [z, hσ] at h2; cases h2)]; exact h2
    · rw [upd_ne _ _ hb] at e
      obtain ⟨x1, x2, x3⟩ := c2 b d e q
      refine ⟨x1, ?_, x3⟩
      rw [upd_ne _ _ (fun z => by rw [z, hσ] at x2; cases x2)]; exact x2
  · have inv : ∀ b d, upd σ a (some c') b = some d → d.hides = true → ∃ d₀, σ b = some d₀ ∧ d₀.hides = true := fun b d e q => by
      by_cases hb : b = a
      · subst hb; exact ⟨c, hσ, hq⟩
      · rw [upd_ne _ _ hb] at e; exact ⟨d, e, q⟩
    obtain ⟨x, x1, x2⟩ := inv b d e q
    obtain ⟨y, y1, y2⟩ := inv b' d' e' q'
    exact c3 b b' x y x1 y1 x2 y2 z

/-- cells may be forgotten -/
theorem Rel.drop (R : Rel B fs σ s) {τ : AH} (h : ∀ a c, τ a = some c → σ a = some c) : Rel B fs τ s := by
  obtain ⟨δ, c1, c2, c3⟩ := R.cells
  refine ⟨R.keep, R.fr, R.nd, ⟨δ, fun a c e => c1 a c (h a c e), fun a c e q => ?_, fun a b c d e e' q q' z => c3 a b c d (h _ _ e) (h _ _ e') q q' z⟩, R.gens, R.os⟩
  obtain ⟨x1, x2, x3⟩ := c2 a c (h a c e) q
  refine ⟨x1, ?_, x3⟩
  cases z : τ (δ a) with
  | none => rfl
  | some d => rw [h _ _ z] at x2; cases x2

/-- a frame's local is stored -/
theorem Rel.store {env : Env} {m : LM} (R : Rel B ((env, m) :: fs) σ s) {x : Str} {v : Value} {h' : Heap} {t : Nat} (hb : Heap.SameBut env.locals s.heap h')
    (hn : ∀ mr, s.heap.Ns env.locals mr → h'.Ns env.locals (fun y => if y = x then some v else mr y)) : Rel B ((env, upd m x (some (er v))) :: fs) σ { s with heap := h', toks := t } := by
  obtain ⟨δ, c1, c2, c3⟩ := R.cells
  obtain ⟨f1, f2, f3, mr, fn, fm⟩ := R.fr _ (.head _)
  have nd := R.nd
  rw [List.map_cons, List.nodup_cons] at nd
  have mem : ∀ {P : Addr → Prop}, (∀ p ∈ (env, m) :: fs, P p.1.locals) → ∀ p ∈ (env, upd m x (some (er v))) :: fs, P p.1.locals := fun h p hp => by
    rcases List.mem_cons.mp hp with e | hp
    · subst e; exact h (env, m) (.head _)
    · exact h _ (.tail _ hp)
  refine ⟨fun b o e => (hb.2 b fun z => by rw [z, f3] at e; cases e).trans (R.keep b o e), fun p hp => ?_, by simpa using R.nd, ⟨δ, fun a c e => ?_, fun a c e q => ?_, c3⟩, R.gens, R.os⟩
  · rcases List.mem_cons.mp hp with rfl | hp
    · refine ⟨f1, f2, f3, _, hn mr fn, fun y => ?_⟩
      by_cases hy : y = x
      · subst hy; simp
      · simp only [hy, if_false]; rw [upd_ne _ _ hy]; exact fm y
    · obtain ⟨g1, g2, g3, mr', gn, gm⟩ := R.fr p (.tail _ hp)
      refine ⟨g1, g2, g3, mr', gn.sameBut hb fun z => nd.1 ?_, gm⟩
      rw [← z]; exact List.mem_map_of_mem hp
  · obtain ⟨x1, x2, x3⟩ := c1 a c e
    refine ⟨x1.congr (hb.2 a (fun z => x3 _ (.head _) z.symm)) (fun q => hb.2 _ fun z => (c2 a c e q).2.2 _ (.head _) z.symm), x2, mem (P := (· ≠ a)) x3⟩
  · obtain ⟨x1, x2, x3⟩ := c2 a c e q
    exact ⟨x1, x2, mem (P := (· ≠ δ a)) x3⟩
end

/-! # Lay2 -/

theorem upd_upd {α β : Type} [DecidableEq α] (f : α → β) (x : α) (v w : β) : upd (upd f x v) x w = upd f x w := by
  funext y; by_cases h : y = x <;> simp [upd, h]
theorem upd_same {α β : Type} [DecidableEq α] (f : α → β) (x : α) : upd f x (f x) = f := by
  funext y; by_cases h : y = x <;> simp [upd, h]
theorem upd_comm {α β : Type} [DecidableEq α] (f : α → β) {x y : α} (v w : β) (h : x ≠ y) : upd (upd f x v) y w = upd (upd f y w) x v := by
  funext z
  by_cases h1 : z = x
  · subst h1; simp [upd, h]
  · simp [upd, h1]

section
variable {B : Base} {fs : List (Env × LM)} {σ : AH} {s s' : Shared}

theorem Rel.at (R : Rel B fs σ s) {a : Addr} {c : Cell} (h : σ a = some c) : ∃ hid, c.At B.hs s.heap hid a := by
  obtain ⟨δ, c1, _⟩ := R.cells
  exact ⟨_, (c1 a c h).1⟩

theorem Rel.frA (R : Rel B fs σ s) {L : Addr} (hL : L ∈ frames fs) : ∃ p ∈ fs, p.1.locals = L := by
  obtain ⟨p, hp, e⟩ := List.mem_filterMap.mp hL
  obtain ⟨f1, _⟩ := R.fr p hp
  rw [f1] at e; cases e
  exact ⟨p, hp, rfl⟩
theorem Rel.notB (R : Rel B fs σ s) {a : Addr} {c : Cell} (h : σ a = some c) : B.h.get? a = none := by
  obtain ⟨δ, c1, _⟩ := R.cells
  exact (c1 a c h).2.1

/-- the frames' slots may turn -/
theorem Rel.slots (R : Rel B fs σ s) {h' : Heap} (hs : Heap.SlotsOnly (frames fs) s.heap h') : Rel B fs σ { s with heap := h' } := by
  obtain ⟨δ, c1, c2, c3⟩ := R.cells
  have out : ∀ b, (∀ p ∈ fs, p.1.locals ≠ b) → h'.get? b = s.heap.get? b := fun b hb => hs.2.1 b fun q => by
    obtain ⟨p, hp, e⟩ := R.frA q
    exact hb p hp e
  refine ⟨fun b o e => (out b fun p hp z => ?_).trans (R.keep b o e), fun p hp => ?_, R.nd, ⟨δ, fun a c e => ?_, c2, c3⟩, R.gens, R.os⟩
  · obtain ⟨_, _, f3, _⟩ := R.fr p hp
    rw [z, e] at f3; cases f3
  · obtain ⟨f1, f2, f3, mr, ⟨o, es, ep, ho, hd, r⟩, hm⟩ := R.fr p hp
    obtain ⟨sl, hsl⟩ := hs.2.2 _ o ho
    exact ⟨f1, f2, f3, mr, ⟨_, es, ep, hsl, hd, r⟩, hm⟩
  · obtain ⟨x1, x2, x3⟩ := c1 a c e
    exact ⟨x1.congr (out a x3) fun q => out _ (c2 a c e q).2.2, x2, x3⟩

/-- a cell is laid anew, with a new hidden address -/
theorem Rel.rehide (R : Rel B fs σ s) {a hid : Addr} {c c' : Cell} (hσ : σ a = some c) (k : ∀ b o, b ≠ a → s.heap.get? b = some o → s'.heap.get? b = some o) (hg : s'.gens = s.gens) (ho : s'.os = s.os)
    (hh : s.heap.get? hid = none) (hc : c'.At B.hs s'.heap hid a) : Rel B fs (upd σ a (some c')) s' := by
  obtain ⟨δ, c1, c2, c3⟩ := R.cells
  obtain ⟨a1, a2, a3⟩ := c1 a c hσ
  obtain ⟨n1, n2, n3⟩ := R.fresh hh
  have old : ∀ b d, σ b = some d → d.hides = true → δ b ≠ hid := fun b d e q z => by
    obtain ⟨o, ho⟩ := (c1 b d e).1.hidSome q
    rw [z, hh] at ho; cases ho
  refine ⟨fun b o e => k b o (fun z => by rw [z, a2] at e; cases e) (R.keep b o e), fun p hp => ?_, R.nd, ⟨upd δ a hid, fun b d e => ?_, fun b d e q => ?_, fun b b' d d' e e' q q' z => ?_⟩, hg.trans R.gens, ho.trans R.os⟩
  · obtain ⟨f1, f2, f3, mr, ⟨o, es, ep, ho, r⟩, hm⟩ := R.fr p hp
    exact ⟨f1, f2, f3, mr, ⟨o, es, ep, k _ _ (a3 p hp) ho, r⟩, hm⟩
  · by_cases hb : b = a
    · subst hb; rw [upd_self] at e; cases e; rw [upd_self]; exact ⟨hc, a2, a3⟩
    · rw [upd_ne _ _ hb] at e; rw [upd_ne _ _ hb]
      obtain ⟨x, y⟩ := c1 b d e
      obtain ⟨o, ho⟩ := x.some
      refine ⟨x.congr ((k _ _ hb ho).trans ho.symm) (fun q => ?_), y⟩
      obtain ⟨o, ho⟩ := x.hidSome q
      exact (k _ _ (fun z => by have := (c2 b d e q).2.1; rw [z, hσ] at this; cases this) ho).trans ho.symm
  · by_cases hb : b = a
    · subst hb; rw [upd_self] at e; cases e; rw [upd_self]
      have : hid ≠ b := fun z => by rw [← z, n2] at hσ; cases hσ
      exact ⟨n1, by rw [upd_ne _ _ this]; exact n2, n3⟩
    · rw [upd_ne _ _ hb] at e; rw [upd_ne _ _ hb]
      obtain ⟨x1, x2, x3⟩ := c2 b d e q
      exact ⟨x1, by rw [upd_ne _ _ (fun z => by rw [z, hσ] at x2; cases x2)]; exact x2, x3⟩
  · by_cases hb : b = a <;> by_cases hb' : b' = a
    · rw [hb, hb']
    · subst hb; rw [upd_self] at z; rw [upd_ne _ _ hb'] at e' z
      exact absurd z.symm (old b' d' e' q')
    · subst hb'; rw [upd_self] at z; rw [upd_ne _ _ hb] at e z
      exact absurd z (old b d e q)
    · rw [upd_ne _ _ hb] at e z; rw [upd_ne _ _ hb'] at e' z
      exact c3 b b' d d' e e' q q' z

theorem Rel.fun (R : Rel B fs σ s) : s.heap.FunFrames B.h (fs.map (·.1)) := by
  have : ∀ l : List (Env × LM), (∀ p ∈ l, FrOk B.h s.heap p) → s.heap.FunFrames B.h (l.map (·.1)) := by
    intro l
    induction l with
    | nil => intro _; trivial
    | cons p l ih =>
      intro h
      obtain ⟨f1, f2, f3, mr, hn, _⟩ := h p (.head _)
      exact Heap.FunFrames.cons (by rw [f2]; decide) f1 hn f3 (ih fun q hq => h q (.tail _ hq))
  exact this fs R.fr
end

/-! ## an exception's stations -/
section
variable {M : Model} {A : Around} {E : Value → Shared → Prop} {B : Base} {fs : List (Env × LM)} {σ : AH} {s : Shared} {env : Env} {m : LM} {e : Addr} {cls : Value} {ctx : Bool}

theorem frames_map (fs : List (Env × LM)) : (fs.map (·.1)).filterMap (·.frame) = frames fs := by
  simp [frames, List.filterMap_map, Function.comp_def]

theorem exc_entry {L : Addr} {tb : Bool} {head : Value} {hn : Bool} {Q : Unit → Shared → Prop} (hA : A.frames = some (env :: fs.map (·.1))) (hf : env.frame = some L) (R : Rel B ((env, m) :: fs) σ s) (hσ : σ e = some (.exc cls tb ctx))
    (h : ∀ s', Rel B ((env, m) :: fs) (upd σ e (some (.exc cls true ctx))) s' → Q () s') :
    wpAny M A (do let a ← frameOf env; let pl ← entryPlaceOf L hn; let b ← EntryCells.newEntry head a .none (rawInt L) .none pl; setField (.ref e) 1 b) Q E s := by
  refine wpAny_bind (wpAny_frameOf_fun hA R.fun hf fun h₁ hs₁ => ?_)
  have R₁ := R.slots (h' := h₁) (by have e := frames_map ((env, m) :: fs); rw [List.map_cons] at e; rw [← e]; exact hs₁)
  refine wpAny_bind (wpAny_entryPlaceOf fun pl hpl => ?_)
  unfold EntryCells.newEntry newFields
  refine wpAny_bind (wpAny_newObj_type ?_ (hpl.sizeOk5 _ _ _ _ _))
  obtain ⟨hid, d, vs, sl, he, hz, hc, -, -⟩ := R₁.at hσ
  have he₂ := Heap.get?_push_of_some (h := h₁) { cls := .type "traceback", dict := none, data := .fields ([head, .ref L, .none, rawInt L, .none] ++ (if pl.isEmpty then List.replicate 6 Value.none else pl)).toArray } he
  refine wpAny_setField he₂ rfl (by omega) (h _ ?_)
  have hlt := Heap.lt_size he
  have hTe : h₁.objs.size ≠ e := Nat.ne_of_gt hlt
  have he₃ := Heap.get?_update_self (Obj.mapFields (·.setIfInBounds 1 (Value.ref h₁.objs.size))) he₂ (Obj.isFreed_of_fields (Obj.data_mapFields rfl _))
  have hT₃ := (Heap.get?_update_other (h₁.push { cls := .type "traceback", dict := none, data := .fields ([head, .ref L, .none, rawInt L, .none] ++ (if pl.isEmpty then List.replicate 6 Value.none else pl)).toArray })
    (Obj.mapFields (·.setIfInBounds 1 (Value.ref h₁.objs.size))) (Ne.symm hTe)).trans (Heap.get?_push_size h₁ rfl)
  refine R₁.rehide (hid := h₁.objs.size) hσ (fun b o hb hbo => ?_) rfl rfl (Heap.get?_none_of_le (Nat.le_refl _)) ?_
  · exact (Heap.get?_update_other _ _ (Ne.symm hb)).trans (Heap.get?_push_of_some _ hbo)
  · refine ⟨d, vs.setIfInBounds 1 (.ref h₁.objs.size), sl, he₃, by simpa using hz, fun q => ?_, fun q => (by cases q), fun _ => ⟨by simp [show 1 < vs.size by omega], _, _, hT₃, rfl, by simp⟩⟩
    rw [Array.getElem?_setIfInBounds_ne (by decide)]; exact hc q

theorem exc_note {tb : Bool} {Q : Unit → Shared → Prop} (hA : A.frames = some (env :: fs.map (·.1))) (R : Rel B ((env, m) :: fs) σ s) (hσ : σ e = some (.exc cls tb ctx))
    (h : ∀ s', Rel B ((env, m) :: fs) (upd σ e (some (.exc cls true ctx))) s' → Q () s') : wpAny M A (noteFrame (.ref e) env) Q E s := by
  have hf := (R.fr _ (.head _)).1
  dsimp only at hf
  obtain ⟨hid, d, vs, sl, he, hz, hc, h0, h1⟩ := R.at hσ
  unfold noteFrame
  simp only [hf]
  cases tb with
  | false =>
    refine wpAny_bind (wpAny_field he rfl (h0 rfl) ?_)
    rw [if_neg (by decide)]
    exact exc_entry hA hf R hσ h
  | true =>
    obtain ⟨h1, o, ts, ho, hd, hts⟩ := h1 rfl
    refine wpAny_bind (wpAny_field he rfl h1 ?_)
    rw [if_pos (show (Value.ref hid != Value.none) = true from by simp)]
    refine wpAny_bind (wpAny_field ho hd (Array.getElem?_eq_getElem (show 3 < ts.size by omega)) ?_)
    split
    · refine wpAny_pure (h _ ?_)
      rw [← hσ, upd_same]; exact R
    · refine wpAny_bind (wpAny_setField ho hd (by omega) ?_)
      have R' : Rel B ((env, m) :: fs) (upd σ e (some (.exc cls true ctx))) { s with heap := s.heap.update hid (Obj.mapFields (·.setIfInBounds 3 Value.none)) } := by
        refine R.turnHid hσ rfl rfl rfl (fun hid' x => ?_) rfl
        obtain ⟨d', vs', sl', he', hz', hc', -, h1'⟩ := x
        obtain ⟨h1', o', ts', ho', hd', hts'⟩ := h1' rfl
        rw [he] at he'; cases he'
        rw [h1] at h1'; cases h1'
        rw [ho] at ho'; cases ho'
        refine ⟨fun b hb => Heap.get?_update_other _ _ (Ne.symm hb), fun hne => ⟨d, vs, sl, (Heap.get?_update_other _ _ hne).trans he, hz, hc, h0, fun _ => ⟨h1, _, _, Heap.get?_update_self _ ho (Obj.isFreed_of_fields (Obj.data_mapFields hd _)), Obj.data_mapFields hd _, by simpa using hts⟩⟩⟩
      refine exc_entry hA hf R' (by rw [upd_self]) fun s' R'' => h s' ?_
      rw [upd_upd] at R''; exact R''

theorem exc_flight {fl : Option Addr} {Q : Unit → Shared → Prop} (R : Rel B fs σ s) {tb : Bool} (hσ : σ e = some (.exc cls tb ctx))
    (h : ∀ s', Rel B fs σ s' → Q () s') : wpAny M A (setFlight (.ref e) fl) Q E s := by
  obtain ⟨hid, d, vs, sl, he, hz, hc, h0, h1⟩ := R.at hσ
  unfold setFlight
  cases tb with
  | false =>
    refine wpAny_bind (wpAny_field he rfl (h0 rfl) ?_)
    rw [if_neg (by decide)]
    exact wpAny_pure (h _ R)
  | true =>
    obtain ⟨h1, o, ts, ho, hd, hts⟩ := h1 rfl
    refine wpAny_bind (wpAny_field he rfl h1 ?_)
    rw [if_pos (show (Value.ref hid != Value.none) = true from by simp)]
    refine wpAny_setField ho hd (by omega) (h _ ?_)
    rw [← upd_same σ e, hσ]
    refine R.turnHid hσ rfl rfl rfl (fun hid' x => ?_) rfl
    obtain ⟨d', vs', sl', he', hz', hc', -, h1'⟩ := x
    obtain ⟨h1', o', ts', ho', hd', hts'⟩ := h1' rfl
    rw [he] at he'; cases he'
    rw [h1] at h1'; cases h1'
    rw [ho] at ho'; cases ho'
    refine ⟨fun b hb => Heap.get?_update_other _ _ (Ne.symm hb), fun hne => ⟨d, vs, sl, (Heap.get?_update_other _ _ hne).trans he, hz, hc, h0, fun _ => ⟨h1, _, _, Heap.get?_update_self _ ho (Obj.isFreed_of_fields (Obj.data_mapFields hd _)), Obj.data_mapFields hd _, by simpa using hts⟩⟩⟩

theorem exc_leave {tb : Bool} {Q : Unit → Shared → Prop} (hA : A.frames = some (env :: fs.map (·.1))) (R : Rel B ((env, m) :: fs) σ s) (hσ : σ e = some (.exc cls tb ctx))
    (h : ∀ s', Rel B ((env, m) :: fs) (upd σ e (some (.exc cls true ctx))) s' → Q () s') : wpAny M A (leaving env (.ref e)) Q E s := by
  unfold leaving
  exact wpAny_bind (exc_note hA R hσ fun s' R' => exc_flight R' (by rw [upd_self]) fun s'' R'' => h s'' R'')

/-- a traced exception goes on -/
theorem exc_back (R : Rel B fs σ s) (hσ : σ e = some (.exc cls true ctx)) (h : ∀ s', Rel B fs σ s' → E (.ref e) s') : cameBackBy M A env E (.ref e) s := by
  obtain ⟨hid, d, vs, sl, he, hz, hc, h0, h1⟩ := R.at hσ
  obtain ⟨h1, o, ts, ho, hd, hts⟩ := h1 rfl
  unfold cameBackBy
  refine wpAny_bind (wpAny_field he rfl h1 ?_)
  rw [if_neg (show ¬ ((Value.ref hid == Value.none) = true) by simp)]
  exact exc_flight R hσ h

theorem exc_pass {α : Type} {what : String} {Q : α → Shared → Prop} (R : Rel B fs σ s) (hσ : σ e = some (.exc cls true ctx)) (h : ∀ s', Rel B fs σ s' → E (.ref e) s') : wpAny M A (PySem.passOn what (.ref e) env) Q E s := by
  obtain ⟨hid, d, vs, sl, he, hz, hc, h0, h1⟩ := R.at hσ
  obtain ⟨h1, o, ts, ho, hd, hts⟩ := h1 rfl
  unfold PySem.passOn
  refine wpAny_bind (wpAny_field he rfl h1 ?_)
  rw [if_neg (show ¬ ((Value.ref hid == Value.none) = true) by simp)]
  exact wpAny_bind (exc_flight R hσ fun s' R' => wpAny_throw (h s' R'))
end

/-! # Lay3 -/

structure Wd where
  prog : Program
  w : World
  K : Frag
  p : Program
  loose : List Str
  mean : ExcName → Option Value
  mg : Str → Option Value
  mb : Str → Option Value

structure Gd (W : Wd) (B : Base) : Prop where
  X : W.K.In B.h
  T : Top W.p W.loose W.mean W.mg W.mb B.h
  hs : B.hs = hashStr W.w

def Base.le (B B' : Base) : Prop := B.h.StaysIn B'.h ∧ B'.os = B.os ∧ B'.hs = B.hs
theorem Gd.le {W : Wd} {B B' : Base} (G : Gd W B) (h : B.le B') : Gd W B' := ⟨G.X.keeps h.1, G.T.keeps h.1, h.2.2.trans G.hs⟩

def HdOk (A : Around) (B : Base) : Prop :=
  A.handled = none ∨ ∃ e oe vs, A.handled = some (.ref e) ∧ B.h.get? e = some oe ∧ oe.data = .fields vs ∧ vs[2]? = some .none
theorem HdOk.le {A : Around} {B B' : Base} (h : HdOk A B) (k : B.le B') : HdOk A B' := by
  rcases h with h | ⟨e, oe, vs, h1, h2, h3⟩
  · exact .inl h
  · exact .inr ⟨e, oe, vs, h1, k.1 _ _ h2, h3⟩

/-- what holds of the machine around the frames `es`, the innermost first; `u` is the room left for calls between frames -/
structure Ok (W : Wd) (A : Around) (B : Base) (es : List Env) (u : Nat) : Prop where
  g : Gd W B
  fr : A.frames = some es
  depth : A.depth + u ≤ 310 + 10 * es.length
  units : A.units + u ≤ 20 + 12 * es.length
  short : es.length ≤ 60
section
variable {W : Wd} {A : Around} {B B' : Base} {es : List Env} {u : Nat}
theorem Ok.le (h : Ok W A B es u) (k : B.le B') : Ok W A B' es u := ⟨h.g.le k, h.fr, h.depth, h.units, h.short⟩
theorem Ok.less {v : Nat} (h : Ok W A B es u) (k : v ≤ u := by omega) : Ok W A B es v := ⟨h.g, h.fr, by have := h.depth; omega, by have := h.units; omega, h.short⟩
theorem Ok.room (h : Ok W A B es u) : A.depth < recursionLimit := by
  have := h.depth; have := h.short; show _ < 1000; omega
theorem Ok.line (h : Ok W A B es u) : A.units < cLine := by
  have := h.units; have := h.short; show _ < 9900; omega
theorem Ok.in1 (h : Ok W A B es (u + 1)) : Ok W A.in1 B es u := ⟨h.g, h.fr, by have := h.depth; show A.depth + u ≤ _; omega, by have := h.units; show A.units + 1 + u ≤ _; omega, h.short⟩
theorem Ok.deeper (h : Ok W A B es 0) (k : es.length < 60) (env : Env) : Ok W (A.deeper env) B (env :: es) 8 := by
  refine ⟨h.g, ?_, ?_, ?_, k⟩
  · show A.frames.map _ = _
    rw [h.fr]; rfl
  · have := h.depth
    show A.depth + 1 + 8 ≤ 310 + 10 * (es.length + 1); omega
  · have := h.units
    show A.units + 3 + 8 ≤ 20 + 12 * (es.length + 1); omega
theorem Ok.mark (h : Ok W A B es u) (v : Option Value) : Ok W (A.mark v) B es u := ⟨h.g, h.fr, h.depth, h.units, h.short⟩
theorem HdOk.mark {e : Addr} {oe : Obj} {vs : Array Value} (h1 : B.h.get? e = some oe) (h2 : oe.data = .fields vs) (h3 : vs[2]? = some .none) : HdOk (A.mark (some (.ref e))) B := .inr ⟨e, oe, vs, rfl, h1, h2, h3⟩
theorem HdOk.same {A' : Around} (h : HdOk A B) (e : A'.handled = A.handled) : HdOk A' B := by
  rcases h with h | ⟨a, oe, vs, h1, h2⟩
  · exact .inl (e.trans h)
  · exact .inr ⟨a, oe, vs, e.trans h1, h2⟩
end

section
variable {α β : Type} {W : Wd} {A : Around} {B : Base} {fe : Env} {fs : List (Env × LM)} {m : LM} {σ : AH}

/-- the ends of a tree: a value, or an exception beside the cells -/
def EndX (B : Base) (fe : Env) (fs : List (Env × LM)) (X : Value → Bool → LM → AH → Prop) (ev : Value) (s' : Shared) : Prop :=
  ∃ e cls tb ctx m' σ', ev = .ref e ∧ σ' e = none ∧ Rel B ((fe, m') :: fs) (upd σ' e (some (.exc cls tb ctx))) s' ∧ X cls ctx m' σ'
def EndQ {α : Type} (B : Base) (fe : Env) (fs : List (Env × LM)) (Q : α → LM → AH → Prop) (v : α) (s' : Shared) : Prop :=
  ∃ m' σ', Rel B ((fe, m') :: fs) σ' s' ∧ Q v m' σ'

def Tr (W : Wd) (A : Around) (B : Base) (fe : Env) (fs : List (Env × LM)) (t : Sem α) (m : LM) (σ : AH) (Q : α → LM → AH → Prop) (X : Value → Bool → LM → AH → Prop) : Prop :=
  ∀ s, Rel B ((fe, m) :: fs) σ s → wpAny (model W.prog W.w) A t (EndQ B fe fs Q) (EndX B fe fs X) s
abbrev TrV (W : Wd) (A : Around) (B : Base) (fe : Env) (fs : List (Env × LM)) (t : Sem Value) (m : LM) (σ : AH) (Q : Value → LM → AH → Prop) (X : Value → Bool → LM → AH → Prop) : Prop :=
  Tr W A B fe fs t m σ (fun v => Q (er v)) X

def CallX (B : Base) (fs : List (Env × LM)) (X : Value → Bool → AH → Prop) (ev : Value) (s' : Shared) : Prop :=
  ∃ e cls tb ctx σ', ev = .ref e ∧ σ' e = none ∧ Rel B fs (upd σ' e (some (.exc cls tb ctx))) s' ∧ X cls ctx σ'
def CallQ (B : Base) (fs : List (Env × LM)) (Q : Value → AH → Prop) (v : Value) (s' : Shared) : Prop := ∃ σ', Rel B fs σ' s' ∧ Q (er v) σ'

abbrev erK (kw : List (Str × Value)) : List (Str × Value) := kw.map fun p => (p.1, er p.2)
/-- a call, whatever its arguments' tokens; `fs` all frames -/
def CallR (W : Wd) (A : Around) (B : Base) (fs : List (Env × LM)) (f : Value) (pos : List Value) (kw : List (Str × Value)) (σ : AH) (Q : Value → AH → Prop) (X : Value → Bool → AH → Prop) : Prop :=
  ∀ pos' kw', pos'.map er = pos → erK kw' = kw → ∀ s, Rel B fs σ s →
    codeAny (model W.prog W.w) A (.call f ⟨pos', kw'⟩) (wants (CallQ B fs Q) (CallX B fs X)) s

theorem t_pure {a : α} {Q X} (h : Q a m σ) : Tr W A B fe fs (pure a) m σ Q X := fun s R => wpAny_pure ⟨m, σ, R, h⟩
theorem Tr.mono {t : Sem α} {Q Q' : α → LM → AH → Prop} {X X' : Value → Bool → LM → AH → Prop} (h : Tr W A B fe fs t m σ Q X) (hq : ∀ v m' σ', Q v m' σ' → Q' v m' σ') (hx : ∀ c b m' σ', X c b m' σ' → X' c b m' σ') : Tr W A B fe fs t m σ Q' X' :=
  fun s R => wpAny_mono (h s R) (fun _ _ ⟨m', σ', R', q⟩ => ⟨m', σ', R', hq _ _ _ q⟩) (fun _ _ ⟨e, cls, tb, ctx, m', σ', e1, e2, e3, q⟩ => ⟨e, cls, tb, ctx, m', σ', e1, e2, e3, hx _ _ _ _ q⟩)
theorem t_bind {t : Sem α} {f : α → Sem β} {Q X} (h : Tr W A B fe fs t m σ (fun v m' σ' => Tr W A B fe fs (f v) m' σ' Q X) X) : Tr W A B fe fs (t >>= f) m σ Q X :=
  fun s R => wpAny_bind (wpAny_mono (h s R) (fun _ s' ⟨_, _, R', q⟩ => q s' R') (fun _ _ x => x))
/-- the same as a tree -/
def CallW (W : Wd) (A : Around) (B : Base) (fs : List (Env × LM)) (f : Value) (pos : List Value) (kw : List (Str × Value)) (σ : AH) (Q : Value → AH → Prop) (X : Value → Bool → AH → Prop) : Prop :=
  ∀ pos' kw', pos'.map er = pos → erK kw' = kw → ∀ s, Rel B fs σ s → wpAny (model W.prog W.w) A (call f pos' kw') (CallQ B fs Q) (CallX B fs X) s
theorem CallR.w {f : Value} {pos kw} {Q : Value → AH → Prop} {X : Value → Bool → AH → Prop} (h : CallR W A B fs f pos kw σ Q X) : CallW W A B fs f pos kw σ Q X := fun pos' kw' e1 e2 s R => wpAny_call (h pos' kw' e1 e2 s R)
theorem CallW.mono {f : Value} {pos kw} {Q Q' : Value → AH → Prop} {X X' : Value → Bool → AH → Prop} (h : CallW W A B fs f pos kw σ Q X) (hq : ∀ v σ', Q v σ' → Q' v σ') (hx : ∀ c b σ', X c b σ' → X' c b σ') : CallW W A B fs f pos kw σ Q' X' :=
  fun pos' kw' e1 e2 s R => wpAny_mono (h pos' kw' e1 e2 s R) (fun _ _ ⟨σ', z1, q⟩ => ⟨σ', z1, hq _ _ q⟩) (fun _ _ ⟨e, cls, tb, ctx, σ', z1, z2, z3, q⟩ => ⟨e, cls, tb, ctx, σ', z1, z2, z3, hx _ _ _ q⟩)
/-- a call within a frame's tree -/
theorem t_call {f : Value} {pos : List Value} {kw : List (Str × Value)} {Q X} (h : CallW W A B ((fe, m) :: fs) f (pos.map er) (erK kw) σ (fun v σ' => Q v m σ') (fun c b σ' => X c b m σ')) : TrV W A B fe fs (call f pos kw) m σ Q X :=
  fun s R => wpAny_mono (h pos kw rfl rfl s R) (fun _ _ ⟨σ', z1, q⟩ => ⟨m, σ', z1, q⟩) (fun _ _ ⟨e, cls, tb, ctx, σ', z1, z2, z3, q⟩ => ⟨e, cls, tb, ctx, m, σ', z1, z2, z3, q⟩)

/-! ## entering a def -/
theorem Rel.enter {s : Shared} (R : Rel B fs σ s) {env : Env} {mr : LM} {h₁ : Heap} {t : Nat} (hL : env.locals = s.heap.objs.size) (hf : env.frame = some env.locals) (hk : env.scope.kind = .function)
    (hn : h₁.Ns env.locals mr) (k : ∀ b o, s.heap.get? b = some o → h₁.get? b = some o) : Rel B ((env, fun x => (mr x).map er) :: fs) σ { s with heap := h₁, toks := t } := by
  have fr : s.heap.get? env.locals = none := by rw [hL]; exact Heap.get?_none_of_le (Nat.le_refl _)
  obtain ⟨n1, n2, n3⟩ := R.fresh fr
  have R' := R.grow (s' := { s with heap := h₁, toks := t }) k rfl rfl
  obtain ⟨δ, c1, c2, c3⟩ := R.cells
  refine ⟨R'.keep, fun p hp => ?_, ?_, ⟨δ, fun a c e => ?_, fun a c e q => ?_, c3⟩, R'.gens, R'.os⟩
  · rcases List.mem_cons.mp hp with rfl | hp
    · exact ⟨hf, hk, n1, mr, hn, fun _ => rfl⟩
    · exact R'.fr p hp
  · rw [List.map_cons, List.nodup_cons]
    refine ⟨fun q => ?_, R.nd⟩
    obtain ⟨p, hp, e⟩ := List.mem_map.mp q
    exact n3 p hp e
  · obtain ⟨x1, x2, x3⟩ := c1 a c e
    obtain ⟨o, ho⟩ := x1.some
    refine ⟨x1.congr ((k _ _ ho).trans ho.symm) (fun q => by obtain ⟨o, ho⟩ := x1.hidSome q; exact (k _ _ ho).trans ho.symm), x2, fun p hp => ?_⟩
    rcases List.mem_cons.mp hp with rfl | hp
    · intro z; dsimp only at z; rw [z, e] at n2; cases n2
    · exact x3 p hp
  · obtain ⟨x1, x2, x3⟩ := c2 a c e q
    refine ⟨x1, x2, fun p hp => ?_⟩
    rcases List.mem_cons.mp hp with rfl | hp
    · intro z
      dsimp only at z
      obtain ⟨o, ho⟩ := (c1 a c e).1.hidSome q
      rw [← z, fr] at ho; cases ho
    · exact x3 p hp

theorem Rel.leave {s : Shared} {p : Env × LM} (R : Rel B (p :: fs) σ s) : Rel B fs σ s := by
  obtain ⟨δ, c1, c2, c3⟩ := R.cells
  have nd := R.nd
  rw [List.map_cons, List.nodup_cons] at nd
  exact ⟨R.keep, fun p hp => R.fr p (.tail _ hp), nd.2, ⟨δ, fun a c e => ⟨(c1 a c e).1, (c1 a c e).2.1, fun p hp => (c1 a c e).2.2 p (.tail _ hp)⟩,
    fun a c e q => ⟨(c2 a c e q).1, (c2 a c e q).2.1, fun p hp => (c2 a c e q).2.2 p (.tail _ hp)⟩, c3⟩, R.gens, R.os⟩

/-- how the arguments meet the parameters, whatever their tokens -/
def Binds (W : Wd) (fd : FuncData) (pos : List Value) (kw : List (Str × Value)) (bs : List (Str × Value)) : Prop :=
  ∀ pos' kw', pos'.map er = pos → erK kw' = kw → ∀ s : Shared, W.K.In s.heap → ∃ binds, BindsTo s fd ⟨pos', kw'⟩ binds ∧ erK binds = bs

def retv : Flow → Value
  | .ret v => v
  | _ => .none

theorem lookup_er (l : List (Str × Value)) (x : Str) : ((l.lookup x).map er) = (erK l).lookup x := by
  induction l with
  | nil => rfl
  | cons p l ih =>
    obtain ⟨y, v⟩ := p
    simp only [erK, List.map_cons, List.lookup_cons]
    cases (x == y) with
    | true => rfl
    | false => exact ih

theorem CallR.def {f : Addr} {name qual : Str} {params : Arguments} {body : List Stmt} {scope : Scope} {dV kV doc pm cdv ct oc : Value} {an od : Option Addr} {osl : Array (Option Value)}
    {pos : List Value} {kw bs : List (Str × Value)} {Q : Value → AH → Prop} {X : Value → Bool → AH → Prop} (O : Ok W A B (fs.map (·.1)) 0) (hsh : fs.length < 60)
    (ho : W.K.lookup f = some ⟨oc, od, .func (fnOf name qual params body scope dV kV doc pm an cdv ct), osl⟩) (hcd : codeIn W.K cdv qual = true)
    (hb : Binds W (fnOf name qual params body scope dV kV doc pm an cdv ct) pos kw bs)
    (hloc : (bs.all fun x => scope.names.lookup x.1 == some .local) = true)
    (h : ∀ L A', Ok W A' B (envOf qual scope L f cdv :: fs.map (·.1)) 8 → A'.handled = A.handled →
      Tr W A' B (envOf qual scope L f cdv) fs (execs body (envOf qual scope L f cdv)) (fun x => bs.reverse.lookup x) σ (fun fl _ σ' => Q (er (retv fl)) σ') (fun c b _ σ' => X c b σ'))
    (hco : scope.isCoroutine = false := by rfl) (hgen : scope.isGenerator = false := by rfl) (hk : scope.kind = .function := by rfl)
    (hcell : ∀ x ∈ scope.names, x.2 ≠ .cell := by decide) : CallR W A B fs (.ref f) pos kw σ Q X := fun pos' kw' e1 e2 s R => by
  have X0 := O.g.X.keeps R.keep
  obtain ⟨binds, hbt, hbe⟩ := hb pos' kw' e1 e2 s X0
  have hl : ∀ x ∈ binds, scope.names.lookup x.1 = some .local := fun x hx => by
    have : (x.1, er x.2) ∈ bs := by rw [← hbe]; exact List.mem_map.mpr ⟨x, hx, rfl⟩
    simpa using List.all_eq_true.mp hloc _ this
  refine codeAny_call_def (fd := fnOf name qual params body scope dV kV doc pm an cdv ct) (body := body) (binds := binds) O.room (X0 _ _ ho) rfl (O.g.T.nolimit.keeps R.keep) (codeRec_of X0 hcd) rfl hbt hcell hl (fun h₁ hns hk₁ => ?_) hco hgen hk
  have R₁ := R.enter (env := envOf qual scope s.heap.objs.size f cdv) (t := s.toks + binds.length) rfl rfl hk hns hk₁
  have em : (fun x => (binds.reverse.lookup x).map er) = fun x => bs.reverse.lookup x := by
    funext x; rw [lookup_er, ← hbe]; simp [erK]
  rw [em] at R₁
  have O₁ := O.deeper (by simpa using hsh) (envOf qual scope s.heap.objs.size f cdv)
  refine wpAny_mono (h _ _ O₁ rfl _ R₁) (fun fl s' q => ?_) fun e s' q => ?_
  · obtain ⟨m', σ', R', q⟩ := q
    refine ⟨σ', R'.leave, ?_⟩
    cases fl <;> exact q
  · obtain ⟨e, cls, tb, ctx, m', σ', rfl, e2, R', q⟩ := q
    refine exc_leave (fs := fs) (env := envOf qual scope s.heap.objs.size f cdv) O₁.fr R' (by rw [upd_self]) fun s'' R'' => ?_
    rw [upd_upd] at R''
    exact ⟨e, cls, true, ctx, σ', rfl, e2, R''.leave, q⟩
end

/-! # Lay4 -/

section
variable {α β : Type} {W : Wd} {A : Around} {B : Base} {fe env : Env} {fs : List (Env × LM)} {m : LM} {σ : AH}

abbrev TrL (W : Wd) (A : Around) (B : Base) (fe : Env) (fs : List (Env × LM)) (t : Sem (List Value)) (m : LM) (σ : AH) (Q : List Value → LM → AH → Prop) (X : Value → Bool → LM → AH → Prop) : Prop :=
  Tr W A B fe fs t m σ (fun v => Q (v.map er)) X

theorem t_eq {t u : Sem α} {Q X} (e : t = u) (h : Tr W A B fe fs u m σ Q X) : Tr W A B fe fs t m σ Q X := e ▸ h
/-- into the state's logic and out of it -/
theorem Tr.at {t : Sem α} {Q X} {s : Shared} (h : Tr W A B fe fs t m σ Q X) (R : Rel B ((fe, m) :: fs) σ s) : wpAny (model W.prog W.w) A t (EndQ B fe fs Q) (EndX B fe fs X) s := h s R
theorem Tr.go {t : Sem α} {Q : α → LM → AH → Prop} {X} {E : Value → Shared → Prop} {P : α → Shared → Prop} {s : Shared} (h : Tr W A B fe fs t m σ Q X) (R : Rel B ((fe, m) :: fs) σ s)
    (hq : ∀ v m' σ' s', Rel B ((fe, m') :: fs) σ' s' → Q v m' σ' → P v s') (hx : ∀ e s', EndX B fe fs X e s' → E e s') : wpAny (model W.prog W.w) A t P E s :=
  wpAny_mono (h s R) (fun _ s' ⟨_, _, R', q⟩ => hq _ _ _ s' R' q) hx

/-! ### statements -/
theorem t_execs_nil {Q : Flow → LM → AH → Prop} {X} (h : Q .next m σ) : Tr W A B fe fs (execs [] env) m σ Q X := fun _ R => wpAny_execs_nil ⟨m, σ, R, h⟩
theorem t_execs_cons {st : Stmt} {rest : List Stmt} {Q : Flow → LM → AH → Prop} {X}
    (h : Tr W A B fe fs (exec st env) m σ (fun f m' σ' => match f with | .next => Tr W A B fe fs (execs rest env) m' σ' Q X | f => Q f m' σ') X) : Tr W A B fe fs (execs (st :: rest) env) m σ Q X :=
  fun s R => wpAny_execs_cons (h.go R (fun f m' σ' s' R' q => by cases f <;> first | exact q s' R' | exact ⟨m', σ', R', q⟩) (fun _ _ x => x))
theorem t_Break {pos} {Q : Flow → LM → AH → Prop} {X} (h : Q .brk m σ) : Tr W A B fe fs (exec (.Break pos) env) m σ Q X := fun _ R => wpAny_Break ⟨m, σ, R, h⟩
theorem t_Continue {pos} {Q : Flow → LM → AH → Prop} {X} (h : Q .cont m σ) : Tr W A B fe fs (exec (.Continue pos) env) m σ Q X := fun _ R => wpAny_Continue ⟨m, σ, R, h⟩
theorem t_ReturnN {pos} {Q : Flow → LM → AH → Prop} {X} (h : Q (.ret .none) m σ) : Tr W A B fe fs (exec (.Return none pos) env) m σ Q X := fun _ R => wpAny_Return_none ⟨m, σ, R, h⟩
theorem t_Return {e pos} {Q : Flow → LM → AH → Prop} {X} (h : TrV W A B fe fs (eval e env) m σ (fun v m' σ' => ∀ r, er r = v → Q (.ret r) m' σ') X) : Tr W A B fe fs (exec (.Return (some e) pos) env) m σ Q X :=
  fun _ R => wpAny_Return_some (h.go R (fun v m' σ' _ R' q => ⟨m', σ', R', q v rfl⟩) (fun _ _ x => x))
def notRef : Value → Prop
  | .ref _ => False
  | _ => True
theorem t_Expr {e pos} {Q : Flow → LM → AH → Prop} {X} (h : TrV W A B fe fs (eval e env) m σ (fun v m' σ' => notRef v ∧ Q .next m' σ') X)
    (hi : interactive env = false := by with_unfolding_all rfl) (hs : swapsWith e none pos.line env = pure false := by with_unfolding_all rfl) : Tr W A B fe fs (exec (.Expr e pos) env) m σ Q X :=
  fun _ R => wpAny_Expr (h.go R (fun v m' σ' _ R' q => by cases v <;> first | exact q.1.elim | exact ⟨m', σ', R', q.2⟩) (fun _ _ x => x)) hi hs
theorem t_If {test body orelse pos} {Q : Flow → LM → AH → Prop} {X} (h : Tr W A B fe fs (isTrue test env (eval test env)) m σ (fun b m' σ' => if b = true then Tr W A B fe fs (execs body env) m' σ' Q X else Tr W A B fe fs (execs orelse env) m' σ' Q X) X) :
    Tr W A B fe fs (exec (.If test body orelse pos) env) m σ Q X :=
  fun _ R => wpAny_If (h.go R (fun b m' σ' s' R' q => by cases b <;> exact q s' R') (fun _ _ x => x))

/-- a local of the frame -/
theorem t_storeName {x : Str} {v : Value} {Q : Unit → LM → AH → Prop} {X} (h : Q () (upd m x (some (er v))) σ) (hl : fe.kindOf x = some .local) (hm : fe.scope.kind = .function) : Tr W A B fe fs (storeName fe x v) m σ Q X :=
  fun s R => by
    obtain ⟨f1, f2, f3, mr, hn, fm⟩ := R.fr _ (.head _)
    exact wpAny_storeName_local hl hn (fun h' hn' hs => ⟨_, σ, R.store hs fun mr₂ hn₂ => by
      have : mr₂ = mr := by
        obtain ⟨o, es, ep, ho, hd, _, q⟩ := hn
        obtain ⟨o', es', ep', ho', hd', _, q'⟩ := hn₂
        rw [ho] at ho'; cases ho'
        rw [hd] at hd'; cases hd'
        funext y; rw [← q, ← q']
      rw [this]; exact hn', h⟩) (by rw [hm]; rfl)
theorem t_Assign {x : Str} {xp pos : Pos} {value : Expr} {Q : Flow → LM → AH → Prop} {X} (h : TrV W A B fe fs (eval value fe) m σ (fun v m' σ' => Q .next (upd m' x (some v)) σ') X)
    (hl : fe.kindOf x = some .local := by with_unfolding_all rfl) (hm : fe.scope.kind = .function := by with_unfolding_all rfl) (hs : swapsWith value (some (.Name x xp)) pos.line fe = pure false := by with_unfolding_all rfl) : Tr W A B fe fs (exec (.Assign [.Name x xp] value pos) fe) m σ Q X :=
  fun _ R => wpAny_Assign_Name (h.go R (fun v m' σ' s' R' q => (t_storeName (Q := fun _ => Q .next) q hl hm).at R') (fun _ _ x => x)) hs

/-! ### expressions -/
theorem t_Int {i : Int} {k pos} {Q X} (h : Q (.int i 0) m σ) : TrV W A B fe fs (eval (.Constant (.int i) k pos) env) m σ Q X := fun _ R => wpAny_Constant_int ⟨m, σ, R.toks _, h⟩
theorem t_Str {x : Str} {k pos} {Q X} (h : Q (.str x 0) m σ) : TrV W A B fe fs (eval (.Constant (.str x) k pos) env) m σ Q X := fun _ R => wpAny_Constant_str ⟨m, σ, R.toks _, h⟩
theorem t_None {k pos} {Q X} (h : Q .none m σ) : TrV W A B fe fs (eval (.Constant .none k pos) env) m σ Q X := fun _ R => wpAny_Constant_none ⟨m, σ, R, h⟩
theorem t_Bool {b : Bool} {k pos} {Q X} (h : Q (.bool b) m σ) : TrV W A B fe fs (eval (.Constant (.bool b) k pos) env) m σ Q X := fun _ R => wpAny_Constant_bool ⟨m, σ, R, h⟩

theorem t_loadLocal {x : Str} {v : Value} {Q X} (hv : m x = some v) (h : Q v m σ) (hl : fe.kindOf x = some .local) (hm : fe.scope.kind = .function) : TrV W A B fe fs (loadName fe x) m σ Q X := fun s R => by
  obtain ⟨f1, f2, f3, mr, hn, fm⟩ := R.fr _ (.head _)
  have := fm x
  dsimp only at this
  rw [hv] at this
  cases q : mr x with
  | none => rw [q] at this; cases this
  | some r =>
    rw [q] at this
    exact wpAny_loadName_local hm hl hn q ⟨m, σ, R, by have e : er r = v := Option.some.inj this; show Q (er r) m σ; rw [e]; exact h⟩
theorem t_Local {x : Str} {pos} {v : Value} {Q X} (hv : m x = some v) (h : Q v m σ) (hl : fe.kindOf x = some .local := by with_unfolding_all rfl) (hm : fe.scope.kind = .function := by with_unfolding_all rfl) (hd : (x == ("__debug__" : Str)) = false := by decide) :
    TrV W A B fe fs (eval (.Name x pos) fe) m σ Q X := fun s R => wpAny_Name ((t_loadLocal (Q := Q) (X := X) hv h hl hm).at R) hd

/-- a name of the text's top -/
theorem t_Global {x : Str} {pos} {v : Value} {Q X} {es : List Env} {u : Nat} (O : Ok W A B es u) (e : nsIn W.K mainGlobals x = some (some v)) (h : Q (er v) m σ)
    (hg : env.globals = mainGlobals := by with_unfolding_all rfl) (hk : env.scope.kind = .function := by with_unfolding_all rfl) (hx : env.kindOf x = some .globalImplicit := by with_unfolding_all rfl) (hd : (x == ("__debug__" : Str)) = false := by decide) :
    TrV W A B fe fs (eval (.Name x pos) env) m σ Q X := fun s R => by
  have X0 := O.g.X.keeps R.keep
  have T0 := (topRead_of O.g.T).keeps R.keep
  exact Calls.Name_function_global hk hx (Calls.loadGlobal_global (by rw [hg]; exact T0.g) (mg_of X0 T0.g e) ⟨m, σ, R, h⟩) hd
theorem t_Builtin {x : Str} {pos} {v : Value} {Q X} {es : List Env} {u : Nat} (O : Ok W A B es u) (e : nsIn W.K mainGlobals x = some none) (hv : bootBuiltins x = some v) (h : Q (er v) m σ)
    (hn : x ≠ "__name__" := by decide) (hg : env.globals = mainGlobals := by with_unfolding_all rfl) (hb : env.builtins = builtinsNs := by with_unfolding_all rfl) (hk : env.scope.kind = .function := by with_unfolding_all rfl) (hx : env.kindOf x = some .globalImplicit := by with_unfolding_all rfl) (hd : (x == ("__debug__" : Str)) = false := by decide) :
    TrV W A B fe fs (eval (.Name x pos) env) m σ Q X := fun s R => by
  have X0 := O.g.X.keeps R.keep
  have T0 := (topRead_of O.g.T).keeps R.keep
  exact Calls.Name_function_global hk hx (Calls.loadGlobal_builtin (by rw [hg]; exact T0.g) (mg_none_of X0 T0.g e) (by rw [hb]; exact T0.b) ((T0.builtins x hn).trans hv) ⟨m, σ, R, h⟩) hd

/-! ### operations, whatever their operands' tokens -/
def Op1 (W : Wd) (A : Around) (B : Base) (fe : Env) (fs : List (Env × LM)) {α : Type} (f : Value → Sem α) (a : Value) (m : LM) (σ : AH) (Q : α → LM → AH → Prop) (X : Value → Bool → LM → AH → Prop) : Prop :=
  ∀ x, er x = a → Tr W A B fe fs (f x) m σ Q X
def Op2 (W : Wd) (A : Around) (B : Base) (fe : Env) (fs : List (Env × LM)) {α : Type} (f : Value → Value → Sem α) (a b : Value) (m : LM) (σ : AH) (Q : α → LM → AH → Prop) (X : Value → Bool → LM → AH → Prop) : Prop :=
  ∀ x y, er x = a → er y = b → Tr W A B fe fs (f x y) m σ Q X
def Op3 (W : Wd) (A : Around) (B : Base) (fe : Env) (fs : List (Env × LM)) {α : Type} (f : Value → Value → Value → Sem α) (a b c : Value) (m : LM) (σ : AH) (Q : α → LM → AH → Prop) (X : Value → Bool → LM → AH → Prop) : Prop :=
  ∀ x y z, er x = a → er y = b → er z = c → Tr W A B fe fs (f x y z) m σ Q X
abbrev ErQ (Q : Value → LM → AH → Prop) : Value → LM → AH → Prop := fun v => Q (er v)

theorem t_BinOp {l op r pos} {Q X} (h : TrV W A B fe fs (eval l env) m σ (fun a m₁ σ₁ => TrV W A B fe fs (eval r env) m₁ σ₁ (fun b m₂ σ₂ => Op2 W A B fe fs (binaryOp op) a b m₂ σ₂ (ErQ Q) X) X) X) :
    TrV W A B fe fs (eval (.BinOp l op r pos) env) m σ Q X :=
  fun _ R => wpAny_BinOp (h.go R (fun a _ _ _ R₁ h₁ => h₁.go R₁ (fun b _ _ _ R₂ h₂ => (h₂ a b rfl rfl).at R₂) (fun _ _ x => x)) (fun _ _ x => x))
theorem t_Compare {l op r pos} {Q X} (h : TrV W A B fe fs (eval l env) m σ (fun a m₁ σ₁ => TrV W A B fe fs (eval r env) m₁ σ₁ (fun b m₂ σ₂ => Op2 W A B fe fs (compareOp op) a b m₂ σ₂ (ErQ Q) X) X) X)
    (hm : behindInMarks op r = false := by with_unfolding_all rfl) : TrV W A B fe fs (eval (.Compare l [op] [r] pos) env) m σ Q X :=
  fun _ R => wpAny_Compare1 (h.go R (fun a _ _ _ R₁ h₁ => h₁.go R₁ (fun b _ _ _ R₂ h₂ => (h₂ a b rfl rfl).at R₂) (fun _ _ x => x)) (fun _ _ x => x)) hm
theorem t_isCompare {l op r pos whole} {Q : Bool → LM → AH → Prop} {X} (h : TrV W A B fe fs (eval l env) m σ (fun a m₁ σ₁ => TrV W A B fe fs (eval r env) m₁ σ₁ (fun b m₂ σ₂ =>
      Op2 W A B fe fs (compareOp op) a b m₂ σ₂ (ErQ fun c m₃ σ₃ => Op1 W A B fe fs truthy c m₃ σ₃ Q X) X) X) X)
    (hm : behindInMarks op r = false := by with_unfolding_all rfl) : Tr W A B fe fs (isTrue (.Compare l [op] [r] pos) env whole) m σ Q X :=
  fun _ R => wpAny_isTrue_Compare1 (h.go R (fun a _ _ _ R₁ h₁ => h₁.go R₁ (fun b _ _ _ R₂ h₂ => (h₂ a b rfl rfl).go R₂ (fun c _ _ _ R₃ h₃ => (h₃ c rfl).at R₃) (fun _ _ x => x)) (fun _ _ x => x)) (fun _ _ x => x)) hm
theorem t_isTrue {e : Expr} {Q : Bool → LM → AH → Prop} {X} (h : TrV W A B fe fs (eval e env) m σ (fun v m' σ' => Op1 W A B fe fs truthy v m' σ' Q X) X)
    (he : isTrue e env (eval e env) = (do let v ← eval e env; standAt e.pos; holding [v] (truthy v)) := by with_unfolding_all rfl) : Tr W A B fe fs (isTrue e env (eval e env)) m σ Q X :=
  fun _ R => wpAny_isTrue_value (h.go R (fun v _ _ _ R₁ h₁ => (h₁ v rfl).at R₁) (fun _ _ x => x)) he
theorem t_isNot {x : Expr} {pos whole} {Q : Bool → LM → AH → Prop} {X} (h : Tr W A B fe fs (isTrue x env (eval x env)) m σ (fun b => Q (!b)) X) : Tr W A B fe fs (isTrue (.UnaryOp .Not x pos) env whole) m σ Q X :=
  fun _ R => wpAny_isTrue_Not (h.go R (fun _ m' σ' _ R' q => ⟨m', σ', R', q⟩) (fun _ _ x => x))
theorem t_isBoolOp {op values pos whole} {Q : Bool → LM → AH → Prop} {X} (h : Tr W A B fe fs (allTrue op values env) m σ Q X) : Tr W A B fe fs (isTrue (.BoolOp op values pos) env whole) m σ Q X :=
  fun _ R => wpAny_isTrue_BoolOp (h.at R)
theorem t_and_nil {Q : Bool → LM → AH → Prop} {X} (h : Q true m σ) : Tr W A B fe fs (allTrue .And [] env) m σ Q X := fun _ R => wpAny_allTrue_And_nil ⟨m, σ, R, h⟩
theorem t_or_nil {Q : Bool → LM → AH → Prop} {X} (h : Q false m σ) : Tr W A B fe fs (allTrue .Or [] env) m σ Q X := fun _ R => wpAny_allTrue_Or_nil ⟨m, σ, R, h⟩
theorem t_and_cons {x : Expr} {rest : List Expr} {Q : Bool → LM → AH → Prop} {X} (h : Tr W A B fe fs (isTrue x env (eval x env)) m σ (fun b m' σ' => if b = true then Tr W A B fe fs (allTrue .And rest env) m' σ' Q X else Q false m' σ') X) :
    Tr W A B fe fs (allTrue .And (x :: rest) env) m σ Q X :=
  fun _ R => wpAny_allTrue_And_cons (h.go R (fun b m' σ' s' R' q => by cases b <;> first | exact q s' R' | exact ⟨m', σ', R', q⟩) (fun _ _ x => x))
theorem t_or_cons {x : Expr} {rest : List Expr} {Q : Bool → LM → AH → Prop} {X} (h : Tr W A B fe fs (isTrue x env (eval x env)) m σ (fun b m' σ' => if b = true then Q true m' σ' else Tr W A B fe fs (allTrue .Or rest env) m' σ' Q X) X) :
    Tr W A B fe fs (allTrue .Or (x :: rest) env) m σ Q X :=
  fun _ R => wpAny_allTrue_Or_cons (h.go R (fun b m' σ' s' R' q => by cases b <;> first | exact q s' R' | exact ⟨m', σ', R', q⟩) (fun _ _ x => x))
theorem t_IfExp {test body orelse pos} {Q X} (h : Tr W A B fe fs (isTrue test env (eval test env)) m σ (fun b m' σ' => if b = true then TrV W A B fe fs (eval body env) m' σ' Q X else TrV W A B fe fs (eval orelse env) m' σ' Q X) X) :
    TrV W A B fe fs (eval (.IfExp test body orelse pos) env) m σ Q X :=
  fun _ R => wpAny_IfExp (h.go R (fun b m' σ' s' R' q => by cases b <;> exact q s' R') (fun _ _ x => x))
theorem t_Attribute {value : Expr} {attr : Str} {pos : Pos} {Q X} (h : TrV W A B fe fs (eval value env) m σ (fun o m' σ' => Op1 W A B fe fs (fun o => getAttr o attr true) o m' σ' (ErQ Q) X) X)
    (he : eval (.Attribute value attr pos) env = (do
      let o ← eval value env
      standAt pos.atName
      let r ← holding [o] (getAttr o attr true)
      letTemporaryGo value o r
      pure r) := by with_unfolding_all rfl) : TrV W A B fe fs (eval (.Attribute value attr pos) env) m σ Q X :=
  fun _ R => Attribute_any_ (h.go R (fun a _ _ _ R' q => (q a rfl).at R') (fun _ _ x => x)) he
theorem t_Subscript {value slice pos} {Q X} (h : TrV W A B fe fs (eval value env) m σ (fun o m₁ σ₁ => TrV W A B fe fs (eval slice env) m₁ σ₁ (fun i m₂ σ₂ => Op2 W A B fe fs (subscriptTail value slice) o i m₂ σ₂ (ErQ Q) X) X) X) :
    TrV W A B fe fs (eval (.Subscript value slice pos) env) m σ Q X :=
  fun _ R => Subscript_ (h.go R (fun a _ _ _ R₁ h₁ => h₁.go R₁ (fun b _ _ _ R₂ h₂ => (h₂ a b rfl rfl).at R₂) (fun _ _ x => x)) (fun _ _ x => x))

/-! ### stores -/
theorem t_AssignAttr {o attr pos' value pos} {Q : Flow → LM → AH → Prop} {X}
    (h : TrV W A B fe fs (eval value env) m σ (fun v m₁ σ₁ => TrV W A B fe fs (eval o env) m₁ σ₁ (fun ov m₂ σ₂ => Op2 W A B fe fs (fun ov v => setAttr ov attr v) ov v m₂ σ₂ (fun _ => Q .next) X) X) X)
    (hs : swapsWith value (some (.Attribute o attr pos')) pos.line env = pure false := by with_unfolding_all rfl) : Tr W A B fe fs (exec (.Assign [.Attribute o attr pos'] value pos) env) m σ Q X :=
  fun _ R => plainObj_wpAny_Assign_Attribute (h.go R (fun a _ _ _ R₁ h₁ => h₁.go R₁ (fun b _ _ _ R₂ h₂ => (h₂ b a rfl rfl).at R₂) (fun _ _ x => x)) (fun _ _ x => x)) hs
theorem t_AssignSub {o i pos' value pos} {Q : Flow → LM → AH → Prop} {X}
    (h : TrV W A B fe fs (eval value env) m σ (fun v m₁ σ₁ => TrV W A B fe fs (eval o env) m₁ σ₁ (fun ov m₂ σ₂ => TrV W A B fe fs (eval i env) m₂ σ₂ (fun iv m₃ σ₃ => Op3 W A B fe fs setItem ov iv v m₃ σ₃ (fun _ => Q .next) X) X) X) X)
    (hs : swapsWith value (some (.Subscript o i pos')) pos.line env = pure false := by with_unfolding_all rfl) : Tr W A B fe fs (exec (.Assign [.Subscript o i pos'] value pos) env) m σ Q X :=
  fun _ R => wpAny_Assign_Subscript (h.go R (fun a _ _ _ R₁ h₁ => h₁.go R₁ (fun b _ _ _ R₂ h₂ => h₂.go R₂ (fun c _ _ _ R₃ h₃ => (h₃ b c a rfl rfl rfl).at R₃) (fun _ _ x => x)) (fun _ _ x => x)) (fun _ _ x => x)) hs
theorem t_AugName {x : Str} {xp pos : Pos} {op : Operator} {value : Expr} {v : Value} {Q : Flow → LM → AH → Prop} {X} (hv : m x = some v)
    (h : TrV W A B fe fs (eval value fe) m σ (fun b m₁ σ₁ => Op2 W A B fe fs (inplaceOp op) v b m₁ σ₁ (ErQ fun r m₂ σ₂ => Q .next (upd m₂ x (some r)) σ₂) X) X)
    (hl : fe.kindOf x = some .local := by with_unfolding_all rfl) (hm : fe.scope.kind = .function := by with_unfolding_all rfl) : Tr W A B fe fs (exec (.AugAssign (.Name x xp) op value pos) fe) m σ Q X :=
  fun _ R => wpAny_AugAssign_Name ((t_loadLocal (Q := fun v' m' σ' => v' = v ∧ m' = m ∧ σ' = σ) (X := X) hv ⟨rfl, rfl, rfl⟩ hl hm).go R (fun a _ _ _ R₀ e => by
    obtain ⟨e1, rfl, rfl⟩ := e
    exact h.go R₀ (fun b _ _ _ R₁ h₁ => (h₁ a b e1 rfl).go R₁ (fun r _ _ _ R₂ h₂ => (t_storeName (Q := fun _ => Q .next) h₂ hl hm).at R₂) (fun _ _ x => x)) (fun _ _ x => x)) (fun _ _ x => x))

/-! ### arguments, calls -/
theorem t_args_nil {pos : Pos} {Q X} (h : Q [] m σ) : TrL W A B fe fs (spliced (backTo pos (starEach [] env))) m σ Q X := fun _ R => wpAny_items_nil ⟨m, σ, R, h⟩
theorem t_args_cons {pos : Pos} {e : Expr} {rest : List Expr} {Q : List Value → LM → AH → Prop} {X}
    (h : TrV W A B fe fs (eval e env) m σ (fun v m₁ σ₁ => TrL W A B fe fs (spliced (backTo pos (starEach rest env))) m₁ σ₁ (fun vs => Q (v :: vs)) X) X)
    (he : starEach (e :: rest) env = (false, eval e env) :: starEach rest env := by with_unfolding_all rfl) : TrL W A B fe fs (spliced (backTo pos (starEach (e :: rest) env))) m σ Q X :=
  fun _ R => wpAny_items_cons (h.go R (fun v _ _ _ R₁ h₁ => h₁.go R₁ (fun vs m' σ' _ R₂ h₂ => ⟨m', σ', R₂, h₂⟩) (fun _ _ x => x)) (fun _ _ x => x)) he

def KeepF (K : Frag) : Value → Bool
  | .builtin _ => true
  | .type _ => true
  | f => keepIn K f
theorem keepF {M : Model} {K : Frag} {f : Value} (hk : KeepF K f = true) (h : Heap) (X : K.In h) : ∃ k, (k = Keeper.frame ∨ k = Keeper.machine ∨ k = Keeper.boundFrame) ∧ Looks M h (keeperOf f) k := by
  cases f with
  | builtin _ => exact ⟨.machine, .inr (.inl rfl), Looks.of_pure rfl⟩
  | type _ => exact ⟨.machine, .inr (.inl rfl), Looks.of_pure rfl⟩
  | ref a =>
    obtain ⟨k, a, b⟩ := looks_keep (M := M) (f := .ref a) (show keepIn K (.ref a) = true from hk) X
    exact ⟨k, a.elim .inl (fun e => .inr (.inl e)), b⟩
  | _ => cases hk
theorem KeepF.raw {K : Frag} {f v : Value} (hk : KeepF K f = true) (e : er v = f) : v = f := by
  subst e
  cases v <;> first | rfl | cases hk
theorem t_callWith0 {pos : Pos} {f : Value} {first : List Value} {Q X} {es : List Env} {u : Nat} (O : Ok W A B es u) (hk : KeepF W.K f = true)
    (h : CallW W A B ((fe, m) :: fs) f (first.map er) [] σ (fun v σ' => Q v m σ') (fun c b σ' => X c b m σ')) :
    TrV W A B fe fs (callWith pos f first (backTo pos (starEach [] env)) []) m σ Q X :=
  fun _ R => callWith_of (P := W.K.In) rfl (keepF hk) (evalArgs_nil3 ⟨O.g.X.keeps R.keep, (t_call (Q := Q) (X := X) (pos := first ++ []) (kw := []) (by simpa using h)).at R⟩)
theorem t_callWith {pos : Pos} {f : Value} {first : List Value} {e : Expr} {rest : List Expr} {Q X} {es : List Env} {u : Nat} (O : Ok W A B es u) (hk : KeepF W.K f = true)
    (h : TrL W A B fe fs (spliced (backTo pos (starEach (e :: rest) env))) m σ (fun vs m' σ' => CallW W A B ((fe, m') :: fs) f (first.map er ++ vs) [] σ' (fun v σ'' => Q v m' σ'') (fun c b σ'' => X c b m' σ'')) X)
    (he : starEach (e :: rest) env = (false, eval e env) :: starEach rest env := by with_unfolding_all rfl) (hplain : (backTo pos (starEach rest env)).any (·.1) = false := by with_unfolding_all rfl) :
    TrV W A B fe fs (callWith pos f first (backTo pos (starEach (e :: rest) env)) []) m σ Q X := fun _ R => by
  rw [he] at h ⊢
  refine callWith_of (P := W.K.In) (by show ((false || (backTo pos (starEach rest env)).any (·.1)) || false) = false; rw [hplain]; rfl) (keepF hk) (Calls.evalArgs_plain (h.go R (fun vs m' σ' s' R' q => ?_) (fun _ _ x => x)))
  exact ⟨O.g.X.keeps R'.keep, (t_call (Q := Q) (X := X) (pos := first ++ vs) (kw := []) (by simpa using q)).at R'⟩
end

/-! # Lay5 -/

section
variable {α β : Type} {W : Wd} {A : Around} {B : Base} {fe env : Env} {fs : List (Env × LM)} {m : LM} {σ : AH} {Q : Value → LM → AH → Prop} {X : Value → Bool → LM → AH → Prop} {a b : Int} {c d : Bool}

theorem op_add (h : Q (.int (a + b) 0) m σ) : Op2 W A B fe fs (binaryOp .Add) (.int a 0) (.int b 0) m σ (ErQ Q) X := fun x y hx hy s R => by
  obtain ⟨t, rfl⟩ := er_int_inv hx; obtain ⟨u, rfl⟩ := er_int_inv hy
  exact PySem.P.add_int ⟨m, σ, R.toks _, h⟩
theorem op_iadd (h : Q (.int (a + b) 0) m σ) : Op2 W A B fe fs (inplaceOp .Add) (.int a 0) (.int b 0) m σ (ErQ Q) X := fun x y hx hy s R => by
  obtain ⟨t, rfl⟩ := er_int_inv hx; obtain ⟨u, rfl⟩ := er_int_inv hy
  exact PySem.P.iadd_int ⟨m, σ, R.toks _, h⟩
theorem op_sub (h : Q (.int (a - b) 0) m σ) : Op2 W A B fe fs (binaryOp .Sub) (.int a 0) (.int b 0) m σ (ErQ Q) X := fun x y hx hy s R => by
  obtain ⟨t, rfl⟩ := er_int_inv hx; obtain ⟨u, rfl⟩ := er_int_inv hy
  exact PySem.P.sub_int ⟨m, σ, R.toks _, h⟩
theorem op_isub (h : Q (.int (a - b) 0) m σ) : Op2 W A B fe fs (inplaceOp .Sub) (.int a 0) (.int b 0) m σ (ErQ Q) X := fun x y hx hy s R => by
  obtain ⟨t, rfl⟩ := er_int_inv hx; obtain ⟨u, rfl⟩ := er_int_inv hy
  exact PySem.P.isub_int ⟨m, σ, R.toks _, h⟩
theorem op_mul (h : Q (.int (a * b) 0) m σ) (hm : IntMulOk a b) : Op2 W A B fe fs (binaryOp .Mult) (.int a 0) (.int b 0) m σ (ErQ Q) X := fun x y hx hy s R => by
  obtain ⟨t, rfl⟩ := er_int_inv hx; obtain ⟨u, rfl⟩ := er_int_inv hy
  exact PySem.P.mul_int ⟨m, σ, R.toks _, h⟩ hm
theorem op_floordiv (h0 : 0 < b) (hb : b < 1073741824) (h : Q (.int (a / b) 0) m σ) : Op2 W A B fe fs (binaryOp .FloorDiv) (.int a 0) (.int b 0) m σ (ErQ Q) X := fun x y hx hy s R => by
  obtain ⟨t, rfl⟩ := er_int_inv hx; obtain ⟨u, rfl⟩ := er_int_inv hy
  refine floordiv_int (by omega) ⟨m, σ, R.toks _, ?_⟩ (.inl (PyProof.noPylong_small (by omega)))
  show Q (.int _ 0) m σ
  rw [Int.fdiv_eq_ediv_of_nonneg _ (by omega)]; exact h
theorem op_mod (h0 : 0 < b) (h : Q (.int (a % b) 0) m σ) : Op2 W A B fe fs (binaryOp .Mod) (.int a 0) (.int b 0) m σ (ErQ Q) X := fun x y hx hy s R => by
  obtain ⟨t, rfl⟩ := er_int_inv hx; obtain ⟨u, rfl⟩ := er_int_inv hy
  refine mod_int' (by omega) ⟨m, σ, R.toks _, ?_⟩
  show Q (.int _ 0) m σ
  rw [Int.fmod_eq_emod_of_nonneg _ (by omega)]; exact h
theorem op_eq (h : Q (.bool (a == b)) m σ) : Op2 W A B fe fs (compareOp .Eq) (.int a 0) (.int b 0) m σ (ErQ Q) X := fun x y hx hy s R => by
  obtain ⟨t, rfl⟩ := er_int_inv hx; obtain ⟨u, rfl⟩ := er_int_inv hy
  exact PySem.P.eq_int ⟨m, σ, R, h⟩
theorem op_ne (h : Q (.bool (a != b)) m σ) : Op2 W A B fe fs (compareOp .NotEq) (.int a 0) (.int b 0) m σ (ErQ Q) X := fun x y hx hy s R => by
  obtain ⟨t, rfl⟩ := er_int_inv hx; obtain ⟨u, rfl⟩ := er_int_inv hy
  exact PySem.P.ne_int ⟨m, σ, R, h⟩
theorem op_lt (h : Q (.bool (decide (a < b))) m σ) : Op2 W A B fe fs (compareOp .Lt) (.int a 0) (.int b 0) m σ (ErQ Q) X := fun x y hx hy s R => by
  obtain ⟨t, rfl⟩ := er_int_inv hx; obtain ⟨u, rfl⟩ := er_int_inv hy
  exact PySem.P.lt_int ⟨m, σ, R, h⟩
theorem op_le (h : Q (.bool (decide (a ≤ b))) m σ) : Op2 W A B fe fs (compareOp .LtE) (.int a 0) (.int b 0) m σ (ErQ Q) X := fun x y hx hy s R => by
  obtain ⟨t, rfl⟩ := er_int_inv hx; obtain ⟨u, rfl⟩ := er_int_inv hy
  exact PySem.P.le_int ⟨m, σ, R, h⟩
theorem op_gt (h : Q (.bool (decide (a > b))) m σ) : Op2 W A B fe fs (compareOp .Gt) (.int a 0) (.int b 0) m σ (ErQ Q) X := fun x y hx hy s R => by
  obtain ⟨t, rfl⟩ := er_int_inv hx; obtain ⟨u, rfl⟩ := er_int_inv hy
  exact PySem.P.gt_int ⟨m, σ, R, h⟩
theorem op_ge (h : Q (.bool (decide (a ≥ b))) m σ) : Op2 W A B fe fs (compareOp .GtE) (.int a 0) (.int b 0) m σ (ErQ Q) X := fun x y hx hy s R => by
  obtain ⟨t, rfl⟩ := er_int_inv hx; obtain ⟨u, rfl⟩ := er_int_inv hy
  exact PySem.P.ge_int ⟨m, σ, R, h⟩
theorem op_truthy_bool {Q : Bool → LM → AH → Prop} (h : Q c m σ) : Op1 W A B fe fs truthy (.bool c) m σ Q X := fun x hx s R => by
  obtain rfl := er_bool_inv hx
  exact wpAny_truthy_bool ⟨m, σ, R, h⟩
theorem op_truthy_int {Q : Bool → LM → AH → Prop} (h : Q (a != 0) m σ) : Op1 W A B fe fs truthy (.int a 0) m σ Q X := fun x hx s R => by
  obtain ⟨t, rfl⟩ := er_int_inv hx
  exact PySem.P.truthy_int ⟨m, σ, R, h⟩
theorem op_truthy_none {Q : Bool → LM → AH → Prop} (h : Q false m σ) : Op1 W A B fe fs truthy .none m σ Q X := fun x hx s R => by
  obtain rfl := er_none_inv hx
  exact truthy_none ⟨m, σ, R, h⟩
theorem er_eq_none (v : Value) : (v == Value.none) = (er v == Value.none) := by cases v <;> rfl
theorem op_is_none {v : Value} (h : Q (.bool (v == .none)) m σ) : Op2 W A B fe fs (compareOp .Is) v .none m σ (ErQ Q) X := fun x y hx hy s R => by
  obtain rfl := er_none_inv hy
  subst hx
  exact is_none ⟨m, σ, R, by show Q (.bool _) m σ; rw [er_eq_none]; exact h⟩
/-! ### instances -/
theorem handedIn_er (v : Value) : handedIn v = handedIn (er v) := by cases v <;> rfl
theorem find_lookL {es : List DictEntry} (k : StrK es) (x : Str) : ∃ r, getL x es = some r ∧ r.map er = fieldOf es x := by
  unfold getL fieldOf
  cases q : es.find? (·.key.isStr x) with
  | some e => exact ⟨_, rfl, rfl⟩
  | none =>
    dsimp only
    rw [if_neg]
    · exact ⟨_, rfl, rfl⟩
    · intro z
      obtain ⟨e, he, hr⟩ := List.any_eq_true.mp z
      obtain ⟨y, t, ey⟩ := k e he
      unfold DictEntry.refKey at hr
      rw [ey] at hr; cases hr
theorem inst_at {H : Str → Int} {h : Heap} {hid a C : Addr} {f : LM} {k : Nat} (x : (Cell.inst C f k).At H h hid a) : ∃ es n, PySem.W.InstAt h a (instObj C hid) C (some (dictOf es n)) ∧ StrK es ∧ es.length = k ∧ (∀ x, fieldOf es x = f x) ∧ ∀ x, ∃ r, lookIn x (dictOf es n) = some r ∧ r.map er = f x := by
  obtain ⟨e, es, n, r, k, l, q⟩ := x
  refine ⟨es, n, ⟨e, rfl, rfl, r⟩, k, l, q, fun x => ?_⟩
  rw [← q x, lookIn_dict]
  exact find_lookL k x
theorem putL_strK {name : Str} {hsh : Int} {t : Tok} {v : Value} : ∀ {es : List DictEntry}, StrK es → StrK (putL name hsh (.str name t) v es)
  | [], _ => fun e he => by cases List.mem_singleton.mp he; exact ⟨_, _, rfl⟩
  | e :: r, k => by
    unfold putL
    split
    · intro d hd
      rcases List.mem_cons.mp hd with rfl | hd
      · exact k e (.head _)
      · exact k d (.tail _ hd)
    · intro d hd
      rcases List.mem_cons.mp hd with rfl | hd
      · exact k _ (.head _)
      · exact putL_strK (fun d hd => k d (.tail _ hd)) d hd
theorem isStr_name {v : Value} {x : Str} {y : Str} {t : Tok} (h : v = .str y t) : v.isStr x = (y == x) := by subst h; rfl
theorem putL_field {name : Str} {hsh : Int} {t : Tok} {v : Value} (x : Str) : ∀ {es : List DictEntry}, StrK es → fieldOf (putL name hsh (.str name t) v es) x = if x = name then some (er v) else fieldOf es x
  | [], _ => by
    by_cases h : x = name
    · subst h; simp [putL, fieldOf, Value.isStr]
    · have : (name == x) = false := by simpa using fun q => h q.symm
      simp [putL, fieldOf, Value.isStr, h, this]
  | e :: r, k => by
    obtain ⟨y, u, ey⟩ := k e (.head _)
    have ih := putL_field (name := name) (hsh := hsh) (t := t) (v := v) x (es := r) (fun d hd => k d (.tail _ hd))
    unfold putL
    rw [isStr_name ey]
    by_cases h1 : y = name
    · subst h1
      rw [if_pos (by simp)]
      by_cases h : x = y
      · subst h; simp [fieldOf, ey, Value.isStr]
      · have : (y == x) = false := by simpa using fun q => h q.symm
        simp [fieldOf, ey, Value.isStr, h, this]
    · rw [if_neg (by simpa using h1)]
      unfold fieldOf at ih ⊢
      by_cases h2 : y = x
      · subst h2
        simp [ey, Value.isStr, h1]
      · have : (y == x) = false := by simpa using h2
        simp only [List.find?_cons, ey, Value.isStr, this]
        exact ih
theorem putL_length {name : Str} {hsh : Int} {t : Tok} {v : Value} : ∀ {es : List DictEntry}, (putL name hsh (.str name t) v es).length = if (fieldOf es name).isSome then es.length else es.length + 1
  | [] => by simp [putL, fieldOf]
  | e :: r => by
    have ih := putL_length (name := name) (hsh := hsh) (t := t) (v := v) (es := r)
    unfold putL
    by_cases h : e.key.isStr name = true
    · simp [h, fieldOf]
    · simp only [h, Bool.false_eq_true, if_false, List.length_cons, ih, fieldOf, List.find?_cons]
      split <;> simp_all
theorem map_er_some {o : Option Value} {v : Value} (h : o.map er = some v) : ∃ r, o = some r ∧ er r = v := by
  cases o with
  | none => cases h
  | some r => exact ⟨r, rfl, Option.some.inj h⟩
theorem map_er_none {o : Option Value} (h : o.map er = none) : o = none := by cases o with | none => rfl | some r => cases h

theorem op_getOwn {x C : Addr} {f : LM} {k : Nat} {name : Str} {v : Value} {attr : Option Value} {ex : Bool} {es : List Env} {u : Nat} (O : Ok W A B es u) (hσ : σ x = some (.inst C f k)) (hv : f name = some v) (h : Q v m σ)
    (hg : plainGet W.K C name = true) (hh : hasDictIn W.K C = true) (ha : findIn W.K (.ref C) name = some attr) (hn : noGet W.K attr = true) (hd : handedIn v = true) :
    Op1 W A B fe fs (fun o => getAttr o name ex) (.ref x) m σ (ErQ Q) X := fun o ho s R => by
  obtain rfl := er_ref_inv ho
  obtain ⟨hid, z⟩ := R.at hσ
  obtain ⟨es, n, I, -, -, -, z1⟩ := inst_at z
  obtain ⟨r', z1, z2⟩ := z1 name
  obtain ⟨r, hr, hre⟩ := map_er_some (z2.trans hv)
  exact get_value (O.g.X.keeps R.keep) I (plainGet_of hg).1 (findObj_own hh ha hn (by rw [z1, hr])) (by rw [handedIn_er, hre]; exact hd) ⟨m, σ, R.toks _, by show Q (er r) m σ; rw [hre]; exact h⟩
theorem op_method {x C g : Addr} {f : LM} {k : Nat} {name : Str} {pl : Sem Bool} {Q : Value × List Value → LM → AH → Prop} {es : List Env} {u : Nat} (O : Ok W A B es u) (hσ : σ x = some (.inst C f k)) (hv : f name = none) (h : Q (.ref g, [.ref x]) m σ)
    (hg : plainGet W.K C name = true) (hf : findIn W.K (.ref C) name = some (some (.ref g))) (ht : isFn W.K (.ref g) = true) : Op1 W A B fe fs (fun o => getMethod o name pl) (.ref x) m σ Q X := fun o ho s R => by
  obtain rfl := er_ref_inv ho
  obtain ⟨hid, z⟩ := R.at hσ
  obtain ⟨es, n, I, -, -, -, z1⟩ := inst_at z
  obtain ⟨r', z1, z2⟩ := z1 name
  exact method_fn (O.g.X.keeps R.keep) I (plainGet_of hg).1 (plainGet_of hg).2 hf (beq_iff_eq.mp ht) (by show (lookIn name (dictOf es n)).map _ = _; rw [z1, map_er_none (z2.trans hv)]; rfl) ⟨m, σ, R, h⟩
theorem op_getProp {x C p fget : Addr} {f : LM} {k : Nat} {rest : List Value} {name : Str} {ex : Bool} {es : List Env} {u : Nat} (O : Ok W A B es u) (hσ : σ x = some (.inst C f k))
    (h : CallR W A.in1 B ((fe, m) :: fs) (.ref fget) [.ref x] [] σ (fun v σ' => handedIn v = true ∧ Q v m σ') (fun _ _ _ => False))
    (hg : plainGet W.K C name = true) (hh : hasDictIn W.K C = true) (ha : findIn W.K (.ref C) name = some (some (.ref p))) (hn : specialIn W.K (.ref p) "__get__" = some (some (.builtin "property.__get__")))
    (ht : takesIn W.K (.ref p) = some true) (hp : recIn W.K p "property" = some (.ref fget :: rest)) : Op1 W A B fe fs (fun o => getAttr o name ex) (.ref x) m σ (ErQ Q) X := fun o ho s R => by
  obtain rfl := er_ref_inv ho
  obtain ⟨hid, z⟩ := R.at hσ
  obtain ⟨es, n, I, -, -, -, -⟩ := inst_at z
  have X0 := O.g.X.keeps R.keep
  refine get_bind X0 I (plainGet_of hg).1 (findObj_data (by obtain ⟨cd, hc, _⟩ := any_some hh; rw [hc]; rfl) ha hn ht) (plainGet_of hg).2 (wpAny_call (prop_get (s := { s with toks := s.toks + 1 }) X0 hp (codeAny_mono (h [.ref x] [] rfl rfl _ (R.toks _)) fun r s' q => ?_)))
  cases r with
  | error e => obtain ⟨_, _, _, _, _, _, _, _, q⟩ := q; exact q.elim
  | ok fl =>
    cases fl with
    | ret v =>
      obtain ⟨σ', R', q1, q2⟩ := q
      show wpAny _ _ (handedOut v) _ _ _
      rw [handedOut_of (by rw [handedIn_er]; exact q1)]
      exact wpAny_pure ⟨m, σ', R', q2⟩
    | _ => exact q
/-- an attribute of an instance is stored in its dict -/
theorem op_setOwn {x C : Addr} {f : LM} {k : Nat} {name : Str} {v : Value} {Q : Unit → LM → AH → Prop} {es : List Env} {u : Nat} (O : Ok W A B es u) (hσ : σ x = some (.inst C f k)) (h : Q () m (upd σ x (some (.inst C (upd f name (some v)) (if (f name).isSome then k else k + 1)))))
    (hs : findIn W.K (.ref C) "__setattr__" = some (some (.builtin "object.__setattr__"))) (hp : plainOver W.K C = true) (ht : takerIn W.K C name = some none) (hh : hasDictIn W.K C = true) (hk : k < 1000 := by decide) :
    Op2 W A B fe fs (fun o v => setAttr o name v) (.ref x) v m σ Q X := fun o v' ho hv s R => by
  obtain rfl := er_ref_inv ho
  obtain ⟨hid, z⟩ := R.at hσ
  obtain ⟨es, n, I, sk, l, z2, z1⟩ := inst_at z
  have X0 := O.g.X.keeps R.keep
  refine set_plain X0 I hs (osa_open (s := { s with toks := s.toks + 1 }) X0 I hp ht fun b => ?_)
  obtain ⟨cd, hc, hd'⟩ := any_some hh
  refine wpAny_bind (wpAny_pure (wpAny_bind (wpAny_bind (wpAny_loadPart I.at_ (wpAny_bind ((looks_clsIn X0 hc).at ?_))))))
  rw [hd']
  have D : s.heap.get? hid = some (dictOf es n) := I.dict
  refine wpAny_pure (a := some hid) (wpAny_bind (wpAny_pure (wpAny_bind ?_)))
  unfold nsSet
  refine wpAny_bind (wpAny_bind (wpAny_askSetting (wpAny_pure (wpAny_bind (wpAny_mkText (wpAny_bind (wpAny_loadPart D ?_)))))))
  dsimp only
  have c : (!es.toArray.any (·.key.isStr name) && es.toArray.any (·.refKey)) = false := by
    have : es.any (·.refKey) = false := by
      rw [List.any_eq_false]
      intro e he q
      obtain ⟨y, t, ey⟩ := sk e he
      unfold DictEntry.refKey at q
      rw [ey] at q; cases q
    simp [this]
  rw [aRefKeyMayBeTheName_at, c]
  refine wpAny_updatePart D ?_
  have D' : (s.heap.update hid (Obj.putName name (PyData.keyHash W.w.params name) (.str name (s.toks + 1)) v')).get? hid = some (dictOf (putL name (PyData.keyHash W.w.params name) (.str name (s.toks + 1)) v' es) (putN name es n)) := by
    rw [← putName_dict]; exact Heap.get?_update_self _ D (by rw [putName_dict]; rfl)
  have hl := putL_length (name := name) (hsh := PyData.keyHash W.w.params name) (t := s.toks + 1) (v := v') (es := es)
  have hl2 : (putL name (PyData.keyHash W.w.params name) (.str name (s.toks + 1)) v' es).length ≤ 1000 := by rw [hl]; split <;> omega
  refine wpAny_bind (wpAny_lookBehind D' (pastItsLine_dict (by rw [List.size_toArray, sizeLine_eq]; omega)) ?_)
  refine wpAny_pure (show EndQ B fe fs Q () _ from ⟨m, _, ?_, h⟩)
  refine R.turnHid (s' := { s with heap := _, toks := _ }) hσ rfl rfl rfl (fun hid' x => ?_) rfl
  have eh : hid' = hid := by
    have e1 := x.1
    rw [z.1] at e1
    injection e1 with e1
    injection e1 with _ e1
    injection e1 with e1
    exact e1.symm
  subst eh
  refine ⟨fun b hb => Heap.get?_update_other _ _ (Ne.symm hb), fun hne => ⟨(Heap.get?_update_other _ _ hne).trans z.1, _, _, D', putL_strK sk, ?_, fun y => ?_⟩⟩
  · rw [hl, l, z2]
  · rw [putL_field _ sk, z2, hv]; rfl
theorem op_setProp {x C p fset : Addr} {f : LM} {k : Nat} {a : Value} {rest : List Value} {name : Str} {v : Value} {Q : Unit → LM → AH → Prop} {es : List Env} {u : Nat} (O : Ok W A B es u) (hσ : σ x = some (.inst C f k))
    (h : CallR W A.in1.in1 B ((fe, m) :: fs) (.ref fset) [.ref x, v] [] σ (fun _ σ' => Q () m σ') (fun c b σ' => X c b m σ'))
    (hs : findIn W.K (.ref C) "__setattr__" = some (some (.builtin "object.__setattr__"))) (hp : plainOver W.K C = true) (ht : takerIn W.K C name = some (some (.ref p)))
    (hT : typeIn W.K (.ref p) = some (.type "property")) (hr : recIn W.K p "property" = some (a :: .ref fset :: rest)) :
    Op2 W A B fe fs (fun o v => setAttr o name v) (.ref x) v m σ Q X := fun o v' ho hv s R => by
  obtain rfl := er_ref_inv ho
  obtain ⟨hid, z⟩ := R.at hσ
  obtain ⟨es, n, I, -⟩ := inst_at z
  have X0 := O.g.X.keeps R.keep
  refine set_plain X0 I hs (osa_descr (s := { s with toks := s.toks + 1 }) KF.slot_pset X0 I hp ht hT (prop_set (s := { s with toks := s.toks + 1 }) X0 hr (codeAny_mono (h [.ref x, v'] [] (by simp [hv]) rfl _ (R.toks _)) fun r s' q => ?_)))
  cases r with
  | error e => obtain ⟨e, cls, tb, ctx, σ', e1, e2, e3, q⟩ := q; exact ⟨e, cls, tb, ctx, m, σ', e1, e2, e3, q⟩
  | ok fl =>
    cases fl with
    | ret v => obtain ⟨σ', R', q⟩ := q; exact ⟨m, σ', R', q⟩
    | _ => exact q
end

/-! # Lay6 -/

theorem map_er_nil {l : List Value} (h : l.map er = []) : l = [] := by cases l <;> first | rfl | cases h
theorem map_er_cons {l : List Value} {a : Value} {r : List Value} (h : l.map er = a :: r) : ∃ x k, l = x :: k ∧ er x = a ∧ k.map er = r := by
  cases l with
  | nil => cases h
  | cons x k => injection h with h1 h2; exact ⟨x, k, rfl, h1, h2⟩
theorem erK_nil {l : List (Str × Value)} (h : erK l = []) : l = [] := by cases l <;> first | rfl | cases h
theorem erK_cons {l : List (Str × Value)} {n : Str} {a : Value} {r : List (Str × Value)} (h : erK l = (n, a) :: r) : ∃ x k, l = (n, x) :: k ∧ er x = a ∧ erK k = r := by
  cases l with
  | nil => cases h
  | cons x k =>
    obtain ⟨y, v⟩ := x
    injection h with h1 h2
    injection h1 with h1 h3
    subst h1
    exact ⟨v, k, rfl, h3, h2⟩

section
variable {α β : Type} {W : Wd} {A : Around} {B : Base} {fe env : Env} {fs : List (Env × LM)} {m : LM} {σ : AH} {es : List Env} {u : Nat}

/-! ### new tuples and lists -/
theorem Rel.pushSeq {s : Shared} (R : Rel B fs σ s) {ty : String} {vs : List Value} : Rel B fs (upd σ s.heap.objs.size (some (.seq ty (vs.map er)))) { s with heap := s.heap.push { cls := .type ty, data := .seq vs.toArray } } :=
  R.add (hid := 0) (fun b o e => Heap.get?_push_of_some _ e) rfl rfl (Heap.get?_none_of_le (Nat.le_refl _)) (fun q => by cases q) ⟨vs.toArray, 0, Heap.get?_push_size _ rfl, by simp⟩
theorem t_Tuple {elts : List Expr} {k : Nat} {pos : Pos} {Q X} (h : TrL W A B fe fs (spliced (backTo pos (starEach elts env))) m σ (fun vs m' σ' => vs.length ≤ 1000 ∧ ∀ a, σ' a = none → Q (.ref a) m' (upd σ' a (some (.seq "tuple" vs)))) X) :
    TrV W A B fe fs (eval (.Tuple elts k pos) env) m σ Q X :=
  fun _ R => wpAny_Tuple (h.go R (fun vs m' σ' s' R' q => ⟨by have := q.1; rw [List.length_map] at this; rw [sizeLine_eq]; omega, m', _, R'.pushSeq, q.2 _ (R'.fresh (Heap.get?_none_of_le (Nat.le_refl _))).2.1⟩) (fun _ _ x => x))
theorem t_List {elts : List Expr} {pos : Pos} {Q X} (h : TrL W A B fe fs (spliced (backTo pos (starEach elts env))) m σ (fun vs m' σ' => vs.length ≤ 1000 ∧ ∀ a, σ' a = none → Q (.ref a) m' (upd σ' a (some (.seq "list" vs)))) X) :
    TrV W A B fe fs (eval (.List elts pos) env) m σ Q X :=
  fun _ R => wpAny_List (h.go R (fun vs m' σ' s' R' q => ⟨by have := q.1; rw [List.length_map] at this; rw [sizeLine_eq]; omega, m', _, R'.pushSeq, q.2 _ (R'.fresh (Heap.get?_none_of_le (Nat.le_refl _))).2.1⟩) (fun _ _ x => x))

theorem Rel.seqAt {s : Shared} (R : Rel B fs σ s) {a : Addr} {ty : String} {vs : List Value} (h : σ a = some (.seq ty vs)) : ∃ vr n, s.heap.get? a = some { cls := .type ty, data := .seq vr n } ∧ vr.toList.map er = vs := by
  obtain ⟨_, z⟩ := R.at h; exact z
theorem isList_of {h : Heap} {a : Addr} {vr : Array Value} {n : Nat} (e : h.get? a = some { cls := .type "list", data := .seq vr n }) : h.IsList a vr := ⟨_, e, rfl, n, rfl⟩
theorem isTup_of {h : Heap} {a : Addr} {vr : Array Value} {n : Nat} (e : h.get? a = some { cls := .type "tuple", data := .seq vr n }) : IsTup h a vr := ⟨_, e, rfl, n, rfl⟩
theorem er_item {vr : Array Value} {vs : List Value} (e : vr.toList.map er = vs) {i : Nat} {v : Value} (h : vs[i]? = some v) : ∃ r, vr[i]? = some r ∧ er r = v := by
  subst e
  rw [List.getElem?_map] at h
  obtain ⟨r, hr, e⟩ := Option.map_eq_some_iff.mp h
  exact ⟨r, by rw [← Array.getElem?_toList]; exact hr, e⟩
theorem er_size {vr : Array Value} {vs : List Value} (e : vr.toList.map er = vs) : vr.size = vs.length := by subst e; simp

/-- a list turned in place -/
theorem Rel.turnSeq {s : Shared} (R : Rel B fs σ s) {a : Addr} {ty : String} {vs vs' : List Value} {f : Array Value → Array Value} {t : Nat} (h : σ a = some (.seq ty vs))
    (hf : ∀ vr : Array Value, vr.toList.map er = vs → (f vr).toList.map er = vs') : Rel B fs (upd σ a (some (.seq ty vs'))) { s with heap := s.heap.update a (Obj.mapSeq f), toks := t } := by
  obtain ⟨vr, n, e, q⟩ := R.seqAt h
  refine R.turn (s' := { s with heap := s.heap.update a (Obj.mapSeq f), toks := t }) h (fun b hb => Heap.get?_update_other _ _ (Ne.symm hb)) rfl rfl (fun hid x => ?_) (fun q => q)
  obtain ⟨vr', n', e', q'⟩ := x
  exact ⟨f vr', _, Heap.get?_update_self _ e' rfl, hf _ q'⟩

/-! ### truth, len, items -/
theorem op_truthy_list {l : Addr} {vs : List Value} {Q : Bool → LM → AH → Prop} {X} (hσ : σ l = some (.seq "list" vs)) (hz : vs.length ≤ 10000) (h : Q (!vs.isEmpty) m σ) : Op1 W A B fe fs truthy (.ref l) m σ Q X := fun x hx s R => by
  obtain rfl := er_ref_inv hx
  obtain ⟨vr, n, e, q⟩ := R.seqAt hσ
  have hs := er_size q
  refine wpAny_truthy_list (isList_of e) (by omega) ⟨m, σ, R.toks _, ?_⟩
  have : vr.isEmpty = vs.isEmpty := by cases vs with | nil => simp at hs; simp [hs] | cons a b => simp [Array.isEmpty, hs]
  rw [this]; exact h

theorem call_len {l : Addr} {vs : List Value} {Q : Value → AH → Prop} {X} (hσ : σ l = some (.seq "list" vs)) (hz : vs.length ≤ 10000) (h : Q (.int vs.length 0) σ) : CallW W A B fs (.builtin "len") [.ref l] [] σ Q X := fun pos' kw' e1 e2 s R => by
  obtain ⟨x, k, rfl, hx, hk⟩ := map_er_cons e1
  obtain rfl := map_er_nil hk
  obtain rfl := er_ref_inv hx
  obtain rfl := erK_nil e2
  obtain ⟨vr, n, e, q⟩ := R.seqAt hσ
  have hs := er_size q
  exact len_list (isList_of e) (by omega) ⟨σ, R.toks _, by show Q (.int _ 0) σ; rw [hs]; exact h⟩

theorem op_itemTuple {value slice : Expr} {t : Addr} {vs : List Value} {k : Int} {j : Nat} {v : Value} {Q X} (hσ : σ t = some (.seq "tuple" vs)) (hlo : -(2 ^ 63) ≤ k) (hhi : k < 2 ^ 63) (hj : seqIndex? k vs.length = some j) (hv : vs[j]? = some v) (h : Q v m σ)
    (hs : ∀ u, subscripted slice false (.ref t) (.int k u) = operate [.ref t, .int k u] (getItem (.ref t) (.int k u)) := by intro _; with_unfolding_all rfl) :
    Op2 W A B fe fs (subscriptTail value slice) (.ref t) (.int k 0) m σ (ErQ Q) X := fun x y hx hy s R => by
  obtain rfl := er_ref_inv hx
  obtain ⟨u, rfl⟩ := er_int_inv hy
  obtain ⟨vr, n, e, q⟩ := R.seqAt hσ
  obtain ⟨r, hr, hre⟩ := er_item q hv
  have z := er_size q
  exact item_tupleT (l := vr.toList) (by simpa using isTup_of e) hlo hhi (by simpa [z] using hj) (by simpa using hr) ⟨m, σ, R, by show Q (er r) m σ; rw [hre]; exact h⟩ (hs u)
theorem op_itemList {value slice : Expr} {t : Addr} {vs : List Value} {k : Int} {v : Value} {Q X} (hσ : σ t = some (.seq "list" vs)) (h0 : 0 ≤ k) (hhi : k < 2 ^ 63) (hv : vs[k.toNat]? = some v) (h : Q v m σ)
    (hs : ∀ u, subscripted slice false (.ref t) (.int k u) = operate [.ref t, .int k u] (getItem (.ref t) (.int k u)) := by intro _; with_unfolding_all rfl) :
    Op2 W A B fe fs (subscriptTail value slice) (.ref t) (.int k 0) m σ (ErQ Q) X := fun x y hx hy s R => by
  obtain rfl := er_ref_inv hx
  obtain ⟨u, rfl⟩ := er_int_inv hy
  obtain ⟨vr, n, e, q⟩ := R.seqAt hσ
  obtain ⟨r, hr, hre⟩ := er_item q hv
  exact tail_any (isList_of e).typeIs slot_list_getitem.lookup (wpAny_getItem_list (isList_of e) h0 hhi hr ⟨m, σ, R, by show Q (er r) m σ; rw [hre]; exact h⟩) (hs u)
end

/-! # Lay7 -/

/-! ## the frame rule: cells that a tree does not speak of -/
def deadObj : Obj := { cls := .none, data := .freed }
open Classical in
noncomputable def only (h : Heap) (P : Addr → Prop) : Heap := ⟨h.objs.mapIdx fun i o => if P i then o else deadObj, h.life⟩
open Classical in
theorem only_get (h : Heap) (P : Addr → Prop) (a : Addr) : (only h P).get? a = if P a then h.get? a else none := by
  unfold only Heap.get?
  simp only [Array.getElem?_mapIdx]
  cases q : h.objs[a]? with
  | none => simp
  | some o =>
    simp only [Option.map_some]
    by_cases p : P a
    · simp only [p, if_true]
    · simp only [p, if_false]; rfl
theorem only_some {h : Heap} {P : Addr → Prop} {a : Addr} {o : Obj} (e : (only h P).get? a = some o) : P a ∧ h.get? a = some o := by
  rw [only_get] at e
  split at e
  · exact ⟨by assumption, e⟩
  · cases e
theorem only_in {h : Heap} {P : Addr → Prop} {a : Addr} (p : P a) : (only h P).get? a = h.get? a := by rw [only_get, if_pos p]
theorem only_out {h : Heap} {P : Addr → Prop} {a : Addr} (p : ¬ P a) : (only h P).get? a = none := by rw [only_get, if_neg p]

/-- the cells fall into two lots -/
structure Split (σ τ ρ : AH) : Prop where
  l : ∀ a, τ a ≠ none → ρ a = none ∧ σ a = τ a
  r : ∀ a, ρ a ≠ none → τ a = none ∧ σ a = ρ a
  n : ∀ a, τ a = none → ρ a = none → σ a = none

def joinA (τ ρ : AH) : AH := fun a => match τ a with | some c => some c | none => ρ a
theorem Split.eq {σ τ ρ : AH} (h : Split σ τ ρ) : σ = joinA τ ρ := by
  funext a
  unfold joinA
  cases q : τ a with
  | some c => rw [(h.l a (by rw [q]; simp)).2, q]
  | none =>
    cases r : ρ a with
    | some c => rw [(h.r a (by rw [r]; simp)).2, r]
    | none => rw [h.n a q r]
theorem split_join {τ ρ : AH} (h : ∀ a, τ a = none ∨ ρ a = none) : Split (joinA τ ρ) τ ρ := by
  refine ⟨fun a q => ?_, fun a q => ?_, fun a q r => by simp [joinA, q, r]⟩
  · have r := (h a).resolve_left q
    cases z : τ a with
    | none => exact absurd z q
    | some c => exact ⟨r, by simp [joinA, z]⟩
  · have r := (h a).resolve_right q
    exact ⟨r, by simp [joinA, r]⟩
theorem Split.disj {σ τ ρ : AH} (h : Split σ τ ρ) (a : Addr) : τ a = none ∨ ρ a = none := by
  cases q : τ a with
  | none => exact .inl rfl
  | some c => exact .inr (h.l a (by rw [q]; simp)).1
theorem Split.some {σ τ ρ : AH} (h : Split σ τ ρ) {a : Addr} {c : Cell} (e : σ a = Option.some c) : τ a = Option.some c ∨ ρ a = Option.some c := by
  cases q : τ a with
  | some d => rw [(h.l a (by rw [q]; simp)).2, q] at e; exact .inl e
  | none =>
    cases r : ρ a with
    | some d => rw [(h.r a (by rw [r]; simp)).2, r] at e; exact .inr e
    | none => rw [h.n a q r] at e; cases e
theorem Split.inl {σ τ ρ : AH} (h : Split σ τ ρ) {a : Addr} {c : Cell} (e : τ a = Option.some c) : σ a = Option.some c := by rw [(h.l a (by rw [e]; simp)).2, e]
theorem Split.inr {σ τ ρ : AH} (h : Split σ τ ρ) {a : Addr} {c : Cell} (e : ρ a = Option.some c) : σ a = Option.some c := by rw [(h.r a (by rw [e]; simp)).2, e]

section
variable {B : Base} {fs : List (Env × LM)} {σ τ ρ : AH} {s s' : Shared}

theorem Rel.hideIn (R : Rel B fs σ s) (S : Split σ τ ρ) : ∃ B', B.le B' ∧ Rel B' fs τ s ∧ (∀ a c, ρ a = some c → B'.h.get? a = s.heap.get? a) ∧
    ∀ fs' τ' s', Rel B' fs' τ' s' → (∀ p ∈ fs', ∃ q ∈ fs, q.1 = p.1) → Rel B fs' (joinA τ' ρ) s' ∧ Split (joinA τ' ρ) τ' ρ := by
  obtain ⟨δ, c1, c2, c3⟩ := R.cells
  let P : Addr → Prop := fun a => (∃ o, B.h.get? a = some o) ∨ (∃ b c, ρ b = some c ∧ (a = b ∨ (c.hides = true ∧ a = δ b)))
  have inB : ∀ a o, B.h.get? a = some o → (only s.heap P).get? a = some o := fun a o e => by
    rw [only_in (.inl ⟨o, e⟩)]; exact R.keep a o e
  have notFr : ∀ p ∈ fs, ¬ P p.1.locals := fun p hp q => by
    obtain ⟨_, _, f3, _⟩ := R.fr p hp
    rcases q with ⟨o, q⟩ | ⟨b, c, hb, q⟩
    · rw [f3] at q; cases q
    · rcases q with q | ⟨hq, q⟩
      · exact (c1 b c (S.inr hb)).2.2 p hp q
      · exact (c2 b c (S.inr hb) hq).2.2 p hp q
  refine ⟨⟨only s.heap P, B.os, B.hs⟩, ⟨inB, rfl, rfl⟩, ?_, fun a c e => only_in (.inr ⟨a, c, e, .inl rfl⟩), ?_⟩
  · refine ⟨fun a o e => (only_some e).2, fun p hp => ?_, R.nd, ⟨δ, fun a c e => ?_, fun a c e q => ?_, fun a b c d e e' => c3 a b c d (S.inl e) (S.inl e')⟩, R.gens, R.os⟩
    · obtain ⟨f1, f2, f3, f4⟩ := R.fr p hp
      exact ⟨f1, f2, only_out (notFr p hp), f4⟩
    · obtain ⟨x1, x2, x3⟩ := c1 a c (S.inl e)
      refine ⟨x1, only_out fun q => ?_, x3⟩
      rcases q with ⟨o, q⟩ | ⟨b, d, hb, q⟩
      · rw [x2] at q; cases q
      · rcases q with q | ⟨hq, q⟩
        · have := S.disj a
          rw [e, q, hb] at this
          rcases this with z | z <;> cases z
        · have := (c2 b d (S.inr hb) hq).2.1
          rw [← q, S.inl e] at this; cases this
    · obtain ⟨x1, x2, x3⟩ := c2 a c (S.inl e) q
      refine ⟨only_out fun q' => ?_, ?_, x3⟩
      · rcases q' with ⟨o, q'⟩ | ⟨b, d, hb, q'⟩
        · rw [x1] at q'; cases q'
        · rcases q' with q' | ⟨hq, q'⟩
          · rw [q', S.inr hb] at x2; cases x2
          · have := c3 a b c d (S.inl e) (S.inr hb) q hq q'
            have d := S.disj a
            rw [e, this, hb] at d
            rcases d with z | z <;> cases z
      · cases z : τ (δ a) with
        | none => rfl
        | some d => rw [S.inl z] at x2; cases x2
  · intro fs' τ' s' R' hfs
    have keepP : ∀ a, P a → s'.heap.get? a = s.heap.get? a := fun a p => by
      cases q : s.heap.get? a with
      | some o => exact R'.keep a o (by show (only s.heap P).get? a = _; rw [only_in p]; exact q)
      | none =>
        rcases p with ⟨o, p⟩ | ⟨b, c, hb, p⟩
        · have := R.keep a o p; rw [q] at this; cases this
        · rcases p with p | ⟨hq, p⟩
          · obtain ⟨o, e⟩ := (c1 b c (S.inr hb)).1.some; rw [← p, q] at e; cases e
          · obtain ⟨o, e⟩ := (c1 b c (S.inr hb)).1.hidSome hq; rw [← p, q] at e; cases e
    obtain ⟨δ', d1, d2, d3⟩ := R'.cells
    have notP : ∀ a, (only s.heap P).get? a = none → ¬ P a := fun a e p => by
      rw [only_in p] at e
      rcases p with ⟨o, p⟩ | ⟨b, c, hb, p⟩
      · have := R.keep a o p; rw [e] at this; cases this
      · rcases p with p | ⟨hq, p⟩
        · obtain ⟨o, e'⟩ := (c1 b c (S.inr hb)).1.some; rw [← p, e] at e'; cases e'
        · obtain ⟨o, e'⟩ := (c1 b c (S.inr hb)).1.hidSome hq; rw [← p, e] at e'; cases e'
    have dis : ∀ a, τ' a = none ∨ ρ a = none := fun a => by
      cases q : τ' a with
      | none => exact .inl rfl
      | some c =>
        refine .inr ?_
        cases r : ρ a with
        | none => rfl
        | some d => exact absurd (.inr ⟨a, d, r, .inl rfl⟩) (notP a (d1 a c q).2.1)
    have S' := split_join dis
    have frOut : ∀ a, P a → ∀ p ∈ fs', p.1.locals ≠ a := fun a hp p hp' z => by
      obtain ⟨_, _, f3, _⟩ := R'.fr p hp'
      exact notP _ f3 (z ▸ hp)
    refine ⟨⟨fun a o e => R'.keep a o (inB a o e), fun p hp => ?_, R'.nd, ⟨fun a => match τ' a with | some _ => δ' a | none => δ a, fun a c e => ?_, fun a c e q => ?_, fun a b c d e e' q q' z => ?_⟩, R'.gens, R'.os⟩, S'⟩
    · obtain ⟨f1, f2, f3, f4⟩ := R'.fr p hp
      refine ⟨f1, f2, ?_, f4⟩
      cases q : B.h.get? p.1.locals with
      | none => rfl
      | some o => have := inB _ o q; rw [show (only s.heap P).get? p.1.locals = none from f3] at this; cases this
    · rcases S'.some e with q | q
      · dsimp only; rw [q]; dsimp only
        obtain ⟨x1, x2, x3⟩ := d1 a c q
        refine ⟨x1, ?_, x3⟩
        cases q : B.h.get? a with
        | none => rfl
        | some o => have := inB _ o q; rw [show (only s.heap P).get? a = none from x2] at this; cases this
      · have t : τ' a = none := (S'.r a (by rw [q]; simp)).1
        dsimp only; rw [t]; dsimp only
        obtain ⟨x1, x2, x3⟩ := c1 a c (S.inr q)
        refine ⟨x1.congr (keepP _ (.inr ⟨a, c, q, .inl rfl⟩)) fun hq => keepP _ (.inr ⟨a, c, q, .inr ⟨hq, rfl⟩⟩), x2, frOut _ (.inr ⟨a, c, q, .inl rfl⟩)⟩
    · rcases S'.some e with z | z
      · dsimp only; rw [z]; dsimp only
        obtain ⟨x1, x2, x3⟩ := d2 a c z q
        have nP := notP _ x1
        refine ⟨?_, ?_, x3⟩
        · cases q : B.h.get? (δ' a) with
          | none => rfl
          | some o => exact absurd (.inl ⟨o, q⟩) nP
        · refine S'.n _ x2 ?_
          cases r : ρ (δ' a) with
          | none => rfl
          | some d => exact absurd (.inr ⟨_, d, r, .inl rfl⟩) nP
      · have t : τ' a = none := (S'.r a (by rw [z]; simp)).1
        dsimp only; rw [t]; dsimp only
        obtain ⟨x1, x2, x3⟩ := c2 a c (S.inr z) q
        have hP : P (δ a) := .inr ⟨a, c, z, .inr ⟨q, rfl⟩⟩
        refine ⟨x1, S'.n _ ?_ ?_, frOut _ hP⟩
        · cases r : τ' (δ a) with
          | none => rfl
          | some d => exact absurd hP (notP _ (d1 _ d r).2.1)
        · cases r : ρ (δ a) with
          | none => rfl
          | some d => rw [S.inr r] at x2; cases x2
    · rcases S'.some e with y | y <;> rcases S'.some e' with y' | y'
      · dsimp only at z; rw [y, y'] at z; exact d3 a b c d y y' q q' z
      · have t : τ' b = none := (S'.r b (by rw [y']; simp)).1
        dsimp only at z; rw [y, t] at z; dsimp only at z
        exact absurd (.inr ⟨b, d, y', .inr ⟨q', z⟩⟩) (notP _ (d2 a c y q).1)
      · have t : τ' a = none := (S'.r a (by rw [y]; simp)).1
        dsimp only at z; rw [y', t] at z; dsimp only at z
        exact absurd (.inr ⟨a, c, y, .inr ⟨q, z.symm⟩⟩) (notP _ (d2 b d y' q').1)
      · have t : τ' a = none := (S'.r a (by rw [y]; simp)).1
        have t' : τ' b = none := (S'.r b (by rw [y']; simp)).1
        dsimp only at z; rw [t, t'] at z; dsimp only at z
        exact c3 a b c d (S.inr y) (S.inr y') q q' z
end

/-! # Lay8 -/

theorem joinA_upd_l {τ ρ : AH} {a : Addr} {c : Cell} : joinA (upd τ a (some c)) ρ = upd (joinA τ ρ) a (some c) := by
  funext b
  by_cases h : b = a
  · subst h; simp [joinA, upd]
  · simp [joinA, upd, h]
theorem Split.single {σ : AH} {a : Addr} {c : Cell} (h : σ a = none) : Split (upd σ a (Option.some c)) σ (upd (fun _ => none) a (Option.some c)) := by
  refine ⟨fun b q => ?_, fun b q => ?_, fun b q r => ?_⟩
  · have : b ≠ a := fun z => q (z ▸ h)
    rw [upd_ne _ _ this, upd_ne _ _ this]; exact ⟨rfl, rfl⟩
  · by_cases z : b = a
    · subst z; rw [upd_self, upd_self]; exact ⟨h, rfl⟩
    · rw [upd_ne _ _ z] at q; exact absurd rfl q
  · by_cases z : b = a
    · subst z; rw [upd_self] at r; cases r
    · rw [upd_ne _ _ z]; exact q
theorem joinA_single {τ : AH} {a : Addr} {c : Cell} (h : τ a = none) : joinA τ (upd (fun _ => none) a (some c)) = upd τ a (some c) := (Split.single h).eq.symm

section
variable {α β : Type} {W : Wd} {A : Around} {B : Base} {fe env : Env} {fs : List (Env × LM)} {m : LM} {σ τ ρ : AH} {es : List Env} {u : Nat}

theorem Tr.frame {t : Sem α} {Q : α → LM → AH → Prop} {X : Value → Bool → LM → AH → Prop} (S : Split σ τ ρ) (h : ∀ B', B.le B' → Tr W A B' fe fs t m τ Q X) :
    Tr W A B fe fs t m σ (fun v m' σ' => ∃ τ', Split σ' τ' ρ ∧ Q v m' τ') (fun c b m' σ' => ∃ τ', Split σ' τ' ρ ∧ X c b m' τ') := fun s R => by
  obtain ⟨B', hB, R', -, back⟩ := R.hideIn S
  have bk : ∀ m' τ' s', Rel B' ((fe, m') :: fs) τ' s' → Rel B ((fe, m') :: fs) (joinA τ' ρ) s' ∧ Split (joinA τ' ρ) τ' ρ := fun m' τ' s' r => back _ _ _ r fun p hp => by
    rcases List.mem_cons.mp hp with e | hp
    · subst e; exact ⟨(fe, m), .head _, rfl⟩
    · exact ⟨p, .tail _ hp, rfl⟩
  refine wpAny_mono (h B' hB s R') (fun v s' q => ?_) fun ev s' q => ?_
  · obtain ⟨m', τ', r, q⟩ := q
    obtain ⟨x, y⟩ := bk _ _ _ r
    exact ⟨m', _, x, τ', y, q⟩
  · obtain ⟨e, cls, tb, ctx, m', τ', rfl, e2, r, q⟩ := q
    obtain ⟨x, y⟩ := bk _ _ _ r
    have n : ρ e = none := (y.l e (by rw [upd_self]; simp)).1
    rw [joinA_upd_l] at x
    refine ⟨e, cls, tb, ctx, m', _, rfl, by simp [joinA, e2, n], x, τ', split_join fun a => ?_, q⟩
    by_cases z : a = e
    · subst z; exact .inl e2
    · have := y.disj a; rw [upd_ne _ _ z] at this; exact this
theorem Tr.weaken {t : Sem α} {Q : α → LM → AH → Prop} {X : Value → Bool → LM → AH → Prop} (h : Tr W A B fe fs t m σ (fun v m' σ' => ∃ τ : AH, (∀ a c, τ a = some c → σ' a = some c) ∧ Q v m' τ) (fun c b m' σ' => ∃ τ : AH, (∀ a c, τ a = some c → σ' a = some c) ∧ X c b m' τ)) :
    Tr W A B fe fs t m σ Q X := fun s R => by
  refine wpAny_mono (h s R) (fun v s' q => ?_) fun ev s' q => ?_
  · obtain ⟨m', σ', R', τ, hs, q⟩ := q
    exact ⟨m', τ, R'.drop hs, q⟩
  · obtain ⟨e, cls, tb, ctx, m', σ', rfl, e2, R', τ, hs, q⟩ := q
    have n : τ e = none := by
      cases z : τ e with
      | none => rfl
      | some c => rw [hs e c z] at e2; cases e2
    refine ⟨e, cls, tb, ctx, m', τ, rfl, n, R'.drop fun a c z => ?_, q⟩
    by_cases w : a = e
    · subst w; rw [upd_self] at z ⊢; exact z
    · rw [upd_ne _ _ w] at z ⊢; exact hs a c z

/-! ### exceptions on their way out of a block -/
def EndT (B : Base) (fe : Env) (fs : List (Env × LM)) (X : Value → Bool → LM → AH → Prop) (ev : Value) (s' : Shared) : Prop :=
  ∃ e cls ctx m' σ', ev = .ref e ∧ σ' e = none ∧ Rel B ((fe, m') :: fs) (upd σ' e (some (.exc cls true ctx))) s' ∧ X cls ctx m' σ'
theorem noted {M : Model} {X : Value → Bool → LM → AH → Prop} {E : Value → Shared → Prop} {ev : Value} {s : Shared} (hA : A.frames = some (fe :: fs.map (·.1))) (h : EndX B fe fs X ev s) (hE : ∀ s', EndT B fe fs X ev s' → E ev s') : notedBy M A fe E ev s := by
  obtain ⟨e, cls, tb, ctx, m', σ', rfl, e2, r, q⟩ := h
  refine exc_note hA r (by rw [upd_self]) fun s' r' => hE s' ?_
  rw [upd_upd] at r'
  exact ⟨e, cls, ctx, m', σ', rfl, e2, r', q⟩
theorem cameBack {M : Model} {X : Value → Bool → LM → AH → Prop} {ev : Value} {s : Shared} (h : EndT B fe fs X ev s) : cameBackBy M A fe (EndX B fe fs X) ev s := by
  obtain ⟨e, cls, ctx, m', σ', rfl, e2, r, q⟩ := h
  exact exc_back r (by rw [upd_self]) fun s' r' => ⟨e, cls, true, ctx, m', σ', rfl, e2, r', q⟩

/-! ### loops -/
theorem t_While {test body pos} {Q : Flow → LM → AH → Prop} {X} (O : Ok W A B (fe :: fs.map (·.1)) u) (I : Nat → LM → AH → Prop)
    (turn : ∀ n m σ, I n m σ → Tr W A B fe fs (isTrue test fe (eval test fe)) m σ (fun b m₁ σ₁ =>
      if b = true then Tr W A B fe fs (execs body fe) m₁ σ₁ (fun f m₂ σ₂ => match f with
        | .next | .cont => ∃ k, k < n ∧ I k m₂ σ₂
        | .brk => Q .next m₂ σ₂
        | .ret v => Q (.ret v) m₂ σ₂) X
      else Q .next m₁ σ₁) X)
    (n : Nat) (h : I n m σ) : Tr W A B fe fs (exec (.While test body [] pos) fe) m σ Q X := fun s R => by
  refine wpAny_While (codeAny_whileLoop (fun n s => ∃ m' σ', Rel B ((fe, m') :: fs) σ' s ∧ I n m' σ') (fun n s hI => ?_) n ⟨m, σ, R, h⟩)
  obtain ⟨m', σ', R', hI⟩ := hI
  have nt : ∀ e s', EndX B fe fs X e s' → notedBy (model W.prog W.w) A fe (fun e s' => cameBackBy (model W.prog W.w) A fe (EndX B fe fs X) e s') e s' := fun e s' x => noted O.fr x fun s'' y => cameBack y
  refine (turn n m' σ' hI).go R' (fun b m₁ σ₁ s₁ R₁ q => ?_) nt
  cases b with
  | true =>
    refine (show Tr W A B fe fs (execs body fe) m₁ σ₁ _ X from q).go R₁ (fun f m₂ σ₂ s₂ R₂ q₂ => ?_) nt
    cases f with
    | next => obtain ⟨k, hk, q₂⟩ := q₂; exact ⟨k, hk, m₂, σ₂, R₂, q₂⟩
    | cont => obtain ⟨k, hk, q₂⟩ := q₂; exact ⟨k, hk, m₂, σ₂, R₂, q₂⟩
    | brk => exact ⟨m₂, σ₂, R₂, q₂⟩
    | ret v => exact ⟨m₂, σ₂, R₂, q₂⟩
  | false => exact wpAny_execs_nil ⟨m₁, σ₁, R₁, q⟩

theorem wpAny_assoc {α β γ : Type} {M : Model} {A : Around} {m : Sem α} {f : α → Sem β} {g : β → Sem γ} {Q : γ → Shared → Prop} {E : Value → Shared → Prop} {s : Shared} (h : wpAny M A ((m >>= f) >>= g) Q E s) : wpAny M A (m >>= fun a => f a >>= g) Q E s := fun Γ p hΓ => by
  have := h Γ p hΓ
  simp only [PySem.Sem.wp_bind'] at this ⊢
  exact this
theorem forLoop_own {R : Result → Shared → Prop} {target it body orelse env} (I : Nat → Shared → Prop)
    (turn : ∀ n s, I n s → wpAny (model W.prog W.w) A (pyNext it) (fun r s₁ => match r with
      | none => wpAny (model W.prog W.w) A (execs orelse env) (fun f s₃ => R (.ok f) s₃) (notedBy (model W.prog W.w) A env fun e s' => R (.error e) s') s₁
      | some v => wpAny (model W.prog W.w) A (letOwnedTupleGo target it v) (fun _ s₁' => wpAny (model W.prog W.w) A (assign target env v >>= fun _ => execs body env) (fun f s₃ => match f with
          | .next | .cont => ∃ m, m < n ∧ I m s₃
          | .brk => R (.ok .next) s₃
          | .ret v => R (.ok (.ret v)) s₃) (notedBy (model W.prog W.w) A env fun e s' => R (.error e) s') s₁') (notedBy (model W.prog W.w) A env fun e s' => R (.error e) s') s₁) (notedBy (model W.prog W.w) A env fun e s' => R (.error e) s') s)
    (n : Nat) {s : Shared} (h : I n s) : codeAny (model W.prog W.w) A (.forLoop target it body orelse env) R s := by
  refine codeAny_loop' rfl I (fun n s hI => ?_) n h
  show wpAny _ _ ((forTurn target it body orelse env).onRaise (fun x => do noteFrame x env; theTreesLotGoes x)) _ _ s
  refine wpAny_noted ?_
  simp only [forTurn]
  refine wpAny_bind (wpAny_standAt (wpAny_bind (wpAny_onRaise (wpAny_mono (turn n s hI) (fun r s₁ h₁ => ?_) fun _ _ h' => wpAny_standAt h'))))
  cases r with
  | none => exact wpAny_pure (.inr ⟨rfl, codeAny_block h₁⟩)
  | some v =>
    refine wpAny_bind (wpAny_mono h₁ (fun _ s₁' h₁' => wpAny_assoc (wpAny_bind (wpAny_mono h₁' (fun f s₃ h₃ => ?_) fun _ _ h' => h'))) fun _ _ h' => h')
    cases f with
    | next => exact wpAny_pure (.inl ⟨rfl, h₃⟩)
    | cont => exact wpAny_pure (.inl ⟨rfl, h₃⟩)
    | brk => exact wpAny_pure h₃
    | ret v => exact wpAny_pure h₃

/-- a for, whatever its iterator: `I` is the state at the head of a turn -/
theorem t_For {target iter body pos} {Q : Flow → LM → AH → Prop} {X} (O : Ok W A B (fe :: fs.map (·.1)) u)
    (h : TrV W A B fe fs (eval iter fe) m σ (fun x m₁ σ₁ => Op1 W A B fe fs pyIter x m₁ σ₁ (fun it m₂ σ₂ => ∃ (I : Nat → LM → AH → Prop) (n : Nat), I n m₂ σ₂ ∧
      ∀ n m σ, I n m σ → Tr W A B fe fs (pyNext it) m σ (fun r m₃ σ₃ => match r with
        | none => Q .next m₃ σ₃
        | some v => Tr W A B fe fs (letOwnedTupleGo target it v) m₃ σ₃ (fun _ m₃ σ₃ => Tr W A B fe fs (assign target fe v >>= fun _ => execs body fe) m₃ σ₃ (fun f m₅ σ₅ => match f with
          | .next | .cont => ∃ k, k < n ∧ I k m₅ σ₅
          | .brk => Q .next m₅ σ₅
          | .ret v => Q (.ret v) m₅ σ₅) X) X) X) X) X)
    (hs : ∀ x, foldedSetIterable iter fe x = pure x := by intro _; with_unfolding_all rfl) : Tr W A B fe fs (exec (.For target iter body [] pos) fe) m σ Q X := fun s R => by
  have nt : ∀ e s', EndX B fe fs X e s' → notedBy (model W.prog W.w) A fe (fun e s' => cameBackBy (model W.prog W.w) A fe (EndX B fe fs X) e s') e s' := fun e s' x => noted O.fr x fun s'' y => cameBack y
  refine wpAny_For (h.go R (fun x m₁ σ₁ s₁ R₁ q₁ => (q₁ x rfl).go R₁ (fun it m₂ σ₂ s₂ R₂ q₂ => ?_) (fun _ _ x => x)) (fun _ _ x => x)) hs
  obtain ⟨I, n, h0, turn⟩ := q₂
  refine forLoop_own (fun n s => ∃ m' σ', Rel B ((fe, m') :: fs) σ' s ∧ I n m' σ') (fun n s hI => ?_) n ⟨m₂, σ₂, R₂, h0⟩
  obtain ⟨m', σ', R', hI⟩ := hI
  refine (turn n m' σ' hI).go R' (fun r m₃ σ₃ s₃ R₃ q₃ => ?_) nt
  cases r with
  | none => exact wpAny_execs_nil ⟨m₃, σ₃, R₃, q₃⟩
  | some v =>
    refine (show Tr W A B fe fs (letOwnedTupleGo target it v) m₃ σ₃ _ X from q₃).go R₃ (fun _ m₃ σ₃ s₃ R₃ q₃ => q₃.go R₃ (fun f m₅ σ₅ s₅ R₅ q₅ => ?_) nt) nt
    cases f with
    | next => obtain ⟨k, hk, q₅⟩ := q₅; exact ⟨k, hk, m₅, σ₅, R₅, q₅⟩
    | cont => obtain ⟨k, hk, q₅⟩ := q₅; exact ⟨k, hk, m₅, σ₅, R₅, q₅⟩
    | brk => exact ⟨m₅, σ₅, R₅, q₅⟩
    | ret v => exact ⟨m₅, σ₅, R₅, q₅⟩

/-! ### try -/
/-- the clauses in order: a class and what the frame knows of it, or on to the next -/
inductive Hn (W : Wd) (A : Around) (B : Base) (fe : Env) (fs : List (Env × LM)) (Q : Flow → LM → AH → Prop) (X : Value → Bool → LM → AH → Prop) (cls : Value) (ctx : Bool) (m : LM) (σ : AH) : List ExceptHandler → Prop
  | nil : X cls ctx m σ → Hn W A B fe fs Q X cls ctx m σ []
  | hit {t : Expr} {b₀ : Stmt} {suite : List Stmt} {pos : Pos} {rest : List ExceptHandler} {spec : Value} :
      (∀ A' σ', TrV W A' B fe fs (eval t fe) m σ' (fun v m' σ'' => v = spec ∧ m' = m ∧ σ'' = σ') (fun _ _ _ _ => False)) →
      (∀ (h : Heap) (M : Model), B.h.StaysIn h → ∀ e d dat sl, h.get? e = some ⟨cls, d, .fields dat, sl⟩ → Looks M h (excMatches (.ref e) spec) true) → KeepF W.K spec = true →
      (∀ A' B', B.le B' → (∀ es u, Ok W A B es u → Ok W A' B' es u) → (ctx = false → HdOk A' B') → Tr W A' B' fe fs (execs (b₀ :: suite) fe) m σ Q X) →
      Hn W A B fe fs Q X cls ctx m σ (.ExceptHandler (some t) none (b₀ :: suite) pos :: rest)
  | miss {t : Expr} {body : List Stmt} {nm : Option Str} {pos : Pos} {rest : List ExceptHandler} {spec : Value} :
      (∀ A' σ', TrV W A' B fe fs (eval t fe) m σ' (fun v m' σ'' => v = spec ∧ m' = m ∧ σ'' = σ') (fun _ _ _ _ => False)) →
      (∀ (h : Heap) (M : Model), B.h.StaysIn h → ∀ e d dat sl, h.get? e = some ⟨cls, d, .fields dat, sl⟩ → Looks M h (excMatches (.ref e) spec) false) → KeepF W.K spec = true →
      Hn W A B fe fs Q X cls ctx m σ rest → Hn W A B fe fs Q X cls ctx m σ (.ExceptHandler (some t) nm body pos :: rest)

theorem Looks.in {γ : Type} {M : Model} {A : Around} {t : Sem γ} {r : γ} {Q : γ → Shared → Prop} {E : Value → Shared → Prop} {s : Shared} (x : Looks M s.heap t r) (q : Q r s) : wpAny M A t Q E s := x A Q E s (fun _ _ e => e) q

theorem t_handlers {Q : Flow → LM → AH → Prop} {X : Value → Bool → LM → AH → Prop} {cls : Value} {ctx : Bool} {hs : List ExceptHandler} {e : Addr} (O : Ok W A B (fe :: fs.map (·.1)) u) (H : Hn W A B fe fs Q X cls ctx m σ hs) :
    ∀ s, σ e = none → Rel B ((fe, m) :: fs) (upd σ e (some (.exc cls true ctx))) s → wpAny (model W.prog W.w) A (handleBy (.ref e) fe hs) (EndQ B fe fs Q) (EndX B fe fs X) s := by
  induction H with
  | nil h => exact fun s he R => wpAny_handleBy_nil (exc_pass R (by rw [upd_self]) fun s' R' => ⟨e, cls, true, ctx, m, σ, rfl, he, R', h⟩)
  | @hit t b₀ suite pos rest spec h1 h2 h4 h3 =>
    intro s he R
    refine wpAny_handleBy_cons (codeAny_handlers_test ((h1 (A.mark (some (.ref e))) _).go R (fun v m' σ'' s' R' q => ?_) fun _ _ x => by obtain ⟨_, _, _, _, _, _, _, _, _, q⟩ := x; exact q.elim)) (by intro q; cases q)
    obtain ⟨q1, rfl, rfl⟩ := q
    obtain rfl := KeepF.raw h4 q1
    obtain ⟨hid, d, dat, sl, hg, _⟩ := R'.at (a := e) (c := .exc cls true ctx) (by rw [upd_self])
    refine Looks.in (h2 _ _ R'.keep _ _ _ _ hg) (codeAny_handlers_suite ?_)
    refine exc_flight R' (by rw [upd_self]) fun s₂ R₂ => ?_
    obtain ⟨B', hB, R₃, inB, back⟩ := R₂.hideIn (Split.single he)
    have hd : ctx = false → HdOk (A.mark (some (.ref e))) B' := fun hc => by
      obtain ⟨hid, d, vs, sl, hg, hz, hcc, _⟩ := R₂.at (a := e) (c := .exc cls true ctx) (by rw [upd_self])
      exact HdOk.mark ((inB e (.exc cls true ctx) (by rw [upd_self])).trans hg) rfl (hcc hc)
    have bk : ∀ m' τ' s', Rel B' ((fe, m') :: fs) τ' s' → Rel B ((fe, m') :: fs) τ' s' := fun m' τ' s' r => by
      obtain ⟨x, y⟩ := back ((fe, m') :: fs) τ' s' r fun p hp => by
        rcases List.mem_cons.mp hp with e | hp
        · subst e; exact ⟨_, .head _, rfl⟩
        · exact ⟨p, .tail _ hp, rfl⟩
      exact x.drop fun a c q => y.inl q
    refine wpAny_mono (h3 (A.mark (some (.ref e))) B' hB (fun es u o => (o.le hB).mark _) hd s₂ R₃) (fun f s₄ q => ?_) fun ev s₄ q => ?_
    · obtain ⟨m₄, σ₄, R₄, q⟩ := q
      exact ⟨m₄, σ₄, bk _ _ _ R₄, q⟩
    · obtain ⟨e', cls', tb, ctx', m₄, σ₄, rfl, e2, R₄, q⟩ := q
      exact noted O.fr ⟨e', cls', tb, ctx', m₄, σ₄, rfl, e2, bk _ _ _ R₄, q⟩ fun s'' y => cameBack y
  | @miss t body nm pos rest spec h1 h2 h4 h3 ih =>
    intro s he R
    refine wpAny_handleBy_cons (codeAny_handlers_test ((h1 (A.mark (some (.ref e))) _).go R (fun v m' σ'' s' R' q => ?_) fun _ _ x => by obtain ⟨_, _, _, _, _, _, _, _, _, q⟩ := x; exact q.elim)) (by intro q; cases q)
    obtain ⟨q1, rfl, rfl⟩ := q
    obtain rfl := KeepF.raw h4 q1
    obtain ⟨hid, d, dat, sl, hg, _⟩ := R'.at (a := e) (c := .exc cls true ctx) (by rw [upd_self])
    exact Looks.in (h2 _ _ R'.keep _ _ _ _ hg) (ih s' he R')

theorem t_Try {body orelse : List Stmt} {h₀ : ExceptHandler} {hs : List ExceptHandler} {pos : Pos} {Q : Flow → LM → AH → Prop} {X : Value → Bool → LM → AH → Prop} (O : Ok W A B (fe :: fs.map (·.1)) u)
    (h : Tr W A B fe fs (execs body fe) m σ (fun f m₁ σ₁ => match f with | .next => Tr W A B fe fs (execs orelse fe) m₁ σ₁ Q X | f => Q f m₁ σ₁) (fun cls ctx m₁ σ₁ => Hn W A B fe fs Q X cls ctx m₁ σ₁ (h₀ :: hs))) :
    Tr W A B fe fs (exec (.Try body (h₀ :: hs) orelse [] pos) fe) m σ Q X := fun s R => by
  rw [arm_exec_Try]
  refine wpAny_bind (wpAny_standAt (wpAny_tryStmt_except (wpAny_mono (h s R) (fun f s₁ q => ?_) fun ev s₁ q => ?_)))
  · obtain ⟨m₁, σ₁, R₁, q⟩ := q
    cases f <;> first | exact q s₁ R₁ | exact ⟨m₁, σ₁, R₁, q⟩
  · obtain ⟨e, cls, tb, ctx, m₁, σ₁, rfl, e2, R₁, q⟩ := q
    refine exc_note O.fr R₁ (by rw [upd_self]) fun s₂ R₂ => exc_flight R₂ (by rw [upd_self]) fun s₃ R₃ => ?_
    rw [upd_upd] at R₃
    exact t_handlers O q s₃ e2 R₃

theorem t_Finally {body : List Stmt} {f₀ : Stmt} {fin : List Stmt} {pos : Pos} {Q : Flow → LM → AH → Prop} {X : Value → Bool → LM → AH → Prop} (O : Ok W A B (fe :: fs.map (·.1)) u)
    (h : Tr W A B fe fs (execs body fe) m σ
      (fun f m₁ σ₁ => Tr W A B fe fs (execs (f₀ :: fin) fe) m₁ σ₁ (fun g m₂ σ₂ => g = .next ∧ Q f m₂ σ₂) (fun _ _ _ _ => False))
      (fun cls ctx m₁ σ₁ => ∀ A' B', B.le B' → (∀ es u, Ok W A B es u → Ok W A' B' es u) → (ctx = false → HdOk A' B') →
        Tr W A' B' fe fs (execs (f₀ :: fin) fe) m₁ σ₁ (fun g m₂ σ₂ => g = .next ∧ X cls ctx m₂ σ₂) (fun _ _ _ _ => False))) :
    Tr W A B fe fs (exec (.Try body [] [] (f₀ :: fin) pos) fe) m σ Q X := fun s R => by
  have plain : ∀ f m₁ σ₁ s₁, Rel B ((fe, m₁) :: fs) σ₁ s₁ → Tr W A B fe fs (execs (f₀ :: fin) fe) m₁ σ₁ (fun g m₂ σ₂ => g = .next ∧ Q f m₂ σ₂) (fun _ _ _ _ => False) →
      wpAny (model W.prog W.w) A (execs (f₀ :: fin) fe) (fun g s' => match g with | .next => EndQ B fe fs Q f s' | g => EndQ B fe fs Q g s') (notedBy (model W.prog W.w) A fe (cameBackBy (model W.prog W.w) A fe (EndX B fe fs X))) s₁ := fun f m₁ σ₁ s₁ R₁ q =>
    q.go R₁ (fun g m₂ σ₂ s₂ R₂ q₂ => by obtain ⟨rfl, q₂⟩ := q₂; exact ⟨m₂, σ₂, R₂, q₂⟩) fun e s' x => by obtain ⟨_, _, _, _, _, _, _, _, _, q⟩ := x; exact q.elim
  refine wpAny_Try_finally (wpAny_mono (h s R) (fun f s₁ q => ?_) fun ev s₁ q => ?_)
  · obtain ⟨m₁, σ₁, R₁, q⟩ := q
    cases f with
    | next => exact wpAny_execs_nil (plain _ _ _ _ R₁ q)
    | _ => exact plain _ _ _ _ R₁ q
  · obtain ⟨e, cls, tb, ctx, m₁, σ₁, rfl, e2, R₁, q⟩ := q
    refine exc_note O.fr R₁ (by rw [upd_self]) fun s₂ R₂ => ?_
    rw [upd_upd] at R₂
    refine ⟨(by intro x; cases x), exc_note O.fr R₂ (by rw [upd_self]) fun s₃ R₃ => exc_flight R₃ (by rw [upd_self]) fun s₄ R₄ => ?_⟩
    rw [upd_upd] at R₄
    obtain ⟨B', hB, R₅, inB, back⟩ := R₄.hideIn (Split.single e2)
    have hd : ctx = false → HdOk (A.mark (some (.ref e))) B' := fun hc => by
      obtain ⟨hid, d, vs, sl, hg, hz, hcc, _⟩ := R₄.at (a := e) (c := .exc cls true ctx) (by rw [upd_self])
      exact HdOk.mark ((inB e (.exc cls true ctx) (by rw [upd_self])).trans hg) rfl (hcc hc)
    refine (q (A.mark (some (.ref e))) B' hB (fun es u o => (o.le hB).mark _) hd).go R₅ (fun g m₆ σ₆ s₆ R₆ q₆ => ?_) fun e' s' x => by obtain ⟨_, _, _, _, _, _, _, _, _, q⟩ := x; exact q.elim
    obtain ⟨rfl, q₆⟩ := q₆
    obtain ⟨x, y⟩ := back ((fe, m₆) :: fs) σ₆ s₆ R₆ fun p hp => by
      rcases List.mem_cons.mp hp with e | hp
      · subst e; exact ⟨_, .head _, rfl⟩
      · exact ⟨p, .tail _ hp, rfl⟩
    have n : σ₆ e = none := (y.r e (by rw [upd_self]; simp)).1
    rw [joinA_single n] at x
    exact exc_pass x (by rw [upd_self]) fun s₇ R₇ => ⟨e, cls, true, ctx, m₆, σ₆, rfl, n, R₇, q₆⟩
end

/-! # Lay9 -/

theorem entry_unchain : entryFor table "proto.unchain" = some Builtin.«proto.unchain» := entryFor_of_tree (by kernel_rfl)

section
variable {α β : Type} {W : Wd} {A : Around} {B : Base} {fe env : Env} {fs : List (Env × LM)} {m : LM} {σ τ ρ : AH} {es : List Env} {u : Nat} {E : Value → Shared → Prop} {s : Shared}

/-- a new exception is raised, be another one at hand or not -/
theorem raise_hd {e : Addr} {cls : Value} {Q : α → Shared → Prop} (H : HdOk A B) (R : Rel B fs (upd σ e (some (.exc cls false false))) s)
    (h : ∀ s' ctx, (A.handled = none → ctx = false) → Rel B fs (upd σ e (some (.exc cls false ctx))) s' → E (.ref e) s') :
    wpAny (model W.prog W.w) A (raiseNew (.ref e) : Sem α) Q E s := by
  unfold raiseNew
  refine wpAny_bind (wpAny_handled ?_)
  rcases H with H | ⟨e0, oe, ws, H, h1, h2, h3⟩
  · rw [H]
    exact wpAny_bind (wpAny_pure (wpAny_throw (h s false (fun _ => rfl) R)))
  · rw [H]
    have hb := R.notB (a := e) (c := .exc cls false false) (by rw [upd_self])
    have ne : e0 ≠ e := fun q => by rw [q, hb] at h1; cases h1
    dsimp only
    rw [if_pos (show ((Value.ref e0 != Value.ref e) = true) by simpa using ne)]
    refine wpAny_bind (wpAny_holding (wpAny_runValue (codeAny_builtin entry_unchain ?_)))
    unfold Builtin.«proto.unchain»
    refine wpAny_bind (wpAny_field (R.keep _ _ h1) h2 h3 ?_)
    rw [if_pos (by decide)]
    refine wpAny_bind (wpAny_pure (wpAny_pure ?_))
    show wpAny _ _ (setField (.ref e) 2 (.ref e0) >>= fun _ => throw (.ref e)) _ _ _
    obtain ⟨hid, d, vs, sl, he, hz, hc, h0, _⟩ := R.at (a := e) (c := .exc cls false false) (by rw [upd_self])
    refine wpAny_bind (wpAny_setField he rfl (by omega) (wpAny_throw (h _ true (fun q => by rw [q] at H; cases H) ?_)))
    rw [← upd_upd σ e (some (Cell.exc cls false false))]
    refine R.turn (s' := { s with heap := _ }) (c := .exc cls false false) (by rw [upd_self]) (fun b hb => Heap.get?_update_other _ _ (Ne.symm hb)) rfl rfl (fun hid' x => ?_) (fun q => q)
    obtain ⟨d', vs', sl', he', hz', hc', h0', _⟩ := x
    refine ⟨d', vs'.setIfInBounds 2 (.ref e0), sl', Heap.get?_update_self _ he' rfl, by simpa using hz', (fun q => by cases q), fun _ => ?_, fun q => by cases q⟩
    rw [Array.getElem?_setIfInBounds_ne (by decide)]; exact h0' rfl

/-- a new exception object -/
theorem Rel.addExc {s' : Shared} (R : Rel B fs σ s) {e : Addr} {cls t : Value} {d : Option Addr} {sl : Array (Option Value)} (k : ∀ b o, s.heap.get? b = some o → s'.heap.get? b = some o) (hg : s'.gens = s.gens) (ho : s'.os = s.os)
    (hn : s.heap.get? e = none) (he : s'.heap.get? e = some ⟨cls, d, .fields #[t, .none, .none, .none, .bool false, .none], sl⟩) : Rel B fs (upd σ e (some (.exc cls false false))) s' :=
  R.add (hid := 0) k hg ho hn (fun q => by cases q) ⟨d, _, sl, he, by simp, fun _ => rfl, fun _ => rfl, fun q => by cases q⟩

def ExcCls (K : Frag) (cls : Value) : Prop := typeIn K cls = some (.type "type") ∧ subIn K cls (.type "BaseException") = some true

theorem t_Raise {x : Expr} {pos : Pos} {Q : Flow → LM → AH → Prop} {X : Value → Bool → LM → AH → Prop} (O : Ok W A B es u) (H : HdOk A B)
    (h : TrV W A B fe fs (eval x env) m σ (fun v m₁ σ₁ => ∃ e cls σ₀, v = .ref e ∧ σ₀ e = none ∧ σ₁ = upd σ₀ e (some (.exc cls false false)) ∧ ExcCls W.K cls ∧ ∀ ctx, (A.handled = none → ctx = false) → X cls ctx m₁ σ₀) X) :
    Tr W A B fe fs (exec (.Raise (some x) none pos) env) m σ Q X := fun s R => by
  rw [arm_exec_Raise]
  refine wpAny_bind (wpAny_standAt ?_)
  show wpAny _ _ (raiseStmt env (some (do let v ← eval x env; standAt pos; pure v)) none) _ _ _
  unfold raiseStmt
  refine wpAny_bind (wpAny_bind (h.go R (fun v m₁ σ₁ s₁ R₁ q => ?_) fun _ _ x => x))
  refine wpAny_bind (wpAny_standAt (wpAny_pure ?_))
  obtain ⟨e, cls, σ₀, q1, q2, rfl, ⟨q3, q4⟩, q5⟩ := q
  obtain rfl := er_ref_inv q1
  have X0 := O.g.X.keeps R₁.keep
  obtain ⟨hid, d, vs, sl, he, hz, hc, h0, _⟩ := R₁.at (a := e) (c := .exc cls false false) (by rw [upd_self])
  obtain ⟨hh, g, dr, tk, os⟩ := s₁
  have L1 : Looks (model W.prog W.w) hh (typeOf (.ref e)) cls := (Looks.ld he).andThen .now
  have L2 : Looks (model W.prog W.w) hh (isSubtype cls (.type "BaseException")) true := looks_subIn X0 q4
  have L3 : Looks (model W.prog W.w) hh (typeOf cls) (.type "type") := looks_typeIn X0 q3
  have L4 : Looks (model W.prog W.w) hh (isType (.ref e)) false := (Looks.ld he).andThen .now
  refine wpAny_bind (wpAny_pure ?_)
  refine wpAny_bind (wpAny_holding ?_)
  unfold excFromValue isExcClass isInstance
  refine wpAny_bind (wpAny_bind (L4.at ?_))
  rw [if_neg (by decide)]
  refine wpAny_pure ?_
  rw [if_neg (by decide)]
  refine wpAny_bind (wpAny_bind (L1.at (L2.at ?_)))
  rw [if_pos rfl]
  refine wpAny_pure ?_
  dsimp only
  refine wpAny_bind (L4.at ?_)
  rw [if_neg (by decide)]
  unfold raisedInstance
  refine wpAny_bind (wpAny_bind (L1.at (wpAny_bind (L3.at ?_))))
  rw [if_pos (by decide)]
  refine wpAny_pure ?_
  refine wpAny_bind (exc_flight R₁ (by rw [upd_self]) fun s₂ R₂ => ?_)
  exact raise_hd H R₂ fun s₃ ctx hc R₃ => ⟨e, cls, false, ctx, m₁, σ₀, rfl, q2, R₃, q5 ctx hc⟩

/-- what a clause's class says of an exception of class `cls` -/
theorem matches_K {h : Heap} {M : Model} {K : Frag} {cls spec : Value} {b : Bool} {e : Addr} {d : Option Addr} {dat : Array Value} {sl : Array (Option Value)} (X : K.In h) (he : h.get? e = some ⟨cls, d, .fields dat, sl⟩)
    (h1 : Looks M h (isInstance spec (.type "tuple")) false) (h2 : Looks M h (isType spec) true) (h3 : subIn K spec (.type "BaseException") = some true) (h4 : subIn K cls spec = some b) : Looks M h (excMatches (.ref e) spec) b := by
  have L1 : Looks M h (typeOf (.ref e)) cls := (Looks.ld he).andThen .now
  have L3 := looks_subIn (M := M) X h3
  have L4 := looks_subIn (M := M) X h4
  have LE : Looks M h (isExcClass spec) true := by
    unfold isExcClass
    exact h2.andThen (by rw [if_pos rfl]; exact L3)
  unfold excMatches
  refine h1.andThen ?_
  rw [if_neg (by decide)]
  refine Looks.now.andThen ?_
  intro A Q E s k q
  dsimp only
  simp only [List.forIn_cons, List.forIn_nil]
  refine wpAny_bind (wpAny_bind (wpAny_bind (LE A _ E s k ?_)))
  rw [if_neg (by decide)]
  refine wpAny_pure (wpAny_pure (wpAny_bind (L1 A _ E s k (wpAny_bind (wpAny_bind (wpAny_bind (L4 A _ E s k ?_)))))))
  cases b with
  | true => exact wpAny_pure (wpAny_pure (wpAny_pure q))
  | false => exact wpAny_pure (wpAny_pure (wpAny_pure q))
end

/-! # Lay10 -/

section
variable {α β : Type} {W : Wd} {A : Around} {B : Base} {fe env : Env} {fs : List (Env × LM)} {m : LM} {σ τ ρ : AH} {es : List Env} {u : Nat} {E : Value → Shared → Prop} {s : Shared}

theorem call_exc {x : Str} {C : Addr} {bmB : List Value} {newId initId : String} {Bn : String} {args : List Value} {Q : Value → AH → Prop} {X} (O : Ok W A B es u)
    (ex : nsIn W.K mainGlobals x = some (some (.ref C))) (q : excIn W.K C bmB newId = true) (F : ExcBaseFacts Bn newId initId bmB) (hz : args.length ≤ 1000)
    (h : ∀ e, σ e = none → Q (.ref e) (upd σ e (some (.exc (.ref C) false false)))) : CallW W A B fs (.ref C) args [] σ Q X := fun pos' kw' e1 e2 s R => by
  obtain rfl := erK_nil e2
  have X0 := O.g.X.keeps R.keep
  have T0 := (topRead_of O.g.T).keeps R.keep
  obtain ⟨bm, N, nm, qn, bs, hdct, sn, sub, ab, col, dd, k0, k1, k2, k3, k5, mN, hC, hN, hni, TL⟩ := (own_of_in X0 T0 ex q).obj
  obtain ⟨hh, g, dr, tk, os⟩ := s
  refine wpAny_call_exc_subT F TL hC hN hni (fun h' e hm => ?_) (by rw [sizeLine_eq]; have : pos'.length = args.length := by rw [← e1]; simp
                                                                    omega)
  obtain ⟨t, ht, _⟩ := hm.there
  exact ⟨_, R.addExc (s' := ⟨h', g, dr, tk, os⟩) hm.keeps rfl rfl hm.new ht, h e (R.fresh hm.new).2.1⟩

/-! ### methods of lists -/
theorem op_methList {l : Addr} {vs : List Value} {name : Str} {id : String} {pl : Sem Bool} {Q : Value × List Value → LM → AH → Prop} {X} (slot : Slot "list" name id) (hty : typeOf (.builtin id) = pure (.type "method_descriptor")) (hσ : σ l = some (.seq "list" vs)) (h : Q (.builtin id, [.ref l]) m σ) :
    Op1 W A B fe fs (fun o => getMethod o name pl) (.ref l) m σ Q X := fun o ho s R => by
  obtain rfl := er_ref_inv ho
  obtain ⟨vr, n, e, q⟩ := R.seqAt hσ
  exact getMethod_list_of slot hty (isList_of e) ⟨_, e, rfl⟩ ⟨m, σ, R, h⟩
theorem call_append {l : Addr} {vs : List Value} {v : Value} {Q : Value → AH → Prop} {X} (hσ : σ l = some (.seq "list" vs)) (hz : vs.length ≤ 10000) (h : Q .none (upd σ l (some (.seq "list" (vs ++ [v]))))) :
    CallW W A B fs (.builtin "list.append") [.ref l, v] [] σ Q X := fun pos' kw' e1 e2 s R => by
  obtain ⟨x, k, rfl, hx, hk⟩ := map_er_cons e1
  obtain ⟨y, k, rfl, hy, hk⟩ := map_er_cons hk
  obtain rfl := map_er_nil hk
  obtain rfl := er_ref_inv hx
  obtain rfl := erK_nil e2
  obtain ⟨vr, n, e, q⟩ := R.seqAt hσ
  have hs := er_size q
  refine call_meets PySem.F.slot_list_append ⟨_, e, rfl⟩ PySem.F.entry_list_append (PySem.F.args_list_append_2 _ _) (PySem.list_append l vr n y (by rw [sizeLine_eq]; omega)) ⟨e, ?_⟩
  exact ⟨_, R.turnSeq (t := s.toks) hσ (fun vr e => by rw [Array.toList_push, List.map_append, e]; simp [hy]), h⟩
theorem call_insert {l : Addr} {vs : List Value} {v : Value} {k : Int} {Q : Value → AH → Prop} {X} (hσ : σ l = some (.seq "list" vs)) (hz : vs.length ≤ 10000) (h0 : 0 ≤ k) (hk : k.toNat ≤ vs.length) (h : Q .none (upd σ l (some (.seq "list" (vs.take k.toNat ++ v :: vs.drop k.toNat))))) :
    CallW W A B fs (.builtin "list.insert") [.ref l, .int k 0, v] [] σ Q X := fun pos' kw' e1 e2 s R => by
  obtain ⟨x, r, rfl, hx, hr⟩ := map_er_cons e1
  obtain ⟨i, r, rfl, hi, hr⟩ := map_er_cons hr
  obtain ⟨y, r, rfl, hy, hr⟩ := map_er_cons hr
  obtain rfl := map_er_nil hr
  obtain rfl := er_ref_inv hx
  obtain ⟨u, rfl⟩ := er_int_inv hi
  obtain rfl := erK_nil e2
  obtain ⟨vr, n, e, q⟩ := R.seqAt hσ
  have hs := er_size q
  refine call_meets PySem.F.slot_list_insert ⟨_, e, rfl⟩ PySem.F.entry_list_insert (PySem.F.args_list_insert_3 _ _ _) (PySem.AutoSeq1.list_insert_list_int_val_1 l vr n k u y (by simp [Builtin.List.listFitsIndex]; omega) (by rw [sizeLine_eq]; omega)) ⟨e, ?_⟩
  refine ⟨_, R.turnSeq (t := s.toks) hσ (fun vr e => ?_), h⟩
  have hs := er_size e
  have h1 : ¬ k < 0 := by omega
  have h2 : min k.toNat vr.size = k.toNat := by omega
  simp only [h1, if_false, h2]
  rw [← e, ← hy]
  obtain ⟨l⟩ := vr
  simp only [List.size_toArray] at hs
  simp [List.map_take, List.map_drop]
  rw [List.take_of_length_le]; simp
theorem call_pop0 {l : Addr} {v : Value} {vs : List Value} {Q : Value → AH → Prop} {X} (hσ : σ l = some (.seq "list" (v :: vs))) (hz : vs.length ≤ 10000) (h : Q v (upd σ l (some (.seq "list" vs)))) :
    CallW W A B fs (.builtin "list.pop") [.ref l, .int 0 0] [] σ Q X := fun pos' kw' e1 e2 s R => by
  obtain ⟨x, r, rfl, hx, hr⟩ := map_er_cons e1
  obtain ⟨i, r, rfl, hi, hr⟩ := map_er_cons hr
  obtain rfl := map_er_nil hr
  obtain rfl := er_ref_inv hx
  obtain ⟨u, rfl⟩ := er_int_inv hi
  obtain rfl := erK_nil e2
  obtain ⟨vr, n, e, q⟩ := R.seqAt hσ
  have hs := er_size q
  rw [List.length_cons] at hs
  obtain ⟨r, hr, hre⟩ := er_item (i := 0) q rfl
  refine call_meets PySem.F.slot_list_pop ⟨_, e, rfl⟩ PySem.F.entry_list_pop (PySem.F.args_list_pop_2 _ _) (PySem.MeetsSeq.list_pop_at l vr n 0 u 0 r (by decide) (by simp [seqIndex?, hs]) hr (by rw [sizeLine_eq]; omega)) ⟨e, ?_⟩
  refine ⟨_, R.turnSeq (t := s.toks) hσ (fun vr e => ?_), by rw [hre]; exact h⟩
  have hs := er_size e
  obtain ⟨l⟩ := vr
  cases l with
  | nil => simp at hs
  | cons a b =>
    injection e with e1 e2
    simpa [Array.eraseIdxIfInBounds] using e2
theorem call_pop0_nil {l : Addr} {Q : Value → AH → Prop} {X : Value → Bool → AH → Prop} (hA : A.handled = none) (hσ : σ l = some (.seq "list" [])) (h : X (.type "IndexError") false σ) :
    CallW W A B fs (.builtin "list.pop") [.ref l, .int 0 0] [] σ Q X := fun pos' kw' e1 e2 s R => by
  obtain ⟨x, r, rfl, hx, hr⟩ := map_er_cons e1
  obtain ⟨i, r, rfl, hi, hr⟩ := map_er_cons hr
  obtain rfl := map_er_nil hr
  obtain rfl := er_ref_inv hx
  obtain ⟨u, rfl⟩ := er_int_inv hi
  obtain rfl := erK_nil e2
  obtain ⟨vr, n, e, q⟩ := R.seqAt hσ
  have hs := er_size q
  refine call_meets PySem.F.slot_list_pop ⟨_, e, rfl⟩ PySem.F.entry_list_pop (PySem.F.args_list_pop_2 _ _) (PySem.AutoSeq1.list_pop_list_int_1 l vr n 0 u (by decide) (by simpa [Array.isEmpty] using hs)) ⟨e, hA, fun h' tk e hn => ?_⟩
  obtain ⟨⟨oc, od, oda, osl⟩, t, he, hc, hd⟩ := hn.there
  dsimp only at hc hd
  subst hc hd
  exact ⟨e, .type "IndexError", false, false, σ, rfl, (R.fresh hn.new).2.1, R.addExc (s' := { s with heap := h', toks := tk }) hn.keeps rfl rfl hn.new he, h⟩
end

/-! # Lay11 -/

section
variable {α β : Type} {W : Wd} {A : Around} {B : Base} {fe env : Env} {fs : List (Env × LM)} {m : LM} {σ τ ρ : AH} {es : List Env} {u : Nat} {E : Value → Shared → Prop} {s : Shared}

theorem raise_hdS {e : Addr} {cls : Value} {d : Option Addr} {vs : Array Value} {sl : Array (Option Value)} {Q : α → Shared → Prop} (H : HdOk A B) (k : B.h.StaysIn s.heap) (hb : B.h.get? e = none)
    (he : s.heap.get? e = some ⟨cls, d, .fields vs, sl⟩) (hz : 5 < vs.size)
    (h : ∀ h' vs', (∀ b, b ≠ e → h'.get? b = s.heap.get? b) → h'.get? e = some ⟨cls, d, .fields vs', sl⟩ → E (.ref e) { s with heap := h' }) :
    wpAny (model W.prog W.w) A (raiseNew (.ref e) : Sem α) Q E s := by
  unfold raiseNew
  refine wpAny_bind (wpAny_handled ?_)
  rcases H with H | ⟨e0, oe, ws, H, h1, h2, h3⟩
  · rw [H]
    exact wpAny_bind (wpAny_pure (wpAny_throw (h s.heap vs (fun _ _ => rfl) he)))
  · rw [H]
    have ne : e0 ≠ e := fun q => by rw [q, hb] at h1; cases h1
    dsimp only
    rw [if_pos (show ((Value.ref e0 != Value.ref e) = true) by simpa using ne)]
    refine wpAny_bind (wpAny_holding (wpAny_runValue (codeAny_builtin entry_unchain ?_)))
    unfold Builtin.«proto.unchain»
    refine wpAny_bind (wpAny_field (k _ _ h1) h2 h3 ?_)
    rw [if_pos (by decide)]
    refine wpAny_bind (wpAny_pure (wpAny_pure ?_))
    show wpAny _ _ (setField (.ref e) 2 (.ref e0) >>= fun _ => throw (.ref e)) _ _ _
    exact wpAny_bind (wpAny_setField he rfl (by omega) (wpAny_throw (h _ _ (fun b hb => Heap.get?_update_other _ _ (Ne.symm hb)) (Heap.get?_update_self _ he rfl))))

theorem next_list_end_hd {it l : Addr} {i : Nat} {items} {Q : Option Value → Shared → Prop} (H : HdOk A B) (k : B.h.StaysIn s.heap) (hbi : B.h.get? it = none)
    (hit : Heap.IsListIter s.heap it l i) (hl : s.heap.IsList l items) (hx : items[i]? = none)
    (hQ : ∀ h', Heap.ExtBut it s.heap h' → Q none { s with heap := h' }) : wpAny (model W.prog W.w) A (pyNext (.ref it)) Q E s := by
  obtain ⟨o, ho, hc, hd⟩ := id hit
  obtain ⟨ol, hol, _, nl, hdl⟩ := hl
  have hty : s.TypeIs (.ref it) "list_iterator" := ⟨o, ho, hc⟩
  unfold pyNext
  refine wpAny_bind (wpAny_attempt (wpAny_callSpecial?_slot (name := Str.ofString "__next__") hty slot_listiter_next
    (wpAny_call_entry slot_listiter_next hty entry_listiter_next ?_ (args_listiter_next _))))
  show wpAny _ _ (field (.ref it) 0 >>= _) _ _ s
  refine wpAny_bind (wpAny_field ho hd (x := .ref l) rfl ?_)
  show wpAny _ _ (if (Value.ref l == Value.none) = true then _ else _) _ _ s
  rw [if_neg (show ¬ ((Value.ref l == Value.none) = true) from Bool.false_ne_true)]
  show wpAny _ _ (field (.ref it) 1 >>= _) _ _ s
  refine wpAny_bind (wpAny_field ho hd (x := .int i 0) rfl ?_)
  show wpAny _ _ (seqItems? (.ref l) >>= _) _ _ s
  refine wpAny_bind (wpAny_seqItems hol hdl ?_)
  simp only [Int.toNat_natCast, hx]
  refine wpAny_bind (wpAny_rule (wpAny_bind (wpAny_setField ho hd (by simp) ?_)))
  show wpAny _ _ (newExc (.type "StopIteration") [] >>= _) _ _ _
  refine wpAny_bind ?_
  simp only [newExc, newTuple]
  refine wpAny_bind (wpAny_newObj_type ?_ (by size_fits))
  refine wpAny_bind (m := firstArgMember _ _) (wpAny_of_eq (a := Value.none) (by first | rfl | (simp only [firstArgMember]; rfl)) ?_)
  refine wpAny_newObj_type ?_ (by size_fits)
  have ext : Heap.ExtBut it s.heap (((s.heap.update it (Obj.mapFields (·.setIfInBounds 0 Value.none))).push { cls := .type "tuple", data := .seq #[] })) := (Heap.SameBut.update ..).extBut.push _
  have kk : B.h.StaysIn (((s.heap.update it (Obj.mapFields (·.setIfInBounds 0 Value.none))).push { cls := .type "tuple", data := .seq #[] })) := fun b o e => ext b o (fun q => by rw [q, hbi] at e; cases e) (k b o e)
  refine raise_hdS (A := A.in1) (B := B) (H.same rfl) (fun b o e => Heap.get?_push_of_some _ (kk b o e)) kk.fresh (Heap.get?_push_size _ rfl) (by simp [ownMembersOf]) fun h' vs' hs' he' => ?_
  refine wpAny_bind (wpAny_isInstance (T := "StopIteration") (b := true) ⟨_, he', rfl⟩ isSubtype_stop ?_)
  refine wpAny_pure (hQ _ fun b o hb e => ?_)
  exact (hs' b fun q => by
    have e1 := ext b o hb e
    rw [q] at e1
    exact absurd (Heap.lt_size e1) (Nat.lt_irrefl _)).trans (Heap.get?_push_of_some _ (ext b o hb e))

theorem next_tuple_end_hd {it l : Addr} {i : Nat} {items} {Q : Option Value → Shared → Prop} (H : HdOk A B) (k : B.h.StaysIn s.heap) (hbi : B.h.get? it = none)
    (hit : IsTupIter s.heap it l i) (hl : IsTup s.heap l items) (hx : items[i]? = none)
    (hQ : ∀ h', Heap.ExtBut it s.heap h' → Q none { s with heap := h' }) : wpAny (model W.prog W.w) A (pyNext (.ref it)) Q E s := by
  obtain ⟨o, ho, hc, hd⟩ := id hit
  obtain ⟨ol, hol, _, nl, hdl⟩ := hl
  have hty : s.TypeIs (.ref it) "tuple_iterator" := ⟨o, ho, hc⟩
  unfold pyNext
  refine wpAny_bind (wpAny_attempt (wpAny_callSpecial?_slot (name := Str.ofString "__next__") hty slot_tupleiter_next
    (wpAny_call_entry slot_tupleiter_next hty entry_tupleiter_next ?_ (args_tupleiter_next _))))
  show wpAny _ _ (field (.ref it) 0 >>= _) _ _ s
  refine wpAny_bind (wpAny_field ho hd (x := .ref l) rfl ?_)
  show wpAny _ _ (if (Value.ref l == Value.none) = true then _ else _) _ _ s
  rw [if_neg (show ¬ ((Value.ref l == Value.none) = true) from Bool.false_ne_true)]
  show wpAny _ _ (field (.ref it) 1 >>= _) _ _ s
  refine wpAny_bind (wpAny_field ho hd (x := .int i 0) rfl ?_)
  show wpAny _ _ (seqItems? (.ref l) >>= _) _ _ s
  refine wpAny_bind (wpAny_seqItems hol hdl ?_)
  simp only [Int.toNat_natCast, hx]
  refine wpAny_bind (wpAny_rule (wpAny_bind (wpAny_setField ho hd (by simp) ?_)))
  show wpAny _ _ (newExc (.type "StopIteration") [] >>= _) _ _ _
  refine wpAny_bind ?_
  simp only [newExc, newTuple]
  refine wpAny_bind (wpAny_newObj_type ?_ (by size_fits))
  refine wpAny_bind (m := firstArgMember _ _) (wpAny_of_eq (a := Value.none) (by first | rfl | (simp only [firstArgMember]; rfl)) ?_)
  refine wpAny_newObj_type ?_ (by size_fits)
  have ext : Heap.ExtBut it s.heap (((s.heap.update it (Obj.mapFields (·.setIfInBounds 0 Value.none))).push { cls := .type "tuple", data := .seq #[] })) := (Heap.SameBut.update ..).extBut.push _
  have kk : B.h.StaysIn (((s.heap.update it (Obj.mapFields (·.setIfInBounds 0 Value.none))).push { cls := .type "tuple", data := .seq #[] })) := fun b o e => ext b o (fun q => by rw [q, hbi] at e; cases e) (k b o e)
  refine raise_hdS (A := A.in1) (B := B) (H.same rfl) (fun b o e => Heap.get?_push_of_some _ (kk b o e)) kk.fresh (Heap.get?_push_size _ rfl) (by simp [ownMembersOf]) fun h' vs' hs' he' => ?_
  refine wpAny_bind (wpAny_isInstance (T := "StopIteration") (b := true) ⟨_, he', rfl⟩ isSubtype_stop ?_)
  refine wpAny_pure (hQ _ fun b o hb e => ?_)
  exact (hs' b fun q => by
    have e1 := ext b o hb e
    rw [q] at e1
    exact absurd (Heap.lt_size e1) (Nat.lt_irrefl _)).trans (Heap.get?_push_of_some _ (ext b o hb e))

/-! ### lists walked item by item -/
theorem Rel.lose {s' : Shared} (R : Rel B fs σ s) {a : Addr} {c : Cell} (hσ : σ a = some c) (k : ∀ b o, b ≠ a → s.heap.get? b = some o → s'.heap.get? b = some o) (hg : s'.gens = s.gens) (ho : s'.os = s.os) : Rel B fs (upd σ a none) s' := by
  obtain ⟨δ, c1, c2, c3⟩ := R.cells
  obtain ⟨a1, a2, a3⟩ := c1 a c hσ
  have inv : ∀ b d, upd σ a none b = some d → b ≠ a ∧ σ b = some d := fun b d e => by
    by_cases hb : b = a
    · subst hb; rw [upd_self] at e; cases e
    · rw [upd_ne _ _ hb] at e; exact ⟨hb, e⟩
  refine ⟨fun b o e => k b o (fun z => by rw [z, a2] at e; cases e) (R.keep b o e), fun p hp => ?_, R.nd, ⟨δ, fun b d e => ?_, fun b d e q => ?_, fun b b' d d' e e' => c3 b b' d d' (inv b d e).2 (inv b' d' e').2⟩, hg.trans R.gens, ho.trans R.os⟩
  · obtain ⟨f1, f2, f3, mr, ⟨o, es, ep, ho, r⟩, hm⟩ := R.fr p hp
    exact ⟨f1, f2, f3, mr, ⟨o, es, ep, k _ _ (a3 p hp) ho, r⟩, hm⟩
  · obtain ⟨hb, e⟩ := inv b d e
    obtain ⟨x, y⟩ := c1 b d e
    obtain ⟨o, ho⟩ := x.some
    refine ⟨x.congr ((k _ _ hb ho).trans ho.symm) (fun q => ?_), y⟩
    obtain ⟨o, ho⟩ := x.hidSome q
    exact (k _ _ (fun z => by have := (c2 b d e q).2.1; rw [z, hσ] at this; cases this) ho).trans ho.symm
  · obtain ⟨hb, e⟩ := inv b d e
    obtain ⟨x1, x2, x3⟩ := c2 b d e q
    refine ⟨x1, ?_, x3⟩
    by_cases z : δ b = a
    · rw [z, upd_self]
    · rw [upd_ne _ _ z]; exact x2
def LIter (l : Addr) (i : Nat) : Cell := .pred fun o => o.cls = .type "list_iterator" ∧ o.data = .fields #[.ref l, .int i 0]
theorem op_iterList {l : Addr} {vs : List Value} {Q : Value → LM → AH → Prop} {X} (hσ : σ l = some (.seq "list" vs)) (h : ∀ it, σ it = none → Q (.ref it) m (upd σ it (some (LIter l 0)))) : Op1 W A B fe fs pyIter (.ref l) m σ Q X := fun o ho s R => by
  obtain rfl := er_ref_inv ho
  obtain ⟨vr, n, e, q⟩ := R.seqAt hσ
  refine wpAny_pyIter_list (isList_of e) ⟨m, _, R.add (hid := 0) (c := LIter l 0) (fun b o e => Heap.get?_push_of_some _ e) rfl rfl (Heap.get?_none_of_le (Nat.le_refl _)) (fun q => by cases q) ⟨_, Heap.get?_push_size _ rfl, rfl, rfl⟩, h _ (R.fresh (Heap.get?_none_of_le (Nat.le_refl _))).2.1⟩
theorem t_nextList {it l : Addr} {i : Nat} {vs : List Value} {Q : Option Value → LM → AH → Prop} {X} (H : HdOk A B) (hit : σ it = none) (hl : σ l = some (.seq "list" vs))
    (h : match vs[i]? with | some v => ∀ r, er r = v → Q (some r) m (upd σ it (some (LIter l (i + 1)))) | none => Q none m σ) :
    Tr W A B fe fs (pyNext (.ref it)) m (upd σ it (some (LIter l i))) Q X := fun s R => by
  have nl : l ≠ it := fun q => by rw [q, hit] at hl; cases hl
  obtain ⟨vr, n, e, q⟩ := R.seqAt (a := l) (ty := "list") (vs := vs) (by rw [upd_ne _ _ nl]; exact hl)
  obtain ⟨hid, o, ho, hp⟩ := R.at (a := it) (c := LIter l i) (by rw [upd_self])
  have hI : s.heap.IsListIter it l i := ⟨o, ho, hp⟩
  cases z : vs[i]? with
  | some v =>
    rw [z] at h
    obtain ⟨r, hr, hre⟩ := er_item q z
    refine wpAny_pyNext_list_item hI (isList_of e) hr fun h' hit' hs' => ⟨m, _, ?_, h r hre⟩
    rw [← upd_upd σ it (some (LIter l i))]
    exact R.turn (s' := { s with heap := h' }) (c := LIter l i) (by rw [upd_self]) hs'.2 rfl rfl (fun hid x => hit') (fun q => q)
  | none =>
    rw [z] at h
    have hx : vr[i]? = none := by
      have := er_size q
      rw [List.getElem?_eq_none_iff] at z
      rw [Array.getElem?_eq_none_iff]; omega
    refine next_list_end_hd H R.keep (R.notB (a := it) (c := LIter l i) (by rw [upd_self])) hI (isList_of e) hx fun h' he => ⟨m, σ, ?_, h⟩
    have := R.lose (s' := { s with heap := h' }) (by rw [upd_self]) he rfl rfl
    rw [upd_upd, ← hit, upd_same] at this
    exact this

/-! ### tuples taken apart -/
theorem unpackItems_hd {t : Addr} {items : Array Value} {Q : List Value → Shared → Prop} (H : HdOk A B) (k : B.h.StaysIn s.heap) (ht : IsTup s.heap t items)
    (hQ : ∀ h', (∀ b o, s.heap.get? b = some o → h'.get? b = some o) → Q items.toList { s with heap := h' }) : wpAny (model W.prog W.w) A (unpackItems (.ref t) items.size none) Q E s := by
  have hlt : t ≠ s.heap.objs.size := by obtain ⟨o, ho, _⟩ := ht; exact Nat.ne_of_lt (Heap.lt_size ho)
  unfold unpackItems
  refine wpAny_bind ?_
  · unfold notIterableAtAll
    refine wpAny_bind (wpAny_specialOf ht.typeIs slot_tuple_iter.lookup ?_)
    refine wpAny_pure ?_
    simp only [Bool.false_eq_true, if_false]
    refine wpAny_bind (wpAny_holding (iter_tuple ht ?_))
    refine wpAny_bind (wpAny_holding (draw_tuple hlt items.size 0 _ _ ⟨_, Heap.get?_push_size _ rfl, rfl, rfl⟩ (ht.push _) (by omega) fun h₁ hit₁ hs₁ => ?_))
    have hall : List.take items.size (List.drop 0 items.toList) = items.toList := by
      rw [List.drop_zero]; exact List.take_of_length_le (by simp)
    rw [hall]
    rw [if_neg (by simp)]
    have ht₁ : IsTup h₁ t items := (ht.push _).extBut hs₁.extBut hlt
    have old : ∀ b o, s.heap.get? b = some o → b ≠ s.heap.objs.size ∧ h₁.get? b = some o := fun b o e =>
      have hb : b ≠ s.heap.objs.size := fun q => by rw [q] at e; exact absurd (Heap.lt_size e) (Nat.lt_irrefl _)
      ⟨hb, hs₁.extBut b o hb (Heap.get?_push_of_some _ e)⟩
    refine wpAny_bind (wpAny_holding (next_tuple_end_hd (B := B) H (fun b o e => (old b o (k b o e)).2) k.fresh hit₁ ht₁ (by simp) fun h₂ he₂ => ?_))
    simp only [Option.isSome_none, Bool.false_eq_true, if_false]
    exact wpAny_pure (hQ h₂ fun b o e => he₂ b o (old b o e).1 (old b o e).2)
theorem t_assignTuple2 {e₁ e₂ : Expr} {k : Nat} {pos : Pos} {t : Addr} {a b v : Value} {Q : Unit → LM → AH → Prop} {X} (H : HdOk A B) (hv : er v = .ref t) (hσ : σ t = some (.seq "tuple" [a, b]))
    (h : ∀ x y, er x = a → er y = b → Tr W A B fe fs (assign e₁ env x) m σ (fun _ m₁ σ₁ => Tr W A B fe fs (assign e₂ env y) m₁ σ₁ Q X) X)
    (h1 : assignEach [e₁, e₂] env = [(false, assign e₁ env), (false, assign e₂ env)] := by with_unfolding_all rfl) : Tr W A B fe fs (assign (.Tuple [e₁, e₂] k pos) env v) m σ Q X := fun s R => by
  obtain rfl := er_ref_inv hv
  obtain ⟨vr, n, e, q⟩ := R.seqAt hσ
  have hs := er_size q
  obtain ⟨x, r, hx, ex, hr⟩ := map_er_cons q
  obtain ⟨y, r, rfl, ey, hr⟩ := map_er_cons hr
  obtain rfl := map_er_nil hr
  rw [assign_Tuple]
  refine wpAny_bind (wpAny_standAt ?_)
  unfold unpack
  rw [h1]
  refine wpAny_bind (wpAny_holding ?_)
  show wpAny _ _ (unpackItems (.ref t) 2 none) _ _ _
  have hs2 : vr.size = 2 := hs
  rw [← hs2]
  refine unpackItems_hd H R.keep (isTup_of e) fun h' kk => ?_
  rw [hx]
  have R' := R.grow (s' := { s with heap := h' }) kk rfl rfl
  show wpAny _ _ (holding _ (assign e₁ env x) >>= fun _ => assignInOrder [assign e₂ env] [y]) _ _ _
  refine wpAny_bind (wpAny_holding ((h x y ex ey).go R' (fun _ m₁ σ₁ s₁ R₁ q => ?_) (fun _ _ x => x)))
  show wpAny _ _ (holding _ (assign e₂ env y) >>= fun _ => pure ()) _ _ _
  exact wpAny_bind (wpAny_holding (q.go R₁ (fun _ m₂ σ₂ s₂ R₂ q => wpAny_pure ⟨m₂, σ₂, R₂, q⟩) (fun _ _ x => x)))
theorem t_assignName {x : Str} {xp : Pos} {v : Value} {Q : Unit → LM → AH → Prop} {X} (h : Q () (upd m x (some (er v))) σ) (hl : fe.kindOf x = some .local := by with_unfolding_all rfl) (hm : fe.scope.kind = .function := by with_unfolding_all rfl) : Tr W A B fe fs (assign (.Name x xp) fe v) m σ Q X :=
  fun s R => wpAny_assign_Name ((t_storeName (Q := Q) h hl hm).at R)
theorem t_AssignTuple {elts k tpos value pos} {Q : Flow → LM → AH → Prop} {X}
    (h : TrV W A B fe fs (eval value env) m σ (fun v m₁ σ₁ => Op1 W A B fe fs (fun v => assign (.Tuple elts k tpos) env v) v m₁ σ₁ (fun _ => Q .next) X) X)
    (hs : swapsWithSole [.Tuple elts k tpos] value pos.line env = pure false := by with_unfolding_all rfl) (hw : swappedStores [.Tuple elts k tpos] value env = pure none := by with_unfolding_all rfl) :
    Tr W A B fe fs (exec (.Assign [.Tuple elts k tpos] value pos) env) m σ Q X :=
  fun _ R => Assign_Tuple (h.go R (fun v _ _ _ R₁ q => (q v rfl).at R₁) (fun _ _ x => x)) hs hw

theorem t_letOwned {target : Expr} {it l : Addr} {i : Nat} {v : Value} {Q : Unit → LM → AH → Prop} {X} (hit : σ it = some (LIter l i)) (h : Q () m σ) : Tr W A B fe fs (letOwnedTupleGo target (.ref it) v) m σ Q X := fun s R => by
  obtain ⟨hid, o, ho, hc, hd⟩ := R.at hit
  have key : wpAny (model W.prog W.w) A (do
      let (.ref r, .ref a) := ((Value.ref it, v) : Value × Value) | return
      let o ← load r
      match o.cls, o.data with
      | .type n, .fields vs =>
        if ["enumerate", "zip", "dict_itemiterator", "dict_reverseitemiterator", "odict_iterator", "itertools.zip_longest", "itertools.pairwise"].contains n && vs[0]? == some (rawInt a) then
          rule "for.unpacks-the-owned-tuple"
          updateField r 0 .none
      | _, _ => pure () : Sem Unit) (EndQ B fe fs Q) (EndX B fe fs X) s := by
    cases v <;> first
      | exact wpAny_pure ⟨m, σ, R, h⟩
      | (refine wpAny_bind (wpAny_load ho ?_)
         rw [hc, hd]
         dsimp only
         rw [if_neg (by simp [rawInt])]
         exact wpAny_pure ⟨m, σ, R, h⟩)
  unfold letOwnedTupleGo
  split
  · exact key
  · exact key
  · exact wpAny_pure ⟨m, σ, R, h⟩

/-- for over a list: `I i` holds when `i` items are done; the list stands still; the iterator is out of sight -/
theorem t_ForList {target iter body pos} {Q : Flow → LM → AH → Prop} {X} (O : Ok W A B (fe :: fs.map (·.1)) u) (H : HdOk A B)
    (h : TrV W A B fe fs (eval iter fe) m σ (fun x m₁ σ₁ => ∃ l vs, x = .ref l ∧ ∃ I : Nat → LM → AH → Prop, I 0 m₁ σ₁ ∧ (∀ i m σ, I i m σ → σ l = some (.seq "list" vs)) ∧ (∀ m σ, I vs.length m σ → Q .next m σ) ∧
      ∀ B', B.le B' → ∀ i m σ v, I i m σ → vs[i]? = some v → ∀ r, er r = v → Tr W A B' fe fs (assign target fe r >>= fun _ => execs body fe) m σ (fun f m₅ σ₅ => match f with
          | .next | .cont => I (i + 1) m₅ σ₅
          | .brk => Q .next m₅ σ₅
          | .ret v => Q (.ret v) m₅ σ₅) X) X)
    (hs : ∀ x, foldedSetIterable iter fe x = pure x := by intro _; with_unfolding_all rfl) : Tr W A B fe fs (exec (.For target iter body [] pos) fe) m σ Q X := by
  refine Tr.weaken (t_For O (h.mono (fun x m₁ σ₁ q => ?_) fun c b m' σ' x => ⟨σ', fun _ _ e => e, x⟩) hs)
  obtain ⟨l, vs, hx, I, h0, hl, hend, hturn⟩ := q
  rw [hx]
  refine op_iterList (hl 0 m₁ σ₁ h0) fun it hit => ?_
  refine ⟨fun n m σ => ∃ i σ₀, σ = upd σ₀ it (some (LIter l i)) ∧ σ₀ it = none ∧ I i m σ₀ ∧ n = vs.length - i ∧ i ≤ vs.length, vs.length, ⟨0, σ₁, rfl, hit, h0, rfl, Nat.zero_le _⟩, ?_⟩
  rintro n m σ ⟨i, σ₀, rfl, hit, hI, hn, hi⟩
  refine t_nextList H hit (hl i m σ₀ hI) ?_
  cases z : vs[i]? with
  | none =>
    have : i = vs.length := by rw [List.getElem?_eq_none_iff] at z; omega
    subst this
    exact ⟨σ₀, fun _ _ e => e, hend m σ₀ hI⟩
  | some v =>
    intro r hr
    have hlt : i < vs.length := by
      rcases Nat.lt_or_ge i vs.length with w | w
      · exact w
      · rw [List.getElem?_eq_none_iff.mpr w] at z; cases z
    refine t_letOwned (l := l) (i := i + 1) (by rw [upd_self]) ?_
    refine ((Tr.frame (Split.single (c := LIter l (i + 1)) hit) fun B' hB => hturn B' hB i m σ₀ v hI z r hr).mono (fun f m₅ σ₅ q => ?_) fun c b m₅ σ₅ q => ?_)
    · obtain ⟨τ, S, q⟩ := q
      have hn : τ it = none := (S.r it (by rw [upd_self]; simp)).1
      have es : σ₅ = upd τ it (some (LIter l (i + 1))) := by rw [S.eq]; exact joinA_single hn
      cases f with
      | next => exact ⟨vs.length - (i + 1), by omega, i + 1, τ, es, hn, q, rfl, hlt⟩
      | cont => exact ⟨vs.length - (i + 1), by omega, i + 1, τ, es, hn, q, rfl, hlt⟩
      | brk => exact ⟨τ, fun a c e => S.inl e, q⟩
      | ret v => exact ⟨τ, fun a c e => S.inl e, q⟩
    · obtain ⟨τ, S, q⟩ := q
      exact ⟨τ, fun a c e => S.inl e, q⟩
end

/-! # Lay12 -/

theorem beq_dec {α : Type} [BEq α] [LawfulBEq α] [DecidableEq α] (a b : α) : (a == b) = decide (a = b) := by by_cases h : a = b <;> simp [h]
theorem slot_bool_hash : Slot "bool" "__hash__" "int.__hash__" :=
  .of (owner := "int") (n := "__hash__") (by rw [typeLookup_type, builtinLookup_eq_fast]; kernel_rfl) (by decide +kernel) (by decide +kernel) (by decide +kernel)
    (by first | exact .inl (by decide +kernel) | exact .inr (by decide +kernel)) (by rw [isSubtype_type]; kernel_rfl)
def b2i (b : Bool) : Int := if b then 1 else 0
section
variable {prog : Program} {w : World} {A : Around} {E : Value → Shared → Prop} {s : Shared}
theorem hash_bool {b : Bool} {Q : Int → Shared → Prop} (h : Q (hashInt (b2i b)) { s with toks := s.toks + 1 }) :
    wpAny (model prog w) A (pyHash (.bool b)) Q E s := by
  unfold pyHash
  have hv : [Value.bool b].any Value.onHeap = false := rfl
  refine wpAny_bind ?_
  rw [cRoomFor, if_neg (by rw [hv]; exact Bool.false_ne_true)]; refine wpAny_pure ?_
  refine wpAny_bind (wpAny_specialOf (PySem.typeIs_bool s b) slot_bool_hash.lookup ?_)
  show wpAny _ _ (if (some (Value.builtin "int.__hash__") == some Value.none) = true then _ else _) Q E s
  rw [if_neg (by rw [beq_builtin_none]; exact Bool.false_ne_true)]
  refine wpAny_bind (wpAny_specialOf (PySem.typeIs_bool s b) slot_bool_hash.lookup ?_)
  show wpAny _ _ (callSpecialIfBoundUnlessNone? (.bool b) "__hash__" _ >>= _) Q E s
  refine wpAny_bind (wpAny_callSpecialIfBoundUnlessNone?_slot (PySem.typeIs_bool s b) slot_bool_hash
    (wpAny_call_entry slot_bool_hash (PySem.typeIs_bool s b) entry_int_hash
      (show wpAny _ _ (do ret (← mkInt (rawHash (b2i b)))) _ _ s from wpAny_ret_mkInt ?_) (by unfold argsOk; kernel_rfl)))
  have hr := rawHash_range (b2i b)
  show wpAny _ _ (if (decide (-(2 : Int) ^ 63 ≤ rawHash (b2i b)) && decide (rawHash (b2i b) < 2 ^ 63)) = true then _ else _) Q E _
  rw [if_pos (by rw [decide_eq_true hr.1, decide_eq_true hr.2]; rfl)]
  exact wpAny_pure h

theorem eqB_of {x y : Value} {b : Bool} {Q : Bool → Shared → Prop} (hf : ∀ b t, x ≠ .float b t) (hr : SeqAt.RcAt A s x y b) (hb : x = y → b = true) (h : Q b s) : wpAny (model prog w) A (eqBool x y) Q E s := by
  unfold eqBool
  refine wpAny_holding ?_
  by_cases e : x = y
  · subst e
    rw [if_pos (by simp)]
    rw [hb rfl] at h
    exact wpAny_bind (wpAny_rule (wpAny_pure h))
  · rw [if_neg (by simpa using e)]
    have step : wpAny (model prog w) A (richCompare .Eq x y >>= fun r => truthOfDropped r) Q E s := wpAny_bind (hr prog w E _ (wpAny_truthy_bool h))
    cases x <;> first | exact absurd rfl (hf _ _) | exact step | (cases y <;> exact step)
theorem rc_dk {x y : Value} {a b : DK} (hx : dk x = some a) (hy : dk y = some b) : SeqAt.RcAt A s x y (decide (a = b)) := by
  cases x with
  | int i t =>
    cases hx
    cases y with
    | int j u => cases hy; exact fun prog w E Q h => PySem.P.eq_int (by rw [beq_dec]; simpa using h)
    | bool c => cases hy; have := SeqAt.RcAt.int_bool (A := A) (s := s) i t c; intro prog w E Q h; exact this prog w E Q (by rw [beq_dec]; simpa using h)
    | str y u => cases hy; have := SeqAt.RcAt.int_str (A := A) (s := s) i t y u; intro prog w E Q h; exact this prog w E Q (by simpa using h)
    | _ => cases hy
  | bool c =>
    cases hx
    cases y with
    | int j u => cases hy; have := SeqAt.RcAt.bool_int (A := A) (s := s) c j u; intro prog w E Q h; exact this prog w E Q (by rw [beq_dec]; simpa using h)
    | bool d => cases hy; have := SeqAt.RcAt.bool_bool (A := A) (s := s) c d; cases c <;> cases d <;> exact this
    | str y u => cases hy; have := SeqAt.RcAt.bool_str (A := A) (s := s) c y u; intro prog w E Q h; exact this prog w E Q (by simpa using h)
    | _ => cases hy
  | str x t =>
    cases hx
    cases y with
    | int j u => cases hy; have := SeqAt.RcAt.str_int (A := A) (s := s) x t j u; intro prog w E Q h; exact this prog w E Q (by simpa using h)
    | bool d => cases hy; have := SeqAt.RcAt.str_bool (A := A) (s := s) x t d; intro prog w E Q h; exact this prog w E Q (by simpa using h)
    | str y u => cases hy; have := SeqAt.RcAt.str_str (A := A) (s := s) x t y u; intro prog w E Q h; exact this prog w E Q (by rw [beq_dec]; simpa using h)
    | _ => cases hy
  | _ => cases hx
theorem eqB_dk {x y : Value} {a b : DK} {Q : Bool → Shared → Prop} (hx : dk x = some a) (hy : dk y = some b) (h : Q (decide (a = b)) s) : wpAny (model prog w) A (eqBool x y) Q E s :=
  eqB_of (b := decide (a = b)) (fun b t q => by subst q; cases hx) (rc_dk hx hy) (fun e => by subst e; rw [hx] at hy; cases hy; simp) h
theorem hash_dk {x : Value} {a : DK} {Q : Int → Shared → Prop} (hx : dk x = some a) (h : Q (dkHash (hashStr w) a) { s with toks := s.toks + 1 }) : wpAny (model prog w) A (pyHash x) Q E s := by
  cases x with
  | int i t => cases hx; exact wpAny_pyHash_int h
  | bool c => cases hx; exact hash_bool h
  | str y t => cases hx; exact wpAny_pyHash_str h
  | _ => cases hx
end
/-- keys that are ints, bools or strs -/
def dkKind (prog : Program) (w : World) : KeyKind prog w DK where
  is := fun k v => dk v == some k
  hash := dkHash (hashStr w)
  inj := fun v a b h1 h2 => by rw [beq_iff_eq] at h1 h2; rw [h1] at h2; exact Option.some.inj h2
  byValue := fun k v h => by cases v <;> first | rfl | (simp [dk] at h)
  pyHash := fun hv h => hash_dk (by simpa using hv) h
  eqBool := fun hu hv h => eqB_dk (by simpa using hu) (by simpa using hv) h
  «strs» := fun k x t v h => by
    have h : some (DK.s x) = some k := by simpa [dk] using h
    cases h
    cases v <;> simp [dk, Value.isStr, beq_dec]

theorem dk_er (v : Value) : dk (er v) = dk v := by cases v <;> rfl

/-! ### dicts as lists of pairs -/
def dkIs (k : DK) (p : Value × Value) : Bool := dk p.1 == some k
def dget (l : List (Value × Value)) (k : DK) : Option Value := (l.find? (dkIs k)).map (·.2)
def dset (k : DK) (key v : Value) : List (Value × Value) → List (Value × Value)
  | [] => [(key, v)]
  | p :: r => if dkIs k p then (p.1, v) :: r else p :: dset k key v r
def ddel (k : DK) : List (Value × Value) → List (Value × Value)
  | [] => []
  | p :: r => if dkIs k p then r else p :: ddel k r
theorem All2.length {α β : Type} {R : α → β → Prop} {l : List α} {k : List β} (h : All2 R l k) : l.length = k.length := by
  induction h with
  | nil => rfl
  | cons _ _ ih => simp [ih]
section
variable {H : Str → Int} {es : List DictEntry} {l : List (Value × Value)}
theorem ent_is {e : DictEntry} {p : Value × Value} (h : EntOf H e p) (k : DK) : (dk e.key == some k) = dkIs k p := by
  unfold dkIs; rw [← h.1, dk_er]
theorem ent_find (h : All2 (EntOf H) es l) (k : DK) : (es.find? (fun e => dk e.key == some k)).map (fun e => er e.val) = dget l k := by
  unfold dget
  induction h with
  | nil => rfl
  | @cons e p es l h _ ih =>
    rw [List.find?_cons, List.find?_cons, ent_is h]
    cases q : dkIs k p with
    | true => simp [h.2.1]
    | false => exact ih
theorem ent_keys (h : All2 (EntOf H) es l) : ∀ e ∈ es, ∃ k, (dk e.key == some k) = true ∧ e.hash = dkHash H k := by
  induction h with
  | nil => intro e he; cases he
  | @cons e p es l h _ ih =>
    intro d hd
    rcases List.mem_cons.mp hd with rfl | hd
    · obtain ⟨k, h1, h2⟩ := h.2.2; exact ⟨k, by simp [h1], h2⟩
    · exact ih d hd
theorem ent_set (h : All2 (EntOf H) es l) (k : DK) {key v : Value} (hk : dk key = some k) :
    All2 (EntOf H) (match es.findIdx? (fun e => dk e.key == some k) with | some i => es.modify i (fun e => { e with val := v }) | none => es ++ [⟨dkHash H k, key, v⟩]) (dset k (er key) (er v) l) := by
  induction h with
  | nil => exact .cons ⟨rfl, rfl, k, hk, rfl⟩ .nil
  | @cons e p es l h t ih =>
    unfold dset
    rw [List.findIdx?_cons, ent_is h]
    cases q : dkIs k p with
    | true => exact .cons ⟨h.1, rfl, h.2.2⟩ t
    | false =>
      cases r : es.findIdx? (fun e => dk e.key == some k) with
      | none =>
        rw [r] at ih
        exact .cons h ih
      | some i =>
        rw [r] at ih
        exact .cons h ih
theorem ent_del (h : All2 (EntOf H) es l) (k : DK) : All2 (EntOf H) (match es.findIdx? (fun e => dk e.key == some k) with | some i => es.eraseIdx i | none => es) (ddel k l) := by
  induction h with
  | nil => exact .nil
  | @cons e p es l h t ih =>
    unfold ddel
    rw [List.findIdx?_cons, ent_is h]
    cases q : dkIs k p with
    | true => exact t
    | false =>
      cases r : es.findIdx? (fun e => dk e.key == some k) with
      | none => rw [r] at ih; exact .cons h ih
      | some i => rw [r] at ih; exact .cons h ih
theorem dset_keys (k : DK) {key v : Value} (hk : dk key = some k) : ∀ {l : List (Value × Value)}, (dset k key v l).map (fun p => dk p.1) = if (dget l k).isSome then l.map (fun p => dk p.1) else l.map (fun p => dk p.1) ++ [some k]
  | [] => by simp [dset, dget, hk]
  | p :: r => by
    have ih := dset_keys k (key := key) (v := v) hk (l := r)
    unfold dset
    cases q : dkIs k p with
    | true => simp [dget, q]
    | false =>
      have e : dget (p :: r) k = dget r k := by simp [dget, q]
      rw [e]
      simp only [Bool.false_eq_true, if_false, List.map_cons, ih]
      split <;> rfl
theorem dget_none {k : DK} (h : dget l k = none) : some k ∉ l.map (fun p => dk p.1) := fun q => by
  obtain ⟨p, hp, e⟩ := List.mem_map.mp q
  unfold dget at h
  rw [Option.map_eq_none_iff, List.find?_eq_none] at h
  exact h p hp (by simp [dkIs, e])
theorem dset_nodup {k : DK} {key v : Value} (hk : dk key = some k) (h : (l.map fun p => dk p.1).Nodup) : ((dset k key v l).map fun p => dk p.1).Nodup := by
  rw [dset_keys k hk]
  split
  · exact h
  · rename_i q
    rw [List.nodup_append]
    refine ⟨h, by simp, fun a ha b hb e => ?_⟩
    rw [List.mem_singleton.mp hb] at e
    subst e
    exact dget_none (by simpa using q) ha
theorem ddel_sub {k : DK} : ∀ {l : List (Value × Value)}, (ddel k l).Sublist l
  | [] => .slnil
  | p :: r => by
    unfold ddel
    split
    · exact List.sublist_cons_self ..
    · exact ddel_sub.cons_cons p
theorem ddel_nodup {k : DK} (h : (l.map fun p => dk p.1).Nodup) : ((ddel k l).map fun p => dk p.1).Nodup := h.sublist (ddel_sub.map _)
end

/-! # Lay13 -/

section
variable {α β : Type} {W : Wd} {A : Around} {B : Base} {fe env : Env} {fs : List (Env × LM)} {m : LM} {σ τ ρ : AH} {es : List Env} {u : Nat} {E : Value → Shared → Prop} {s : Shared}

theorem Rel.dictAt (R : Rel B fs σ s) {d : Addr} {l : List (Value × Value)} (h : σ d = some (.dict l)) : (d == sysModules) = false ∧ ∃ es n, s.heap.get? d = some (dictOf es n) ∧ All2 (EntOf B.hs) es l ∧ (l.map fun p => dk p.1).Nodup := by
  obtain ⟨_, n, z⟩ := R.at h
  exact ⟨by simpa using n, z⟩
theorem Gd.keysOf (G : Gd W B) {es : List DictEntry} {l : List (Value × Value)} (h : All2 (EntOf B.hs) es l) : KeysOf (dkKind W.prog W.w) es.toArray := fun e he => by
  obtain ⟨k, h1, h2⟩ := ent_keys h e (by simpa using he)
  exact ⟨k, h1, by rw [h2, G.hs]; rfl⟩
theorem Gd.mapOf (G : Gd W B) {h : Heap} {d : Addr} {es : List DictEntry} {n : Nat} {l : List (Value × Value)} (e : h.get? d = some (dictOf es n)) (x : All2 (EntOf B.hs) es l) :
    h.MapOf (dkKind W.prog W.w) d (fun k => (es.find? (fun e => dk e.key == some k)).map (·.val)) :=
  ⟨_, _, _, e, ⟨rfl, rfl, rfl⟩, rfl, G.keysOf x, fun k => by unfold findBy; rw [List.find?_toArray]; rfl⟩
theorem find_val {es : List DictEntry} {l : List (Value × Value)} {H : Str → Int} (x : All2 (EntOf H) es l) (k : DK) : ((es.find? (fun e => dk e.key == some k)).map (·.val)).map er = dget l k := by
  rw [← ent_find x k]; simp [Function.comp_def]

theorem op_itemDict {value slice : Expr} {d : Addr} {l : List (Value × Value)} {key v : Value} {k : DK} {Q X} (G : Gd W B) (hσ : σ d = some (.dict l)) (hk : dk key = some k) (hv : dget l k = some v) (h : Q v m σ)
    (hs : ∀ key', er key' = key → subscripted slice false (.ref d) key' = operate [.ref d, key'] (getItem (.ref d) key') := by intro _ _; with_unfolding_all rfl) :
    Op2 W A B fe fs (subscriptTail value slice) (.ref d) key m σ (ErQ Q) X := fun x y hx hy s R => by
  obtain rfl := er_ref_inv hx
  obtain ⟨ns, es, n, e, x, nd⟩ := R.dictAt hσ
  have hm := G.mapOf e x
  obtain ⟨r, hr, hre⟩ := map_er_some ((find_val x k).trans hv)
  exact tail_any hm.typeIs slot_dict_getitem.lookup (wpAny_getItem_of (k := k) (by show (dk y == some k) = true; rw [← dk_er, hy, hk]; simp) hm hr ⟨m, σ, R.toks _, by show Q (er r) m σ; rw [hre]; exact h⟩) (hs y hy)
theorem Rel.addExcN (R : Rel B fs σ s) {e : Addr} {cls : String} {h' : Heap} {tk : Nat} (hn : Heap.NewExc s.heap h' e cls) : σ e = none ∧ Rel B fs (upd σ e (some (.exc (.type cls) false false))) { s with heap := h', toks := tk } := by
  obtain ⟨⟨oc, od, oda, osl⟩, t, he, hc, hd⟩ := hn.there
  dsimp only at hc hd
  subst hc hd
  exact ⟨(R.fresh hn.new).2.1, R.addExc (s' := { s with heap := h', toks := tk }) hn.keeps rfl rfl hn.new he⟩
theorem op_itemDict_none {value slice : Expr} {d : Addr} {l : List (Value × Value)} {key : Value} {k : DK} {Q} {X : Value → Bool → LM → AH → Prop} (G : Gd W B) (hA : A.handled = none) (hσ : σ d = some (.dict l)) (hk : dk key = some k) (hv : dget l k = none) (h : X (.type "KeyError") false m σ)
    (hs : ∀ key', er key' = key → subscripted slice false (.ref d) key' = operate [.ref d, key'] (getItem (.ref d) key') := by intro _ _; with_unfolding_all rfl) :
    Op2 W A B fe fs (subscriptTail value slice) (.ref d) key m σ (ErQ Q) X := fun x y hx hy s R => by
  obtain rfl := er_ref_inv hx
  obtain ⟨ns, es, n, e, x, nd⟩ := R.dictAt hσ
  have hm := G.mapOf e x
  have hr := map_er_none ((find_val x k).trans hv)
  refine tail_any hm.typeIs slot_dict_getitem.lookup (wpAny_getItem_missing_of (k := k) (by show (dk y == some k) = true; rw [← dk_er, hy, hk]; simp) ns hA hm hr fun h' e hn => ?_) (hs y hy)
  obtain ⟨z1, z2⟩ := R.addExcN (tk := s.toks + 1) hn
  exact ⟨e, _, false, false, m, σ, rfl, z1, z2, h⟩
theorem op_inDict {d : Addr} {l : List (Value × Value)} {key : Value} {k : DK} {Q X} (G : Gd W B) (hσ : σ d = some (.dict l)) (hk : dk key = some k) (h : Q (.bool (dget l k).isSome) m σ) : Op2 W A B fe fs (compareOp .In) key (.ref d) m σ (ErQ Q) X := fun y x hy hx s R => by
  obtain rfl := er_ref_inv hx
  obtain ⟨ns, es, n, e, x, nd⟩ := R.dictAt hσ
  refine wpAny_in_of (k := k) (by show (dk y == some k) = true; rw [← dk_er, hy, hk]; simp) ns (G.mapOf e x) ⟨m, σ, R.toks _, ?_⟩
  show Q (.bool _) m σ
  rw [← find_val x k] at h; simpa using h
theorem op_notInDict {d : Addr} {l : List (Value × Value)} {key : Value} {k : DK} {Q X} (G : Gd W B) (hσ : σ d = some (.dict l)) (hk : dk key = some k) (h : Q (.bool (!(dget l k).isSome)) m σ) : Op2 W A B fe fs (compareOp .NotIn) key (.ref d) m σ (ErQ Q) X := fun y x hy hx s R => by
  obtain rfl := er_ref_inv hx
  obtain ⟨ns, es, n, e, x, nd⟩ := R.dictAt hσ
  refine wpAny_notIn_of (k := k) (by show (dk y == some k) = true; rw [← dk_er, hy, hk]; simp) ns (G.mapOf e x) ⟨m, σ, R.toks _, ?_⟩
  show Q (.bool _) m σ
  rw [← find_val x k] at h; simpa using h

/-- a dict turned in place -/
theorem Rel.turnDict (R : Rel B fs σ s) {d : Addr} {l l' : List (Value × Value)} {h' : Heap} {es' : List DictEntry} {n' t : Nat} (hσ : σ d = some (.dict l)) (hs : ∀ b, b ≠ d → h'.get? b = s.heap.get? b)
    (he : h'.get? d = some (dictOf es' n')) (hx : All2 (EntOf B.hs) es' l') (hn : (l'.map fun p => dk p.1).Nodup) : Rel B fs (upd σ d (some (.dict l'))) { s with heap := h', toks := t } :=
  R.turn (s' := { s with heap := h', toks := t }) hσ hs rfl rfl (fun hid x => ⟨x.1, es', n', he, hx, hn⟩) (fun q => q)

theorem dictSet_cell {d : Addr} {l : List (Value × Value)} {key v : Value} {k : DK} {Q : Unit → Shared → Prop} (G : Gd W B) (R : Rel B fs σ s) (hσ : σ d = some (.dict l)) (hk : dk key = some k) (hz : l.length ≤ 10000)
    (h : ∀ s', Rel B fs (upd σ d (some (.dict (dset k (er key) (er v) l)))) s' → Q () s') : wpAny (model W.prog W.w) A (dictSet d key v) Q E s := by
  obtain ⟨ns, es, n, e, x, nd⟩ := R.dictAt hσ
  have hkey : (dkKind W.prog W.w).is k key = true := by show (dk key == some k) = true; rw [hk]; simp
  have hx := ent_set x k (key := key) (v := v) hk
  have hn := dset_nodup (l := l) (key := er key) (v := er v) (by rw [dk_er]; exact hk) nd
  have hlen := All2.length x
  unfold dictSet
  refine wpAny_holding (wpAny_bind ((dkKind W.prog W.w).pyHash hkey ?_))
  unfold dictSetHashed
  refine wpAny_holding (wpAny_bind (wpAny_dictFind_of (s := { s with toks := s.toks + 1 }) hkey e rfl (G.keysOf x) ?_))
  have fi : (es.toArray.findIdx? fun e => (dkKind W.prog W.w).is k e.key) = es.findIdx? (fun e => dk e.key == some k) := by rw [List.findIdx?_toArray]; rfl
  rw [fi]
  cases hi : es.findIdx? (fun e => dk e.key == some k) with
  | some i =>
    rw [hi] at hx
    refine wpAny_bind (wpAny_rule (wpAny_bind (wpAny_updateDict (s := { s with toks := s.toks + 1 }) e rfl (wpAny_point (h _ ?_)))))
    exact R.turnDict (n' := n) hσ (fun b hb => Heap.get?_update_other _ _ (Ne.symm hb)) ((Heap.get?_update_self _ e (by rfl)).trans (by simp [Obj.mapDict, dictOf])) hx hn
  | none =>
    rw [hi] at hx
    refine wpAny_bind (wpAny_rule (wpAny_updateDictKeys (s := { s with toks := s.toks + 1 }) e rfl (h _ ?_) (by rw [sizeLine_eq]; simp; omega)))
    exact R.turnDict (n' := n + 1) hσ (fun b hb => Heap.get?_update_other _ _ (Ne.symm hb)) ((Heap.get?_update_self _ e (by rfl)).trans (by simp [Obj.mapDictKeys, dictOf, G.hs, dkKind])) hx hn
theorem op_setDict {d : Addr} {l : List (Value × Value)} {key v : Value} {k : DK} {Q : Unit → LM → AH → Prop} {X} (G : Gd W B) (hσ : σ d = some (.dict l)) (hk : dk key = some k) (hz : l.length ≤ 10000)
    (h : Q () m (upd σ d (some (.dict (dset k key v l))))) : Op3 W A B fe fs setItem (.ref d) key v m σ Q X := fun x y z hx hy hz' s R => by
  obtain rfl := er_ref_inv hx
  subst hy hz'
  obtain ⟨ns, es, n, e, x, nd⟩ := R.dictAt hσ
  have hT : s.TypeIs (.ref d) "dict" := ⟨_, e, rfl⟩
  unfold setItem
  refine wpAny_holding (wpAny_bind (wpAny_sequenceKey hT (by decide) ?_))
  refine wpAny_bind (wpAny_callSpecial?_slot (name := Str.ofString "__setitem__") hT slot_dict_setitem
    (wpAny_call_entry slot_dict_setitem hT entry_dict_setitem ?_ (args_dict_setitem _ _ _)))
  show wpAny _ _ (Builtin.Dict.notOrdered "__setitem__" ⟨[.ref d, y, z], []⟩ >>= _) _ _ s
  refine wpAny_bind (wpAny_notOrdered_dict hT ?_)
  show wpAny _ _ (dictSet d y z >>= _) _ _ s
  exact wpAny_bind (dictSet_cell G R hσ (by rw [← dk_er]; exact hk) hz fun s' R' => wpAny_pure ⟨.none, rfl, wpAny_pure ⟨m, _, R', h⟩⟩)
end

/-! # Lay14 -/

section
variable {α β : Type} {W : Wd} {A : Around} {B : Base} {fe env : Env} {fs : List (Env × LM)} {m : LM} {σ τ ρ : AH} {es : List Env} {u : Nat} {E : Value → Shared → Prop} {s : Shared}

theorem Rel.typeInst (R : Rel B fs σ s) {M : Model} {y C : Addr} {f : LM} {k : Nat} (h : σ y = some (.inst C f k)) : Looks M s.heap (typeOf (.ref y)) (.ref C) := by
  obtain ⟨hid, z, _⟩ := R.at h
  exact (Looks.ld z).andThen .now

theorem rich_inst {op : CmpOp} {x y C f : Addr} {fx fy : LM} {k k' : Nat} {Q : Value → AH → Prop} {X : Value → Bool → AH → Prop} (O : Ok W A B es u) (hx : σ x = some (.inst C fx k)) (hy : σ y = some (.inst C fy k'))
    (hs : findIn W.K (.ref C) (cmpInfo op).2.1 = some (some (.ref f))) (hf : isFn W.K (.ref f) = true)
    (h : CallW W A B fs (.ref f) [.ref x, .ref y] [] σ (fun v σ' => v ≠ .notImplemented ∧ Q v σ') X) :
    ∀ s, Rel B fs σ s → wpAny (model W.prog W.w) A (richCompare op (.ref x) (.ref y)) (CallQ B fs Q) (CallX B fs X) s := fun s R => by
  have X0 := O.g.X.keeps R.keep
  obtain ⟨hid, z⟩ := R.at hx
  obtain ⟨es', n, I, -⟩ := inst_at z
  have hb : Looks (model W.prog W.w) s.heap (typeOf (.ref y)) (.ref C) := R.typeInst hy
  have one : wpAny (model W.prog W.w) A (tryCompare (.ref x) (cmpInfo op).2.1 (.ref y)) (fun r s' => ∃ v, r = some v ∧ CallQ B fs Q v s') (CallX B fs X) s := by
    unfold tryCompare
    refine wpAny_bind (ifBound_K X0 I hs hf (wpAny_mono (h [.ref x, .ref y] [] rfl rfl s R) (fun v s' hv => ?_) fun _ _ e => e))
    obtain ⟨σ', R', n1, q⟩ := hv
    cases v <;> first | exact (n1 rfl).elim | exact wpAny_pure ⟨_, rfl, σ', R', q⟩
  unfold richCompare
  simp only [oneThing_ref]
  refine wpAny_holding (wpAny_bind (wpAny_cRoomFor O.line ?_))
  refine wpAny_bind (I.type.here (wpAny_bind (hb.here ?_)))
  split
  · rename_i q
    simp at q
  · refine wpAny_bind (wpAny_pure ?_)
    simp only [Bool.false_eq_true, if_false]
    refine wpAny_bind (wpAny_mono one (fun r s' z => ?_) fun _ _ e => e)
    obtain ⟨v, rfl, hq⟩ := z
    exact wpAny_pure hq

theorem op_cmpInst {op : CmpOp} {x y C f : Addr} {fx fy : LM} {k k' : Nat} {Q : Value → LM → AH → Prop} {X : Value → Bool → LM → AH → Prop} (O : Ok W A B es u) (hx : σ x = some (.inst C fx k)) (hy : σ y = some (.inst C fy k'))
    (h : CallW W A B ((fe, m) :: fs) (.ref f) [.ref x, .ref y] [] σ (fun v σ' => v ≠ .notImplemented ∧ Q v m σ') (fun c b σ' => X c b m σ'))
    (hs : findIn W.K (.ref C) (cmpInfo op).2.1 = some (some (.ref f))) (hf : isFn W.K (.ref f) = true) (ho : ∀ a b, compareOp op a b = richCompare op a b := by intro _ _; with_unfolding_all rfl) :
    Op2 W A B fe fs (compareOp op) (.ref x) (.ref y) m σ (ErQ Q) X := fun a b ha hb s R => by
  obtain rfl := er_ref_inv ha
  obtain rfl := er_ref_inv hb
  rw [ho]
  exact wpAny_mono (rich_inst O hx hy hs hf h s R) (fun v s' ⟨σ', R', q⟩ => ⟨m, σ', R', q⟩) (fun _ _ ⟨e, cls, tb, ctx, σ', z1, z2, z3, q⟩ => ⟨e, cls, tb, ctx, m, σ', z1, z2, z3, q⟩)

/-- `y == x` as a list's methods ask it -/
def EqB (W : Wd) (A : Around) (B : Base) (fs : List (Env × LM)) (σ : AH) (y x : Value) (b : Bool) (X : Value → Bool → AH → Prop) : Prop :=
  ∀ s, Rel B fs σ s → wpAny (model W.prog W.w) A (eqBool y x) (fun c s' => c = b ∧ Rel B fs σ s') (CallX B fs X) s
theorem eqB_inst {x y C f : Addr} {fx fy : LM} {k k' : Nat} {b : Bool} {X : Value → Bool → AH → Prop} (O : Ok W A B es u) (hx : σ x = some (.inst C fx k)) (hy : σ y = some (.inst C fy k'))
    (hs : findIn W.K (.ref C) "__eq__" = some (some (.ref f))) (hf : isFn W.K (.ref f) = true) (hb : x = y → b = true)
    (h : CallW W A B fs (.ref f) [.ref x, .ref y] [] σ (fun v σ' => v = .bool b ∧ σ' = σ) X) : EqB W A B fs σ (.ref x) (.ref y) b X := fun s R => by
  unfold eqBool
  refine wpAny_holding ?_
  by_cases e : x = y
  · subst e
    rw [if_pos (by simp)]
    exact wpAny_bind (wpAny_rule (wpAny_pure ⟨(hb rfl).symm, R⟩))
  · rw [if_neg (by simpa using e)]
    refine wpAny_bind (wpAny_mono (rich_inst (op := .Eq) O hx hy hs hf (h.mono (fun v σ' q => ⟨by rw [q.1]; simp, q⟩) fun _ _ _ x => x) s R) (fun v s' ⟨σ', R', q⟩ => ?_) (fun _ _ x => x))
    obtain ⟨q1, rfl⟩ := q
    obtain rfl := er_bool_inv q1
    exact wpAny_truthy_bool ⟨rfl, R'⟩

theorem call_remove {l : Addr} {vs : List Value} {v : Value} {j : Nat} {e : Nat → Bool} {Q : Value → AH → Prop} {X : Value → Bool → AH → Prop} (hσ : σ l = some (.seq "list" vs)) (hz : vs.length ≤ 10000) (hj : j < vs.length)
    (hit : e j = true) (hno : ∀ i, i < j → e i = false) (heq : ∀ i y, vs[i]? = some y → ∀ y' v', er y' = y → er v' = v → EqB W A.in1 B fs σ y' v' (e i) X)
    (h : Q .none (upd σ l (some (.seq "list" (vs.eraseIdx j))))) : CallW W A B fs (.builtin "list.remove") [.ref l, v] [] σ Q X := fun pos' kw' e1 e2 s R => by
  obtain ⟨x, k, rfl, hx, hk⟩ := map_er_cons e1
  obtain ⟨y, k, rfl, hy, hk⟩ := map_er_cons hk
  obtain rfl := map_er_nil hk
  obtain rfl := er_ref_inv hx
  obtain rfl := erK_nil e2
  have loop : ∀ k i : Nat, j - i = k → i ≤ j → ∀ s, Rel B fs σ s → wpAny (model W.prog W.w) A.in1 (Builtin.«list.remove.loop» ⟨[.ref l, y, rawInt i], []⟩)
      (fun fin s' => match fin with | .done f => wants (CallQ B fs Q) (CallX B fs X) (.ok f) s' | .again c' => c'.quiet = true ∧ codeAny (model W.prog W.w) A c' (wants (CallQ B fs Q) (CallX B fs X)) s') (fun e s' => wants (CallQ B fs Q) (CallX B fs X) (.error e) s') s := by
    intro k
    induction k with
    | zero =>
      intro i hk hij s R
      obtain rfl : i = j := by omega
      obtain ⟨vr, n, ho, q⟩ := R.seqAt hσ
      have hs := er_size q
      obtain ⟨r, hr, hre⟩ := er_item (i := i) (v := vs[i]) q (List.getElem?_eq_getElem hj)
      show wpAny _ _ (Builtin.List.listItems (.ref l) >>= _) _ _ _
      refine wpAny_bind (wpAny_listItems ho rfl ?_)
      have hi : vr[((i : Nat) : Int).toNat]? = some r := by simpa using hr
      rw [hi]
      refine wpAny_bind (wpAny_mono (heq i _ (List.getElem?_eq_getElem hj) r y hre hy s R) (fun c s' q' => ?_) fun _ _ e => e)
      obtain ⟨rfl, R'⟩ := q'
      rw [hit]
      obtain ⟨vr', n', ho', q'⟩ := R'.seqAt hσ
      have hs' := er_size q'
      show wpAny _ _ (updateSeq l (fun xs => xs.eraseIdxIfInBounds ((i : Nat) : Int).toNat) >>= fun _ => ret .none) _ _ _
      refine wpAny_bind (wpAny_updateSeq ho' rfl (hz := by rw [sizeLine_eq]; omega) (_hz' := Nat.le_trans (PySem.MeetsSeq.size_erased _ _) (by rw [sizeLine_eq]; omega)) (wpAny_pure ?_))
      refine ⟨_, R'.turnSeq (t := s'.toks) (vs' := vs.eraseIdx i) hσ (fun wr e => ?_), h⟩
      have hw := er_size e
      rw [← e]
      obtain ⟨wl⟩ := wr
      simp only [List.size_toArray] at hw
      simp [Array.eraseIdxIfInBounds, hw, hj, List.eraseIdx_eq_take_drop_succ, List.map_take, List.map_drop]
    | succ k ih =>
      intro i hk hij s R
      have hlt : i < vs.length := by omega
      obtain ⟨vr, n, ho, q⟩ := R.seqAt hσ
      obtain ⟨r, hr, hre⟩ := er_item (i := i) (v := vs[i]) q (List.getElem?_eq_getElem hlt)
      show wpAny _ _ (Builtin.List.listItems (.ref l) >>= _) _ _ _
      refine wpAny_bind (wpAny_listItems ho rfl ?_)
      have hi : vr[((i : Nat) : Int).toNat]? = some r := by simpa using hr
      rw [hi]
      refine wpAny_bind (wpAny_mono (heq i _ (List.getElem?_eq_getElem hlt) r y hre hy s R) (fun c s' q' => ?_) fun _ _ e => e)
      obtain ⟨rfl, R'⟩ := q'
      rw [hno i (by omega)]
      refine wpAny_pure ⟨plainId_quiet PySem.MeetsSeq.plain_remove_loop _, codeAny_builtin PySem.MeetsSeq.entry_remove_loop ?_⟩
      rw [Around.under_plainId PySem.MeetsSeq.plain_remove_loop _]
      have hc : ((i : Int) + 1) = ((i + 1 : Nat) : Int) := by push_cast; rfl
      rw [hc]
      exact ih (i + 1) (by omega) (by omega) s' R'
  obtain ⟨vr, n, ho, q⟩ := R.seqAt hσ
  refine wpAny_call (codeAny_call_builtin PySem.F.slot_list_remove.plain PySem.F.entry_list_remove (PySem.F.slot_list_remove.check _ _ _ _ _ _ _ _ ⟨_, ho, rfl⟩ (PySem.F.args_list_remove_2 _ _) ?_))
  refine wpAny_pure ⟨plainId_quiet PySem.MeetsSeq.plain_remove_loop _, codeAny_builtin PySem.MeetsSeq.entry_remove_loop ?_⟩
  rw [Around.under_plainId PySem.MeetsSeq.plain_remove_loop _]
  exact loop _ 0 rfl (Nat.zero_le _) s R
end

/-! # Lay15 -/

theorem isi_sub_bool_int : isSubtype (.type "bool") (.type "int") = pure true := by rw [isSubtype_type]; kernel_rfl
theorem isi_sub_str_int : isSubtype (.type "str") (.type "int") = pure false := by rw [isSubtype_type]; kernel_rfl
theorem isi_sub_int_bool : isSubtype (.type "int") (.type "bool") = pure false := by rw [isSubtype_type]; kernel_rfl
section
variable {α β : Type} {W : Wd} {A : Around} {B : Base} {fe env : Env} {fs : List (Env × LM)} {m : LM} {σ τ ρ : AH} {es : List Env} {u : Nat} {E : Value → Shared → Prop} {s : Shared}

theorem t_Call {func : Expr} {args : List Expr} {pos : Pos} {Q X} (h : TrV W A B fe fs (eval func env) m σ (fun f m₁ σ₁ => KeepF W.K f = true ∧ TrV W A B fe fs (callWith pos f [] (backTo pos (starEach args env)) []) m₁ σ₁ Q X) X)
    (he : eval (.Call func args [] pos) env = (do callWith pos (← eval func env) [] (backTo pos (starEach args env)) (backToKw pos (keywordEach [] env))) := by with_unfolding_all rfl) : TrV W A B fe fs (eval (.Call func args [] pos) env) m σ Q X :=
  fun _ R => Call_ (h.go R (fun f _ _ _ R₁ q => by
    have e := KeepF.raw q.1 rfl
    rw [← e] at q
    exact q.2.at R₁) (fun _ _ x => x)) he
theorem t_CallM {o : Expr} {name : Str} {apos pos : Pos} {args : List Expr} {kws : List Keyword} {pl : Sem Bool} {Q X}
    (h : TrV W A B fe fs (eval o env) m σ (fun ov m₁ σ₁ => Op1 W A B fe fs (fun ov => getMethod ov name pl) ov m₁ σ₁ (fun fx m₂ σ₂ => TrV W A B fe fs (callWith pos fx.1 fx.2 (backTo pos (starEach args env)) (backToKw pos (keywordEach kws env))) m₂ σ₂ Q X) X) X)
    (he : eval (.Call (.Attribute o name apos) args kws pos) env = (do
      let ov ← eval o env
      standAt apos.atName
      let (f, first) ← holding [ov] (getMethod ov name pl)
      callWith pos f first (backTo pos (starEach args env)) (backToKw pos (keywordEach kws env))) := by with_unfolding_all rfl) : TrV W A B fe fs (eval (.Call (.Attribute o name apos) args kws pos) env) m σ Q X :=
  fun _ R => methodCall_KW (h.go R (fun ov _ _ _ R₁ q => (q ov rfl).go R₁ (fun fx _ _ _ R₂ q => q.at R₂) (fun _ _ x => x)) (fun _ _ x => x)) he

/-! ### calls by name of the parameter -/
theorem t_kws_nil {pos : Pos} {Q X} (h : Q [] m σ) : TrL W A B fe fs (evalAll ((backToKw pos (keywordEach [] env)).map (·.2))) m σ Q X := fun _ R => kwAll_nil ⟨m, σ, R, h⟩
theorem t_kws_cons {pos p : Pos} {name : Str} {value : Expr} {rest : List Keyword} {Q : List Value → LM → AH → Prop} {X}
    (h : TrV W A B fe fs (eval value env) m σ (fun v m₁ σ₁ => TrL W A B fe fs (evalAll ((backToKw pos (keywordEach rest env)).map (·.2))) m₁ σ₁ (fun vs => Q (v :: vs)) X) X) :
    TrL W A B fe fs (evalAll ((backToKw pos (keywordEach (⟨some name, value, p⟩ :: rest) env)).map (·.2))) m σ Q X :=
  fun _ R => kwAll_cons (h.go R (fun v _ _ _ R₁ h₁ => h₁.go R₁ (fun vs m' σ' _ R₂ h₂ => ⟨m', σ', R₂, h₂⟩) (fun _ _ x => x)) (fun _ _ x => x))
theorem erK_zip : ∀ (names : List Str) (ks : List Value), erK (names.zip ks) = names.zip (ks.map er)
  | [], _ => rfl
  | _ :: _, [] => rfl
  | n :: ns, k :: ks => by
    have := erK_zip ns ks
    simp only [List.zip_cons_cons, List.map_cons, erK] at this ⊢
    rw [this]
theorem t_callWithK {pos : Pos} {f : Value} {first : List Value} {e : Expr} {rest : List Expr} {kws : List Keyword} {names : List Str} {Q X} (O : Ok W A B es u) (hk : KeepF W.K f = true)
    (h : TrL W A B fe fs (spliced (backTo pos (starEach (e :: rest) env))) m σ (fun vs m' σ' => TrL W A B fe fs (evalAll ((backToKw pos (keywordEach kws env)).map (·.2))) m' σ' (fun ks m' σ' =>
      CallW W A B ((fe, m') :: fs) f (first.map er ++ vs) (names.zip ks) σ' (fun v σ'' => Q v m' σ'') (fun c b σ'' => X c b m' σ'')) X) X)
    (hn : (backToKw pos (keywordEach kws env)).filterMap (·.1) = names := by with_unfolding_all rfl) (hall : (backToKw pos (keywordEach kws env)).all (·.1.isSome) = true := by with_unfolding_all rfl)
    (hplain : ((backTo pos (starEach (e :: rest) env)).any (·.1) || (backToKw pos (keywordEach kws env)).any (·.1.isNone)) = false := by with_unfolding_all rfl)
    (he : starEach (e :: rest) env = (false, eval e env) :: starEach rest env := by with_unfolding_all rfl) :
    TrV W A B fe fs (callWith pos f first (backTo pos (starEach (e :: rest) env)) (backToKw pos (keywordEach kws env))) m σ Q X := fun _ R => by
  refine callWith_of (P := W.K.In) hplain (keepF hk) (evalArgs_kw2 hall (h.go R (fun vs _ _ _ R₁ q => q.go R₁ (fun ks m' σ' s' R' q => ?_) (fun _ _ x => x)) (fun _ _ x => x)) he)
  rw [hn]
  refine ⟨O.g.X.keeps R'.keep, (t_call (Q := Q) (X := X) (pos := first ++ vs) (kw := names.zip ks) ?_).at R'⟩
  rw [erK_zip, List.map_append]; exact q
theorem t_callWithK0 {pos : Pos} {f : Value} {first : List Value} {kws : List Keyword} {names : List Str} {Q X} (O : Ok W A B es u) (hk : KeepF W.K f = true)
    (h : TrL W A B fe fs (evalAll ((backToKw pos (keywordEach kws env)).map (·.2))) m σ (fun ks m' σ' =>
      CallW W A B ((fe, m') :: fs) f (first.map er) (names.zip ks) σ' (fun v σ'' => Q v m' σ'') (fun c b σ'' => X c b m' σ'')) X)
    (hn : (backToKw pos (keywordEach kws env)).filterMap (·.1) = names := by with_unfolding_all rfl) (hall : (backToKw pos (keywordEach kws env)).all (·.1.isSome) = true := by with_unfolding_all rfl)
    (hplain : ((backTo pos (starEach [] env)).any (·.1) || (backToKw pos (keywordEach kws env)).any (·.1.isNone)) = false := by with_unfolding_all rfl) :
    TrV W A B fe fs (callWith pos f first (backTo pos (starEach [] env)) (backToKw pos (keywordEach kws env))) m σ Q X := fun _ R => by
  refine callWith_of (P := W.K.In) hplain (keepF hk) (evalArgs_kw2_nil hall (h.go R (fun ks m' σ' s' R' q => ?_) (fun _ _ x => x)))
  rw [hn]
  refine ⟨O.g.X.keeps R'.keep, (t_call (Q := Q) (X := X) (pos := first ++ []) (kw := names.zip ks) ?_).at R'⟩
  rw [erK_zip, List.append_nil]; exact q
theorem t_CallK {func : Expr} {args : List Expr} {kws : List Keyword} {pos : Pos} {Q X} (h : TrV W A B fe fs (eval func env) m σ (fun f m₁ σ₁ => KeepF W.K f = true ∧ TrV W A B fe fs (callWith pos f [] (backTo pos (starEach args env)) (backToKw pos (keywordEach kws env))) m₁ σ₁ Q X) X)
    (he : eval (.Call func args kws pos) env = (do callWith pos (← eval func env) [] (backTo pos (starEach args env)) (backToKw pos (keywordEach kws env))) := by with_unfolding_all rfl) : TrV W A B fe fs (eval (.Call func args kws pos) env) m σ Q X :=
  fun _ R => by
    rw [he]
    exact wpAny_bind (h.go R (fun f _ _ _ R₁ q => by
      have e := KeepF.raw q.1 rfl
      rw [← e] at q
      exact q.2.at R₁) (fun _ _ x => x))

/-! ### two comparisons in a row -/
theorem t_isChain2 {l r₁ r₂ : Expr} {op₁ op₂ : CmpOp} {pos : Pos} {whole} {Q : Bool → LM → AH → Prop} {X}
    (h : TrV W A B fe fs (eval l env) m σ (fun a m₁ σ₁ => TrV W A B fe fs (eval r₁ env) m₁ σ₁ (fun b m₂ σ₂ => Op2 W A B fe fs (compareOp op₁) a b m₂ σ₂ (ErQ fun c m₃ σ₃ => Op1 W A B fe fs truthy c m₃ σ₃ (fun t m₄ σ₄ =>
      if t = true then TrV W A B fe fs (eval r₂ env) m₄ σ₄ (fun d m₅ σ₅ => Op2 W A B fe fs (compareOp op₂) b d m₅ σ₅ (ErQ fun c m₆ σ₆ => Op1 W A B fe fs truthy c m₆ σ₆ Q X) X) X else Q false m₄ σ₄) X) X) X) X)
    (hm : lastMarks [op₁, op₂] [r₁, r₂] = false := by with_unfolding_all rfl) : Tr W A B fe fs (isTrue (.Compare l [op₁, op₂] [r₁, r₂] pos) env whole) m σ Q X :=
  fun _ R => by
    refine isTrue_chain (ops := []) (rs := []) (h.go R (fun a _ _ _ R₁ h₁ => ?_) (fun _ _ x => x)) hm
    refine test_link (h₁.go R₁ (fun b _ _ _ R₂ h₂ => ?_) (fun _ _ x => x))
    refine (h₂ a b rfl rfl).go R₂ (fun c _ _ _ R₃ h₃ => ?_) (fun _ _ x => x)
    refine (h₃ c rfl).go R₃ (fun t m₄ σ₄ _ R₄ h₄ => ?_) (fun _ _ x => x)
    cases t with
    | false =>
      rw [if_neg (by decide)] at h₄
      exact ⟨m₄, σ₄, R₄, h₄⟩
    | true =>
      rw [if_pos rfl] at h₄
      rw [if_pos rfl]
      refine test_last (h₄.go R₄ (fun d _ _ _ R₅ h₅ => ?_) (fun _ _ x => x))
      exact (h₅ b d rfl rfl).go R₅ (fun c _ _ _ R₆ h₆ => (h₆ c rfl).at R₆) (fun _ _ x => x)

/-! ### isinstance -/
theorem call_isiInt {i : Int} {Q : Value → AH → Prop} {X} (h : Q (.bool true) σ) : CallW W A B fs (.builtin "isinstance") [.int i 0, .type "int"] [] σ Q X := fun pos' kw' e1 e2 s R => by
  obtain ⟨x, k, rfl, hx, hk⟩ := map_er_cons e1
  obtain ⟨y, k, rfl, hy, hk⟩ := map_er_cons hk
  obtain rfl := map_er_nil hk
  obtain ⟨t, rfl⟩ := er_int_inv hx
  obtain rfl := er_type_inv hy
  obtain rfl := erK_nil e2
  exact call_isinstance_yes (PySem.typeIs_int s i t) PySem.F.isi_meta_int PySem.F.isi_self_int ⟨σ, R, h⟩
theorem call_isiBool {b : Bool} {T : String} {Q : Value → AH → Prop} {X} (hm : typeOf (.type T) = pure (.type "type")) (hT : isSubtype (.type "bool") (.type T) = pure true) (h : Q (.bool true) σ) : CallW W A B fs (.builtin "isinstance") [.bool b, .type T] [] σ Q X := fun pos' kw' e1 e2 s R => by
  obtain ⟨x, k, rfl, hx, hk⟩ := map_er_cons e1
  obtain ⟨y, k, rfl, hy, hk⟩ := map_er_cons hk
  obtain rfl := map_er_nil hk
  obtain rfl := er_bool_inv hx
  obtain rfl := er_type_inv hy
  obtain rfl := erK_nil e2
  exact call_isinstance_yes (PySem.typeIs_bool s b) hm hT ⟨σ, R, h⟩
theorem call_isiStr {x : Str} {Q : Value → AH → Prop} {X} (h : Q (.bool false) σ) : CallW W A B fs (.builtin "isinstance") [.str x 0, .type "int"] [] σ Q X := fun pos' kw' e1 e2 s R => by
  obtain ⟨x, k, rfl, hx, hk⟩ := map_er_cons e1
  obtain ⟨y, k, rfl, hy, hk⟩ := map_er_cons hk
  obtain rfl := map_er_nil hk
  obtain ⟨t, rfl⟩ := er_str_inv hx
  obtain rfl := er_type_inv hy
  obtain rfl := erK_nil e2
  exact PySem.call_isinstance (PySem.isinstance_false_str rfl PySem.F.isi_meta_int isi_sub_str_int) ⟨σ, R.toks _, h⟩
theorem call_isiIntBool {i : Int} {Q : Value → AH → Prop} {X} (h : Q (.bool false) σ) : CallW W A B fs (.builtin "isinstance") [.int i 0, .type "bool"] [] σ Q X := fun pos' kw' e1 e2 s R => by
  obtain ⟨x, k, rfl, hx, hk⟩ := map_er_cons e1
  obtain ⟨y, k, rfl, hy, hk⟩ := map_er_cons hk
  obtain rfl := map_er_nil hk
  obtain ⟨t, rfl⟩ := er_int_inv hx
  obtain rfl := er_type_inv hy
  obtain rfl := erK_nil e2
  exact PySem.call_isinstance (PySem.isinstance_false_int rfl PySem.F.isi_meta_bool isi_sub_int_bool) ⟨σ, R.toks _, h⟩
theorem call_isiInst {x C : Addr} {f : LM} {n : Nat} {Q : Value → AH → Prop} {X} (O : Ok W A B es u) (hσ : σ x = some (.inst C f n)) (hC : isIn W.K (.ref C) C = true) (h : Q (.bool true) σ) : CallW W A B fs (.builtin "isinstance") [.ref x, .ref C] [] σ Q X := fun pos' kw' e1 e2 s R => by
  obtain ⟨x, k, rfl, hx, hk⟩ := map_er_cons e1
  obtain ⟨y, k, rfl, hy, hk⟩ := map_er_cons hk
  obtain rfl := map_er_nil hk
  obtain rfl := er_ref_inv hx
  obtain rfl := er_ref_inv hy
  obtain rfl := erK_nil e2
  exact isi_call (O.g.X.keeps R.keep) (fun M => R.typeInst hσ) hC (by intro e; cases e) ⟨σ, R, h⟩
end

/-! # Lay16 -/

theorem keyPart_dk {v : Value} {k : DK} (h : dk v = some k) : (keyPart v).isSome = true := by cases v <;> first | rfl | cases h
section
variable {α β : Type} {W : Wd} {A : Around} {B : Base} {fe env : Env} {fs : List (Env × LM)} {m : LM} {σ τ ρ : AH} {es : List Env} {u : Nat} {E : Value → Shared → Prop} {s : Shared}

/-! ### items taken out -/
theorem find_of_findIdx {es : List DictEntry} {p : DictEntry → Bool} {i : Nat} (h : es.findIdx? p = some i) : ∃ e, es[i]? = some e ∧ es.find? p = some e := by
  induction es generalizing i with
  | nil => simp at h
  | cons x r ih =>
    rw [List.findIdx?_cons] at h
    rw [List.find?_cons]
    cases q : p x with
    | true => rw [q] at h; cases h; exact ⟨x, rfl, rfl⟩
    | false =>
      rw [q] at h
      cases z : r.findIdx? p with
      | none => rw [z] at h; simp at h
      | some j =>
        rw [z] at h
        obtain ⟨e, h1, h2⟩ := ih z
        simp only [Bool.false_eq_true, if_false, Option.map_some, Option.some.injEq] at h
        subst h
        exact ⟨e, by simpa using h1, h2⟩
theorem find_none_of_findIdx {es : List DictEntry} {p : DictEntry → Bool} (h : es.findIdx? p = none) : es.find? p = none := by
  rw [List.find?_eq_none]
  intro e he
  simpa using List.findIdx?_eq_none_iff.mp h e he
theorem takeOut_cell {d : Addr} {l : List (Value × Value)} {key : Value} {k : DK} {Q : Option DictEntry → Shared → Prop} (G : Gd W B) (R : Rel B fs σ s) (hσ : σ d = some (.dict l)) (hk : dk key = some k) (hz : l.length ≤ 10000)
    (h0 : dget l k = none → ∀ s', Rel B fs σ s' → s'.heap = s.heap → Q none s')
    (h1 : ∀ v e s', dget l k = some v → er e.val = v → Rel B fs (upd σ d (some (.dict (ddel k l)))) s' → Q (some e) s') : wpAny (model W.prog W.w) A (Builtin.Dict.takeOut d key) Q E s := by
  obtain ⟨ns, es, n, e, x, nd⟩ := R.dictAt hσ
  have hkey : (dkKind W.prog W.w).is k key = true := by show (dk key == some k) = true; rw [hk]; simp
  have hx := ent_del x k
  have hn := ddel_nodup (k := k) (l := l) nd
  have hlen := All2.length x
  unfold Builtin.Dict.takeOut
  refine wpAny_holding (wpAny_bind ((dkKind W.prog W.w).pyHash hkey ?_))
  refine wpAny_bind (wpAny_dictFind_of (s := { s with toks := s.toks + 1 }) hkey e rfl (G.keysOf x) ?_)
  have fi : (es.toArray.findIdx? fun e => (dkKind W.prog W.w).is k e.key) = es.findIdx? (fun e => dk e.key == some k) := by rw [List.findIdx?_toArray]; rfl
  rw [fi]
  have fv := find_val x k
  cases hi : es.findIdx? (fun e => dk e.key == some k) with
  | none =>
    refine wpAny_pure (h0 ?_ _ (R.toks _) rfl)
    rw [find_none_of_findIdx hi] at fv
    exact fv.symm
  | some i =>
    rw [hi] at hx
    obtain ⟨d1, hd1, hd2⟩ := find_of_findIdx hi
    rw [hd2] at fv
    refine wpAny_bind (wpAny_dictEntries (s := { s with toks := s.toks + 1 }) e rfl ?_)
    have he' : es.toArray[i]? = some d1 := by simpa using hd1
    rw [he']
    refine wpAny_bind (wpAny_updateDictKeys (hz := by rw [sizeLine_eq]; simp; omega) (s := { s with toks := s.toks + 1 }) e rfl (wpAny_pure (h1 _ d1 _ fv.symm rfl ?_)))
    exact R.turnDict (n' := n + 1) hσ (fun b hb => Heap.get?_update_other _ _ (Ne.symm hb)) ((Heap.get?_update_self _ e (by rfl)).trans (by simp [Obj.mapDictKeys, dictOf])) hx hn

theorem Rel.dictTy (R : Rel B fs σ s) {d : Addr} {l : List (Value × Value)} (hσ : σ d = some (.dict l)) : s.TypeIs (.ref d) "dict" := by
  obtain ⟨ns, es, n, e, x, nd⟩ := R.dictAt hσ
  exact ⟨_, e, rfl⟩
theorem call_dictPop {d : Addr} {l : List (Value × Value)} {key v : Value} {k : DK} {Q : Value → AH → Prop} {X} (G : Gd W B) (hσ : σ d = some (.dict l)) (hk : dk key = some k) (hz : l.length ≤ 10000) (hv : dget l k = some v)
    (h : Q v (upd σ d (some (.dict (ddel k l))))) : CallW W A B fs (.builtin "dict.pop") [.ref d, key] [] σ Q X := fun pos' kw' e1 e2 s R => by
  obtain ⟨x, r, rfl, hx, hr⟩ := map_er_cons e1
  obtain ⟨y, r, rfl, hy, hr⟩ := map_er_cons hr
  obtain rfl := map_er_nil hr
  obtain rfl := er_ref_inv hx
  obtain rfl := erK_nil e2
  have hk' : dk y = some k := by rw [← dk_er, hy, hk]
  refine wpAny_call_entry PySem.F.slot_dict_pop (R.dictTy hσ) PySem.F.entry_dict_pop ?_ (PySem.F.args_dict_pop_2 _ _)
  unfold Builtin.«dict.pop»
  refine wpAny_bind ?_
  unfold Builtin.Dict.keyAndDefault
  refine wpAny_bind (wpAny_notOrdered_dict (R.dictTy hσ) ?_)
  show wpAny _ _ (pure (d, y, none)) _ _ s
  refine wpAny_pure ?_
  simp only [keyPart_dk hk', if_true]
  refine wpAny_bind (wpAny_pure ?_)
  simp only [Bool.false_eq_true, if_false]
  refine wpAny_bind (takeOut_cell G R hσ hk' hz (fun hn => by rw [hn] at hv; cases hv) fun v' e s' hv' he R' => ?_)
  rw [hv] at hv'; cases hv'
  simp only [Option.isNone_some, Bool.false_eq_true, if_false]
  exact wpAny_bind (wpAny_letGo (wpAny_pure ⟨e.val, rfl, _, R', by rw [he]; exact h⟩))
theorem call_dictPop_none {d : Addr} {l : List (Value × Value)} {key : Value} {k : DK} {Q : Value → AH → Prop} {X : Value → Bool → AH → Prop} (G : Gd W B) (hA : A.handled = none) (hσ : σ d = some (.dict l)) (hk : dk key = some k) (hz : l.length ≤ 10000) (hv : dget l k = none)
    (h : X (.type "KeyError") false σ) : CallW W A B fs (.builtin "dict.pop") [.ref d, key] [] σ Q X := fun pos' kw' e1 e2 s R => by
  obtain ⟨x, r, rfl, hx, hr⟩ := map_er_cons e1
  obtain ⟨y, r, rfl, hy, hr⟩ := map_er_cons hr
  obtain rfl := map_er_nil hr
  obtain rfl := er_ref_inv hx
  obtain rfl := erK_nil e2
  have hk' : dk y = some k := by rw [← dk_er, hy, hk]
  refine wpAny_call_entry PySem.F.slot_dict_pop (R.dictTy hσ) PySem.F.entry_dict_pop ?_ (PySem.F.args_dict_pop_2 _ _)
  unfold Builtin.«dict.pop»
  refine wpAny_bind ?_
  unfold Builtin.Dict.keyAndDefault
  refine wpAny_bind (wpAny_notOrdered_dict (R.dictTy hσ) ?_)
  show wpAny _ _ (pure (d, y, none)) _ _ s
  refine wpAny_pure ?_
  simp only [keyPart_dk hk', if_true]
  refine wpAny_bind (wpAny_pure ?_)
  simp only [Bool.false_eq_true, if_false]
  refine wpAny_bind (takeOut_cell G R hσ hk' hz (fun _ s' R' _ => ?_) fun v' e s' hv' he R' => by rw [hv] at hv'; cases hv')
  simp only [Option.isNone_none, if_true]
  refine wpAny_bind (wpAny_missedRemoval_other (R.dictAt hσ).1 ?_)
  exact wpAny_bind (wpAny_rule (wpAny_raise_newExc (A := A.in1) plainExc_KeyError hA fun h' e hn => by
    obtain ⟨z1, z2⟩ := R'.addExcN (tk := s'.toks) hn
    exact ⟨e, _, false, false, σ, rfl, z1, z2, h⟩))
theorem op_delDict {d : Addr} {l : List (Value × Value)} {key v : Value} {k : DK} {Q : Unit → LM → AH → Prop} {X} (G : Gd W B) (hσ : σ d = some (.dict l)) (hk : dk key = some k) (hz : l.length ≤ 10000) (hv : dget l k = some v)
    (h : Q () m (upd σ d (some (.dict (ddel k l))))) : Op2 W A B fe fs delItem (.ref d) key m σ Q X := fun x y hx hy s R => by
  obtain rfl := er_ref_inv hx
  have hk' : dk y = some k := by rw [← dk_er, hy, hk]
  have hT := R.dictTy hσ
  unfold delItem
  refine wpAny_holding (wpAny_bind (wpAny_sequenceKey hT (by decide) ?_))
  refine wpAny_bind (wpAny_callSpecial?_slot (name := Str.ofString "__delitem__") hT PySem.F.slot_dict_delitem
    (wpAny_call_entry PySem.F.slot_dict_delitem hT PySem.F.entry_dict_delitem ?_ (PySem.F.args_dict_delitem_2 _ _)))
  unfold Builtin.«dict.__delitem__»
  refine wpAny_bind ?_
  unfold Builtin.Dict.dictSlotArgs
  refine wpAny_bind (wpAny_notOrdered_dict hT ?_)
  show wpAny _ _ (pure (Value.ref d, y)) _ _ s
  refine wpAny_pure ?_
  show wpAny _ _ (Builtin.Dict.takeOut d y >>= _) _ _ s
  refine wpAny_bind (takeOut_cell G R hσ hk' hz (fun hn => by rw [hn] at hv; cases hv) fun v' e s' hv' he R' => ?_)
  exact wpAny_bind (wpAny_letGo (wpAny_pure ⟨.none, rfl, wpAny_pure ⟨m, _, R', h⟩⟩))
theorem t_DeleteSub {o i : Expr} {dpos pos : Pos} {Q : Flow → LM → AH → Prop} {X}
    (h : TrV W A B fe fs (eval o env) m σ (fun ov m₁ σ₁ => TrV W A B fe fs (eval i env) m₁ σ₁ (fun iv m₂ σ₂ => Op2 W A B fe fs delItem ov iv m₂ σ₂ (fun _ => Q .next) X) X) X) :
    Tr W A B fe fs (exec (.Delete [.Subscript o i dpos] pos) env) m σ Q X :=
  fun _ R => wpAny_Delete (wpAny_deleteEach_cons (wpAny_delete_Subscript (h.go R (fun a _ _ _ R₁ h₁ => h₁.go R₁ (fun b _ _ _ R₂ h₂ => (h₂ a b rfl rfl).go R₂ (fun _ m' σ' _ R' q => wpAny_deleteEach_nil ⟨m', σ', R', q⟩) (fun _ _ x => x)) (fun _ _ x => x)) (fun _ _ x => x))))

/-! ### len, get, displays -/
theorem pairs_of {H : Str → Int} {es : List DictEntry} {l : List (Value × Value)} {prog : Program} {w : World} (h : All2 (EntOf H) es l) (nd : (l.map fun p => dk p.1).Nodup) :
    ∃ kvs : List (DK × Value), Pairs (dkKind prog w) es kvs ∧ kvs.length = l.length ∧ (kvs.map fun p => some p.1) = l.map fun p => dk p.1 := by
  induction h with
  | nil => exact ⟨[], .nil, rfl, rfl⟩
  | @cons e p es l h _ ih =>
    rw [List.map_cons, List.nodup_cons] at nd
    obtain ⟨kvs, h1, h2, h3⟩ := ih nd.2
    obtain ⟨k, hk, _⟩ := h.2.2
    have e1 : dk p.1 = some k := by rw [← h.1, dk_er, hk]
    exact ⟨(k, e.val) :: kvs, .cons (by show (dk e.key == some k) = true; rw [hk]; simp) rfl h1, by simp [h2], by simp [h3, e1]⟩
theorem nodup_some {α : Type} {l : List α} (h : (l.map some).Nodup) : l.Nodup := by
  induction l with
  | nil => exact List.nodup_nil
  | cons a l ih =>
    rw [List.map_cons, List.nodup_cons] at h
    rw [List.nodup_cons]
    exact ⟨fun q => h.1 (List.mem_map.mpr ⟨a, q, rfl⟩), ih h.2⟩
theorem Gd.dictOf (G : Gd W B) (R : Rel B fs σ s) {d : Addr} {l : List (Value × Value)} (hσ : σ d = some (.dict l)) : ∃ kvs : List (DK × Value), s.heap.DictOf (dkKind W.prog W.w) d kvs ∧ kvs.length = l.length := by
  obtain ⟨ns, es, n, e, x, nd⟩ := R.dictAt hσ
  obtain ⟨kvs, h1, h2, h3⟩ := pairs_of (prog := W.prog) (w := W.w) x nd
  refine ⟨kvs, ⟨_, _, _, e, ⟨rfl, rfl, rfl⟩, rfl, G.keysOf x, h1, nodup_some ?_⟩, h2⟩
  rw [List.map_map]
  have : (kvs.map (some ∘ fun x => x.1)) = kvs.map fun p => some p.1 := rfl
  rw [this, h3]; exact nd
theorem call_lenDict {d : Addr} {l : List (Value × Value)} {Q : Value → AH → Prop} {X} (G : Gd W B) (hσ : σ d = some (.dict l)) (hz : l.length ≤ 100000) (h : Q (.int l.length 0) σ) : CallW W A B fs (.builtin "len") [.ref d] [] σ Q X := fun pos' kw' e1 e2 s R => by
  obtain ⟨x, r, rfl, hx, hr⟩ := map_er_cons e1
  obtain rfl := map_er_nil hr
  obtain rfl := er_ref_inv hx
  obtain rfl := erK_nil e2
  obtain ⟨kvs, hd, hl⟩ := G.dictOf R hσ
  exact call_len_dict (R.dictAt hσ).1 hd (by omega) ⟨σ, (R.toks _), by show Q (.int _ 0) σ; rw [hl]; exact h⟩
theorem op_methDict {d : Addr} {l : List (Value × Value)} {name : Str} {id : String} {pl : Sem Bool} {Q : Value × List Value → LM → AH → Prop} {X} (slot : Slot "dict" name id) (hty : typeOf (.builtin id) = pure (.type "method_descriptor")) (hσ : σ d = some (.dict l)) (h : Q (.builtin id, [.ref d]) m σ) :
    Op1 W A B fe fs (fun o => getMethod o name pl) (.ref d) m σ Q X := fun o ho s R => by
  obtain rfl := er_ref_inv ho
  obtain ⟨ns, es, n, e, x, nd⟩ := R.dictAt hσ
  exact getMethod_builtin (R.dictTy hσ) PySem.F.plainAttrs_dict slot hty (fun a q => by cases q; exact ⟨_, e, rfl⟩) ⟨m, σ, R, h⟩

theorem Gd.notSys (G : Gd W B) (R : Rel B fs σ s) : s.heap.objs.size ≠ sysModules := by
  obtain ⟨o, _, _, ho, _⟩ := G.T.g
  have h3 := Heap.lt_size (R.keep _ _ ho)
  intro e
  rw [e] at h3
  exact absurd h3 (by decide)
def dsetV (key v : Value) (l : List (Value × Value)) : List (Value × Value) := match dk key with
  | some k => dset k key v l
  | none => l
theorem storeAll_cell {d : Addr} (G : Gd W B) {Q : PUnit → Shared → Prop} : ∀ (vs : List (Value × Value)) (l : List (Value × Value)) (σ : AH) (s : Shared), Rel B fs σ s → σ d = some (.dict l) → l.length + vs.length ≤ 10000 → (∀ p ∈ vs, (dk p.1).isSome = true) →
    (∀ s', Rel B fs (upd σ d (some (.dict (vs.foldl (fun l p => dsetV (er p.1) (er p.2) l) l)))) s' → Q .unit s') → wpAny (model W.prog W.w) A (storeAll d vs) Q E s
  | [], l, σ, s, R, hσ, _, _, h => wpAny_pure (h s (by rw [List.foldl_nil, ← hσ, upd_same]; exact R))
  | p :: r, l, σ, s, R, hσ, hz, hk, h => by
    obtain ⟨k, hk1⟩ := Option.isSome_iff_exists.mp (hk p (.head _))
    rw [List.length_cons] at hz
    unfold storeAll
    rw [List.forIn_cons]
    refine wpAny_bind (wpAny_bind (dictSet_cell G R hσ hk1 (by omega) fun s' R' => wpAny_pure ?_))
    have e1 : dsetV (er p.1) (er p.2) l = dset k (er p.1) (er p.2) l := by unfold dsetV; rw [dk_er, hk1]
    have hl : (dset k (er p.1) (er p.2) l).length ≤ l.length + 1 := by
      have : ∀ l : List (Value × Value), (dset k (er p.1) (er p.2) l).length ≤ l.length + 1 := fun l => by
        induction l with
        | nil => simp [dset]
        | cons a l ih => unfold dset; split <;> simp <;> omega
      exact this l
    refine storeAll_cell G r (dset k (er p.1) (er p.2) l) _ s' R' (by rw [upd_self]) (by omega) (fun q hq => hk q (.tail _ hq)) fun s'' R'' => h s'' ?_
    rw [List.foldl_cons, e1]
    rw [upd_upd] at R''
    exact R''
abbrev erP (vs : List (Value × Value)) : List (Value × Value) := vs.map fun p => (er p.1, er p.2)
theorem t_pairs_nil {Q : List (Value × Value) → LM → AH → Prop} {X} (h : Q [] m σ) : Tr W A B fe fs (evalPairs []) m σ (fun vs => Q (erP vs)) X := fun _ R => wpAny_pure ⟨m, σ, R, h⟩
theorem t_pairs_cons {k v : Expr} {ks : List (Option Expr)} {vs : List Expr} {pos : Pos} {Q : List (Value × Value) → LM → AH → Prop} {X}
    (h : TrV W A B fe fs (eval k env) m σ (fun a m₁ σ₁ => TrV W A B fe fs (eval v env) m₁ σ₁ (fun b m₂ σ₂ => Tr W A B fe fs (evalPairs (pairTrees ks vs env pos)) m₂ σ₂ (fun r => Q ((a, b) :: erP r)) X) X) X) :
    Tr W A B fe fs (evalPairs (pairTrees (some k :: ks) (v :: vs) env pos)) m σ (fun vs => Q (erP vs)) X := fun _ R => by
  show wpAny _ _ (evalPairs ((eval k env, do let x ← eval v env; standAt pos; pure x) :: pairTrees ks vs env pos)) _ _ _
  refine wpAny_bind (h.go R (fun a _ _ _ R₁ h₁ => ?_) (fun _ _ x => x))
  refine wpAny_bind (wpAny_holding (wpAny_bind (h₁.go R₁ (fun b _ _ _ R₂ h₂ => ?_) (fun _ _ x => x))))
  refine wpAny_bind (wpAny_standAt (wpAny_pure (wpAny_bind (wpAny_holding (h₂.go R₂ (fun r m' σ' _ R₃ h₃ => ?_) (fun _ _ x => x))))))
  exact wpAny_pure ⟨m', σ', R₃, h₃⟩
theorem t_Dict {keys : List (Option Expr)} {values : List Expr} {pos : Pos} {Q X} (O : Ok W A B es u)
    (h : ∀ d, σ d = none → Tr W A B fe fs (evalPairs (pairTrees keys values env pos)) m (upd σ d (some (.dict []))) (fun vs m₁ σ₁ => (fun ws m₁ σ₁ => σ₁ d = some (.dict []) ∧ (ws.all fun p => (dk p.1).isSome) = true ∧ ws.length ≤ 1000 ∧
      Q (.ref d) m₁ (upd σ₁ d (some (.dict (ws.foldl (fun l p => dsetV p.1 p.2 l) []))))) (erP vs) m₁ σ₁) X)
    (hall : keys.all (·.isSome) = true := by with_unfolding_all rfl) (hl : keys.length = values.length := by with_unfolding_all rfl) (h0 : keys ≠ [] := by simp) (hlen : keys.length ≤ 15 := by decide) : TrV W A B fe fs (eval (.Dict keys values pos) env) m σ Q X := fun s R => by
  have fr := Heap.get?_none_of_le (h := s.heap) (Nat.le_refl s.heap.objs.size)
  have R₁ := R.add (s' := { s with heap := s.heap.push { cls := .type "dict", data := .dict #[] } }) (hid := 0) (c := .dict []) (fun b o e => Heap.get?_push_of_some _ e) rfl rfl fr (fun q => by cases q) ⟨O.g.notSys R, [], 0, Heap.get?_push_size _ rfl, .nil, List.nodup_nil⟩
  refine wpAny_Dict_any hall hl h0 hlen ((h _ (R.fresh fr).2.1).go R₁ (fun vs m' σ' s' R' q => ?_) (fun _ _ x => x))
  obtain ⟨q1, q2, q3, q4⟩ := q
  refine storeAll_cell O.g vs [] σ' s' R' q1 (by simp at q3 ⊢; omega) (fun p hp => ?_) fun s'' R'' => ⟨m', _, R'', ?_⟩
  · have := List.all_eq_true.mp q2 (er p.1, er p.2) (List.mem_map.mpr ⟨p, hp, rfl⟩)
    rwa [dk_er] at this
  · have e : ∀ (vs l : List (Value × Value)), vs.foldl (fun l p => dsetV (er p.1) (er p.2) l) l = (erP vs).foldl (fun l p => dsetV p.1 p.2 l) l := fun vs => by
      induction vs with
      | nil => intro l; rfl
      | cons a vs ih => intro l; exact ih _
    rw [e]; exact q4
end

/-! # Lay17 -/

section
variable {α β : Type} {W : Wd} {A : Around} {B : Base} {fe env : Env} {fs : List (Env × LM)} {m : LM} {σ τ ρ : AH} {es : List Env} {u : Nat} {E : Value → Shared → Prop} {s : Shared}

/-! ### new instances -/
theorem under_make (A : Around) (C : Addr) (rest : List Value) (kw : List (Str × Value)) : A.under (.builtin "type.__call__" ⟨.ref C :: rest, kw⟩) = { A with depth := A.depth + 1, units := A.units + 1 } := by
  obtain ⟨hd, d, fr, gs, u⟩ := A
  have h1 : (Code.builtin "type.__call__" ⟨.ref C :: rest, kw⟩).weight = 1 := by
    have : (Code.builtin "type.__call__" ⟨.ref C :: rest, kw⟩).isGuard = false := by show guardIds.contains "type.__call__" = false; decide
    unfold Code.weight; rw [this]; rfl
  have h2 : (Code.builtin "type.__call__" ⟨.ref C :: rest, kw⟩).cUnits = 1 := by rfl
  have h3 : (Code.builtin "type.__call__" ⟨.ref C :: rest, kw⟩).envs = [] := by rfl
  have h4 : (Code.builtin "type.__call__" ⟨.ref C :: rest, kw⟩).guards = [] := by
    have : (Code.builtin "type.__call__" ⟨.ref C :: rest, kw⟩).isGuard = false := by show guardIds.contains "type.__call__" = false; decide
    unfold Code.guards; rw [this]; rfl
  cases fr <;> cases gs <;> simp [Around.under, h1, h2, h3, h4, pushEnvs, pushGuards]
theorem Ok.make (h : Ok W A B es (u + 1)) : Ok W { A with depth := A.depth + 1, units := A.units + 1 } B es u :=
  ⟨h.g, h.fr, by have := h.depth; show A.depth + 1 + u ≤ _; omega, by have := h.units; show A.units + 1 + u ≤ _; omega, h.short⟩
def noF : LM := fun _ => none
theorem CallW.make {C fI : Addr} {pos : List Value} {kw : List (Str × Value)} {Q : Value → AH → Prop} {X : Value → Bool → AH → Prop} (O : Ok W A B es (u + 1))
    (h : ∀ x A', Ok W A' B es u → A'.handled = A.handled → σ x = none → CallR W A' B fs (.ref fI) (.ref x :: pos) kw (upd σ x (some (.inst C noF 0))) (fun v σ' => v = .none ∧ Q (.ref x) σ') X)
    (hm : makesIn W.K C = true) (hi : findIn W.K (.ref C) "__init__" = some (some (.ref fI))) (hf : typeIn W.K (.ref fI) = some (.type "function")) : CallW W A B fs (.ref C) pos kw σ Q X := fun pos' kw' e1 e2 s R => by
  have X0 := O.g.X.keeps R.keep
  obtain ⟨hh, g, d, t, os⟩ := s
  refine wpAny_call (make_core (makes_of X0 hm) (looks_findIn X0 hi) (fun self => bind_fn X0 self hf) (.inl rfl) ?_)
  rw [under_make]
  have hn : hh.get? hh.objs.size = none := Heap.get?_none_of_le (Nat.le_refl _)
  have hn1 : hh.get? (hh.objs.size + 1) = none := Heap.get?_none_of_le (Nat.le_succ _)
  have hx := (R.fresh (a := hh.objs.size + 1) hn1).2.1
  have g1 : ((hh.push emptyDict).push (instObj C hh.objs.size)).get? (hh.objs.size + 1) = some (instObj C hh.objs.size) := by
    have := Heap.get?_push_size (hh.push emptyDict) (o := instObj C hh.objs.size) rfl
    rwa [Heap.size_push] at this
  have g2 : ((hh.push emptyDict).push (instObj C hh.objs.size)).get? hh.objs.size = some (dictOf [] 0) := Heap.get?_push_of_some _ (Heap.get?_push_size _ rfl)
  have R' : Rel B fs (upd σ (hh.objs.size + 1) (some (.inst C noF 0))) ⟨(hh.push emptyDict).push (instObj C hh.objs.size), g, d, t, os⟩ :=
    R.add (hid := hh.objs.size) (fun b o e => Heap.get?_push_of_some _ (Heap.get?_push_of_some _ e)) rfl rfl hn1 (fun _ => ⟨hn, Nat.ne_of_lt (Nat.lt_succ_self _)⟩)
      (show Cell.At B.hs _ hh.objs.size _ (.inst C noF 0) from ⟨g1, [], 0, g2, (fun e he => by cases he), rfl, fun x => rfl⟩)
  refine codeAny_mono (h _ _ O.make rfl hx (.ref (hh.objs.size + 1) :: pos') kw' (by simp [e1]) e2 _ R') fun r s' q => ?_
  cases r with
  | error e => exact q
  | ok fl =>
    cases fl <;> first | exact q | skip
    obtain ⟨σ', R'', q1, q2⟩ := q
    exact ⟨er_none_inv q1, σ', R'', q2⟩

theorem t_AssertOk {test : Expr} {msg : Option Expr} {pos : Pos} {Q : Flow → LM → AH → Prop} {X} (h : Tr W A B fe fs (isTrue test env (eval test env)) m σ (fun b m' σ' => b = true ∧ Q .next m' σ') X) : Tr W A B fe fs (exec (.Assert test msg pos) env) m σ Q X :=
  fun _ R => wpAny_Assert_holds (h.go R (fun b m' σ' _ R' q => ⟨q.1, m', σ', R', q.2⟩) (fun _ _ x => x))
end

/-! # Lay18 -/

open PySem.W.KPc
theorem fmt_fills_bool (b : Bool) : fillsMappingSlot (.bool b) = pure false := by
  have e : specialOf (.bool b) "__getitem__" = typeLookup (.type "bool") "__getitem__" := rfl
  have l : typeLookup (.type "bool") "__getitem__" = pure none := by rw [typeLookup_type, builtinLookup_eq_fast]; kernel_rfl
  unfold fillsMappingSlot
  rw [e, l]
  rfl
theorem fmt_entry_b (F : PySem.Str) (b : Bool) (t : Tok) : Builtin.«str.__mod__» ⟨[.str F t, .bool b], []⟩ = Builtin.Str.percentFormat (.str F t) F (.bool b) := by kernel_rfl
theorem slot_bool_rmod' : Slot "bool" (dunderR "mod") "int.__rmod__" :=
  .of (owner := "int") (n := "__rmod__") (by rw [typeLookup_type, builtinLookup_eq_fast]; kernel_rfl) (by decide +kernel) (by decide +kernel) (by decide +kernel)
    (by first | exact .inl (by decide +kernel) | exact .inr (by decide +kernel)) (by rw [isSubtype_type]; kernel_rfl)
open PySem.Builtin.Str in
theorem fmt_piece {M : Model} {A : Around} {E : Value → Shared → Prop} {s : Shared} {l : List Nat} {p : List Value} {r : List Nat}
    {f : Nat → List Value × Writer × List Nat → Sem (ForInStep (List Value × Writer × List Nat))} {Q : List Value × Writer × List Nat → Shared → Prop}
    {w : Writer} {T : PySem.Str} {N : Nat} {o : Option Value} {c : Percent} {n : Bool} {d : List Nat} (g : Good w T N) (h1 : c.alt = false) (h2 : c.type = 100) (h3 : c.prec = none) (hd : d.length ≤ 2000) (ho : o = none)
    (h : ∀ w' T', Good w' T' (N + 2001) → wpAny M A (forIn l (p, w', r) f) Q E s) : wpAny M A (forIn l (p, w.add ⟨(percentInt c n d).toArray⟩ o, r) f) Q E s := by
  refine h _ _ (good_mono (good_add g (obj_none ho)) (Nat.add_le_add_left ?_ _))
  have : (percentInt c n d).length ≤ 2001 := by
    unfold percentInt
    cases n <;> simp [h1, h2, h3] <;> omega
  simpa [PySem.Str.length] using this
theorem fmt_digits {n : Int} (h : n.natAbs.log2 < 1920) : (PySem.Str.ofString (toString n)).cps.toList.length ≤ 2000 := by
  have e := int_text_length_le (k := 1920) (by decide) h
  have : (PySem.Str.ofString (toString n)).cps.toList.length = (toString n).length := by
    rw [← PySem.ofString_length]; simp [PySem.Str.length]
  omega
theorem fmt_end {M : Model} {A : Around} {E : Value → Shared → Prop} {s : Shared} {w : Builtin.Str.Writer} {T : PySem.Str} {N : Nat} {id : String} {Q : Fin → Shared → Prop} (g : Good w T N) (hN : N ≤ 16777216)
    (h : ∀ T t k, Q (.done (.ret (.str T t))) { s with toks := k }) : wpAny M A (w.finish id) Q E s := finish_ok g hN rfl fun t k => h T t k
def FmtOk (F : PySem.Str) (v : Value) : Prop := ∀ (t : Tok) (prog : Program) (w : World) (A : Around) (s : Shared) (Q : Fin → Shared → Prop) (E : Value → Shared → Prop),
  (∀ T t' k, Q (.done (.ret (.str T t'))) { s with toks := k }) → wpAny (model prog w) A (Builtin.Str.percentFormat (.str F t) F v) Q E s
local macro_rules | `(tactic| walk_at "my turns") => `(tactic| (refine KPc.turn ?_; kpc_check; (repeat kpc_if); first
  | (refine wpAny_pure ?_; (first | (refine KPc.after_add0 (by kpc_g) (by kpc_text) (by kpc_obj) ?_) | (refine KPc.after_add (by kpc_g) (by exact rfl) (by kpc_obj) ?_)); intro _ _; walk_at "my turns")
  | (refine wpAny_bind ?_; refine wpAny_holding ?_; (repeat kpc_if); kpc_conv; refine wpAny_pure ?_; refine wpAny_pure ?_; refine fmt_piece (by kpc_g) rfl rfl rfl (fmt_digits (by with_reducible assumption)) (by kpc_none) ?_; intro _ _ _; walk_at "my turns")
  | (refine wpAny_pure ?_; kpc_if; refine fmt_end (by kpc_g) (by decide +kernel) ?_; assumption)))
local macro_rules | `(tactic| walk_at "my format") => `(tactic| (
  kpc_if
  refine wpAny_bind (wpAny_pure ?_)
  refine wpAny_bind ?_
  rw [KPc.range_list]
  refine KPc.start ?_
  intro _ _
  walk_at "my turns"))
local macro_rules | `(tactic| walk_at "my format int") => `(tactic| (
  intro h1 h2 t prog w A s Q E h
  unfold Builtin.Str.percentFormat
  refine wpAny_bind (wpAny_isInstance (typeIs_int _ _ _) F.sub_int_tuple ?_)
  refine wpAny_bind (wpAny_of_eq (a := none) rfl ?_)
  refine wpAny_bind (wpAny_of_eq (KPc.fills _ _) ?_)
  walk_at "my format"))
local macro_rules | `(tactic| walk_at "my format bool") => `(tactic| (
  intro h1 h2 t prog w A s Q E h
  unfold Builtin.Str.percentFormat
  refine wpAny_bind (wpAny_isInstance (PySem.typeIs_bool _ _) F.sub_bool_tuple ?_)
  refine wpAny_bind (wpAny_of_eq (a := none) rfl ?_)
  refine wpAny_bind (wpAny_of_eq (fmt_fills_bool _) ?_)
  walk_at "my format"))
theorem fmt_dup {i : Int} {u : Tok} : i.natAbs.log2 < 1920 → ((i.natAbs : Nat) : Int).natAbs.log2 < 1920 → FmtOk ⟨#[83, 116, 114, 101, 97, 109, 32, 37, 100, 32, 97, 108, 114, 101, 97, 100, 121, 32, 105, 110, 32, 116, 114, 101, 101]⟩ (.int i u) := by walk_at "my format int"
theorem fmtT_dup : (if true = true then (1 : Int) else 0).natAbs.log2 < 1920 → (((if true = true then (1 : Int) else 0).natAbs : Nat) : Int).natAbs.log2 < 1920 → FmtOk ⟨#[83, 116, 114, 101, 97, 109, 32, 37, 100, 32, 97, 108, 114, 101, 97, 100, 121, 32, 105, 110, 32, 116, 114, 101, 101]⟩ (.bool true) := by walk_at "my format bool"
theorem fmt_many {i : Int} {u : Tok} : i.natAbs.log2 < 1920 → ((i.natAbs : Nat) : Int).natAbs.log2 < 1920 → FmtOk ⟨#[82, 101, 102, 117, 115, 105, 110, 103, 32, 116, 111, 32, 105, 110, 115, 101, 114, 116, 32, 37, 100, 32, 115, 116, 114, 101, 97, 109, 115, 32, 105, 110, 116, 111, 32, 112, 114, 105, 111, 114, 105, 116, 121, 32, 116, 114, 101, 101, 32, 97, 116, 32, 111, 110, 99, 101]⟩ (.int i u) := by walk_at "my format int"
theorem fmt_selfD {i : Int} {u : Tok} : i.natAbs.log2 < 1920 → ((i.natAbs : Nat) : Int).natAbs.log2 < 1920 → FmtOk ⟨#[83, 116, 114, 101, 97, 109, 32, 37, 100, 32, 109, 117, 115, 116, 32, 110, 111, 116, 32, 100, 101, 112, 101, 110, 100, 32, 111, 110, 32, 105, 116, 115, 101, 108, 102, 46]⟩ (.int i u) := by walk_at "my format int"
theorem fmtT_selfD : (if true = true then (1 : Int) else 0).natAbs.log2 < 1920 → (((if true = true then (1 : Int) else 0).natAbs : Nat) : Int).natAbs.log2 < 1920 → FmtOk ⟨#[83, 116, 114, 101, 97, 109, 32, 37, 100, 32, 109, 117, 115, 116, 32, 110, 111, 116, 32, 100, 101, 112, 101, 110, 100, 32, 111, 110, 32, 105, 116, 115, 101, 108, 102, 46]⟩ (.bool true) := by walk_at "my format bool"
theorem fmt_miss {i : Int} {u : Tok} : i.natAbs.log2 < 1920 → ((i.natAbs : Nat) : Int).natAbs.log2 < 1920 → FmtOk ⟨#[83, 116, 114, 101, 97, 109, 32, 37, 100, 32, 110, 111, 116, 32, 105, 110, 32, 116, 114, 101, 101]⟩ (.int i u) := by walk_at "my format int"
theorem fmtT_miss : (if true = true then (1 : Int) else 0).natAbs.log2 < 1920 → (((if true = true then (1 : Int) else 0).natAbs : Nat) : Int).natAbs.log2 < 1920 → FmtOk ⟨#[83, 116, 114, 101, 97, 109, 32, 37, 100, 32, 110, 111, 116, 32, 105, 110, 32, 116, 114, 101, 101]⟩ (.bool true) := by walk_at "my format bool"
theorem fmt_self {i : Int} {u : Tok} : i.natAbs.log2 < 1920 → ((i.natAbs : Nat) : Int).natAbs.log2 < 1920 → FmtOk ⟨#[83, 116, 114, 101, 97, 109, 32, 37, 100, 32, 109, 117, 115, 116, 32, 110, 111, 116, 32, 100, 101, 112, 101, 110, 100, 32, 111, 110, 32, 105, 116, 115, 101, 108, 102]⟩ (.int i u) := by walk_at "my format int"
theorem fmtT_self : (if true = true then (1 : Int) else 0).natAbs.log2 < 1920 → (((if true = true then (1 : Int) else 0).natAbs : Nat) : Int).natAbs.log2 < 1920 → FmtOk ⟨#[83, 116, 114, 101, 97, 109, 32, 37, 100, 32, 109, 117, 115, 116, 32, 110, 111, 116, 32, 100, 101, 112, 101, 110, 100, 32, 111, 110, 32, 105, 116, 115, 101, 108, 102]⟩ (.bool true) := by walk_at "my format bool"

section
variable {α β : Type} {W : Wd} {A : Around} {B : Base} {fe env : Env} {fs : List (Env × LM)} {m : LM} {σ τ ρ : AH} {es : List Env} {u : Nat} {E : Value → Shared → Prop} {s : Shared}
theorem fmt_meets {X F : PySem.Str} {v : Value} (ent : ∀ t, Builtin.«str.__mod__» ⟨[.str F t, v], []⟩ = Builtin.Str.percentFormat (.str F t) F v) (hF : FmtOk F v) (t : Tok) :
    Meets (Builtin.«str.__mod__» ⟨[.str F t, v], []⟩) (fun _ R s => ∀ T t' k, R (.ok (.ret (.str T t'))) { s with toks := k }) :=
  Meets.of_wp fun prog w A _ s hS => by
    rw [ent]
    exact hF t prog w A.in1 s _ _ fun T t' k => ⟨_, rfl, hS T t' k⟩
theorem op_fmtInt {X F : PySem.Str} {i : Int} {Q : Value → LM → AH → Prop} {Ex} (hX : X = F) (hF : ∀ u, FmtOk F (.int i u)) (h : ∀ T, Q (.str T 0) m σ) : Op2 W A B fe fs (binaryOp .Mod) (.str X 0) (.int i 0) m σ (ErQ Q) Ex := fun x y hx hy s R => by
  obtain ⟨t, rfl⟩ := er_str_inv hx
  obtain ⟨u, rfl⟩ := er_int_inv hy
  subst hX
  exact AutoFloatOps.binaryOp_left_meets (T := "str") (U := "int") (op := .Mod) (by decide) (typeIs_str s _ t) (fun s' => typeIs_int s' i u) F.fills_str_mod F.fills_int_mod F.sub_int_str F.slot_str_mod F.slot_int_rmod F.entry_str_mod (F.args_str_mod_2 _ _)
    (fmt_meets (X := X) (fun t => entry_is _ _ _ _) (hF u) t) (fun T t' k => ⟨(fun e => nomatch e), m, σ, R.toks _, h T⟩)
theorem op_fmtBool {X F : PySem.Str} {b : Bool} {Q : Value → LM → AH → Prop} {Ex} (hX : X = F) (hF : FmtOk F (.bool b)) (h : ∀ T, Q (.str T 0) m σ) : Op2 W A B fe fs (binaryOp .Mod) (.str X 0) (.bool b) m σ (ErQ Q) Ex := fun x y hx hy s R => by
  obtain ⟨t, rfl⟩ := er_str_inv hx
  obtain rfl := er_bool_inv hy
  subst hX
  exact AutoFloatOps.binaryOp_left_meets (T := "str") (U := "bool") (op := .Mod) (by decide) (typeIs_str s _ t) (fun s' => PySem.typeIs_bool s' b) F.fills_str_mod F.fills_bool_mod F.sub_bool_str F.slot_str_mod slot_bool_rmod' F.entry_str_mod (F.args_str_mod_2 _ _)
    (fmt_meets (X := X) (fun t => fmt_entry_b _ _ _) hF t) (fun T t' k => ⟨(fun e => nomatch e), m, σ, R.toks _, h T⟩)
end

/-! # Lay19 -/

/-- what a plain value is equal to -/
def pk : Value → Option (Option DK)
  | .none => some none
  | v => (dk v).map some
/-- a number: an int or a bool -/
def nv : Value → Option Int
  | .int i _ => some i
  | .bool b => some (if b = true then 1 else 0)
  | _ => none
theorem pk_er (v : Value) : pk (er v) = pk v := by cases v <;> rfl
theorem nv_er (v : Value) : nv (er v) = nv v := by cases v <;> rfl
theorem nv_dk {v : Value} {i : Int} (h : nv v = some i) : dk v = some (.n i) := by
  cases v with
  | int j t => cases h; rfl
  | bool b => cases h; rfl
  | _ => cases h
theorem cast_q {Q : Value → Shared → Prop} {s : Shared} {a b : Bool} (h : Q (.bool a) s) (e : a = b) : Q (.bool b) s := e ▸ h
theorem pk_nv {v : Value} {i : Int} (h : nv v = some i) : pk v = some (some (.n i)) := by
  cases v with
  | int j t => cases h; rfl
  | bool b => cases h; rfl
  | _ => cases h
section
variable {A : Around} {s : Shared}
open SeqAt
theorem rc_plain {x y : Value} {a b : Option DK} (hx : pk x = some a) (hy : pk y = some b) : RcAt A s x y (decide (a = b)) := by
  cases x with
  | none =>
    cases hx
    cases y with
    | none => cases hy; exact RcAt.none_none
    | int j u => cases hy; exact RcAt.none_int j u
    | bool d => cases hy; exact RcAt.none_bool d
    | str z u => cases hy; exact RcAt.none_str z u
    | _ => cases hy
  | int i t =>
    cases hx
    cases y with
    | none => cases hy; exact RcAt.int_none i t
    | int j u => cases hy; have := RcAt.int_int (A := A) (s := s) i t j u; intro prog w E Q h; exact this prog w E Q (cast_q h (by first | (simp; done) | (simp; rfl)))
    | bool d => cases hy; have := RcAt.int_bool (A := A) (s := s) i t d; intro prog w E Q h; exact this prog w E Q (cast_q h (by first | (simp; done) | (simp; rfl)))
    | str z u => cases hy; have := RcAt.int_str (A := A) (s := s) i t z u; intro prog w E Q h; exact this prog w E Q (cast_q h (by first | (simp; done) | (simp; rfl)))
    | _ => cases hy
  | bool c =>
    cases hx
    cases y with
    | none => cases hy; exact RcAt.bool_none c
    | int j u => cases hy; have := RcAt.bool_int (A := A) (s := s) c j u; intro prog w E Q h; exact this prog w E Q (cast_q h (by first | (simp; done) | (simp; rfl)))
    | bool d => cases hy; have := RcAt.bool_bool (A := A) (s := s) c d; intro prog w E Q h; exact this prog w E Q (cast_q h (by cases c <;> cases d <;> simp))
    | str z u => cases hy; have := RcAt.bool_str (A := A) (s := s) c z u; intro prog w E Q h; exact this prog w E Q (cast_q h (by first | (simp; done) | (simp; rfl)))
    | _ => cases hy
  | str x t =>
    cases hx
    cases y with
    | none => cases hy; exact RcAt.str_none x t
    | int j u => cases hy; have := RcAt.str_int (A := A) (s := s) x t j u; intro prog w E Q h; exact this prog w E Q (cast_q h (by first | (simp; done) | (simp; rfl)))
    | bool d => cases hy; have := RcAt.str_bool (A := A) (s := s) x t d; intro prog w E Q h; exact this prog w E Q (cast_q h (by first | (simp; done) | (simp; rfl)))
    | str z u => cases hy; have := RcAt.str_str (A := A) (s := s) x t z u; intro prog w E Q h; exact this prog w E Q (cast_q h (by rw [beq_dec]; simp))
    | _ => cases hy
  | _ => cases hx
theorem rcne_plain {x y : Value} {a b : Option DK} (hx : pk x = some a) (hy : pk y = some b) : RcNeAt A s x y (!decide (a = b)) := by
  cases x with
  | none =>
    cases hx
    cases y with
    | none => cases hy; exact RcNeAt.none_none
    | int j u => cases hy; exact RcNeAt.none_int j u
    | bool d => cases hy; exact RcNeAt.none_bool d
    | str z u => cases hy; exact RcNeAt.none_str z u
    | _ => cases hy
  | int i t =>
    cases hx
    cases y with
    | none => cases hy; exact RcNeAt.int_none i t
    | int j u => cases hy; have := RcNeAt.int_int (A := A) (s := s) i t j u; intro prog w E Q h; exact this prog w E Q (cast_q h (by first | (simp; done) | (simp; rfl)))
    | bool d => cases hy; have := RcNeAt.int_bool (A := A) (s := s) i t d; intro prog w E Q h; exact this prog w E Q (cast_q h (by first | (simp; done) | (simp; rfl)))
    | str z u => cases hy; have := RcNeAt.int_str (A := A) (s := s) i t z u; intro prog w E Q h; exact this prog w E Q (cast_q h (by first | (simp; done) | (simp; rfl)))
    | _ => cases hy
  | bool c =>
    cases hx
    cases y with
    | none => cases hy; exact RcNeAt.bool_none c
    | int j u => cases hy; have := RcNeAt.bool_int (A := A) (s := s) c j u; intro prog w E Q h; exact this prog w E Q (cast_q h (by first | (simp; done) | (simp; rfl)))
    | bool d => cases hy; have := RcNeAt.bool_bool (A := A) (s := s) c d; intro prog w E Q h; exact this prog w E Q (cast_q h (by cases c <;> cases d <;> simp))
    | str z u => cases hy; have := RcNeAt.bool_str (A := A) (s := s) c z u; intro prog w E Q h; exact this prog w E Q (cast_q h (by first | (simp; done) | (simp; rfl)))
    | _ => cases hy
  | str x t =>
    cases hx
    cases y with
    | none => cases hy; exact RcNeAt.str_none x t
    | int j u => cases hy; have := RcNeAt.str_int (A := A) (s := s) x t j u; intro prog w E Q h; exact this prog w E Q (cast_q h (by first | (simp; done) | (simp; rfl)))
    | bool d => cases hy; have := RcNeAt.str_bool (A := A) (s := s) x t d; intro prog w E Q h; exact this prog w E Q (cast_q h (by first | (simp; done) | (simp; rfl)))
    | str z u => cases hy; have := RcNeAt.str_str (A := A) (s := s) x t z u; intro prog w E Q h; exact this prog w E Q (cast_q h (by rw [beq_dec]; simp))
    | _ => cases hy
  | _ => cases hx
/-- `y == x` asked by a container, of plain values -/
theorem eqB_plain {prog : Program} {w : World} {E : Value → Shared → Prop} {x y : Value} {a b : Option DK} {Q : Bool → Shared → Prop} (hx : pk x = some a) (hy : pk y = some b) (h : Q (decide (a = b)) s) : wpAny (model prog w) A (eqBool x y) Q E s :=
  eqB_of (b := decide (a = b)) (fun b t q => by subst q; cases hx) (rc_plain hx hy) (fun e => by subst e; rw [hx] at hy; cases hy; simp) h

/-! ### numbers of two kinds -/
open PySem.F in
theorem g_lt_bi (a : Bool) (b : Int) (u : Tok) : Gives (Builtin.«int.__lt__» ⟨[.bool a, .int b u], []⟩) (.val (Value.bool (decide ((if a = true then (1 : Int) else 0) < b)))) := .of_wp fun M A E s Q h => by obtain ⟨hp, g, d, tk, os⟩ := s; wp_walk; exact ⟨_, rfl, h⟩
theorem g_gt_bi (a : Bool) (b : Int) (u : Tok) : Gives (Builtin.«int.__gt__» ⟨[.bool a, .int b u], []⟩) (.val (Value.bool (decide ((if a = true then (1 : Int) else 0) > b)))) := .of_wp fun M A E s Q h => by obtain ⟨hp, g, d, tk, os⟩ := s; wp_walk; exact ⟨_, rfl, h⟩
theorem g_le_bi (a : Bool) (b : Int) (u : Tok) : Gives (Builtin.«int.__le__» ⟨[.bool a, .int b u], []⟩) (.val (Value.bool (decide ((if a = true then (1 : Int) else 0) ≤ b)))) := .of_wp fun M A E s Q h => by obtain ⟨hp, g, d, tk, os⟩ := s; wp_walk; exact ⟨_, rfl, h⟩
theorem g_ge_bi (a : Bool) (b : Int) (u : Tok) : Gives (Builtin.«int.__ge__» ⟨[.bool a, .int b u], []⟩) (.val (Value.bool (decide ((if a = true then (1 : Int) else 0) ≥ b)))) := .of_wp fun M A E s Q h => by obtain ⟨hp, g, d, tk, os⟩ := s; wp_walk; exact ⟨_, rfl, h⟩
theorem g_lt_bb (a b : Bool) : Gives (Builtin.«int.__lt__» ⟨[.bool a, .bool b], []⟩) (.val (Value.bool (decide ((if a = true then (1 : Int) else 0) < (if b = true then (1 : Int) else 0))))) := .of_wp fun M A E s Q h => by obtain ⟨hp, g, d, tk, os⟩ := s; wp_walk; exact ⟨_, rfl, h⟩
theorem slot_bool_ge_refl' : Slot "bool" (cmpInfo .LtE).2.2 "int.__ge__" :=
  .of (owner := "int") (n := "__ge__") (by rw [typeLookup_type, builtinLookup_eq_fast]; kernel_rfl) (by decide +kernel) (by decide +kernel) (by decide +kernel)
    (by first | exact .inl (by decide +kernel) | exact .inr (by decide +kernel)) (by rw [isSubtype_type]; kernel_rfl)
theorem slot_bool_gt_refl' : Slot "bool" (cmpInfo .Lt).2.2 "int.__gt__" :=
  .of (owner := "int") (n := "__gt__") (by rw [typeLookup_type, builtinLookup_eq_fast]; kernel_rfl) (by decide +kernel) (by decide +kernel) (by decide +kernel)
    (by first | exact .inl (by decide +kernel) | exact .inr (by decide +kernel)) (by rw [isSubtype_type]; kernel_rfl)
theorem same_reflected_int_bool_fd : reflectedDiffers (.type "int") (.type "bool") "floordiv" = pure false := by
  unfold reflectedDiffers
  show (typeLookup (.type "bool") (dunderR "floordiv") >>= fun rb => typeLookup (.type "int") (dunderR "floordiv") >>= fun ra => pure (rb.isSome && rb != ra)) = pure false
  rw [typeLookup_type, typeLookup_type, builtinLookup_eq_fast]; kernel_rfl
theorem same_reflected_int_bool_md : reflectedDiffers (.type "int") (.type "bool") "mod" = pure false := by
  unfold reflectedDiffers
  show (typeLookup (.type "bool") (dunderR "mod") >>= fun rb => typeLookup (.type "int") (dunderR "mod") >>= fun ra => pure (rb.isSome && rb != ra)) = pure false
  rw [typeLookup_type, typeLookup_type, builtinLookup_eq_fast]; kernel_rfl
end

section
variable {α β : Type} {W : Wd} {A : Around} {B : Base} {fe env : Env} {fs : List (Env × LM)} {m : LM} {σ τ ρ : AH} {es : List Env} {u : Nat} {E : Value → Shared → Prop} {s : Shared} {Q : Value → LM → AH → Prop} {X : Value → Bool → LM → AH → Prop}
theorem op_eqP {x y : Value} {a b : Option DK} (hx : pk x = some a) (hy : pk y = some b) (h : Q (.bool (decide (a = b))) m σ) : Op2 W A B fe fs (compareOp .Eq) x y m σ (ErQ Q) X := fun x' y' ex ey s R =>
  rc_plain (by rw [← pk_er, ex]; exact hx) (by rw [← pk_er, ey]; exact hy) W.prog W.w _ _ ⟨m, σ, R, h⟩
theorem op_neP {x y : Value} {a b : Option DK} (hx : pk x = some a) (hy : pk y = some b) (h : Q (.bool (!decide (a = b))) m σ) : Op2 W A B fe fs (compareOp .NotEq) x y m σ (ErQ Q) X := fun x' y' ex ey s R =>
  rcne_plain (by rw [← pk_er, ex]; exact hx) (by rw [← pk_er, ey]; exact hy) W.prog W.w _ _ ⟨m, σ, R, h⟩
theorem op_ltN {x y : Value} {a b : Int} (hx : nv x = some a) (hy : nv y = some b) (h : Q (.bool (decide (a < b))) m σ) : Op2 W A B fe fs (compareOp .Lt) x y m σ (ErQ Q) X := fun x' y' ex ey s R => by
  rw [← ex, nv_er] at hx
  rw [← ey, nv_er] at hy
  have fin : EndQ B fe fs (ErQ Q) (.bool (decide (a < b))) s := ⟨m, σ, R, h⟩
  show wpAny _ _ (richCompare .Lt x' y') _ _ _
  cases x' with
  | int i t =>
    cases hx
    cases y' with
    | int j u => cases hy; exact PySem.P.lt_int fin
    | bool d =>
      cases hy
      exact SeqAt.rc_sub_first_or (PySem.typeIs_int s _ t) rfl (by decide) F.sub_bool_int slot_bool_gt_refl'
        (call_gives slot_bool_gt_refl' rfl PySem.F.entry_int_gt (PySem.F.args_int_gt_2 _ _) (g_gt_bi d _ t) ⟨nofun, fin⟩) (.inl rfl)
    | _ => cases hy
  | bool c =>
    cases hx
    cases y' with
    | int j u => cases hy; exact SeqAt.rc_left_or rfl (PySem.typeIs_int s _ u) (by decide) F.sub_int_bool F.slot_bool_lt (call_gives F.slot_bool_lt rfl PySem.F.entry_int_lt (PySem.F.args_int_lt_2 _ _) (g_lt_bi c _ u) ⟨nofun, fin⟩) (.inl rfl)
    | bool d => cases hy; exact PySem.richCompare_gives rfl rfl F.slot_bool_lt PySem.F.entry_int_lt (PySem.F.args_int_lt_2 _ _) (g_lt_bb c d) nofun fin
    | _ => cases hy
  | _ => cases hx
theorem op_leN {x y : Value} {a b : Int} (hx : nv x = some a) (hy : nv y = some b) (hb : ∀ c d, ¬ (x = .bool c ∧ y = .bool d)) (h : Q (.bool (decide (a ≤ b))) m σ) : Op2 W A B fe fs (compareOp .LtE) x y m σ (ErQ Q) X := fun x' y' ex ey s R => by
  subst ex ey
  rw [nv_er] at hx
  rw [nv_er] at hy
  have fin : EndQ B fe fs (ErQ Q) (.bool (decide (a ≤ b))) s := ⟨m, σ, R, h⟩
  show wpAny _ _ (richCompare .LtE x' y') _ _ _
  cases x' with
  | int i t =>
    cases hx
    cases y' with
    | int j u => cases hy; exact PySem.P.le_int fin
    | bool d =>
      cases hy
      exact SeqAt.rc_sub_first_or (PySem.typeIs_int s _ t) rfl (by decide) F.sub_bool_int slot_bool_ge_refl'
        (call_gives slot_bool_ge_refl' rfl PySem.F.entry_int_ge (PySem.F.args_int_ge_2 _ _) (g_ge_bi d _ t) ⟨nofun, fin⟩) (.inl rfl)
    | _ => cases hy
  | bool c =>
    cases hx
    cases y' with
    | int j u => cases hy; exact SeqAt.rc_left_or rfl (PySem.typeIs_int s _ u) (by decide) F.sub_int_bool F.slot_bool_le (call_gives F.slot_bool_le rfl PySem.F.entry_int_le (PySem.F.args_int_le_2 _ _) (g_le_bi c _ u) ⟨nofun, fin⟩) (.inl rfl)
    | bool d => exact absurd ⟨rfl, rfl⟩ (hb c d)
    | _ => cases hy
  | _ => cases hx
theorem op_floordivN {x y : Value} {a b : Int} (hx : x = .int a 0) (hy : nv y = some b) (h0 : 0 < b) (hb : b < 1073741824) (h : Q (.int (a / b) 0) m σ) : Op2 W A B fe fs (binaryOp .FloorDiv) x y m σ (ErQ Q) X := by
  subst hx
  cases y with
  | int j u =>
    cases hy
    exact fun x' y' ex ey s R => op_floordiv h0 hb h x' y' ex (by have := (er_er y').symm.trans (congrArg er ey); exact this) s R
  | bool c =>
    intro x' y' ex ey s R
    obtain ⟨t, rfl⟩ := er_int_inv ex
    obtain rfl := er_bool_inv ey
    cases hy
    refine binaryOp_sub_gives (op := .FloorDiv) (T := "int") (U := "bool") (by decide) (PySem.typeIs_int s a t) rfl F.fills_int_floordiv F.fills_bool_floordiv isSubtype_bool_int same_reflected_int_bool_fd F.slot_int_floordiv F.entry_int_floordiv (F.args_int_floordiv_2 _ _)
      (AutoIntG2.int___floordiv___int_bool_1 a t c (by cases c <;> simp at h0 ⊢) (by rw [PyProof.noPylong_small (by omega)]; simp)) trivial ⟨m, σ, R.toks _, ?_⟩
    show Q (.int _ 0) m σ
    rw [Int.fdiv_eq_ediv_of_nonneg _ (by omega)]; exact h
  | _ => cases hy
theorem op_modN {x y : Value} {a b : Int} (hx : x = .int a 0) (hy : nv y = some b) (h0 : 0 < b) (h : Q (.int (a % b) 0) m σ) : Op2 W A B fe fs (binaryOp .Mod) x y m σ (ErQ Q) X := by
  subst hx
  cases y with
  | int j u =>
    cases hy
    exact fun x' y' ex ey s R => op_mod h0 h x' y' ex (by have := (er_er y').symm.trans (congrArg er ey); exact this) s R
  | bool c =>
    intro x' y' ex ey s R
    obtain ⟨t, rfl⟩ := er_int_inv ex
    obtain rfl := er_bool_inv ey
    cases hy
    refine binaryOp_sub_gives (op := .Mod) (T := "int") (U := "bool") (by decide) (PySem.typeIs_int s a t) rfl F.fills_int_mod F.fills_bool_mod isSubtype_bool_int same_reflected_int_bool_md F.slot_int_mod F.entry_int_mod (F.args_int_mod_2 _ _)
      (AutoIntG4.int___mod___int_bool_1 a t c (by cases c <;> simp at h0 ⊢)) trivial ⟨m, σ, R.toks _, ?_⟩
    show Q (.int _ 0) m σ
    rw [Int.fmod_eq_emod_of_nonneg _ (by omega)]; exact h
  | _ => cases hy
end

/-! # Lay20 -/
set_option maxRecDepth 100000

/-! ### an own exception class that stands beneath a builtin one, its bases mixed -/
section
variable {prog : Program} {w : World} {A : Around} {E : Value → Shared → Prop} {h : Heap} {g : Array GenState} {d : Drawn} {t : Nat} {os : OsState}
variable {nm q : Str} {C N : Addr} {bs bm bmB : List Value} {hdct : Bool} {sn : List Str} {sub : List Value} {ab : Bool} {col : Option Bool} {dd : Option Addr} {k0 k1 k2 k3 k5 : Option Value} {Bn newId initId : String}

structure InitFacts (cls initId : String) : Prop where
  init : Slot cls "__init__" initId
  initEntry : entryFor table initId = some Builtin.«BaseException.__init__»
  initSplit : splitId initId = some (cls, "__init__")
  initKind : builtinKind initId = some .slot
  initRow : Manifest.signature? initId = some ⟨.positional, "*", cls, .self, [⟨"args", .varPos, false⟩]⟩
  noStar : (cls != "*") = true
theorem init_KeyError : InitFacts "KeyError" "KeyError.__init__" where
  init := .of (owner := "KeyError") (n := "__init__") (by rw [typeLookup_type, builtinLookup_eq_fast]; kernel_rfl) (by decide +kernel) (by decide +kernel) (by decide +kernel)
    (by first | exact .inl (by decide +kernel) | exact .inr (by decide +kernel)) (by rw [isSubtype_type]; kernel_rfl)
  initEntry := entryFor_alias (id' := "BaseException.__init__") (by rw [fastTable_eq_tree]; kernel_rfl) (by first | rfl | decide +kernel) (by decide +kernel) (by rw [fastTable_eq_tree]; kernel_rfl)
  initSplit := by kernel_rfl
  initKind := by kernel_rfl
  initRow := by kernel_rfl
  noStar := by decide +kernel
theorem mix_check_new (F : ExcBaseFacts Bn newId initId bmB) (hcB : (Value.ref C :: bm).contains (.type Bn) = true) {M : Model} {rest : List Value} {Q : Unit → Shared → Prop} (hC : h.get? C = some (excClassObj nm q C N bs bm hdct sn sub ab col dd k0 k1 k2 k3 k5 newId))
    (hq : Q () ⟨h, g, d, t, os⟩) : wpAny M A (checkBuiltinCall newId ⟨.ref C :: rest, []⟩) Q E ⟨h, g, d, t, os⟩ := by
  have hstar := F.noStar
  simp only [checkBuiltinCall, F.newKind, F.newSplit, F.newRow]
  repeat (first | refine wpAny_loadPart_at hC ?_ | (refine wpAny_isSubtype_exc hC ?_; rw [hcB]) | refine wpAny_staticBase_exc hC ?_ | refine wpAny_madeBy_exc hC ?_ | simp only [bne_self_eq_false, Bool.false_eq_true, if_false] | wp_step)
  exact hq
theorem mix_new (F : ExcBaseFacts Bn newId initId bmB) (hcB : (Value.ref C :: bm).contains (.type Bn) = true) (hcA : (Value.ref C :: bm).contains (.type "AttributeError") = false) (hcN : (Value.ref C :: bm).contains (.type "NameError") = false)
    {R : Result → Shared → Prop} {rest : List Value} (hC : h.get? C = some (excClassObj nm q C N bs bm hdct sn sub ab col dd k0 k1 k2 k3 k5 newId))
    (hq : R (.ok (.ret (.ref (h.objs.size + 1)))) ⟨(h.push { cls := .type "tuple", data := .seq rest.toArray }).push
      { cls := .ref C, data := .fields #[.ref h.objs.size, .none, .none, .none, .bool false, .none] }, g, d, t, os⟩) (hrest : rest.length ≤ sizeLine) :
    codeAny (model prog w) A (.builtin newId ⟨.ref C :: rest, []⟩) R ⟨h, g, d, t, os⟩ := by
  have hends := F.ends
  refine PySem.codeAny_builtinAt F.entry ?_
  unfold Builtin.«BaseException.__new__»
  refine PySem.wpAt_bind ?_
  show PySem.wpAt _ _ _ (stack >>= _) _ _ _
  refine PySem.wpAt_bind (PySem.wpAt_stack fun p below => PySem.wpAt_of_wpAny ?_)
  wp_walk
  refine PySem.wpAt_of_wpAny ?_
  rw [F.owner]
  repeat (first | with_reducible refine wpAny_madeHere_exc F.canon hC ?_ | with_reducible refine wpAny_loadPart_at hC ?_ | (with_reducible refine wpAny_isSubtype_exc hC ?_; first | rw [hcB] | rw [hcA] | rw [hcN]) | wp_step)
  show R _ _
  rw [Heap.size_push]
  exact hq
theorem mix_check_init {Bi : String} (F : InitFacts Bi initId) (hcB : (Value.ref C :: bm).contains (.type Bi) = true) {M : Model} {e : Addr} {oe : Obj} {rest : List Value} {Q : Unit → Shared → Prop}
    (hC : h.get? C = some (excClassObj nm q C N bs bm hdct sn sub ab col dd k0 k1 k2 k3 k5 newId)) (he : h.get? e = some oe) (hcls : oe.cls = .ref C) (hq : Q () ⟨h, g, d, t, os⟩) :
    wpAny M A (checkBuiltinCall initId ⟨.ref e :: rest, []⟩) Q E ⟨h, g, d, t, os⟩ := by
  have hshort := F.noStar
  simp only [checkBuiltinCall, F.initKind, F.initSplit, F.initRow]
  repeat (first | (with_reducible refine wpAny_loadPart_at he ?_; rw [hcls]) | with_reducible refine wpAny_loadPart_at hC ?_ | (with_reducible refine wpAny_isSubtype_exc hC ?_; rw [hcB]) | wp_step)
  refine wpAny_onRaise ?_
  rw [show ∀ (a b : String) (n : Nat), Bind.check ⟨.positional, "*", Bi, .self, [⟨"args", .varPos, false⟩]⟩ a b n (List.map (fun x => x.fst) ({ pos := Value.ref e :: rest } : Args).kw) = pure () from
    fun a b n => check_star_args _ _ _ _ _ _]
  exact wpAny_pure hq
theorem mix_type_call {Bi initI : String} (F : ExcBaseFacts Bn newId initI bmB) (I : InitFacts Bi initId) (hcI : (Value.ref C :: bm).contains (.type Bi) = true) (hcB : (Value.ref C :: bm).contains (.type Bn) = true) (hcA : (Value.ref C :: bm).contains (.type "AttributeError") = false) (hcN : (Value.ref C :: bm).contains (.type "NameError") = false)
    {rest : List Value} {Q : Fin → Shared → Prop} (hC : h.get? C = some (excClassObj nm q C N bs bm hdct sn sub ab col dd k0 k1 k2 k3 k5 newId)) (hl : ∀ h', (∀ b o, h.get? b = some o → h'.get? b = some o) → Looks (model prog w) h' (typeLookup (.ref C) "__init__") (some (.builtin initId)))
    (hq : ∀ h' e, Heap.MadeExcOf h h' e (.ref C) rest → Q (.done (.ret (.ref e))) ⟨h', g, d, t, os⟩) (hrest : rest.length ≤ sizeLine) :
    wpAny (model prog w) A (Builtin.«type.__call__» ⟨.ref C :: rest, []⟩) Q E ⟨h, g, d, t, os⟩ := by
  repeat (first | with_reducible refine wpAny_loadPart_at hC ?_ | with_reducible refine wpAny_madeBy_exc hC ?_ | wp_step)
  refine codeAny_call_builtin_code (Code.quiet_builtin _ F.quiet) (mix_check_new F hcB hC ?_)
  refine mix_new F hcB hcA hcN hC ?_ hrest
  show wpAny _ _ _ _ _ _
  have kk : ∀ b o, h.get? b = some o → ((h.push { cls := .type "tuple", data := .seq rest.toArray }).push { cls := .ref C, data := .fields #[.ref h.objs.size, .none, .none, .none, .bool false, .none] }).get? b = some o := fun b o e => Heap.get?_push_of_some _ (Heap.get?_push_of_some _ e)
  have hC₁ := kk _ _ hC
  have hget : ((h.push { cls := .type "tuple", data := .seq rest.toArray }).push
      { cls := .ref C, data := .fields #[.ref h.objs.size, .none, .none, .none, .bool false, .none] }).get? (h.objs.size + 1) = some
      { cls := .ref C, data := .fields #[.ref h.objs.size, .none, .none, .none, .bool false, .none] } := by heap_get
  have hcC : (Value.ref C :: bm).contains (.ref C) = true := by simp
  unfold isInstance
  repeat (first | with_reducible refine wpAny_loadPart_at hget ?_ | (with_reducible refine wpAny_isSubtype_exc hC₁ ?_; rw [hcC]) | wp_step)
  show wpAny _ _ (typeLookup (.ref C) _) _ _ _
  refine (hl _ kk).here ?_
  refine wpAny_holding (wpAny_bind (wpAny_of_eq (I.init.bind _) ?_))
  refine wpAny_bind (wpAny_call (codeAny_call_builtin I.init.plain I.initEntry (mix_check_init I hcI hC₁ hget rfl ?_)))
  wp_walk
  refine hq _ _ ⟨fun b o hb => ?_, Heap.get?_none_of_le (Nat.le_succ _), h.objs.size + 2, ?_, Heap.get?_none_of_le (by omega), ?_⟩
  · rw [Heap.get?_update_other _ _ (Nat.ne_of_gt (Nat.lt_succ_of_lt (Heap.lt_size hb)))]
    exact Heap.get?_push_of_some _ (kk _ _ hb)
  · rw [Heap.get?_update_self _ (Heap.get?_push_of_some _ hget) rfl]
    simp only [Heap.size_push]
    rfl
  · rw [Heap.get?_update_other _ _ (show h.objs.size + 1 ≠ h.objs.size + 2 by omega)]
    exact Heap.get?_push_at (by simp only [Heap.size_push]) rfl
theorem mix_call {Bi initI : String} (F : ExcBaseFacts Bn newId initI bmB) (I : InitFacts Bi initId) (hcI : (Value.ref C :: bm).contains (.type Bi) = true) (hcB : (Value.ref C :: bm).contains (.type Bn) = true) (hcA : (Value.ref C :: bm).contains (.type "AttributeError") = false) (hcN : (Value.ref C :: bm).contains (.type "NameError") = false)
    {rest : List Value} {Q : Value → Shared → Prop} (hC : h.get? C = some (excClassObj nm q C N bs bm hdct sn sub ab col dd k0 k1 k2 k3 k5 newId)) (hl : ∀ h', (∀ b o, h.get? b = some o → h'.get? b = some o) → Looks (model prog w) h' (typeLookup (.ref C) "__init__") (some (.builtin initId)))
    (hq : ∀ h' e, Heap.MadeExcOf h h' e (.ref C) rest → Q (.ref e) ⟨h', g, d, t, os⟩) (hrest : rest.length ≤ sizeLine) :
    wpAny (model prog w) A (call (.ref C) rest) Q E ⟨h, g, d, t, os⟩ := by
  have f1 := tc_lookup
  have f2 := tc_bind (.ref C)
  have hT : (⟨h, g, d, t, os⟩ : Shared).TypeIs (.ref C) "type" := ⟨_, hC, rfl⟩
  refine wpAny_call (codeAny_of_tree ?_)
  show wpAny _ _ (callAny (.ref C) _) _ _ _
  repeat (any_goals (first | assumption | with_reducible refine wpAny_loadPart_at hC ?_ | wp_step))
  refine ⟨rfl, ?_⟩
  refine codeAny_call_builtin_at (Code.quiet_builtin _ (by decide +kernel)) entry_typeCall (wpAny_check_type_call_sub hC (mix_type_call F I hcI hcB hcA hcN hC hl (fun h' e hm => ?_) hrest))
  exact hq h' e hm
end

section
variable {α β : Type} {W : Wd} {A : Around} {B : Base} {fe env : Env} {fs : List (Env × LM)} {m : LM} {σ τ ρ : AH} {es : List Env} {u : Nat} {E : Value → Shared → Prop} {s : Shared}
variable {nm q : Str} {C N : Addr} {bs bm bmB : List Value} {hdct : Bool} {sn : List Str} {sub : List Value} {ab : Bool} {col : Option Bool} {dd : Option Addr} {k0 k1 k2 k3 k5 : Option Value} {Bn newId initId : String}
theorem call_mix {Bi initI : String} {args : List Value} {Q : Value → AH → Prop} {X} (O : Ok W A B es u) (F : ExcBaseFacts Bn newId initI bmB) (I : InitFacts Bi initId) (hcI : (Value.ref C :: bm).contains (.type Bi) = true) (hC : W.K.lookup C = some (excClassObj nm q C N bs bm hdct sn sub ab col dd k0 k1 k2 k3 k5 newId))
    (hcB : (Value.ref C :: bm).contains (.type Bn) = true) (hcA : (Value.ref C :: bm).contains (.type "AttributeError") = false) (hcN : (Value.ref C :: bm).contains (.type "NameError") = false)
    (hi : findIn W.K (.ref C) "__init__" = some (some (.builtin initId))) (hz : args.length ≤ 1000)
    (h : ∀ e, σ e = none → Q (.ref e) (upd σ e (some (.exc (.ref C) false false)))) : CallW W A B fs (.ref C) args [] σ Q X := fun pos' kw' e1 e2 s R => by
  obtain rfl := erK_nil e2
  have X0 := O.g.X.keeps R.keep
  obtain ⟨hh, g, d, tk, os⟩ := s
  have hz' : pos'.length ≤ sizeLine := by
    rw [sizeLine_eq]
    have : pos'.length = args.length := by rw [← e1]; simp
    omega
  refine mix_call F I hcI hcB hcA hcN (X0 _ _ hC) (fun h' k => looks_findIn (X0.keeps k) hi) (fun h' e hm => ?_) hz'
  obtain ⟨t, ht, _⟩ := hm.there
  exact ⟨_, R.addExc (s' := ⟨h', g, d, tk, os⟩) hm.keeps rfl rfl hm.new ht, h e (R.fresh hm.new).2.1⟩
end

/-! # Lay21 -/

section
variable {W : Wd} {fd : FuncData} {a b c d : Value} {p1 p2 p3 p4 : Str}
theorem binds1 (h : ∀ x, bindArgs fd ⟨[x], []⟩ = pure [(p1, x)]) : Binds W fd [a] [] [(p1, a)] := fun pos' kw' e1 e2 s X0 => by
  obtain ⟨x, r, rfl, hx, hr⟩ := map_er_cons e1
  obtain rfl := map_er_nil hr
  obtain rfl := erK_nil e2
  exact ⟨_, BindsTo.of_eq (h x), by simp [erK, hx]⟩
theorem binds2 (h : ∀ x y, bindArgs fd ⟨[x, y], []⟩ = pure [(p1, x), (p2, y)]) : Binds W fd [a, b] [] [(p1, a), (p2, b)] := fun pos' kw' e1 e2 s X0 => by
  obtain ⟨x, r, rfl, hx, hr⟩ := map_er_cons e1
  obtain ⟨y, r, rfl, hy, hr⟩ := map_er_cons hr
  obtain rfl := map_er_nil hr
  obtain rfl := erK_nil e2
  exact ⟨_, BindsTo.of_eq (h x y), by simp [erK, hx, hy]⟩
theorem binds3 (h : ∀ x y z, bindArgs fd ⟨[x, y, z], []⟩ = pure [(p1, x), (p2, y), (p3, z)]) : Binds W fd [a, b, c] [] [(p1, a), (p2, b), (p3, c)] := fun pos' kw' e1 e2 s X0 => by
  obtain ⟨x, r, rfl, hx, hr⟩ := map_er_cons e1
  obtain ⟨y, r, rfl, hy, hr⟩ := map_er_cons hr
  obtain ⟨z, r, rfl, hz, hr⟩ := map_er_cons hr
  obtain rfl := map_er_nil hr
  obtain rfl := erK_nil e2
  exact ⟨_, BindsTo.of_eq (h x y z), by simp [erK, hx, hy, hz]⟩
theorem binds4 (h : ∀ x y z v, bindArgs fd ⟨[x, y, z, v], []⟩ = pure [(p1, x), (p2, y), (p3, z), (p4, v)]) : Binds W fd [a, b, c, d] [] [(p1, a), (p2, b), (p3, c), (p4, d)] := fun pos' kw' e1 e2 s X0 => by
  obtain ⟨x, r, rfl, hx, hr⟩ := map_er_cons e1
  obtain ⟨y, r, rfl, hy, hr⟩ := map_er_cons hr
  obtain ⟨z, r, rfl, hz, hr⟩ := map_er_cons hr
  obtain ⟨v, r, rfl, hv, hr⟩ := map_er_cons hr
  obtain rfl := map_er_nil hr
  obtain rfl := erK_nil e2
  exact ⟨_, BindsTo.of_eq (h x y z v), by simp [erK, hx, hy, hz, hv]⟩
theorem bindsD2 {T : Addr} {o : Obj} {items : Array Value} {n : Nat} {v : Value} {k : Value → Value → Option (Array Value) → Sem (List (Str × Value))} (hd : fd.defaults = .ref T) (ho : W.K.lookup T = some o) (hs : o.data = .seq items n)
    (h₁ : ∀ x y, bindArgs fd ⟨[x, y], []⟩ = seqItems? fd.defaults >>= k x y) (h₂ : ∀ x y, k x y (some items) = pure [(p1, x), (p2, y), (p3, v)]) : Binds W fd [a, b] [] [(p1, a), (p2, b), (p3, er v)] := fun pos' kw' e1 e2 s X0 => by
  obtain ⟨x, r, rfl, hx, hr⟩ := map_er_cons e1
  obtain ⟨y, r, rfl, hy, hr⟩ := map_er_cons hr
  obtain rfl := map_er_nil hr
  obtain rfl := erK_nil e2
  exact ⟨_, BindsTo.of_defaults hd (X0 _ _ ho) hs (h₁ x y) (h₂ x y), by simp [erK, hx, hy]⟩
theorem bindsDK2 {T : Addr} {o : Obj} {items : Array Value} {n : Nat} {k : Value → Value → Value → Option (Array Value) → Sem (List (Str × Value))} (hd : fd.defaults = .ref T) (ho : W.K.lookup T = some o) (hs : o.data = .seq items n)
    (h₁ : ∀ x y z, bindArgs fd ⟨[x, y], [(p3, z)]⟩ = seqItems? fd.defaults >>= k x y z) (h₂ : ∀ x y z, k x y z (some items) = pure [(p1, x), (p2, y), (p3, z)]) : Binds W fd [a, b] [(p3, c)] [(p1, a), (p2, b), (p3, c)] := fun pos' kw' e1 e2 s X0 => by
  obtain ⟨x, r, rfl, hx, hr⟩ := map_er_cons e1
  obtain ⟨y, r, rfl, hy, hr⟩ := map_er_cons hr
  obtain rfl := map_er_nil hr
  obtain ⟨z, r, rfl, hz, hr⟩ := erK_cons e2
  obtain rfl := erK_nil hr
  exact ⟨_, BindsTo.of_defaults hd (X0 _ _ ho) hs (h₁ x y z) (h₂ x y z), by simp [erK, hx, hy, hz]⟩
theorem bindsD3 {T : Addr} {o : Obj} {items : Array Value} {n : Nat} {k : Value → Value → Value → Option (Array Value) → Sem (List (Str × Value))} (hd : fd.defaults = .ref T) (ho : W.K.lookup T = some o) (hs : o.data = .seq items n)
    (h₁ : ∀ x y z, bindArgs fd ⟨[x, y, z], []⟩ = seqItems? fd.defaults >>= k x y z) (h₂ : ∀ x y z, k x y z (some items) = pure [(p1, x), (p2, y), (p3, z)]) : Binds W fd [a, b, c] [] [(p1, a), (p2, b), (p3, c)] := fun pos' kw' e1 e2 s X0 => by
  obtain ⟨x, r, rfl, hx, hr⟩ := map_er_cons e1
  obtain ⟨y, r, rfl, hy, hr⟩ := map_er_cons hr
  obtain ⟨z, r, rfl, hz, hr⟩ := map_er_cons hr
  obtain rfl := map_er_nil hr
  obtain rfl := erK_nil e2
  exact ⟨_, BindsTo.of_defaults hd (X0 _ _ ho) hs (h₁ x y z) (h₂ x y z), by simp [erK, hx, hy, hz]⟩
theorem bindsD1K2 {T : Addr} {o : Obj} {items : Array Value} {n : Nat} {k : Value → Value → Value → Option (Array Value) → Sem (List (Str × Value))} (hd : fd.defaults = .ref T) (ho : W.K.lookup T = some o) (hs : o.data = .seq items n)
    (h₁ : ∀ x y z, bindArgs fd ⟨[x], [(p2, y), (p3, z)]⟩ = seqItems? fd.defaults >>= k x y z) (h₂ : ∀ x y z, k x y z (some items) = pure [(p1, x), (p2, y), (p3, z)]) : Binds W fd [a] [(p2, b), (p3, c)] [(p1, a), (p2, b), (p3, c)] := fun pos' kw' e1 e2 s X0 => by
  obtain ⟨x, r, rfl, hx, hr⟩ := map_er_cons e1
  obtain rfl := map_er_nil hr
  obtain ⟨y, r, rfl, hy, hr⟩ := erK_cons e2
  obtain ⟨z, r, rfl, hz, hr⟩ := erK_cons hr
  obtain rfl := erK_nil hr
  exact ⟨_, BindsTo.of_defaults hd (X0 _ _ ho) hs (h₁ x y z) (h₂ x y z), by simp [erK, hx, hy, hz]⟩
end

/-! # Lay22 -/

section
variable {α β : Type} {W : Wd} {A : Around} {B : Base} {fe env : Env} {fs : List (Env × LM)} {m : LM} {σ τ ρ : AH} {es : List Env} {u : Nat}

/-- what follows a statement -/
def Nx (W : Wd) (A : Around) (B : Base) (fe : Env) (fs : List (Env × LM)) (rest : List Stmt) (env : Env) (Q : Flow → LM → AH → Prop) (X : Value → Bool → LM → AH → Prop) (f : Flow) (m : LM) (σ : AH) : Prop :=
  match f with
  | .next => Tr W A B fe fs (execs rest env) m σ Q X
  | f => Q f m σ
theorem t_stmt {st : Stmt} {rest : List Stmt} {Q : Flow → LM → AH → Prop} {X} (h : Tr W A B fe fs (exec st env) m σ (Nx W A B fe fs rest env Q X) X) : Tr W A B fe fs (execs (st :: rest) env) m σ Q X :=
  t_execs_cons (h.mono (fun f m' σ' q => by cases f <;> exact q) fun _ _ _ _ x => x)
theorem nx_next {rest : List Stmt} {Q : Flow → LM → AH → Prop} {X} (h : Tr W A B fe fs (execs rest env) m σ Q X) : Nx W A B fe fs rest env Q X .next m σ := h
theorem nx_brk {rest : List Stmt} {Q : Flow → LM → AH → Prop} {X} (h : Q .brk m σ) : Nx W A B fe fs rest env Q X .brk m σ := h
theorem nx_cont {rest : List Stmt} {Q : Flow → LM → AH → Prop} {X} (h : Q .cont m σ) : Nx W A B fe fs rest env Q X .cont m σ := h

/-- a choice -/
def Ch (b : Bool) (P N : Prop) : Prop := (b = true → P) ∧ (b = false → N)
theorem ch_t {P N : Prop} (h : P) : Ch true P N := ⟨fun _ => h, (by intro e; cases e)⟩
theorem ch_f {P N : Prop} (h : N) : Ch false P N := ⟨(by intro e; cases e), fun _ => h⟩
theorem ch_if {b : Bool} {P N : Prop} (h : Ch b P N) : if b = true then P else N := by
  cases b with
  | true => rw [if_pos rfl]; exact h.1 rfl
  | false => rw [if_neg (by decide)]; exact h.2 rfl
theorem t_Cond {test body orelse pos} {Q : Flow → LM → AH → Prop} {X} (h : Tr W A B fe fs (isTrue test env (eval test env)) m σ (fun b m' σ' => Ch b (Tr W A B fe fs (execs body env) m' σ' Q X) (Tr W A B fe fs (execs orelse env) m' σ' Q X)) X) :
    Tr W A B fe fs (exec (.If test body orelse pos) env) m σ Q X := t_If (h.mono (fun _ _ _ q => ch_if q) fun _ _ _ _ x => x)
theorem t_CondE {test body orelse pos} {Q X} (h : Tr W A B fe fs (isTrue test env (eval test env)) m σ (fun b m' σ' => Ch b (TrV W A B fe fs (eval body env) m' σ' Q X) (TrV W A B fe fs (eval orelse env) m' σ' Q X)) X) :
    TrV W A B fe fs (eval (.IfExp test body orelse pos) env) m σ Q X := t_IfExp (h.mono (fun _ _ _ q => ch_if q) fun _ _ _ _ x => x)
theorem t_and {x : Expr} {rest : List Expr} {Q : Bool → LM → AH → Prop} {X} (h : Tr W A B fe fs (isTrue x env (eval x env)) m σ (fun b m' σ' => Ch b (Tr W A B fe fs (allTrue .And rest env) m' σ' Q X) (Q false m' σ')) X) :
    Tr W A B fe fs (allTrue .And (x :: rest) env) m σ Q X := t_and_cons (h.mono (fun _ _ _ q => ch_if q) fun _ _ _ _ x => x)
theorem t_or {x : Expr} {rest : List Expr} {Q : Bool → LM → AH → Prop} {X} (h : Tr W A B fe fs (isTrue x env (eval x env)) m σ (fun b m' σ' => Ch b (Q true m' σ') (Tr W A B fe fs (allTrue .Or rest env) m' σ' Q X)) X) :
    Tr W A B fe fs (allTrue .Or (x :: rest) env) m σ Q X := t_or_cons (h.mono (fun _ _ _ q => ch_if q) fun _ _ _ _ x => x)
theorem t_chain2 {l r₁ r₂ : Expr} {op₁ op₂ : CmpOp} {pos : Pos} {whole} {Q : Bool → LM → AH → Prop} {X}
    (h : TrV W A B fe fs (eval l env) m σ (fun a m₁ σ₁ => TrV W A B fe fs (eval r₁ env) m₁ σ₁ (fun b m₂ σ₂ => Op2 W A B fe fs (compareOp op₁) a b m₂ σ₂ (ErQ fun c m₃ σ₃ => Op1 W A B fe fs truthy c m₃ σ₃ (fun t m₄ σ₄ =>
      Ch t (TrV W A B fe fs (eval r₂ env) m₄ σ₄ (fun d m₅ σ₅ => Op2 W A B fe fs (compareOp op₂) b d m₅ σ₅ (ErQ fun c m₆ σ₆ => Op1 W A B fe fs truthy c m₆ σ₆ Q X) X) X) (Q false m₄ σ₄)) X) X) X) X)
    (hm : lastMarks [op₁, op₂] [r₁, r₂] = false := by with_unfolding_all rfl) : Tr W A B fe fs (isTrue (.Compare l [op₁, op₂] [r₁, r₂] pos) env whole) m σ Q X :=
  t_isChain2 (h.mono (fun a m₁ σ₁ h₁ => Tr.mono h₁ (fun b m₂ σ₂ h₂ => fun x y hx hy => (h₂ x y hx hy).mono (fun c m₃ σ₃ h₃ => fun x hx => (h₃ x hx).mono (fun t m₄ σ₄ h₄ => ch_if h₄) fun _ _ _ _ x => x) fun _ _ _ _ x => x) fun _ _ _ _ x => x) fun _ _ _ _ x => x) hm
/-- the end of a def's body -/
def RQ (Q : Value → AH → Prop) : Flow → LM → AH → Prop := fun fl _ σ' => Q (er (retv fl)) σ'
theorem t_Glob {x : Str} {pos} {v : Value} {Q X} (O : Ok W A B es u) (e : nsIn W.K mainGlobals x = some (some v)) (h : Q v m σ) (he : er v = v := by with_unfolding_all rfl)
    (hg : env.globals = mainGlobals := by with_unfolding_all rfl) (hk : env.scope.kind = .function := by with_unfolding_all rfl) (hx : env.kindOf x = some .globalImplicit := by with_unfolding_all rfl) (hd : (x == ("__debug__" : Str)) = false := by decide) :
    TrV W A B fe fs (eval (.Name x pos) env) m σ Q X := t_Global O e (by rw [he]; exact h) hg hk hx hd
theorem t_Bi {x : Str} {pos} {v : Value} {Q X} (O : Ok W A B es u) (e : nsIn W.K mainGlobals x = some none) (hv : bootBuiltins x = some v) (h : Q v m σ) (he : er v = v := by with_unfolding_all rfl)
    (hn : x ≠ "__name__" := by decide) (hg : env.globals = mainGlobals := by with_unfolding_all rfl) (hb : env.builtins = builtinsNs := by with_unfolding_all rfl) (hk : env.scope.kind = .function := by with_unfolding_all rfl) (hx : env.kindOf x = some .globalImplicit := by with_unfolding_all rfl) (hd : (x == ("__debug__" : Str)) = false := by decide) :
    TrV W A B fe fs (eval (.Name x pos) env) m σ Q X := t_Builtin O e hv (by rw [he]; exact h) hn hg hb hk hx hd
/-- the body of a def, from its entry -/
theorem CallR.go {f : Addr} {name qual : Str} {params : Arguments} {body : List Stmt} {scope : Scope} {dV kV doc pm cdv ct oc : Value} {an od : Option Addr} {osl : Array (Option Value)}
    {pos : List Value} {kw bs : List (Str × Value)} {Q : Value → AH → Prop} {X : Value → Bool → AH → Prop} (O : Ok W A B (fs.map (·.1)) 0) (hsh : fs.length < 60)
    (ho : W.K.lookup f = some ⟨oc, od, .func (fnOf name qual params body scope dV kV doc pm an cdv ct), osl⟩) (hcd : codeIn W.K cdv qual = true)
    (hb : Binds W (fnOf name qual params body scope dV kV doc pm an cdv ct) pos kw bs)
    (hloc : (bs.all fun x => scope.names.lookup x.1 == some .local) = true)
    (h : ∀ L A', Ok W A' B (envOf qual scope L f cdv :: fs.map (·.1)) 8 → A'.handled = A.handled →
      Tr W A' B (envOf qual scope L f cdv) fs (execs body (envOf qual scope L f cdv)) (fun x => bs.reverse.lookup x) σ (RQ Q) (fun c b _ σ' => X c b σ'))
    (hco : scope.isCoroutine = false := by with_unfolding_all rfl) (hgen : scope.isGenerator = false := by with_unfolding_all rfl) (hk : scope.kind = .function := by with_unfolding_all rfl)
    (hcell : ∀ x ∈ scope.names, x.2 ≠ .cell := by decide) : CallR W A B fs (.ref f) pos kw σ Q X := CallR.def O hsh ho hcd hb hloc h hco hgen hk hcell
end

/-! # Lay23 -/

section
variable {α β : Type} {W : Wd} {A : Around} {B : Base} {fe env : Env} {fs : List (Env × LM)} {m : LM} {σ τ ρ : AH} {es : List Env} {u : Nat}
theorem kp {f : Value} {P : Prop} (h : KeepF W.K f = true) (q : P) : KeepF W.K f = true ∧ P := ⟨h, q⟩
theorem t_bi_isinstance {pos} {Q X} (O : Ok W A B es u) (e : nsIn W.K mainGlobals "isinstance" = some none) (h : Q (.builtin "isinstance") m σ)
    (hg : env.globals = mainGlobals := by with_unfolding_all rfl) (hb : env.builtins = builtinsNs := by with_unfolding_all rfl) (hk : env.scope.kind = .function := by with_unfolding_all rfl) (hx : env.kindOf "isinstance" = some .globalImplicit := by with_unfolding_all rfl) :
    TrV W A B fe fs (eval (.Name "isinstance" pos) env) m σ Q X := t_Bi O e (by with_unfolding_all rfl) h rfl (by decide) hg hb hk hx
theorem t_bi_len {pos} {Q X} (O : Ok W A B es u) (e : nsIn W.K mainGlobals "len" = some none) (h : Q (.builtin "len") m σ)
    (hg : env.globals = mainGlobals := by with_unfolding_all rfl) (hb : env.builtins = builtinsNs := by with_unfolding_all rfl) (hk : env.scope.kind = .function := by with_unfolding_all rfl) (hx : env.kindOf "len" = some .globalImplicit := by with_unfolding_all rfl) :
    TrV W A B fe fs (eval (.Name "len" pos) env) m σ Q X := t_Bi O e (by with_unfolding_all rfl) h rfl (by decide) hg hb hk hx
theorem t_bi_int {pos} {Q X} (O : Ok W A B es u) (e : nsIn W.K mainGlobals "int" = some none) (h : Q (.type "int") m σ)
    (hg : env.globals = mainGlobals := by with_unfolding_all rfl) (hb : env.builtins = builtinsNs := by with_unfolding_all rfl) (hk : env.scope.kind = .function := by with_unfolding_all rfl) (hx : env.kindOf "int" = some .globalImplicit := by with_unfolding_all rfl) :
    TrV W A B fe fs (eval (.Name "int" pos) env) m σ Q X := t_Bi O e (by with_unfolding_all rfl) h rfl (by decide) hg hb hk hx
theorem t_bi_bool {pos} {Q X} (O : Ok W A B es u) (e : nsIn W.K mainGlobals "bool" = some none) (h : Q (.type "bool") m σ)
    (hg : env.globals = mainGlobals := by with_unfolding_all rfl) (hb : env.builtins = builtinsNs := by with_unfolding_all rfl) (hk : env.scope.kind = .function := by with_unfolding_all rfl) (hx : env.kindOf "bool" = some .globalImplicit := by with_unfolding_all rfl) :
    TrV W A B fe fs (eval (.Name "bool" pos) env) m σ Q X := t_Bi O e (by with_unfolding_all rfl) h rfl (by decide) hg hb hk hx
theorem t_bi_range {pos} {Q X} (O : Ok W A B es u) (e : nsIn W.K mainGlobals "range" = some none) (h : Q (.type "range") m σ)
    (hg : env.globals = mainGlobals := by with_unfolding_all rfl) (hb : env.builtins = builtinsNs := by with_unfolding_all rfl) (hk : env.scope.kind = .function := by with_unfolding_all rfl) (hx : env.kindOf "range" = some .globalImplicit := by with_unfolding_all rfl) :
    TrV W A B fe fs (eval (.Name "range" pos) env) m σ Q X := t_Bi O e (by with_unfolding_all rfl) h rfl (by decide) hg hb hk hx
theorem t_bi_sorted {pos} {Q X} (O : Ok W A B es u) (e : nsIn W.K mainGlobals "sorted" = some none) (h : Q (.builtin "sorted") m σ)
    (hg : env.globals = mainGlobals := by with_unfolding_all rfl) (hb : env.builtins = builtinsNs := by with_unfolding_all rfl) (hk : env.scope.kind = .function := by with_unfolding_all rfl) (hx : env.kindOf "sorted" = some .globalImplicit := by with_unfolding_all rfl) :
    TrV W A B fe fs (eval (.Name "sorted" pos) env) m σ Q X := t_Bi O e (by with_unfolding_all rfl) h rfl (by decide) hg hb hk hx
theorem t_bi_enumerate {pos} {Q X} (O : Ok W A B es u) (e : nsIn W.K mainGlobals "enumerate" = some none) (h : Q (.type "enumerate") m σ)
    (hg : env.globals = mainGlobals := by with_unfolding_all rfl) (hb : env.builtins = builtinsNs := by with_unfolding_all rfl) (hk : env.scope.kind = .function := by with_unfolding_all rfl) (hx : env.kindOf "enumerate" = some .globalImplicit := by with_unfolding_all rfl) :
    TrV W A B fe fs (eval (.Name "enumerate" pos) env) m σ Q X := t_Bi O e (by with_unfolding_all rfl) h rfl (by decide) hg hb hk hx
end

/-! # Lay24 -/

section
variable {α β : Type} {W : Wd} {A : Around} {B : Base} {fe env : Env} {fs : List (Env × LM)} {m : LM} {σ τ ρ : AH} {es : List Env} {u : Nat}

/-- where a value handed back goes to -/
def RetTo (P : Flow → LM → AH → Prop) (Q : Value → AH → Prop) : Prop := ∀ r m σ, Q (er r) σ → P (.ret r) m σ
/-- a value handed back -/
def Rt (v : Value) (P : Flow → LM → AH → Prop) (m : LM) (σ : AH) : Prop := ∀ r, er r = v → P (.ret r) m σ
theorem rt_rq {v : Value} {Q : Value → AH → Prop} (h : Q v σ) : Rt v (RQ Q) m σ := fun r e => by show Q (er r) σ; rw [e]; exact h
theorem rt_nx {v : Value} {rest : List Stmt} {P : Flow → LM → AH → Prop} {X : Value → Bool → LM → AH → Prop} (h : Rt v P m σ) : Rt v (Nx W A B fe fs rest env P X) m σ := fun r e => h r e
theorem t_Rtn {e pos} {P : Flow → LM → AH → Prop} {X} (h : TrV W A B fe fs (eval e env) m σ (fun v m' σ' => Rt v P m' σ') X) : Tr W A B fe fs (exec (.Return (some e) pos) env) m σ P X := t_Return h
theorem t_RtnN {pos} {P : Flow → LM → AH → Prop} {X} (h : Rt .none P m σ) : Tr W A B fe fs (exec (.Return none pos) env) m σ P X := t_ReturnN (h _ rfl)
theorem rq_next {Q : Value → AH → Prop} (h : Q .none σ) : RQ Q .next m σ := h

/-- the end of a loop's body -/
def LQ (I : LM → AH → Prop) (Q : Flow → LM → AH → Prop) : Flow → LM → AH → Prop
  | .next => I
  | .cont => I
  | .brk => Q .next
  | .ret v => Q (.ret v)
theorem lq_next {I : LM → AH → Prop} {Q : Flow → LM → AH → Prop} (h : I m σ) : LQ I Q .next m σ := h
theorem lq_cont {I : LM → AH → Prop} {Q : Flow → LM → AH → Prop} (h : I m σ) : LQ I Q .cont m σ := h
theorem lq_brk {I : LM → AH → Prop} {Q : Flow → LM → AH → Prop} (h : Q .next m σ) : LQ I Q .brk m σ := h
theorem rt_lq {v : Value} {I : LM → AH → Prop} {P : Flow → LM → AH → Prop} (h : Rt v P m σ) : Rt v (LQ I P) m σ := fun r e => h r e
theorem t_Wh {test body pos} {Q : Flow → LM → AH → Prop} {X} (O : Ok W A B (fe :: fs.map (·.1)) u) (I : Nat → LM → AH → Prop) (n : Nat) (h : I n m σ)
    (turn : ∀ n m σ, I n m σ → Tr W A B fe fs (isTrue test fe (eval test fe)) m σ (fun b m₁ σ₁ => Ch b (Tr W A B fe fs (execs body fe) m₁ σ₁ (LQ (fun m₂ σ₂ => ∃ k, k < n ∧ I k m₂ σ₂) Q) X) (Q .next m₁ σ₁)) X) :
    Tr W A B fe fs (exec (.While test body [] pos) fe) m σ Q X :=
  t_While O I (fun n m σ hI => (turn n m σ hI).mono (fun b m₁ σ₁ q => ch_if ⟨fun e => (q.1 e).mono (fun f m₂ σ₂ z => by cases f <;> exact z) fun _ _ _ _ x => x, q.2⟩) fun _ _ _ _ x => x) n h
theorem t_ForL {target iter body pos} {Q : Flow → LM → AH → Prop} {X} (O : Ok W A B (fe :: fs.map (·.1)) u) (H : HdOk A B)
    (h : TrV W A B fe fs (eval iter fe) m σ (fun x m₁ σ₁ => ∃ l vs, x = .ref l ∧ ∃ I : Nat → LM → AH → Prop, I 0 m₁ σ₁ ∧ (∀ i m σ, I i m σ → σ l = some (.seq "list" vs)) ∧ (∀ m σ, I vs.length m σ → Q .next m σ) ∧
      ∀ B', B.le B' → ∀ i m σ v, I i m σ → vs[i]? = some v → ∀ r, er r = v → Tr W A B' fe fs (assign target fe r) m σ (fun _ m₁ σ₁ => Tr W A B' fe fs (execs body fe) m₁ σ₁ (LQ (I (i + 1)) Q) X) X) X)
    (hs : ∀ x, foldedSetIterable iter fe x = pure x := by intro _; with_unfolding_all rfl) : Tr W A B fe fs (exec (.For target iter body [] pos) fe) m σ Q X :=
  t_ForList O H (h.mono (fun x m₁ σ₁ ⟨l, vs, hx, I, h0, hl, he, ht⟩ => ⟨l, vs, hx, I, h0, hl, he, fun B' hB i m σ v hI hv r hr => t_bind ((ht B' hB i m σ v hI hv r hr).mono (fun _ m₁ σ₁ q => q.mono (fun f m₂ σ₂ z => by cases f <;> exact z) fun _ _ _ _ x => x) fun _ _ _ _ x => x)⟩) fun _ _ _ _ x => x) hs
theorem t_asName {x : Str} {xp : Pos} {v w : Value} {Q : Unit → LM → AH → Prop} {X} (hw : er v = w) (h : Q () (upd m x (some w)) σ) (hl : fe.kindOf x = some .local := by with_unfolding_all rfl) (hm : fe.scope.kind = .function := by with_unfolding_all rfl) : Tr W A B fe fs (assign (.Name x xp) fe v) m σ Q X :=
  t_assignName (by rw [hw]; exact h) hl hm
theorem t_asPair {e₁ e₂ : Expr} {k : Nat} {pos : Pos} {t : Addr} {a b v : Value} {Q : Unit → LM → AH → Prop} {X} (H : HdOk A B) (hv : er v = .ref t) (hσ : σ t = some (.seq "tuple" [a, b]))
    (h : ∀ x y, er x = a → er y = b → Tr W A B fe fs (assign e₁ env x) m σ (fun _ m₁ σ₁ => Tr W A B fe fs (assign e₂ env y) m₁ σ₁ Q X) X)
    (h1 : assignEach [e₁, e₂] env = [(false, assign e₁ env), (false, assign e₂ env)] := by with_unfolding_all rfl) : Tr W A B fe fs (assign (.Tuple [e₁, e₂] k pos) env v) m σ Q X := t_assignTuple2 H hv hσ h h1

theorem op_pair0 {value slice : Expr} {t : Addr} {a b : Value} {Q X} (hσ : σ t = some (.seq "tuple" [a, b])) (h : Q a m σ)
    (hs : ∀ u, subscripted slice false (.ref t) (.int 0 u) = operate [.ref t, .int 0 u] (getItem (.ref t) (.int 0 u)) := by intro _; with_unfolding_all rfl) :
    Op2 W A B fe fs (subscriptTail value slice) (.ref t) (.int 0 0) m σ (ErQ Q) X := op_itemTuple hσ (by decide) (by decide) (j := 0) rfl rfl h hs
theorem op_pair1 {value slice : Expr} {t : Addr} {a b : Value} {Q X} (hσ : σ t = some (.seq "tuple" [a, b])) (h : Q b m σ)
    (hs : ∀ u, subscripted slice false (.ref t) (.int 1 u) = operate [.ref t, .int 1 u] (getItem (.ref t) (.int 1 u)) := by intro _; with_unfolding_all rfl) :
    Op2 W A B fe fs (subscriptTail value slice) (.ref t) (.int 1 0) m σ (ErQ Q) X := op_itemTuple hσ (by decide) (by decide) (j := 1) rfl rfl h hs

theorem t_cwM0 {pos : Pos} {f : Value} {first : List Value} {Q X} (O : Ok W A B es u) (hk : KeepF W.K f = true)
    (h : CallW W A B ((fe, m) :: fs) f (first.map er) [] σ (fun v σ' => Q v m σ') (fun c b σ' => X c b m σ')) :
    TrV W A B fe fs (callWith pos (f, first).1 (f, first).2 (backTo pos (starEach [] env)) (backToKw pos (keywordEach [] env))) m σ Q X := t_callWith0 O hk h
theorem t_cwM {pos : Pos} {f : Value} {first : List Value} {e : Expr} {rest : List Expr} {Q X} (O : Ok W A B es u) (hk : KeepF W.K f = true)
    (h : TrL W A B fe fs (spliced (backTo pos (starEach (e :: rest) env))) m σ (fun vs m' σ' => CallW W A B ((fe, m') :: fs) f (first.map er ++ vs) [] σ' (fun v σ'' => Q v m' σ'') (fun c b σ'' => X c b m' σ'')) X)
    (he : starEach (e :: rest) env = (false, eval e env) :: starEach rest env := by with_unfolding_all rfl) (hplain : (backTo pos (starEach rest env)).any (·.1) = false := by with_unfolding_all rfl) :
    TrV W A B fe fs (callWith pos (f, first).1 (f, first).2 (backTo pos (starEach (e :: rest) env)) (backToKw pos (keywordEach [] env))) m σ Q X := t_callWith O hk h he hplain
theorem t_cwMK {pos : Pos} {f : Value} {first : List Value} {e : Expr} {rest : List Expr} {kws : List Keyword} {names : List Str} {Q X} (O : Ok W A B es u) (hk : KeepF W.K f = true)
    (h : TrL W A B fe fs (spliced (backTo pos (starEach (e :: rest) env))) m σ (fun vs m' σ' => TrL W A B fe fs (evalAll ((backToKw pos (keywordEach kws env)).map (·.2))) m' σ' (fun ks m' σ' =>
      CallW W A B ((fe, m') :: fs) f (first.map er ++ vs) (names.zip ks) σ' (fun v σ'' => Q v m' σ'') (fun c b σ'' => X c b m' σ'')) X) X)
    (hn : (backToKw pos (keywordEach kws env)).filterMap (·.1) = names := by with_unfolding_all rfl) (hall : (backToKw pos (keywordEach kws env)).all (·.1.isSome) = true := by with_unfolding_all rfl)
    (hplain : ((backTo pos (starEach (e :: rest) env)).any (·.1) || (backToKw pos (keywordEach kws env)).any (·.1.isNone)) = false := by with_unfolding_all rfl)
    (he : starEach (e :: rest) env = (false, eval e env) :: starEach rest env := by with_unfolding_all rfl) :
    TrV W A B fe fs (callWith pos (f, first).1 (f, first).2 (backTo pos (starEach (e :: rest) env)) (backToKw pos (keywordEach kws env))) m σ Q X := t_callWithK O hk h hn hall hplain he
/-- try/finally, the clean-up told once -/
theorem t_Fin {body : List Stmt} {f₀ : Stmt} {fin : List Stmt} {pos : Pos} {Q : Flow → LM → AH → Prop} {X : Value → Bool → LM → AH → Prop} (O : Ok W A B (fe :: fs.map (·.1)) u) (H : HdOk A B) (J K : Flow ⊕ Value → LM → AH → Prop)
    (hbody : Tr W A B fe fs (execs body fe) m σ (fun f m σ => J (.inl f) m σ) (fun cls ctx m σ => ctx = false ∧ J (.inr cls) m σ))
    (hfin : ∀ A' B', B.le B' → (∀ es u, Ok W A B es u → Ok W A' B' es u) → HdOk A' B' → ∀ z m₁ σ₁, J z m₁ σ₁ → Tr W A' B' fe fs (execs (f₀ :: fin) fe) m₁ σ₁ (fun g m₂ σ₂ => g = .next ∧ K z m₂ σ₂) (fun _ _ _ _ => False))
    (hq : ∀ f m σ, K (.inl f) m σ → Q f m σ) (hx : ∀ cls m σ, K (.inr cls) m σ → X cls false m σ) :
    Tr W A B fe fs (exec (.Try body [] [] (f₀ :: fin) pos) fe) m σ Q X :=
  t_Finally O (hbody.mono (fun f m₁ σ₁ j => (hfin A B ⟨fun _ _ e => e, rfl, rfl⟩ (fun _ _ o => o) H _ _ _ j).mono (fun g m₂ σ₂ q => ⟨q.1, hq _ _ _ q.2⟩) fun _ _ _ _ x => x)
    fun cls ctx m₁ σ₁ j A' B' hB hO hH => by
      obtain ⟨rfl, j⟩ := j
      exact (hfin A' B' hB hO (hH rfl) _ _ _ j).mono (fun g m₂ σ₂ q => ⟨q.1, hx _ _ _ q.2⟩) fun _ _ _ _ x => x)
/-- try/except with the body's ends named -/
theorem t_Exc {body : List Stmt} {h₀ : ExceptHandler} {hs : List ExceptHandler} {pos : Pos} {Q : Flow → LM → AH → Prop} {X : Value → Bool → LM → AH → Prop} (O : Ok W A B (fe :: fs.map (·.1)) u)
    (h : Tr W A B fe fs (execs body fe) m σ Q (fun cls ctx m₁ σ₁ => Hn W A B fe fs Q X cls ctx m₁ σ₁ (h₀ :: hs))) (hn : ∀ m σ, Q .next m σ → Q .next m σ) :
    Tr W A B fe fs (exec (.Try body (h₀ :: hs) [] [] pos) fe) m σ Q X :=
  t_Try O (h.mono (fun f m₁ σ₁ q => by cases f <;> first | exact q | exact t_execs_nil q) fun _ _ _ _ x => x)
end

/-! # Lay40 -/

/-! ## what kind of goal it is (a rule's own side conditions are tried only where its shape fits) -/
section
variable {α : Type} {W : Wd} {A : Around} {B : Base} {fe env : Env} {fs : List (Env × LM)} {m : LM} {σ : AH} {X : Value → Bool → LM → AH → Prop}
theorem is_name {x : Str} {pos : Pos} {Q : Value → LM → AH → Prop} (h : TrV W A B fe fs (eval (.Name x pos) env) m σ Q X) : TrV W A B fe fs (eval (.Name x pos) env) m σ Q X := h
theorem is_local {x : Str} {pos : Pos} {Q : Value → LM → AH → Prop} (hl : env.kindOf x = some .local) (h : TrV W A B fe fs (eval (.Name x pos) env) m σ Q X) : TrV W A B fe fs (eval (.Name x pos) env) m σ Q X := h
theorem is_eval {e : Expr} {Q : Value → LM → AH → Prop} (h : TrV W A B fe fs (eval e env) m σ Q X) : TrV W A B fe fs (eval e env) m σ Q X := h
theorem is_attr {v : Expr} {a : Str} {pos : Pos} {Q : Value → LM → AH → Prop} (h : TrV W A B fe fs (eval (.Attribute v a pos) env) m σ Q X) : TrV W A B fe fs (eval (.Attribute v a pos) env) m σ Q X := h
theorem is_call {f : Expr} {args : List Expr} {kws : List Keyword} {pos : Pos} {Q : Value → LM → AH → Prop} (h : TrV W A B fe fs (eval (.Call f args kws pos) env) m σ Q X) : TrV W A B fe fs (eval (.Call f args kws pos) env) m σ Q X := h
theorem is_cmp {l : Expr} {ops : List CmpOp} {rs : List Expr} {pos : Pos} {Q : Value → LM → AH → Prop} (h : TrV W A B fe fs (eval (.Compare l ops rs pos) env) m σ Q X) : TrV W A B fe fs (eval (.Compare l ops rs pos) env) m σ Q X := h
theorem is_subs {v s : Expr} {pos : Pos} {Q : Value → LM → AH → Prop} (h : TrV W A B fe fs (eval (.Subscript v s pos) env) m σ Q X) : TrV W A B fe fs (eval (.Subscript v s pos) env) m σ Q X := h
theorem is_dict {ks : List (Option Expr)} {vs : List Expr} {pos : Pos} {Q : Value → LM → AH → Prop} (h : TrV W A B fe fs (eval (.Dict ks vs pos) env) m σ Q X) : TrV W A B fe fs (eval (.Dict ks vs pos) env) m σ Q X := h
theorem is_exec {st : Stmt} {P : Flow → LM → AH → Prop} (h : Tr W A B fe fs (exec st env) m σ P X) : Tr W A B fe fs (exec st env) m σ P X := h
theorem is_assign {ts : List Expr} {v : Expr} {pos : Pos} {P : Flow → LM → AH → Prop} (h : Tr W A B fe fs (exec (.Assign ts v pos) env) m σ P X) : Tr W A B fe fs (exec (.Assign ts v pos) env) m σ P X := h
theorem is_asAttr {o : Expr} {a : Str} {p : Pos} {v : Expr} {pos : Pos} {P : Flow → LM → AH → Prop} (h : Tr W A B fe fs (exec (.Assign [.Attribute o a p] v pos) env) m σ P X) : Tr W A B fe fs (exec (.Assign [.Attribute o a p] v pos) env) m σ P X := h
theorem is_asSub {o i : Expr} {p : Pos} {v : Expr} {pos : Pos} {P : Flow → LM → AH → Prop} (h : Tr W A B fe fs (exec (.Assign [.Subscript o i p] v pos) env) m σ P X) : Tr W A B fe fs (exec (.Assign [.Subscript o i p] v pos) env) m σ P X := h
theorem is_asNm {x : Str} {p : Pos} {v : Expr} {pos : Pos} {P : Flow → LM → AH → Prop} (h : Tr W A B fe fs (exec (.Assign [.Name x p] v pos) env) m σ P X) : Tr W A B fe fs (exec (.Assign [.Name x p] v pos) env) m σ P X := h
theorem is_aug {t : Expr} {op : Operator} {v : Expr} {pos : Pos} {P : Flow → LM → AH → Prop} (h : Tr W A B fe fs (exec (.AugAssign t op v pos) env) m σ P X) : Tr W A B fe fs (exec (.AugAssign t op v pos) env) m σ P X := h
theorem is_exprS {e : Expr} {pos : Pos} {P : Flow → LM → AH → Prop} (h : Tr W A B fe fs (exec (.Expr e pos) env) m σ P X) : Tr W A B fe fs (exec (.Expr e pos) env) m σ P X := h
theorem is_isT {e : Expr} {t : Sem Value} {P : Bool → LM → AH → Prop} (h : Tr W A B fe fs (isTrue e env t) m σ P X) : Tr W A B fe fs (isTrue e env t) m σ P X := h
theorem is_isTC {l : Expr} {ops : List CmpOp} {rs : List Expr} {pos : Pos} {t : Sem Value} {P : Bool → LM → AH → Prop} (h : Tr W A B fe fs (isTrue (.Compare l ops rs pos) env t) m σ P X) : Tr W A B fe fs (isTrue (.Compare l ops rs pos) env t) m σ P X := h
theorem is_asgn {t : Expr} {v : Value} {P : Unit → LM → AH → Prop} (h : Tr W A B fe fs (assign t env v) m σ P X) : Tr W A B fe fs (assign t env v) m σ P X := h
theorem is_args {pos : Pos} {es : List Expr} {P : List Value → LM → AH → Prop} (h : TrL W A B fe fs (spliced (backTo pos (starEach es env))) m σ P X) : TrL W A B fe fs (spliced (backTo pos (starEach es env))) m σ P X := h
theorem is_cw {pos : Pos} {f : Value} {first : List Value} {a} {k} {Q : Value → LM → AH → Prop} (h : TrV W A B fe fs (callWith pos f first a k) m σ Q X) : TrV W A B fe fs (callWith pos f first a k) m σ Q X := h
theorem is_keep {f : Value} {P : Prop} (h : KeepF W.K f = true ∧ P) : KeepF W.K f = true ∧ P := h
end

/-! # Lay25 -/

section
variable {α β : Type} {W : Wd} {A : Around} {B : Base} {fe env : Env} {fs : List (Env × LM)} {m : LM} {σ τ ρ : AH} {es : List Env} {u : Nat}
theorem t_GlobG {x : Str} {pos} {v : Value} {Q X} (g : Gd W B) (e : nsIn W.K mainGlobals x = some (some v)) (h : Q (er v) m σ)
    (hg : env.globals = mainGlobals := by with_unfolding_all rfl) (hk : env.scope.kind = .function := by with_unfolding_all rfl) (hx : env.kindOf x = some .globalImplicit := by with_unfolding_all rfl) (hd : (x == ("__debug__" : Str)) = false := by decide) :
    TrV W A B fe fs (eval (.Name x pos) env) m σ Q X := fun s R => by
  have X0 := g.X.keeps R.keep
  have T0 := (topRead_of g.T).keeps R.keep
  exact Calls.Name_function_global hk hx (Calls.loadGlobal_global (by rw [hg]; exact T0.g) (mg_of X0 T0.g e) ⟨m, σ, R, h⟩) hd
theorem t_BuiltinG {x : Str} {pos} {v : Value} {Q X} (g : Gd W B) (e : nsIn W.K mainGlobals x = some none) (hv : bootBuiltins x = some v) (h : Q (er v) m σ)
    (hn : x ≠ "__name__" := by decide) (hg : env.globals = mainGlobals := by with_unfolding_all rfl) (hb : env.builtins = builtinsNs := by with_unfolding_all rfl) (hk : env.scope.kind = .function := by with_unfolding_all rfl) (hx : env.kindOf x = some .globalImplicit := by with_unfolding_all rfl) (hd : (x == ("__debug__" : Str)) = false := by decide) :
    TrV W A B fe fs (eval (.Name x pos) env) m σ Q X := fun s R => by
  have X0 := g.X.keeps R.keep
  have T0 := (topRead_of g.T).keeps R.keep
  exact Calls.Name_function_global hk hx (Calls.loadGlobal_builtin (by rw [hg]; exact T0.g) (mg_none_of X0 T0.g e) (by rw [hb]; exact T0.b) ((T0.builtins x hn).trans hv) ⟨m, σ, R, h⟩) hd
/-- what a clause that names a class of the text's top asks -/
theorem spec_own {M : Model} {h : Heap} {C e : Addr} {cls : Value} {b : Bool} {d : Option Addr} {dat : Array Value} {sl : Array (Option Value)} {oc : Value} {od : Option Addr} {cd : ClassData} {osl : Array (Option Value)} (X : W.K.In h) (hC : W.K.lookup C = some ⟨oc, od, .cls cd, osl⟩) (ht : typeIn W.K (.ref C) = some (.type "type"))
    (he : h.get? e = some ⟨cls, d, .fields dat, sl⟩) (h3 : subIn W.K (.ref C) (.type "BaseException") = some true) (h4 : subIn W.K cls (.ref C) = some b) : Looks M h (excMatches (.ref e) (.ref C)) b :=
  matches_K X he ((looks_typeIn X ht).andThen (Looks.of_pure tc_notTuple)) ((Looks.ld (X _ _ hC)).andThen .now) h3 h4
theorem spec_type {M : Model} {h : Heap} {T : String} {e : Addr} {cls : Value} {b : Bool} {d : Option Addr} {dat : Array Value} {sl : Array (Option Value)} (X : W.K.In h) (ht : typeOf (.type T) = pure (.type "type"))
    (he : h.get? e = some ⟨cls, d, .fields dat, sl⟩) (h3 : subIn W.K (.type T) (.type "BaseException") = some true) (h4 : subIn W.K cls (.type T) = some b) : Looks M h (excMatches (.ref e) (.type T)) b :=
  matches_K X he ((Looks.of_pure ht).andThen (Looks.of_pure tc_notTuple)) (Looks.of_pure rfl) h3 h4
section
variable {Q : Flow → LM → AH → Prop} {X : Value → Bool → LM → AH → Prop} {cls : Value} {ctx : Bool}
theorem hn_hit {t : Expr} {b₀ : Stmt} {suite : List Stmt} {pos : Pos} {rest : List ExceptHandler} {spec : Value} (hv : ∀ A' σ', TrV W A' B fe fs (eval t fe) m σ' (fun v m' σ'' => v = spec ∧ m' = m ∧ σ'' = σ') (fun _ _ _ _ => False))
    (hm : ∀ (h : Heap) (M : Model), B.h.StaysIn h → ∀ e d dat sl, h.get? e = some ⟨cls, d, .fields dat, sl⟩ → Looks M h (excMatches (.ref e) spec) true) (hk : KeepF W.K spec = true)
    (h : ∀ A' B', B.le B' → (∀ es u, Ok W A B es u → Ok W A' B' es u) → (ctx = false → HdOk A' B') → Tr W A' B' fe fs (execs (b₀ :: suite) fe) m σ Q X) :
    Hn W A B fe fs Q X cls ctx m σ (.ExceptHandler (some t) none (b₀ :: suite) pos :: rest) := .hit hv hm hk h
theorem hn_miss {t : Expr} {body : List Stmt} {nm : Option Str} {pos : Pos} {rest : List ExceptHandler} {spec : Value} (hv : ∀ A' σ', TrV W A' B fe fs (eval t fe) m σ' (fun v m' σ'' => v = spec ∧ m' = m ∧ σ'' = σ') (fun _ _ _ _ => False))
    (hm : ∀ (h : Heap) (M : Model), B.h.StaysIn h → ∀ e d dat sl, h.get? e = some ⟨cls, d, .fields dat, sl⟩ → Looks M h (excMatches (.ref e) spec) false) (hk : KeepF W.K spec = true)
    (h : Hn W A B fe fs Q X cls ctx m σ rest) : Hn W A B fe fs Q X cls ctx m σ (.ExceptHandler (some t) nm body pos :: rest) := .miss hv hm hk h
theorem hit_KeyError {xp : Pos} {b₀ : Stmt} {suite : List Stmt} {pos : Pos} {rest : List ExceptHandler} (g : Gd W B) (e : nsIn W.K mainGlobals "KeyError" = some none) (h3 : subIn W.K (.type "KeyError") (.type "BaseException") = some true) (h4 : subIn W.K cls (.type "KeyError") = some true)
    (h : ∀ A' B', B.le B' → (∀ es u, Ok W A B es u → Ok W A' B' es u) → (ctx = false → HdOk A' B') → Tr W A' B' fe fs (execs (b₀ :: suite) fe) m σ Q X)
    (hg : fe.globals = mainGlobals := by with_unfolding_all rfl) (hb : fe.builtins = builtinsNs := by with_unfolding_all rfl) (hk : fe.scope.kind = .function := by with_unfolding_all rfl) (hx : fe.kindOf "KeyError" = some .globalImplicit := by with_unfolding_all rfl) :
    Hn W A B fe fs Q X cls ctx m σ (.ExceptHandler (some (.Name "KeyError" xp)) none (b₀ :: suite) pos :: rest) :=
  hn_hit (spec := .type "KeyError") (fun A' σ' => t_BuiltinG (v := .type "KeyError") g e (by kernel_rfl) ⟨rfl, rfl, rfl⟩ (by decide) hg hb hk hx) (fun h M k e d dat sl he => spec_type (T := "KeyError") (g.X.keeps k) (by kernel_rfl) he h3 h4) (by kernel_rfl) h
theorem hit_IndexError {xp : Pos} {b₀ : Stmt} {suite : List Stmt} {pos : Pos} {rest : List ExceptHandler} (g : Gd W B) (e : nsIn W.K mainGlobals "IndexError" = some none) (h3 : subIn W.K (.type "IndexError") (.type "BaseException") = some true) (h4 : subIn W.K cls (.type "IndexError") = some true)
    (h : ∀ A' B', B.le B' → (∀ es u, Ok W A B es u → Ok W A' B' es u) → (ctx = false → HdOk A' B') → Tr W A' B' fe fs (execs (b₀ :: suite) fe) m σ Q X)
    (hg : fe.globals = mainGlobals := by with_unfolding_all rfl) (hb : fe.builtins = builtinsNs := by with_unfolding_all rfl) (hk : fe.scope.kind = .function := by with_unfolding_all rfl) (hx : fe.kindOf "IndexError" = some .globalImplicit := by with_unfolding_all rfl) :
    Hn W A B fe fs Q X cls ctx m σ (.ExceptHandler (some (.Name "IndexError" xp)) none (b₀ :: suite) pos :: rest) :=
  hn_hit (spec := .type "IndexError") (fun A' σ' => t_BuiltinG (v := .type "IndexError") g e (by kernel_rfl) ⟨rfl, rfl, rfl⟩ (by decide) hg hb hk hx) (fun h M k e d dat sl he => spec_type (T := "IndexError") (g.X.keeps k) (by kernel_rfl) he h3 h4) (by kernel_rfl) h
theorem hit_own {x : Str} {C : Addr} {xp : Pos} {b₀ : Stmt} {suite : List Stmt} {pos : Pos} {rest : List ExceptHandler} {oc : Value} {od : Option Addr} {cd : ClassData} {osl : Array (Option Value)} (g : Gd W B) (e : nsIn W.K mainGlobals x = some (some (.ref C)))
    (hC : W.K.lookup C = some ⟨oc, od, .cls cd, osl⟩) (ht : typeIn W.K (.ref C) = some (.type "type")) (h3 : subIn W.K (.ref C) (.type "BaseException") = some true) (h4 : subIn W.K cls (.ref C) = some true) (hkp : KeepF W.K (.ref C) = true)
    (h : ∀ A' B', B.le B' → (∀ es u, Ok W A B es u → Ok W A' B' es u) → (ctx = false → HdOk A' B') → Tr W A' B' fe fs (execs (b₀ :: suite) fe) m σ Q X)
    (hg : fe.globals = mainGlobals := by with_unfolding_all rfl) (hk : fe.scope.kind = .function := by with_unfolding_all rfl) (hx : fe.kindOf x = some .globalImplicit := by with_unfolding_all rfl) (hd : (x == ("__debug__" : Str)) = false := by decide) :
    Hn W A B fe fs Q X cls ctx m σ (.ExceptHandler (some (.Name x xp)) none (b₀ :: suite) pos :: rest) :=
  hn_hit (spec := .ref C) (fun A' σ' => t_GlobG g e ⟨rfl, rfl, rfl⟩ hg hk hx hd) (fun h M k e d dat sl he => spec_own (g.X.keeps k) hC ht he h3 h4) hkp h
theorem miss_own {x : Str} {C : Addr} {xp : Pos} {body : List Stmt} {nm : Option Str} {pos : Pos} {rest : List ExceptHandler} {oc : Value} {od : Option Addr} {cd : ClassData} {osl : Array (Option Value)} (g : Gd W B) (e : nsIn W.K mainGlobals x = some (some (.ref C)))
    (hC : W.K.lookup C = some ⟨oc, od, .cls cd, osl⟩) (ht : typeIn W.K (.ref C) = some (.type "type")) (h3 : subIn W.K (.ref C) (.type "BaseException") = some true) (h4 : subIn W.K cls (.ref C) = some false) (hkp : KeepF W.K (.ref C) = true)
    (h : Hn W A B fe fs Q X cls ctx m σ rest)
    (hg : fe.globals = mainGlobals := by with_unfolding_all rfl) (hk : fe.scope.kind = .function := by with_unfolding_all rfl) (hx : fe.kindOf x = some .globalImplicit := by with_unfolding_all rfl) (hd : (x == ("__debug__" : Str)) = false := by decide) :
    Hn W A B fe fs Q X cls ctx m σ (.ExceptHandler (some (.Name x xp)) nm body pos :: rest) :=
  hn_miss (spec := .ref C) (fun A' σ' => t_GlobG g e ⟨rfl, rfl, rfl⟩ hg hk hx hd) (fun h M k e d dat sl he => spec_own (g.X.keeps k) hC ht he h3 h4) hkp h
end
end

/-! # Lay26 -/

section
variable {W : Wd} {fd : FuncData} {a b c d e : Value} {p1 p2 p3 p4 p5 : Str} {T : Addr} {o : Obj} {items : Array Value} {n : Nat} {v3 v4 v5 : Value}
theorem binds5_5 {k : Value → Value → Value → Value → Value → Option (Array Value) → Sem (List (Str × Value))} (hd : fd.defaults = .ref T) (ho : W.K.lookup T = some o) (hs : o.data = .seq items n)
    (h₁ : ∀ x1 x2 x3 x4 x5, bindArgs fd ⟨[x1, x2, x3, x4, x5], []⟩ = seqItems? fd.defaults >>= k x1 x2 x3 x4 x5) (h₂ : ∀ x1 x2 x3 x4 x5, k x1 x2 x3 x4 x5 (some items) = pure [(p1, x1), (p2, x2), (p3, x3), (p4, x4), (p5, x5)]) : Binds W fd [a, b, c, d, e] [] [(p1, a), (p2, b), (p3, c), (p4, d), (p5, e)] := fun pos' kw' e1 e2 s X0 => by
  obtain ⟨x1, r, rfl, hx1, hr⟩ := map_er_cons e1
  obtain ⟨x2, r, rfl, hx2, hr⟩ := map_er_cons hr
  obtain ⟨x3, r, rfl, hx3, hr⟩ := map_er_cons hr
  obtain ⟨x4, r, rfl, hx4, hr⟩ := map_er_cons hr
  obtain ⟨x5, r, rfl, hx5, hr⟩ := map_er_cons hr
  obtain rfl := map_er_nil hr
  obtain rfl := erK_nil e2
  exact ⟨_, BindsTo.of_defaults hd (X0 _ _ ho) hs (h₁ x1 x2 x3 x4 x5) (h₂ x1 x2 x3 x4 x5), by simp [erK, hx1, hx2, hx3, hx4, hx5]⟩
theorem binds5_2 {k : Value → Value → Option (Array Value) → Sem (List (Str × Value))} (hd : fd.defaults = .ref T) (ho : W.K.lookup T = some o) (hs : o.data = .seq items n)
    (h₁ : ∀ x1 x2, bindArgs fd ⟨[x1, x2], []⟩ = seqItems? fd.defaults >>= k x1 x2) (h₂ : ∀ x1 x2, k x1 x2 (some items) = pure [(p1, x1), (p2, x2), (p3, v3), (p4, v4), (p5, v5)]) : Binds W fd [a, b] [] [(p1, a), (p2, b), (p3, er v3), (p4, er v4), (p5, er v5)] := fun pos' kw' e1 e2 s X0 => by
  obtain ⟨x1, r, rfl, hx1, hr⟩ := map_er_cons e1
  obtain ⟨x2, r, rfl, hx2, hr⟩ := map_er_cons hr
  obtain rfl := map_er_nil hr
  obtain rfl := erK_nil e2
  exact ⟨_, BindsTo.of_defaults hd (X0 _ _ ho) hs (h₁ x1 x2) (h₂ x1 x2), by simp [erK, hx1, hx2]⟩
theorem binds5_4 {k : Value → Value → Value → Value → Option (Array Value) → Sem (List (Str × Value))} (hd : fd.defaults = .ref T) (ho : W.K.lookup T = some o) (hs : o.data = .seq items n)
    (h₁ : ∀ x1 x2 x3 x4, bindArgs fd ⟨[x1, x2, x3, x4], []⟩ = seqItems? fd.defaults >>= k x1 x2 x3 x4) (h₂ : ∀ x1 x2 x3 x4, k x1 x2 x3 x4 (some items) = pure [(p1, x1), (p2, x2), (p3, x3), (p4, x4), (p5, v5)]) : Binds W fd [a, b, c, d] [] [(p1, a), (p2, b), (p3, c), (p4, d), (p5, er v5)] := fun pos' kw' e1 e2 s X0 => by
  obtain ⟨x1, r, rfl, hx1, hr⟩ := map_er_cons e1
  obtain ⟨x2, r, rfl, hx2, hr⟩ := map_er_cons hr
  obtain ⟨x3, r, rfl, hx3, hr⟩ := map_er_cons hr
  obtain ⟨x4, r, rfl, hx4, hr⟩ := map_er_cons hr
  obtain rfl := map_er_nil hr
  obtain rfl := erK_nil e2
  exact ⟨_, BindsTo.of_defaults hd (X0 _ _ ho) hs (h₁ x1 x2 x3 x4) (h₂ x1 x2 x3 x4), by simp [erK, hx1, hx2, hx3, hx4]⟩
theorem binds5_2k {k : Value → Value → Value → Option (Array Value) → Sem (List (Str × Value))} (hd : fd.defaults = .ref T) (ho : W.K.lookup T = some o) (hs : o.data = .seq items n)
    (h₁ : ∀ x1 x2 x3, bindArgs fd ⟨[x1, x2], [(p3, x3)]⟩ = seqItems? fd.defaults >>= k x1 x2 x3) (h₂ : ∀ x1 x2 x3, k x1 x2 x3 (some items) = pure [(p1, x1), (p2, x2), (p3, x3), (p4, v4), (p5, v5)]) : Binds W fd [a, b] [(p3, c)] [(p1, a), (p2, b), (p3, c), (p4, er v4), (p5, er v5)] := fun pos' kw' e1 e2 s X0 => by
  obtain ⟨x1, r, rfl, hx1, hr⟩ := map_er_cons e1
  obtain ⟨x2, r, rfl, hx2, hr⟩ := map_er_cons hr
  obtain rfl := map_er_nil hr
  obtain ⟨x3, r, rfl, hx3, hr⟩ := erK_cons e2
  obtain rfl := erK_nil hr
  exact ⟨_, BindsTo.of_defaults hd (X0 _ _ ho) hs (h₁ x1 x2 x3) (h₂ x1 x2 x3), by simp [erK, hx1, hx2, hx3]⟩
end

/-! # Lay27 -/

section
variable {α β : Type} {W : Wd} {A : Around} {B : Base} {fe env : Env} {fs : List (Env × LM)} {m : LM} {σ τ ρ : AH} {es : List Env} {u : Nat} {E : Value → Shared → Prop} {s : Shared}
def RangeC (n : Int) : Cell := .pred fun o => ∃ t u v, o = { cls := .type "range", data := .fields #[.int 0 t, .int n u, .int 1 v] }
def RIter (x left : Int) : Cell := .pred fun o => o = { cls := .type "range_iterator", data := .fields #[rawInt x, rawInt left, rawInt 1] }
theorem call_range {n : Int} {Q : Value → AH → Prop} {X} (h : ∀ r, σ r = none → Q (.ref r) (upd σ r (some (RangeC n)))) : CallW W A B fs (.type "range") [.int n 0] [] σ Q X := fun pos' kw' e1 e2 s R => by
  obtain ⟨x, k, rfl, hx, hk⟩ := map_er_cons e1
  obtain rfl := map_er_nil hk
  obtain ⟨t, rfl⟩ := er_int_inv hx
  obtain rfl := erK_nil e2
  refine call_range_1 ⟨_, R.add (hid := 0) (c := RangeC n) (fun b o e => Heap.get?_push_of_some _ e) rfl rfl (Heap.get?_none_of_le (Nat.le_refl _)) (fun q => by cases q) ⟨_, Heap.get?_push_size _ rfl, _, _, _, rfl⟩, h _ (R.fresh (Heap.get?_none_of_le (Nat.le_refl _))).2.1⟩
theorem op_iterRange {r : Addr} {n : Nat} {Q : Value → LM → AH → Prop} {X} (hn : n < 100000) (hσ : σ r = some (RangeC n)) (h : ∀ it, σ it = none → Q (.ref it) m (upd σ it (some (RIter 0 n)))) : Op1 W A B fe fs pyIter (.ref r) m σ Q X := fun o ho s R => by
  obtain rfl := er_ref_inv ho
  obtain ⟨hid, o, e, t, u, v, rfl⟩ := R.at hσ
  have hs : Builtin.Range.rangeSize 0 (n : Int) 1 = (n : Int) := by rw [rangeSize_one]; split <;> omega
  refine wpAny_pyIter_range e (small_one (by decide) (by decide) (by omega) (by omega)) ?_
  rw [hs]
  exact ⟨m, _, R.add (hid := 0) (c := RIter 0 n) (fun b o e => Heap.get?_push_of_some _ e) rfl rfl (Heap.get?_none_of_le (Nat.le_refl _)) (fun q => by cases q) ⟨_, Heap.get?_push_size _ rfl, rfl⟩, h _ (R.fresh (Heap.get?_none_of_le (Nat.le_refl _))).2.1⟩
theorem next_range_end_hd {it : Addr} {x left step : Int} {Q : Option Value → Shared → Prop} (H : HdOk A B) (k : B.h.StaysIn s.heap) (hbi : B.h.get? it = none) (hit : IsRangeIter s.heap it x left step) (hleft : left ≤ 0)
    (hQ : ∀ h', Heap.ExtBut it s.heap h' → Q none { s with heap := h' }) : wpAny (model W.prog W.w) A (pyNext (.ref it)) Q E s := by
  have hT : s.TypeIs (.ref it) "range_iterator" := ⟨_, hit, rfl⟩
  unfold pyNext
  refine wpAny_bind (wpAny_attempt (wpAny_callSpecial?_slot (name := Str.ofString "__next__") hT PySem.F.slot_range_iterator_next
    (wpAny_call_entry PySem.F.slot_range_iterator_next hT PySem.F.entry_range_iterator_next ?_ (PySem.F.args_range_iterator_next_1 _))))
  show wpAny _ _ (field (.ref it) 0 >>= _) _ _ s
  refine wpAny_bind (wpAny_field hit rfl (x := rawInt x) rfl ?_)
  show wpAny _ _ (field (.ref it) 1 >>= _) _ _ s
  refine wpAny_bind (wpAny_field hit rfl (x := rawInt left) rfl ?_)
  show wpAny _ _ (field (.ref it) 2 >>= _) _ _ s
  refine wpAny_bind (wpAny_field hit rfl (x := rawInt step) rfl ?_)
  show wpAny _ _ (if left ≤ 0 then _ else _) _ _ s
  rw [if_pos hleft]
  refine wpAny_bind (wpAny_rule ?_)
  refine wpAny_bind ?_
  show wpAny _ _ (newExc (.type "StopIteration") [] >>= _) _ _ _
  refine wpAny_bind ?_
  simp only [newExc, newTuple]
  refine wpAny_bind (wpAny_newObj_type ?_ (by size_fits))
  refine wpAny_bind (m := firstArgMember _ _) (wpAny_of_eq (a := Value.none) (by first | rfl | (simp only [firstArgMember]; rfl)) ?_)
  refine wpAny_newObj_type ?_ (by size_fits)
  have ext : Heap.ExtBut it s.heap (s.heap.push { cls := .type "tuple", data := .seq #[] }) := (Heap.ExtBut.refl it s.heap).push _
  have kk : B.h.StaysIn (s.heap.push { cls := .type "tuple", data := .seq #[] }) := fun b o e => ext b o (fun q => by rw [q, hbi] at e; cases e) (k b o e)
  refine raise_hdS (A := A.in1) (B := B) (H.same rfl) (fun b o e => Heap.get?_push_of_some _ (kk b o e)) kk.fresh (Heap.get?_push_size _ rfl) (by simp [ownMembersOf]) fun h' vs' hs' he' => ?_
  refine wpAny_bind (wpAny_isInstance (T := "StopIteration") (b := true) ⟨_, he', rfl⟩ isSubtype_stop ?_)
  refine wpAny_pure (hQ _ fun b o hb e => ?_)
  exact (hs' b fun q => by
    have e1 := ext b o hb e
    rw [q] at e1
    exact absurd (Heap.lt_size e1) (Nat.lt_irrefl _)).trans (Heap.get?_push_of_some _ (ext b o hb e))
theorem t_nextRange {it : Addr} {i n : Nat} {Q : Option Value → LM → AH → Prop} {X} (H : HdOk A B) (hit : σ it = none)
    (h : if i < n then ∀ r, er r = .int i 0 → Q (some r) m (upd σ it (some (RIter (i + 1 : Nat) ((n : Int) - (i + 1 : Nat))))) else Q none m σ) :
    Tr W A B fe fs (pyNext (.ref it)) m (upd σ it (some (RIter i ((n : Int) - i)))) Q X := fun s R => by
  obtain ⟨hid, o, ho, rfl⟩ := R.at (a := it) (c := RIter i ((n : Int) - i)) (by rw [upd_self])
  by_cases z : i < n
  · rw [if_pos z] at h
    refine wpAny_pyNext_range_item (x := i) ho (by omega) fun h' hit' hs' => ⟨m, _, ?_, h _ rfl⟩
    rw [← upd_upd σ it (some (RIter i ((n : Int) - i)))]
    refine R.turn (s' := { s with heap := h', toks := s.toks + 1 }) (c := RIter i ((n : Int) - i)) (by rw [upd_self]) hs'.2 rfl rfl (fun hid x => ⟨_, hit', ?_⟩) (fun q => q)
    rw [show ((i + 1 : Nat) : Int) = (i : Int) + 1 by push_cast; rfl, show (n : Int) - ((i : Int) + 1) = (n : Int) - i - 1 by omega]
  · rw [if_neg z] at h
    refine next_range_end_hd H R.keep (R.notB (a := it) (c := RIter i ((n : Int) - i)) (by rw [upd_self])) ho (by omega) fun h' he => ⟨m, σ, ?_, h⟩
    have := R.lose (s' := { s with heap := h' }) (by rw [upd_self]) he rfl rfl
    rw [upd_upd, ← hit, upd_same] at this
    exact this
theorem t_letOwnedR {target : Expr} {it : Addr} {a b : Int} {v : Value} {Q : Unit → LM → AH → Prop} {X} (hit : σ it = some (RIter a b)) (h : Q () m σ) : Tr W A B fe fs (letOwnedTupleGo target (.ref it) v) m σ Q X := fun s R => by
  obtain ⟨hid, o, ho, rfl⟩ := R.at hit
  have key : wpAny (model W.prog W.w) A (do
      let (.ref r, .ref a) := ((Value.ref it, v) : Value × Value) | return
      let o ← load r
      match o.cls, o.data with
      | .type n, .fields vs =>
        if ["enumerate", "zip", "dict_itemiterator", "dict_reverseitemiterator", "odict_iterator", "itertools.zip_longest", "itertools.pairwise"].contains n && vs[0]? == some (rawInt a) then
          rule "for.unpacks-the-owned-tuple"
          updateField r 0 .none
      | _, _ => pure () : Sem Unit) (EndQ B fe fs Q) (EndX B fe fs X) s := by
    cases v <;> first
      | exact wpAny_pure ⟨m, σ, R, h⟩
      | (refine wpAny_bind (wpAny_load ho ?_)
         dsimp only
         rw [if_neg (by simp)]
         exact wpAny_pure ⟨m, σ, R, h⟩)
  unfold letOwnedTupleGo
  split
  · exact key
  · exact key
  · exact wpAny_pure ⟨m, σ, R, h⟩
theorem Tr.drop {t : Sem α} {Q : α → LM → AH → Prop} {X} {σ τ : AH} (k : ∀ a c, τ a = some c → σ a = some c) (h : Tr W A B fe fs t m τ Q X) : Tr W A B fe fs t m σ Q X := fun s R => h s (R.drop k)
/-- for over range(n): `I i` holds when `i` turns are done -/
theorem t_ForR {target iter body pos} {Q : Flow → LM → AH → Prop} {X} (O : Ok W A B (fe :: fs.map (·.1)) u) (H : HdOk A B) (n : Nat) (hn : n < 100000)
    (h : TrV W A B fe fs (eval iter fe) m σ (fun x m₁ σ₁ => ∃ r σ₀, x = .ref r ∧ σ₁ = upd σ₀ r (some (RangeC n)) ∧ σ₀ r = none ∧ ∃ I : Nat → LM → AH → Prop, I 0 m₁ σ₀ ∧ (∀ m σ, I n m σ → Q .next m σ) ∧
      ∀ B', B.le B' → ∀ i m σ, i < n → I i m σ → ∀ v, er v = .int i 0 → Tr W A B' fe fs (assign target fe v) m σ (fun _ m₁ σ₁ => Tr W A B' fe fs (execs body fe) m₁ σ₁ (LQ (I (i + 1)) Q) X) X) X)
    (hs : ∀ x, foldedSetIterable iter fe x = pure x := by intro _; with_unfolding_all rfl) : Tr W A B fe fs (exec (.For target iter body [] pos) fe) m σ Q X := by
  refine Tr.weaken (t_For O (h.mono (fun x m₁ σ₁ q => ?_) fun c b m' σ' x => ⟨σ', fun _ _ e => e, x⟩) hs)
  obtain ⟨r, σ₀, hx, rfl, hr, I, h0, hend, hturn⟩ := q
  rw [hx]
  refine op_iterRange hn (upd_self _ _ _) fun it hit => ?_
  have hri : r ≠ it := fun z => by rw [← z, upd_self] at hit; cases hit
  have hit₀ : σ₀ it = none := (upd_ne _ _ (Ne.symm hri)).symm.trans hit
  refine ⟨fun k m σ => ∃ (i : Nat) (σ₁ : AH), (∀ a c, upd σ₁ it (some (RIter i ((n : Int) - i))) a = some c → σ a = some c) ∧ σ₁ it = none ∧ I i m σ₁ ∧ k = n - i ∧ i ≤ n, n, ⟨0, σ₀, fun a c e => ?_, hit₀, h0, rfl, Nat.zero_le _⟩, ?_⟩
  · by_cases z : a = it
    · subst z; rw [upd_self] at e ⊢
      simpa using e
    · rw [upd_ne _ _ z] at e ⊢
      rw [upd_ne _ _ fun q => by rw [q, hr] at e; cases e]; exact e
  rintro k m σ ⟨i, σ₁, hsub, hit, hI, hk, hi⟩
  refine Tr.drop hsub (t_nextRange H hit ?_)
  by_cases z : i < n
  · rw [if_pos z]
    intro v hv
    refine t_letOwnedR (by rw [upd_self]) ?_
    refine ((Tr.frame (Split.single (c := RIter (i + 1 : Nat) ((n : Int) - (i + 1 : Nat))) hit) fun B' hB => t_bind ((hturn B' hB i m σ₁ z hI v hv).mono (fun _ _ _ q => q) fun _ _ _ _ x => x)).mono (fun f m₅ σ₅ q => ?_) fun c b m₅ σ₅ q => ?_)
    · obtain ⟨τ, S, q⟩ := q
      have hn' : τ it = none := (S.r it (by rw [upd_self]; simp)).1
      have es : σ₅ = upd τ it (some (RIter (i + 1 : Nat) ((n : Int) - (i + 1 : Nat)))) := by rw [S.eq]; exact joinA_single hn'
      cases f with
      | next => exact ⟨n - (i + 1), by omega, i + 1, τ, fun a c e => by rw [es]; exact e, hn', q, rfl, z⟩
      | cont => exact ⟨n - (i + 1), by omega, i + 1, τ, fun a c e => by rw [es]; exact e, hn', q, rfl, z⟩
      | brk => exact ⟨τ, fun a c e => S.inl e, q⟩
      | ret v => exact ⟨τ, fun a c e => S.inl e, q⟩
    · obtain ⟨τ, S, q⟩ := q
      exact ⟨τ, fun a c e => S.inl e, q⟩
  · rw [if_neg z]
    have : i = n := by omega
    subst this
    exact ⟨σ₁, fun _ _ e => e, hend _ _ hI⟩
end

/-! # Lay28 -/

/-! ## captured names: cells of the machine as cells of the layer -/
def PyC (w : Option Value) : Cell := .pred fun o => match w with
  | none => o.data = .cell none
  | some v => ∃ r, o.data = .cell (some r) ∧ er r = v
theorem PyC.at {H : Str → Int} {h : Heap} {hid c : Addr} {v : Option Value} (x : h.IsCell c v) : (PyC (v.map er)).At H h hid c := by
  obtain ⟨o, ho, hd⟩ := x
  refine ⟨o, ho, ?_⟩
  cases v with
  | none => exact hd
  | some r => exact ⟨r, hd, rfl⟩
theorem PyC.is {H : Str → Int} {h : Heap} {hid c : Addr} {w : Option Value} (x : (PyC w).At H h hid c) : ∃ v, h.IsCell c v ∧ v.map er = w := by
  obtain ⟨o, ho, hd⟩ := x
  cases w with
  | none => exact ⟨none, ⟨o, ho, hd⟩, rfl⟩
  | some v =>
    obtain ⟨r, hd, e⟩ := hd
    exact ⟨some r, ⟨o, ho, hd⟩, by rw [Option.map_some, e]⟩
/-- a name space of its own -/
def NsC (mm : LM) : Cell := .pred fun o => ∃ es ep, ∃ mr : Str → Option Value, o.data = .dict es ep ∧ StrKeys es ∧ (∀ x, nsFind es x = mr x) ∧ ∀ x, (mr x).map er = mm x
theorem NsC.at {H : Str → Int} {h : Heap} {hid c : Addr} {mr : Str → Option Value} {mm : LM} (x : h.Ns c mr) (e : ∀ x, (mr x).map er = mm x) : (NsC mm).At H h hid c := by
  obtain ⟨o, es, ep, ho, hd, hk, hm⟩ := x
  exact ⟨o, ho, es, ep, mr, hd, hk, hm, e⟩
theorem NsC.is {H : Str → Int} {h : Heap} {hid c : Addr} {mm : LM} (x : (NsC mm).At H h hid c) : ∃ mr, h.Ns c mr ∧ ∀ x, (mr x).map er = mm x := by
  obtain ⟨o, ho, es, ep, mr, hd, hk, hm, e⟩ := x
  exact ⟨mr, ⟨o, es, ep, ho, hd, hk, hm⟩, e⟩
section
variable {α β : Type} {W : Wd} {A : Around} {B : Base} {fe env : Env} {fs : List (Env × LM)} {m : LM} {σ τ ρ : AH} {es : List Env} {u : Nat} {E : Value → Shared → Prop} {s : Shared}
theorem Cell.At.nohid {H : Str → Int} {h : Heap} {hid hid' a : Addr} {c : Cell} (x : c.At H h hid a) (g : c.hides = false) : c.At H h hid' a := by
  cases c with
  | pred P => exact x
  | seq ty vs => exact x
  | dict l => exact x
  | inst C f k => cases g
  | exc cls tb ctx =>
    obtain ⟨d, vs, sl, h1, h2, h3, h4, h5⟩ := x
    refine ⟨d, vs, sl, h1, h2, h3, h4, fun t => ?_⟩
    rw [show tb = false from g] at t; cases t
/-- new cells that hide nothing, at addresses that were free -/
theorem Rel.addMany {s₀ : Shared} (R : Rel B fs σ s) (hs : ∀ a c, σ a = some c → ∃ o, s₀.heap.get? a = some o) {ν : AH} (hn : ∀ a c, ν a = some c → c.hides = false ∧ s₀.heap.get? a = none ∧ c.At B.hs s.heap 0 a ∧ B.h.get? a = none ∧ (∀ p ∈ fs, p.1.locals ≠ a))
    (hd : ∀ δ : Addr → Addr, (∀ a c, σ a = some c → c.At B.hs s.heap (δ a) a) → ∀ a c, σ a = some c → c.hides = true → ν (δ a) = none) : Rel B fs (joinA σ ν) s := by
  obtain ⟨δ, c1, c2, c3⟩ := R.cells
  have cs : ∀ a c, joinA σ ν a = some c → σ a = some c ∨ (σ a = none ∧ ν a = some c) := fun a c e => by
    unfold joinA at e
    cases q : σ a with
    | none => rw [q] at e; exact .inr ⟨rfl, e⟩
    | some d => rw [q] at e; exact .inl e
  refine ⟨R.keep, R.fr, R.nd, ⟨δ, fun a c e => ?_, fun a c e q => ?_, fun a b c d e e' q q' z => ?_⟩, R.gens, R.os⟩
  · rcases cs a c e with e | ⟨_, e⟩
    · exact c1 a c e
    · obtain ⟨g1, g2, g3, g4, g5⟩ := hn a c e
      exact ⟨g3.nohid g1, g4, g5⟩
  · rcases cs a c e with e | ⟨_, e⟩
    · obtain ⟨h1, h2, h3⟩ := c2 a c e q
      refine ⟨h1, ?_, h3⟩
      unfold joinA
      rw [h2]
      exact hd δ (fun a c e => (c1 a c e).1) a c e q
    · rw [(hn a c e).1] at q; cases q
  · rcases cs a c e with e | ⟨_, e⟩
    · rcases cs b d e' with e' | ⟨_, e'⟩
      · exact c3 a b c d e e' q q' z
      · rw [(hn b d e').1] at q'; cases q'
    · rw [(hn a c e).1] at q; cases q
open Classical in
/-- the cells that a call lays for the names that are captured in it -/
noncomputable def cellsA (cs : List (Str × Addr)) (cm : LM) : AH := fun a => if h : ∃ n, cs.lookup n = some a then some (PyC (cm h.choose)) else none
theorem cellsA_at {cs : List (Str × Addr)} {cm : LM} (ap : cs.Pairwise fun x y => x.2 ≠ y.2) {n : Str} {a : Addr} (h : cs.lookup n = some a) : cellsA cs cm a = some (PyC (cm n)) := by
  unfold cellsA
  have hx : ∃ n, cs.lookup n = some a := ⟨n, h⟩
  rw [dif_pos hx]
  have := hx.choose_spec
  rw [name_of_addr ap (mem_of_lookup this) (mem_of_lookup h)]
theorem cellsA_inv {cs : List (Str × Addr)} {cm : LM} {a : Addr} {c : Cell} (h : cellsA cs cm a = some c) : ∃ n, cs.lookup n = some a ∧ c = PyC (cm n) := by
  unfold cellsA at h
  split at h
  · rename_i hx
    exact ⟨_, hx.choose_spec, (Option.some.inj h).symm⟩
  · cases h
theorem Rel.enterC {s₁ : Shared} (R : Rel B fs σ s) {env : Env} {ml cm : Str → Option Value} (hL : env.locals = s.heap.objs.size) (hf : env.frame = some env.locals) (hk : env.scope.kind = .function)
    (x : InCallC s env.locals ml env.cells cm s₁) : Rel B ((env, fun x => (ml x).map er) :: fs) (joinA σ (cellsA env.cells fun n => (cm n).map er)) s₁ := by
  obtain ⟨h₁, tk, rfl, k⟩ := x.done
  have R₁ := R.enter (t := tk) hL hf hk x.toInCall.ns k
  have fresh : ∀ n a, env.cells.lookup n = some a → s.heap.get? a = none := fun n a e => by
    have := x.above n a (mem_of_lookup e)
    exact Heap.get?_none_of_le (by rw [hL] at this; exact Nat.le_of_lt this)
  refine R₁.addMany (s₀ := s) (fun a c e => ?_) (fun a c e => ?_) fun δ hδ a c e q => ?_
  · obtain ⟨δ, c1, _⟩ := R.cells
    exact (c1 a c e).1.some
  · obtain ⟨n, hn, rfl⟩ := cellsA_inv e
    obtain ⟨n1, n2, n3⟩ := R.fresh (fresh n a hn)
    refine ⟨rfl, fresh n a hn, PyC.at (x.cell n a hn), n1, fun p hp => ?_⟩
    rcases List.mem_cons.mp hp with rfl | hp
    · exact Nat.ne_of_lt (x.above n a (mem_of_lookup hn))
    · exact n3 p hp
  · cases z : cellsA env.cells (fun n => (cm n).map er) (δ a) with
    | none => rfl
    | some d =>
      obtain ⟨n, hn, _⟩ := cellsA_inv z
      obtain ⟨δ₀, c1, c2, c3⟩ := R.cells
      -- the hidden place of an old cell stood before the call
      have h0 := c1 a c e
      have h1 := hδ a c e
      exfalso
      cases c with
      | inst C f kk =>
        obtain ⟨e1, es, nn, r1, _⟩ := h0.1
        obtain ⟨e2, _⟩ := h1
        have e3 := k _ _ e1
        have e2 : h₁.get? a = _ := e2
        rw [e3] at e2
        have : δ₀ a = δ a := by
          have := Option.some.inj e2
          simp [instObj] at this
          exact this
        rw [this] at r1
        rw [fresh n _ hn] at r1; cases r1
      | exc cls tb ctx =>
        obtain ⟨d1, vs1, sl1, e1, _, _, _, t1⟩ := h0.1
        obtain ⟨d2, vs2, sl2, e2, _, _, _, t2⟩ := h1
        have q : tb = true := q
        obtain ⟨u1, o1, _, g1, _⟩ := t1 q
        obtain ⟨u2, _⟩ := t2 q
        have e3 := k _ _ e1
        have e2 : h₁.get? a = _ := e2
        rw [e3] at e2
        have e4 := Option.some.inj e2
        injection e4 with _ _ e4 _
        injection e4 with e4
        rw [e4, u2] at u1
        injection u1 with u1
        injection u1 with u1
        rw [← u1, fresh n _ hn] at g1; cases g1
      | seq => cases q
      | dict => cases q
      | pred => cases q
end

/-! # Lay29 -/

section
variable {α β : Type} {W : Wd} {A : Around} {B : Base} {fe env : Env} {fs : List (Env × LM)} {m : LM} {σ τ ρ : AH} {es : List Env} {u : Nat} {E : Value → Shared → Prop} {s : Shared}
/-- what holds of a part of the cells -/
def Lw (P : AH → Prop) (σ : AH) : Prop := ∃ τ : AH, (∀ a c, τ a = some c → σ a = some c) ∧ P τ
theorem Lw.all {P : AH → Prop} (h : P σ) : Lw P σ := ⟨σ, fun _ _ e => e, h⟩
theorem bindL_er (k : Str → Option NameKind) : ∀ (bs : List (Str × Value)) (m : Str → Option Value), (fun x => (bindL k bs m x).map er) = bindL k (erK bs) (fun x => (m x).map er)
  | [], m => rfl
  | (n, v) :: r, m => by
    show (fun x => (bindL k r (if k n = some .local then fun y => if y = n then some v else m y else m) x).map er) = bindL k (erK r) (if k n = some .local then fun y => if y = n then some (er v) else (m y).map er else fun x => (m x).map er)
    rw [bindL_er]
    congr 1
    by_cases h : k n = some .local
    · rw [if_pos h, if_pos h]; funext y; by_cases z : y = n <;> simp [z]
    · rw [if_neg h, if_neg h]
theorem bindC_er (k : Str → Option NameKind) : ∀ (bs : List (Str × Value)) (m : Str → Option Value), (fun x => (bindC k bs m x).map er) = bindC k (erK bs) (fun x => (m x).map er)
  | [], m => rfl
  | (n, v) :: r, m => by
    show (fun x => (bindC k r (if k n = some .local then m else fun y => if y = n then some v else m y) x).map er) = bindC k (erK r) (if k n = some .local then fun x => (m x).map er else fun y => if y = n then some (er v) else (m y).map er)
    rw [bindC_er]
    congr 1
    by_cases h : k n = some .local
    · rw [if_pos h, if_pos h]
    · rw [if_neg h, if_neg h]; funext y; by_cases z : y = n <;> simp [z]
theorem CallR.goC {f : Addr} {name qual : Str} {params : Arguments} {body : List Stmt} {scope : Scope} {dV kV doc pm cdv ct oc : Value} {an od : Option Addr} {osl : Array (Option Value)}
    {pos : List Value} {kw bs : List (Str × Value)} {Q : Value → AH → Prop} {X : Value → Bool → AH → Prop} (O : Ok W A B (fs.map (·.1)) 0) (hsh : fs.length < 60)
    (ho : W.K.lookup f = some ⟨oc, od, .func (fnOf name qual params body scope dV kV doc pm an cdv ct), osl⟩) (hcd : codeIn W.K cdv qual = true)
    (hb : Binds W (fnOf name qual params body scope dV kV doc pm an cdv ct) pos kw bs)
    (hkind : ∀ n, ∀ x ∈ bs, scope.names.lookup x.1 = some .local ∨ (scope.names.lookup x.1 = some .cell ∧ ((cellsFrom n scope.names []).lookup x.1).isSome = true))
    (h : ∀ L A' σ₁, Ok W A' B (envOfC qual scope L f cdv :: fs.map (·.1)) 8 → A'.handled = A.handled → (∀ a c, σ a = some c → σ₁ a = some c) →
      (∀ n a, (cellsFrom (L + 1) scope.names []).lookup n = some a → σ₁ a = some (PyC (bindC (envOfC qual scope L f cdv).kindOf bs (fun _ => none) n)) ∧ σ a = none) →
      (∀ a c, σ₁ a = some c → σ a = some c ∨ ∃ n, (cellsFrom (L + 1) scope.names []).lookup n = some a) →
      Tr W A' B (envOfC qual scope L f cdv) fs (execs body (envOfC qual scope L f cdv)) (bindL (envOfC qual scope L f cdv).kindOf bs (fun _ => none)) σ₁ (RQ fun v => Lw (Q v)) (fun c b _ => Lw (X c b)))
    (hco : scope.isCoroutine = false := by with_unfolding_all rfl) (hgen : scope.isGenerator = false := by with_unfolding_all rfl) (hk : scope.kind = .function := by with_unfolding_all rfl) : CallR W A B fs (.ref f) pos kw σ Q X := fun pos' kw' e1 e2 s R => by
  have X0 := O.g.X.keeps R.keep
  obtain ⟨binds, hbt, hbe⟩ := hb pos' kw' e1 e2 s X0
  refine codeAny_call_function (fd := fnOf name qual params body scope dV kV doc pm an cdv ct) (body := body) O.room (X0 _ _ ho) rfl hco hgen rfl (codeRec_of X0 hcd) (hbt _ _ _ _ ?_)
  have hkind' : ∀ x ∈ binds, scope.names.lookup x.1 = some .local ∨ (scope.names.lookup x.1 = some .cell ∧ ((cellsFrom (s.heap.objs.size + 1) scope.names []).lookup x.1).isSome = true) := fun x hx => by
    have : (x.1, er x.2) ∈ bs := by rw [← hbe]; exact List.mem_map.mpr ⟨x, hx, rfl⟩
    exact hkind (s.heap.objs.size + 1) (x.1, er x.2) this
  refine wpAny_newFunctionEnv_cells hk hkind' fun env' he s' x => ?_
  subst he
  refine ⟨(O.g.T.nolimit.keeps R.keep).keeps x.toInCall.keep, codeAny_func ?_⟩
  have R₁ := R.enterC (env := envOfC qual scope s.heap.objs.size f cdv) rfl rfl hk x
  have O₁ := O.deeper (by simpa using hsh) (envOfC qual scope s.heap.objs.size f cdv)
  have fresh : ∀ n a, (cellsFrom (s.heap.objs.size + 1) scope.names []).lookup n = some a → σ a = none := fun n a e => by
    have := x.above n a (mem_of_lookup e)
    exact (R.fresh (Heap.get?_none_of_le (Nat.le_of_lt this))).2.1
  have e1 : (fun y => (bindL (envOfC qual scope s.heap.objs.size f cdv).kindOf binds (fun _ => none) y).map er) = bindL (envOfC qual scope s.heap.objs.size f cdv).kindOf bs (fun _ => none) := by
    rw [bindL_er, hbe]; rfl
  have e2 : (fun y => (bindC (envOfC qual scope s.heap.objs.size f cdv).kindOf binds (fun _ => none) y).map er) = bindC (envOfC qual scope s.heap.objs.size f cdv).kindOf bs (fun _ => none) := by
    rw [bindC_er, hbe]; rfl
  have R₂ : Rel B ((envOfC qual scope s.heap.objs.size f cdv, bindL (envOfC qual scope s.heap.objs.size f cdv).kindOf bs (fun _ => none)) :: fs) (joinA σ (cellsA (cellsFrom (s.heap.objs.size + 1) scope.names []) (bindC (envOfC qual scope s.heap.objs.size f cdv).kindOf bs (fun _ => none)))) s' := by
    rw [← e1, ← e2]; exact R₁
  refine wpAny_mono (h _ _ _ O₁ rfl (fun a c e => by unfold joinA; rw [e]) (fun n a e => ?_) (fun a c e => ?_) _ R₂) (fun fl s' q => ?_) fun e s' q => ?_
  · refine ⟨?_, fresh n a e⟩
    unfold joinA
    rw [fresh n a e]
    exact cellsA_at x.apart e
  · unfold joinA at e
    cases z : σ a with
    | some d => rw [z] at e; exact .inl e
    | none =>
      rw [z] at e
      obtain ⟨n, hn, _⟩ := cellsA_inv e
      exact .inr ⟨n, hn⟩
  · obtain ⟨m', σ', R', τ, k, q⟩ := q
    refine ⟨τ, (R'.leave).drop k, ?_⟩
    cases fl <;> exact q
  · obtain ⟨e, cls, tb, ctx, m', σ', rfl, e2, R', τ, k, q⟩ := q
    refine exc_leave (fs := fs) (env := envOfC qual scope s.heap.objs.size f cdv) O₁.fr R' (by rw [upd_self]) fun s'' R'' => ?_
    rw [upd_upd] at R''
    have et : τ e = none := by
      cases z : τ e with
      | none => rfl
      | some c => rw [k _ _ z] at e2; cases e2
    refine ⟨e, cls, true, ctx, τ, rfl, et, R''.leave.drop fun a c z => ?_, q⟩
    by_cases y : a = e
    · subst y; rw [upd_self] at z ⊢; exact z
    · rw [upd_ne _ _ y] at z ⊢; exact k _ _ z
/-! ## captured names -/
theorem t_loadCell {x : Str} {c : Addr} {v : Value} {Q X} (hc : env.cells.lookup x = some c) (hσ : σ c = some (PyC (some v))) (h : Q v m σ) (hl : env.kindOf x = some .cell) (hk : env.scope.kind = .function) :
    TrV W A B fe fs (loadName env x) m σ Q X := fun s R => by
  obtain ⟨hid, hh⟩ := R.at hσ
  obtain ⟨w, h1, h2⟩ := PyC.is hh
  cases w with
  | none => cases h2
  | some r => exact wpAny_loadName_cell hk hl hc h1 ⟨m, σ, R, by have e : er r = v := Option.some.inj h2; show Q (er r) m σ; rw [e]; exact h⟩
theorem t_CellName {x : Str} {pos} {c : Addr} {v : Value} {Q X} (hc : env.cells.lookup x = some c) (hσ : σ c = some (PyC (some v))) (h : Q v m σ) (hl : env.kindOf x = some .cell := by with_unfolding_all rfl) (hk : env.scope.kind = .function := by with_unfolding_all rfl) (hd : (x == ("__debug__" : Str)) = false := by decide) :
    TrV W A B fe fs (eval (.Name x pos) env) m σ Q X := fun s R => wpAny_Name ((t_loadCell (Q := Q) (X := X) hc hσ h hl hk).at R) hd
theorem t_storeCell {x : Str} {c : Addr} {v : Value} {w : Option Value} {Q : Unit → LM → AH → Prop} {X} (hc : env.cells.lookup x = some c) (hσ : σ c = some (PyC w)) (h : Q () m (upd σ c (some (PyC (some (er v)))))) (hl : env.kindOf x = some .cell) (hk : env.scope.kind = .function) :
    Tr W A B fe fs (storeName env x v) m σ Q X := fun s R => by
  obtain ⟨hid, hh⟩ := R.at hσ
  obtain ⟨w', h1, h2⟩ := PyC.is hh
  refine wpAny_storeName_cell hk hl hc h1 fun h' hv hs => ⟨m, _, R.turn hσ (fun b hb => hs.2 b hb) rfl rfl (fun hid _ => PyC.at (v := some v) hv) (fun q => by cases q), h⟩
theorem t_AssignCell {x : Str} {xp pos : Pos} {value : Expr} {Q : Flow → LM → AH → Prop} {X} {c : Addr} (hc : fe.cells.lookup x = some c) (h : TrV W A B fe fs (eval value fe) m σ (fun v m' σ' => (∃ w, σ' c = some (PyC w)) ∧ Q .next m' (upd σ' c (some (PyC (some v))))) X)
    (hl : fe.kindOf x = some .cell := by with_unfolding_all rfl) (hm : fe.scope.kind = .function := by with_unfolding_all rfl) (hs : swapsWith value (some (.Name x xp)) pos.line fe = pure false := by with_unfolding_all rfl) : Tr W A B fe fs (exec (.Assign [.Name x xp] value pos) fe) m σ Q X :=
  fun _ R => wpAny_Assign_Name (h.go R (fun v m' σ' s' R' q => by
    obtain ⟨⟨w, hw⟩, q⟩ := q
    exact (t_storeCell (Q := fun _ => Q .next) hc hw q hl hm).at R') (fun _ _ x => x)) hs
/-! ## names of a comprehension -/
theorem t_CompName {x : Str} {pos} {mm : LM} {v : Value} {Q X} (hσ : σ env.locals = some (NsC mm)) (hv : mm x = some v) (h : Q v m σ) (hl : env.kindOf x = some .local := by with_unfolding_all rfl) (hk : env.scope.kind = .function := by with_unfolding_all rfl) (hd : (x == ("__debug__" : Str)) = false := by decide) :
    TrV W A B fe fs (eval (.Name x pos) env) m σ Q X := fun s R => by
  obtain ⟨hid, hh⟩ := R.at hσ
  obtain ⟨mr, h1, h2⟩ := NsC.is hh
  have := h2 x
  rw [hv] at this
  cases q : mr x with
  | none => rw [q] at this; cases this
  | some r =>
    rw [q] at this
    exact wpAny_Name (wpAny_loadName_local hk hl h1 q ⟨m, σ, R, by have e : er r = v := Option.some.inj this; show Q (er r) m σ; rw [e]; exact h⟩) hd
theorem t_compStore {x : Str} {xp : Pos} {mm : LM} {v : Value} {Q : Unit → LM → AH → Prop} {X} (hσ : σ env.locals = some (NsC mm)) (h : Q () m (upd σ env.locals (some (NsC (upd mm x (some (er v))))))) (hl : env.kindOf x = some .local) (hk : env.scope.kind = .function) :
    Tr W A B fe fs (assign (.Name x xp) env v) m σ Q X := fun s R => by
  obtain ⟨hid, hh⟩ := R.at hσ
  obtain ⟨mr, h1, h2⟩ := NsC.is hh
  refine wpAny_assign_Name (wpAny_storeName_local hl h1 (fun h' hn hs => ?_) (by rw [hk]; rfl))
  have R' := R.turn (s' := { s with heap := h' }) hσ (fun b hb => hs.2 b hb) rfl rfl (c' := NsC (upd mm x (some (er v)))) (fun hid _ => NsC.at hn fun y => by
    by_cases z : y = x
    · subst z; simp
    · rw [upd_ne _ _ z]; simp only [z, if_false]; exact h2 y) (fun q => by cases q)
  exact ⟨m, _, R'.toks _, h⟩
end

/-! # Lay30 -/

section
variable {α β : Type} {W : Wd} {A : Around} {B : Base} {fe env : Env} {fs : List (Env × LM)} {m : LM} {σ τ ρ : AH} {es : List Env} {u : Nat} {E : Value → Shared → Prop} {s : Shared}
/-! ## cells that are frozen -/
/-- a frozen dict -/
def DictB (B : Base) (d : Addr) (l : List (Value × Value)) : Prop := d ≠ sysModules ∧ ∃ es n, B.h.get? d = some (dictOf es n) ∧ All2 (EntOf B.hs) es l ∧ (l.map fun p => dk p.1).Nodup
/-! ## what can be walked through -/
structure ItOk (W : Wd) (A : Around) (B₀ : Base) (a : Addr) (c : Nat → Cell) (n : Nat) (P : Nat → Value → Prop) (src : AH → Prop) : Prop where
  mono : ∀ σ τ : AH, (∀ a c, σ a = some c → τ a = some c) → src σ → src τ
  next : ∀ {B : Base} {fe : Env} {fs : List (Env × LM)} {m : LM} {σ : AH} {Q : Option Value → LM → AH → Prop} {X : Value → Bool → LM → AH → Prop} (i : Nat), B₀.le B → HdOk A B → σ a = none → src σ →
    (if i < n then ∀ r, P i (er r) → Q (some r) m (upd σ a (some (c (i + 1)))) else Q none m σ) → i ≤ n → Tr W A B fe fs (pyNext (.ref a)) m (upd σ a (some (c i))) Q X
  self : ∀ {B : Base} {fe : Env} {fs : List (Env × LM)} {m : LM} {σ : AH} {Q : Value → LM → AH → Prop} {X : Value → Bool → LM → AH → Prop} (i : Nat), B₀.le B → σ a = some (c i) → Q (.ref a) m σ → Tr W A B fe fs (pyIter (.ref a)) m σ Q X
theorem ItOk.list {it l : Addr} {vs : List Value} : ItOk W A B it (LIter l) vs.length (fun i v => vs[i]? = some v) (fun σ => σ l = some (.seq "list" vs)) where
  mono := fun σ τ k h => k _ _ h
  next := fun {B} {fe} {fs} {m} {σ} {Q} {X} i hB H ha hs h hi => by
    refine t_nextList H ha hs ?_
    by_cases z : i < vs.length
    · rw [if_pos z] at h
      rw [List.getElem?_eq_getElem z]
      exact fun r hr => h r (by rw [hr]; exact List.getElem?_eq_getElem z)
    · rw [if_neg z] at h
      rw [List.getElem?_eq_none (by omega)]; exact h
  self := fun {B} {fe} {fs} {m} {σ} {Q} {X} i hB hσ h s R => by
    obtain ⟨hid, o, ho, hp⟩ := R.at hσ
    exact wpAny_pyIter_listiter (l := l) (i := i) ⟨o, ho, hp⟩ ⟨m, _, R, h⟩
theorem ItOk.range {it : Addr} {n : Nat} : ItOk W A B it (fun i => RIter i ((n : Int) - i)) n (fun i v => v = .int i 0) (fun _ => True) where
  mono := fun _ _ _ h => h
  next := fun {B} {fe} {fs} {m} {σ} {Q} {X} i hB H ha hs h hi => by
    refine t_nextRange H ha ?_
    by_cases z : i < n
    · rw [if_pos z] at h ⊢
      exact fun r hr => h r hr
    · rw [if_neg z] at h ⊢; exact h
  self := fun {B} {fe} {fs} {m} {σ} {Q} {X} i hB hσ h s R => by
    obtain ⟨hid, o, ho, rfl⟩ := R.at hσ
    exact wpAny_pyIter_slot ⟨_, ho, rfl⟩ PySem.F.slot_range_iterator_iter (wpAny_call_entry PySem.F.slot_range_iterator_iter ⟨_, ho, rfl⟩ PySem.F.entry_range_iterator_iter (by
      show wpAny _ _ (ret (.ref it)) _ _ s
      exact wpAny_pure ⟨_, rfl, "range_iterator", _, ⟨_, ho, rfl⟩, PySem.F.slot_range_iterator_next.lookup, ⟨m, _, R, h⟩⟩) (PySem.F.args_range_iterator_iter_1 _))
end

/-! # Lay31 -/

section
variable {α β : Type} {W : Wd} {A : Around} {B : Base} {fe env : Env} {fs : List (Env × LM)} {m : LM} {σ τ ρ : AH} {es : List Env} {u : Nat} {E : Value → Shared → Prop} {s : Shared}
def KIter (d : Addr) (n ep : Nat) (i : Nat) : Cell := .pred fun o => o.cls = .type "dict_keyiterator" ∧ o.data = .fields #[.ref d, .int i 0, .int n 0, .int ep 0]
/-! ## comprehensions -/
abbrev noX : Value → Bool → LM → AH → Prop := fun _ _ _ _ => False
def CompBody (W : Wd) (A : Around) (B₀ B : Base) (fe : Env) (fs : List (Env × LM)) (cenv : Env) (ifs : List Expr) (elt : Expr) (m : LM) (σ : AH) (P : Option Value → AH → Prop) : Prop :=
  Tr W A B fe fs (forIn ifs true fun c r => if r = true then do let ok ← isTrue c cenv (eval c cenv); pure (ForInStep.yield ok) else pure (ForInStep.yield r)) m σ
    (fun ok m' σ' => m' = m ∧ if ok = true then ∀ B', B₀.le B' → TrV W A B' fe fs (eval elt cenv) m σ' (fun w m'' σ'' => m'' = m ∧ P (some w) σ'') noX else P none σ') noX
theorem comp_nil {B₀ : Base} {cenv : Env} {elt : Expr} {P : Option Value → AH → Prop} (h : ∀ B', B₀.le B' → TrV W A B' fe fs (eval elt cenv) m σ (fun w m'' σ'' => m'' = m ∧ P (some w) σ'') noX) : CompBody W A B₀ B fe fs cenv [] elt m σ P := fun s R => by
  rw [List.forIn_nil]
  exact wpAny_pure ⟨m, σ, R, rfl, h⟩
theorem comp_one {B₀ : Base} {cenv : Env} {elt c : Expr} {P : Option Value → AH → Prop}
    (h : Tr W A B fe fs (isTrue c cenv (eval c cenv)) m σ (fun ok m' σ' => m' = m ∧ Ch ok (∀ B', B₀.le B' → TrV W A B' fe fs (eval elt cenv) m σ' (fun w m'' σ'' => m'' = m ∧ P (some w) σ'') noX) (P none σ')) noX) : CompBody W A B₀ B fe fs cenv [c] elt m σ P := by
  unfold CompBody
  refine t_eq (u := isTrue c cenv (eval c cenv) >>= pure) ?_ (t_bind (h.mono (fun ok m' σ' q => t_pure ?_) fun _ _ _ _ x => x))
  · rw [List.forIn_cons]
    simp only [if_true, bind_assoc, pure_bind, List.forIn_nil]
  · obtain ⟨rfl, q⟩ := q
    refine ⟨rfl, ?_⟩
    cases ok with
    | true => rw [if_pos rfl]; exact q.1 rfl
    | false => rw [if_neg (by decide)]; exact q.2 rfl
theorem Base.le_refl (B : Base) : B.le B := ⟨fun _ _ e => e, rfl, rfl⟩
/-- the cells about a comprehension: its list, its name space, what it walks through -/
def around (D C a : Addr) (acc : List Value) (mm : LM) (c : Cell) (σ : AH) : AH := upd (upd (upd σ D (some (.seq "list" acc))) C (some (NsC mm))) a (some c)
theorem t_ListComp {elt iter : Expr} {x : Str} {px : Pos} {ifs : List Expr} {scope : Scope} {cl : List (Str × Addr)} {pos : Pos} {Q X} (H : HdOk A B)
    (hclos : closureFor scope fe = pure cl) (hcell : ∀ y ∈ scope.names, y.2 ≠ .cell) (hkind : scope.kind = .function)
    (hnames : ∀ y ∈ scope.names, y.2 = .local → scope.names.lookup y.1 = some .local) (hx : scope.names.lookup x = some .local)
    (h : TrV W A B fe fs (eval iter fe) m σ (fun xv m₁ σ₁ => Op1 W A B fe fs pyIter xv m₁ σ₁ (fun it m₂ σ₂ => ∃ a σ₀ c n P src, it = .ref a ∧ σ₂ = upd σ₀ a (some (c 0)) ∧ σ₀ a = none ∧ ItOk W A B a c n P src ∧ n ≤ 1000 ∧
      ∃ J : Nat → List Value → AH → Prop, J 0 [] σ₀ ∧ (∀ i acc σ, J i acc σ → src σ ∧ acc.length ≤ i) ∧
        (∀ B', B.le B' → HdOk A B' → ∀ C i v acc σ mm, J i acc σ → i < n → P i v → σ C = none → mm x = some v →
          CompBody W A B B' fe fs (compEnvC scope cl C fe) ifs elt m₂ (upd σ C (some (NsC mm))) (fun r σ'' => ∃ σ', σ'' = upd σ' C (some (NsC mm)) ∧ σ' C = none ∧ J (i + 1) (acc ++ r.toList) σ')) ∧
        (∀ acc σ', J n acc σ' → ∀ D, σ' D = none → Q (.ref D) m₂ (upd σ' D (some (.seq "list" acc))))) X) X)
    (hs : ∀ x, foldedSetIterable iter fe x = pure x := by intro _; with_unfolding_all rfl) : TrV W A B fe fs (eval (.ListComp elt [⟨.Name x px, iter, ifs, 0⟩] scope pos) fe) m σ Q X := fun s R => by
  rw [eval_ListComp]
  refine wpAny_comprehension_free (use := none) rfl hs hclos hkind hnames ?_
  refine wpAny_mono (h s R) (fun xv s₁ q₁ => ?_) (fun _ _ x => x)
  obtain ⟨m₁, σ₁, R₁, h₁⟩ := q₁
  refine wpAny_mono (h₁ xv rfl s₁ R₁) (fun it s₂ q₂ => ?_) (fun _ _ x => x)
  obtain ⟨m₂, σ₂, R₂, a, σ₀, c, n, P, src, rfl, rfl, ha, I, hn, J, hJ0, hJ, turn, fin⟩ := q₂
  refine wpAny_newObj_type (wpAny_newFunctionEnv hcell (by intro y hy; simp at hy) (fun h₁ hns₁ hsb₁ => ?_) hkind)
  have R₃ := R₂.pushSeq (ty := "list") (vs := [])
  have hD := (R₂.fresh (a := s₂.heap.objs.size) (Heap.get?_none_of_le (Nat.le_refl _))).2.1
  generalize hDD : s₂.heap.objs.size = D at R₃ hD
  have R₃ : Rel B ((fe, m₂) :: fs) (upd (upd σ₀ a (some (c 0))) D (some (.seq "list" []))) { s₂ with heap := s₂.heap.push { cls := .type "list", data := .seq ([] : List Value).toArray } } := R₃
  have hDa : a ≠ D := fun z => by rw [← z, upd_self] at hD; cases hD
  have hD0 : σ₀ D = none := by rw [upd_ne _ _ (Ne.symm hDa)] at hD; exact hD
  generalize hH2 : s₂.heap.push { cls := .type "list", data := .seq ([] : List Value).toArray } = H2 at hns₁ hsb₁ R₃ ⊢
  have hC := (R₃.fresh (a := H2.objs.size) (Heap.get?_none_of_le (Nat.le_refl _))).2.1
  have R₄ := R₃.add (s' := { s₂ with heap := h₁, toks := s₂.toks + ([] : List (Str × Value)).length }) (a := H2.objs.size) (hid := 0) (c := NsC (fun _ => none))
    (fun b o e => hsb₁.extBut b o (Nat.ne_of_lt (Heap.lt_size e)) (Heap.get?_push_of_some _ e)) rfl rfl (Heap.get?_none_of_le (Nat.le_refl _)) (fun q => by cases q) (NsC.at hns₁ fun _ => rfl)
  dsimp only at hns₁ hsb₁ R₄ ⊢
  generalize hCC : H2.objs.size = C at hC R₄ hns₁ hsb₁
  have hCD : D ≠ C := fun z => by rw [← z, upd_self] at hC; cases hC
  have hCa : a ≠ C := fun z => by rw [← z, upd_ne _ _ hDa, upd_self] at hC; cases hC
  have hC0 : σ₀ C = none := by rw [upd_ne _ _ (Ne.symm hCD), upd_ne _ _ (Ne.symm hCa)] at hC; exact hC
  have e₀ : upd (upd (upd σ₀ a (some (c 0))) D (some (.seq "list" []))) C (some (NsC fun _ => none)) = around D C a [] (fun _ => none) (c 0) σ₀ := by
    unfold around
    rw [upd_comm _ _ _ hDa, upd_comm _ _ _ hCa]
  rw [e₀] at R₄
  -- the loop
  have loop : ∀ s' : Shared, Rel B ((fe, m₂) :: fs) (around D C a [] (fun _ => none) (c 0) σ₀) s' → codeAny (model W.prog W.w) A (.compLoop (.ListComp elt [⟨.Name x px, iter, ifs, 0⟩] scope pos) 0 (.ref a) (.ref D) (compEnvC scope cl C fe))
      (compPost (model W.prog W.w) A (EndX B fe fs X) none (EndQ B fe fs fun v => Q (er v)) (.ref D) C) s' := fun s' R' => by
    refine codeAny_compLoop_tests (fun k s' => ∃ i acc mm σ', k + i = n + 1 ∧ i ≤ n ∧ J i acc σ' ∧ σ' a = none ∧ σ' D = none ∧ σ' C = none ∧ Rel B ((fe, m₂) :: fs) (around D C a acc mm (c i) σ') s') ?_ (n + 1) ⟨0, [], fun _ => none, σ₀, by omega, Nat.zero_le _, hJ0, ha, hD0, hC0, R'⟩
    rintro k s' ⟨i, acc, mm, σ', hk, hi, hj, ja, jD, jC, R'⟩
    obtain ⟨js, jl⟩ := hJ _ _ _ hj
    have hb : (upd (upd σ' D (some (.seq "list" acc))) C (some (NsC mm))) a = none := by rw [upd_ne _ _ hCa, upd_ne _ _ hDa]; exact ja
    refine wpAny_mono (I.next (B := B) (fe := fe) (fs := fs) (m := m₂) (Q := fun r m' σ'' => m' = m₂ ∧ match r with
        | none => ¬ i < n ∧ σ'' = upd (upd σ' D (some (.seq "list" acc))) C (some (NsC mm))
        | some v => i < n ∧ P i (er v) ∧ σ'' = around D C a acc mm (c (i + 1)) σ') (X := noX) i (Base.le_refl _) H hb (I.mono σ' _ (fun b d e => by
          rw [upd_ne _ _ (fun z => by rw [z, jC] at e; cases e), upd_ne _ _ (fun z => by rw [z, jD] at e; cases e)]; exact e) js) (by
        by_cases z : i < n
        · rw [if_pos z]; exact fun r hr => ⟨rfl, z, hr, rfl⟩
        · rw [if_neg z]; exact ⟨rfl, z, rfl⟩) hi s' R') (fun r s₁ q => ?_) fun ev s₁ q => by obtain ⟨_, _, _, _, _, _, _, _, _, f⟩ := q; exact f.elim
    obtain ⟨m', σ₁, R₁, hm', q⟩ := q
    have hm' : m₂ = m' := hm'.symm
    subst hm'
    cases r with
    | none =>
      obtain ⟨z, rfl⟩ := q
      obtain rfl : i = n := by omega
      obtain ⟨hid, hh⟩ := R₁.at (a := C) (upd_self _ _ _)
      obtain ⟨mr, h1, h2⟩ := NsC.is hh
      refine ⟨mr, h1, fun h' hs' => ⟨_, _, ?_, fin acc σ' hj D jD⟩⟩
      have := R₁.lose (s' := { s₁ with heap := h' }) (a := C) (upd_self _ _ _) (fun b o hb e => (hs'.2 b hb).trans e) rfl rfl
      rw [upd_upd, show upd (upd σ' D (some (.seq "list" acc))) C none = upd σ' D (some (.seq "list" acc)) by
        have : (upd σ' D (some (.seq "list" acc))) C = none := by rw [upd_ne _ _ (Ne.symm hCD)]; exact jC
        rw [← this, upd_same]] at this
      exact this
    | some v =>
      obtain ⟨z, hP, rfl⟩ := q
      have st := t_compStore (W := W) (A := A) (B := B) (fe := fe) (fs := fs) (m := m₂) (env := compEnvC scope cl C fe) (x := x) (xp := px) (mm := mm) (v := v) (σ := around D C a acc mm (c (i + 1)) σ')
        (Q := fun _ m'' σ'' => m'' = m₂ ∧ σ'' = around D C a acc (upd mm x (some (er v))) (c (i + 1)) σ') (X := noX)
        (by show around D C a acc mm (c (i + 1)) σ' C = _; unfold around; rw [upd_ne _ _ (Ne.symm hCa), upd_self])
        ⟨rfl, by show upd (around D C a acc mm (c (i + 1)) σ') C _ = _; unfold around; rw [upd_comm _ _ _ hCa, upd_upd]⟩ (lookup_relabel_local hx) hkind
      refine wpAny_mono (st s₁ R₁) (fun _ s₂ q => ?_) fun ev s₂ q => by obtain ⟨_, _, _, _, _, _, _, _, _, f⟩ := q; exact f.elim
      obtain ⟨m₅, σ₂, R₂, hm₅, hσ₂⟩ := q
      have hm₅ : m₂ = m₅ := hm₅.symm
      subst hm₅ hσ₂
      -- the element, its list and what is walked through set aside
      have S : Split (around D C a acc (upd mm x (some (er v))) (c (i + 1)) σ') (upd σ' C (some (NsC (upd mm x (some (er v)))))) (upd (upd (fun _ => none) D (some (.seq "list" acc))) a (some (c (i + 1)))) := by
        refine ⟨fun b hb => ?_, fun b hb => ?_, fun b h1 h2 => ?_⟩
        · by_cases bC : b = C
          · subst bC
            refine ⟨by rw [upd_ne _ _ (Ne.symm hCa), upd_ne _ _ (Ne.symm hCD)], ?_⟩
            unfold around
            rw [upd_ne _ _ (Ne.symm hCa), upd_self, upd_self]
          · rw [upd_ne _ _ bC] at hb ⊢
            have ba : b ≠ a := fun z => hb (by rw [z]; exact ja)
            have bD : b ≠ D := fun z => hb (by rw [z]; exact jD)
            refine ⟨by rw [upd_ne _ _ ba, upd_ne _ _ bD], ?_⟩
            unfold around
            rw [upd_ne _ _ ba, upd_ne _ _ bC, upd_ne _ _ bD]
        · by_cases ba : b = a
          · subst ba
            refine ⟨by rw [upd_ne _ _ hCa]; exact ja, ?_⟩
            unfold around
            rw [upd_self, upd_self]
          · rw [upd_ne _ _ ba] at hb ⊢
            by_cases bD : b = D
            · subst bD
              refine ⟨by rw [upd_ne _ _ hCD]; exact jD, ?_⟩
              unfold around
              rw [upd_ne _ _ ba, upd_ne _ _ hCD, upd_self, upd_self]
            · rw [upd_ne _ _ bD] at hb; exact (hb rfl).elim
        · have ba : b ≠ a := fun z => by rw [z, upd_self] at h2; cases h2
          rw [upd_ne _ _ ba] at h2
          have bD : b ≠ D := fun z => by rw [z, upd_self] at h2; cases h2
          have bC : b ≠ C := fun z => by rw [z, upd_self] at h1; cases h1
          rw [upd_ne _ _ bC] at h1
          unfold around
          rw [upd_ne _ _ ba, upd_ne _ _ bC, upd_ne _ _ bD]; exact h1
      have back : ∀ {σ'' τ' σ₃ : AH} {acc' : List Value}, Split σ'' τ' (upd (upd (fun _ => none) D (some (.seq "list" acc'))) a (some (c (i + 1)))) → τ' = upd σ₃ C (some (NsC (upd mm x (some (er v))))) → σ₃ C = none →
          σ'' = around D C a acc' (upd mm x (some (er v))) (c (i + 1)) σ₃ ∧ σ₃ a = none ∧ σ₃ D = none := fun {σ'' τ' σ₃ acc'} S' e3 n3 => by
        have ta : τ' a = none := (S'.r a (by rw [upd_self]; simp)).1
        have tD : τ' D = none := (S'.r D (by rw [upd_ne _ _ (Ne.symm hDa), upd_self]; simp)).1
        have sa : σ₃ a = none := by rw [e3, upd_ne _ _ hCa] at ta; exact ta
        have sD : σ₃ D = none := by rw [e3, upd_ne _ _ hCD] at tD; exact tD
        refine ⟨?_, sa, sD⟩
        rw [S'.eq, e3]
        funext b
        unfold joinA around
        by_cases ba : b = a
        · subst ba; rw [upd_ne _ _ hCa, sa, upd_self, upd_self]
        · rw [upd_ne _ _ ba]
          by_cases bC : b = C
          · subst bC; rw [upd_self, upd_ne _ _ ba, upd_self]
          · rw [upd_ne _ _ bC, upd_ne _ _ ba, upd_ne _ _ bC]
            by_cases bD : b = D
            · subst bD; rw [sD, upd_self, upd_self]
            · rw [upd_ne _ _ bD, upd_ne _ _ bD]; cases σ₃ b <;> rfl
      have T₁ := Tr.frame (fe := fe) (fs := fs) S fun B' hB' => turn B' hB' (H.le hB') C i (er v) acc σ' (upd mm x (some (er v))) hj z hP jC (upd_self _ _ _)
      refine wpAny_mono (T₁ s₂ R₂) (fun ok s₃ q => ?_) fun ev s₃ q => by obtain ⟨_, _, _, _, _, _, _, _, _, _, _, f⟩ := q; exact f.elim
      obtain ⟨m₃, σ₃, R₃, τ₃, S₃, hm₃, q⟩ := q
      have hm₃ : m₂ = m₃ := hm₃.symm
      subst hm₃
      cases ok with
      | false =>
        rw [if_neg (by decide)] at q ⊢
        obtain ⟨σ₄, e4, n4, j4⟩ := q
        obtain ⟨e5, a5, d5⟩ := back S₃ e4 n4
        rw [Option.toList_none, List.append_nil] at j4
        exact ⟨k - 1, by omega, i + 1, acc, _, σ₄, by omega, by omega, j4, a5, d5, n4, by rw [← e5]; exact R₃⟩
      | true =>
        rw [if_pos rfl] at q ⊢
        have T₂ := Tr.frame (fe := fe) (fs := fs) S₃ fun B' hB' => q B' hB'
        refine wpAny_mono (T₂ s₃ R₃) (fun w s₄ q => ?_) fun ev s₄ q => by obtain ⟨_, _, _, _, _, _, _, _, _, _, _, f⟩ := q; exact f.elim
        obtain ⟨m₄, σ₄, R₄, τ₄, S₄, hm₄, σ₅, e4, n4, j4⟩ := q
        have hm₄ : m₂ = m₄ := hm₄.symm
        subst hm₄
        obtain ⟨e5, a5, d5⟩ := back S₄ e4 n4
        subst e5
        have T₃ := call_append (W := W) (A := A) (B := B) (fs := (fe, m₂) :: fs) (l := D) (vs := acc) (v := er w) (σ := around D C a acc (upd mm x (some (er v))) (c (i + 1)) σ₅)
          (Q := fun _ σ'' => σ'' = around D C a (acc ++ [er w]) (upd mm x (some (er v))) (c (i + 1)) σ₅) (X := fun _ _ _ => False)
          (by unfold around; rw [upd_ne _ _ (Ne.symm hDa), upd_ne _ _ hCD, upd_self]) (by omega) (by
            unfold around
            rw [upd_comm _ _ _ hDa, upd_comm _ _ _ (Ne.symm hCD), upd_upd])
        refine wpAny_mono (T₃ [.ref D, w] [] rfl rfl s₄ R₄) (fun _ s₅ q => ?_) fun ev s₅ q => by obtain ⟨_, _, _, _, _, _, _, _, f⟩ := q; exact f.elim
        obtain ⟨σ₆, R₆, rfl⟩ := q
        exact ⟨k - 1, by omega, i + 1, acc ++ [er w], _, σ₅, by omega, by omega, j4, a5, d5, n4, R₆⟩
  refine codeAny_compStart_list (loop _ R₄) ?_
  refine wpAny_mono (I.self (B := B) (fe := fe) (fs := fs) (m := m₂) (σ := around D C a [] (fun _ => none) (c 0) σ₀) (Q := fun v m' σ' => v = .ref a ∧ m' = m₂ ∧ σ' = around D C a [] (fun _ => none) (c 0) σ₀) (X := noX) 0 (Base.le_refl _) (by unfold around; rw [upd_self]) ⟨rfl, rfl, rfl⟩ _ R₄) (fun v s' q => ?_) fun ev s' q => by obtain ⟨_, _, _, _, _, _, _, _, _, f⟩ := q; exact f.elim
  obtain ⟨_, _, R', rfl, rfl, rfl⟩ := q
  exact loop _ R'
end

/-! # Lay32 -/

section
variable {prog : Program} {w : World} {A : Around} {E : Value → Shared → Prop} {s : Shared}
theorem inplace_concat {a b : Value} {T idi : String} {Q : Value → Shared → Prop} (ha : s.TypeIs a T) (hb : s.TypeIs b T)
    (hi : typeLookup (.type T) (dunderI "add") = pure (some (.builtin idi))) (hq : isSeqSlot (some (.builtin idi)) = true) (hfill : fillsNumberSlot (.type T) "add" = pure false)
    (hc : wpAny (model prog w) A (call (.builtin idi) [a, b]) Q E s) : wpAny (model prog w) A (inplaceOp .Add a b) Q E s := by
  unfold inplaceOp
  refine wpAny_holding ?_
  have hfi : fillsInplaceSlot (.type T) "add" (Operator.Add == .Add) = pure false := by
    unfold fillsInplaceSlot
    show (typeLookup (.type T) (dunderI "add") >>= fun fi => pure (fi.isSome && !isSeqSlot fi)) = pure false
    rw [hi]
    show (pure ((some (Value.builtin idi)).isSome && !isSeqSlot (some (.builtin idi))) : Sem Bool) = pure false
    rw [hq]; rfl
  have hsi : seqSlot? (.type T) (dunderI "add") = pure (some (.builtin idi)) := PySem.seqSlot_of hi hq
  refine wpAny_bind (wpAny_typeOf ha (wpAny_bind (wpAny_of_eq hfi ?_)))
  show wpAny _ A (if false = true then _ else _) Q E s
  rw [if_neg Bool.false_ne_true]
  refine wpAny_bind (wpAny_binaryOp1_none (nm := "add") ha hb hfill ?_)
  refine wpAny_bind (wpAny_of_eq hsi ?_)
  exact wpAny_bind (wpAny_rule hc)
end
section
variable {α β : Type} {W : Wd} {A : Around} {B : Base} {fe env : Env} {fs : List (Env × LM)} {m : LM} {σ τ ρ : AH} {es : List Env} {u : Nat} {E : Value → Shared → Prop} {s : Shared} {Q : Value → LM → AH → Prop} {X : Value → Bool → LM → AH → Prop}
theorem Rel.pushSeqA (R : Rel B fs σ s) {ty : String} {vr : Array Value} : Rel B fs (upd σ s.heap.objs.size (some (.seq ty (vr.toList.map er)))) { s with heap := s.heap.push { cls := .type ty, data := .seq vr } } := by
  have := R.pushSeq (ty := ty) (vs := vr.toList)
  simpa using this
theorem op_addList {l b : Addr} {vs ws : List Value} (hl : σ l = some (.seq "list" vs)) (hb : σ b = some (.seq "list" ws)) (hz : vs.length + ws.length ≤ 10000) (h : ∀ a, σ a = none → Q (.ref a) m (upd σ a (some (.seq "list" (vs ++ ws))))) :
    Op2 W A B fe fs (binaryOp .Add) (.ref l) (.ref b) m σ (ErQ Q) X := fun x y hx hy s R => by
  obtain rfl := er_ref_inv hx
  obtain rfl := er_ref_inv hy
  obtain ⟨vr, n, e, q⟩ := R.seqAt hl
  obtain ⟨vr2, n2, e2, q2⟩ := R.seqAt hb
  have z1 := er_size q
  have z2 := er_size q2
  refine concat_meets ⟨_, e, rfl⟩ ⟨_, e2, rfl⟩ noFill_list_add seq_list_add PySem.F.slot_list_add PySem.F.entry_list_add (PySem.F.args_list_add_2 _ _) (list_addW l b vr vr2 n n2 _ _ _ _ (by rw [sizeLine_eq]; omega)) ⟨e, e2, ?_⟩
  have R' := R.pushSeqA (ty := "list") (vr := vr ++ vr2)
  rw [Array.toList_append, List.map_append, q, q2] at R'
  exact ⟨m, _, R', h _ (R.fresh (Heap.get?_none_of_le (Nat.le_refl _))).2.1⟩
theorem op_iaddList {l b : Addr} {vs ws : List Value} (hl : σ l = some (.seq "list" vs)) (hb : σ b = some (.seq "list" ws)) (hz : vs.length + ws.length ≤ 10000) (h : Q (.ref l) m (upd σ l (some (.seq "list" (vs ++ ws))))) :
    Op2 W A B fe fs (inplaceOp .Add) (.ref l) (.ref b) m σ (ErQ Q) X := fun x y hx hy s R => by
  obtain rfl := er_ref_inv hx
  obtain rfl := er_ref_inv hy
  obtain ⟨vr, n, e, q⟩ := R.seqAt hl
  obtain ⟨vr2, n2, e2, q2⟩ := R.seqAt hb
  have z1 := er_size q
  have z2 := er_size q2
  refine inplace_concat ⟨_, e, rfl⟩ ⟨_, e2, rfl⟩ PySem.F.slot_list_iadd.lookup (by decide +kernel) noFill_list_add ?_
  refine call_meets PySem.F.slot_list_iadd ⟨_, e, rfl⟩ PySem.F.entry_list_iadd (PySem.F.args_list_iadd_2 _ _) (AutoSeq1.list___iadd___list_list_0 l vr n b vr2 n2 (by
    have : Builtin.List.listTooLong (vr.size + vr2.size) = false := by simp [Builtin.List.listTooLong, sizeLine]; omega
    rw [this]; simp) (by rw [sizeLine_eq]; omega) (by rw [sizeLine_eq]; omega)) ⟨e, e2, ?_⟩
  exact ⟨m, _, R.turnSeq (t := s.toks) hl (fun vr' e' => by
    rw [Array.toList_append, List.map_append, e', q2]), h⟩
theorem rep_flat (vs : List Value) (k : Nat) : ∀ acc : Array Value, (List.foldl (fun x1 x2 => x1 ++ x2) acc (List.replicate k vs.toArray)).toList = acc.toList ++ (List.replicate k vs).flatten := by
  induction k with
  | zero => intro acc; simp
  | succ k ih =>
    intro acc
    rw [List.replicate_succ, List.foldl_cons, ih]
    simp [List.replicate_succ]
theorem op_mulList {l : Addr} {vs : List Value} {k : Nat} (hl : σ l = some (.seq "list" vs)) (h0 : vs ≠ []) (hz : vs.length * k ≤ 10000) (hk : k ≤ 10000) (h : ∀ a, σ a = none → Q (.ref a) m (upd σ a (some (.seq "list" (List.replicate k vs).flatten)))) :
    Op2 W A B fe fs (binaryOp .Mult) (.ref l) (.int k 0) m σ (ErQ Q) X := fun x y hx hy s R => by
  obtain rfl := er_ref_inv hx
  obtain ⟨u, rfl⟩ := er_int_inv hy
  obtain ⟨vr, n, e, q⟩ := R.seqAt hl
  have z1 := er_size q
  have hsz : vr.size * (k : Int).toNat ≤ 2 ^ 24 := by rw [z1]; simp; omega
  have hb : vr.size * k ≤ 10000 := by rw [z1]; exact hz
  have hk' : 0 ≤ (k : Int) ∧ (k : Int) ≤ 10000 := by omega
  have hne : vr.isEmpty = false := by
    cases vs with
    | nil => exact (h0 rfl).elim
    | cons a r => simp [Array.isEmpty, z1]
  have R' := R.pushSeqA (ty := "list") (vr := List.foldl (fun x1 x2 => x1 ++ x2) #[] (List.replicate (if vr.isEmpty = true then 0 else (k : Int).toNat) vr))
  have ef : (List.foldl (fun x1 x2 => x1 ++ x2) #[] (List.replicate (if vr.isEmpty = true then 0 else (k : Int).toNat) vr)).toList.map er = (List.replicate k vs).flatten := by
    have := rep_flat vr.toList k #[]
    simp only [Array.toArray_toList] at this
    rw [hne, if_neg (by decide), Int.toNat_natCast, this]
    simp [List.map_flatten, q]
  rw [ef] at R'
  have key : EndQ B fe fs (ErQ Q) (.ref s.heap.objs.size) { s with heap := s.heap.push { cls := .type "list", data := .seq (List.foldl (fun x1 x2 => x1 ++ x2) #[] (List.replicate (if vr.isEmpty = true then 0 else (k : Int).toNat) vr)) } } := ⟨m, _, R', h _ (R.fresh (Heap.get?_none_of_le (Nat.le_refl _))).2.1⟩
  generalize (k : Int) = z at key hsz hk' ⊢
  exact wpAny_binaryOp_repeat_ref (T := "list") (U := "int") (by decide) ⟨_, e, rfl⟩ (fun s' => typeIs_int s' _ u) noFill_list_mul PySem.F.fills_int_mul PySem.F.slot_int_rmul repeat_list PySem.F.slot_int_index.lookup
    (call_meets PySem.F.slot_int_rmul (typeIs_int s z u) PySem.F.entry_int_rmul (PySem.F.args_int_rmul_2 _ _) (int___rmul___int_list z u l vr n)
      ⟨e, rfl, ⟨_, e, rfl⟩, call_meets PySem.F.slot_list_mul ⟨_, e, rfl⟩ PySem.F.entry_list_mul (PySem.F.args_list_mul_2 _ _)
        (AutoListH.list___mul___list_int_3 l vr n z u (by simp [Builtin.List.listFitsIndex]; omega) (by omega) (by simp [Builtin.List.listTooLong, sizeLine]; omega))
        ⟨e, key⟩⟩)
/-! ## slices from the front -/
/-! ## comparisons of lists and tuples of plain values -/
theorem eqAt_plain {A : Around} {s : Shared} {x y : Value} {a b : Option DK} (hx : pk x = some a) (hy : pk y = some b) : SeqAt.EqAt A s x y (decide (a = b)) := fun prog w E Q hq => eqB_plain hx hy hq
def pkAll (vs : List Value) : Prop := ∀ v ∈ vs, ∃ a, pk v = some a
def sameAll : List Value → List Value → Bool
  | [], [] => true
  | a :: r, b :: q => decide (pk a = pk b) && sameAll r q
  | _, _ => false
theorem op_inList {l : Addr} {vs : List Value} {x : Value} {a : Option DK} (hl : σ l = some (.seq "list" vs)) (p1 : pkAll vs) (hx : pk x = some a) (h : Q (.bool (vs.any fun v => decide (pk v = some a))) m σ) :
    Op2 W A B fe fs (compareOp .In) x (.ref l) m σ (ErQ Q) X := fun x' y hx' hy s R => by
  obtain rfl := er_ref_inv hy
  obtain ⟨vr, n, e, q⟩ := R.seqAt hl
  have hpx : pk x' = some a := by rw [← pk_er, hx']; exact hx
  refine SeqAt.in_listAt (fun v => decide (pk v = some a)) (isList_of e) (fun y hy => ?_) ⟨m, σ, R, ?_⟩
  · obtain ⟨b, hb⟩ := p1 (er y) (by rw [← q]; exact List.mem_map.mpr ⟨y, by simpa using hy, rfl⟩)
    rw [pk_er] at hb
    have : decide (pk y = some a) = decide (b = a) := by rw [hb]; simp
    rw [this]
    exact eqAt_plain hb hpx
  · have : vr.any (fun v => decide (pk v = some a)) = vs.any fun v => decide (pk v = some a) := by
      rw [← q, List.any_map, ← Array.any_toList]
      congr 1; funext v; simp [pk_er]
    rw [this]; exact h
theorem op_notInList {l : Addr} {vs : List Value} {x : Value} {a : Option DK} (hl : σ l = some (.seq "list" vs)) (p1 : pkAll vs) (hx : pk x = some a) (h : Q (.bool (!vs.any fun v => decide (pk v = some a))) m σ) :
    Op2 W A B fe fs (compareOp .NotIn) x (.ref l) m σ (ErQ Q) X := fun x' y hx' hy s R => by
  obtain rfl := er_ref_inv hy
  obtain ⟨vr, n, e, q⟩ := R.seqAt hl
  have hpx : pk x' = some a := by rw [← pk_er, hx']; exact hx
  refine SeqAt.notIn_listAt (fun v => decide (pk v = some a)) (isList_of e) (fun y hy => ?_) ⟨m, σ, R, ?_⟩
  · obtain ⟨b, hb⟩ := p1 (er y) (by rw [← q]; exact List.mem_map.mpr ⟨y, by simpa using hy, rfl⟩)
    rw [pk_er] at hb
    have : decide (pk y = some a) = decide (b = a) := by rw [hb]; simp
    rw [this]
    exact eqAt_plain hb hpx
  · have : vr.any (fun v => decide (pk v = some a)) = vs.any fun v => decide (pk v = some a) := by
      rw [← q, List.any_map, ← Array.any_toList]
      congr 1; funext v; simp [pk_er]
    rw [this]; exact h
end

/-! # Lay33 -/

section
variable {α β : Type} {W : Wd} {A : Around} {B : Base} {fe env : Env} {fs : List (Env × LM)} {m : LM} {σ τ ρ : AH} {es : List Env} {u : Nat} {E : Value → Shared → Prop} {s : Shared}
/-! ## next(x) of an own class -/
/-! ## unpacking into any number of targets -/
def AsEach (W : Wd) (A : Around) (B : Base) (fe : Env) (fs : List (Env × LM)) (env : Env) : List Expr → List Value → (Unit → LM → AH → Prop) → (Value → Bool → LM → AH → Prop) → LM → AH → Prop
  | [], [], Q, _, m, σ => Q () m σ
  | e :: es, v :: vs, Q, X, m, σ => ∀ x, er x = v → Tr W A B fe fs (assign e env x) m σ (fun _ m₁ σ₁ => AsEach W A B fe fs env es vs Q X m₁ σ₁) X
  | _, _, _, _, _, _ => False
theorem asEach_order {Q : Unit → LM → AH → Prop} {X} : ∀ {elts : List Expr} {vs vr : List Value} {m : LM} {σ : AH} {s : Shared}, vr.map er = vs → AsEach W A B fe fs env elts vs Q X m σ → Rel B ((fe, m) :: fs) σ s →
    wpAny (model W.prog W.w) A (assignInOrder (elts.map fun e => assign e env) vr) (EndQ B fe fs Q) (EndX B fe fs X) s
  | [], [], vr, m, σ, s, hv, h, R => by
    obtain rfl := map_er_nil hv
    exact wpAny_pure ⟨m, σ, R, h⟩
  | e :: es, v :: vs, vr, m, σ, s, hv, h, R => by
    obtain ⟨x, k, rfl, hx, hk⟩ := map_er_cons hv
    show wpAny _ _ (holding k (assign e env x) >>= fun _ => assignInOrder (es.map fun e => assign e env) k) _ _ _
    exact wpAny_bind (wpAny_holding (wpAny_mono (h x hx s R) (fun _ s' ⟨m₁, σ₁, R₁, q⟩ => asEach_order hk q R₁) fun _ _ x => x))
  | [], _ :: _, _, _, _, _, _, h, _ => h.elim
  | _ :: _, [], _, _, _, _, _, h, _ => h.elim
theorem t_asTup {elts : List Expr} {k : Nat} {pos : Pos} {t : Addr} {vs : List Value} {v : Value} {Q : Unit → LM → AH → Prop} {X} (H : HdOk A B) (hv : er v = .ref t) (hσ : σ t = some (.seq "tuple" vs)) (hl : elts.length = vs.length)
    (h : AsEach W A B fe fs env elts vs Q X m σ) (h1 : assignEach elts env = elts.map fun e => (false, assign e env) := by with_unfolding_all rfl) : Tr W A B fe fs (assign (.Tuple elts k pos) env v) m σ Q X := fun s R => by
  obtain rfl := er_ref_inv hv
  obtain ⟨vr, n, e, q⟩ := R.seqAt hσ
  have hs := er_size q
  rw [assign_Tuple]
  refine wpAny_bind (wpAny_standAt ?_)
  unfold unpack
  rw [h1]
  have e1 : (elts.map fun e => (false, assign e env)).length = vr.size := by simp [hs, hl]
  have e2 : (elts.map fun e => (false, assign e env)).findIdx? (·.1) = none := by
    rw [List.findIdx?_eq_none_iff]; intro x hx; obtain ⟨y, _, rfl⟩ := List.mem_map.mp hx; rfl
  rw [e1, e2]
  refine wpAny_bind (wpAny_holding ?_)
  refine unpackItems_hd H R.keep (isTup_of e) fun h' kk => ?_
  have R' := R.grow (s' := { s with heap := h' }) kk rfl rfl
  rw [List.map_map]
  exact asEach_order q h R'
theorem as_nil {Q : Unit → LM → AH → Prop} {X} (h : Q () m σ) : AsEach W A B fe fs env [] [] Q X m σ := h
theorem as_name {x : Str} {xp : Pos} {es : List Expr} {v : Value} {vs : List Value} {Q : Unit → LM → AH → Prop} {X} (h : AsEach W A B fe fs fe es vs Q X (upd m x (some v)) σ) (hl : fe.kindOf x = some .local := by with_unfolding_all rfl) (hm : fe.scope.kind = .function := by with_unfolding_all rfl) :
    AsEach W A B fe fs fe (.Name x xp :: es) (v :: vs) Q X m σ := fun y hy => t_asName hy h hl hm
/-! ## list(d) -/
end
section
variable {W : Wd} {A : Around} {B : Base} {fe : Env} {fs : List (Env × LM)} {m : LM} {σ : AH} {E : Value → Shared → Prop} {s : Shared}
variable {K : Type} [DecidableEq K] {knd : KeyKind W.prog W.w K}
end
section
variable {W : Wd} {A : Around} {B : Base} {fe : Env} {fs : List (Env × LM)} {m : LM} {σ : AH} {E : Value → Shared → Prop} {s : Shared}
end

/-! # Lay34 -/

def EnC (it : Addr) (i : Nat) : Cell := .pred fun o => ∃ old, o = { cls := .type "enumerate", dict := none, data := .fields #[.none, .bool false, .ref it, rawInt i, .none, old], slots := #[] }
def EnOut (it a : Addr) (i : Nat) : Cell := .pred fun o => ∃ old, o = { cls := .type "enumerate", dict := none, data := .fields #[rawInt a, .bool false, .ref it, rawInt i, .none, old], slots := #[] }
section
variable {α β : Type} {W : Wd} {A : Around} {B : Base} {fe env : Env} {fs : List (Env × LM)} {m : LM} {σ τ ρ : AH} {es : List Env} {u : Nat} {E : Value → Shared → Prop} {s s' : Shared}
/-- two cells that hide nothing are turned at once -/
theorem Rel.turn2 (R : Rel B fs σ s) {a b : Addr} {ca cb ca' cb' : Cell} (ha : σ a = some ca) (hb : σ b = some cb) (hab : a ≠ b) (k : ∀ x o, x ≠ a → x ≠ b → s.heap.get? x = some o → s'.heap.get? x = some o) (hg : s'.gens = s.gens) (ho : s'.os = s.os)
    (hca : ca'.At B.hs s'.heap 0 a) (hcb : cb'.At B.hs s'.heap 0 b) (na : ca'.hides = false) (nb : cb'.hides = false) : Rel B fs (upd (upd σ a (some ca')) b (some cb')) s' := by
  obtain ⟨δ, c1, c2, c3⟩ := R.cells
  obtain ⟨a1, a2, a3⟩ := c1 a ca ha
  obtain ⟨b1, b2, b3⟩ := c1 b cb hb
  have cs : ∀ x c, upd (upd σ a (some ca')) b (some cb') x = some c → (x = b ∧ c = cb') ∨ (x = a ∧ c = ca') ∨ (x ≠ a ∧ x ≠ b ∧ σ x = some c) := fun x c e => by
    by_cases xb : x = b
    · subst xb; rw [upd_self] at e; exact .inl ⟨rfl, (Option.some.inj e).symm⟩
    · rw [upd_ne _ _ xb] at e
      by_cases xa : x = a
      · subst xa; rw [upd_self] at e; exact .inr (.inl ⟨rfl, (Option.some.inj e).symm⟩)
      · rw [upd_ne _ _ xa] at e; exact .inr (.inr ⟨xa, xb, e⟩)
  refine ⟨fun x o e => k x o (fun z => by rw [z, a2] at e; cases e) (fun z => by rw [z, b2] at e; cases e) (R.keep x o e), fun p hp => ?_, R.nd, ⟨δ, fun x c e => ?_, fun x c e q => ?_, fun x y c d e e' q q' z => ?_⟩, hg.trans R.gens, ho.trans R.os⟩
  · obtain ⟨f1, f2, f3, mr, hn, hm⟩ := R.fr p hp
    exact ⟨f1, f2, f3, mr, hn.at fun o e => k _ o (a3 p hp) (b3 p hp) e, hm⟩
  · rcases cs x c e with ⟨rfl, rfl⟩ | ⟨rfl, rfl⟩ | ⟨xa, xb, e⟩
    · exact ⟨hcb.nohid nb, b2, b3⟩
    · exact ⟨hca.nohid na, a2, a3⟩
    · obtain ⟨x1, x2⟩ := c1 x c e
      obtain ⟨o, ho⟩ := x1.some
      refine ⟨x1.congr ((k _ _ xa xb ho).trans ho.symm) (fun q => ?_), x2⟩
      obtain ⟨o', ho'⟩ := x1.hidSome q
      have hh := (c2 x c e q).2.1
      exact (k _ _ (fun z => by rw [z, ha] at hh; cases hh) (fun z => by rw [z, hb] at hh; cases hh) ho').trans ho'.symm
  · rcases cs x c e with ⟨rfl, rfl⟩ | ⟨rfl, rfl⟩ | ⟨xa, xb, e⟩
    · rw [nb] at q; cases q
    · rw [na] at q; cases q
    · obtain ⟨h1, h2, h3⟩ := c2 x c e q
      refine ⟨h1, ?_, h3⟩
      rw [upd_ne _ _ (fun z => by rw [z, hb] at h2; cases h2), upd_ne _ _ (fun z => by rw [z, ha] at h2; cases h2)]; exact h2
  · rcases cs x c e with ⟨rfl, rfl⟩ | ⟨rfl, rfl⟩ | ⟨xa, xb, e⟩
    · rw [nb] at q; cases q
    · rw [na] at q; cases q
    · rcases cs y d e' with ⟨rfl, rfl⟩ | ⟨rfl, rfl⟩ | ⟨ya, yb, e'⟩
      · rw [nb] at q'; cases q'
      · rw [na] at q'; cases q'
      · exact c3 x y c d e e' q q' z
theorem call_enum {l : Addr} {vs : List Value} {Q : Value → AH → Prop} {X} (hσ : σ l = some (.seq "list" vs))
    (h : ∀ it e, σ it = none → σ e = none → it ≠ e → Q (.ref e) (upd (upd σ it (some (LIter l 0))) e (some (EnC it 0)))) : CallW W A B fs (.type "enumerate") [.ref l] [] σ Q X := fun pos' kw' e1 e2 s R => by
  obtain ⟨y, r, rfl, hy, hr⟩ := map_er_cons e1
  obtain rfl := map_er_nil hr
  obtain rfl := er_ref_inv hy
  obtain rfl := erK_nil e2
  obtain ⟨vr, n, e, q⟩ := R.seqAt hσ
  refine call_enumerate_list (isList_of e) fun h' he hi hz hk => ?_
  have f1 : s.heap.get? s.heap.objs.size = none := Heap.get?_none_of_le (Nat.le_refl _)
  have f2 : s.heap.get? (s.heap.objs.size + 1) = none := Heap.get?_none_of_le (Nat.le_succ _)
  obtain ⟨oi, hoi, hci, hdi⟩ := hi
  -- the iterator, then the one that counts
  have R₁ := R.add (s' := { s with heap := s.heap.push oi }) (a := s.heap.objs.size) (hid := 0) (c := LIter l 0) (fun b o e => Heap.get?_push_of_some _ e) rfl rfl f1 (fun q => by cases q) ⟨oi, Heap.get?_push_size _ (by
    obtain ⟨cls, dct, dat, sl⟩ := oi
    dsimp only at hdi
    subst hdi
    rfl), hci, hdi⟩
  have R₂ := R₁.add (s' := { s with heap := h' }) (a := s.heap.objs.size + 1) (hid := 0) (c := EnC s.heap.objs.size 0) (fun b o e => by
    by_cases z : b = s.heap.objs.size
    · subst z
      have : (s.heap.push oi).get? s.heap.objs.size = some oi := Heap.get?_push_size _ (by
        obtain ⟨cls, dct, dat, sl⟩ := oi
        dsimp only at hdi
        subst hdi
        rfl)
      have e : (s.heap.push oi).get? s.heap.objs.size = some o := e
      rw [this] at e; cases e
      exact hoi
    · have e : (s.heap.push oi).get? b = some o := e
      rw [Heap.get?_push_ne _ _ _ z] at e
      exact hk b o e) rfl rfl (Heap.get?_none_of_le (by
      show (s.heap.push oi).objs.size ≤ _
      rw [Heap.size_push]; exact Nat.le_refl _)) (fun q => by cases q) ⟨_, he, .none, rfl⟩
  exact ⟨_, R₂, h _ _ (R.fresh f1).2.1 (R.fresh f2).2.1 (Nat.ne_of_lt (Nat.lt_succ_self _))⟩
theorem t_ForE {xi xv : Str} {pi pv pt pos : Pos} {k : Nat} {iter : Expr} {body : List Stmt} {Q : Flow → LM → AH → Prop} {X} (O : Ok W A B (fe :: fs.map (·.1)) u) (hA : A.handled = none)
    (h : TrV W A B fe fs (eval iter fe) m σ (fun x m₁ σ₁ => ∃ e it l vs σ₀, x = .ref e ∧ σ₁ = upd (upd σ₀ it (some (LIter l 0))) e (some (EnC it 0)) ∧ σ₀ it = none ∧ σ₀ e = none ∧ it ≠ e ∧ ∃ I : Nat → LM → AH → Prop, I 0 m₁ σ₀ ∧ (∀ i m σ, I i m σ → σ l = some (.seq "list" vs)) ∧ (∀ m σ, I vs.length m σ → Q .next m σ) ∧
      ∀ B', B.le B' → ∀ i m σ v, I i m σ → vs[i]? = some v → Tr W A B' fe fs (execs body fe) (upd (upd m xi (some (.int i 0))) xv (some v)) σ (LQ (I (i + 1)) Q) X) X)
    (hxi : fe.kindOf xi = some .local := by with_unfolding_all rfl) (hxv : fe.kindOf xv = some .local := by with_unfolding_all rfl) (hm : fe.scope.kind = .function := by with_unfolding_all rfl)
    (hs : ∀ x, foldedSetIterable iter fe x = pure x := by intro _; with_unfolding_all rfl) : Tr W A B fe fs (exec (.For (.Tuple [.Name xi pi, .Name xv pv] k pt) iter body [] pos) fe) m σ Q X := by
  refine Tr.weaken (t_For O (h.mono (fun x m₁ σ₁ q => ?_) fun c b m' σ' x => ⟨σ', fun _ _ e => e, x⟩) hs)
  obtain ⟨e, it, l, vs, σ₀, hx, rfl, hit, he, hne, I, h0, hl, hend, hturn⟩ := q
  rw [hx]
  intro ev hev s R
  obtain rfl := er_ref_inv hev
  obtain ⟨hid, oo, hoo, old, rfl⟩ := R.at (a := e) (c := EnC it 0) (upd_self _ _ _)
  refine wpAny_pyIter_enum hoo ⟨m₁, _, R, ?_⟩
  let F : Nat → AH → AH := fun i σ => upd (upd σ it (some (LIter l i))) e (some (EnC it i))
  refine ⟨fun n m σ => ∃ i σ₀, (∀ a c, F i σ₀ a = some c → σ a = some c) ∧ σ₀ it = none ∧ σ₀ e = none ∧ I i m σ₀ ∧ n = vs.length - i ∧ i ≤ vs.length, vs.length, ⟨0, σ₀, fun _ _ e => e, hit, he, h0, rfl, Nat.zero_le _⟩, ?_⟩
  rintro n m σ ⟨i, σ₀, hsub, hit, he, hI, hn, hi⟩
  intro s R
  have R := R.drop hsub
  have hls := hl i m σ₀ hI
  have li : l ≠ it := fun z => by rw [z, hit] at hls; cases hls
  have le : l ≠ e := fun z => by rw [z, he] at hls; cases hls
  obtain ⟨_, oo, hoo, old, rfl⟩ := R.at (a := e) (c := EnC it i) (upd_self _ _ _)
  obtain ⟨_, oi, hoi, hpi⟩ := R.at (a := it) (c := LIter l i) (by show F i σ₀ it = _; simp only [F]; rw [upd_ne _ _ hne, upd_self])
  obtain ⟨vr, c, el, q⟩ := R.seqAt (a := l) (ty := "list") (vs := vs) (by show F i σ₀ l = _; simp only [F]; rw [upd_ne _ _ le, upd_ne _ _ li]; exact hls)
  have hI' : s.heap.IsListIter it l i := ⟨oi, hoi, hpi⟩
  cases z : vs[i]? with
  | none =>
    have : i = vs.length := by rw [List.getElem?_eq_none_iff] at z; omega
    subst this
    have hx : vr[vs.length]? = none := by
      have := er_size q
      rw [Array.getElem?_eq_none_iff]; omega
    refine wpAny_pyNext_enum_end hA hoo hI' (isList_of el) hx fun h' hx' => ?_
    have R' := R.lose (s' := { s with heap := h' }) (a := it) (c := LIter l vs.length) (by show F _ σ₀ it = _; simp only [F]; rw [upd_ne _ _ hne, upd_self]) hx' rfl rfl
    refine ⟨m, _, R', σ₀, fun a c ec => ?_, hend m σ₀ hI⟩
    have ai : a ≠ it := fun y => by rw [y, hit] at ec; cases ec
    have ae : a ≠ e := fun y => by rw [y, he] at ec; cases ec
    rw [upd_ne _ _ ai]
    show F _ σ₀ a = _
    simp only [F]
    rw [upd_ne _ _ ae, upd_ne _ _ ai]; exact ec
  | some v =>
    have hlt : i < vs.length := by
      rcases Nat.lt_or_ge i vs.length with w | w
      · exact w
      · rw [List.getElem?_eq_none_iff.mpr w] at z; cases z
    obtain ⟨r, hr, hre⟩ := er_item q z
    refine wpAny_pyNext_enum_item hoo hI' (isList_of el) hr (Ne.symm hne) fun h' heo hit' ht' hz' hk' => ?_
    -- the pair that is handed out
    have R₁ := R.pushSeqA (ty := "tuple") (vr := #[.int i s.toks, r])
    have fr : F i σ₀ s.heap.objs.size = none := (R.fresh (Heap.get?_none_of_le (Nat.le_refl _))).2.1
    generalize hT : s.heap.objs.size = t at R₁ fr heo ht' hz'
    have te : t ≠ e := fun y => by rw [y] at fr; simp only [F] at fr; rw [upd_self] at fr; cases fr
    have ti : t ≠ it := fun y => by rw [y] at fr; simp only [F] at fr; rw [upd_ne _ _ hne, upd_self] at fr; cases fr
    obtain ⟨oi', hoi', hpi'⟩ := hit'
    have R₂ := R₁.turn2 (s' := { s with heap := h', toks := s.toks + 1 }) (a := it) (b := e) (ca := LIter l i) (cb := EnC it i) (ca' := LIter l (i + 1)) (cb' := EnOut it t (i + 1))
      (by rw [upd_ne _ _ (Ne.symm ti)]; show F i σ₀ it = _; simp only [F]; rw [upd_ne _ _ hne, upd_self]) (by rw [upd_ne _ _ (Ne.symm te)]; show F i σ₀ e = _; simp only [F]; rw [upd_self]) hne
      (fun x o xi xe ho => by
        by_cases y : x = t
        · subst y
          have e1 : (s.heap.push { cls := .type "tuple", data := .seq #[.int i s.toks, r] }).get? s.heap.objs.size = some _ := Heap.get?_push_size _ rfl
          have ho : (s.heap.push { cls := .type "tuple", data := .seq #[.int i s.toks, r] }).get? x = some o := ho
          rw [hT] at e1
          rw [e1] at ho; cases ho
          exact ht'
        · have ho : (s.heap.push { cls := .type "tuple", data := .seq #[.int i s.toks, r] }).get? x = some o := ho
          rw [Heap.get?_push_ne _ _ _ (by rw [hT]; exact y)] at ho
          exact hk' x o xe xi ho) rfl rfl ⟨oi', hoi', hpi'⟩ ⟨_, heo, r, by
            have : ((i + 1 : Nat) : Int) = (i : Int) + 1 := by push_cast; rfl
            rw [this]⟩ rfl rfl
    refine ⟨m, _, R₂, ?_⟩
    have vs2 : (#[.int i s.toks, r] : Array Value).toList.map er = [.int i 0, v] := by simp [hre]
    rw [vs2]
    intro s₃ R₃
    obtain ⟨_, oo₃, hoo₃, old₃, rfl⟩ := R₃.at (a := e) (c := EnOut it t (i + 1)) (upd_self _ _ _)
    refine wpAny_letOwnedTupleGo_enum (it := it) (i := ((i + 1 : Nat) : Int)) (item := old₃) hoo₃ fun h₄ he₄ hs₄ => ?_
    have R₄ := R₃.turn (s' := { s₃ with heap := h₄ }) (a := e) (c := EnOut it t (i + 1)) (c' := EnC it (i + 1)) (upd_self _ _ _) hs₄.2 rfl rfl (fun hid _ => ⟨_, he₄, old₃, rfl⟩) (fun q => by cases q)
    rw [upd_upd] at R₄
    have eF : upd (upd (upd (F i σ₀) t (some (.seq "tuple" [.int i 0, v]))) it (some (LIter l (i + 1)))) e (some (EnC it (i + 1))) = upd (F (i + 1) σ₀) t (some (.seq "tuple" [.int i 0, v])) := by
      simp only [F]
      funext a
      by_cases a1 : a = t
      · subst a1; rw [upd_self, upd_ne _ _ te, upd_ne _ _ ti, upd_self]
      · rw [upd_ne (upd (upd σ₀ it _) e _) _ a1]
        by_cases a2 : a = e
        · subst a2; rw [upd_self, upd_self]
        · rw [upd_ne _ _ a2, upd_ne _ _ a2]
          by_cases a3 : a = it
          · subst a3; rw [upd_self, upd_self]
          · rw [upd_ne _ _ a3, upd_ne _ _ a3, upd_ne _ _ a1, upd_ne _ _ a2, upd_ne _ _ a3]
    rw [eF] at R₄
    refine ⟨m, _, R₄, ?_⟩
    refine t_bind (t_asTup (t := t) (vs := [.int i 0, v]) (.inl hA) rfl (upd_self _ _ _) rfl (as_name (as_name (as_nil ?_) hxv hm) hxi hm))
    -- the counting ones set aside
    have nt0 : σ₀ t = none := by simp only [F] at fr; rw [upd_ne _ _ te, upd_ne _ _ ti] at fr; exact fr
    have S : Split (upd (F (i + 1) σ₀) t (some (.seq "tuple" [.int i 0, v]))) σ₀ (upd (upd (upd (fun _ => none) it (some (LIter l (i + 1)))) e (some (EnC it (i + 1)))) t (some (.seq "tuple" [.int i 0, v]))) := by
      refine ⟨fun a ha => ?_, fun a ha => ?_, fun a a1 a2 => ?_⟩
      · have ai : a ≠ it := fun y => ha (by rw [y]; exact hit)
        have ae : a ≠ e := fun y => ha (by rw [y]; exact he)
        have at' : a ≠ t := fun y => ha (by rw [y]; exact nt0)
        simp only [F]
        refine ⟨by rw [upd_ne _ _ at', upd_ne _ _ ae, upd_ne _ _ ai], by rw [upd_ne _ _ at', upd_ne _ _ ae, upd_ne _ _ ai]⟩
      · simp only [F]
        by_cases at' : a = t
        · subst at'; exact ⟨nt0, by rw [upd_self, upd_self]⟩
        · rw [upd_ne _ _ at'] at ha ⊢
          by_cases ae : a = e
          · subst ae; exact ⟨he, by rw [upd_ne _ _ at', upd_self, upd_self]⟩
          · rw [upd_ne _ _ ae] at ha ⊢
            by_cases ai : a = it
            · subst ai; exact ⟨hit, by rw [upd_ne _ _ at', upd_ne _ _ ae, upd_self, upd_self]⟩
            · rw [upd_ne _ _ ai] at ha; exact (ha rfl).elim
      · have at' : a ≠ t := fun y => by rw [y, upd_self] at a2; cases a2
        rw [upd_ne _ _ at'] at a2
        have ae : a ≠ e := fun y => by rw [y, upd_self] at a2; cases a2
        rw [upd_ne _ _ ae] at a2
        have ai : a ≠ it := fun y => by rw [y, upd_self] at a2; cases a2
        simp only [F]
        rw [upd_ne _ _ at', upd_ne _ _ ae, upd_ne _ _ ai]; exact a1
    refine ((Tr.frame S fun B' hB => hturn B' hB i m σ₀ v hI z).mono (fun f m₅ σ₅ q => ?_) fun c b m₅ σ₅ q => ?_)
    · obtain ⟨τ, S', q⟩ := q
      have n1 : τ it = none := (S'.r it (by rw [upd_ne _ _ (Ne.symm ti), upd_ne _ _ hne, upd_self]; simp)).1
      have n2 : τ e = none := (S'.r e (by rw [upd_ne _ _ (Ne.symm te), upd_self]; simp)).1
      have sub : ∀ a c, F (i + 1) τ a = some c → σ₅ a = some c := fun a c ec => by
        simp only [F] at ec
        by_cases ae : a = e
        · subst ae
          rw [upd_self] at ec
          refine S'.inr ?_
          rw [upd_ne _ _ (Ne.symm te), upd_self]; exact ec
        · rw [upd_ne _ _ ae] at ec
          by_cases ai : a = it
          · subst ai
            rw [upd_self] at ec
            refine S'.inr ?_
            rw [upd_ne _ _ (Ne.symm ti), upd_ne _ _ ae, upd_self]; exact ec
          · rw [upd_ne _ _ ai] at ec; exact S'.inl ec
      cases f with
      | next => exact ⟨vs.length - (i + 1), by omega, i + 1, τ, sub, n1, n2, q, rfl, hlt⟩
      | cont => exact ⟨vs.length - (i + 1), by omega, i + 1, τ, sub, n1, n2, q, rfl, hlt⟩
      | brk => exact ⟨τ, fun a c e => S'.inl e, q⟩
      | ret v => exact ⟨τ, fun a c e => S'.inl e, q⟩
    · obtain ⟨τ, S', q⟩ := q
      exact ⟨τ, fun a c e => S'.inl e, q⟩
end

/-! # Lay35 -/

section
variable {W : Wd} {fd : FuncData} {a b c d e f g : Value} {p1 p2 p3 p4 p5 p6 p7 : Str}
theorem bindsD1 {T : Addr} {o : Obj} {items : Array Value} {n : Nat} {v : Value} {k : Value → Option (Array Value) → Sem (List (Str × Value))} (hd : fd.defaults = .ref T) (ho : W.K.lookup T = some o) (hs : o.data = .seq items n)
    (h₁ : ∀ x, bindArgs fd ⟨[x], []⟩ = seqItems? fd.defaults >>= k x) (h₂ : ∀ x, k x (some items) = pure [(p1, x), (p2, v)]) : Binds W fd [a] [] [(p1, a), (p2, er v)] := fun pos' kw' e1 e2 s X0 => by
  obtain ⟨x, r, rfl, hx, hr⟩ := map_er_cons e1
  obtain rfl := map_er_nil hr
  obtain rfl := erK_nil e2
  exact ⟨_, BindsTo.of_defaults hd (X0 _ _ ho) hs (h₁ x) (h₂ x), by simp [erK, hx]⟩
theorem bindsD22 {T : Addr} {o : Obj} {items : Array Value} {n : Nat} {k : Value → Value → Option (Array Value) → Sem (List (Str × Value))} (hd : fd.defaults = .ref T) (ho : W.K.lookup T = some o) (hs : o.data = .seq items n)
    (h₁ : ∀ x y, bindArgs fd ⟨[x, y], []⟩ = seqItems? fd.defaults >>= k x y) (h₂ : ∀ x y, k x y (some items) = pure [(p1, x), (p2, y)]) : Binds W fd [a, b] [] [(p1, a), (p2, b)] := fun pos' kw' e1 e2 s X0 => by
  obtain ⟨x, r, rfl, hx, hr⟩ := map_er_cons e1
  obtain ⟨y, r, rfl, hy, hr⟩ := map_er_cons hr
  obtain rfl := map_er_nil hr
  obtain rfl := erK_nil e2
  exact ⟨_, BindsTo.of_defaults hd (X0 _ _ ho) hs (h₁ x y) (h₂ x y), by simp [erK, hx, hy]⟩
theorem binds5 (h : ∀ x1 x2 x3 x4 x5, bindArgs fd ⟨[x1, x2, x3, x4, x5], []⟩ = pure [(p1, x1), (p2, x2), (p3, x3), (p4, x4), (p5, x5)]) : Binds W fd [a, b, c, d, e] [] [(p1, a), (p2, b), (p3, c), (p4, d), (p5, e)] := fun pos' kw' e1 e2 s X0 => by
  obtain ⟨x1, r, rfl, h1, hr⟩ := map_er_cons e1
  obtain ⟨x2, r, rfl, h2, hr⟩ := map_er_cons hr
  obtain ⟨x3, r, rfl, h3, hr⟩ := map_er_cons hr
  obtain ⟨x4, r, rfl, h4, hr⟩ := map_er_cons hr
  obtain ⟨x5, r, rfl, h5, hr⟩ := map_er_cons hr
  obtain rfl := map_er_nil hr
  obtain rfl := erK_nil e2
  exact ⟨_, BindsTo.of_eq (h x1 x2 x3 x4 x5), by simp [erK, h1, h2, h3, h4, h5]⟩
theorem binds6 (h : ∀ x1 x2 x3 x4 x5 x6, bindArgs fd ⟨[x1, x2, x3, x4, x5, x6], []⟩ = pure [(p1, x1), (p2, x2), (p3, x3), (p4, x4), (p5, x5), (p6, x6)]) : Binds W fd [a, b, c, d, e, f] [] [(p1, a), (p2, b), (p3, c), (p4, d), (p5, e), (p6, f)] := fun pos' kw' e1 e2 s X0 => by
  obtain ⟨x1, r, rfl, h1, hr⟩ := map_er_cons e1
  obtain ⟨x2, r, rfl, h2, hr⟩ := map_er_cons hr
  obtain ⟨x3, r, rfl, h3, hr⟩ := map_er_cons hr
  obtain ⟨x4, r, rfl, h4, hr⟩ := map_er_cons hr
  obtain ⟨x5, r, rfl, h5, hr⟩ := map_er_cons hr
  obtain ⟨x6, r, rfl, h6, hr⟩ := map_er_cons hr
  obtain rfl := map_er_nil hr
  obtain rfl := erK_nil e2
  exact ⟨_, BindsTo.of_eq (h x1 x2 x3 x4 x5 x6), by simp [erK, h1, h2, h3, h4, h5, h6]⟩
end
section
variable {W : Wd} {A : Around} {B : Base} {fe env : Env} {fs : List (Env × LM)} {m : LM} {σ : AH} {es : List Env} {u : Nat}
def PQ (Q : List (Value × Value) → LM → AH → Prop) : List (Value × Value) → LM → AH → Prop := fun vs => Q (erP vs)
theorem t_DictP {keys : List (Option Expr)} {values : List Expr} {pos : Pos} {Q X} (O : Ok W A B es u)
    (h : ∀ d, σ d = none → Tr W A B fe fs (evalPairs (pairTrees keys values env pos)) m (upd σ d (some (.dict []))) (PQ fun ws m₁ σ₁ => σ₁ d = some (.dict []) ∧ (ws.all fun p => (dk p.1).isSome) = true ∧ ws.length ≤ 1000 ∧
      Q (.ref d) m₁ (upd σ₁ d (some (.dict (ws.foldl (fun l p => dsetV p.1 p.2 l) []))))) X)
    (hall : keys.all (·.isSome) = true := by with_unfolding_all rfl) (hl : keys.length = values.length := by with_unfolding_all rfl) (h0 : keys ≠ [] := by simp) (hlen : keys.length ≤ 15 := by decide) : TrV W A B fe fs (eval (.Dict keys values pos) env) m σ Q X :=
  t_Dict O h hall hl h0 hlen
theorem p_nil {Q : List (Value × Value) → LM → AH → Prop} {X} {pos : Pos} (h : Q [] m σ) : Tr W A B fe fs (evalPairs (pairTrees [] [] env pos)) m σ (PQ Q) X := t_pairs_nil (Q := Q) h
theorem p_cons {k v : Expr} {ks : List (Option Expr)} {vs : List Expr} {pos : Pos} {Q : List (Value × Value) → LM → AH → Prop} {X}
    (h : TrV W A B fe fs (eval k env) m σ (fun a m₁ σ₁ => TrV W A B fe fs (eval v env) m₁ σ₁ (fun b m₂ σ₂ => Tr W A B fe fs (evalPairs (pairTrees ks vs env pos)) m₂ σ₂ (PQ fun r => Q ((a, b) :: r)) X) X) X) :
    Tr W A B fe fs (evalPairs (pairTrees (some k :: ks) (v :: vs) env pos)) m σ (PQ Q) X := t_pairs_cons (Q := Q) h
end
section
variable {W : Wd} {A : Around} {B : Base} {fe env : Env} {fs : List (Env × LM)} {m : LM} {σ : AH} {es : List Env} {u : Nat}
end

/-! # Lay36 -/

section
variable {W : Wd} {A : Around} {B : Base} {fe env : Env} {fs : List (Env × LM)} {m : LM} {σ : AH}
end

/-! # Lay37 -/

/-! ## a list that was there before -/
def ListB (B : Base) (a : Addr) (vs : List Value) : Prop := ∃ vr, B.h.IsList a vr ∧ vr.toList.map er = vs
section
variable {W : Wd} {A : Around} {B : Base} {fe env : Env} {es : List Env} {fs : List (Env × LM)} {m : LM} {σ : AH} {u : Nat} {s : Shared}
theorem ListB.at {a : Addr} {vs : List Value} (h : ListB B a vs) (R : Rel B fs σ s) : ∃ vr, s.heap.IsList a vr ∧ vr.toList.map er = vs := by
  obtain ⟨vr, ⟨o, e, q⟩, z⟩ := h
  exact ⟨vr, ⟨o, R.keep _ _ e, q⟩, z⟩
theorem op_truthy_listB {l : Addr} {vs : List Value} {Q : Bool → LM → AH → Prop} {X} (hσ : ListB B l vs) (hz : vs.length ≤ 10000) (h : Q (!vs.isEmpty) m σ) : Op1 W A B fe fs truthy (.ref l) m σ Q X := fun x hx s R => by
  obtain rfl := er_ref_inv hx
  obtain ⟨vr, e, q⟩ := hσ.at R
  have hs := er_size q
  refine wpAny_truthy_list e (by omega) ⟨m, σ, R.toks _, ?_⟩
  have : vr.isEmpty = vs.isEmpty := by cases vs with | nil => simp at hs; simp [hs] | cons a b => simp [Array.isEmpty, hs]
  rw [this]; exact h
theorem call_lenB {l : Addr} {vs : List Value} {Q : Value → AH → Prop} {X} (hσ : ListB B l vs) (hz : vs.length ≤ 10000) (h : Q (.int vs.length 0) σ) : CallW W A B fs (.builtin "len") [.ref l] [] σ Q X := fun pos' kw' e1 e2 s R => by
  obtain ⟨x, k, rfl, hx, hk⟩ := map_er_cons e1
  obtain rfl := map_er_nil hk
  obtain rfl := er_ref_inv hx
  obtain rfl := erK_nil e2
  obtain ⟨vr, e, q⟩ := hσ.at R
  have hs := er_size q
  exact len_list e (by omega) ⟨σ, R.toks _, by show Q (.int _ 0) σ; rw [hs]; exact h⟩
theorem op_itemListB {value slice : Expr} {t : Addr} {vs : List Value} {k : Int} {v : Value} {Q X} (hσ : ListB B t vs) (h0 : 0 ≤ k) (hhi : k < 2 ^ 63) (hv : vs[k.toNat]? = some v) (h : Q v m σ)
    (hs : ∀ u, subscripted slice false (.ref t) (.int k u) = operate [.ref t, .int k u] (getItem (.ref t) (.int k u)) := by intro _; with_unfolding_all rfl) :
    Op2 W A B fe fs (subscriptTail value slice) (.ref t) (.int k 0) m σ (ErQ Q) X := fun x y hx hy s R => by
  obtain rfl := er_ref_inv hx
  obtain ⟨u, rfl⟩ := er_int_inv hy
  obtain ⟨vr, e, q⟩ := hσ.at R
  obtain ⟨r, hr, hre⟩ := er_item q hv
  exact tail_any e.typeIs slot_list_getitem.lookup (wpAny_getItem_list e h0 hhi hr ⟨m, σ, R, by show Q (er r) m σ; rw [hre]; exact h⟩) (hs u)
end

/-! # Lay38 -/

/-! ## ints in lists, sorted -/
def iv (l : List Int) : List Value := l.map fun x => .int x 0
theorem ints_iv : ∀ {vs : List Value} {ns : List Int}, vs.map er = iv ns → IntsAre vs ns
  | [], [], _ => .nil
  | [], _ :: _, h => by cases h
  | _ :: _, [], h => by cases h
  | v :: vs, n :: ns, h => by
    have h : er v :: vs.map er = .int n 0 :: iv ns := h
    injection h with h1 h2
    obtain ⟨t, rfl⟩ := er_int_inv h1
    exact .cons n t (ints_iv h2)
theorem iv_ints : ∀ {vs : List Value} {ns : List Int}, IntsAre vs ns → vs.map er = iv ns
  | _, _, .nil => rfl
  | _, _, .cons n t h => by
    show er (.int n t) :: _ = .int n 0 :: _
    rw [iv_ints h]; rfl
section
variable {W : Wd} {A : Around} {B : Base} {fs : List (Env × LM)} {σ : AH}
theorem call_sorted {l : Addr} {ns : List Int} {Q : Value → AH → Prop} {X} (hσ : σ l = some (.seq "list" (iv ns))) (h64 : ns.length < 64)
    (h : ∀ a ns', σ a = none → ns'.Perm ns → ns'.Pairwise (· ≤ ·) → Q (.ref a) (upd σ a (some (.seq "list" (iv ns'))))) : CallW W A B fs (.builtin "sorted") [.ref l] [] σ Q X := fun pos' kw' e1 e2 s R => by
  obtain ⟨y, r, rfl, hy, hr⟩ := map_er_cons e1
  obtain rfl := map_er_nil hr
  obtain rfl := er_ref_inv hy
  obtain rfl := erK_nil e2
  obtain ⟨vr, n, e, q⟩ := R.seqAt hσ
  have z := er_size q
  have hl : s.heap.IsList l vr.toList.toArray := by rw [Array.toArray_toList]; exact isList_of e
  have z2 : (iv ns).length = ns.length := by unfold iv; rw [List.length_map]
  refine sorted_ints hl (ints_iv q) (by rw [Array.length_toList]; omega) fun out ns' a1 a2 a3 => ?_
  obtain ⟨c, hc⟩ := sortedAll_at s.heap vr.toList out
  have fr : s.heap.get? (s.heap.objs.size + 1) = none := Heap.get?_none_of_le (Nat.le_succ _)
  have R' := R.add (s' := { s with heap := sortedAll s.heap vr.toList out }) (a := s.heap.objs.size + 1) (hid := 0) (c := .seq "list" (iv ns')) (fun _ _ => sortedAll_old) rfl rfl fr (fun q => by cases q) ⟨out, c, hc, iv_ints a1⟩
  exact ⟨_, R', h _ _ (R.fresh fr).2.1 a2 a3⟩
end

/-! # Lay39 -/

section
variable {α β : Type} {W : Wd} {A : Around} {B : Base} {fe env : Env} {fs : List (Env × LM)} {m : LM} {σ τ ρ : AH} {es : List Env} {u : Nat} {E : Value → Shared → Prop} {s : Shared}
theorem t_AssignComp {t : Str} {pt pos' : Pos} {elt iter : Expr} {x : Str} {px : Pos} {ifs : List Expr} {scope : Scope} {cl : List (Str × Addr)} {pos : Pos} {Q : Flow → LM → AH → Prop} {X} (H : HdOk A B)
    (hclos : closureFor scope fe = pure cl) (hcell : ∀ y ∈ scope.names, y.2 ≠ .cell) (hkind : scope.kind = .function)
    (hnames : ∀ y ∈ scope.names, y.2 = .local → scope.names.lookup y.1 = some .local) (hx : scope.names.lookup x = some .local)
    (h : TrV W A B fe fs (eval iter fe) m σ (fun xv m₁ σ₁ => Op1 W A B fe fs pyIter xv m₁ σ₁ (fun it m₂ σ₂ => ∃ a σ₀ c n P src, it = .ref a ∧ σ₂ = upd σ₀ a (some (c 0)) ∧ σ₀ a = none ∧ ItOk W A B a c n P src ∧ n ≤ 1000 ∧
      ∃ J : Nat → List Value → AH → Prop, J 0 [] σ₀ ∧ (∀ i acc σ, J i acc σ → src σ ∧ acc.length ≤ i) ∧
        (∀ B', B.le B' → HdOk A B' → ∀ C i v acc σ mm, J i acc σ → i < n → P i v → σ C = none → mm x = some v →
          CompBody W A B B' fe fs (compEnvC scope cl C fe) ifs elt m₂ (upd σ C (some (NsC mm))) (fun r σ'' => ∃ σ', σ'' = upd σ' C (some (NsC mm)) ∧ σ' C = none ∧ J (i + 1) (acc ++ r.toList) σ')) ∧
        (∀ acc σ', J n acc σ' → ∀ D, σ' D = none → Q .next (upd m₂ t (some (.ref D))) (upd σ' D (some (.seq "list" acc))))) X) X)
    (hs : ∀ x, foldedSetIterable iter fe x = pure x := by intro _; with_unfolding_all rfl) (hl : fe.kindOf t = some .local := by with_unfolding_all rfl) (hm : fe.scope.kind = .function := by with_unfolding_all rfl)
    (hu : swapsWith (.ListComp elt [⟨.Name x px, iter, ifs, 0⟩] scope pos) (some (.Name t pt)) pos'.line fe = pure true := by with_unfolding_all rfl) :
    Tr W A B fe fs (exec (.Assign [.Name t pt] (.ListComp elt [⟨.Name x px, iter, ifs, 0⟩] scope pos) pos') fe) m σ Q X := fun s R => by
  rw [exec_Assign_Name_used _ _ _ _ hu]
  refine wpAny_bind (wpAny_standAt (wpAny_bind (m := evalThenUse (.ListComp elt [⟨.Name x px, iter, ifs, 0⟩] scope pos) fe (assign (.Name t pt) fe)) (wpAny_bind (m := comprehension (.ListComp elt [⟨.Name x px, iter, ifs, 0⟩] scope pos) scope fe (firstIterPos [⟨.Name x px, iter, ifs, 0⟩] pos) (newList []) (firstAsync [⟨.Name x px, iter, ifs, 0⟩]) (firstIter [⟨.Name x px, iter, ifs, 0⟩] fe) (some (assign (.Name t pt) fe))) ?_)))
  refine wpAny_mono (wpAny_comprehension_free (e := .ListComp elt [⟨.Name x px, iter, ifs, 0⟩] scope pos) (g := ⟨.Name x px, iter, ifs, 0⟩) (gs := []) (use := some (assign (.Name t pt) fe)) (Q := fun _ s' => ∃ m' σ', Rel B ((fe, m') :: fs) σ' s' ∧ Q .next m' σ') rfl hs hclos hkind hnames ?_) (fun _ s' q => ?_) fun _ _ x => x
  rotate_left
  · obtain ⟨m', σ', R', q⟩ := q
    exact wpAny_pure (wpAny_pure ⟨m', σ', R', q⟩)
  refine wpAny_mono (h s R) (fun xv s₁ q₁ => ?_) (fun _ _ x => x)
  obtain ⟨m₁, σ₁, R₁, h₁⟩ := q₁
  refine wpAny_mono (h₁ xv rfl s₁ R₁) (fun it s₂ q₂ => ?_) (fun _ _ x => x)
  obtain ⟨m₂, σ₂, R₂, a, σ₀, c, n, P, src, rfl, rfl, ha, I, hn, J, hJ0, hJ, turn, fin⟩ := q₂
  refine wpAny_newObj_type (wpAny_newFunctionEnv hcell (by intro y hy; simp at hy) (fun h₁ hns₁ hsb₁ => ?_) hkind)
  have R₃ := R₂.pushSeq (ty := "list") (vs := [])
  have hD := (R₂.fresh (a := s₂.heap.objs.size) (Heap.get?_none_of_le (Nat.le_refl _))).2.1
  generalize hDD : s₂.heap.objs.size = D at R₃ hD
  have R₃ : Rel B ((fe, m₂) :: fs) (upd (upd σ₀ a (some (c 0))) D (some (.seq "list" []))) { s₂ with heap := s₂.heap.push { cls := .type "list", data := .seq ([] : List Value).toArray } } := R₃
  have hDa : a ≠ D := fun z => by rw [← z, upd_self] at hD; cases hD
  have hD0 : σ₀ D = none := by rw [upd_ne _ _ (Ne.symm hDa)] at hD; exact hD
  generalize hH2 : s₂.heap.push { cls := .type "list", data := .seq ([] : List Value).toArray } = H2 at hns₁ hsb₁ R₃ ⊢
  have hC := (R₃.fresh (a := H2.objs.size) (Heap.get?_none_of_le (Nat.le_refl _))).2.1
  have R₄ := R₃.add (s' := { s₂ with heap := h₁, toks := s₂.toks + ([] : List (Str × Value)).length }) (a := H2.objs.size) (hid := 0) (c := NsC (fun _ => none))
    (fun b o e => hsb₁.extBut b o (Nat.ne_of_lt (Heap.lt_size e)) (Heap.get?_push_of_some _ e)) rfl rfl (Heap.get?_none_of_le (Nat.le_refl _)) (fun q => by cases q) (NsC.at hns₁ fun _ => rfl)
  dsimp only at hns₁ hsb₁ R₄ ⊢
  generalize hCC : H2.objs.size = C at hC R₄ hns₁ hsb₁
  have hCD : D ≠ C := fun z => by rw [← z, upd_self] at hC; cases hC
  have hCa : a ≠ C := fun z => by rw [← z, upd_ne _ _ hDa, upd_self] at hC; cases hC
  have hC0 : σ₀ C = none := by rw [upd_ne _ _ (Ne.symm hCD), upd_ne _ _ (Ne.symm hCa)] at hC; exact hC
  have e₀ : upd (upd (upd σ₀ a (some (c 0))) D (some (.seq "list" []))) C (some (NsC fun _ => none)) = around D C a [] (fun _ => none) (c 0) σ₀ := by
    unfold around
    rw [upd_comm _ _ _ hDa, upd_comm _ _ _ hCa]
  rw [e₀] at R₄
  -- the loop
  have loop : ∀ s' : Shared, Rel B ((fe, m₂) :: fs) (around D C a [] (fun _ => none) (c 0) σ₀) s' → codeAny (model W.prog W.w) A (.compLoop (.ListComp elt [⟨.Name x px, iter, ifs, 0⟩] scope pos) 0 (.ref a) (.ref D) (compEnvC scope cl C fe))
      (compPost (model W.prog W.w) A (EndX B fe fs X) (some (assign (.Name t pt) fe)) (fun _ s' => ∃ m' σ', Rel B ((fe, m') :: fs) σ' s' ∧ Q .next m' σ') (.ref D) C) s' := fun s' R' => by
    refine codeAny_compLoop_tests (fun k s' => ∃ i acc mm σ', k + i = n + 1 ∧ i ≤ n ∧ J i acc σ' ∧ σ' a = none ∧ σ' D = none ∧ σ' C = none ∧ Rel B ((fe, m₂) :: fs) (around D C a acc mm (c i) σ') s') ?_ (n + 1) ⟨0, [], fun _ => none, σ₀, by omega, Nat.zero_le _, hJ0, ha, hD0, hC0, R'⟩
    rintro k s' ⟨i, acc, mm, σ', hk, hi, hj, ja, jD, jC, R'⟩
    obtain ⟨js, jl⟩ := hJ _ _ _ hj
    have hb : (upd (upd σ' D (some (.seq "list" acc))) C (some (NsC mm))) a = none := by rw [upd_ne _ _ hCa, upd_ne _ _ hDa]; exact ja
    refine wpAny_mono (I.next (B := B) (fe := fe) (fs := fs) (m := m₂) (Q := fun r m' σ'' => m' = m₂ ∧ match r with
        | none => ¬ i < n ∧ σ'' = upd (upd σ' D (some (.seq "list" acc))) C (some (NsC mm))
        | some v => i < n ∧ P i (er v) ∧ σ'' = around D C a acc mm (c (i + 1)) σ') (X := noX) i (Base.le_refl _) H hb (I.mono σ' _ (fun b d e => by
          rw [upd_ne _ _ (fun z => by rw [z, jC] at e; cases e), upd_ne _ _ (fun z => by rw [z, jD] at e; cases e)]; exact e) js) (by
        by_cases z : i < n
        · rw [if_pos z]; exact fun r hr => ⟨rfl, z, hr, rfl⟩
        · rw [if_neg z]; exact ⟨rfl, z, rfl⟩) hi s' R') (fun r s₁ q => ?_) fun ev s₁ q => by obtain ⟨_, _, _, _, _, _, _, _, _, f⟩ := q; exact f.elim
    obtain ⟨m', σ₁, R₁, hm', q⟩ := q
    have hm' : m₂ = m' := hm'.symm
    subst hm'
    cases r with
    | none =>
      obtain ⟨z, rfl⟩ := q
      obtain rfl : i = n := by omega
      have stn := t_asName (W := W) (A := A) (B := B) (fe := fe) (fs := fs) (m := m₂) (x := t) (xp := pt) (v := .ref D) (w := .ref D) (σ := upd (upd σ' D (some (.seq "list" acc))) C (some (NsC mm)))
        (Q := fun _ m'' σ'' => m'' = upd m₂ t (some (.ref D)) ∧ σ'' = upd (upd σ' D (some (.seq "list" acc))) C (some (NsC mm))) (X := noX) rfl ⟨rfl, rfl⟩ hl hm
      refine wpAny_mono (stn s₁ R₁) (fun _ s₂ q => ?_) fun ev s₂ q => by obtain ⟨_, _, _, _, _, _, _, _, _, f⟩ := q; exact f.elim
      obtain ⟨m₅, σ₂, R₂, hm₅, hσ₂⟩ := q
      have hm₅ : m₅ = upd m₂ t (some (.ref D)) := hm₅
      subst hm₅ hσ₂
      obtain ⟨hid, hh⟩ := R₂.at (a := C) (upd_self _ _ _)
      obtain ⟨mr, h1, h2⟩ := NsC.is hh
      refine ⟨mr, h1, fun h' hs' => ⟨_, _, ?_, fin acc σ' hj D jD⟩⟩
      have := R₂.lose (s' := { s₂ with heap := h' }) (a := C) (upd_self _ _ _) (fun b o hb e => (hs'.2 b hb).trans e) rfl rfl
      rw [upd_upd, show upd (upd σ' D (some (.seq "list" acc))) C none = upd σ' D (some (.seq "list" acc)) by
        have : (upd σ' D (some (.seq "list" acc))) C = none := by rw [upd_ne _ _ (Ne.symm hCD)]; exact jC
        rw [← this, upd_same]] at this
      exact this
    | some v =>
      obtain ⟨z, hP, rfl⟩ := q
      have st := t_compStore (W := W) (A := A) (B := B) (fe := fe) (fs := fs) (m := m₂) (env := compEnvC scope cl C fe) (x := x) (xp := px) (mm := mm) (v := v) (σ := around D C a acc mm (c (i + 1)) σ')
        (Q := fun _ m'' σ'' => m'' = m₂ ∧ σ'' = around D C a acc (upd mm x (some (er v))) (c (i + 1)) σ') (X := noX)
        (by show around D C a acc mm (c (i + 1)) σ' C = _; unfold around; rw [upd_ne _ _ (Ne.symm hCa), upd_self])
        ⟨rfl, by show upd (around D C a acc mm (c (i + 1)) σ') C _ = _; unfold around; rw [upd_comm _ _ _ hCa, upd_upd]⟩ (lookup_relabel_local hx) hkind
      refine wpAny_mono (st s₁ R₁) (fun _ s₂ q => ?_) fun ev s₂ q => by obtain ⟨_, _, _, _, _, _, _, _, _, f⟩ := q; exact f.elim
      obtain ⟨m₅, σ₂, R₂, hm₅, hσ₂⟩ := q
      have hm₅ : m₂ = m₅ := hm₅.symm
      subst hm₅ hσ₂
      -- the element, its list and what is walked through set aside
      have S : Split (around D C a acc (upd mm x (some (er v))) (c (i + 1)) σ') (upd σ' C (some (NsC (upd mm x (some (er v)))))) (upd (upd (fun _ => none) D (some (.seq "list" acc))) a (some (c (i + 1)))) := by
        refine ⟨fun b hb => ?_, fun b hb => ?_, fun b h1 h2 => ?_⟩
        · by_cases bC : b = C
          · subst bC
            refine ⟨by rw [upd_ne _ _ (Ne.symm hCa), upd_ne _ _ (Ne.symm hCD)], ?_⟩
            unfold around
            rw [upd_ne _ _ (Ne.symm hCa), upd_self, upd_self]
          · rw [upd_ne _ _ bC] at hb ⊢
            have ba : b ≠ a := fun z => hb (by rw [z]; exact ja)
            have bD : b ≠ D := fun z => hb (by rw [z]; exact jD)
            refine ⟨by rw [upd_ne _ _ ba, upd_ne _ _ bD], ?_⟩
            unfold around
            rw [upd_ne _ _ ba, upd_ne _ _ bC, upd_ne _ _ bD]
        · by_cases ba : b = a
          · subst ba
            refine ⟨by rw [upd_ne _ _ hCa]; exact ja, ?_⟩
            unfold around
            rw [upd_self, upd_self]
          · rw [upd_ne _ _ ba] at hb ⊢
            by_cases bD : b = D
            · subst bD
              refine ⟨by rw [upd_ne _ _ hCD]; exact jD, ?_⟩
              unfold around
              rw [upd_ne _ _ ba, upd_ne _ _ hCD, upd_self, upd_self]
            · rw [upd_ne _ _ bD] at hb; exact (hb rfl).elim
        · have ba : b ≠ a := fun z => by rw [z, upd_self] at h2; cases h2
          rw [upd_ne _ _ ba] at h2
          have bD : b ≠ D := fun z => by rw [z, upd_self] at h2; cases h2
          have bC : b ≠ C := fun z => by rw [z, upd_self] at h1; cases h1
          rw [upd_ne _ _ bC] at h1
          unfold around
          rw [upd_ne _ _ ba, upd_ne _ _ bC, upd_ne _ _ bD]; exact h1
      have back : ∀ {σ'' τ' σ₃ : AH} {acc' : List Value}, Split σ'' τ' (upd (upd (fun _ => none) D (some (.seq "list" acc'))) a (some (c (i + 1)))) → τ' = upd σ₃ C (some (NsC (upd mm x (some (er v))))) → σ₃ C = none →
          σ'' = around D C a acc' (upd mm x (some (er v))) (c (i + 1)) σ₃ ∧ σ₃ a = none ∧ σ₃ D = none := fun {σ'' τ' σ₃ acc'} S' e3 n3 => by
        have ta : τ' a = none := (S'.r a (by rw [upd_self]; simp)).1
        have tD : τ' D = none := (S'.r D (by rw [upd_ne _ _ (Ne.symm hDa), upd_self]; simp)).1
        have sa : σ₃ a = none := by rw [e3, upd_ne _ _ hCa] at ta; exact ta
        have sD : σ₃ D = none := by rw [e3, upd_ne _ _ hCD] at tD; exact tD
        refine ⟨?_, sa, sD⟩
        rw [S'.eq, e3]
        funext b
        unfold joinA around
        by_cases ba : b = a
        · subst ba; rw [upd_ne _ _ hCa, sa, upd_self, upd_self]
        · rw [upd_ne _ _ ba]
          by_cases bC : b = C
          · subst bC; rw [upd_self, upd_ne _ _ ba, upd_self]
          · rw [upd_ne _ _ bC, upd_ne _ _ ba, upd_ne _ _ bC]
            by_cases bD : b = D
            · subst bD; rw [sD, upd_self, upd_self]
            · rw [upd_ne _ _ bD, upd_ne _ _ bD]; cases σ₃ b <;> rfl
      have T₁ := Tr.frame (fe := fe) (fs := fs) S fun B' hB' => turn B' hB' (H.le hB') C i (er v) acc σ' (upd mm x (some (er v))) hj z hP jC (upd_self _ _ _)
      refine wpAny_mono (T₁ s₂ R₂) (fun ok s₃ q => ?_) fun ev s₃ q => by obtain ⟨_, _, _, _, _, _, _, _, _, _, _, f⟩ := q; exact f.elim
      obtain ⟨m₃, σ₃, R₃, τ₃, S₃, hm₃, q⟩ := q
      have hm₃ : m₂ = m₃ := hm₃.symm
      subst hm₃
      cases ok with
      | false =>
        rw [if_neg (by decide)] at q ⊢
        obtain ⟨σ₄, e4, n4, j4⟩ := q
        obtain ⟨e5, a5, d5⟩ := back S₃ e4 n4
        rw [Option.toList_none, List.append_nil] at j4
        exact ⟨k - 1, by omega, i + 1, acc, _, σ₄, by omega, by omega, j4, a5, d5, n4, by rw [← e5]; exact R₃⟩
      | true =>
        rw [if_pos rfl] at q ⊢
        have T₂ := Tr.frame (fe := fe) (fs := fs) S₃ fun B' hB' => q B' hB'
        refine wpAny_mono (T₂ s₃ R₃) (fun w s₄ q => ?_) fun ev s₄ q => by obtain ⟨_, _, _, _, _, _, _, _, _, _, _, f⟩ := q; exact f.elim
        obtain ⟨m₄, σ₄, R₄, τ₄, S₄, hm₄, σ₅, e4, n4, j4⟩ := q
        have hm₄ : m₂ = m₄ := hm₄.symm
        subst hm₄
        obtain ⟨e5, a5, d5⟩ := back S₄ e4 n4
        subst e5
        have T₃ := call_append (W := W) (A := A) (B := B) (fs := (fe, m₂) :: fs) (l := D) (vs := acc) (v := er w) (σ := around D C a acc (upd mm x (some (er v))) (c (i + 1)) σ₅)
          (Q := fun _ σ'' => σ'' = around D C a (acc ++ [er w]) (upd mm x (some (er v))) (c (i + 1)) σ₅) (X := fun _ _ _ => False)
          (by unfold around; rw [upd_ne _ _ (Ne.symm hDa), upd_ne _ _ hCD, upd_self]) (by omega) (by
            unfold around
            rw [upd_comm _ _ _ hDa, upd_comm _ _ _ (Ne.symm hCD), upd_upd])
        refine wpAny_mono (T₃ [.ref D, w] [] rfl rfl s₄ R₄) (fun _ s₅ q => ?_) fun ev s₅ q => by obtain ⟨_, _, _, _, _, _, _, _, f⟩ := q; exact f.elim
        obtain ⟨σ₆, R₆, rfl⟩ := q
        exact ⟨k - 1, by omega, i + 1, acc ++ [er w], _, σ₅, by omega, by omega, j4, a5, d5, n4, R₆⟩
  refine codeAny_compStart_list (loop _ R₄) ?_
  refine wpAny_mono (I.self (B := B) (fe := fe) (fs := fs) (m := m₂) (σ := around D C a [] (fun _ => none) (c 0) σ₀) (Q := fun v m' σ' => v = .ref a ∧ m' = m₂ ∧ σ' = around D C a [] (fun _ => none) (c 0) σ₀) (X := noX) 0 (Base.le_refl _) (by unfold around; rw [upd_self]) ⟨rfl, rfl, rfl⟩ _ R₄) (fun v s' q => ?_) fun ev s' q => by obtain ⟨_, _, _, _, _, _, _, _, _, f⟩ := q; exact f.elim
  obtain ⟨_, _, R', rfl, rfl, rfl⟩ := q
  exact loop _ R'
end

/-! # Lay41 -/

section
variable {α β : Type} {W : Wd} {A : Around} {B : Base} {fe env : Env} {fs : List (Env × LM)} {m : LM} {σ τ ρ : AH} {es : List Env} {u : Nat} {E : Value → Shared → Prop} {s : Shared}
/-! ## range(a, b) -/
def RangeC2 (a b : Int) : Cell := .pred fun o => ∃ t u v, o = { cls := .type "range", data := .fields #[.int a t, .int b u, .int 1 v] }
theorem call_range2 {a b : Int} {Q : Value → AH → Prop} {X} (h : ∀ r, σ r = none → Q (.ref r) (upd σ r (some (RangeC2 a b)))) : CallW W A B fs (.type "range") [.int a 0, .int b 0] [] σ Q X := fun pos' kw' e1 e2 s R => by
  obtain ⟨x, k, rfl, hx, hk⟩ := map_er_cons e1
  obtain ⟨y, k, rfl, hy, hk⟩ := map_er_cons hk
  obtain rfl := map_er_nil hk
  obtain ⟨t, rfl⟩ := er_int_inv hx
  obtain ⟨u, rfl⟩ := er_int_inv hy
  obtain rfl := erK_nil e2
  refine call_range_2 ⟨_, R.add (hid := 0) (c := RangeC2 a b) (fun b o e => Heap.get?_push_of_some _ e) rfl rfl (Heap.get?_none_of_le (Nat.le_refl _)) (fun q => by cases q) ⟨_, Heap.get?_push_size _ rfl, _, _, _, rfl⟩, h _ (R.fresh (Heap.get?_none_of_le (Nat.le_refl _))).2.1⟩
theorem op_iterRange2 {r : Addr} {a : Int} {n : Nat} {Q : Value → LM → AH → Prop} {X} (ha : -100000 < a ∧ a < 100000) (hn : n < 100000) (hσ : σ r = some (RangeC2 a (a + n))) (h : ∀ it, σ it = none → Q (.ref it) m (upd σ it (some (RIter a n)))) : Op1 W A B fe fs pyIter (.ref r) m σ Q X := fun o ho s R => by
  obtain rfl := er_ref_inv ho
  obtain ⟨hid, o, e, t, u, v, rfl⟩ := R.at hσ
  have hs : Builtin.Range.rangeSize a (a + (n : Int)) 1 = (n : Int) := by rw [rangeSize_one]; split <;> omega
  refine wpAny_pyIter_range e (small_one (by omega) (by omega) (by omega) (by omega)) ?_
  rw [hs]
  exact ⟨m, _, R.add (hid := 0) (c := RIter a n) (fun b o e => Heap.get?_push_of_some _ e) rfl rfl (Heap.get?_none_of_le (Nat.le_refl _)) (fun q => by cases q) ⟨_, Heap.get?_push_size _ rfl, rfl⟩, h _ (R.fresh (Heap.get?_none_of_le (Nat.le_refl _))).2.1⟩
theorem t_nextRange2 {it : Addr} {a : Int} {i n : Nat} {Q : Option Value → LM → AH → Prop} {X} (H : HdOk A B) (hit : σ it = none)
    (h : if i < n then ∀ r, er r = .int (a + i) 0 → Q (some r) m (upd σ it (some (RIter (a + (i + 1 : Nat)) ((n : Int) - (i + 1 : Nat))))) else Q none m σ) :
    Tr W A B fe fs (pyNext (.ref it)) m (upd σ it (some (RIter (a + i) ((n : Int) - i)))) Q X := fun s R => by
  obtain ⟨hid, o, ho, rfl⟩ := R.at (a := it) (c := RIter (a + i) ((n : Int) - i)) (by rw [upd_self])
  by_cases z : i < n
  · rw [if_pos z] at h
    refine wpAny_pyNext_range_item (x := a + i) ho (by omega) fun h' hit' hs' => ⟨m, _, ?_, h _ rfl⟩
    rw [← upd_upd σ it (some (RIter (a + i) ((n : Int) - i)))]
    refine R.turn (s' := { s with heap := h', toks := s.toks + 1 }) (c := RIter (a + i) ((n : Int) - i)) (by rw [upd_self]) hs'.2 rfl rfl (fun hid x => ⟨_, hit', ?_⟩) (fun q => q)
    rw [show a + ((i + 1 : Nat) : Int) = a + (i : Int) + 1 by push_cast; omega, show (n : Int) - ((i + 1 : Nat) : Int) = (n : Int) - i - 1 by push_cast; omega]
  · rw [if_neg z] at h
    refine next_range_end_hd H R.keep (R.notB (a := it) (c := RIter (a + i) ((n : Int) - i)) (by rw [upd_self])) ho (by omega) fun h' he => ⟨m, σ, ?_, h⟩
    have := R.lose (s' := { s with heap := h' }) (by rw [upd_self]) he rfl rfl
    rw [upd_upd, ← hit, upd_same] at this
    exact this
theorem ItOk.range2 {it : Addr} {a : Int} {n : Nat} : ItOk W A B it (fun i => RIter (a + i) ((n : Int) - i)) n (fun i v => v = .int (a + i) 0) (fun _ => True) where
  mono := fun _ _ _ h => h
  next := fun {B} {fe} {fs} {m} {σ} {Q} {X} i hB H ha hs h hi => by
    refine t_nextRange2 H ha ?_
    by_cases z : i < n
    · rw [if_pos z] at h ⊢
      exact fun r hr => h r hr
    · rw [if_neg z] at h ⊢; exact h
  self := fun {B} {fe} {fs} {m} {σ} {Q} {X} i hB hσ h s R => by
    obtain ⟨hid, o, ho, rfl⟩ := R.at hσ
    exact wpAny_pyIter_slot ⟨_, ho, rfl⟩ PySem.F.slot_range_iterator_iter (wpAny_call_entry PySem.F.slot_range_iterator_iter ⟨_, ho, rfl⟩ PySem.F.entry_range_iterator_iter (by
      show wpAny _ _ (ret (.ref it)) _ _ s
      exact wpAny_pure ⟨_, rfl, "range_iterator", _, ⟨_, ho, rfl⟩, PySem.F.slot_range_iterator_next.lookup, ⟨m, _, R, h⟩⟩) (PySem.F.args_range_iterator_iter_1 _))
/-! ## comprehensions over a list that only look -/
theorem filterMap_take_succ {α β : Type} {f : α → Option β} {vs : List α} {i : Nat} {v : α} (h : vs[i]? = some v) : (vs.take (i + 1)).filterMap f = (vs.take i).filterMap f ++ (f v).toList := by
  rw [List.take_add_one, h, List.filterMap_append]
  cases e : f v with
  | none => simp [e]
  | some w => simp [e]
theorem t_ListCompPure {elt iter : Expr} {x : Str} {px : Pos} {ifs : List Expr} {scope : Scope} {cl : List (Str × Addr)} {pos : Pos} {Q X} (H : HdOk A B)
    (hclos : closureFor scope fe = pure cl) (hcell : ∀ y ∈ scope.names, y.2 ≠ .cell) (hkind : scope.kind = .function)
    (hnames : ∀ y ∈ scope.names, y.2 = .local → scope.names.lookup y.1 = some .local) (hx : scope.names.lookup x = some .local)
    (h : TrV W A B fe fs (eval iter fe) m σ (fun xv m₁ σ₁ => ∃ l vs, ∃ f : Value → Option Value, xv = .ref l ∧ σ₁ l = some (.seq "list" vs) ∧ vs.length ≤ 1000 ∧
        (∀ B', B.le B' → HdOk A B' → ∀ (C : Addr) (i : Nat) (v : Value) (mm : LM), vs[i]? = some v → σ₁ C = none → mm x = some v → CompBody W A B B' fe fs (compEnvC scope cl C fe) ifs elt m₁ (upd σ₁ C (some (NsC mm))) (fun r σ'' => r = f v ∧ σ'' = upd σ₁ C (some (NsC mm)))) ∧
        (∀ D, σ₁ D = none → Q (.ref D) m₁ (upd σ₁ D (some (.seq "list" (vs.filterMap f)))))) X)
    (hs : ∀ x, foldedSetIterable iter fe x = pure x := by intro _; with_unfolding_all rfl) : TrV W A B fe fs (eval (.ListComp elt [⟨.Name x px, iter, ifs, 0⟩] scope pos) fe) m σ Q X := by
  refine t_ListComp H hclos hcell hkind hnames hx (h.mono (fun xv m₁ σ₁ q => ?_) fun _ _ _ _ x => x) hs
  obtain ⟨l, vs, f, rfl', hl, hz, body, fin⟩ := q
  rw [rfl']
  refine op_iterList hl fun it hit => ⟨it, σ₁, LIter l, vs.length, _, _, rfl, rfl, hit, ItOk.list (vs := vs), hz, fun i acc σ => σ = σ₁ ∧ acc = (vs.take i).filterMap f, ⟨rfl, rfl⟩, ?_, ?_, ?_⟩
  · rintro i acc _ ⟨rfl, rfl⟩
    refine ⟨hl, Nat.le_trans (List.length_filterMap_le _ _) (by rw [List.length_take]; omega)⟩
  · rintro B' hB' H' C i v acc _ mm ⟨rfl, rfl⟩ hi hv hC hm
    refine (body B' hB' H' C i v mm hv hC hm).mono (fun ok m' σ' q => ?_) fun _ _ _ _ x => x
    obtain ⟨q1, q2⟩ := q
    refine ⟨q1, ?_⟩
    cases ok with
    | true =>
      rw [if_pos rfl] at q2 ⊢
      intro B'' hB''
      refine (q2 B'' hB'').mono (fun w m'' σ'' q => ⟨q.1, _, q.2.2, hC, rfl, ?_⟩) fun _ _ _ _ x => x
      rw [filterMap_take_succ hv, ← q.2.1]
    | false =>
      rw [if_neg (by decide)] at q2 ⊢
      refine ⟨_, q2.2, hC, rfl, ?_⟩
      rw [filterMap_take_succ hv, ← q2.1]
  · rintro acc _ ⟨rfl, rfl⟩ D hD
    rw [List.take_length]
    exact fin D hD
end

/-! # Lay42 -/

section
variable {W : Wd} {A : Around} {B : Base} {fe env : Env} {fs : List (Env × LM)} {m : LM} {σ : AH}
/-! ## and / or, as values -/
theorem t_AndV {e₁ e₂ : Expr} {rest : List Expr} {pos : Pos} {Q X} (h : TrV W A B fe fs (eval e₁ env) m σ (fun v m₁ σ₁ => Op1 W A B fe fs truthy v m₁ σ₁ (fun c m₂ σ₂ => Ch c (TrV W A B fe fs (eval (.BoolOp .And (e₂ :: rest) pos) env) m₂ σ₂ Q X) (Q v m₂ σ₂)) X) X) :
    TrV W A B fe fs (eval (.BoolOp .And (e₁ :: e₂ :: rest) pos) env) m σ Q X :=
  fun _ R => BoolOp_and (h.go R (fun v _ _ _ R₁ h₁ => (h₁ v rfl).go R₁ (fun c m₂ σ₂ s₂ R₂ q => by
    cases c with
    | false => exact ⟨m₂, σ₂, R₂, q.2 rfl⟩
    | true => exact (q.1 rfl) _ R₂) (fun _ _ x => x)) (fun _ _ x => x))
theorem t_BoolOne {op : BoolOp} {e : Expr} {pos : Pos} {Q X} (h : TrV W A B fe fs (eval e env) m σ Q X) : TrV W A B fe fs (eval (.BoolOp op [e] pos) env) m σ Q X := fun s R => BoolOp_one (h s R)
end

/-! # Lay43 -/

section
variable {W : Wd} {A : Around} {B : Base} {fe env : Env} {fs : List (Env × LM)} {m : LM} {σ σ' : AH}
def Sub (σ σ' : AH) : Prop := ∀ a c, σ a = some c → σ' a = some c
theorem Sub.refl : Sub σ σ := fun _ _ e => e
theorem Sub.trans {σ'' : AH} (h : Sub σ σ') (k : Sub σ' σ'') : Sub σ σ'' := fun a c e => k a c (h a c e)
theorem Sub.new {a : Addr} {c : Option Cell} (h : σ a = none) : Sub σ (upd σ a c) := fun b _ e => (upd_ne _ _ fun z => by rw [z, h] at e; cases e).trans e
def CellIn (σ : AH) (a : Addr) (c : Cell) : Prop := σ a = some c
theorem t_TupleA {elts : List Expr} {k : Nat} {pos : Pos} {Q X} (h : TrL W A B fe fs (spliced (backTo pos (starEach elts env))) m σ (fun vs m' σ' => vs.length ≤ 1000 ∧ ∀ a τ, σ' a = none → Sub σ' τ → τ a = some (.seq "tuple" vs) → Q (.ref a) m' τ) X) :
    TrV W A B fe fs (eval (.Tuple elts k pos) env) m σ Q X := t_Tuple (h.mono (fun vs m' σ' q => ⟨q.1, fun a ha => q.2 a _ ha (Sub.new ha) (upd_self _ _ _)⟩) fun _ _ _ _ x => x)
theorem t_ListA {elts : List Expr} {pos : Pos} {Q X} (h : TrL W A B fe fs (spliced (backTo pos (starEach elts env))) m σ (fun vs m' σ' => vs.length ≤ 1000 ∧ ∀ a τ, σ' a = none → Sub σ' τ → τ a = some (.seq "list" vs) → (∀ b, b ≠ a → τ b = σ' b) → Q (.ref a) m' τ) X) :
    TrV W A B fe fs (eval (.List elts pos) env) m σ Q X := t_List (h.mono (fun vs m' σ' q => ⟨q.1, fun a ha => q.2 a _ ha (Sub.new ha) (upd_self _ _ _) fun b hb => upd_ne _ _ hb⟩) fun _ _ _ _ x => x)
theorem t_SliceE {value up : Expr} {p pos : Pos} {Q : Value → LM → AH → Prop} {X} (h : TrV W A B fe fs (eval value env) m σ (fun o m₁ σ₁ => TrV W A B fe fs (eval up env) m₁ σ₁ (fun k m₂ σ₂ => ∃ l vs n, o = .ref l ∧ (ListB B l vs ∨ σ₂ l = some (.seq "list" vs)) ∧ vs.length ≤ 10000 ∧ k = .int (n : Nat) 0 ∧ n ≤ 10000 ∧
      ∀ a τ, σ₂ a = none → Sub σ₂ τ → τ a = some (.seq "list" (vs.take n)) → Q (.ref a) m₂ τ) X) X)
    (ht : ∀ o r, letTemporaryGo value o r = pure () := by intro _ _; with_unfolding_all rfl) (he : evalPart (some up) env = eval up env := by with_unfolding_all rfl) (hn : evalPart none env = pure .none := by with_unfolding_all rfl) :
    TrV W A B fe fs (eval (.Subscript value (.Slice none (some up) none p) pos) env) m σ Q X := fun s R => by
  refine wpAny_Subscript_list_slice (wpAny_mono (h s R) (fun o s₁ q => ?_) fun _ _ x => x) ht
  obtain ⟨m₁, σ₁, R₁, q⟩ := q
  rw [hn]
  refine wpAny_pure ?_
  rw [he]
  refine wpAny_mono (q s₁ R₁) (fun k s₂ q => ?_) fun _ _ x => x
  obtain ⟨m₂, σ₂, R₂, l, vs, n, ho, hl, hz, hk, hnz, hq⟩ := q
  obtain rfl := er_ref_inv ho
  obtain ⟨u, rfl⟩ := er_int_inv hk
  obtain ⟨vr, e, q⟩ : ∃ vr, s₂.heap.IsList l vr ∧ vr.toList.map er = vs := by
    rcases hl with hl | hl
    · exact hl.at R₂
    · obtain ⟨vr, c, e, q⟩ := R₂.seqAt hl
      exact ⟨vr, isList_of e, q⟩
  have z1 := er_size q
  refine ⟨l, vr, none, some (n : Int), rfl, e, by rw [sizeLine_eq]; omega, .none, .int _ _, ?_⟩
  have R₃ := R₂.grow (s' := { s₂ with heap := s₂.heap.push { cls := .type "slice", data := .fields #[.none, .int n u, .none] } }) (fun b o e => Heap.get?_push_of_some _ e) rfl rfl
  have R₄ := R₃.pushSeqA (ty := "list") (vr := slicePick vr none (some (n : Int)) none)
  have ep : (slicePick vr none (some (n : Int)) none).toList.map er = vs.take n := by
    by_cases hh : n ≤ vr.size
    · rw [slicePick_upto vr n hh]; simp [List.map_take, q]
    · have e0 : slicePick vr none (some (n : Int)) none = slicePick vr none (some (vr.size : Int)) none := by
        have eb : sliceBounds none (some (n : Int)) none vr.size = sliceBounds none (some (vr.size : Int)) none vr.size := by
          simp only [sliceBounds, Option.getD_none]
          have h2 : ¬ ((n : Int) < 0) := by omega
          have h3 : ¬ ((vr.size : Int) < 0) := by omega
          simp only [h2, h3, if_false, show (1 : Int) > 0 by decide, if_true]
          congr 1
          congr 1; omega
        unfold slicePick
        rw [eb]
      rw [e0, slicePick_upto vr vr.size (Nat.le_refl _), ← q]
      simp [List.take_of_length_le (show vr.toList.length ≤ vr.size by simp), List.take_of_length_le (show (vr.toList.map er).length ≤ n by simp; omega)]
  rw [ep] at R₄
  dsimp only at R₄
  rw [Heap.size_push] at R₄
  have fr := (R₂.fresh (Heap.get?_none_of_le (Nat.le_succ _))).2.1
  exact ⟨m₂, _, R₄, hq _ _ fr (Sub.new fr) (upd_self _ _ _)⟩
theorem call_isiStrBool {x : Str} {Q : Value → AH → Prop} {X} (h : Q (.bool false) σ) : CallW W A B fs (.builtin "isinstance") [.str x 0, .type "bool"] [] σ Q X := fun pos' kw' e1 e2 s R => by
  obtain ⟨x, k, rfl, hx, hk⟩ := map_er_cons e1
  obtain ⟨y, k, rfl, hy, hk⟩ := map_er_cons hk
  obtain rfl := map_er_nil hk
  obtain ⟨t, rfl⟩ := er_str_inv hx
  obtain rfl := er_type_inv hy
  obtain rfl := erK_nil e2
  exact PySem.call_isinstance (PySem.isinstance_false_str (by decide +kernel) PySem.F.isi_meta_bool PySem.F.sub_str_bool) ⟨σ, R.toks _, h⟩
end

/-! # H3 -/
set_option maxRecDepth 100000
set_option maxHeartbeats 8000000

open_top hd3 for PySem.Challenge.rw_bn0049_03

/-! # Ca -/
local macro_rules | `(tactic| walk_at "sN") => `(tactic| with_reducible (refine is_name (x := "IndexError") ?_; refine t_bi_IndexError (by assumption) (by kernel_rfl) ?_))
local macro_rules | `(tactic| walk_at "sN") => `(tactic| with_reducible (refine is_name (x := "KeyError") ?_; refine t_bi_KeyError (by assumption) (by kernel_rfl) ?_))
local macro_rules | `(tactic| walk_at "sN") => `(tactic| with_reducible (refine is_name (x := "list") ?_; refine t_bi_list (by assumption) (by kernel_rfl) ?_))
local macro_rules | `(tactic| walk_at "sN") => `(tactic| with_reducible (refine is_name (x := "next") ?_; refine t_bi_next (by assumption) (by kernel_rfl) ?_))
local macro_rules | `(tactic| walk_at "sN") => `(tactic| with_reducible (refine is_name (x := "enumerate") ?_; refine t_bi_enumerate (by assumption) (by kernel_rfl) ?_))
local macro_rules | `(tactic| walk_at "sN") => `(tactic| with_reducible (refine is_name (x := "sorted") ?_; refine t_bi_sorted (by assumption) (by kernel_rfl) ?_))
local macro_rules | `(tactic| walk_at "sN") => `(tactic| with_reducible (refine is_name (x := "range") ?_; refine t_bi_range (by assumption) (by kernel_rfl) ?_))
local macro_rules | `(tactic| walk_at "sN") => `(tactic| with_reducible (refine is_name (x := "bool") ?_; refine t_bi_bool (by assumption) (by kernel_rfl) ?_))
local macro_rules | `(tactic| walk_at "sN") => `(tactic| with_reducible (refine is_name (x := "int") ?_; refine t_bi_int (by assumption) (by kernel_rfl) ?_))
local macro_rules | `(tactic| walk_at "sN") => `(tactic| with_reducible (refine is_name (x := "len") ?_; refine t_bi_len (by assumption) (by kernel_rfl) ?_))
local macro_rules | `(tactic| walk_at "sN") => `(tactic| with_reducible (refine is_name (x := "isinstance") ?_; refine t_bi_isinstance (by assumption) (by kernel_rfl) ?_))
local macro_rules | `(tactic| walk_at "sN") => `(tactic| with_reducible (refine is_name (x := "_law_asks") ?_; refine t_Glob (v := .ref 410) (x := "_law_asks") (by assumption) (by kernel_rfl) ?_))
local macro_rules | `(tactic| walk_at "sN") => `(tactic| with_reducible (refine is_name (x := "_law_left_out") ?_; refine t_Glob (v := .ref 403) (x := "_law_left_out") (by assumption) (by kernel_rfl) ?_))
local macro_rules | `(tactic| walk_at "sN") => `(tactic| with_reducible (refine is_name (x := "_law_wants") ?_; refine t_Glob (v := .ref 396) (x := "_law_wants") (by assumption) (by kernel_rfl) ?_))
local macro_rules | `(tactic| walk_at "sN") => `(tactic| with_reducible (refine is_name (x := "_law_turn") ?_; refine t_Glob (v := .ref 389) (x := "_law_turn") (by assumption) (by kernel_rfl) ?_))
local macro_rules | `(tactic| walk_at "sN") => `(tactic| with_reducible (refine is_name (x := "_law_over") ?_; refine t_Glob (v := .ref 384) (x := "_law_over") (by assumption) (by kernel_rfl) ?_))
local macro_rules | `(tactic| walk_at "sN") => `(tactic| with_reducible (refine is_name (x := "_law_need") ?_; refine t_Glob (v := .ref 377) (x := "_law_need") (by assumption) (by kernel_rfl) ?_))
local macro_rules | `(tactic| walk_at "sN") => `(tactic| with_reducible (refine is_name (x := "_law_place") ?_; refine t_Glob (v := .ref 370) (x := "_law_place") (by assumption) (by kernel_rfl) ?_))
local macro_rules | `(tactic| walk_at "sN") => `(tactic| with_reducible (refine is_name (x := "_law_leave") ?_; refine t_Glob (v := .ref 363) (x := "_law_leave") (by assumption) (by kernel_rfl) ?_))
local macro_rules | `(tactic| walk_at "sN") => `(tactic| with_reducible (refine is_name (x := "_law_join") ?_; refine t_Glob (v := .ref 358) (x := "_law_join") (by assumption) (by kernel_rfl) ?_))
local macro_rules | `(tactic| walk_at "sN") => `(tactic| with_reducible (refine is_name (x := "PriorityTree") ?_; refine t_Glob (v := .ref 347) (x := "PriorityTree") (by assumption) (by kernel_rfl) ?_))
local macro_rules | `(tactic| walk_at "sN") => `(tactic| with_reducible (refine is_name (x := "_stream_cycle") ?_; refine t_Glob (v := .ref 257) (x := "_stream_cycle") (by assumption) (by kernel_rfl) ?_))
local macro_rules | `(tactic| walk_at "sN") => `(tactic| with_reducible (refine is_name (x := "Stream") ?_; refine t_Glob (v := .ref 246) (x := "Stream") (by assumption) (by kernel_rfl) ?_))
local macro_rules | `(tactic| walk_at "sN") => `(tactic| with_reducible (refine is_name (x := "PseudoStreamError") ?_; refine t_Glob (v := .ref 131) (x := "PseudoStreamError") (by assumption) (by kernel_rfl) ?_))
local macro_rules | `(tactic| walk_at "sN") => `(tactic| with_reducible (refine is_name (x := "BadWeightError") ?_; refine t_Glob (v := .ref 119) (x := "BadWeightError") (by assumption) (by kernel_rfl) ?_))
local macro_rules | `(tactic| walk_at "sN") => `(tactic| with_reducible (refine is_name (x := "TooManyStreamsError") ?_; refine t_Glob (v := .ref 107) (x := "TooManyStreamsError") (by assumption) (by kernel_rfl) ?_))
local macro_rules | `(tactic| walk_at "sN") => `(tactic| with_reducible (refine is_name (x := "MissingStreamError") ?_; refine t_Glob (v := .ref 94) (x := "MissingStreamError") (by assumption) (by kernel_rfl) ?_))
local macro_rules | `(tactic| walk_at "sN") => `(tactic| with_reducible (refine is_name (x := "DuplicateStreamError") ?_; refine t_Glob (v := .ref 82) (x := "DuplicateStreamError") (by assumption) (by kernel_rfl) ?_))
local macro_rules | `(tactic| walk_at "sN") => `(tactic| with_reducible (refine is_name (x := "PriorityLoop") ?_; refine t_Glob (v := .ref 70) (x := "PriorityLoop") (by assumption) (by kernel_rfl) ?_))
local macro_rules | `(tactic| walk_at "sN") => `(tactic| with_reducible (refine is_name (x := "DeadlockError") ?_; refine t_Glob (v := .ref 58) (x := "DeadlockError") (by assumption) (by kernel_rfl) ?_))
local macro_rules | `(tactic| walk_at "sN") => `(tactic| with_reducible (refine is_name (x := "PriorityError") ?_; refine t_Glob (v := .ref 45) (x := "PriorityError") (by assumption) (by kernel_rfl) ?_))
local macro_rules | `(tactic| walk_at "sN") => `(tactic| with_reducible (refine is_name (x := "heappop") ?_; refine t_Glob (v := .ref 35) (x := "heappop") (by assumption) (by kernel_rfl) ?_))
local macro_rules | `(tactic| walk_at "sN") => `(tactic| with_reducible (refine is_name (x := "heappush") ?_; refine t_Glob (v := .ref 28) (x := "heappush") (by assumption) (by kernel_rfl) ?_))
local macro_rules | `(tactic| walk_at "sN") => `(tactic| with_reducible (refine is_name (x := "_ahead") ?_; refine t_Glob (v := .ref 21) (x := "_ahead") (by assumption) (by kernel_rfl) ?_))
local macro_rules | `(tactic| walk_at "sN") => `(tactic| with_reducible (refine is_local (by with_unfolding_all rfl) ?_; refine t_Local (by first | assumption | ((repeat (refine (upd_ne _ _ (by decide)).trans ?_)); first | exact upd_self _ _ _ | assumption | with_unfolding_all rfl)) ?_))
local macro_rules | `(tactic| walk_at "sC") => `(tactic| with_reducible (refine t_CallK ?_))
local macro_rules | `(tactic| walk_at "sC") => `(tactic| with_reducible (refine t_CallM ?_))
local macro_rules | `(tactic| walk_at "sC") => `(tactic| with_reducible (refine t_Call ?_))
local macro_rules | `(tactic| walk_at "sE") => `(tactic| with_reducible (refine t_List ?_))
local macro_rules | `(tactic| walk_at "sE") => `(tactic| with_reducible (refine t_Tuple ?_))
local macro_rules | `(tactic| walk_at "sE") => `(tactic| with_reducible (refine t_CondE ?_))
local macro_rules | `(tactic| walk_at "sE") => `(tactic| with_reducible (refine t_Str ?_))
local macro_rules | `(tactic| walk_at "sE") => `(tactic| with_reducible (refine t_Bool ?_))
local macro_rules | `(tactic| walk_at "sE") => `(tactic| with_reducible (refine t_None ?_))
local macro_rules | `(tactic| walk_at "sE") => `(tactic| with_reducible (refine t_BinOp ?_))
local macro_rules | `(tactic| walk_at "sE") => `(tactic| with_reducible (refine t_Subscript ?_))
local macro_rules | `(tactic| walk_at "sE") => `(tactic| with_reducible (refine is_cmp ?_; refine t_Compare ?_))
local macro_rules | `(tactic| walk_at "sE") => `(tactic| with_reducible (refine t_Int ?_))
local macro_rules | `(tactic| walk_at "sE") => `(tactic| with_reducible (refine is_call ?_; walk_at "sC"))
local macro_rules | `(tactic| walk_at "sE") => `(tactic| with_reducible (refine is_attr ?_; refine t_Attribute ?_))
local macro_rules | `(tactic| walk_at "sA") => `(tactic| with_reducible (refine t_AssignTuple ?_))
local macro_rules | `(tactic| walk_at "sA") => `(tactic| with_reducible (refine is_asAttr ?_; refine t_AssignAttr ?_))
local macro_rules | `(tactic| walk_at "sA") => `(tactic| with_reducible (refine is_asSub ?_; refine t_AssignSub ?_))
local macro_rules | `(tactic| walk_at "sA") => `(tactic| with_reducible (refine is_asNm ?_; refine t_Assign ?_))
local macro_rules | `(tactic| walk_at "sT") => `(tactic| with_reducible (refine t_Pass ?_))
local macro_rules | `(tactic| walk_at "sT") => `(tactic| with_reducible (refine t_AssertOk ?_))
local macro_rules | `(tactic| walk_at "sT") => `(tactic| with_reducible (refine is_aug ?_; refine t_AugName (by with_unfolding_all rfl) ?_))
local macro_rules | `(tactic| walk_at "sT") => `(tactic| with_reducible (refine t_Continue ?_))
local macro_rules | `(tactic| walk_at "sT") => `(tactic| with_reducible (refine t_Break ?_))
local macro_rules | `(tactic| walk_at "sT") => `(tactic| with_reducible (refine is_assign ?_; walk_at "sA"))
local macro_rules | `(tactic| walk_at "sT") => `(tactic| with_reducible (refine t_RtnN ?_))
local macro_rules | `(tactic| walk_at "sT") => `(tactic| with_reducible (refine t_Rtn ?_))
local macro_rules | `(tactic| walk_at "sT") => `(tactic| with_reducible (refine t_Cond ?_))
local macro_rules | `(tactic| walk_at "sT") => `(tactic| with_reducible (refine is_exprS ?_; refine t_Expr ?_))
local macro_rules | `(tactic| walk_at "sW") => `(tactic| with_reducible (refine t_callWith (by assumption) (by kernel_rfl) ?_))
local macro_rules | `(tactic| walk_at "sW") => `(tactic| with_reducible (refine t_callWith0 (by assumption) (by kernel_rfl) ?_))
local macro_rules | `(tactic| walk_at "sW") => `(tactic| with_reducible (refine t_cwM (by assumption) (by kernel_rfl) ?_))
local macro_rules | `(tactic| walk_at "sW") => `(tactic| with_reducible (refine t_cwM0 (by assumption) (by kernel_rfl) ?_))
local macro_rules | `(tactic| walk_at "sI") => `(tactic| with_reducible (refine t_isTrue ?_))
local macro_rules | `(tactic| walk_at "sI") => `(tactic| with_reducible (refine t_isBoolOp ?_))
local macro_rules | `(tactic| walk_at "sI") => `(tactic| with_reducible (refine t_isNot ?_))
local macro_rules | `(tactic| walk_at "sI") => `(tactic| with_reducible (refine is_isTC ?_; refine t_isCompare ?_))
local macro_rules | `(tactic| walk_at "sI") => `(tactic| with_reducible (refine is_isTC ?_; refine t_chain2 ?_))
local macro_rules | `(tactic| walk_at "s") => `(tactic| with_reducible (refine lq_brk ?_))
local macro_rules | `(tactic| walk_at "s") => `(tactic| with_reducible (refine lq_cont ?_))
local macro_rules | `(tactic| walk_at "s") => `(tactic| with_reducible (refine lq_next ?_))
local macro_rules | `(tactic| walk_at "s") => `(tactic| with_reducible (refine rq_next ?_))
local macro_rules | `(tactic| walk_at "s") => `(tactic| with_reducible (refine nx_cont ?_))
local macro_rules | `(tactic| walk_at "s") => `(tactic| with_reducible (refine nx_brk ?_))
local macro_rules | `(tactic| walk_at "s") => `(tactic| with_reducible (refine rt_rq ?_))
local macro_rules | `(tactic| walk_at "s") => `(tactic| with_reducible (refine rt_lq ?_))
local macro_rules | `(tactic| walk_at "s") => `(tactic| with_reducible (refine rt_nx ?_))
local macro_rules | `(tactic| walk_at "s") => `(tactic| with_reducible (refine is_asgn ?_; refine t_asName (by assumption) ?_))
local macro_rules | `(tactic| walk_at "s") => `(tactic| with_reducible (refine t_or_nil ?_))
local macro_rules | `(tactic| walk_at "s") => `(tactic| with_reducible (refine t_and_nil ?_))
local macro_rules | `(tactic| walk_at "s") => `(tactic| with_reducible (refine t_or ?_))
local macro_rules | `(tactic| walk_at "s") => `(tactic| with_reducible (refine t_and ?_))
local macro_rules | `(tactic| walk_at "s") => `(tactic| with_reducible (refine is_isT ?_; walk_at "sI"))
local macro_rules | `(tactic| walk_at "s") => `(tactic| with_reducible (refine is_keep ?_; refine kp (by kernel_rfl) ?_))
local macro_rules | `(tactic| walk_at "s") => `(tactic| with_reducible (refine is_cw ?_; walk_at "sW"))
local macro_rules | `(tactic| walk_at "s") => `(tactic| with_reducible (refine t_execs_nil ?_))
local macro_rules | `(tactic| walk_at "s") => `(tactic| with_reducible (refine nx_next ?_))
local macro_rules | `(tactic| walk_at "s") => `(tactic| with_reducible (refine t_args_nil ?_))
local macro_rules | `(tactic| walk_at "s") => `(tactic| with_reducible (refine is_args ?_; refine t_args_cons ?_))
local macro_rules | `(tactic| walk_at "s") => `(tactic| with_reducible (refine is_exec ?_; walk_at "sT"))
local macro_rules | `(tactic| walk_at "s") => `(tactic| with_reducible (refine is_eval ?_; walk_at "sE"))
local macro_rules | `(tactic| walk_at "s") => `(tactic| with_reducible (refine is_name ?_; walk_at "sN"))
local macro_rules | `(tactic| walk_at "s") => `(tactic| with_reducible (refine t_stmt ?_))
local macro_rules | `(tactic| walk_at "ss") => `(tactic| repeat (first | walk_at "s" | walk_at "x"))

set_option maxRecDepth 100000

noncomputable abbrev mkW (prog : Program) (w : World) (p : Program) (loose : List Str) (mean : ExcName → Option Value) (mg mb : Str → Option Value) : Wd := ⟨prog, w, hd3.heap_39 w.params, p, loose, mean, mg, mb⟩
abbrev a_ahead : Addr := 21
abbrev a_heappush : Addr := 28
abbrev a_heappop : Addr := 35
abbrev c_PriorityError : Addr := 45
abbrev c_DeadlockError : Addr := 58
abbrev c_PriorityLoop : Addr := 70
abbrev c_DuplicateStreamError : Addr := 82
abbrev c_MissingStreamError : Addr := 94
abbrev c_TooManyStreamsError : Addr := 107
abbrev c_BadWeightError : Addr := 119
abbrev c_PseudoStreamError : Addr := 131
abbrev a_S_dinit : Addr := 148
abbrev a_S_weight : Addr := 155
abbrev a_S_weight_set : Addr := 164
abbrev a_S_add_child : Addr := 172
abbrev a_S_add_child_exclusive : Addr := 179
abbrev a_S_remove_child : Addr := 187
abbrev a_S_schedule : Addr := 194
abbrev a_S_drepr : Addr := 201
abbrev a_S_deq : Addr := 208
abbrev a_S_dne : Addr := 215
abbrev a_S_dlt : Addr := 222
abbrev a_S_dle : Addr := 229
abbrev a_S_dgt : Addr := 236
abbrev a_S_dge : Addr := 243
abbrev c_Stream : Addr := 246
abbrev a_stream_cycle : Addr := 257
abbrev a_T_dinit : Addr := 272
abbrev a_T__get_or_insert_parent : Addr := 279
abbrev a_T__exclusive_insert : Addr := 286
abbrev a_T_insert_stream : Addr := 294
abbrev a_T_reprioritize : Addr := 302
abbrev a_T_remove_stream : Addr := 309
abbrev a_T_block : Addr := 316
abbrev a_T_unblock : Addr := 323
abbrev a_T_diter : Addr := 330
abbrev a_T_dnext : Addr := 337
abbrev a_T_next : Addr := 344
abbrev c_PriorityTree : Addr := 347
abbrev a_law_join : Addr := 358
abbrev a_law_leave : Addr := 363
abbrev a_law_place : Addr := 370
abbrev a_law_need : Addr := 377
abbrev a_law_over : Addr := 384
abbrev a_law_turn : Addr := 389
abbrev a_law_wants : Addr := 396
abbrev a_law_left_out : Addr := 403
abbrev a_law_asks : Addr := 410
abbrev a_law : Addr := 415
abbrev p_weight : Addr := 165
section
variable {prog : Program} {w : World} {p : Program} {loose : List Str} {mean : ExcName → Option Value} {mg mb : Str → Option Value}
variable {A : Around} {B : Base} {fs : List (Env × LM)} {σ : AH} {Q : Value → AH → Prop} {X : Value → Bool → AH → Prop}
variable {fe env : Env} {es : List Env} {u : Nat} {m : LM}
theorem g_S {x : Addr} {f : LM} {k : Nat} {name : Str} {v : Value} {ex : Bool} {Q X} (O : Ok (mkW prog w p loose mean mg mb) A B es u) (hσ : σ x = some (.inst c_Stream f k)) (hv : f name = some v) (hd : handedIn v = true)
    (hn : findIn (mkW prog w p loose mean mg mb).K (.ref c_Stream) name = some none) (h : Q v m σ) : Op1 (mkW prog w p loose mean mg mb) A B fe fs (fun o => getAttr o name ex) (.ref x) m σ (ErQ Q) X :=
  op_getOwn (attr := none) O hσ hv h (by kernel_rfl) (by kernel_rfl) hn (by kernel_rfl) hd
local macro_rules | `(tactic| walk_at "x") => `(tactic| with_reducible (refine g_S (by assumption) (by assumption) (by assumption) (by assumption) (by kernel_rfl) ?_))
theorem k_lt {x y : Addr} {fx fy : LM} {k k' : Nat} {vx vy : Value} {a b : Int} (O : Ok (mkW prog w p loose mean mg mb) A B (fs.map (·.1)) 0) (hsh : fs.length < 59) (hx : σ x = some (.inst c_Stream fx k)) (hy : σ y = some (.inst c_Stream fy k'))
    (h1 : fx "stream_id" = some vx) (h2 : fy "stream_id" = some vy) (n1 : nv vx = some a) (n2 : nv vy = some b) (hv1 : handedIn vx = true) (hv2 : handedIn vy = true) (h : Q (.bool (decide (a < b))) σ) : CallR (mkW prog w p loose mean mg mb) A B fs (.ref a_S_dlt) [.ref x, .ref y] [] σ Q X := by
  refine CallR.go O (by omega) (by rfl) (by kernel_rfl) (binds2 (p1 := "self") (p2 := "other") (by intro _ _; rfl)) rfl fun L A' O' hA' => ?_
  repeat (walk_at "s")
  refine call_isiInst O' hy (by kernel_rfl) ?_
  refine op_truthy_bool (ch_f ?_)
  walk_at "ss"
  refine op_ltN n1 n2 ?_
  walk_at "ss"
  exact h
theorem k_eq {x y : Addr} {fx fy : LM} {k k' : Nat} {vx vy : Value} {a b : Int} (O : Ok (mkW prog w p loose mean mg mb) A B (fs.map (·.1)) 0) (hsh : fs.length < 59) (hx : σ x = some (.inst c_Stream fx k)) (hy : σ y = some (.inst c_Stream fy k'))
    (h1 : fx "stream_id" = some vx) (h2 : fy "stream_id" = some vy) (n1 : nv vx = some a) (n2 : nv vy = some b) (hv1 : handedIn vx = true) (hv2 : handedIn vy = true) (h : Q (.bool (decide (a = b))) σ) : CallR (mkW prog w p loose mean mg mb) A B fs (.ref a_S_deq) [.ref x, .ref y] [] σ Q X := by
  refine CallR.go O (by omega) (by rfl) (by kernel_rfl) (binds2 (p1 := "self") (p2 := "other") (by intro _ _; rfl)) rfl fun L A' O' hA' => ?_
  repeat (walk_at "s")
  refine call_isiInst O' hy (by kernel_rfl) ?_
  refine op_truthy_bool (ch_f ?_)
  walk_at "ss"
  refine op_eqP (a := some (.n a)) (b := some (.n b)) (pk_nv n1) (pk_nv n2) ?_
  walk_at "ss"
  simpa using h

def ahead (e d : Int × Int) : Bool := if e.1 = d.1 then decide (e.2 < d.2) else decide (e.1 < d.1)
/-- a queue's item -/
def TupIs (σ : AH) (t : Addr) (e : Int × Int) : Prop := ∃ a f k v, σ t = some (.seq "tuple" [.int e.1 0, .ref a]) ∧ σ a = some (.inst c_Stream f k) ∧ f "stream_id" = some v ∧ nv v = some e.2 ∧ handedIn v = true
theorem k_ahead {t s : Addr} {e d : Int × Int} (O : Ok (mkW prog w p loose mean mg mb) A B (fs.map (·.1)) 0) (hsh : fs.length < 58) (ht : TupIs σ t e) (hs : TupIs σ s d) (h : Q (.bool (ahead e d)) σ) :
    CallR (mkW prog w p loose mean mg mb) A B fs (.ref a_ahead) [.ref t, .ref s] [] σ Q X := by
  obtain ⟨a, f, k, v, h1, h2, h3, h4, h5⟩ := ht
  obtain ⟨b, g, l, x, g1, g2, g3, g4, g5⟩ := hs
  refine CallR.go O (by omega) (by rfl) (by kernel_rfl) (binds2 (p1 := "one") (p2 := "other") (by intro _ _; rfl)) rfl fun L A' O' hA' => ?_
  walk_at "ss"
  refine op_pair0 h1 ?_
  walk_at "ss"
  refine op_pair0 g1 ?_
  refine op_ne (op_truthy_bool ⟨fun q => ?_, fun q => ?_⟩)
  · walk_at "ss"
    refine op_pair0 h1 ?_
    walk_at "ss"
    refine op_pair0 g1 ?_
    refine op_lt ?_
    walk_at "ss"
    rw [bne_iff_ne] at q
    unfold ahead at h; rw [if_neg q] at h; exact h
  · walk_at "ss"
    refine op_pair1 h1 ?_
    walk_at "ss"
    refine op_pair1 g1 ?_
    refine op_cmpInst O' h2 g2 ((k_lt O'.less (by simp; omega) h2 g2 h3 g3 h4 g4 h5 g5 ⟨by simp, ?_⟩).w) (by kernel_rfl) (by kernel_rfl)
    walk_at "ss"
    have : e.1 = d.1 := by simpa using q
    unfold ahead at h; rw [if_pos this] at h; exact h

/-! ### the queue -/
def plc (e : Int × Int) (es : List (Int × Int)) : Nat → Nat
  | 0 => 0
  | n + 1 => if (es[n]?).any (ahead e) = true then plc e es n else n + 1
def putAt {α : Type} (k : Nat) (x : α) (l : List α) : List α := l.take k ++ x :: l.drop k
def place (e : Int × Int) (es : List (Int × Int)) : Nat := plc e es es.length
def ins (e : Int × Int) (es : List (Int × Int)) : List (Int × Int) := putAt (place e es) e es
theorem All2.get {α β : Type} {R : α → β → Prop} {l : List α} {k : List β} (h : All2 R l k) {i : Nat} {b : β} (hb : k[i]? = some b) : ∃ a, l[i]? = some a ∧ R a b := by
  induction h generalizing i with
  | nil => simp at hb
  | cons r _ ih =>
    cases i with
    | zero => simp at hb; subst hb; exact ⟨_, rfl, r⟩
    | succ i => simpa using ih (by simpa using hb)
theorem k_push {q t : Addr} {rs : List Addr} {e : Int × Int} {es : List (Int × Int)} (O : Ok (mkW prog w p loose mean mg mb) A B (fs.map (·.1)) 0) (hsh : fs.length < 57) (hq : σ q = some (.seq "list" (rs.map .ref))) (ht : TupIs σ t e) (hr : All2 (TupIs σ) rs es) (hz : es.length ≤ 9000)
    (h : Q .none (upd σ q (some (.seq "list" ((putAt (place e es) t rs).map .ref))))) : CallR (mkW prog w p loose mean mg mb) A B fs (.ref a_heappush) [.ref q, .ref t] [] σ Q X := by
  have hlen := All2.length hr
  refine CallR.go O (by omega) (by rfl) (by kernel_rfl) (binds2 (p1 := "queue") (p2 := "item") (by intro _ _; rfl)) rfl fun L A' O' hA' => ?_
  walk_at "ss"
  refine call_len hq (by simp; omega) ?_
  walk_at "ss"
  refine t_Wh O' (fun n m' σ' => σ' = σ ∧ (∃ v, m' = upd (fun x => [((Str.ofString "queue"), Value.ref q), ((Str.ofString "item"), Value.ref t)].reverse.lookup x) "place" (some v) ∧ v = .int n 0) ∧ n ≤ es.length ∧ plc e es n = place e es) es.length ⟨rfl, ⟨_, rfl, by simp [hlen]⟩, Nat.le_refl _, rfl⟩ ?_
  rintro n m' σ' ⟨rfl, ⟨v, rfl, rfl⟩, hn, hp⟩
  walk_at "ss"
  refine op_gt (op_truthy_bool ⟨fun c => ?_, fun c => ?_⟩)
  · have hn0 : 0 < n := by simpa using c
    have hlt : n - 1 < es.length := by omega
    obtain ⟨s, hs, hts⟩ := hr.get (List.getElem?_eq_getElem hlt)
    walk_at "ss"
    refine op_sub ?_
    refine op_itemList hq (by omega) (by omega) (v := .ref s) (by
      have : ((n : Int) - 1).toNat = n - 1 := by omega
      rw [this, List.getElem?_map, hs]; rfl) ?_
    walk_at "ss"
    refine (k_ahead O'.less (by simp; omega) ht hts ?_).w
    refine op_truthy_bool ⟨fun c => ?_, fun c => ?_⟩
    · walk_at "ss"
      refine ⟨fun _ => ?_, (by intro c; cases c)⟩
      walk_at "ss"
      refine op_isub ?_
      walk_at "ss"
      refine ⟨n - 1, by omega, rfl, ⟨.int ((n : Int) - 1) 0, by rw [upd_upd], ?_⟩, by omega, ?_⟩
      · have : ((n : Int) - 1) = ((n - 1 : Nat) : Int) := by omega
        rw [this]
      · rw [← hp]
        obtain ⟨k, rfl⟩ : ∃ k, n = k + 1 := ⟨n - 1, by omega⟩
        simp only [Nat.add_sub_cancel] at c hlt ⊢
        rw [plc, if_pos]
        rw [List.getElem?_eq_getElem hlt]
        simpa using c
    · refine ⟨(by intro c; cases c), fun _ => ?_⟩
      have hn : n = place e es := by
        rw [← hp]
        obtain ⟨k, rfl⟩ : ∃ k, n = k + 1 := ⟨n - 1, by omega⟩
        simp only [Nat.add_sub_cancel] at c hlt
        rw [plc, if_neg]
        rw [List.getElem?_eq_getElem hlt]
        simpa using c
      walk_at "ss"
      refine op_methList PySem.F.slot_list_insert PySem.F.type_list_insert hq ?_
      walk_at "ss"
      refine call_insert (k := (n : Int)) (v := .ref t) (by exact hq) (by simp; omega) (by omega) (by simp; omega) ?_
      refine ⟨trivial, ?_⟩
      walk_at "ss"
      refine Eq.mp ?_ h
      congr 4
      rw [← hn]
      simp [putAt]
  · refine ⟨(by intro c; cases c), fun _ => ?_⟩
    have hn : n = place e es := by
      have : n = 0 := by simpa using c
      subst this
      rw [← hp]; rfl
    walk_at "ss"
    refine op_methList PySem.F.slot_list_insert PySem.F.type_list_insert hq ?_
    walk_at "ss"
    refine call_insert (k := (n : Int)) (v := .ref t) (by exact hq) (by simp; omega) (by omega) (by simp; omega) ?_
    refine ⟨trivial, ?_⟩
    walk_at "ss"
    refine Eq.mp ?_ h
    congr 4
    rw [← hn]
    simp [putAt]
end

/-! # Cb -/
set_option maxRecDepth 100000

section
variable {prog : Program} {w : World} {p : Program} {loose : List Str} {mean : ExcName → Option Value} {mg mb : Str → Option Value}
variable {A : Around} {B : Base} {fs : List (Env × LM)} {σ σ' : AH} {Q : Value → AH → Prop} {X : Value → Bool → AH → Prop}
variable {fe env : Env} {es : List Env} {u : Nat} {m : LM}
/-! ## nodes -/
structure Node where
  sid : Value
  w : Value
  kids : List Int
  par : Option Int
  q : List (Int × Int)
  act : Bool
  last : Int
  df : Int
structure Geo where
  ad : Int → Addr
  ch : Int → Addr
  qu : Int → Addr
abbrev ST := Int → Option Node
def parV (G : Geo) : Option Int → Value
  | none => .none
  | some p => .ref (G.ad p)
def nodeF (G : Geo) (i : Int) (n : Node) : LM := fun x =>
  if x = "stream_id" then some n.sid else if x = "_weight" then some n.w else if x = "children" then some (.ref (G.ch i)) else if x = "parent" then some (parV G n.par)
  else if x = "child_queue" then some (.ref (G.qu i)) else if x = "active" then some (.bool n.act) else if x = "last_weight" then some (.int n.last 0) else if x = "_deficit" then some (.int n.df 0) else none
def QueAt (G : Geo) (σ : AH) (l : Addr) (q : List (Int × Int)) : Prop := ∃ rs : List Addr, σ l = some (.seq "list" (rs.map .ref)) ∧ All2 (fun t (e : Int × Int) => σ t = some (.seq "tuple" [.int e.1 0, .ref (G.ad e.2)])) rs q
def kidsV (G : Geo) (l : List Int) : List Value := l.map fun k => .ref (G.ad k)
/-- the heap holds the store -/
structure Holds (G : Geo) (N : ST) (σ : AH) : Prop where
  node : ∀ i n, N i = some n → σ (G.ad i) = some (.inst c_Stream (nodeF G i n) 8)
  kid : ∀ i n, N i = some n → σ (G.ch i) = some (.seq "list" (kidsV G n.kids))
  que : ∀ i n, N i = some n → QueAt G σ (G.qu i) n.q
  injc : ∀ i j n k, N i = some n → N j = some k → G.ch i = G.ch j → i = j
  injq : ∀ i j n k, N i = some n → N j = some k → G.qu i = G.qu j → i = j
  cq : ∀ i j n k, N i = some n → N j = some k → G.ch i ≠ G.qu j
  sid : ∀ i n, N i = some n → nv n.sid = some i
  wt : ∀ i n, N i = some n → ∃ k, nv n.w = some k ∧ 1 ≤ k ∧ k ≤ 256
  sz : ∀ i n, N i = some n → n.kids.length ≤ 5000 ∧ n.q.length ≤ 5000
def foot (G : Geo) (N : ST) (a : Addr) : Prop := ∃ i n, N i = some n ∧ (a = G.ad i ∨ a = G.ch i ∨ a = G.qu i)
/-- what a step leaves as it was -/
def Fr2 (F : Addr → Prop) (σ : AH) (F' : Addr → Prop) (σ' : AH) : Prop := (∀ a c, σ a = some c → ¬ F a → σ' a = some c) ∧ (∀ a, F' a → F a ∨ σ a = none)
theorem Fr2.refl {F : Addr → Prop} : Fr2 F σ F σ := ⟨fun _ _ e _ => e, fun _ h => .inl h⟩
theorem Fr2.trans {F F' F'' : Addr → Prop} {σ'' : AH} (h : Fr2 F σ F' σ') (k : Fr2 F' σ' F'' σ'') : Fr2 F σ F'' σ'' :=
  ⟨fun a c e n => k.1 a c (h.1 a c e n) fun f => (h.2 a f).elim n fun z => by (rw [e] at z; cases z), fun a f => (k.2 a f).elim (h.2 a) fun z => Classical.byCases .inl fun n => .inr (by
    cases q : σ a with
    | none => rfl
    | some c => rw [h.1 a c q n] at z; cases z)⟩
def St (G : Geo) (N : ST) (σ : AH) (G' : Geo) (N' : ST) (σ' : AH) : Prop := Holds G' N' σ' ∧ Fr2 (foot G N) σ (foot G' N') σ' ∧ ∀ i n, N i = some n → G'.ad i = G.ad i
theorem St.refl {G : Geo} {N : ST} (H : Holds G N σ) : St G N σ G N σ := ⟨H, .refl, fun _ _ _ => rfl⟩
theorem nv_handed {v : Value} {i : Int} (h : nv v = some i) : handedIn v = true := by cases v <;> first | rfl | cases h
section
variable {G : Geo} {N : ST} {i : Int} {n : Node}
theorem Holds.tup (H : Holds G N σ) {t : Addr} {e : Int × Int} (h : σ t = some (.seq "tuple" [.int e.1 0, .ref (G.ad e.2)])) {k : Node} (hk : N e.2 = some k) : TupIs σ t e :=
  ⟨_, _, _, _, h, H.node _ _ hk, by simp [nodeF], H.sid _ _ hk, nv_handed (H.sid _ _ hk)⟩
theorem Holds.injA (H : Holds G N σ) {j : Int} {k : Node} (h : N i = some n) (hj : N j = some k) (e : G.ad i = G.ad j) : i = j := by
  have h1 := H.node _ _ h
  have h2 := H.node _ _ hj
  rw [e, h2] at h1
  injection h1 with h1
  injection h1 with _ h1
  have := congrFun h1 "stream_id"
  simp [nodeF] at this
  have a := H.sid _ _ h
  have b := H.sid _ _ hj
  rw [this, a] at b
  exact Option.some.inj b
theorem Holds.acq (H : Holds G N σ) {j : Int} {k : Node} (h : N i = some n) (hj : N j = some k) : G.ad i ≠ G.ch j ∧ G.ad i ≠ G.qu j := by
  constructor
  · intro e
    have h1 := H.node _ _ h
    rw [e, H.kid _ _ hj] at h1; cases h1
  · intro e
    have h1 := H.node _ _ h
    obtain ⟨rs, h2, _⟩ := H.que _ _ hj
    rw [e, h2] at h1; cases h1
theorem All2.imp {α β : Type} {R S : α → β → Prop} {l : List α} {k : List β} (h : All2 R l k) (f : ∀ a b, R a b → S a b) : All2 S l k := by
  induction h with
  | nil => exact .nil
  | cons r _ ih => exact .cons (f _ _ r) ih
/-- a node is turned -/
theorem Holds.put' (H : Holds G N σ) (h : N i = some n) {G' : Geo} {n' : Node} (had : G'.ad = G.ad) (hch : ∀ j, j ≠ i → G'.ch j = G.ch j) (hqu : ∀ j, j ≠ i → G'.qu j = G.qu j)
    (hx : ∀ a c, σ a = some c → a ≠ G.ad i → a ≠ G.ch i → a ≠ G.qu i → σ' a = some c)
    (h1 : σ' (G.ad i) = some (.inst c_Stream (nodeF G' i n') 8)) (h2 : σ' (G'.ch i) = some (.seq "list" (kidsV G n'.kids))) (h3 : QueAt G σ' (G'.qu i) n'.q)
    (c1 : G'.ch i = G.ch i ∨ ¬ foot G N (G'.ch i)) (c2 : G'.qu i = G.qu i ∨ ¬ foot G N (G'.qu i)) (c3 : G'.ch i ≠ G'.qu i)
    (hs : n'.sid = n.sid) (hw : ∃ k, nv n'.w = some k ∧ 1 ≤ k ∧ k ≤ 256) (hz : n'.kids.length ≤ 5000 ∧ n'.q.length ≤ 5000) : Holds G' (upd N i (some n')) σ' ∧ (∀ a c, σ a = some c → ¬ foot G N a → σ' a = some c) ∧ (∀ a, foot G' (upd N i (some n')) a → foot G N a ∨ a = G'.ch i ∨ a = G'.qu i) ∧ ∀ j k, N j = some k → G'.ad j = G.ad j := by
  have cs : ∀ j k, upd N i (some n') j = some k → (j = i ∧ k = n') ∨ (j ≠ i ∧ N j = some k) := fun j k e => by
    by_cases z : j = i
    · subst z; rw [upd_self] at e; exact .inl ⟨rfl, (Option.some.inj e).symm⟩
    · rw [upd_ne _ _ z] at e; exact .inr ⟨z, e⟩
  have tup : ∀ a l, σ a = some (.seq "tuple" l) → σ' a = some (.seq "tuple" l) := fun a l e => by
    refine hx a _ e (fun q => ?_) (fun q => ?_) (fun q => ?_)
    · rw [q, H.node _ _ h] at e; simp at e
    · rw [q, H.kid _ _ h] at e; simp at e
    · obtain ⟨_, h, _⟩ := H.que _ _ h
      rw [q, h] at e; simp at e
  have nF : ∀ j k, nodeF G' j k = nodeF { G with ch := G'.ch, qu := G'.qu } j k := fun j k => by
    funext x; unfold nodeF parV; rw [had]
  have old : ∀ j k, j ≠ i → N j = some k → σ' (G.ad j) = σ (G.ad j) ∧ σ' (G.ch j) = σ (G.ch j) ∧ σ' (G.qu j) = σ (G.qu j) := fun j k z e => by
    refine ⟨?_, ?_, ?_⟩
    · rw [H.node _ _ e]; exact hx _ _ (H.node _ _ e) (fun q => z (H.injA e h q)) (H.acq e h).1 (H.acq e h).2
    · rw [H.kid _ _ e]; exact hx _ _ (H.kid _ _ e) (fun q => (H.acq h e).1 q.symm) (fun q => z (H.injc _ _ _ _ e h q)) (H.cq _ _ _ _ e h)
    · obtain ⟨rs, e1, _⟩ := H.que _ _ e
      rw [e1]; exact hx _ _ e1 (fun q => (H.acq h e).2 q.symm) (fun q => H.cq _ _ _ _ h e q.symm) (fun q => z (H.injq _ _ _ _ e h q))
  have occ : ∀ j k, N j = some k → foot G N (G.ch j) ∧ foot G N (G.qu j) := fun j k e => ⟨⟨j, k, e, .inr (.inl rfl)⟩, ⟨j, k, e, .inr (.inr rfl)⟩⟩
  refine ⟨⟨fun j k e => ?_, fun j k e => ?_, fun j k e => ?_, fun j l a b e1 e2 => ?_, fun j l a b e1 e2 => ?_, fun j l a b e1 e2 => ?_, fun j k e => ?_, fun j k e => ?_, fun j k e => ?_⟩, fun a c e nf => ?_, fun a f => ?_, fun j k e => by rw [had]⟩
  · rw [had]
    rcases cs j k e with ⟨rfl, rfl⟩ | ⟨z, e⟩
    · exact h1
    · rw [(old j k z e).1, H.node _ _ e]
      congr 2
      funext x; unfold nodeF parV; rw [had, hch j z, hqu j z]
  · have : kidsV G' = kidsV G := by funext l; unfold kidsV; rw [had]
    rw [this]
    rcases cs j k e with ⟨rfl, rfl⟩ | ⟨z, e⟩
    · exact h2
    · rw [hch j z, (old j k z e).2.1]; exact H.kid _ _ e
  · have : ∀ l q, QueAt G σ' l q → QueAt G' σ' l q := fun l q x => by unfold QueAt at *; rw [had]; exact x
    apply this
    rcases cs j k e with ⟨rfl, rfl⟩ | ⟨z, e⟩
    · exact h3
    · rw [hqu j z]
      obtain ⟨rs, e1, e2⟩ := H.que _ _ e
      exact ⟨rs, by rw [(old j k z e).2.2]; exact e1, e2.imp fun a b r => tup _ _ r⟩
  · rcases cs _ _ e1 with ⟨rfl, rfl⟩ | ⟨z1, f1⟩ <;> rcases cs _ _ e2 with ⟨rfl, rfl⟩ | ⟨z2, f2⟩
    · intro _; rfl
    · intro q
      rw [hch l z2] at q
      rcases c1 with c1 | c1
      · rw [c1] at q; exact H.injc _ _ _ _ h f2 q
      · rw [q] at c1; exact absurd (occ _ _ f2).1 c1
    · intro q
      rw [hch j z1] at q
      rcases c1 with c1 | c1
      · rw [c1] at q; exact H.injc _ _ _ _ f1 h q
      · rw [← q] at c1; exact absurd (occ _ _ f1).1 c1
    · rw [hch j z1, hch l z2]; exact H.injc _ _ _ _ f1 f2
  · rcases cs _ _ e1 with ⟨rfl, rfl⟩ | ⟨z1, f1⟩ <;> rcases cs _ _ e2 with ⟨rfl, rfl⟩ | ⟨z2, f2⟩
    · intro _; rfl
    · intro q
      rw [hqu l z2] at q
      rcases c2 with c2 | c2
      · rw [c2] at q; exact H.injq _ _ _ _ h f2 q
      · rw [q] at c2; exact absurd (occ _ _ f2).2 c2
    · intro q
      rw [hqu j z1] at q
      rcases c2 with c2 | c2
      · rw [c2] at q; exact H.injq _ _ _ _ f1 h q
      · rw [← q] at c2; exact absurd (occ _ _ f1).2 c2
    · rw [hqu j z1, hqu l z2]; exact H.injq _ _ _ _ f1 f2
  · rcases cs _ _ e1 with ⟨rfl, rfl⟩ | ⟨z1, f1⟩ <;> rcases cs _ _ e2 with ⟨rfl, rfl⟩ | ⟨z2, f2⟩
    · exact c3
    · intro q
      rw [hqu l z2] at q
      rcases c1 with c1 | c1
      · rw [c1] at q; exact H.cq _ _ _ _ h f2 q
      · rw [q] at c1; exact absurd (occ _ _ f2).2 c1
    · intro q
      rw [hch j z1] at q
      rcases c2 with c2 | c2
      · rw [c2] at q; exact H.cq _ _ _ _ f1 h q
      · rw [← q] at c2; exact absurd (occ _ _ f1).1 c2
    · rw [hch j z1, hqu l z2]; exact H.cq _ _ _ _ f1 f2
  · rcases cs _ _ e with ⟨rfl, rfl⟩ | ⟨z, e⟩
    · rw [hs]; exact H.sid _ _ h
    · exact H.sid _ _ e
  · rcases cs _ _ e with ⟨rfl, rfl⟩ | ⟨z, e⟩
    · exact hw
    · exact H.wt _ _ e
  · rcases cs _ _ e with ⟨rfl, rfl⟩ | ⟨z, e⟩
    · exact hz
    · exact H.sz _ _ e
  · exact hx a c e (fun q => nf ⟨i, n, h, .inl q⟩) (fun q => nf ⟨i, n, h, .inr (.inl q)⟩) (fun q => nf ⟨i, n, h, .inr (.inr q)⟩)
  · obtain ⟨j, k, e, f⟩ := f
    rw [had] at f
    rcases cs j k e with ⟨rfl, rfl⟩ | ⟨z, e⟩
    · rcases f with rfl | rfl | rfl
      · exact .inl ⟨_, _, h, .inl rfl⟩
      · exact .inr (.inl rfl)
      · exact .inr (.inr rfl)
    · rw [hch j z, hqu j z] at f
      exact .inl ⟨j, k, e, f⟩
theorem Holds.off (H : Holds G N σ) {a : Addr} (h : σ a = none) : ¬ foot G N a := fun ⟨i, n, e, f⟩ => by
  rcases f with rfl | rfl | rfl
  · rw [H.node _ _ e] at h; cases h
  · rw [H.kid _ _ e] at h; cases h
  · obtain ⟨_, h1, _⟩ := H.que _ _ e
    rw [h1] at h; cases h
theorem Holds.put (H : Holds G N σ) (h : N i = some n) {G' : Geo} {n' : Node} (had : G'.ad = G.ad) (hch : ∀ j, j ≠ i → G'.ch j = G.ch j) (hqu : ∀ j, j ≠ i → G'.qu j = G.qu j)
    (hx : ∀ a c, σ a = some c → a ≠ G.ad i → a ≠ G.ch i → a ≠ G.qu i → σ' a = some c)
    (h1 : σ' (G.ad i) = some (.inst c_Stream (nodeF G' i n') 8)) (h2 : σ' (G'.ch i) = some (.seq "list" (kidsV G n'.kids))) (h3 : QueAt G σ' (G'.qu i) n'.q)
    (c1 : G'.ch i = G.ch i ∨ σ (G'.ch i) = none) (c2 : G'.qu i = G.qu i ∨ σ (G'.qu i) = none) (c3 : G'.ch i ≠ G'.qu i)
    (hs : n'.sid = n.sid) (hw : ∃ k, nv n'.w = some k ∧ 1 ≤ k ∧ k ≤ 256) (hz : n'.kids.length ≤ 5000 ∧ n'.q.length ≤ 5000) : St G N σ G' (upd N i (some n')) σ' := by
  obtain ⟨a, b, c, d⟩ := H.put' h had hch hqu hx h1 h2 h3 (c1.imp id H.off) (c2.imp id H.off) c3 hs hw hz
  refine ⟨a, ⟨b, fun x f => ?_⟩, d⟩
  rcases c x f with f | rfl | rfl
  · exact .inl f
  · exact c1.elim (fun c => .inl ⟨i, n, h, .inr (.inl c)⟩) .inr
  · exact c2.elim (fun c => .inl ⟨i, n, h, .inr (.inr c)⟩) .inr
/-- other cells do not matter -/
theorem Holds.keep (H : Holds G N σ) (k : ∀ a c, σ a = some c → σ' a = some c) : Holds G N σ' :=
  ⟨fun i n e => k _ _ (H.node i n e), fun i n e => k _ _ (H.kid i n e), fun i n e => by obtain ⟨rs, a, b⟩ := H.que i n e; exact ⟨rs, k _ _ a, b.imp fun _ _ r => k _ _ r⟩, H.injc, H.injq, H.cq, H.sid, H.wt, H.sz⟩
theorem Holds.less (H : Holds G N σ) {M : ST} (k : ∀ i n, M i = some n → N i = some n) : Holds G M σ :=
  ⟨fun i n e => H.node i n (k _ _ e), fun i n e => H.kid i n (k _ _ e), fun i n e => H.que i n (k _ _ e), fun i j n l a b => H.injc i j n l (k _ _ a) (k _ _ b), fun i j n l a b => H.injq i j n l (k _ _ a) (k _ _ b), fun i j n l a b => H.cq i j n l (k _ _ a) (k _ _ b), fun i n e => H.sid i n (k _ _ e), fun i n e => H.wt i n (k _ _ e), fun i n e => H.sz i n (k _ _ e)⟩
theorem St.trans {G' G'' : Geo} {N' N'' : ST} {σ'' : AH} (h : St G N σ G' N' σ') (k : St G' N' σ' G'' N'' σ'') (d : ∀ i n, N i = some n → ∃ n', N' i = some n') : St G N σ G'' N'' σ'' :=
  ⟨k.1, h.2.1.trans k.2.1, fun i n e => by obtain ⟨n', e'⟩ := d i n e; rw [k.2.2 i n' e', h.2.2 i n e]⟩
theorem St.more (H : Holds G N σ) (k : ∀ a c, σ a = some c → σ' a = some c) : St G N σ G N σ' := ⟨H.keep k, ⟨fun a c e _ => k a c e, fun a f => .inl f⟩, fun _ _ _ => rfl⟩
end
end

/-! # Cc -/
set_option maxRecDepth 100000

section
variable {prog : Program} {w : World} {p : Program} {loose : List Str} {mean : ExcName → Option Value} {mg mb : Str → Option Value}
variable {A : Around} {B : Base} {fs : List (Env × LM)} {σ σ' : AH} {Q : Value → AH → Prop} {X : Value → Bool → AH → Prop}
variable {fe env : Env} {es : List Env} {u : Nat} {m : LM}
variable {G : Geo} {N : ST} {i : Int} {n : Node}
theorem parV_handed (G : Geo) (o : Option Int) : handedIn (parV G o) = true := by cases o <;> rfl
theorem gn_stream_id {ex : Bool} {Q X} (O : Ok (mkW prog w p loose mean mg mb) A B es u) (H : Holds G N σ) (hn : N i = some n) (h : Q (n.sid) m σ) : Op1 (mkW prog w p loose mean mg mb) A B fe fs (fun o => getAttr o "stream_id" ex) (.ref (G.ad i)) m σ (ErQ Q) X :=
  g_S O (H.node _ _ hn) (by simp +decide [nodeF]) (nv_handed (H.sid _ _ hn)) (by kernel_rfl) h
theorem gn_weight {ex : Bool} {Q X} (O : Ok (mkW prog w p loose mean mg mb) A B es u) (H : Holds G N σ) (hn : N i = some n) (h : Q (n.w) m σ) : Op1 (mkW prog w p loose mean mg mb) A B fe fs (fun o => getAttr o "_weight" ex) (.ref (G.ad i)) m σ (ErQ Q) X :=
  g_S O (H.node _ _ hn) (by simp +decide [nodeF]) ((by obtain ⟨k, e, _⟩ := H.wt _ _ hn; exact nv_handed e)) (by kernel_rfl) h
theorem gn_children {ex : Bool} {Q X} (O : Ok (mkW prog w p loose mean mg mb) A B es u) (H : Holds G N σ) (hn : N i = some n) (h : Q (.ref (G.ch i)) m σ) : Op1 (mkW prog w p loose mean mg mb) A B fe fs (fun o => getAttr o "children" ex) (.ref (G.ad i)) m σ (ErQ Q) X :=
  g_S O (H.node _ _ hn) (by simp +decide [nodeF]) (rfl) (by kernel_rfl) h
theorem gn_parent {ex : Bool} {Q X} (O : Ok (mkW prog w p loose mean mg mb) A B es u) (H : Holds G N σ) (hn : N i = some n) (h : Q (parV G n.par) m σ) : Op1 (mkW prog w p loose mean mg mb) A B fe fs (fun o => getAttr o "parent" ex) (.ref (G.ad i)) m σ (ErQ Q) X :=
  g_S O (H.node _ _ hn) (by simp +decide [nodeF]) (parV_handed _ _) (by kernel_rfl) h
theorem gn_child_queue {ex : Bool} {Q X} (O : Ok (mkW prog w p loose mean mg mb) A B es u) (H : Holds G N σ) (hn : N i = some n) (h : Q (.ref (G.qu i)) m σ) : Op1 (mkW prog w p loose mean mg mb) A B fe fs (fun o => getAttr o "child_queue" ex) (.ref (G.ad i)) m σ (ErQ Q) X :=
  g_S O (H.node _ _ hn) (by simp +decide [nodeF]) (rfl) (by kernel_rfl) h
theorem gn_active {ex : Bool} {Q X} (O : Ok (mkW prog w p loose mean mg mb) A B es u) (H : Holds G N σ) (hn : N i = some n) (h : Q (.bool n.act) m σ) : Op1 (mkW prog w p loose mean mg mb) A B fe fs (fun o => getAttr o "active" ex) (.ref (G.ad i)) m σ (ErQ Q) X :=
  g_S O (H.node _ _ hn) (by simp +decide [nodeF]) (rfl) (by kernel_rfl) h
theorem gn_last_weight {ex : Bool} {Q X} (O : Ok (mkW prog w p loose mean mg mb) A B es u) (H : Holds G N σ) (hn : N i = some n) (h : Q (.int n.last 0) m σ) : Op1 (mkW prog w p loose mean mg mb) A B fe fs (fun o => getAttr o "last_weight" ex) (.ref (G.ad i)) m σ (ErQ Q) X :=
  g_S O (H.node _ _ hn) (by simp +decide [nodeF]) (rfl) (by kernel_rfl) h
theorem gn_deficit {ex : Bool} {Q X} (O : Ok (mkW prog w p loose mean mg mb) A B es u) (H : Holds G N σ) (hn : N i = some n) (h : Q (.int n.df 0) m σ) : Op1 (mkW prog w p loose mean mg mb) A B fe fs (fun o => getAttr o "_deficit" ex) (.ref (G.ad i)) m σ (ErQ Q) X :=
  g_S O (H.node _ _ hn) (by simp +decide [nodeF]) (rfl) (by kernel_rfl) h
theorem s_S {x : Addr} {f : LM} {k : Nat} {name : Str} {v : Value} {Q : Unit → LM → AH → Prop} {X} (O : Ok (mkW prog w p loose mean mg mb) A B es u) (hσ : σ x = some (.inst c_Stream f k)) (ht : takerIn (mkW prog w p loose mean mg mb).K c_Stream name = some none) (hk : k < 1000)
    (h : Q () m (upd σ x (some (.inst c_Stream (upd f name (some v)) (if (f name).isSome then k else k + 1))))) : Op2 (mkW prog w p loose mean mg mb) A B fe fs (fun o v => setAttr o name v) (.ref x) v m σ Q X :=
  op_setOwn O hσ h (by kernel_rfl) (by kernel_rfl) ht (by kernel_rfl) hk
/-- an attribute of a node is stored -/
theorem s_N {name : Str} {v : Value} {n' : Node} {Q : Unit → LM → AH → Prop} {X} (O : Ok (mkW prog w p loose mean mg mb) A B es u) (H : Holds G N σ) (hn : N i = some n) (ht : takerIn (mkW prog w p loose mean mg mb).K c_Stream name = some none)
    (e : upd (nodeF G i n) name (some v) = nodeF G i n') (e8 : (nodeF G i n name).isSome = true) (hk : n'.kids = n.kids) (hq : n'.q = n.q) (hs : n'.sid = n.sid) (hw : ∃ k, nv n'.w = some k ∧ 1 ≤ k ∧ k ≤ 256)
    (h : ∀ σ', St G N σ G (upd N i (some n')) σ' → Q () m σ') : Op2 (mkW prog w p loose mean mg mb) A B fe fs (fun o v => setAttr o name v) (.ref (G.ad i)) v m σ Q X := by
  refine s_S O (H.node _ _ hn) ht (by decide) (h _ ?_)
  rw [e8, e, if_pos rfl]
  have oth : ∀ a, a ≠ G.ad i → upd σ (G.ad i) (some (.inst c_Stream (nodeF G i n') 8)) a = σ a := fun a z => upd_ne _ _ z
  refine H.put hn rfl (fun _ _ => rfl) (fun _ _ => rfl) (fun a c e z _ _ => (oth a z).trans e) (upd_self _ _ _) ?_ ?_ (.inl rfl) (.inl rfl) (H.cq _ _ _ _ hn hn) hs hw (by rw [hk, hq]; exact H.sz _ _ hn)
  · rw [oth _ (H.acq hn hn).1.symm, hk]; exact H.kid _ _ hn
  · obtain ⟨rs, h1, h2⟩ := H.que _ _ hn
    rw [hq]
    refine ⟨rs, (oth _ (H.acq hn hn).2.symm).trans h1, h2.imp fun t e r => (oth t fun z => ?_).trans r⟩
    rw [z, H.node _ _ hn] at r; cases r
theorem sn_parent {o : Option Int} {Q : Unit → LM → AH → Prop} {X} (O : Ok (mkW prog w p loose mean mg mb) A B es u) (H : Holds G N σ) (hn : N i = some n)
    (h : ∀ σ', St G N σ G (upd N i (some { n with par := o })) σ' → Q () m σ') : Op2 (mkW prog w p loose mean mg mb) A B fe fs (fun o v => setAttr o "parent" v) (.ref (G.ad i)) (parV G o) m σ Q X :=
  s_N (n' := { n with par := o }) O H hn (by kernel_rfl) (by
    funext x
    by_cases z : x = "parent"
    · subst z; simp +decide [nodeF, upd]
    · rw [upd_ne _ _ z]; simp [nodeF, z, parV]) (by simp +decide [nodeF]) rfl rfl rfl (by have := H.wt _ _ hn; exact this) h
theorem sn_active {b : Bool} {Q : Unit → LM → AH → Prop} {X} (O : Ok (mkW prog w p loose mean mg mb) A B es u) (H : Holds G N σ) (hn : N i = some n)
    (h : ∀ σ', St G N σ G (upd N i (some { n with act := b })) σ' → Q () m σ') : Op2 (mkW prog w p loose mean mg mb) A B fe fs (fun o v => setAttr o "active" v) (.ref (G.ad i)) (.bool b) m σ Q X :=
  s_N (n' := { n with act := b }) O H hn (by kernel_rfl) (by
    funext x
    by_cases z : x = "active"
    · subst z; simp +decide [nodeF, upd]
    · rw [upd_ne _ _ z]; simp [nodeF, z, parV]) (by simp +decide [nodeF]) rfl rfl rfl (by have := H.wt _ _ hn; exact this) h
theorem sn_last_weight {k : Int} {Q : Unit → LM → AH → Prop} {X} (O : Ok (mkW prog w p loose mean mg mb) A B es u) (H : Holds G N σ) (hn : N i = some n)
    (h : ∀ σ', St G N σ G (upd N i (some { n with last := k })) σ' → Q () m σ') : Op2 (mkW prog w p loose mean mg mb) A B fe fs (fun o v => setAttr o "last_weight" v) (.ref (G.ad i)) (.int k 0) m σ Q X :=
  s_N (n' := { n with last := k }) O H hn (by kernel_rfl) (by
    funext x
    by_cases z : x = "last_weight"
    · subst z; simp +decide [nodeF, upd]
    · rw [upd_ne _ _ z]; simp [nodeF, z, parV]) (by simp +decide [nodeF]) rfl rfl rfl (by have := H.wt _ _ hn; exact this) h
theorem sn_deficit {k : Int} {Q : Unit → LM → AH → Prop} {X} (O : Ok (mkW prog w p loose mean mg mb) A B es u) (H : Holds G N σ) (hn : N i = some n)
    (h : ∀ σ', St G N σ G (upd N i (some { n with df := k })) σ' → Q () m σ') : Op2 (mkW prog w p loose mean mg mb) A B fe fs (fun o v => setAttr o "_deficit" v) (.ref (G.ad i)) (.int k 0) m σ Q X :=
  s_N (n' := { n with df := k }) O H hn (by kernel_rfl) (by
    funext x
    by_cases z : x = "_deficit"
    · subst z; simp +decide [nodeF, upd]
    · rw [upd_ne _ _ z]; simp [nodeF, z, parV]) (by simp +decide [nodeF]) rfl rfl rfl (by have := H.wt _ _ hn; exact this) h
theorem St.kids (H : Holds G N σ) (hn : N i = some n) {ks : List Int} (hz : ks.length ≤ 5000) : St G N σ G (upd N i (some { n with kids := ks })) (upd σ (G.ch i) (some (.seq "list" (kidsV G ks)))) := by
  have oth : ∀ a, a ≠ G.ch i → upd σ (G.ch i) (some (.seq "list" (kidsV G ks))) a = σ a := fun a z => upd_ne _ _ z
  refine H.put hn rfl (fun _ _ => rfl) (fun _ _ => rfl) (fun a c e _ z _ => (oth a z).trans e) ((oth _ (H.acq hn hn).1).trans (H.node i n hn)) (upd_self _ _ _) ?_ (.inl rfl) (.inl rfl) (H.cq _ _ _ _ hn hn) rfl (by have := H.wt _ _ hn; exact this) ⟨hz, (H.sz _ _ hn).2⟩
  obtain ⟨rs, h1, h2⟩ := H.que _ _ hn
  refine ⟨rs, (oth _ (H.cq _ _ _ _ hn hn).symm).trans h1, h2.imp fun t e r => (oth t fun z => ?_).trans r⟩
  rw [z, H.kid _ _ hn] at r; simp at r
theorem St.que (H : Holds G N σ) (hn : N i = some n) {q : List (Int × Int)} {rs : List Addr} (hr : All2 (fun t (e : Int × Int) => σ t = some (.seq "tuple" [.int e.1 0, .ref (G.ad e.2)])) rs q) (hz : q.length ≤ 5000) :
    St G N σ G (upd N i (some { n with q := q })) (upd σ (G.qu i) (some (.seq "list" (rs.map .ref)))) := by
  have oth : ∀ a, a ≠ G.qu i → upd σ (G.qu i) (some (.seq "list" (rs.map .ref))) a = σ a := fun a z => upd_ne _ _ z
  refine H.put hn rfl (fun _ _ => rfl) (fun _ _ => rfl) (fun a c e _ _ z => (oth a z).trans e) ((oth _ (H.acq hn hn).2).trans (H.node i n hn)) ((oth _ (H.cq _ _ _ _ hn hn)).trans (H.kid i n hn)) ?_ (.inl rfl) (.inl rfl) (H.cq _ _ _ _ hn hn) rfl (by have := H.wt _ _ hn; exact this) ⟨(H.sz _ _ hn).1, hz⟩
  obtain ⟨rs', h1, _⟩ := H.que _ _ hn
  refine ⟨rs, upd_self _ _ _, hr.imp fun t e r => (oth t fun z => ?_).trans r⟩
  rw [z, h1] at r; simp at r
/-- whom a store speaks of -/
def Cl (N : ST) : Prop := ∀ i n, N i = some n → (∀ e ∈ n.q, ∃ k, N e.2 = some k) ∧ ∀ k ∈ n.kids, ∃ m, N k = some m
theorem All2.memR {α β : Type} {R S : α → β → Prop} {l : List α} {k : List β} (h : All2 R l k) (f : ∀ a b, b ∈ k → R a b → S a b) : All2 S l k := by
  induction h with
  | nil => exact .nil
  | cons r _ ih => exact .cons (f _ _ (.head _) r) (ih fun a b hb => f a b (.tail _ hb))
theorem All2.putAt {α β : Type} {R : α → β → Prop} {l : List α} {k : List β} {a : α} {b : β} (h : All2 R l k) (r : R a b) (j : Nat) : All2 R (Mine.putAt j a l) (Mine.putAt j b k) := by
  unfold Mine.putAt
  induction j generalizing l k with
  | zero => exact .cons r h
  | succ j ih =>
    cases h with
    | nil => exact .cons r .nil
    | cons r' t => exact .cons r' (ih t)
theorem putAt_length {α : Type} (j : Nat) (a : α) (l : List α) : (Mine.putAt j a l).length = l.length + 1 := by
  unfold Mine.putAt; simp; omega
/-! ### the store turned -/
def md (N : ST) (i : Int) (f : Node → Node) : ST := upd N i ((N i).map f)
theorem md_some {f : Node → Node} (h : N i = some n) : md N i f = upd N i (some (f n)) := by unfold md; rw [h]; rfl
theorem md_self {f : Node → Node} (h : N i = some n) : md N i f i = some (f n) := by rw [md_some h, upd_self]
theorem md_ne {f : Node → Node} {j : Int} (h : j ≠ i) : md N i f j = N j := upd_ne _ _ h
theorem md_dom {f : Node → Node} {j : Int} : (∃ k, md N i f j = some k) ↔ ∃ k, N j = some k := by
  unfold md
  by_cases z : j = i
  · subst z; rw [upd_self]; cases N j <;> simp
  · rw [upd_ne _ _ z]
def pAdd (N : ST) (p c : Int) : ST := md (md N c fun n => { n with par := some p }) p fun n => { n with kids := n.kids ++ [c], q := ins (n.last, c) n.q }
theorem pAdd_dom {p c j : Int} : (∃ k, pAdd N p c j = some k) ↔ ∃ k, N j = some k := by unfold pAdd; rw [md_dom, md_dom]

theorem k_add_child {a c : Int} {na nc : Node} (O : Ok (mkW prog w p loose mean mg mb) A B (fs.map (·.1)) 0) (hsh : fs.length < 56) (H : Holds G N σ) (C : Cl N) (ha : N a = some na) (hc : N c = some nc) (hz : na.kids.length < 5000 ∧ na.q.length < 5000)
    (h : ∀ σ', St G N σ G (pAdd N a c) σ' → Q .none σ') : CallR (mkW prog w p loose mean mg mb) A B fs (.ref a_S_add_child) [.ref (G.ad a), .ref (G.ad c)] [] σ Q X := by
  refine CallR.go O (by omega) (by rfl) (by kernel_rfl) (binds2 (p1 := "self") (p2 := "child") (by intro _ _; rfl)) rfl fun L A' O' hA' => ?_
  walk_at "ss"
  refine sn_parent (o := some a) O' H hc fun σ₁ S₁ => ?_
  rw [← md_some (f := fun n => { n with par := some a }) hc] at S₁
  generalize hN₁ : md N c (fun n => { n with par := some a }) = N₁ at S₁
  have hd₁ : ∀ j, (∃ k, N₁ j = some k) ↔ ∃ k, N j = some k := fun j => by rw [← hN₁, md_dom]
  obtain ⟨n₁, ha₁⟩ := (hd₁ a).mpr ⟨na, ha⟩
  have ee : n₁.kids = na.kids ∧ n₁.q = na.q ∧ n₁.last = na.last := by
    by_cases z : a = c
    · subst z
      rw [← hN₁, md_self hc, ← ha.symm.trans hc |> Option.some.inj] at ha₁
      cases ha₁; exact ⟨rfl, rfl, rfl⟩
    · rw [← hN₁, md_ne z, ha] at ha₁
      cases ha₁; exact ⟨rfl, rfl, rfl⟩
  walk_at "ss"
  refine gn_children O' S₁.1 ha₁ ?_
  refine op_methList PySem.F.slot_list_append PySem.F.type_list_append (S₁.1.kid _ _ ha₁) ?_
  walk_at "ss"
  refine call_append (v := .ref (G.ad c)) (S₁.1.kid _ _ ha₁) (by rw [ee.1]; simp [kidsV]; omega) ?_
  refine ⟨trivial, ?_⟩
  have S₂ := St.kids S₁.1 ha₁ (ks := n₁.kids ++ [c]) (by rw [ee.1]; simp; omega)
  rw [show kidsV G (n₁.kids ++ [c]) = kidsV G n₁.kids ++ [.ref (G.ad c)] by simp [kidsV]] at S₂
  generalize hσ₂ : upd σ₁ (G.ch a) (some (.seq "list" (kidsV G n₁.kids ++ [.ref (G.ad c)]))) = σ₂ at S₂ ⊢
  have ha₂ : upd N₁ a (some { n₁ with kids := n₁.kids ++ [c] }) a = some { n₁ with kids := n₁.kids ++ [c] } := upd_self _ _ _
  walk_at "ss"
  refine gn_child_queue O' S₂.1 ha₂ ?_
  walk_at "ss"
  refine gn_last_weight O' S₂.1 ha₂ ?_
  walk_at "ss"
  refine ⟨by simp, fun t ht => ?_⟩
  have S₃ := St.more S₂.1 (σ' := upd σ₂ t (some (.seq "tuple" [.int n₁.last 0, .ref (G.ad c)]))) fun a c e => (upd_ne _ _ fun z => by rw [z, ht] at e; cases e).trans e
  obtain ⟨rs, q1, q2⟩ := S₃.1.que _ _ ha₂
  have dom₂ : ∀ j, (∃ k, upd N₁ a (some { n₁ with kids := n₁.kids ++ [c] }) j = some k) ↔ ∃ k, N j = some k := fun j => by
    rw [← hd₁]
    by_cases z : j = a
    · subst z; rw [upd_self, ha₁]; simp
    · rw [upd_ne _ _ z]
  walk_at "ss"
  obtain ⟨nc₂, hc₂⟩ := (dom₂ c).mpr ⟨nc, hc⟩
  refine (k_push (t := t) (e := (n₁.last, c)) (es := n₁.q) O'.less (by simp; omega) q1 (S₃.1.tup (upd_self _ _ _) hc₂) (q2.memR fun t e he r => ?_) (by rw [ee.2.1]; omega) ?_).w
  · obtain ⟨k, hk⟩ := (C _ _ ha).1 e (by rw [← ee.2.1]; exact he)
    obtain ⟨k', hk'⟩ := (dom₂ e.2).mpr ⟨k, hk⟩
    exact S₃.1.tup r hk'
  · refine ⟨trivial, ?_⟩
    walk_at "ss"
    have S₄ := St.que S₃.1 ha₂ (q := ins (n₁.last, c) n₁.q) (rs := putAt (place (n₁.last, c) n₁.q) t rs) (All2.putAt q2 (upd_self _ _ _) _) (by unfold ins; rw [putAt_length, ee.2.1]; omega)
    have dd : ∀ j k, N j = some k → ∃ k', N₁ j = some k' := fun j k e => (hd₁ j).mpr ⟨k, e⟩
    have d2 : ∀ j k, N j = some k → ∃ k', upd N₁ a (some { n₁ with kids := n₁.kids ++ [c] }) j = some k' := fun j k e => (dom₂ j).mpr ⟨k, e⟩
    have S := ((S₁.trans S₂ dd).trans S₃ d2).trans S₄ d2
    rw [upd_upd] at S
    refine h _ ?_
    have e : pAdd N a c = upd N₁ a (some { n₁ with kids := n₁.kids ++ [c], q := ins (n₁.last, c) n₁.q }) := by
      unfold pAdd; rw [hN₁, md_some ha₁]
    rw [e]; exact S
end

/-! # Cd -/
set_option maxRecDepth 100000

section
variable {prog : Program} {w : World} {p : Program} {loose : List Str} {mean : ExcName → Option Value} {mg mb : Str → Option Value}
variable {A : Around} {B : Base} {fs : List (Env × LM)} {σ σ' : AH} {Q : Value → AH → Prop} {X : Value → Bool → AH → Prop}
variable {fe env : Env} {es : List Env} {u : Nat} {m : LM}
variable {G : Geo} {N : ST} {i : Int} {n : Node}
theorem k_weight (O : Ok (mkW prog w p loose mean mg mb) A B (fs.map (·.1)) 0) (hsh : fs.length < 59) (H : Holds G N σ) (hn : N i = some n) (h : Q n.w σ) : CallR (mkW prog w p loose mean mg mb) A B fs (.ref a_S_weight) [.ref (G.ad i)] [] σ Q X := by
  refine CallR.go O (by omega) (by rfl) (by kernel_rfl) (binds1 (p1 := "self") (by intro _; rfl)) rfl fun L A' O' hA' => ?_
  walk_at "ss"
  refine gn_weight O' H hn ?_
  walk_at "ss"
  exact h
theorem gp_weight {ex : Bool} {Q X} (O : Ok (mkW prog w p loose mean mg mb) A B (fe :: fs.map (·.1)) 8) (hsh : fs.length < 58) (H : Holds G N σ) (hn : N i = some n) (h : Q n.w m σ) : Op1 (mkW prog w p loose mean mg mb) A B fe fs (fun o => getAttr o "weight" ex) (.ref (G.ad i)) m σ (ErQ Q) X :=
  op_getProp (p := p_weight) (fget := a_S_weight) O (H.node _ _ hn) (k_weight (fs := (fe, m) :: fs) O.in1.less (by simp; omega) H hn ⟨(by obtain ⟨k, e, _⟩ := H.wt _ _ hn; exact nv_handed e), h⟩) (by kernel_rfl) (by kernel_rfl) (by kernel_rfl) (by kernel_rfl) (by kernel_rfl) (by rfl)
/-! ### new lists for a node -/
theorem sn_children {l : Addr} {Q : Unit → LM → AH → Prop} {X} (O : Ok (mkW prog w p loose mean mg mb) A B es u) (H : Holds G N σ) (hn : N i = some n) (hl : σ l = none)
    (h : ∀ σ', St G N σ { G with ch := upd G.ch i l } (upd N i (some { n with kids := [] })) σ' → σ' (G.ch i) = some (.seq "list" (kidsV G n.kids)) → Q () m σ') :
    Op2 (mkW prog w p loose mean mg mb) A B fe fs (fun o v => setAttr o "children" v) (.ref (G.ad i)) (.ref l) m (upd σ l (some (.seq "list" []))) Q X := by
  have ne : ∀ a c, σ a = some c → a ≠ l := fun a c e z => by rw [z, hl] at e; cases e
  have hnode := H.node _ _ hn
  refine s_S O ((upd_ne _ _ (ne _ _ hnode)).trans hnode) (by kernel_rfl) (by decide) (h _ ?_ ?_)
  · rw [show (nodeF G i n "children").isSome = true by simp +decide [nodeF], if_pos rfl]
    have e : upd (nodeF G i n) "children" (some (.ref l)) = nodeF { G with ch := upd G.ch i l } i { n with kids := [] } := by
      funext x
      by_cases z : x = "children"
      · subst z; simp +decide [nodeF, upd]
      · rw [upd_ne _ _ z]; simp [nodeF, z, parV]
    rw [e]
    have oth : ∀ a c, σ a = some c → a ≠ G.ad i → upd (upd σ l (some (.seq "list" []))) (G.ad i) (some (.inst c_Stream (nodeF { G with ch := upd G.ch i l } i { n with kids := [] }) 8)) a = some c := fun a c e z => by
      rw [upd_ne _ _ z, upd_ne _ _ (ne _ _ e)]; exact e
    refine H.put hn rfl (fun j z => upd_ne _ _ z) (fun _ _ => rfl) (fun a c e z _ _ => oth a c e z) (upd_self _ _ _) ?_ ?_ (.inr (by dsimp only; rw [upd_self]; exact hl)) (.inl rfl) ?_ rfl (by have := H.wt _ _ hn; exact this) ⟨Nat.zero_le _, (H.sz _ _ hn).2⟩
    · show upd _ (G.ad i) _ (upd G.ch i l i) = _
      rw [upd_self, upd_ne _ _ (ne _ _ hnode).symm, upd_self]; rfl
    · obtain ⟨rs, h1, h2⟩ := H.que _ _ hn
      exact ⟨rs, oth _ _ h1 (H.acq hn hn).2.symm, h2.imp fun t e r => oth _ _ r fun z => by rw [z, hnode] at r; cases r⟩
    · show upd G.ch i l i ≠ G.qu i
      rw [upd_self]
      obtain ⟨rs, h1, _⟩ := H.que _ _ hn
      exact (ne _ _ h1).symm
  · rw [upd_ne _ _ (H.acq hn hn).1.symm, upd_ne _ _ (ne _ _ (H.kid _ _ hn))]; exact H.kid _ _ hn
theorem sn_child_queue {l : Addr} {Q : Unit → LM → AH → Prop} {X} (O : Ok (mkW prog w p loose mean mg mb) A B es u) (H : Holds G N σ) (hn : N i = some n) (hl : σ l = none)
    (h : ∀ σ', St G N σ { G with qu := upd G.qu i l } (upd N i (some { n with q := [] })) σ' → Q () m σ') :
    Op2 (mkW prog w p loose mean mg mb) A B fe fs (fun o v => setAttr o "child_queue" v) (.ref (G.ad i)) (.ref l) m (upd σ l (some (.seq "list" []))) Q X := by
  have ne : ∀ a c, σ a = some c → a ≠ l := fun a c e z => by rw [z, hl] at e; cases e
  have hnode := H.node _ _ hn
  refine s_S O ((upd_ne _ _ (ne _ _ hnode)).trans hnode) (by kernel_rfl) (by decide) (h _ ?_)
  rw [show (nodeF G i n "child_queue").isSome = true by simp +decide [nodeF], if_pos rfl]
  have e : upd (nodeF G i n) "child_queue" (some (.ref l)) = nodeF { G with qu := upd G.qu i l } i { n with q := [] } := by
    funext x
    by_cases z : x = "child_queue"
    · subst z; simp +decide [nodeF, upd]
    · rw [upd_ne _ _ z]; simp [nodeF, z, parV]
  rw [e]
  have oth : ∀ a c, σ a = some c → a ≠ G.ad i → upd (upd σ l (some (.seq "list" []))) (G.ad i) (some (.inst c_Stream (nodeF { G with qu := upd G.qu i l } i { n with q := [] }) 8)) a = some c := fun a c e z => by
    rw [upd_ne _ _ z, upd_ne _ _ (ne _ _ e)]; exact e
  refine H.put hn rfl (fun _ _ => rfl) (fun j z => upd_ne _ _ z) (fun a c e z _ _ => oth a c e z) (upd_self _ _ _) (oth _ _ (H.kid i n hn) (H.acq hn hn).1.symm) ?_ (.inl rfl) (.inr (by dsimp only; rw [upd_self]; exact hl)) ?_ rfl (by have := H.wt _ _ hn; exact this) ⟨(H.sz _ _ hn).1, Nat.zero_le _⟩
  · show QueAt G _ (upd G.qu i l i) []
    rw [upd_self]
    exact ⟨[], by rw [upd_ne _ _ (ne _ _ hnode).symm, upd_self]; rfl, .nil⟩
  · show G.ch i ≠ upd G.qu i l i
    rw [upd_self]
    exact ne _ _ (H.kid _ _ hn)
/-! ### cells beside the store -/
def Out (G : Geo) (N : ST) (σ : AH) (a : Addr) (c : Cell) : Prop := σ a = some c ∧ ¬ foot G N a
theorem Out.step {G' : Geo} {N' : ST} {a : Addr} {c : Cell} (h : Out G N σ a c) (S : St G N σ G' N' σ') : Out G' N' σ' a c :=
  ⟨S.2.1.1 _ _ h.1 h.2, fun f => (S.2.1.2 a f).elim h.2 fun z => by (rw [h.1] at z; cases z)⟩
theorem pAdd_get {a c j : Int} {n : Node} (h : N j = some n) : pAdd N a c j = some { n with par := if j = c then some a else n.par, kids := if j = a then n.kids ++ [c] else n.kids, q := if j = a then ins (n.last, c) n.q else n.q } := by
  unfold pAdd
  by_cases h1 : j = a <;> by_cases h2 : j = c
  · subst h1; subst h2; rw [md_self (md_self h)]; simp
  · subst h1
    rw [md_self (n := n) (by rw [md_ne h2]; exact h)]; simp [h2]
  · subst h2; rw [md_ne h1, md_self h]; simp [h1]
  · rw [md_ne h1, md_ne h2, h]; simp [h1, h2]
theorem mem_putAt {α : Type} {k : Nat} {x y : α} {l : List α} : y ∈ putAt k x l ↔ y = x ∨ y ∈ l := by
  unfold putAt
  rw [List.mem_append, List.mem_cons]
  have : y ∈ l ↔ y ∈ l.take k ∨ y ∈ l.drop k := by rw [← List.mem_append, List.take_append_drop]
  rw [this]
  constructor <;> (intro h; rcases h with h | h | h <;> simp [h])
theorem Cl.pAdd {a c : Int} (C : Cl N) (hc : ∃ k, N c = some k) : Cl (pAdd N a c) := fun i n hi => by
  obtain ⟨n₀, h₀⟩ := pAdd_dom.mp ⟨n, hi⟩
  rw [pAdd_get h₀] at hi
  cases hi
  obtain ⟨c1, c2⟩ := C i n₀ h₀
  refine ⟨fun e he => pAdd_dom.mpr ?_, fun k hk => pAdd_dom.mpr ?_⟩
  · dsimp only at he
    split at he
    · unfold ins at he
      rcases mem_putAt.mp he with rfl | he
      · exact hc
      · exact c1 e he
    · exact c1 e he
  · dsimp only at hk
    split at hk
    · rcases List.mem_append.mp hk with hk | hk
      · exact c2 k hk
      · rw [List.mem_singleton.mp hk]; exact hc
    · exact c2 k hk
def pAdds (N : ST) (c : Int) (l : List Int) : ST := l.foldl (fun N o => pAdd N c o) N
theorem pAdds_snoc {c o : Int} {l : List Int} : pAdds N c (l ++ [o]) = pAdd (pAdds N c l) c o := by unfold pAdds; rw [List.foldl_append]; rfl
theorem pAdds_dom {c j : Int} : ∀ {l : List Int} {N : ST}, (∃ k, pAdds N c l j = some k) ↔ ∃ k, N j = some k
  | [], _ => Iff.rfl
  | o :: l, N => (pAdds_dom (l := l) (N := pAdd N c o)).trans pAdd_dom
theorem pAdds_size {c : Int} : ∀ {l : List Int} {N : ST} {n : Node}, N c = some n → ∃ n', pAdds N c l c = some n' ∧ n'.kids.length = n.kids.length + l.length ∧ n'.q.length = n.q.length + l.length
  | [], _, n, h => ⟨n, h, rfl, rfl⟩
  | o :: l, N, n, h => by
    obtain ⟨n', e, a, b⟩ := pAdds_size (l := l) (pAdd_get (a := c) (c := o) h)
    refine ⟨n', e, a.trans ?_, b.trans ?_⟩
    · simp; omega
    · simp only [if_true, List.length_cons]
      unfold ins; rw [putAt_length]; omega
theorem Cl.pAdds {c : Int} : ∀ {l : List Int} {N : ST}, Cl N → (∀ o ∈ l, ∃ k, N o = some k) → Cl (pAdds N c l)
  | [], _, C, _ => C
  | o :: l, N, C, h => Cl.pAdds (l := l) (C.pAdd (h o (.head _))) fun o' ho => pAdd_dom.mpr (h o' (.tail _ ho))
def pClear (n : Node) : Node := { n with kids := [], q := [], last := 0 }
def pAddX (N : ST) (p c : Int) : ST := match N p with
  | none => N
  | some np => pAdds (pAdd (md N p pClear) p c) c np.kids
theorem gm_S {name : Str} {g : Addr} {pl : Sem Bool} {Q : Value × List Value → LM → AH → Prop} {X} (O : Ok (mkW prog w p loose mean mg mb) A B es u) (H : Holds G N σ) (hn : N i = some n) (hv : nodeF G i n name = none)
    (hf : findIn (mkW prog w p loose mean mg mb).K (.ref c_Stream) name = some (some (.ref g))) (ht : isFn (mkW prog w p loose mean mg mb).K (.ref g) = true) (h : Q (.ref g, [.ref (G.ad i)]) m σ) :
    Op1 (mkW prog w p loose mean mg mb) A B fe fs (fun o => getMethod o name pl) (.ref (G.ad i)) m σ Q X := op_method O (H.node _ _ hn) hv h (by kernel_rfl) hf ht
theorem Cl.clear (C : Cl N) {a : Int} : Cl (md N a pClear) := fun i n hi => by
  obtain ⟨n₀, h₀⟩ := md_dom.mp ⟨n, hi⟩
  obtain ⟨c1, c2⟩ := C i n₀ h₀
  by_cases z : i = a
  · subst z
    rw [md_self h₀] at hi; cases hi
    exact ⟨(fun e he => by cases he), (fun k hk => by cases hk)⟩
  · rw [md_ne z, h₀] at hi; cases hi
    exact ⟨fun e he => md_dom.mpr (c1 e he), fun k hk => md_dom.mpr (c2 k hk)⟩
theorem k_add_child_exclusive {a c : Int} {na nc : Node} (O : Ok (mkW prog w p loose mean mg mb) A B (fs.map (·.1)) 0) (hsh : fs.length < 55) (Hd : HdOk A B) (H : Holds G N σ) (C : Cl N) (ha : N a = some na) (hc : N c = some nc) (hac : a ≠ c)
    (hz : na.kids.length + nc.kids.length < 5000 ∧ na.kids.length + nc.q.length < 5000) (h : ∀ G' σ', St G N σ G' (pAddX N a c) σ' → Q .none σ') : CallR (mkW prog w p loose mean mg mb) A B fs (.ref a_S_add_child_exclusive) [.ref (G.ad a), .ref (G.ad c)] [] σ Q X := by
  refine CallR.go O (by omega) (by rfl) (by kernel_rfl) (binds2 (p1 := "self") (p2 := "child") (by intro _ _; rfl)) rfl fun L A' O' hA' => ?_
  walk_at "ss"
  refine gn_children O' H ha ?_
  walk_at "ss"
  refine ⟨by simp, fun l1 hl1 => ?_⟩
  walk_at "ss"
  refine sn_children O' H ha hl1 fun σ₁ S₁ old₁ => ?_
  walk_at "ss"
  refine ⟨by simp, fun l2 hl2 => ?_⟩
  walk_at "ss"
  refine sn_child_queue (G := { G with ch := upd G.ch a l1 }) (i := a) O' S₁.1 (upd_self _ _ _) hl2 fun σ₂ S₂ => ?_
  walk_at "ss"
  refine sn_last_weight (G := { G with ch := upd G.ch a l1, qu := upd G.qu a l2 }) (i := a) O' S₂.1 (upd_self _ _ _) fun σ₃ S₃ => ?_
  obtain ⟨G₁, hG⟩ : ∃ g : Geo, g = { G with ch := upd G.ch a l1, qu := upd G.qu a l2 } := ⟨_, rfl⟩
  have had : G₁.ad = G.ad := by rw [hG]
  have SS : St G N σ G₁ (md N a pClear) σ₃ := by
    have := (S₁.trans S₂ fun j k e => (by
      by_cases z : j = a
      · subst z; exact ⟨_, upd_self _ _ _⟩
      · exact ⟨k, (upd_ne _ _ z).trans e⟩)).trans S₃ fun j k e => (by
      by_cases z : j = a
      · subst z; exact ⟨_, upd_self _ _ _⟩
      · exact ⟨k, by rw [upd_upd]; exact (upd_ne _ _ z).trans e⟩)
    rw [upd_upd, upd_upd] at this
    rw [md_some ha, hG]
    exact this
  have o1 : Out { G with ch := upd G.ch a l1 } (upd N a (some { na with kids := [] })) σ₁ (G.ch a) (.seq "list" (kidsV G na.kids)) := by
    refine ⟨old₁, fun ⟨j, k, e, f⟩ => ?_⟩
    have e0 : ∃ k', N j = some k' := by
      by_cases z : j = a
      · subst z; exact ⟨_, ha⟩
      · exact ⟨k, (upd_ne _ _ z).symm.trans e⟩
    obtain ⟨k', e0⟩ := e0
    rcases f with f | f | f
    · exact (H.acq e0 ha).1 f.symm
    · dsimp only at f
      by_cases z : j = a
      · subst z
        rw [upd_self] at f
        rw [← f, H.kid _ _ ha] at hl1; cases hl1
      · rw [upd_ne _ _ z] at f; exact z (H.injc _ _ _ _ e0 ha f.symm)
    · exact H.cq _ _ _ _ ha e0 f
  have o2 : Out G₁ (md N a pClear) σ₃ (G.ch a) (.seq "list" (kidsV G na.kids)) := by
    have := (o1.step S₂).step S₃
    rw [upd_upd, upd_upd] at this
    rw [md_some ha, hG]
    exact this
  have hN₁ : md N a pClear a = some (pClear na) := md_self ha
  have hcN₁ : md N a pClear c = some nc := (md_ne (Ne.symm hac)).trans hc
  have C₁ := C.clear (a := a)
  rw [← had]
  walk_at "ss"
  refine gm_S (g := a_S_add_child) O' SS.1 hN₁ (by simp +decide [nodeF]) (by kernel_rfl) (by kernel_rfl) ?_
  walk_at "ss"
  refine (k_add_child O'.less (by simp; omega) SS.1 C₁ hN₁ hcN₁ (by simp [pClear]) fun σ₄ S₄ => ?_).w
  have o4 := o2.step S₄
  have C₄ := C₁.pAdd (a := a) (c := c) ⟨_, hcN₁⟩
  refine ⟨trivial, ?_⟩
  walk_at "ss"
  refine t_ForL O' (Hd.same hA') ?_
  walk_at "ss"
  have hc₄ := pAdd_get (a := a) (c := c) hcN₁
  rw [if_neg (Ne.symm hac), if_neg (Ne.symm hac)] at hc₄
  have kv : kidsV G na.kids = kidsV G₁ na.kids := by unfold kidsV; rw [had]
  refine ⟨_, _, rfl, fun i m' σ' => m' "child" = some (.ref (G₁.ad c)) ∧ St G₁ (pAdd (md N a pClear) a c) σ₄ G₁ (pAdds (pAdd (md N a pClear) a c) c (na.kids.take i)) σ' ∧ Out G₁ (pAdds (pAdd (md N a pClear) a c) c (na.kids.take i)) σ' (G.ch a) (.seq "list" (kidsV G na.kids)), ⟨rfl, .refl S₄.1, o4⟩, fun i m' σ' hI => hI.2.2.1, fun m' σ' hI => ?_, fun B' hB i m' σ' v hI hv r hr => ?_⟩
  · walk_at "ss"
    have := hI.2.1
    rw [show (kidsV G na.kids).length = na.kids.length by simp [kidsV], List.take_length] at this
    refine h G₁ σ' ?_
    unfold pAddX; rw [ha]
    exact (SS.trans S₄ fun j k e => md_dom.mpr ⟨k, e⟩).trans this fun j k e => pAdd_dom.mpr (md_dom.mpr ⟨k, e⟩)
  · obtain ⟨hm, S, o⟩ := hI
    have hlt : i < na.kids.length := by
      have := (List.getElem?_eq_some_iff.mp hv).1
      simpa [kidsV] using this
    have hv' : v = .ref (G₁.ad na.kids[i]) := by
      rw [kv] at hv
      unfold kidsV at hv
      rw [List.getElem?_map, List.getElem?_eq_getElem hlt] at hv
      exact (Option.some.inj hv).symm
    subst hv'
    have O'' := O'.le hB
    walk_at "ss"
    obtain ⟨nc', e1, e2, e3⟩ := pAdds_size (l := na.kids.take i) hc₄
    have Ci : Cl (pAdds (pAdd (md N a pClear) a c) c (na.kids.take i)) := C₄.pAdds fun o ho => pAdd_dom.mpr (md_dom.mpr ((C _ _ ha).2 o (List.mem_of_mem_take ho)))
    obtain ⟨no, hno⟩ := pAdds_dom.mpr (pAdd_dom.mpr (md_dom.mpr ((C _ _ ha).2 _ (List.getElem_mem hlt))))
    refine gm_S (g := a_S_add_child) O'' S.1 e1 (by simp +decide [nodeF]) (by kernel_rfl) (by kernel_rfl) ?_
    walk_at "ss"
    refine (k_add_child O''.less (by simp; omega) S.1 Ci e1 hno (by dsimp only at e2 e3; rw [e2, e3]; simp; omega) fun σ₅ S₅ => ?_).w
    refine ⟨trivial, ?_⟩
    walk_at "ss"
    have et : na.kids.take (i + 1) = na.kids.take i ++ [na.kids[i]] := by rw [List.take_add_one, List.getElem?_eq_getElem hlt]; rfl
    have o5 := o.step S₅
    dsimp only
    rw [et, pAdds_snoc]
    exact ⟨(upd_ne _ _ (by decide)).trans hm, S.trans S₅ fun j k e => pAdds_dom.mpr ⟨k, e⟩, o5⟩
end

/-! # Ce -/
set_option maxRecDepth 100000

section
variable {prog : Program} {w : World} {p : Program} {loose : List Str} {mean : ExcName → Option Value} {mg mb : Str → Option Value}
variable {A : Around} {B : Base} {fs : List (Env × LM)} {σ σ' : AH} {Q : Value → AH → Prop} {X : Value → Bool → AH → Prop}
variable {fe env : Env} {es : List Env} {u : Nat} {m : LM}
variable {G : Geo} {N : ST} {i : Int} {n : Node}
theorem k_pop {q t : Addr} {rs : List Addr} (O : Ok (mkW prog w p loose mean mg mb) A B (fs.map (·.1)) 0) (hsh : fs.length < 59) (hq : σ q = some (.seq "list" ((t :: rs).map .ref))) (hz : rs.length ≤ 9000)
    (h : Q (.ref t) (upd σ q (some (.seq "list" (rs.map .ref))))) : CallR (mkW prog w p loose mean mg mb) A B fs (.ref a_heappop) [.ref q] [] σ Q X := by
  refine CallR.go O (by omega) (by rfl) (by kernel_rfl) (binds1 (p1 := "queue") (by intro _; rfl)) rfl fun L A' O' hA' => ?_
  walk_at "ss"
  refine op_methList PySem.F.slot_list_pop PySem.F.type_list_pop hq ?_
  walk_at "ss"
  refine call_pop0 hq (by simpa using by omega) ?_
  walk_at "ss"
  exact h
theorem k_pop_none {q : Addr} (O : Ok (mkW prog w p loose mean mg mb) A B (fs.map (·.1)) 0) (hsh : fs.length < 59) (hA : A.handled = none) (hq : σ q = some (.seq "list" []))
    (h : X (.type "IndexError") false σ) : CallR (mkW prog w p loose mean mg mb) A B fs (.ref a_heappop) [.ref q] [] σ Q X := by
  refine CallR.go O (by omega) (by rfl) (by kernel_rfl) (binds1 (p1 := "queue") (by intro _; rfl)) rfl fun L A' O' hA' => ?_
  walk_at "ss"
  refine op_methList PySem.F.slot_list_pop PySem.F.type_list_pop hq ?_
  walk_at "ss"
  exact call_pop0_nil (hA'.trans hA) hq h
def requeue (c : Int) (acc q : List (Int × Int)) : List (Int × Int) := q.foldl (fun acc e => if e.2 = c then acc else ins e acc) acc
def pRem (N : ST) (a c : Int) (strip : Bool) : ST :=
  if strip = true then (match N c with
    | none => md N a fun n => { n with kids := n.kids.erase c, q := requeue c [] n.q }
    | some nc => pAdds (md N a fun n => { n with kids := n.kids.erase c, q := requeue c [] n.q }) a nc.kids)
  else md N a fun n => { n with kids := n.kids.erase c, q := requeue c [] n.q }
theorem eraseIdx_kids {G : Geo} {c : Int} {l : List Int} (h : c ∈ l) : (kidsV G l).eraseIdx (l.idxOf c) = kidsV G (l.erase c) := by
  unfold kidsV
  induction l with
  | nil => cases h
  | cons a l ih =>
    by_cases z : a = c
    · subst z; simp
    · have h' : c ∈ l := by
        rcases List.mem_cons.mp h with h | h
        · exact absurd h.symm z
        · exact h
      have e : (a == c) = false := by simpa using z
      rw [List.idxOf_cons, List.erase_cons, e]
      simpa using ih h'
theorem idx_min {c : Int} : ∀ {l : List Int} {i : Nat}, i < l.idxOf c → l[i]? ≠ some c
  | [], i, h => by simp at h
  | a :: l, i, h => by
    rw [List.idxOf_cons] at h
    cases z : (a == c) with
    | true => rw [z] at h; simp at h
    | false =>
      rw [z] at h
      cases i with
      | zero => simpa using z
      | succ i => simpa using idx_min (l := l) (i := i) (by simpa using h)
theorem foot_dom {M : ST} {b : Addr} (h : ∀ i n, N i = some n → ∃ k, M i = some k) (f : foot G N b) : foot G M b := by
  obtain ⟨i, n, e, f⟩ := f
  obtain ⟨k, e'⟩ := h i n e
  exact ⟨i, k, e', f⟩
theorem Holds.outUpd (H : Holds G N σ) {l : Addr} {c : Cell} (hl : ¬ foot G N l) (hs : ∃ vs, σ l = some (.seq "list" vs)) : Holds G N (upd σ l (some c)) := by
  have oth : ∀ a, a ≠ l → upd σ l (some c) a = σ a := fun a z => upd_ne _ _ z
  refine ⟨fun i n e => (oth _ fun z => hl ⟨i, n, e, .inl z.symm⟩).trans (H.node i n e), fun i n e => (oth _ fun z => hl ⟨i, n, e, .inr (.inl z.symm)⟩).trans (H.kid i n e), fun i n e => ?_, H.injc, H.injq, H.cq, H.sid, H.wt, H.sz⟩
  obtain ⟨rs, h1, h2⟩ := H.que i n e
  refine ⟨rs, (oth _ fun z => hl ⟨i, n, e, .inr (.inr z.symm)⟩).trans h1, h2.imp fun t e r => (oth t fun z => ?_).trans r⟩
  obtain ⟨vs, hs⟩ := hs
  rw [z, hs] at r; simp at r
/-- a finished queue becomes a node's -/
theorem sn_queTo {l : Addr} {q : List (Int × Int)} {Q : Unit → LM → AH → Prop} {X} (O : Ok (mkW prog w p loose mean mg mb) A B es u) (H : Holds G N σ) (hn : N i = some n) (hl : ¬ foot G N l) (hq : QueAt G σ l q) (hz : q.length ≤ 5000)
    (h : ∀ σ', Holds { G with qu := upd G.qu i l } (upd N i (some { n with q := q })) σ' → (∀ b c, σ b = some c → ¬ foot G N b → σ' b = some c) → Q () m σ') :
    Op2 (mkW prog w p loose mean mg mb) A B fe fs (fun o v => setAttr o "child_queue" v) (.ref (G.ad i)) (.ref l) m σ Q X := by
  have hnode := H.node _ _ hn
  have main : Holds { G with qu := upd G.qu i l } (upd N i (some { n with q := q })) (upd σ (G.ad i) (some (.inst c_Stream (nodeF { G with qu := upd G.qu i l } i { n with q := q }) 8))) ∧ (∀ b c, σ b = some c → ¬ foot G N b → upd σ (G.ad i) (some (.inst c_Stream (nodeF { G with qu := upd G.qu i l } i { n with q := q }) 8)) b = some c) := by
    have oth : ∀ a c, σ a = some c → a ≠ G.ad i → upd σ (G.ad i) (some (.inst c_Stream (nodeF { G with qu := upd G.qu i l } i { n with q := q }) 8)) a = some c := fun a c e z => (upd_ne _ _ z).trans e
    have := H.put' (G' := { G with qu := upd G.qu i l }) (n' := { n with q := q }) (σ' := upd σ (G.ad i) (some (.inst c_Stream (nodeF { G with qu := upd G.qu i l } i { n with q := q }) 8))) hn rfl (fun _ _ => rfl) (fun j z => upd_ne _ _ z) (fun a c e z _ _ => oth a c e z) (upd_self _ _ _) (oth _ _ (H.kid i n hn) (H.acq hn hn).1.symm) ?_ (.inl rfl) (.inr (by dsimp only; rw [upd_self]; exact hl)) ?_ rfl (by have := H.wt _ _ hn; exact this) ⟨(H.sz _ _ hn).1, hz⟩
    · exact ⟨this.1, this.2.1⟩
    · show QueAt G _ (upd G.qu i l i) q
      rw [upd_self]
      obtain ⟨rs, h1, h2⟩ := hq
      refine ⟨rs, oth _ _ h1 fun z => hl ⟨i, n, hn, .inl z⟩, h2.imp fun t e r => oth _ _ r fun z => by rw [z, hnode] at r; cases r⟩
    · show G.ch i ≠ upd G.qu i l i
      rw [upd_self]
      exact fun z => hl ⟨i, n, hn, .inr (.inl z.symm)⟩
  refine s_S O hnode (by kernel_rfl) (by decide) ?_
  rw [show (nodeF G i n "child_queue").isSome = true by simp +decide [nodeF], if_pos rfl]
  have e : upd (nodeF G i n) "child_queue" (some (.ref l)) = nodeF { G with qu := upd G.qu i l } i { n with q := q } := by
    funext x
    by_cases z : x = "child_queue"
    · subst z; simp +decide [nodeF, upd]
    · rw [upd_ne _ _ z]; simp [nodeF, z, parV]
  rw [e]
  exact h _ main.1 main.2
theorem op_truthy_que {l : Addr} {vs : List Value} {Q : Bool → LM → AH → Prop} {X} {W : Wd} (hσ : σ l = some (.seq "list" vs)) (hz : vs.length ≤ 10000) (h : Q (!vs.isEmpty) m σ) : Op1 W A B fe fs truthy (.ref l) m σ Q X := op_truthy_list hσ hz h
theorem pAdds_kids {a c : Int} : ∀ {l : List Int} {N : ST} {n : Node}, c ≠ a → N c = some n → ∃ n', pAdds N a l c = some n' ∧ n'.kids = n.kids
  | [], _, n, _, h => ⟨n, h, rfl⟩
  | o :: l, N, n, z, h => by
    obtain ⟨n', e, e2⟩ := pAdds_kids (l := l) z (pAdd_get (a := a) (c := o) h)
    refine ⟨n', e, e2.trans ?_⟩
    simp [z]
set_option maxHeartbeats 2000000 in
theorem k_remove_child {a c : Int} {na nc : Node} {sv : Bool} {kw : List (Str × Value)} (hkw : (kw = [] ∧ sv = true) ∨ kw = [((Str.ofString "strip_children"), Value.bool sv)]) (O : Ok (mkW prog w p loose mean mg mb) A B (fs.map (·.1)) 0) (hsh : fs.length < 55) (Hd : HdOk A B)
    (H : Holds G N σ) (C : Cl N) (ha : N a = some na) (hc : N c = some nc) (hac : a ≠ c) (hm : c ∈ na.kids) (hz : na.kids.length + nc.kids.length < 4000 ∧ na.q.length + nc.kids.length < 4000)
    (h : ∀ G' σ', St G N σ G' (pRem N a c sv) σ' → Q .none σ') : CallR (mkW prog w p loose mean mg mb) A B fs (.ref a_S_remove_child) [.ref (G.ad a), .ref (G.ad c)] kw σ Q X := by
  refine CallR.go (bs := [("self", .ref (G.ad a)), ("child", .ref (G.ad c)), ("strip_children", .bool sv)]) O (by omega) (by rfl) (by kernel_rfl) ?_ rfl fun L A' O' hA' => ?_
  · rcases hkw with ⟨rfl, rfl⟩ | rfl
    · exact bindsD2 (v := .bool true) rfl rfl rfl (by intro _ _; rfl) (by intro _ _; rfl)
    · exact bindsDK2 rfl rfl rfl (by intro _ _ _; rfl) (by intro _ _ _; rfl)
  walk_at "ss"
  refine gn_children O' H ha ?_
  refine op_methList PySem.F.slot_list_remove PySem.F.type_list_remove (H.kid _ _ ha) ?_
  walk_at "ss"
  have hidx := List.idxOf_lt_length_of_mem hm
  have S₁ := St.kids H ha (ks := na.kids.erase c) (by have := List.length_erase_le (a := c) (l := na.kids); omega)
  have ha₁ : upd N a (some { na with kids := na.kids.erase c }) a = some { na with kids := na.kids.erase c } := upd_self _ _ _
  have hc₁ : upd N a (some { na with kids := na.kids.erase c }) c = some nc := (upd_ne _ _ (Ne.symm hac)).trans hc
  have dom₁ : ∀ j k, N j = some k → ∃ k', upd N a (some { na with kids := na.kids.erase c }) j = some k' := fun j k e => by
    by_cases z : j = a
    · subst z; exact ⟨_, upd_self _ _ _⟩
    · exact ⟨k, (upd_ne _ _ z).trans e⟩
  refine call_remove (j := na.kids.idxOf c) (e := fun i => decide (na.kids[i]? = some c)) (H.kid _ _ ha) (by simp [kidsV]; omega) (by simpa [kidsV] using hidx) ?_ (fun i hi => ?_) (fun i y hy y' v' e1 e2 => ?_) ?_
  · simp [List.getElem?_eq_getElem hidx]
  · have : i < na.kids.length := by omega
    simp only [List.getElem?_eq_getElem this, Option.some.injEq, decide_eq_false_iff_not]
    intro z
    exact idx_min hi (by rw [List.getElem?_eq_getElem this, z])
  · obtain ⟨k, hk, rfl⟩ : ∃ k, na.kids[i]? = some k ∧ y = .ref (G.ad k) := by
      unfold kidsV at hy
      rw [List.getElem?_map] at hy
      obtain ⟨k, hk, e⟩ := Option.map_eq_some_iff.mp hy
      exact ⟨k, hk, e.symm⟩
    obtain rfl := er_ref_inv e1
    obtain rfl := er_ref_inv e2
    obtain ⟨nk, hnk⟩ := (C _ _ ha).2 k (List.mem_of_getElem? hk)
    refine eqB_inst O'.in1 (H.node _ _ hnk) (H.node _ _ hc) (by kernel_rfl) (by kernel_rfl) (fun z => ?_) ((k_eq (fs := (_, _) :: fs) O'.in1.less (by simp; omega) (H.node _ _ hnk) (H.node _ _ hc) (by simp +decide [nodeF]) (by simp +decide [nodeF]) (H.sid _ _ hnk) (H.sid _ _ hc) (nv_handed (H.sid _ _ hnk)) (nv_handed (H.sid _ _ hc)) ⟨?_, rfl⟩).w)
    · rw [hk, H.injA hnk hc z]; simp
    · rw [hk]; simp
  rw [eraseIdx_kids hm]
  generalize upd σ (G.ch a) (some (.seq "list" (kidsV G (na.kids.erase c)))) = σ₁ at S₁ ⊢
  refine ⟨trivial, ?_⟩
  walk_at "ss"
  refine ⟨by simp, fun l hl => ?_⟩
  walk_at "ss"
  have hl₁ : ¬ foot G (upd N a (some { na with kids := na.kids.erase c })) l := S₁.1.off hl
  have hd₁ : ∀ q j k, upd N a (some { na with kids := na.kids.erase c, q := q }) j = some k → ∃ k', upd N a (some { na with kids := na.kids.erase c }) j = some k' := fun q j k e => by
    by_cases z : j = a
    · subst z; exact ⟨_, upd_self _ _ _⟩
    · exact ⟨k, (upd_ne _ _ z).trans ((upd_ne _ _ z).symm.trans e)⟩
  have hd₂ : ∀ q j k, upd N a (some { na with kids := na.kids.erase c }) j = some k → ∃ k', upd N a (some { na with kids := na.kids.erase c, q := q }) j = some k' := fun q j k e => by
    by_cases z : j = a
    · subst z; exact ⟨_, upd_self _ _ _⟩
    · exact ⟨k, (upd_ne _ _ z).trans ((upd_ne _ _ z).symm.trans e)⟩
  refine t_Wh O' (fun n m' σ' => m' "self" = some (.ref (G.ad a)) ∧ m' "child" = some (.ref (G.ad c)) ∧ m' "strip_children" = some (.bool sv) ∧ m' "new_queue" = some (.ref l) ∧ ∃ rest acc, n = rest.length ∧ requeue c acc rest = requeue c [] na.q ∧
      (∀ e ∈ rest, e ∈ na.q) ∧ (∀ e ∈ acc, e ∈ na.q) ∧ acc.length + rest.length ≤ na.q.length ∧ Holds G (upd N a (some { na with kids := na.kids.erase c, q := rest })) σ' ∧ QueAt G σ' l acc ∧
      (∀ b d, σ₁ b = some d → ¬ foot G (upd N a (some { na with kids := na.kids.erase c })) b → σ' b = some d)) na.q.length ?_ ?_
  · refine ⟨rfl, rfl, rfl, rfl, na.q, [], rfl, rfl, fun _ h => h, (fun _ h => by cases h), by simp, ?_, ⟨[], upd_self _ _ _, .nil⟩, fun b d e nf => ?_⟩
    · exact S₁.1.keep fun b d e => (upd_ne _ _ fun z => by rw [z, hl] at e; cases e).trans e
    · exact (upd_ne _ _ fun z => by rw [z, hl] at e; cases e).trans e
  rintro n m' σ' ⟨hm1, hm2, hm3, hm4, rest, acc, rfl, hrq, hin, hin2, hsz, H', hacc, hkp⟩
  have ha' : upd N a (some { na with kids := na.kids.erase c, q := rest }) a = some { na with kids := na.kids.erase c, q := rest } := upd_self _ _ _
  have hl' : ¬ foot G (upd N a (some { na with kids := na.kids.erase c, q := rest })) l := fun f => hl₁ (foot_dom (hd₁ rest) f)
  walk_at "ss"
  refine gn_child_queue O' H' ha' ?_
  obtain ⟨rs, hq1, hq2⟩ := H'.que _ _ ha'
  have hlen := All2.length hq2
  refine op_truthy_que hq1 (by simp at hlen ⊢; omega) ?_
  cases rest with
  | nil =>
    cases hq2
    refine ch_f ?_
    walk_at "ss"
    have hacc' : acc = requeue c [] na.q := hrq
    subst hacc'
    refine sn_queTo O' H' ha' hl' hacc (by simp at hsz; omega) fun σ₂ H₂ k₂ => ?_
    rw [upd_upd] at H₂
    have had : ({ G with qu := upd G.qu a l } : Geo).ad = G.ad := rfl
    generalize hG : ({ G with qu := upd G.qu a l } : Geo) = G₁ at H₂ had
    have e₂ : upd N a (some { na with kids := na.kids.erase c, q := requeue c [] na.q }) = md N a fun n => { n with kids := n.kids.erase c, q := requeue c [] n.q } := (md_some (f := fun n => { n with kids := n.kids.erase c, q := requeue c [] n.q }) ha).symm
    have H₂ : Holds G₁ (md N a fun n => { n with kids := n.kids.erase c, q := requeue c [] n.q }) σ₂ := by rw [← e₂]; exact H₂
    have hbd : ∀ b, foot G₁ (md N a fun n => { n with kids := n.kids.erase c, q := requeue c [] n.q }) b → foot G N b ∨ σ b = none := fun b f => by
      obtain ⟨j, k, e, f⟩ := f
      obtain ⟨k', e'⟩ := md_dom.mp ⟨k, e⟩
      rw [← hG] at f
      dsimp only at f
      rcases f with f | f | f
      · exact .inl ⟨j, k', e', .inl f⟩
      · exact .inl ⟨j, k', e', .inr (.inl f)⟩
      · by_cases z : j = a
        · subst z
          rw [upd_self] at f
          subst f
          exact Classical.byCases .inl fun nf => .inr (by
            cases q : σ b with
            | none => rfl
            | some d => rw [S₁.2.1.1 _ _ q nf] at hl; cases hl)
        · rw [upd_ne _ _ z] at f
          exact .inl ⟨j, k', e', .inr (.inr f)⟩
    have nf₁ : ∀ b, ¬ foot G N b → ¬ foot G (upd N a (some { na with kids := na.kids.erase c })) b := fun b nf f => nf (foot_dom (fun j k e => by
      by_cases z : j = a
      · subst z; exact ⟨_, ha⟩
      · exact ⟨k, (upd_ne _ _ z).symm.trans e⟩) f)
    have SS : St G N σ G₁ (md N a fun n => { n with kids := n.kids.erase c, q := requeue c [] n.q }) σ₂ :=
      ⟨H₂, ⟨fun b d e nf => k₂ _ _ (hkp _ _ (S₁.2.1.1 _ _ e nf) (nf₁ b nf)) fun f => nf₁ b nf (foot_dom (hd₁ _) f), hbd⟩, fun j k e => by rw [had]⟩
    walk_at "ss"
    refine op_truthy_bool ⟨fun hs => ?_, fun hs => ?_⟩
    · subst hs
      walk_at "ss"
      refine t_ForL O' (Hd.same hA') ?_
      have hc₂ : (md N a fun n => { n with kids := n.kids.erase c, q := requeue c [] n.q }) c = some nc := (md_ne (Ne.symm hac)).trans hc
      have ha₂ := md_self (f := fun n => { n with kids := n.kids.erase c, q := requeue c [] n.q }) ha
      rw [← had] at hm1 hm2
      walk_at "ss"
      refine gn_children O' H₂ hc₂ ?_
      have C₂ : Cl (md N a fun n => { n with kids := n.kids.erase c, q := requeue c [] n.q }) := fun j k e => by
        obtain ⟨k', e'⟩ := md_dom.mp ⟨k, e⟩
        obtain ⟨c1, c2⟩ := C j k' e'
        by_cases z : j = a
        · subst z
          rw [ha] at e'; cases e'
          rw [ha₂] at e; cases e
          exact ⟨fun d hd => md_dom.mpr (c1 d (hin2 d hd)), fun d hd => md_dom.mpr (c2 d (List.mem_of_mem_erase hd))⟩
        · rw [md_ne z, e'] at e; cases e
          exact ⟨fun d hd => md_dom.mpr (c1 d hd), fun d hd => md_dom.mpr (c2 d hd)⟩
      have hcl : (na.kids.erase c).length ≤ na.kids.length := List.length_erase_le ..
      refine ⟨_, kidsV G₁ nc.kids, rfl, fun i m' σ' => m' "self" = some (.ref (G₁.ad a)) ∧ St G₁ (md N a fun n => { n with kids := n.kids.erase c, q := requeue c [] n.q }) σ₂ G₁ (pAdds (md N a fun n => { n with kids := n.kids.erase c, q := requeue c [] n.q }) a (nc.kids.take i)) σ', ⟨hm1, .refl H₂⟩, fun i m' σ' hI => ?_, fun m' σ' hI => ?_, fun B' hB i m' σ' v hI hv r hr => ?_⟩
      · obtain ⟨n', e1, e2⟩ := pAdds_kids (a := a) (l := nc.kids.take i) (Ne.symm hac) hc₂
        rw [← e2]
        exact hI.2.1.kid _ _ e1
      · walk_at "ss"
        have := hI.2
        rw [show (kidsV G₁ nc.kids).length = nc.kids.length by simp [kidsV], List.take_length] at this
        refine h G₁ σ' ?_
        unfold pRem; rw [if_pos rfl, hc]
        exact SS.trans this fun j k e => md_dom.mpr ⟨k, e⟩
      · obtain ⟨hm, S⟩ := hI
        have hlt : i < nc.kids.length := by
          have := (List.getElem?_eq_some_iff.mp hv).1
          simpa [kidsV] using this
        have hv' : v = .ref (G₁.ad nc.kids[i]) := by
          unfold kidsV at hv
          rw [List.getElem?_map, List.getElem?_eq_getElem hlt] at hv
          exact (Option.some.inj hv).symm
        subst hv'
        have O'' := O'.le hB
        walk_at "ss"
        obtain ⟨na', e1, e2, e3⟩ := pAdds_size (l := nc.kids.take i) ha₂
        have Ci := C₂.pAdds (c := a) (l := nc.kids.take i) fun o ho => md_dom.mpr ((C _ _ hc).2 o (List.mem_of_mem_take ho))
        obtain ⟨no, hno⟩ := pAdds_dom.mpr (md_dom.mpr ((C _ _ hc).2 _ (List.getElem_mem hlt)))
        refine gm_S (g := a_S_add_child) O'' S.1 e1 (by simp +decide [nodeF]) (by kernel_rfl) (by kernel_rfl) ?_
        walk_at "ss"
        refine (k_add_child O''.less (by simp; omega) S.1 Ci e1 hno (by dsimp only at e2 e3; rw [e2, e3]; simp at hsz ⊢; omega) fun σ₅ S₅ => ?_).w
        refine ⟨trivial, ?_⟩
        walk_at "ss"
        have et : nc.kids.take (i + 1) = nc.kids.take i ++ [nc.kids[i]] := by rw [List.take_add_one, List.getElem?_eq_getElem hlt]; rfl
        dsimp only
        rw [et, pAdds_snoc]
        exact ⟨(upd_ne _ _ (by decide)).trans hm, S.trans S₅ fun j k e => pAdds_dom.mpr ⟨k, e⟩⟩
    · subst hs
      walk_at "ss"
      refine h G₁ _ ?_
      unfold pRem
      rw [if_neg (by decide)]
      exact SS
  | cons e rest =>
    cases hq2 with
    | @cons t _ rs _ ht hq2 =>
    refine ch_t ?_
    walk_at "ss"
    refine gn_child_queue O' H' ha' ?_
    walk_at "ss"
    refine (k_pop O'.less (by simp; omega) hq1 (by have := All2.length hq2; simp at hsz; omega) ?_).w
    have S₂ := St.que H' ha' hq2 (by simp at hsz; omega)
    rw [upd_upd] at S₂
    have qul : G.qu a ≠ l := fun z => hl' ⟨a, _, ha', .inr (.inr z.symm)⟩
    have oth : ∀ b, b ≠ G.qu a → upd σ' (G.qu a) (some (.seq "list" (rs.map .ref))) b = σ' b := fun b z => upd_ne _ _ z
    have notq : ∀ b v, σ' b = some (.seq "tuple" v) → b ≠ G.qu a := fun b v e z => by rw [z, hq1] at e; simp at e
    generalize hσ₃ : upd σ' (G.qu a) (some (.seq "list" (rs.map .ref))) = σ₃ at S₂ oth ⊢
    have ht₃ : σ₃ t = some (.seq "tuple" [.int e.1 0, .ref (G.ad e.2)]) := (oth _ (notq _ _ ht)).trans ht
    intro x hx
    refine t_asPair (Hd.same hA') hx ht₃ fun x y hx hy => ?_
    walk_at "ss"
    have he : e ∈ na.q := hin e (.head _)
    obtain ⟨ne, hne⟩ := (C _ _ ha).1 e he
    have dom₃ : ∀ j k, N j = some k → ∃ k', upd N a (some { na with kids := na.kids.erase c, q := rest }) j = some k' := fun j k e => by
      by_cases z : j = a
      · subst z; exact ⟨_, upd_self _ _ _⟩
      · exact ⟨k, (upd_ne _ _ z).trans e⟩
    obtain ⟨ne', hne'⟩ := dom₃ _ _ hne
    obtain ⟨nc', hnc'⟩ := dom₃ _ _ hc
    have H₃ := S₂.1
    refine op_cmpInst O' (H₃.node _ _ hne') (H₃.node _ _ hnc') ((k_eq (fs := (_, _) :: fs) (a := e.2) (b := c) O'.less (by simp; omega) (H₃.node _ _ hne') (H₃.node _ _ hnc') (by simp +decide [nodeF]) (by simp +decide [nodeF]) (H₃.sid _ _ hne') (H₃.sid _ _ hnc') (nv_handed (H₃.sid _ _ hne')) (nv_handed (H₃.sid _ _ hnc')) ⟨by simp, ?_⟩).w) (by kernel_rfl) (by kernel_rfl)
    obtain ⟨rs', g1, g2⟩ := hacc
    have g1₃ : σ₃ l = some (.seq "list" (rs'.map .ref)) := (oth _ (Ne.symm qul)).trans g1
    have g2₃ : All2 (fun t (e : Int × Int) => σ₃ t = some (.seq "tuple" [.int e.1 0, .ref (G.ad e.2)])) rs' acc := g2.imp fun t e r => (oth _ (notq _ _ r)).trans r
    have hlen' := All2.length g2
    have kp₃ : ∀ b d, σ₁ b = some d → ¬ foot G (upd N a (some { na with kids := na.kids.erase c })) b → σ₃ b = some d := fun b d e nf => (oth _ fun z => nf ⟨a, _, ha₁, .inr (.inr z)⟩).trans (hkp b d e nf)
    refine op_truthy_bool ⟨fun hs => ?_, fun hs => ?_⟩
    · have hs : e.2 = c := by simpa using hs
      walk_at "ss"
      refine ⟨rest.length, by simp, (upd_ne _ _ (by decide)).trans ((upd_ne _ _ (by decide)).trans hm1), (upd_ne _ _ (by decide)).trans ((upd_ne _ _ (by decide)).trans hm2), (upd_ne _ _ (by decide)).trans ((upd_ne _ _ (by decide)).trans hm3), (upd_ne _ _ (by decide)).trans ((upd_ne _ _ (by decide)).trans hm4), rest, acc, rfl, ?_, fun d hd => hin d (.tail _ hd), hin2, by simp at hsz; omega, H₃, ⟨rs', g1₃, g2₃⟩, kp₃⟩
      rw [← hrq]
      unfold requeue
      rw [List.foldl_cons, if_pos hs]
    · have hs : e.2 ≠ c := by simpa using hs
      walk_at "ss"
      refine ⟨by simp, fun t' ht' => ?_⟩
      have hl₃ : ¬ foot G (upd N a (some { na with kids := na.kids.erase c, q := rest })) l := fun f => hl₁ (foot_dom (hd₁ rest) f)
      have fr : ∀ b d, σ₃ b = some d → upd σ₃ t' (some (.seq "tuple" [.int e.1 0, .ref (G.ad e.2)])) b = some d := fun b d e => (upd_ne _ _ fun z => by rw [z, ht'] at e; cases e).trans e
      have S₄ := St.more H₃ fr
      generalize hσ₄ : upd σ₃ t' (some (.seq "tuple" [.int e.1 0, .ref (G.ad e.2)])) = σ₄ at S₄ fr ⊢
      have ht₄ : σ₄ t' = some (.seq "tuple" [.int e.1 0, .ref (G.ad e.2)]) := by rw [← hσ₄, upd_self]
      walk_at "ss"
      refine (k_push (t := t') (e := e) (es := acc) O'.less (by simp; omega) (fr _ _ g1₃) (S₄.1.tup ht₄ hne') (g2₃.memR fun t d hd r => ?_) (by simp at hsz; omega) ?_).w
      · obtain ⟨k, hk⟩ := (C _ _ ha).1 d (hin2 d hd)
        obtain ⟨k', hk'⟩ := dom₃ _ _ hk
        exact S₄.1.tup (fr _ _ r) hk'
      · refine ⟨trivial, ?_⟩
        walk_at "ss"
        have nl : ∀ b v, σ₄ b = some (.seq "tuple" v) → b ≠ l := fun b v e z => by rw [z, fr _ _ g1₃] at e; simp at e
        refine ⟨rest.length, by simp, (upd_ne _ _ (by decide)).trans ((upd_ne _ _ (by decide)).trans hm1), (upd_ne _ _ (by decide)).trans ((upd_ne _ _ (by decide)).trans hm2), (upd_ne _ _ (by decide)).trans ((upd_ne _ _ (by decide)).trans hm3), (upd_ne _ _ (by decide)).trans ((upd_ne _ _ (by decide)).trans hm4), rest, ins e acc, rfl, ?_, fun d hd => hin d (.tail _ hd), fun d hd => ?_, by unfold ins; rw [putAt_length]; simp at hsz; omega, S₄.1.outUpd hl₃ ⟨_, fr _ _ g1₃⟩, ⟨putAt (place e acc) t' rs', upd_self _ _ _, ?_⟩, fun b d e nf => ?_⟩
        · rw [← hrq]
          unfold requeue
          rw [List.foldl_cons, if_neg hs]
        · rcases mem_putAt.mp hd with rfl | hd
          · exact he
          · exact hin2 d hd
        · exact (All2.putAt (g2₃.imp fun t d r => fr _ _ r) ht₄ _).imp fun t d r => (upd_ne _ _ (nl _ _ r)).trans r
        · refine (upd_ne _ _ fun z => ?_).trans (fr _ _ (kp₃ b d e nf))
          rw [z, hl] at e; cases e
end

/-! # Cf -/
set_option maxRecDepth 100000

section
variable {prog : Program} {w : World} {p : Program} {loose : List Str} {mean : ExcName → Option Value} {mg mb : Str → Option Value}
variable {A : Around} {B : Base} {fs : List (Env × LM)} {σ σ' : AH} {Q : Value → AH → Prop} {X : Value → Bool → AH → Prop}
variable {fe env : Env} {es : List Env} {u : Nat} {m : LM}
variable {G : Geo} {N : ST} {i : Int} {n : Node}
def wnum (n : Node) : Int := (nv n.w).getD 1
theorem Holds.wnum (H : Holds G N σ) (h : N i = some n) : nv n.w = some (wnum n) ∧ 1 ≤ wnum n ∧ wnum n ≤ 256 := by
  obtain ⟨k, e, h1, h2⟩ := H.wt _ _ h
  have : Mine.wnum n = k := by unfold Mine.wnum; rw [e]; rfl
  rw [this]; exact ⟨e, h1, h2⟩
/-- an item that was taken is put back, a step on -/
def pBack1 (i : Int) (N : ST) (e : Int × Int) : ST := match N e.2 with
  | none => N
  | some c => md (md (md N i fun n => { n with last := e.1 }) e.2 fun n => { n with df := (256 + c.df) % wnum c }) i fun n => { n with q := ins (e.1 + (256 + c.df) / wnum c, e.2) n.q }
def pBack (N : ST) (i : Int) (l : List (Int × Int)) : ST := l.foldl (pBack1 i) N
theorem pBack_snoc {l : List (Int × Int)} {e : Int × Int} : pBack N i (l ++ [e]) = pBack1 i (pBack N i l) e := by unfold pBack; rw [List.foldl_append]; rfl
def schedL (rec : ST → Int → Option (Option Value × ST)) (i : Int) : Nat → ST → List (Int × Int) → Option (Option Value × ST)
  | 0, _, _ => none
  | m + 1, N, pop => match N i with
    | none => none
    | some n => match n.q with
      | [] => some (none, pBack N i pop)
      | e :: r => match md N i (fun n => { n with q := r }) e.2 with
        | none => none
        | some c => if c.act = true then some (some c.sid, pBack (md N i fun n => { n with q := r }) i (pop ++ [e]))
          else match rec (md N i fun n => { n with q := r }) e.2 with
            | none => none
            | some (some v, N₂) => some (some v, pBack N₂ i (pop ++ [e]))
            | some (none, N₂) => schedL rec i m N₂ (pop ++ [e])
def sched : Nat → ST → Int → Option (Option Value × ST)
  | 0, _, _ => none
  | d + 1, N, i => schedL (sched d) i 6000 N []
/-- the same nodes, their queues as long -/
def Same (N N' : ST) : Prop := ∀ j n, N j = some n → ∃ n', N' j = some n' ∧ n'.q.length = n.q.length ∧ n'.act = n.act ∧ n'.sid = n.sid
theorem md_get {f : Node → Node} {j : Int} (h : N j = some n) : md N i f j = some (if j = i then f n else n) := by
  by_cases z : j = i
  · subst z; rw [md_self h, if_pos rfl]
  · rw [md_ne z, h, if_neg z]
theorem pBack1_get {e : Int × Int} {c : Node} (hc : N e.2 = some c) {j : Int} (h : N j = some n) : pBack1 i N e j = some { n with last := if j = i then e.1 else n.last, df := if j = e.2 then (256 + c.df) % wnum c else n.df, q := if j = i then ins (e.1 + (256 + c.df) / wnum c, e.2) n.q else n.q } := by
  unfold pBack1
  rw [hc]
  dsimp only
  rw [md_get (md_get (md_get h))]
  by_cases h1 : j = i <;> by_cases h2 : j = e.2 <;> simp only [h1, h2, if_true, if_false]
  all_goals first | rfl | (split <;> first | rfl | simp_all)
theorem pBack1_none {e : Int × Int} (hc : N e.2 = none) : pBack1 i N e = N := by unfold pBack1; rw [hc]
theorem pBack1_dom {e : Int × Int} {j : Int} : (∃ k, pBack1 i N e j = some k) ↔ ∃ k, N j = some k := by
  cases hc : N e.2 with
  | none => rw [pBack1_none hc]
  | some c => unfold pBack1; rw [hc]; dsimp only; rw [md_dom, md_dom, md_dom]
theorem ins_length {e : Int × Int} {l : List (Int × Int)} : (ins e l).length = l.length + 1 := putAt_length _ _ _
theorem Cl.pBack1 {e : Int × Int} (C : Cl N) : Cl (pBack1 i N e) := by
  cases hc : N e.2 with
  | none => rw [pBack1_none hc]; exact C
  | some c =>
    intro j n hj
    obtain ⟨n₀, h₀⟩ := pBack1_dom.mp ⟨n, hj⟩
    rw [pBack1_get hc h₀] at hj
    cases hj
    obtain ⟨c1, c2⟩ := C j n₀ h₀
    refine ⟨fun d hd => pBack1_dom.mpr ?_, fun k hk => pBack1_dom.mpr (c2 k hk)⟩
    dsimp only at hd
    split at hd
    · rcases mem_putAt.mp hd with rfl | hd
      · exact ⟨c, hc⟩
      · exact c1 d hd
    · exact c1 d hd
theorem Cl.pBack : ∀ {l : List (Int × Int)} {N : ST}, Cl N → Cl (pBack N i l)
  | [], _, C => C
  | _ :: l, _, C => Cl.pBack (l := l) C.pBack1
theorem pBack_dom {j : Int} : ∀ {l : List (Int × Int)} {N : ST}, (∃ k, pBack N i l j = some k) ↔ ∃ k, N j = some k
  | [], _ => Iff.rfl
  | e :: l, N => (pBack_dom (l := l) (N := pBack1 i N e)).trans pBack1_dom
/-- how the queues' lengths go when items come back -/
theorem pBack_len : ∀ {l : List (Int × Int)} {N : ST}, (∀ e ∈ l, ∃ k, N e.2 = some k) → ∀ {j n}, N j = some n → ∃ n', pBack N i l j = some n' ∧ n'.q.length = n.q.length + (if j = i then l.length else 0) ∧ n'.act = n.act ∧ n'.sid = n.sid
  | [], _, _, j, n, h => ⟨n, h, by simp, rfl, rfl⟩
  | e :: l, N, hl, j, n, h => by
    obtain ⟨c, hc⟩ := hl e (.head _)
    obtain ⟨n', e1, e2, e3, e4⟩ := pBack_len (l := l) (N := Mine.pBack1 i N e) (fun d hd => pBack1_dom.mpr (hl d (.tail _ hd))) (pBack1_get (i := i) hc h)
    refine ⟨n', e1, e2.trans ?_, e3, e4⟩
    by_cases z : j = i
    · simp only [z, if_true, ins_length, List.length_cons]; omega
    · simp [z]
theorem Cl.popped (C : Cl N) {e : Int × Int} {r : List (Int × Int)} (h : N i = some n) (hq : n.q = e :: r) : Cl (md N i fun n => { n with q := r }) := fun j k hj => by
  obtain ⟨k₀, h₀⟩ := md_dom.mp ⟨k, hj⟩
  rw [md_get h₀] at hj
  cases hj
  obtain ⟨c1, c2⟩ := C j k₀ h₀
  by_cases z : j = i
  · subst z
    rw [h] at h₀; cases h₀
    rw [if_pos rfl]
    exact ⟨fun d hd => md_dom.mpr (c1 d (by rw [hq]; exact .tail _ hd)), fun d hd => md_dom.mpr (c2 d hd)⟩
  · rw [if_neg z]
    exact ⟨fun d hd => md_dom.mpr (c1 d hd), fun d hd => md_dom.mpr (c2 d hd)⟩
def Tame (rec : ST → Int → Option (Option Value × ST)) : Prop := ∀ N i r N', Cl N → rec N i = some (r, N') → Same N N' ∧ Cl N'
theorem schedL_tame {rec : ST → Int → Option (Option Value × ST)} (T : Tame rec) : ∀ (m : Nat) (N : ST) (pop : List (Int × Int)) (r : Option Value) (N' : ST), Cl N → (∀ e ∈ pop, ∃ k, N e.2 = some k) → schedL rec i m N pop = some (r, N') →
    (∀ j n, N j = some n → ∃ n', N' j = some n' ∧ n'.q.length = n.q.length + (if j = i then pop.length else 0) ∧ n'.act = n.act ∧ n'.sid = n.sid) ∧ Cl N'
  | 0, N, pop, r, N', C, hp, h => by cases h
  | m + 1, N, pop, r, N', C, hp, h => by
    unfold schedL at h
    cases hi : N i with
    | none => rw [hi] at h; cases h
    | some n =>
      rw [hi] at h; dsimp only at h
      cases hq : n.q with
      | nil =>
        rw [hq] at h; cases h
        exact ⟨fun j n hj => pBack_len hp hj, C.pBack⟩
      | cons e q =>
        rw [hq] at h; dsimp only at h
        have C₁ := C.popped hi hq
        have hp₁ : ∀ d ∈ pop ++ [e], ∃ k, (md N i fun n => { n with q := q }) d.2 = some k := fun d hd => md_dom.mpr (by
          rcases List.mem_append.mp hd with hd | hd
          · exact hp d hd
          · rw [List.mem_singleton.mp hd]; exact (C i n hi).1 e (by rw [hq]; exact .head _))
        have l₁ : ∀ j k, N j = some k → ∃ k', (md N i fun n => { n with q := q }) j = some k' ∧ k'.q.length + (if j = i then 1 else 0) = k.q.length ∧ k'.act = k.act ∧ k'.sid = k.sid := fun j k hj => by
          refine ⟨_, md_get hj, ?_, ?_, ?_⟩
          · by_cases z : j = i
            · subst z; rw [hi] at hj; cases hj; simp [hq]
            · simp [z]
          · split <;> rfl
          · split <;> rfl
        cases hc : (md N i fun n => { n with q := q }) e.2 with
        | none => rw [hc] at h; cases h
        | some c =>
          rw [hc] at h; dsimp only at h
          have fin : ∀ N₂, Same (md N i fun n => { n with q := q }) N₂ → ∀ j k, N j = some k → ∃ n', pBack N₂ i (pop ++ [e]) j = some n' ∧ n'.q.length = k.q.length + (if j = i then pop.length else 0) ∧ n'.act = k.act ∧ n'.sid = k.sid := fun N₂ S j k hj => by
            obtain ⟨k₁, a1, a2, a3, a4⟩ := l₁ j k hj
            obtain ⟨k₂, b1, b2, b3, b4⟩ := S j k₁ a1
            obtain ⟨k₃, d1, d2, d3, d4⟩ := pBack_len (i := i) (l := pop ++ [e]) (N := N₂) (fun d hd => by
              obtain ⟨x, hx⟩ := hp₁ d hd
              obtain ⟨y, hy, _⟩ := S _ _ hx
              exact ⟨y, hy⟩) b1
            refine ⟨k₃, d1, ?_, d3.trans (b3.trans a3), d4.trans (b4.trans a4)⟩
            by_cases z : j = i
            · simp only [z, if_true, List.length_append, List.length_singleton] at a2 d2 ⊢; omega
            · simp only [z, if_false] at a2 d2 ⊢; omega
          cases ha : c.act with
          | true =>
            rw [ha, if_pos rfl] at h; cases h
            exact ⟨fin _ fun j k hj => ⟨k, hj, rfl, rfl, rfl⟩, C₁.pBack⟩
          | false =>
            rw [ha, if_neg (by decide)] at h
            cases hr : rec (md N i fun n => { n with q := q }) e.2 with
            | none => rw [hr] at h; cases h
            | some x =>
              obtain ⟨o, N₂⟩ := x
              obtain ⟨S, C₂⟩ := T _ _ _ _ C₁ hr
              rw [hr] at h
              cases o with
              | some v => cases h; exact ⟨fin N₂ S, C₂.pBack⟩
              | none =>
                dsimp only at h
                obtain ⟨a, b⟩ := schedL_tame T m N₂ (pop ++ [e]) r N' C₂ (fun d hd => by
                  obtain ⟨x, hx⟩ := hp₁ d hd
                  obtain ⟨y, hy, _⟩ := S _ _ hx
                  exact ⟨y, hy⟩) h
                refine ⟨fun j k hj => ?_, b⟩
                obtain ⟨k₁, a1, a2, a3, a4⟩ := l₁ j k hj
                obtain ⟨k₂, b1, b2, b3, b4⟩ := S j k₁ a1
                obtain ⟨k₃, d1, d2, d3, d4⟩ := a j k₂ b1
                refine ⟨k₃, d1, ?_, d3.trans (b3.trans a3), d4.trans (b4.trans a4)⟩
                by_cases z : j = i
                · simp only [z, if_true, List.length_append, List.length_singleton] at a2 d2 ⊢; omega
                · simp only [z, if_false] at a2 d2 ⊢; omega
theorem sched_tame : ∀ d, Tame (sched d)
  | 0 => fun _ _ _ _ _ h => by cases h
  | d + 1 => fun N i r N' C h => by
    obtain ⟨a, b⟩ := schedL_tame (sched_tame d) 6000 N [] r N' C (fun _ h => by cases h) h
    exact ⟨fun j n hj => by obtain ⟨n', e1, e2, e3⟩ := a j n hj; exact ⟨n', e1, by simpa using e2, e3⟩, b⟩
end

/-! # Cg -/
set_option maxRecDepth 100000

section
variable {prog : Program} {w : World} {p : Program} {loose : List Str} {mean : ExcName → Option Value} {mg mb : Str → Option Value}
variable {A : Around} {B : Base} {fs : List (Env × LM)} {σ σ' : AH} {Q : Value → AH → Prop} {X : Value → Bool → AH → Prop}
variable {fe env : Env} {es : List Env} {u : Nat} {m : LM}
variable {G : Geo} {N : ST} {i : Int} {n : Node}
theorem Holds.tupOff (H : Holds G N σ) {t : Addr} {v : List Value} (h : σ t = some (.seq "tuple" v)) : ¬ foot G N t := fun ⟨j, k, e, f⟩ => by
  rcases f with rfl | rfl | rfl
  · rw [H.node _ _ e] at h; simp at h
  · rw [H.kid _ _ e] at h; simp at h
  · obtain ⟨_, h1, _⟩ := H.que _ _ e
    rw [h1] at h; simp at h
theorem All2.snoc {α β : Type} {R : α → β → Prop} {l : List α} {k : List β} {a : α} {b : β} (h : All2 R l k) (r : R a b) : All2 R (l ++ [a]) (k ++ [b]) := by
  induction h with
  | nil => exact .cons r .nil
  | cons r' _ ih => exact .cons r' ih
def SidOk (N : ST) : Prop := ∀ j n, N j = some n → n.sid ≠ .none
theorem SidOk.back1 {e : Int × Int} (S : SidOk N) : SidOk (pBack1 i N e) := fun j n hj => by
  cases hc : N e.2 with
  | none => rw [pBack1_none hc] at hj; exact S j n hj
  | some c =>
    obtain ⟨n₀, h₀⟩ := pBack1_dom.mp ⟨n, hj⟩
    rw [pBack1_get hc h₀] at hj
    cases hj
    exact S j n₀ h₀
theorem SidOk.back : ∀ {l : List (Int × Int)} {N : ST}, SidOk N → SidOk (pBack N i l)
  | [], _, S => S
  | _ :: l, _, S => SidOk.back (l := l) S.back1
theorem SidOk.pop {q : List (Int × Int)} (S : SidOk N) : SidOk (md N i fun n => { n with q := q }) := fun j n hj => by
  obtain ⟨n₀, h₀⟩ := md_dom.mp ⟨n, hj⟩
  rw [md_get h₀] at hj
  cases hj
  have := S j n₀ h₀
  split <;> exact this
theorem schedL_sid {rec : ST → Int → Option (Option Value × ST)} (T : ∀ N i r N', SidOk N → rec N i = some (r, N') → SidOk N' ∧ ∀ v, r = some v → v ≠ .none) : ∀ (m : Nat) (N : ST) (pop : List (Int × Int)) (r : Option Value) (N' : ST), SidOk N → schedL rec i m N pop = some (r, N') →
    SidOk N' ∧ ∀ v, r = some v → v ≠ .none
  | 0, N, pop, r, N', C, h => by cases h
  | m + 1, N, pop, r, N', C, h => by
    unfold schedL at h
    cases hi : N i with
    | none => rw [hi] at h; cases h
    | some n =>
      rw [hi] at h; dsimp only at h
      cases hq : n.q with
      | nil => rw [hq] at h; cases h; exact ⟨C.back, fun v e => by cases e⟩
      | cons e q =>
        rw [hq] at h; dsimp only at h
        have C₁ := C.pop (i := i) (q := q)
        cases hc : (md N i fun n => { n with q := q }) e.2 with
        | none => rw [hc] at h; cases h
        | some c =>
          rw [hc] at h; dsimp only at h
          cases ha : c.act with
          | true =>
            rw [ha, if_pos rfl] at h; cases h
            exact ⟨C₁.back, fun v e => by cases e; exact C₁ _ _ hc⟩
          | false =>
            rw [ha, if_neg (by decide)] at h
            cases hr : rec (md N i fun n => { n with q := q }) e.2 with
            | none => rw [hr] at h; cases h
            | some x =>
              obtain ⟨o, N₂⟩ := x
              obtain ⟨S, hv⟩ := T _ _ _ _ C₁ hr
              rw [hr] at h
              cases o with
              | some v => cases h; exact ⟨S.back, fun v' e => by cases e; exact hv _ rfl⟩
              | none => exact schedL_sid T m N₂ (pop ++ [e]) r N' S h
theorem sched_sid : ∀ d (N : ST) (i : Int) (r : Option Value) (N' : ST), SidOk N → sched d N i = some (r, N') → SidOk N' ∧ ∀ v, r = some v → v ≠ .none
  | 0, _, _, _, _, _, h => by cases h
  | d + 1, N, i, r, N', C, h => schedL_sid (sched_sid d) 6000 N [] r N' C h
theorem Holds.sidOk (H : Holds G N σ) : SidOk N := fun j n hj q => by
  have := H.sid _ _ hj
  rw [q] at this; cases this
theorem Cl.keep (C : Cl N) {f : Node → Node} (h : ∀ n, (f n).q = n.q ∧ (f n).kids = n.kids) : Cl (md N i f) := fun j n hj => by
  obtain ⟨n₀, h₀⟩ := md_dom.mp ⟨n, hj⟩
  rw [md_get h₀] at hj
  cases hj
  obtain ⟨c1, c2⟩ := C j n₀ h₀
  have e : (if j = i then f n₀ else n₀).q = n₀.q ∧ (if j = i then f n₀ else n₀).kids = n₀.kids := by split <;> simp [h]
  rw [e.1, e.2]
  exact ⟨fun d hd => md_dom.mpr (c1 d hd), fun k hk => md_dom.mpr (c2 k hk)⟩
set_option maxHeartbeats 4000000 in
theorem k_sched : ∀ (d : Nat) {A : Around} {B : Base} {fs : List (Env × LM)} {σ : AH} {Q : Value → AH → Prop} {X : Value → Bool → AH → Prop} {N : ST} {i : Int} {n : Node} {r : Option Value} {N' : ST},
    Ok (mkW prog w p loose mean mg mb) A B (fs.map (·.1)) 0 → fs.length + d < 52 → Holds G N σ → Cl N → A.handled = none → N i = some n → n.act = false → sched d N i = some (r, N') →
    (∀ σ' v, St G N σ G N' σ' → r = some v → Q v σ') → (∀ σ', St G N σ G N' σ' → r = none → X (.type "IndexError") false σ') → CallR (mkW prog w p loose mean mg mb) A B fs (.ref a_S_schedule) [.ref (G.ad i)] [] σ Q X := by
  intro d
  induction d with
  | zero => intro A B fs σ Q X N i n r N' O hsh H C hA hn hact hs; cases hs
  | succ d ih =>
  intro A B fs σ Q X N i n r N' O hsh H C hA hn hact hs hq hx
  refine CallR.go O (by omega) (by rfl) (by kernel_rfl) (binds1 (p1 := "self") (by intro _; rfl)) rfl fun L A' O' hA' => ?_
  have Hd : HdOk A' B := .inl (hA'.trans hA)
  walk_at "ss"
  refine gn_active O' H hn ?_
  rw [hact]
  refine op_truthy_bool ⟨rfl, ?_⟩
  walk_at "ss"
  refine ⟨by simp, fun pl hpl => ?_⟩
  walk_at "ss"
  have Hb : ∀ b, ¬ foot G N b → ∀ M : ST, (∀ j k, M j = some k → ∃ k', N j = some k') → ¬ foot G M b := fun b nf M h f => nf (foot_dom h f)
  refine t_Fin O' Hd
    (fun z m' σ' => m' "self" = some (.ref (G.ad i)) ∧ m' "popped_streams" = some (.ref pl) ∧ (match z with | .inl f => f = .next ∧ ∃ v, r = some v ∧ m' "next_stream" = some v | .inr cls => cls = .type "IndexError" ∧ r = none) ∧
      ∃ Np pop ts, pBack Np i pop = N' ∧ St G N σ G Np σ' ∧ (∀ j k, N j = some k → ∃ k', Np j = some k') ∧ Cl Np ∧ (∃ np, Np i = some np ∧ np.q.length + pop.length ≤ 5000) ∧ (∀ e ∈ pop, ∃ k, Np e.2 = some k) ∧ ¬ foot G Np pl ∧ σ' pl = some (.seq "list" (ts.map .ref)) ∧
        All2 (fun t (e : Int × Int) => σ' t = some (.seq "tuple" [.int e.1 0, .ref (G.ad e.2)])) ts pop)
    (fun z m' σ' => (match z with | .inl f => f = .next ∧ ∃ v, r = some v ∧ m' "next_stream" = some v | .inr cls => cls = .type "IndexError" ∧ r = none) ∧ St G N σ G N' σ') ?_ ?_ ?_ ?_
  · walk_at "ss"
    refine t_Wh O' (fun z m' σ' => m' "self" = some (.ref (G.ad i)) ∧ m' "popped_streams" = some (.ref pl) ∧ ∃ Np pop ts, St G N σ G Np σ' ∧ (∀ j k, N j = some k → ∃ k', Np j = some k') ∧ Cl Np ∧ (∃ np, Np i = some np ∧ np.q.length + pop.length ≤ 5000) ∧ (∀ e ∈ pop, ∃ k, Np e.2 = some k) ∧ ¬ foot G Np pl ∧ σ' pl = some (.seq "list" (ts.map .ref)) ∧
        All2 (fun t (e : Int × Int) => σ' t = some (.seq "tuple" [.int e.1 0, .ref (G.ad e.2)])) ts pop ∧
        ∃ v, m' "next_stream" = some v ∧ ((v = .none ∧ schedL (sched d) i z Np pop = some (r, N')) ∨ (v ≠ .none ∧ r = some v ∧ pBack Np i pop = N'))) 6000 ?_ ?_
    · refine ⟨rfl, rfl, N, [], [], St.more H fun b c e => (upd_ne _ _ fun z => by rw [z, hpl] at e; cases e).trans e, fun j k e => ⟨k, e⟩, C, ⟨n, hn, by have := (H.sz _ _ hn).2; simpa using this⟩, (fun _ h => by cases h), H.off hpl, upd_self _ _ _, .nil, .none, rfl, .inl ⟨rfl, hs⟩⟩
    rintro z m' σ' ⟨hm1, hm2, Np, pop, ts, S, hdm, Cp, ⟨np, hnp, hlen⟩, hdom, hoff, hplc, htup, v, hm3, hv⟩
    walk_at "ss"
    refine op_is_none (op_truthy_bool ⟨fun hb => ?_, fun hb => ?_⟩)
    · have hv0 : v = .none := by simpa using hb
      subst hv0
      obtain ⟨-, hv⟩ := hv.resolve_right fun q => q.1 rfl
      obtain ⟨z, rfl⟩ : ∃ k, z = k + 1 := by
        cases z with
        | zero => cases hv
        | succ k => exact ⟨k, rfl⟩
      unfold schedL at hv
      rw [hnp] at hv; dsimp only at hv
      walk_at "ss"
      refine gn_child_queue O' S.1 hnp ?_
      walk_at "ss"
      obtain ⟨rs, hq1, hq2⟩ := S.1.que _ _ hnp
      cases hqq : np.q with
      | nil =>
        rw [hqq] at hv hq2; cases hq2
        dsimp only at hv; cases hv
        refine (k_pop_none O'.less (by simp; omega) (hA'.trans hA) hq1 ?_).w
        exact ⟨rfl, hm1, hm2, ⟨rfl, rfl⟩, Np, pop, ts, rfl, S, hdm, Cp, ⟨np, hnp, hlen⟩, hdom, hoff, hplc, htup⟩
      | cons e q =>
        rw [hqq] at hv hq2 hlen
        dsimp only at hv
        simp only [List.length_cons] at hlen
        cases hq2 with
        | @cons t _ rs _ ht hq2 =>
        have hrl := All2.length hq2
        refine (k_pop O'.less (by simp; omega) hq1 (by omega) ?_).w
        have S₁ := St.que S.1 hnp hq2 (by omega)
        have eN₁ : upd Np i (some { np with q := q }) = md Np i fun n => { n with q := q } := (md_some (f := fun n => { n with q := q }) hnp).symm
        rw [eN₁] at S₁
        generalize hN₁ : (md Np i fun n => { n with q := q }) = N₁ at S₁ hv
        have d₁ : ∀ j k, Np j = some k → ∃ k', N₁ j = some k' := fun j k e => by rw [← hN₁]; exact md_dom.mpr ⟨k, e⟩
        have d₁' : ∀ j k, N₁ j = some k → ∃ k', Np j = some k' := fun j k e => by rw [← hN₁] at e; exact md_dom.mp ⟨k, e⟩
        have C₁ : Cl N₁ := by rw [← hN₁]; exact Cp.popped hnp hqq
        have hn₁ : N₁ i = some { np with q := q } := by rw [← hN₁]; exact md_self hnp
        have oth : ∀ b, b ≠ G.qu i → upd σ' (G.qu i) (some (.seq "list" (rs.map .ref))) b = σ' b := fun b z => upd_ne _ _ z
        have notq : ∀ b v, σ' b = some (.seq "tuple" v) → b ≠ G.qu i := fun b v e z => by rw [z, hq1] at e; simp at e
        have plq : pl ≠ G.qu i := fun z => hoff ⟨i, np, hnp, .inr (.inr z)⟩
        generalize hσ₁ : upd σ' (G.qu i) (some (.seq "list" (rs.map .ref))) = σ₁ at S₁ oth ⊢
        have hpl₁ : σ₁ pl = some (.seq "list" (ts.map .ref)) := (oth _ plq).trans hplc
        have htup₁ : All2 (fun t (e : Int × Int) => σ₁ t = some (.seq "tuple" [.int e.1 0, .ref (G.ad e.2)])) ts pop := htup.imp fun t e r => (oth _ (notq _ _ r)).trans r
        have ht₁ : σ₁ t = some (.seq "tuple" [.int e.1 0, .ref (G.ad e.2)]) := (oth _ (notq _ _ ht)).trans ht
        have hoff₁ : ¬ foot G N₁ pl := fun f => hoff (foot_dom d₁' f)
        have htl := All2.length htup
        walk_at "ss"
        refine op_methList PySem.F.slot_list_append PySem.F.type_list_append hpl₁ ?_
        walk_at "ss"
        refine call_append (v := .ref t) hpl₁ (by simp; omega) ?_
        refine ⟨trivial, ?_⟩
        have SS := S.trans S₁ hdm
        have S₂ : St G N σ G N₁ (upd σ₁ pl (some (.seq "list" (ts.map .ref ++ [.ref t])))) :=
          ⟨S₁.1.outUpd hoff₁ ⟨_, hpl₁⟩, ⟨fun b c e nf => (upd_ne _ _ fun z => by rw [z, hpl] at e; cases e).trans (SS.2.1.1 b c e nf), SS.2.1.2⟩, SS.2.2⟩
        have npl : ∀ b v, σ₁ b = some (.seq "tuple" v) → b ≠ pl := fun b v e z => by rw [z, hpl₁] at e; simp at e
        have hpl₂ : (upd σ₁ pl (some (.seq "list" (ts.map .ref ++ [.ref t])))) pl = some (.seq "list" ((ts ++ [t]).map .ref)) := by rw [upd_self]; simp
        have htup₂ : All2 (fun t' (e : Int × Int) => (upd σ₁ pl (some (.seq "list" (ts.map .ref ++ [.ref t])))) t' = some (.seq "tuple" [.int e.1 0, .ref (G.ad e.2)])) (ts ++ [t]) (pop ++ [e]) :=
          (htup₁.snoc ht₁).imp fun b d r => (upd_ne _ _ (npl _ _ r)).trans r
        generalize (upd σ₁ pl (some (.seq "list" (ts.map .ref ++ [.ref t])))) = σ₂ at S₂ hpl₂ htup₂ ⊢
        have ht₂ : σ₂ t = some (.seq "tuple" [.int e.1 0, .ref (G.ad e.2)]) := by
          obtain ⟨a, ha, r⟩ := htup₂.get (i := pop.length) (b := e) (by simp)
          have : a = t := by
            have h1 : (ts ++ [t])[pop.length]? = some t := by rw [← htl]; simp
            rw [h1] at ha; exact (Option.some.inj ha).symm
          rw [← this]; exact r
        obtain ⟨c₀, hc₀⟩ := (Cp _ _ hnp).1 e (by rw [hqq]; exact .head _)
        obtain ⟨c, hc⟩ := d₁ _ _ hc₀
        rw [hc] at hv; dsimp only at hv
        have hdm₁ : ∀ j k, N j = some k → ∃ k', N₁ j = some k' := fun j k e => by obtain ⟨k', e'⟩ := hdm j k e; exact d₁ _ _ e'
        have hdom₁ : ∀ d ∈ pop ++ [e], ∃ k, N₁ d.2 = some k := fun d hd => by
          rcases List.mem_append.mp hd with hd | hd
          · obtain ⟨k, hk⟩ := hdom d hd; exact d₁ _ _ hk
          · rw [List.mem_singleton.mp hd]; exact ⟨c, hc⟩
        walk_at "ss"
        intro x hx
        refine t_asPair Hd hx ht₂ fun x y hx' hy' => ?_
        walk_at "ss"
        refine gn_active O' S₂.1 hc ?_
        refine op_truthy_bool ⟨fun ha => ?_, fun ha => ?_⟩
        · rw [ha, if_pos rfl] at hv; cases hv
          walk_at "ss"
          refine gn_stream_id O' S₂.1 hc ?_
          walk_at "ss"
          refine ⟨0, by omega, ?_, ?_, N₁, pop ++ [e], ts ++ [t], S₂, hdm₁, C₁, ⟨_, hn₁, by simp; omega⟩, hdom₁, hoff₁, hpl₂, htup₂, c.sid, upd_self _ _ _, .inr ⟨?_, rfl, rfl⟩⟩
          · repeat (refine (upd_ne _ _ (by decide)).trans ?_)
            exact hm1
          · repeat (refine (upd_ne _ _ (by decide)).trans ?_)
            exact hm2
          · intro q
            have := S₂.1.sid _ _ hc
            rw [q] at this; cases this
        · rw [ha, if_neg (by decide)] at hv
          walk_at "ss"
          refine t_Exc O' ?_ fun _ _ q => q
          walk_at "ss"
          refine gm_S (g := a_S_schedule) O' S₂.1 hc (by simp +decide [nodeF]) (by kernel_rfl) (by kernel_rfl) ?_
          walk_at "ss"
          cases hrec : sched d N₁ e.2 with
          | none => rw [hrec] at hv; cases hv
          | some z' =>
          obtain ⟨r', N₂⟩ := z'
          rw [hrec] at hv
          obtain ⟨Sm, C₂⟩ := sched_tame d _ _ _ _ C₁ hrec
          have hdm₂ : ∀ j k, N₁ j = some k → ∃ k', N₂ j = some k' := fun j k e => by obtain ⟨k', e', _⟩ := Sm j k e; exact ⟨k', e'⟩
          have hdm₃ : ∀ j k, N j = some k → ∃ k', N₂ j = some k' := fun j k e => by obtain ⟨k', e'⟩ := hdm₁ j k e; exact hdm₂ _ _ e'
          have hdom₂ : ∀ d ∈ pop ++ [e], ∃ k, N₂ d.2 = some k := fun d hd => by obtain ⟨k, hk⟩ := hdom₁ d hd; exact hdm₂ _ _ hk
          obtain ⟨n₂, hn₂, hl₂, _⟩ := Sm _ _ hn₁
          dsimp only at hl₂
          have all : ∀ σ₃, St G N₁ σ₂ G N₂ σ₃ → St G N σ G N₂ σ₃ ∧ ¬ foot G N₂ pl ∧ σ₃ pl = some (.seq "list" ((ts ++ [t]).map .ref)) ∧ All2 (fun t (e : Int × Int) => σ₃ t = some (.seq "tuple" [.int e.1 0, .ref (G.ad e.2)])) (ts ++ [t]) (pop ++ [e]) := fun σ₃ S₃ => by
            have o := (show Out G N₁ σ₂ pl _ from ⟨hpl₂, hoff₁⟩).step S₃
            exact ⟨S₂.trans S₃ hdm₁, o.2, o.1, htup₂.imp fun b d r => S₃.2.1.1 _ _ r (S₂.1.tupOff r)⟩
          refine (ih (fs := (_, _) :: fs) O'.less (by simp; omega) S₂.1 C₁ (hA'.trans hA) hc ha hrec (fun σ₃ v S₃ hr => ?_) (fun σ₃ S₃ hr => ?_)).w
          · subst hr
            dsimp only at hv; cases hv
            obtain ⟨b1, b2, b3, b4⟩ := all σ₃ S₃
            walk_at "ss"
            refine ⟨0, by omega, ?_, ?_, N₂, pop ++ [e], ts ++ [t], b1, hdm₃, C₂, ⟨_, hn₂, by simp; omega⟩, hdom₂, b2, b3, b4, v, upd_self _ _ _, .inr ⟨?_, rfl, rfl⟩⟩
            · repeat (refine (upd_ne _ _ (by decide)).trans ?_)
              exact hm1
            · repeat (refine (upd_ne _ _ (by decide)).trans ?_)
              exact hm2
            · exact (sched_sid d _ _ _ _ S₂.1.sidOk hrec).2 _ rfl
          · subst hr
            dsimp only at hv
            obtain ⟨b1, b2, b3, b4⟩ := all σ₃ S₃
            refine hit_IndexError O'.g (by kernel_rfl) (by kernel_rfl) (by kernel_rfl) fun A₃ B₃ hB₃ hO₃ hH₃ => ?_
            have O₃ := hO₃ _ _ O'
            walk_at "ss"
            refine ⟨z, by omega, ?_, ?_, N₂, pop ++ [e], ts ++ [t], b1, hdm₃, C₂, ⟨_, hn₂, by simp; omega⟩, hdom₂, b2, b3, b4, .none, ?_, .inl ⟨rfl, hv⟩⟩
            · repeat (refine (upd_ne _ _ (by decide)).trans ?_)
              exact hm1
            · repeat (refine (upd_ne _ _ (by decide)).trans ?_)
              exact hm2
            · repeat (refine (upd_ne _ _ (by decide)).trans ?_)
              exact hm3
    · have hv0 : v ≠ .none := by simpa using hb
      obtain ⟨-, hr, hback⟩ := hv.resolve_left fun q => hv0 q.1
      walk_at "ss"
      exact ⟨hm1, hm2, ⟨rfl, v, hr, hm3⟩, Np, pop, ts, hback, S, hdm, Cp, ⟨np, hnp, hlen⟩, hdom, hoff, hplc, htup⟩
  · rintro A₂ B₂ hB hO Hd₂ z m₁ σ₁ ⟨hm1, hm2, hz, Np, pop, ts, hback, S, hdm, Cp, ⟨np, hnp, hlen⟩, hdom, hoff, hplc, htup⟩
    have O₂ := hO _ _ O'
    walk_at "ss"
    refine t_ForL O₂ Hd₂ ?_
    walk_at "ss"
    have hmap : ts.map Value.ref = ts.map Value.ref := rfl
    refine ⟨pl, ts.map .ref, rfl, fun k m' σ' => m' "self" = some (.ref (G.ad i)) ∧ m' "next_stream" = m₁ "next_stream" ∧ St G Np σ₁ G (pBack Np i (pop.take k)) σ' ∧ σ' pl = some (.seq "list" (ts.map .ref)), ⟨hm1, rfl, .refl S.1, hplc⟩, fun k m' σ' hI => hI.2.2.2, fun m' σ' hI => ?_, fun B' hB' k m' σ' v hI hv r' hr' => ?_⟩
    · have := hI.2.2.1
      rw [show (ts.map Value.ref).length = pop.length by simpa using All2.length htup, List.take_length, hback] at this
      walk_at "ss"
      refine ⟨rfl, ?_, S.trans this fun j k e => ?_⟩
      · cases z with
        | inl f => obtain ⟨hf, v, hv, hm⟩ := hz; exact ⟨hf, v, hv, hI.2.1.trans hm⟩
        | inr c => exact hz
      · exact hdm j k e
    · obtain ⟨hm1, hm2', S', hplc'⟩ := hI
      have O₃ := O₂.le hB'
      have Hd₃ := Hd₂.le hB'
      obtain ⟨t, ht, rfl⟩ : ∃ t, ts[k]? = some t ∧ v = .ref t := by
        rw [List.getElem?_map] at hv
        obtain ⟨t, ht, e⟩ := Option.map_eq_some_iff.mp hv
        exact ⟨t, ht, e.symm⟩
      have hk : k < pop.length := by
        have := (List.getElem?_eq_some_iff.mp ht).1
        rw [All2.length htup] at this; exact this
      obtain ⟨t', ht', htt⟩ := htup.get (List.getElem?_eq_getElem hk)
      rw [ht] at ht'; cases ht'
      obtain ⟨e, he⟩ : ∃ e, e = pop[k] := ⟨_, rfl⟩
      rw [← he] at htt
      have ht₂ := S'.2.1.1 _ _ htt (S.1.tupOff htt)
      have Nk : ST := pBack Np i (pop.take k)
      obtain ⟨c₀, hc₀⟩ := hdom e (by rw [he]; exact List.getElem_mem hk)
      obtain ⟨c, hc⟩ := pBack_dom (i := i) (l := pop.take k) |>.mpr ⟨c₀, hc₀⟩
      obtain ⟨nk, hnk, hlk, _⟩ := pBack_len (i := i) (l := pop.take k) (fun d hd => hdom d (List.mem_of_mem_take hd)) hnp
      have et : pop.take (k + 1) = pop.take k ++ [e] := by rw [List.take_add_one, List.getElem?_eq_getElem hk, he]; rfl
      refine t_asPair Hd₃ hr' ht₂ fun x y hx hy => ?_
      walk_at "ss"
      refine sn_last_weight O₃ S'.1 hnk fun σ₂ S₂ => ?_
      rw [show upd (pBack Np i (pop.take k)) i (some { nk with last := e.1 }) = md (pBack Np i (pop.take k)) i fun n => { n with last := e.1 } from (md_some (f := fun n => { n with last := e.1 }) hnk).symm] at S₂
      have hc₂ := md_get (i := i) (f := fun n => { n with last := e.1 }) hc
      have e₂ : ∃ c₂, md (pBack Np i (pop.take k)) i (fun n => { n with last := e.1 }) e.2 = some c₂ ∧ c₂.df = c.df ∧ c₂.w = c.w := ⟨_, hc₂, by split <;> rfl, by split <;> rfl⟩
      obtain ⟨c₂, hc₂, hdf, hw⟩ := e₂
      have hwn : wnum c₂ = wnum c := by unfold wnum; rw [hw]
      obtain ⟨w1, w2, w3⟩ := S₂.1.wnum hc₂
      walk_at "ss"
      refine gn_deficit O₃ S₂.1 hc₂ ?_
      refine op_add ?_
      walk_at "ss"
      refine gp_weight O₃ (by omega) S₂.1 hc₂ ?_
      refine op_floordivN rfl w1 (by omega) (by omega) ?_
      refine op_iadd ?_
      walk_at "ss"
      refine gn_deficit O₃ S₂.1 hc₂ ?_
      refine op_add ?_
      walk_at "ss"
      refine gp_weight O₃ (by omega) S₂.1 hc₂ ?_
      refine op_modN rfl w1 (by omega) ?_
      walk_at "ss"
      refine sn_deficit O₃ S₂.1 hc₂ fun σ₃ S₃ => ?_
      rw [hdf, hwn] at S₃ ⊢
      have eN₃ : upd (md (pBack Np i (pop.take k)) i fun n => { n with last := e.1 }) e.2 (some { c₂ with df := (256 + c.df) % wnum c }) = md (md (pBack Np i (pop.take k)) i fun n => { n with last := e.1 }) e.2 fun n => { n with df := (256 + c.df) % wnum c } := (md_some (f := fun n => { n with df := (256 + c.df) % wnum c }) hc₂).symm
      rw [eN₃] at S₃
      obtain ⟨n₃, hn₃, hq₃⟩ : ∃ n₃, (md (md (pBack Np i (pop.take k)) i fun n => { n with last := e.1 }) e.2 fun n => { n with df := (256 + c.df) % wnum c }) i = some n₃ ∧ n₃.q = nk.q :=
        ⟨_, md_get (md_get hnk), by split <;> simp⟩
      obtain ⟨c₃, hc₃⟩ : ∃ c₃, (md (md (pBack Np i (pop.take k)) i fun n => { n with last := e.1 }) e.2 fun n => { n with df := (256 + c.df) % wnum c }) e.2 = some c₃ := ⟨_, md_self hc₂⟩
      have eB : pBack Np i (pop.take k ++ [e]) = md (md (md (pBack Np i (pop.take k)) i fun n => { n with last := e.1 }) e.2 fun n => { n with df := (256 + c.df) % wnum c }) i fun n => { n with q := ins (e.1 + (256 + c.df) / wnum c, e.2) n.q } := by
        rw [pBack_snoc]; unfold pBack1; rw [hc]
      have C₃ : Cl (md (md (pBack Np i (pop.take k)) i fun n => { n with last := e.1 }) e.2 fun n => { n with df := (256 + c.df) % wnum c }) := Cl.keep (f := fun n => { n with df := (256 + c.df) % wnum c }) (Cl.keep (f := fun n => { n with last := e.1 }) (Cp.pBack (i := i) (l := pop.take k)) fun n => ⟨rfl, rfl⟩) fun n => ⟨rfl, rfl⟩
      have dd : ∀ j x, pBack Np i (pop.take k) j = some x → ∃ x', (md (md (pBack Np i (pop.take k)) i fun n => { n with last := e.1 }) e.2 fun n => { n with df := (256 + c.df) % wnum c }) j = some x' := fun j x h => md_dom.mpr (md_dom.mpr ⟨x, h⟩)
      have S₄ := (S'.trans S₂ fun j x h => pBack_dom.mpr ⟨x, h⟩).trans S₃ fun j x h => md_dom.mpr (pBack_dom.mpr ⟨x, h⟩)
      generalize (md (md (pBack Np i (pop.take k)) i fun n => { n with last := e.1 }) e.2 fun n => { n with df := (256 + c.df) % wnum c }) = N₃ at S₃ S₄ hn₃ hc₃ eB C₃ dd
      walk_at "ss"
      refine gn_child_queue O₃ S₄.1 hn₃ ?_
      walk_at "ss"
      refine ⟨by simp, fun t' ht' => ?_⟩
      have fr : ∀ b d, σ₃ b = some d → upd σ₃ t' (some (.seq "tuple" [.int (e.1 + (256 + c.df) / wnum c) 0, .ref (G.ad e.2)])) b = some d := fun b d e => (upd_ne _ _ fun z => by rw [z, ht'] at e; cases e).trans e
      have S₅ := St.more S₄.1 fr
      have ht₅ : upd σ₃ t' (some (.seq "tuple" [.int (e.1 + (256 + c.df) / wnum c) 0, .ref (G.ad e.2)])) t' = some (.seq "tuple" [.int (e.1 + (256 + c.df) / wnum c) 0, .ref (G.ad e.2)]) := upd_self _ _ _
      generalize upd σ₃ t' (some (.seq "tuple" [.int (e.1 + (256 + c.df) / wnum c) 0, .ref (G.ad e.2)])) = σ₄ at S₅ ht₅ fr ⊢
      obtain ⟨rs, hr1, hr2⟩ := S₅.1.que _ _ hn₃
      walk_at "ss"
      have hql : n₃.q.length < 5000 := by
        rw [hq₃, hlk, if_pos rfl, List.length_take]; omega
      refine (k_push (t := t') (e := (e.1 + (256 + c.df) / wnum c, e.2)) (es := n₃.q) O₃.less (by simp; omega) hr1 (S₅.1.tup ht₅ hc₃) (hr2.memR fun t d hd r => ?_) (by omega) ?_).w
      · obtain ⟨x, hx⟩ := (C₃ _ _ hn₃).1 d hd
        exact S₅.1.tup r hx
      · refine ⟨trivial, ?_⟩
        walk_at "ss"
        have S₆ := St.que S₅.1 hn₃ (q := ins (e.1 + (256 + c.df) / wnum c, e.2) n₃.q) (All2.putAt hr2 ht₅ _) (by rw [ins_length]; omega)
        rw [show upd N₃ i (some { n₃ with q := ins (e.1 + (256 + c.df) / wnum c, e.2) n₃.q }) = md N₃ i fun n => { n with q := ins (e.1 + (256 + c.df) / wnum c, e.2) n.q } from (md_some (f := fun n => { n with q := ins (e.1 + (256 + c.df) / wnum c, e.2) n.q }) hn₃).symm, ← eB, ← et] at S₆
        have dN : ∀ j x, Np j = some x → ∃ x', N₃ j = some x' := fun j x h => by obtain ⟨y, hy⟩ := pBack_dom (i := i) (l := pop.take k) |>.mpr ⟨x, h⟩; exact dd _ _ hy
        have S₇ := (S₄.trans S₅ dN).trans S₆ dN
        refine ⟨?_, ?_, S₇, ?_⟩
        · repeat (refine (upd_ne _ _ (by decide)).trans ?_)
          exact hm1
        · repeat (refine (upd_ne _ _ (by decide)).trans ?_)
          exact hm2'
        · exact S₇.2.1.1 _ _ hplc hoff
  · rintro f m' σ' ⟨⟨rfl, v, hv, hm⟩, S⟩
    walk_at "ss"
    exact hq _ _ S hv
  · rintro cls m' σ' ⟨⟨rfl, hr⟩, S⟩
    exact hx _ S hr
end

/-! # Ch -/
set_option maxRecDepth 100000

section
variable {prog : Program} {w : World} {p : Program} {loose : List Str} {mean : ExcName → Option Value} {mg mb : Str → Option Value}
variable {A : Around} {B : Base} {fs : List (Env × LM)} {σ σ' : AH} {Q : Value → AH → Prop} {X : Value → Bool → AH → Prop}
variable {fe env : Env} {es : List Env} {u : Nat} {m : LM}
variable {G : Geo} {N : ST} {i : Int} {n : Node}
theorem ce_own {x : Str} {C : Addr} {msg : Value} {Q : Value → AH → Prop} {X} (O : Ok (mkW prog w p loose mean mg mb) A B es u) (ex : nsIn (mkW prog w p loose mean mg mb).K mainGlobals x = some (some (.ref C)))
    (q : excIn (mkW prog w p loose mean mg mb).K C [.type "Exception", .type "BaseException", .type "object"] "Exception.__new__" = true) (h : ∀ e, σ e = none → Q (.ref e) (upd σ e (some (.exc (.ref C) false false)))) :
    CallW (mkW prog w p loose mean mg mb) A B fs (.ref C) [msg] [] σ Q X := call_exc O ex q PySem.F.excBase_Exception (by simp) h
/-- a number that is a weight -/
def Wt (v : Value) : Prop := ∃ k, nv v = some k ∧ 1 ≤ k ∧ k ≤ 256
theorem k_set_weight {x : Addr} {f : LM} {k : Nat} {v : Value} (O : Ok (mkW prog w p loose mean mg mb) A B (fs.map (·.1)) 0) (hsh : fs.length < 59) (hσ : σ x = some (.inst c_Stream f k)) (hk : k < 1000) (hv : Wt v) (he : er v = v)
    (h : Q .none (upd σ x (some (.inst c_Stream (upd f "_weight" (some v)) (if (f "_weight").isSome then k else k + 1))))) : CallR (mkW prog w p loose mean mg mb) A B fs (.ref a_S_weight_set) [.ref x, v] [] σ Q X := by
  obtain ⟨w₀, hn, h1, h2⟩ := hv
  refine CallR.go O (by omega) (by rfl) (by kernel_rfl) (binds2 (p1 := "self") (p2 := "value") (by intro _ _; rfl)) rfl fun L A' O' hA' => ?_
  walk_at "ss"
  have isi : ∀ {fs : List (Env × LM)} {Q : Value → AH → Prop} {X}, Q (.bool true) σ → CallW (mkW prog w p loose mean mg mb) A' B fs (.builtin "isinstance") [v, .type "int"] [] σ Q X := fun q => by
    cases v with
    | int i t =>
      obtain rfl : t = 0 := by injection he with _ he; exact he.symm
      exact call_isiInt q
    | bool b => exact call_isiBool PySem.F.isi_meta_int isi_sub_bool_int q
    | _ => cases hn
  refine isi ?_
  refine op_truthy_bool (ch_f ?_)
  walk_at "ss"
  refine op_leN (a := 1) rfl hn (by rintro c d ⟨q, -⟩; cases q) (op_truthy_bool ⟨fun _ => ?_, fun c => by simp at c; omega⟩)
  walk_at "ss"
  refine op_leN hn (b := 256) rfl (by rintro c d ⟨-, q⟩; cases q) (op_truthy_bool ?_)
  rw [show (!decide (w₀ ≤ 256)) = false by simpa using h2]
  refine ch_f ?_
  walk_at "ss"
  refine s_S O' hσ (by kernel_rfl) hk ?_
  walk_at "ss"
  exact h
theorem k_set_weight_bad {x : Addr} {v : Value} (O : Ok (mkW prog w p loose mean mg mb) A B (fs.map (·.1)) 0) (hsh : fs.length < 59) (Hd : HdOk A B) (hv : (∃ s, v = .str s 0) ∨ ((∃ k, nv v = some k ∧ ¬ (1 ≤ k ∧ k ≤ 256)) ∧ er v = v))
    (h : ∀ ctx, (A.handled = none → ctx = false) → X (.ref c_BadWeightError) ctx σ) : CallR (mkW prog w p loose mean mg mb) A B fs (.ref a_S_weight_set) [.ref x, v] [] σ Q X := by
  refine CallR.go O (by omega) (by rfl) (by kernel_rfl) (binds2 (p1 := "self") (p2 := "value") (by intro _ _; rfl)) rfl fun L A' O' hA' => ?_
  walk_at "ss"
  rcases hv with ⟨s, rfl⟩ | ⟨⟨w₀, hn, hb⟩, he⟩
  · refine call_isiStr ?_
    refine op_truthy_bool (ch_t ?_)
    walk_at "ss"
    refine t_Raise O' (Hd.same hA') ?_
    walk_at "ss"
    refine ce_own (x := "BadWeightError") O' (by kernel_rfl) (by kernel_rfl) fun e he => ?_
    exact ⟨e, _, σ, rfl, he, rfl, ⟨by kernel_rfl, by kernel_rfl⟩, fun ctx hc => h ctx fun q => hc (hA'.trans q)⟩
  · have isi : ∀ {fs : List (Env × LM)} {Q : Value → AH → Prop} {X}, Q (.bool true) σ → CallW (mkW prog w p loose mean mg mb) A' B fs (.builtin "isinstance") [v, .type "int"] [] σ Q X := fun q => by
      cases v with
      | int i t =>
        obtain rfl : t = 0 := by injection he with _ he; exact he.symm
        exact call_isiInt q
      | bool b => exact call_isiBool PySem.F.isi_meta_int isi_sub_bool_int q
      | _ => cases hn
    refine isi ?_
    refine op_truthy_bool (ch_f ?_)
    walk_at "ss"
    refine op_leN (a := 1) rfl hn (by rintro c d ⟨q, -⟩; cases q) (op_truthy_bool ⟨fun c => ?_, fun c => ?_⟩)
    · walk_at "ss"
      refine op_leN hn (b := 256) rfl (by rintro c d ⟨-, q⟩; cases q) (op_truthy_bool ?_)
      rw [show (!decide (w₀ ≤ 256)) = true by simp at c ⊢; omega]
      refine ch_t ?_
      walk_at "ss"
      refine t_Raise O' (Hd.same hA') ?_
      walk_at "ss"
      refine ce_own (x := "BadWeightError") O' (by kernel_rfl) (by kernel_rfl) fun e he => ?_
      exact ⟨e, _, σ, rfl, he, rfl, ⟨by kernel_rfl, by kernel_rfl⟩, fun ctx hc => h ctx fun q => hc (hA'.trans q)⟩
    · refine ch_t ?_
      walk_at "ss"
      refine t_Raise O' (Hd.same hA') ?_
      walk_at "ss"
      refine ce_own (x := "BadWeightError") O' (by kernel_rfl) (by kernel_rfl) fun e he => ?_
      exact ⟨e, _, σ, rfl, he, rfl, ⟨by kernel_rfl, by kernel_rfl⟩, fun ctx hc => h ctx fun q => hc (hA'.trans q)⟩
end

/-! # Ci -/
set_option maxRecDepth 100000

section
variable {prog : Program} {w : World} {p : Program} {loose : List Str} {mean : ExcName → Option Value} {mg mb : Str → Option Value}
variable {A : Around} {B : Base} {fs : List (Env × LM)} {σ σ' : AH} {Q : Value → AH → Prop} {X : Value → Bool → AH → Prop}
variable {fe env : Env} {es : List Env} {u : Nat} {m : LM}
variable {G : Geo} {N : ST} {i : Int} {n : Node}
/-- nobody speaks of a node -/
def NoRef (N : ST) (i : Int) : Prop := ∀ j n, N j = some n → n.par ≠ some i ∧ i ∉ n.kids ∧ ∀ e ∈ n.q, e.2 ≠ i
def newNode (sid wv : Value) : Node := { sid := sid, w := wv, kids := [], par := none, q := [], act := true, last := 0, df := 0 }
def newGeo (G : Geo) (i : Int) (x l1 l2 : Addr) : Geo := ⟨upd G.ad i x, upd G.ch i l1, upd G.qu i l2⟩
theorem Holds.new (H : Holds G N σ) (hN : N i = none) (hr : NoRef N i) {x l1 l2 : Addr} {sid wv : Value} (hx : σ x = none) (h1 : σ l1 = none) (h2 : σ l2 = none) (h12 : l1 ≠ l2) (kp : ∀ a c, σ a = some c → σ' a = some c)
    (gx : σ' x = some (.inst c_Stream (nodeF (newGeo G i x l1 l2) i (newNode sid wv)) 8)) (g1 : σ' l1 = some (.seq "list" [])) (g2 : σ' l2 = some (.seq "list" [])) (hs : nv sid = some i) (hw : Wt wv) :
    St G N σ (newGeo G i x l1 l2) (upd N i (some (newNode sid wv))) σ' := by
  have cs : ∀ j k, upd N i (some (newNode sid wv)) j = some k → (j = i ∧ k = newNode sid wv) ∨ (j ≠ i ∧ N j = some k) := fun j k e => by
    by_cases z : j = i
    · subst z; rw [upd_self] at e; exact .inl ⟨rfl, (Option.some.inj e).symm⟩
    · rw [upd_ne _ _ z] at e; exact .inr ⟨z, e⟩
  have ne : ∀ j k, N j = some k → j ≠ i := fun j k e z => by rw [z, hN] at e; cases e
  have ga : ∀ j, j ≠ i → (newGeo G i x l1 l2).ad j = G.ad j ∧ (newGeo G i x l1 l2).ch j = G.ch j ∧ (newGeo G i x l1 l2).qu j = G.qu j := fun j z => ⟨upd_ne _ _ z, upd_ne _ _ z, upd_ne _ _ z⟩
  have gi : (newGeo G i x l1 l2).ad i = x ∧ (newGeo G i x l1 l2).ch i = l1 ∧ (newGeo G i x l1 l2).qu i = l2 := ⟨upd_self _ _ _, upd_self _ _ _, upd_self _ _ _⟩
  have occ : ∀ j k, N j = some k → σ (G.ad j) ≠ none ∧ σ (G.ch j) ≠ none ∧ σ (G.qu j) ≠ none := fun j k e => by
    obtain ⟨rs, e1, _⟩ := H.que _ _ e
    rw [H.node _ _ e, H.kid _ _ e, e1]; exact ⟨by simp, by simp, by simp⟩
  have kv : ∀ l, i ∉ l → kidsV (newGeo G i x l1 l2) l = kidsV G l := fun l h => by
    unfold kidsV
    refine List.map_congr_left fun a ha => ?_
    rw [(ga a fun z => h (z ▸ ha)).1]
  refine ⟨⟨fun j k e => ?_, fun j k e => ?_, fun j k e => ?_, fun j l a b e1 e2 => ?_, fun j l a b e1 e2 => ?_, fun j l a b e1 e2 => ?_, fun j k e => ?_, fun j k e => ?_, fun j k e => ?_⟩, ⟨fun a c e nf => kp a c e, fun a f => ?_⟩, fun j k e => (ga j (ne j k e)).1⟩
  · rcases cs j k e with ⟨rfl, rfl⟩ | ⟨z, e⟩
    · rw [gi.1]; exact gx
    · rw [(ga j z).1]
      have : nodeF (newGeo G i x l1 l2) j k = nodeF G j k := by
        funext y
        unfold nodeF
        rw [(ga j z).2.1, (ga j z).2.2]
        have : parV (newGeo G i x l1 l2) k.par = parV G k.par := by
          unfold parV
          cases q : k.par with
          | none => rfl
          | some p => dsimp only; rw [(ga p fun z => (hr j k e).1 (by rw [q, z])).1]
        rw [this]
      rw [this]; exact kp _ _ (H.node _ _ e)
  · rcases cs j k e with ⟨rfl, rfl⟩ | ⟨z, e⟩
    · rw [gi.2.1]; exact g1
    · rw [(ga j z).2.1, kv _ (hr j k e).2.1]; exact kp _ _ (H.kid _ _ e)
  · rcases cs j k e with ⟨rfl, rfl⟩ | ⟨z, e⟩
    · rw [gi.2.2]; exact ⟨[], g2, .nil⟩
    · rw [(ga j z).2.2]
      obtain ⟨rs, e1, e2⟩ := H.que _ _ e
      exact ⟨rs, kp _ _ e1, e2.memR fun t d hd r => by rw [(ga d.2 ((hr j k e).2.2 d hd)).1]; exact kp _ _ r⟩
  · rcases cs _ _ e1 with ⟨rfl, rfl⟩ | ⟨z1, f1⟩ <;> rcases cs _ _ e2 with ⟨rfl, rfl⟩ | ⟨z2, f2⟩
    · intro _; rfl
    · intro q; rw [gi.2.1, (ga _ z2).2.1] at q; rw [q] at h1; exact absurd h1 (occ _ _ f2).2.1
    · intro q; rw [gi.2.1, (ga _ z1).2.1] at q; rw [← q] at h1; exact absurd h1 (occ _ _ f1).2.1
    · rw [(ga _ z1).2.1, (ga _ z2).2.1]; exact H.injc _ _ _ _ f1 f2
  · rcases cs _ _ e1 with ⟨rfl, rfl⟩ | ⟨z1, f1⟩ <;> rcases cs _ _ e2 with ⟨rfl, rfl⟩ | ⟨z2, f2⟩
    · intro _; rfl
    · intro q; rw [gi.2.2, (ga _ z2).2.2] at q; rw [q] at h2; exact absurd h2 (occ _ _ f2).2.2
    · intro q; rw [gi.2.2, (ga _ z1).2.2] at q; rw [← q] at h2; exact absurd h2 (occ _ _ f1).2.2
    · rw [(ga _ z1).2.2, (ga _ z2).2.2]; exact H.injq _ _ _ _ f1 f2
  · rcases cs _ _ e1 with ⟨rfl, rfl⟩ | ⟨z1, f1⟩ <;> rcases cs _ _ e2 with ⟨rfl, rfl⟩ | ⟨z2, f2⟩
    · rw [gi.2.1, gi.2.2]; exact h12
    · intro q; rw [gi.2.1, (ga _ z2).2.2] at q; rw [q] at h1; exact absurd h1 (occ _ _ f2).2.2
    · intro q; rw [gi.2.2, (ga _ z1).2.1] at q; rw [← q] at h2; exact absurd h2 (occ _ _ f1).2.1
    · rw [(ga _ z1).2.1, (ga _ z2).2.2]; exact H.cq _ _ _ _ f1 f2
  · rcases cs _ _ e with ⟨rfl, rfl⟩ | ⟨z, e⟩
    · exact hs
    · exact H.sid _ _ e
  · rcases cs _ _ e with ⟨rfl, rfl⟩ | ⟨z, e⟩
    · exact hw
    · exact H.wt _ _ e
  · rcases cs _ _ e with ⟨rfl, rfl⟩ | ⟨z, e⟩
    · exact ⟨Nat.zero_le _, Nat.zero_le _⟩
    · exact H.sz _ _ e
  · obtain ⟨j, k, e, f⟩ := f
    rcases cs j k e with ⟨rfl, rfl⟩ | ⟨z, e⟩
    · rw [gi.1, gi.2.1, gi.2.2] at f
      rcases f with rfl | rfl | rfl
      · exact .inr hx
      · exact .inr h1
      · exact .inr h2
    · rw [(ga j z).1, (ga j z).2.1, (ga j z).2.2] at f
      exact .inl ⟨j, k, e, f⟩
theorem s_I {x : Addr} {f : LM} {k : Nat} {name : Str} {v : Value} {Q : Unit → LM → AH → Prop} {X} (O : Ok (mkW prog w p loose mean mg mb) A B es u) (hσ : σ x = some (.inst c_Stream f k)) (ht : takerIn (mkW prog w p loose mean mg mb).K c_Stream name = some none) (hk : k < 1000) (hf : f name = none)
    (h : ∀ σ', σ' x = some (.inst c_Stream (upd f name (some v)) (k + 1)) → (∀ a, a ≠ x → σ' a = σ a) → Q () m σ') : Op2 (mkW prog w p loose mean mg mb) A B fe fs (fun o v => setAttr o name v) (.ref x) v m σ Q X :=
  s_S O hσ ht hk (by rw [hf]; exact h _ (upd_self _ _ _) fun a z => upd_ne _ _ z)
theorem k_Stream {pos : List Value} {kw : List (Str × Value)} {sid wv : Value} (hargs : (pos = [sid, wv] ∧ kw = []) ∨ (pos = [] ∧ kw = [((Str.ofString "stream_id"), sid), ((Str.ofString "weight"), wv)])) (O : Ok (mkW prog w p loose mean mg mb) A B (fs.map (·.1)) 8) (hsh : fs.length < 57)
    (H : Holds G N σ) (hN : N i = none) (hr : NoRef N i) (hs : nv sid = some i) (he1 : er sid = sid) (hw : Wt wv) (he2 : er wv = wv)
    (h : ∀ G' σ', St G N σ G' (upd N i (some (newNode sid wv))) σ' → Q (.ref (G'.ad i)) σ') : CallW (mkW prog w p loose mean mg mb) A B fs (.ref c_Stream) pos kw σ Q X := by
  refine CallW.make (fI := a_S_dinit) O (fun x A₁ O₁ hA₁ hx => ?_) (by kernel_rfl) (by kernel_rfl) (by kernel_rfl)
  refine CallR.go (bs := [("self", .ref x), ("stream_id", sid), ("weight", wv)]) (f := a_S_dinit) O₁.less (by omega) (by rfl) (by kernel_rfl) ?_ rfl fun L A' O' hA' => ?_
  · rcases hargs with ⟨rfl, rfl⟩ | ⟨rfl, rfl⟩
    · exact bindsD3 rfl rfl rfl (by intro _ _ _; rfl) (by intro _ _ _; rfl)
    · exact bindsD1K2 rfl rfl rfl (by intro _ _ _; rfl) (by intro _ _ _; rfl)
  walk_at "ss"
  refine s_I O' (upd_self _ _ _) (by kernel_rfl) (by decide) rfl fun σ₁ x₁ o₁ => ?_
  walk_at "ss"
  refine op_setProp (p := p_weight) (fset := a_S_weight_set) O' x₁ (k_set_weight (fs := (_, _) :: fs) O'.in1.in1.less (by simp; omega) x₁ (by decide) hw he2 ?_) (by kernel_rfl) (by kernel_rfl) (by kernel_rfl) (by kernel_rfl) (by rfl)
  have ox : ∀ a, a ≠ x → upd σ₁ x (some (.inst c_Stream (upd (upd noF (Str.ofString "stream_id") (some sid)) (Str.ofString "_weight") (some wv)) 2)) a = σ₁ a := fun a z => upd_ne _ _ z
  have x₂ : upd σ₁ x (some (.inst c_Stream (upd (upd noF (Str.ofString "stream_id") (some sid)) (Str.ofString "_weight") (some wv)) 2)) x = some (.inst c_Stream (upd (upd noF (Str.ofString "stream_id") (some sid)) (Str.ofString "_weight") (some wv)) 2) := upd_self _ _ _
  rw [show (upd noF (Str.ofString "stream_id") (some sid) (Str.ofString "_weight")).isSome = false by rfl, if_neg (by decide)]
  generalize upd σ₁ x (some (.inst c_Stream (upd (upd noF (Str.ofString "stream_id") (some sid)) (Str.ofString "_weight") (some wv)) 2)) = σ₂ at ox x₂
  walk_at "ss"
  refine ⟨by simp, fun l1 hl1 => ?_⟩
  have xl1 : x ≠ l1 := fun z => by rw [← z, x₂] at hl1; cases hl1
  have x₂' := (upd_ne σ₂ (some (Cell.seq "list" [])) xl1).trans x₂
  walk_at "ss"
  refine s_I O' x₂' (by kernel_rfl) (by decide) rfl fun σ₃ x₃ o₃ => ?_
  walk_at "ss"
  refine s_I O' x₃ (by kernel_rfl) (by decide) rfl fun σ₄ x₄ o₄ => ?_
  walk_at "ss"
  refine ⟨by simp, fun l2 hl2 => ?_⟩
  have xl2 : x ≠ l2 := fun z => by rw [← z, x₄] at hl2; cases hl2
  have x₄' := (upd_ne σ₄ (some (Cell.seq "list" [])) xl2).trans x₄
  walk_at "ss"
  refine s_I O' x₄' (by kernel_rfl) (by decide) rfl fun σ₅ x₅ o₅ => ?_
  walk_at "ss"
  refine s_I O' x₅ (by kernel_rfl) (by decide) rfl fun σ₆ x₆ o₆ => ?_
  walk_at "ss"
  refine s_I O' x₆ (by kernel_rfl) (by decide) rfl fun σ₇ x₇ o₇ => ?_
  walk_at "ss"
  refine s_I O' x₇ (by kernel_rfl) (by decide) rfl fun σ₈ x₈ o₈ => ?_
  walk_at "ss"
  have g₂ : ∀ a, a ≠ x → σ₂ a = σ a := fun a z => (ox a z).trans ((o₁ a z).trans (upd_ne _ _ z))
  have g₄ : ∀ a, a ≠ x → a ≠ l1 → σ₄ a = σ a := fun a z z1 => (o₄ a z).trans ((o₃ a z).trans ((upd_ne _ _ z1).trans (g₂ a z)))
  have g₈ : ∀ a, a ≠ x → a ≠ l1 → a ≠ l2 → σ₈ a = σ a := fun a z z1 z2 => (o₈ a z).trans ((o₇ a z).trans ((o₆ a z).trans ((o₅ a z).trans ((upd_ne _ _ z2).trans (g₄ a z z1)))))
  have e1 : σ l1 = none := (g₂ l1 xl1.symm).symm.trans hl1
  have l12 : l1 ≠ l2 := fun z => by
    have : σ₄ l1 = some (.seq "list" []) := (o₄ l1 xl1.symm).trans ((o₃ l1 xl1.symm).trans (upd_self _ _ _))
    rw [z, hl2] at this; cases this
  have e2 : σ l2 = none := (g₄ l2 xl2.symm l12.symm).symm.trans hl2
  have el1 : σ₈ l1 = some (.seq "list" []) := (o₈ l1 xl1.symm).trans ((o₇ l1 xl1.symm).trans ((o₆ l1 xl1.symm).trans ((o₅ l1 xl1.symm).trans ((upd_ne _ _ l12).trans ((o₄ l1 xl1.symm).trans ((o₃ l1 xl1.symm).trans (upd_self _ _ _)))))))
  have el2 : σ₈ l2 = some (.seq "list" []) := (o₈ l2 xl2.symm).trans ((o₇ l2 xl2.symm).trans ((o₆ l2 xl2.symm).trans ((o₅ l2 xl2.symm).trans (upd_self _ _ _))))
  refine ⟨rfl, ?_⟩
  have S := H.new hN hr (σ' := σ₈) hx e1 e2 l12 (fun a c e => (g₈ a (fun z => by rw [z, hx] at e; cases e) (fun z => by rw [z, e1] at e; cases e) (fun z => by rw [z, e2] at e; cases e)).trans e) (sid := sid) (wv := wv) ?_ el1 el2 hs hw
  · have := h _ _ S
    rwa [show (newGeo G i x l1 l2).ad i = x from upd_self _ _ _] at this
  · refine x₈.trans ?_
    congr 2
    funext y
    unfold nodeF newGeo newNode parV
    simp only [upd_self]
    simp only [upd, noF]
    by_cases y1 : y = "stream_id"
    · subst y1; rfl
    by_cases y2 : y = "_weight"
    · subst y2; rfl
    by_cases y3 : y = "children"
    · subst y3; rfl
    by_cases y4 : y = "parent"
    · subst y4; rfl
    by_cases y5 : y = "child_queue"
    · subst y5; rfl
    by_cases y6 : y = "active"
    · subst y6; rfl
    by_cases y7 : y = "last_weight"
    · subst y7; rfl
    by_cases y8 : y = "_deficit"
    · subst y8; rfl
    simp only [y1, y2, y3, y4, y5, y6, y7, y8, if_false]
/-- a stream of a wrong weight is refused -/
theorem k_Stream_bad {sid wv : Value} (O : Ok (mkW prog w p loose mean mg mb) A B (fs.map (·.1)) 8) (hsh : fs.length < 57) (Hd : HdOk A B) (hv : (∃ s, wv = .str s 0) ∨ ((∃ k, nv wv = some k ∧ ¬ (1 ≤ k ∧ k ≤ 256)) ∧ er wv = wv))
    (h : ∀ ctx σ', (∀ a c, σ a = some c → σ' a = some c) → (A.handled = none → ctx = false) → X (.ref c_BadWeightError) ctx σ') : CallW (mkW prog w p loose mean mg mb) A B fs (.ref c_Stream) [sid, wv] [] σ Q X := by
  refine CallW.make (fI := a_S_dinit) O (fun x A₁ O₁ hA₁ hx => ?_) (by kernel_rfl) (by kernel_rfl) (by kernel_rfl)
  refine CallR.go (bs := [("self", .ref x), ("stream_id", sid), ("weight", wv)]) (f := a_S_dinit) O₁.less (by omega) (by rfl) (by kernel_rfl) (bindsD3 rfl rfl rfl (by intro _ _ _; rfl) (by intro _ _ _; rfl)) rfl fun L A' O' hA' => ?_
  walk_at "ss"
  refine s_I O' (upd_self _ _ _) (by kernel_rfl) (by decide) rfl fun σ₁ x₁ o₁ => ?_
  walk_at "ss"
  refine op_setProp (p := p_weight) (fset := a_S_weight_set) O' x₁ (k_set_weight_bad (fs := (_, _) :: fs) O'.in1.in1.less (by simp; omega) ((Hd.same hA₁).same hA') hv fun ctx hc => ?_) (by kernel_rfl) (by kernel_rfl) (by kernel_rfl) (by kernel_rfl) (by rfl)
  exact h ctx σ₁ (fun a c e => (o₁ a fun z => by rw [z, hx] at e; cases e).trans ((upd_ne _ _ fun z => by rw [z, hx] at e; cases e).trans e)) fun q => hc (hA'.trans (hA₁.trans q))
end

/-! # Cj -/
set_option maxRecDepth 100000

section
variable {prog : Program} {w : World} {p : Program} {loose : List Str} {mean : ExcName → Option Value} {mg mb : Str → Option Value}
variable {A : Around} {B : Base} {fs : List (Env × LM)} {σ σ' : AH} {Q : Value → AH → Prop} {X : Value → Bool → AH → Prop}
variable {fe env : Env} {es : List Env} {u : Nat} {m : LM}
variable {G : Geo} {N : ST} {i : Int} {n : Node}
theorem dget_dset {k k' : DK} {key v : Value} (hk : dk key = some k) : ∀ {l : List (Value × Value)}, dget (dset k key v l) k' = if k' = k then some v else dget l k'
  | [] => by
    unfold dset dget
    by_cases z : k' = k
    · subst z; simp [dkIs, hk]
    · have : dkIs k' (key, v) = false := by simp [dkIs, hk]; exact fun q => z q.symm
      simp [this, z]
  | p :: r => by
    have ih := dget_dset (k := k) (k' := k') (v := v) hk (l := r)
    unfold dset
    cases q : dkIs k p with
    | true =>
      have e : dk p.1 = some k := by simpa [dkIs] using q
      by_cases z : k' = k
      · subst z; simp [dget, dkIs, e]
      · have : dkIs k' (p.1, v) = false := by simp [dkIs, e]; exact fun q => z q.symm
        have this' : dkIs k' p = false := by simp [dkIs, e]; exact fun q => z q.symm
        simp [dget, this, this', z]
    | false =>
      unfold dget at ih ⊢
      simp only [Bool.false_eq_true, if_false, List.find?_cons]
      cases q' : dkIs k' p with
      | true =>
        have : k' ≠ k := fun z => by rw [z, q] at q'; cases q'
        simp [this]
      | false => exact ih
theorem dget_ddel {k k' : DK} : ∀ {l : List (Value × Value)}, (l.map fun p => dk p.1).Nodup → dget (ddel k l) k' = if k' = k then none else dget l k'
  | [], _ => by simp [ddel, dget]
  | p :: r, nd => by
    rw [List.map_cons, List.nodup_cons] at nd
    have ih := dget_ddel (k := k) (k' := k') nd.2
    unfold ddel
    cases q : dkIs k p with
    | true =>
      have e : dk p.1 = some k := by simpa [dkIs] using q
      by_cases z : k' = k
      · subst z
        simp only [if_true]
        unfold dget
        rw [Option.map_eq_none_iff, List.find?_eq_none]
        intro a ha qa
        refine nd.1 ?_
        rw [e]
        exact List.mem_map.mpr ⟨a, ha, by simpa [dkIs] using qa⟩
      · have this' : dkIs k' p = false := by simp [dkIs, e]; exact fun q => z q.symm
        simp [dget, this', z]
    | false =>
      unfold dget at ih ⊢
      simp only [Bool.false_eq_true, if_false, List.find?_cons]
      cases q' : dkIs k' p with
      | true =>
        have : k' ≠ k := fun z => by rw [z, q] at q'; cases q'
        simp [this]
      | false => exact ih
theorem ddel_length {k : DK} : ∀ {l : List (Value × Value)}, (dget l k).isSome = true → (ddel k l).length + 1 = l.length
  | [], h => by simp [dget] at h
  | p :: r, h => by
    unfold ddel
    cases q : dkIs k p with
    | true => simp
    | false =>
      have := ddel_length (k := k) (l := r) (by simpa [dget, q] using h)
      simp; omega
theorem dset_length {k : DK} {key v : Value} : ∀ {l : List (Value × Value)}, dget l k = none → (dset k key v l).length = l.length + 1
  | [], _ => rfl
  | p :: r, h => by
    unfold dset
    cases q : dkIs k p with
    | true => simp [dget, q] at h
    | false =>
      have := dset_length (k := k) (key := key) (v := v) (l := r) (by simpa [dget, q] using h)
      simp; omega
/-! ## trees -/
structure TA where
  t : Addr
  D : Addr
  mx : Int
def treeF (T : TA) (G : Geo) : LM := fun x => if x = "_root_stream" then some (.ref (G.ad 0)) else if x = "_streams" then some (.ref T.D) else if x = "_maximum_streams" then some (.int T.mx 0) else none
/-- the dict of streams: whom it knows, how many -/
def DictAt (G : Geo) (σ : AH) (D : Addr) (M : Int → Bool) (len : Nat) : Prop := ∃ l, σ D = some (.dict l) ∧ l.length = len ∧ (len ≤ 5000 ∧ (l.map fun p => dk p.1).Nodup) ∧ ∀ k, dget l k = match k with
  | .n i => if M i = true then some (.ref (G.ad i)) else none
  | .s _ => none
structure HT (T : TA) (G : Geo) (N : ST) (M : Int → Bool) (len : Nat) (σ : AH) : Prop where
  H : Holds G N σ
  tr : σ T.t = some (.inst c_PriorityTree (treeF T G) 3)
  d : DictAt G σ T.D M len
  sub : ∀ i, M i = true → ∃ n, N i = some n
  z : ∃ n, N 0 = some n
def footT (T : TA) (G : Geo) (N : ST) (a : Addr) : Prop := foot G N a ∨ a = T.D
def StT (T : TA) (G : Geo) (N : ST) (σ : AH) (G' : Geo) (N' : ST) (M' : Int → Bool) (len' : Nat) (σ' : AH) : Prop := HT T G' N' M' len' σ' ∧ Fr2 (footT T G N) σ (footT T G' N') σ'
section
variable {T : TA} {M : Int → Bool} {len : Nat}
theorem HT.tOff (h : HT T G N M len σ) : ¬ foot G N T.t ∧ T.t ≠ T.D ∧ ¬ foot G N T.D := by
  obtain ⟨l, hl, _⟩ := h.d
  refine ⟨fun ⟨j, k, e, f⟩ => ?_, fun z => ?_, fun ⟨j, k, e, f⟩ => ?_⟩
  · rcases f with f | f | f
    · have := h.H.node _ _ e
      rw [← f, h.tr] at this
      injection this with this; injection this with this; exact absurd this (by decide)
    · have := h.H.kid _ _ e
      rw [← f, h.tr] at this; cases this
    · obtain ⟨_, this, _⟩ := h.H.que _ _ e
      rw [← f, h.tr] at this; cases this
  · have := h.tr
    rw [z, hl] at this; cases this
  · rcases f with f | f | f
    · have := h.H.node _ _ e
      rw [← f, hl] at this; cases this
    · have := h.H.kid _ _ e
      rw [← f, hl] at this; cases this
    · obtain ⟨_, this, _⟩ := h.H.que _ _ e
      rw [← f, hl] at this; cases this
theorem StT.refl (h : HT T G N M len σ) : StT T G N σ G N M len σ := ⟨h, .refl⟩
theorem StT.trans {G' G'' : Geo} {N' N'' : ST} {M' M'' : Int → Bool} {l' l'' : Nat} {σ'' : AH} (a : StT T G N σ G' N' M' l' σ') (b : StT T G' N' σ' G'' N'' M'' l'' σ'') : StT T G N σ G'' N'' M'' l'' σ'' := ⟨b.1, a.2.trans b.2⟩
/-- a step of the store is a step of the tree -/
theorem St.tree {G' : Geo} {N' : ST} (h : HT T G N M len σ) (S : St G N σ G' N' σ') (d : ∀ j k, N j = some k → ∃ k', N' j = some k') : StT T G N σ G' N' M len σ' := by
  obtain ⟨o1, o2, o3⟩ := h.tOff
  obtain ⟨l, h1, h2, h3, h4⟩ := h.d
  obtain ⟨nz, hz⟩ := h.z
  refine ⟨⟨S.1, ?_, ⟨l, S.2.1.1 _ _ h1 o3, h2, h3, fun k => ?_⟩, fun j hj => ?_, d _ _ hz⟩, ⟨fun a c e nf => S.2.1.1 a c e fun f => nf (.inl f), fun a f => ?_⟩⟩
  · rw [S.2.1.1 _ _ h.tr o1]
    have : treeF T G' = treeF T G := by funext x; unfold treeF; rw [S.2.2 _ _ hz]
    rw [this]
  · rw [h4 k]
    cases k with
    | s x => rfl
    | n j =>
      dsimp only
      cases q : M j with
      | false => rfl
      | true =>
        obtain ⟨k', e⟩ := h.sub j q
        rw [S.2.2 _ _ e]
  · obtain ⟨k, e⟩ := h.sub j hj
    exact d _ _ e
  · rcases f with f | f
    · exact (S.2.1.2 a f).imp .inl id
    · exact .inl (.inr f)
theorem HT.get (h : HT T G N M len σ) {v : Value} (hv : nv v = some i) (hM : M i = true) : ∃ l, σ T.D = some (.dict l) ∧ dk v = some (.n i) ∧ dget l (.n i) = some (.ref (G.ad i)) := by
  obtain ⟨l, h1, h2, h3, h4⟩ := h.d
  exact ⟨l, h1, nv_dk hv, by rw [h4]; simp [hM]⟩
theorem HT.miss (h : HT T G N M len σ) {v : Value} (hv : nv v = some i) (hM : M i = false) : ∃ l, σ T.D = some (.dict l) ∧ dk v = some (.n i) ∧ dget l (.n i) = none := by
  obtain ⟨l, h1, h2, h3, h4⟩ := h.d
  exact ⟨l, h1, nv_dk hv, by rw [h4]; simp [hM]⟩
theorem g_T {name : Str} {v : Value} {ex : Bool} {Q X} (O : Ok (mkW prog w p loose mean mg mb) A B es u) (h : HT T G N M len σ) (hv : treeF T G name = some v) (hd : handedIn v = true)
    (hn : findIn (mkW prog w p loose mean mg mb).K (.ref c_PriorityTree) name = some none) (hq : Q v m σ) : Op1 (mkW prog w p loose mean mg mb) A B fe fs (fun o => getAttr o name ex) (.ref T.t) m σ (ErQ Q) X :=
  op_getOwn (attr := none) O h.tr hv hq (by kernel_rfl) (by kernel_rfl) hn (by kernel_rfl) hd
theorem gt_streams {ex : Bool} {Q X} (O : Ok (mkW prog w p loose mean mg mb) A B es u) (h : HT T G N M len σ) (hq : Q (.ref T.D) m σ) : Op1 (mkW prog w p loose mean mg mb) A B fe fs (fun o => getAttr o "_streams" ex) (.ref T.t) m σ (ErQ Q) X :=
  g_T O h (by simp +decide [treeF]) rfl (by kernel_rfl) hq
theorem gt_root {ex : Bool} {Q X} (O : Ok (mkW prog w p loose mean mg mb) A B es u) (h : HT T G N M len σ) (hq : Q (.ref (G.ad 0)) m σ) : Op1 (mkW prog w p loose mean mg mb) A B fe fs (fun o => getAttr o "_root_stream" ex) (.ref T.t) m σ (ErQ Q) X :=
  g_T O h (by simp +decide [treeF]) rfl (by kernel_rfl) hq
theorem gt_max {ex : Bool} {Q X} (O : Ok (mkW prog w p loose mean mg mb) A B es u) (h : HT T G N M len σ) (hq : Q (.int T.mx 0) m σ) : Op1 (mkW prog w p loose mean mg mb) A B fe fs (fun o => getAttr o "_maximum_streams" ex) (.ref T.t) m σ (ErQ Q) X :=
  g_T O h (by simp +decide [treeF]) rfl (by kernel_rfl) hq
theorem gm_T {name : Str} {g : Addr} {pl : Sem Bool} {Q : Value × List Value → LM → AH → Prop} {X} (O : Ok (mkW prog w p loose mean mg mb) A B es u) (h : HT T G N M len σ) (hv : treeF T G name = none)
    (hf : findIn (mkW prog w p loose mean mg mb).K (.ref c_PriorityTree) name = some (some (.ref g))) (ht : isFn (mkW prog w p loose mean mg mb).K (.ref g) = true) (hq : Q (.ref g, [.ref T.t]) m σ) :
    Op1 (mkW prog w p loose mean mg mb) A B fe fs (fun o => getMethod o name pl) (.ref T.t) m σ Q X := op_method O h.tr hv hq (by kernel_rfl) hf ht
/-- a stream's name as it is written -/
def IdV (v : Value) (i : Int) : Prop := (v = .int i 0 ∨ (v = .bool true ∧ i = 1)) ∧ i.natAbs.log2 < 1920
theorem IdV.nv {v : Value} (h : IdV v i) : nv v = some i := by rcases h.1 with rfl | ⟨rfl, rfl⟩ <;> rfl
theorem IdV.er {v : Value} (h : IdV v i) : er v = v := by rcases h.1 with rfl | ⟨rfl, rfl⟩ <;> rfl
theorem op_idz {v : Value} {k : Int} {Q : Value → LM → AH → Prop} {X} {W : Wd} (h : IdV v i) (hq : Q (.bool (decide (i = k))) m σ) : Op2 W A B fe fs (compareOp .Eq) v (.int k 0) m σ (ErQ Q) X :=
  op_eqP (a := some (.n i)) (b := some (.n k)) (pk_nv h.nv) rfl (by simpa using hq)
theorem op_miss {v : Value} {X0 : PySem.Str} {Q : Value → LM → AH → Prop} {Ex} {W : Wd} (h : IdV v i) (hX : X0 = "Stream %d not in tree") (hq : ∀ t, Q (.str t 0) m σ) : Op2 W A B fe fs (binaryOp .Mod) (.str X0 0) v m σ (ErQ Q) Ex := by
  subst hX
  rcases h.1 with rfl | ⟨rfl, rfl⟩
  · exact op_fmtInt (by decide +kernel) (fun u => fmt_miss h.2 (by simpa using h.2)) hq
  · exact op_fmtBool (by decide +kernel) (fmtT_miss (by decide) (by decide)) hq
theorem ce_miss {msg : Value} {Q : Value → AH → Prop} {X} (O : Ok (mkW prog w p loose mean mg mb) A B es u) (h : ∀ e, σ e = none → Q (.ref e) (upd σ e (some (.exc (.ref c_MissingStreamError) false false)))) :
    CallW (mkW prog w p loose mean mg mb) A B fs (.ref c_MissingStreamError) [msg] [] σ Q X :=
  by
  refine call_mix O PySem.F.excBase_LookupError init_KeyError ?_ (by rfl) ?_ ?_ ?_ (by kernel_rfl) (by simp) h
  all_goals decide
end
end

/-! # Ck -/
set_option maxRecDepth 100000

section
variable {prog : Program} {w : World} {p : Program} {loose : List Str} {mean : ExcName → Option Value} {mg mb : Str → Option Value}
variable {A : Around} {B : Base} {fs : List (Env × LM)} {σ σ' : AH} {Q : Value → AH → Prop} {X : Value → Bool → AH → Prop}
variable {fe env : Env} {es : List Env} {u : Nat} {m : LM}
variable {G : Geo} {N : ST} {i : Int} {n : Node} {T : TA} {M : Int → Bool} {len : Nat}
theorem k_block {v : Value} (O : Ok (mkW prog w p loose mean mg mb) A B (fs.map (·.1)) 0) (hsh : fs.length < 50) (Hd : HdOk A B) (h : HT T G N M len σ) (hv : IdV v i) (hi : i ≠ 0) (hM : M i = true)
    (hq : ∀ σ', StT T G N σ G (md N i fun n => { n with act := false }) M len σ' → Q .none σ') : CallR (mkW prog w p loose mean mg mb) A B fs (.ref a_T_block) [.ref T.t, v] [] σ Q X := by
  refine CallR.go O (by omega) (by rfl) (by kernel_rfl) (binds2 (p1 := "self") (p2 := "stream_id") (by intro _ _; rfl)) rfl fun L A' O' hA' => ?_
  walk_at "ss"
  refine op_idz hv (op_truthy_bool ?_)
  rw [show decide (i = 0) = false by simpa using hi]
  refine ch_f ?_
  walk_at "ss"
  refine t_Exc O' ?_ fun _ _ q => q
  walk_at "ss"
  refine gt_streams O' h ?_
  walk_at "ss"
  obtain ⟨l, h1, h2, h3⟩ := h.get hv.nv hM
  refine op_itemDict O'.g h1 h2 h3 ?_
  obtain ⟨n, hn⟩ := h.sub i hM
  refine sn_active O' h.H hn fun σ' S => ?_
  walk_at "ss"
  rw [← md_some (f := fun n => { n with act := false }) hn] at S
  exact hq _ (S.tree h fun j k e => md_dom.mpr ⟨k, e⟩)
theorem k_block_zero {v : Value} (O : Ok (mkW prog w p loose mean mg mb) A B (fs.map (·.1)) 0) (hsh : fs.length < 50) (Hd : HdOk A B) (hv : IdV v 0)
    (hx : ∀ ctx, X (.ref c_PseudoStreamError) ctx σ) : CallR (mkW prog w p loose mean mg mb) A B fs (.ref a_T_block) [.ref T.t, v] [] σ Q X := by
  refine CallR.go O (by omega) (by rfl) (by kernel_rfl) (binds2 (p1 := "self") (p2 := "stream_id") (by intro _ _; rfl)) rfl fun L A' O' hA' => ?_
  walk_at "ss"
  refine op_idz hv (op_truthy_bool (ch_t ?_))
  walk_at "ss"
  refine t_Raise O' (Hd.same hA') ?_
  walk_at "ss"
  refine ce_own (x := "PseudoStreamError") O' (by kernel_rfl) (by kernel_rfl) fun e he => ?_
  exact ⟨e, _, σ, rfl, he, rfl, ⟨by kernel_rfl, by kernel_rfl⟩, fun ctx _ => hx ctx⟩
theorem k_block_miss {v : Value} (O : Ok (mkW prog w p loose mean mg mb) A B (fs.map (·.1)) 0) (hsh : fs.length < 50) (hA : A.handled = none) (h : HT T G N M len σ) (hv : IdV v i) (hi : i ≠ 0) (hM : M i = false)
    (hx : ∀ ctx, X (.ref c_MissingStreamError) ctx σ) : CallR (mkW prog w p loose mean mg mb) A B fs (.ref a_T_block) [.ref T.t, v] [] σ Q X := by
  refine CallR.go O (by omega) (by rfl) (by kernel_rfl) (binds2 (p1 := "self") (p2 := "stream_id") (by intro _ _; rfl)) rfl fun L A' O' hA' => ?_
  walk_at "ss"
  refine op_idz hv (op_truthy_bool ?_)
  rw [show decide (i = 0) = false by simpa using hi]
  refine ch_f ?_
  walk_at "ss"
  refine t_Exc O' ?_ fun _ _ q => q
  walk_at "ss"
  refine gt_streams O' h ?_
  walk_at "ss"
  obtain ⟨l, h1, h2, h3⟩ := h.miss hv.nv hM
  refine op_itemDict_none O'.g (hA'.trans hA) h1 h2 h3 ?_
  refine hit_KeyError O'.g (by kernel_rfl) (by kernel_rfl) (by kernel_rfl) fun A₂ B₂ hB hO hH => ?_
  have O₂ := hO _ _ O'
  walk_at "ss"
  refine t_Raise O₂ (hH rfl) ?_
  walk_at "ss"
  refine op_miss hv rfl fun t => ?_
  walk_at "ss"
  refine ce_miss O₂ fun e he => ?_
  exact ⟨e, _, σ, rfl, he, rfl, ⟨by kernel_rfl, by kernel_rfl⟩, fun ctx _ => hx ctx⟩
theorem k_unblock {v : Value} (O : Ok (mkW prog w p loose mean mg mb) A B (fs.map (·.1)) 0) (hsh : fs.length < 50) (Hd : HdOk A B) (h : HT T G N M len σ) (hv : IdV v i) (hi : i ≠ 0) (hM : M i = true)
    (hq : ∀ σ', StT T G N σ G (md N i fun n => { n with act := true }) M len σ' → Q .none σ') : CallR (mkW prog w p loose mean mg mb) A B fs (.ref a_T_unblock) [.ref T.t, v] [] σ Q X := by
  refine CallR.go O (by omega) (by rfl) (by kernel_rfl) (binds2 (p1 := "self") (p2 := "stream_id") (by intro _ _; rfl)) rfl fun L A' O' hA' => ?_
  walk_at "ss"
  refine op_idz hv (op_truthy_bool ?_)
  rw [show decide (i = 0) = false by simpa using hi]
  refine ch_f ?_
  walk_at "ss"
  refine t_Exc O' ?_ fun _ _ q => q
  walk_at "ss"
  refine gt_streams O' h ?_
  walk_at "ss"
  obtain ⟨l, h1, h2, h3⟩ := h.get hv.nv hM
  refine op_itemDict O'.g h1 h2 h3 ?_
  obtain ⟨n, hn⟩ := h.sub i hM
  refine sn_active O' h.H hn fun σ' S => ?_
  walk_at "ss"
  rw [← md_some (f := fun n => { n with act := true }) hn] at S
  exact hq _ (S.tree h fun j k e => md_dom.mpr ⟨k, e⟩)
theorem k_unblock_zero {v : Value} (O : Ok (mkW prog w p loose mean mg mb) A B (fs.map (·.1)) 0) (hsh : fs.length < 50) (Hd : HdOk A B) (hv : IdV v 0)
    (hx : ∀ ctx, X (.ref c_PseudoStreamError) ctx σ) : CallR (mkW prog w p loose mean mg mb) A B fs (.ref a_T_unblock) [.ref T.t, v] [] σ Q X := by
  refine CallR.go O (by omega) (by rfl) (by kernel_rfl) (binds2 (p1 := "self") (p2 := "stream_id") (by intro _ _; rfl)) rfl fun L A' O' hA' => ?_
  walk_at "ss"
  refine op_idz hv (op_truthy_bool (ch_t ?_))
  walk_at "ss"
  refine t_Raise O' (Hd.same hA') ?_
  walk_at "ss"
  refine ce_own (x := "PseudoStreamError") O' (by kernel_rfl) (by kernel_rfl) fun e he => ?_
  exact ⟨e, _, σ, rfl, he, rfl, ⟨by kernel_rfl, by kernel_rfl⟩, fun ctx _ => hx ctx⟩
theorem k_unblock_miss {v : Value} (O : Ok (mkW prog w p loose mean mg mb) A B (fs.map (·.1)) 0) (hsh : fs.length < 50) (hA : A.handled = none) (h : HT T G N M len σ) (hv : IdV v i) (hi : i ≠ 0) (hM : M i = false)
    (hx : ∀ ctx, X (.ref c_MissingStreamError) ctx σ) : CallR (mkW prog w p loose mean mg mb) A B fs (.ref a_T_unblock) [.ref T.t, v] [] σ Q X := by
  refine CallR.go O (by omega) (by rfl) (by kernel_rfl) (binds2 (p1 := "self") (p2 := "stream_id") (by intro _ _; rfl)) rfl fun L A' O' hA' => ?_
  walk_at "ss"
  refine op_idz hv (op_truthy_bool ?_)
  rw [show decide (i = 0) = false by simpa using hi]
  refine ch_f ?_
  walk_at "ss"
  refine t_Exc O' ?_ fun _ _ q => q
  walk_at "ss"
  refine gt_streams O' h ?_
  walk_at "ss"
  obtain ⟨l, h1, h2, h3⟩ := h.miss hv.nv hM
  refine op_itemDict_none O'.g (hA'.trans hA) h1 h2 h3 ?_
  refine hit_KeyError O'.g (by kernel_rfl) (by kernel_rfl) (by kernel_rfl) fun A₂ B₂ hB hO hH => ?_
  have O₂ := hO _ _ O'
  walk_at "ss"
  refine t_Raise O₂ (hH rfl) ?_
  walk_at "ss"
  refine op_miss hv rfl fun t => ?_
  walk_at "ss"
  refine ce_miss O₂ fun e he => ?_
  exact ⟨e, _, σ, rfl, he, rfl, ⟨by kernel_rfl, by kernel_rfl⟩, fun ctx _ => hx ctx⟩
end

/-! # Cl -/
set_option maxRecDepth 100000

section
variable {prog : Program} {w : World} {p : Program} {loose : List Str} {mean : ExcName → Option Value} {mg mb : Str → Option Value}
variable {A : Around} {B : Base} {fs : List (Env × LM)} {σ σ' : AH} {Q : Value → AH → Prop} {X : Value → Bool → AH → Prop}
variable {fe env : Env} {es : List Env} {u : Nat} {m : LM}
variable {G : Geo} {N : ST} {i : Int} {n : Node} {T : TA} {M : Int → Bool} {len : Nat}
theorem sched_dom {d : Nat} {r : Option Value} {N' : ST} (C : Cl N) (h : sched d N i = some (r, N')) : ∀ j k, N j = some k → ∃ k', N' j = some k' := fun j k e => by
  obtain ⟨k', e', _⟩ := (sched_tame d _ _ _ _ C h).1 j k e; exact ⟨k', e'⟩
theorem k_dnext {d : Nat} {r : Option Value} {N' : ST} {n0 : Node} (O : Ok (mkW prog w p loose mean mg mb) A B (fs.map (·.1)) 0) (hsh : fs.length + d < 50) (hA : A.handled = none) (h : HT T G N M len σ) (C : Cl N) (h0 : N 0 = some n0) (ha : n0.act = false) (hs : sched d N 0 = some (r, N'))
    (hq : ∀ σ' v, StT T G N σ G N' M len σ' → r = some v → Q v σ') (hx : ∀ σ' ctx, StT T G N σ G N' M len σ' → r = none → X (.ref c_DeadlockError) ctx σ') : CallR (mkW prog w p loose mean mg mb) A B fs (.ref a_T_dnext) [.ref T.t] [] σ Q X := by
  refine CallR.go O (by omega) (by rfl) (by kernel_rfl) (binds1 (p1 := "self") (by intro _; rfl)) rfl fun L A' O' hA' => ?_
  walk_at "ss"
  refine t_Exc O' ?_ fun _ _ q => q
  walk_at "ss"
  refine gt_root O' h ?_
  refine gm_S (g := a_S_schedule) O' h.H h0 (by simp +decide [nodeF]) (by kernel_rfl) (by kernel_rfl) ?_
  walk_at "ss"
  refine (k_sched d (fs := (_, _) :: fs) O'.less (by simp; omega) h.H C (hA'.trans hA) h0 ha hs (fun σ' v S hr => ?_) (fun σ' S hr => ?_)).w
  · walk_at "ss"
    exact hq _ _ (S.tree h (sched_dom C hs)) hr
  · refine hit_IndexError O'.g (by kernel_rfl) (by kernel_rfl) (by kernel_rfl) fun A₂ B₂ hB hO hH => ?_
    have O₂ := hO _ _ O'
    walk_at "ss"
    refine t_Raise O₂ (hH rfl) ?_
    walk_at "ss"
    refine ce_own (x := "DeadlockError") O₂ (by kernel_rfl) (by kernel_rfl) fun e he => ?_
    exact ⟨e, _, σ', rfl, he, rfl, ⟨by kernel_rfl, by kernel_rfl⟩, fun ctx _ => hx _ ctx (S.tree h (sched_dom C hs)) hr⟩
theorem k_next {d : Nat} {r : Option Value} {N' : ST} {n0 : Node} (O : Ok (mkW prog w p loose mean mg mb) A B (fs.map (·.1)) 0) (hsh : fs.length + d < 49) (hA : A.handled = none) (h : HT T G N M len σ) (C : Cl N) (h0 : N 0 = some n0) (ha : n0.act = false) (hs : sched d N 0 = some (r, N'))
    (hq : ∀ σ' v, StT T G N σ G N' M len σ' → r = some v → Q v σ') (hx : ∀ σ' ctx, StT T G N σ G N' M len σ' → r = none → X (.ref c_DeadlockError) ctx σ') : CallR (mkW prog w p loose mean mg mb) A B fs (.ref a_T_next) [.ref T.t] [] σ Q X := by
  refine CallR.go O (by omega) (by rfl) (by kernel_rfl) (binds1 (p1 := "self") (by intro _; rfl)) rfl fun L A' O' hA' => ?_
  walk_at "ss"
  refine gm_T (g := a_T_dnext) O' h (by simp +decide [treeF]) (by kernel_rfl) (by kernel_rfl) ?_
  walk_at "ss"
  refine (k_dnext (fs := (_, _) :: fs) O'.less (by simp; omega) (hA'.trans hA) h C h0 ha hs (fun σ' v S hr => ?_) hx).w
  walk_at "ss"
  exact hq _ _ S hr
/-- one stream less in the dict -/
theorem HT.less {l : List (Value × Value)} (h : HT T G N M len σ) (hl : σ T.D = some (.dict l)) (hi : i ≠ 0) (hM : M i = true) : HT T G N (upd M i false) (len - 1) (upd σ T.D (some (.dict (ddel (.n i) l)))) ∧ Fr2 (footT T G N) σ (footT T G N) (upd σ T.D (some (.dict (ddel (.n i) l)))) := by
  obtain ⟨o1, o2, o3⟩ := h.tOff
  obtain ⟨l', h1, h2, h3, h4⟩ := h.d
  rw [hl] at h1; cases h1
  have oth : ∀ a, a ≠ T.D → upd σ T.D (some (.dict (ddel (.n i) l))) a = σ a := fun a z => upd_ne _ _ z
  have hH : Holds G N (upd σ T.D (some (.dict (ddel (.n i) l)))) := by
    refine ⟨fun j k e => (oth _ fun z => o3 ⟨j, k, e, .inl z.symm⟩).trans (h.H.node j k e), fun j k e => (oth _ fun z => o3 ⟨j, k, e, .inr (.inl z.symm)⟩).trans (h.H.kid j k e), fun j k e => ?_, h.H.injc, h.H.injq, h.H.cq, h.H.sid, h.H.wt, h.H.sz⟩
    obtain ⟨rs, a1, a2⟩ := h.H.que j k e
    refine ⟨rs, (oth _ fun z => o3 ⟨j, k, e, .inr (.inr z.symm)⟩).trans a1, a2.imp fun t e r => (oth t fun z => ?_).trans r⟩
    rw [z, hl] at r; cases r
  refine ⟨⟨hH, (oth _ o2).trans h.tr, ⟨_, upd_self _ _ _, ?_, ⟨by omega, ddel_nodup h3.2⟩, fun k => ?_⟩, fun j hj => ?_, h.z⟩, ⟨fun a c e nf => (oth a fun z => nf (.inr z)).trans e, fun a f => .inl f⟩⟩
  · have := ddel_length (k := .n i) (l := l) (by rw [h4]; simp [hM])
    omega
  · rw [dget_ddel h3.2, h4]
    cases k with
    | s x => simp
    | n j =>
      by_cases z : j = i
      · subst z; simp
      · simp [z, upd]
  · by_cases z : j = i
    · subst z; rw [upd_self] at hj; cases hj
    · rw [upd_ne _ _ z] at hj; exact h.sub j hj
end

/-! # Cm -/
set_option maxRecDepth 100000

section
variable {prog : Program} {w : World} {p : Program} {loose : List Str} {mean : ExcName → Option Value} {mg mb : Str → Option Value}
variable {A : Around} {B : Base} {fs : List (Env × LM)} {σ σ' : AH} {Q : Value → AH → Prop} {X : Value → Bool → AH → Prop}
variable {fe env : Env} {es : List Env} {u : Nat} {m : LM}
variable {G : Geo} {N : ST} {i : Int} {n : Node} {T : TA} {M : Int → Bool} {len : Nat}
theorem pRem_dom {a c : Int} {s : Bool} {j : Int} : (∃ k, pRem N a c s j = some k) ↔ ∃ k, N j = some k := by
  unfold pRem
  cases s with
  | false => rw [if_neg (by decide), md_dom]
  | true =>
    rw [if_pos rfl]
    cases N c with
    | none => dsimp only; rw [md_dom]
    | some nc => dsimp only; rw [pAdds_dom, md_dom]
theorem k_remove_stream {v : Value} {b : Int} {ni nb : Node} (O : Ok (mkW prog w p loose mean mg mb) A B (fs.map (·.1)) 0) (hsh : fs.length < 50) (Hd : HdOk A B) (h : HT T G N M len σ) (C : Cl N) (hv : IdV v i) (hi : i ≠ 0) (hM : M i = true)
    (hn : N i = some ni) (hp : ni.par = some b) (hb : N b = some nb) (hbi : b ≠ i) (hk : i ∈ nb.kids) (hz : nb.kids.length + ni.kids.length < 4000 ∧ nb.q.length + ni.kids.length < 4000)
    (hq : ∀ G' σ', StT T G N σ G' (pRem N b i true) (upd M i false) (len - 1) σ' → Q .none σ') : CallR (mkW prog w p loose mean mg mb) A B fs (.ref a_T_remove_stream) [.ref T.t, v] [] σ Q X := by
  refine CallR.go O (by omega) (by rfl) (by kernel_rfl) (binds2 (p1 := "self") (p2 := "stream_id") (by intro _ _; rfl)) rfl fun L A' O' hA' => ?_
  walk_at "ss"
  refine op_idz hv (op_truthy_bool ?_)
  rw [show decide (i = 0) = false by simpa using hi]
  refine ch_f ?_
  walk_at "ss"
  refine t_Exc O' ?_ fun _ _ q => q
  walk_at "ss"
  refine gt_streams O' h ?_
  obtain ⟨l, h1, h2, h3⟩ := h.get hv.nv hM
  refine op_methDict PySem.F.slot_dict_pop PySem.F.type_dict_pop h1 ?_
  walk_at "ss"
  have hl5 : l.length ≤ 10000 := by
    obtain ⟨l', g1, g2, g3, _⟩ := h.d
    rw [h1] at g1; cases g1; omega
  refine call_dictPop O'.g h1 h2 hl5 h3 ?_
  obtain ⟨h', f'⟩ := h.less h1 hi hM
  generalize upd σ T.D (some (.dict (ddel (.n i) l))) = σ₁ at h' f' ⊢
  walk_at "ss"
  refine gn_parent O' h'.H hn ?_
  rw [hp]
  walk_at "ss"
  refine gm_S (g := a_S_remove_child) (i := b) O' h'.H hb (by simp +decide [nodeF]) (by kernel_rfl) (by kernel_rfl) ?_
  walk_at "ss"
  refine (k_remove_child (sv := true) (.inl ⟨rfl, rfl⟩) (fs := (_, _) :: fs) O'.less (by simp; omega) (Hd.same hA') h'.H C hb hn hbi hk hz fun G' σ' S => ?_).w
  refine ⟨trivial, ?_⟩
  walk_at "ss"
  have S' := S.tree h' fun j k e => pRem_dom.mpr ⟨k, e⟩
  exact hq _ _ ⟨S'.1, f'.trans S'.2⟩
theorem k_remove_zero {v : Value} (O : Ok (mkW prog w p loose mean mg mb) A B (fs.map (·.1)) 0) (hsh : fs.length < 50) (Hd : HdOk A B) (hv : IdV v 0)
    (hx : ∀ ctx, X (.ref c_PseudoStreamError) ctx σ) : CallR (mkW prog w p loose mean mg mb) A B fs (.ref a_T_remove_stream) [.ref T.t, v] [] σ Q X := by
  refine CallR.go O (by omega) (by rfl) (by kernel_rfl) (binds2 (p1 := "self") (p2 := "stream_id") (by intro _ _; rfl)) rfl fun L A' O' hA' => ?_
  walk_at "ss"
  refine op_idz hv (op_truthy_bool (ch_t ?_))
  walk_at "ss"
  refine t_Raise O' (Hd.same hA') ?_
  walk_at "ss"
  refine ce_own (x := "PseudoStreamError") O' (by kernel_rfl) (by kernel_rfl) fun e he => ?_
  exact ⟨e, _, σ, rfl, he, rfl, ⟨by kernel_rfl, by kernel_rfl⟩, fun ctx _ => hx ctx⟩
theorem k_remove_miss {v : Value} (O : Ok (mkW prog w p loose mean mg mb) A B (fs.map (·.1)) 0) (hsh : fs.length < 50) (hA : A.handled = none) (h : HT T G N M len σ) (hv : IdV v i) (hi : i ≠ 0) (hM : M i = false)
    (hx : ∀ ctx, X (.ref c_MissingStreamError) ctx σ) : CallR (mkW prog w p loose mean mg mb) A B fs (.ref a_T_remove_stream) [.ref T.t, v] [] σ Q X := by
  refine CallR.go O (by omega) (by rfl) (by kernel_rfl) (binds2 (p1 := "self") (p2 := "stream_id") (by intro _ _; rfl)) rfl fun L A' O' hA' => ?_
  walk_at "ss"
  refine op_idz hv (op_truthy_bool ?_)
  rw [show decide (i = 0) = false by simpa using hi]
  refine ch_f ?_
  walk_at "ss"
  refine t_Exc O' ?_ fun _ _ q => q
  walk_at "ss"
  refine gt_streams O' h ?_
  obtain ⟨l, h1, h2, h3⟩ := h.miss hv.nv hM
  refine op_methDict PySem.F.slot_dict_pop PySem.F.type_dict_pop h1 ?_
  walk_at "ss"
  have hl5 : l.length ≤ 10000 := by
    obtain ⟨l', g1, g2, g3, _⟩ := h.d
    rw [h1] at g1; cases g1; omega
  refine call_dictPop_none O'.g (hA'.trans hA) h1 h2 hl5 h3 ?_
  refine hit_KeyError O'.g (by kernel_rfl) (by kernel_rfl) (by kernel_rfl) fun A₂ B₂ hB hO hH => ?_
  have O₂ := hO _ _ O'
  walk_at "ss"
  refine t_Raise O₂ (hH rfl) ?_
  walk_at "ss"
  refine op_miss hv rfl fun t => ?_
  walk_at "ss"
  refine ce_miss O₂ fun e he => ?_
  exact ⟨e, _, σ, rfl, he, rfl, ⟨by kernel_rfl, by kernel_rfl⟩, fun ctx _ => hx ctx⟩
end

/-! # Cn -/
set_option maxRecDepth 100000

section
variable {prog : Program} {w : World} {p : Program} {loose : List Str} {mean : ExcName → Option Value} {mg mb : Str → Option Value}
variable {A : Around} {B : Base} {fs : List (Env × LM)} {σ σ' : AH} {Q : Value → AH → Prop} {X : Value → Bool → AH → Prop}
variable {fe env : Env} {es : List Env} {u : Nat} {m : LM}
variable {G : Geo} {N : ST} {i : Int} {n : Node} {T : TA} {M : Int → Bool} {len : Nat}
def Bd (N : ST) : Prop := ∀ j n, N j = some n → n.kids.length ≤ 1000 ∧ n.q.length ≤ 1000
def pNew (N : ST) (i : Int) (sid wv : Value) : ST := upd N i (some (newNode sid wv))
def pPar (N : ST) (M : Int → Bool) (b : Int) (dv : Value) : ST := if M b = true then N else md (pAdd (pNew N b dv (.int 16 0)) 0 b) b fun n => { n with act := false }
def pPut (N : ST) (b i : Int) (ex : Bool) : ST := if ex = true then pAddX N b i else pAdd N b i
def pIns (N : ST) (M : Int → Bool) (i : Int) (sid wv : Value) (b : Int) (dv : Value) (ex : Bool) : ST := pPut (pPar (pNew N i sid wv) M b dv) b i ex
/-- the parent that is asked for -/
def DepV (dv : Value) (b : Int) : Prop := (dv = .none ∧ b = 0) ∨ IdV dv b
/-- how insert_stream and reprioritize are called -/
def InsArgs (t v dv wv : Value) (ex : Bool) (pos : List Value) (kw : List (Str × Value)) : Prop :=
  (pos = [t, v, dv, wv, .bool ex] ∧ kw = []) ∨ (pos = [t, v] ∧ kw = [] ∧ dv = .none ∧ wv = .int 16 0 ∧ ex = false) ∨ (pos = [t, v, dv, wv] ∧ kw = [] ∧ ex = false) ∨ (pos = [t, v] ∧ kw = [((Str.ofString "depends_on"), dv)] ∧ wv = .int 16 0 ∧ ex = false)
theorem k_excl {b : Int} {nb ni : Node} (O : Ok (mkW prog w p loose mean mg mb) A B (fs.map (·.1)) 0) (hsh : fs.length < 53) (Hd : HdOk A B) (H : Holds G N σ) (C : Cl N) (Bn : Bd N) (hb : N b = some nb) (hn : N i = some ni) (hbi : b ≠ i)
    (hq : ∀ G' σ', St G N σ G' (pAddX N b i) σ' → Q .none σ') : CallR (mkW prog w p loose mean mg mb) A B fs (.ref a_T__exclusive_insert) [.ref T.t, .ref (G.ad b), .ref (G.ad i)] [] σ Q X := by
  refine CallR.go O (by omega) (by rfl) (by kernel_rfl) (binds3 (p1 := "self") (p2 := "parent_stream") (p3 := "inserted_stream") (by intro _ _ _; rfl)) rfl fun L A' O' hA' => ?_
  walk_at "ss"
  refine gm_S (g := a_S_add_child_exclusive) O' H hb (by simp +decide [nodeF]) (by kernel_rfl) (by kernel_rfl) ?_
  walk_at "ss"
  have b1 := Bn _ _ hb
  have b2 := Bn _ _ hn
  refine (k_add_child_exclusive (fs := (_, _) :: fs) O'.less (by simp; omega) (Hd.same hA') H C hb hn hbi (by omega) fun G' σ' S => ?_).w
  refine ⟨trivial, ?_⟩
  walk_at "ss"
  exact hq _ _ S
theorem k_gip_hit {dv : Value} {b : Int} (O : Ok (mkW prog w p loose mean mg mb) A B (fs.map (·.1)) 0) (hsh : fs.length < 53) (h : HT T G N M len σ) (hv : nv dv = some b) (hM : M b = true)
    (hq : Q (.ref (G.ad b)) σ) : CallR (mkW prog w p loose mean mg mb) A B fs (.ref a_T__get_or_insert_parent) [.ref T.t, dv] [] σ Q X := by
  refine CallR.go O (by omega) (by rfl) (by kernel_rfl) (binds2 (p1 := "self") (p2 := "parent_stream_id") (by intro _ _; rfl)) rfl fun L A' O' hA' => ?_
  walk_at "ss"
  refine t_Exc O' ?_ fun _ _ q => q
  walk_at "ss"
  refine gt_streams O' h ?_
  walk_at "ss"
  obtain ⟨l, h1, h2, h3⟩ := h.get hv hM
  refine op_itemDict O'.g h1 h2 h3 ?_
  walk_at "ss"
  exact hq
/-- one stream more in the dict -/
theorem HT.more {l : List (Value × Value)} {key : Value} (h : HT T G N M len σ) (hl : σ T.D = some (.dict l)) (hk : nv key = some i) (hM : M i = false) (hn : N i = some n) (hz : len < 5000) :
    HT T G N (upd M i true) (len + 1) (upd σ T.D (some (.dict (dset (.n i) key (.ref (G.ad i)) l)))) ∧ Fr2 (footT T G N) σ (footT T G N) (upd σ T.D (some (.dict (dset (.n i) key (.ref (G.ad i)) l)))) := by
  obtain ⟨o1, o2, o3⟩ := h.tOff
  obtain ⟨l', h1, h2, h3, h4⟩ := h.d
  rw [hl] at h1; cases h1
  have oth : ∀ a, a ≠ T.D → upd σ T.D (some (.dict (dset (.n i) key (.ref (G.ad i)) l))) a = σ a := fun a z => upd_ne _ _ z
  have hH : Holds G N (upd σ T.D (some (.dict (dset (.n i) key (.ref (G.ad i)) l)))) := by
    refine ⟨fun j k e => (oth _ fun z => o3 ⟨j, k, e, .inl z.symm⟩).trans (h.H.node j k e), fun j k e => (oth _ fun z => o3 ⟨j, k, e, .inr (.inl z.symm)⟩).trans (h.H.kid j k e), fun j k e => ?_, h.H.injc, h.H.injq, h.H.cq, h.H.sid, h.H.wt, h.H.sz⟩
    obtain ⟨rs, a1, a2⟩ := h.H.que j k e
    refine ⟨rs, (oth _ fun z => o3 ⟨j, k, e, .inr (.inr z.symm)⟩).trans a1, a2.imp fun t e r => (oth t fun z => ?_).trans r⟩
    rw [z, hl] at r; cases r
  refine ⟨⟨hH, (oth _ o2).trans h.tr, ⟨_, upd_self _ _ _, ?_, ⟨by omega, dset_nodup (nv_dk hk) h3.2⟩, fun k => ?_⟩, fun j hj => ?_, h.z⟩, ⟨fun a c e nf => (oth a fun z => nf (.inr z)).trans e, fun a f => .inl f⟩⟩
  · rw [dset_length (by rw [h4]; simp [hM]), h2]
  · rw [dget_dset (nv_dk hk), h4]
    cases k with
    | s x => simp
    | n j =>
      by_cases z : j = i
      · subst z; simp
      · simp [z, upd]
  · by_cases z : j = i
    · subst z; exact ⟨n, hn⟩
    · rw [upd_ne _ _ z] at hj; exact h.sub j hj
theorem op_selfD {v : Value} {X0 : PySem.Str} {Q : Value → LM → AH → Prop} {Ex} {W : Wd} (h : IdV v i) (hX : X0 = "Stream %d must not depend on itself.") (hq : ∀ t, Q (.str t 0) m σ) : Op2 W A B fe fs (binaryOp .Mod) (.str X0 0) v m σ (ErQ Q) Ex := by
  subst hX
  rcases h.1 with rfl | ⟨rfl, rfl⟩
  · exact op_fmtInt (by decide +kernel) (fun u => fmt_selfD h.2 (by simpa using h.2)) hq
  · exact op_fmtBool (by decide +kernel) (fmtT_selfD (by decide) (by decide)) hq
theorem op_self {v : Value} {X0 : PySem.Str} {Q : Value → LM → AH → Prop} {Ex} {W : Wd} (h : IdV v i) (hX : X0 = "Stream %d must not depend on itself") (hq : ∀ t, Q (.str t 0) m σ) : Op2 W A B fe fs (binaryOp .Mod) (.str X0 0) v m σ (ErQ Q) Ex := by
  subst hX
  rcases h.1 with rfl | ⟨rfl, rfl⟩
  · exact op_fmtInt (by decide +kernel) (fun u => fmt_self h.2 (by simpa using h.2)) hq
  · exact op_fmtBool (by decide +kernel) (fmtT_self (by decide) (by decide)) hq
theorem op_dup {v : Value} {X0 : PySem.Str} {Q : Value → LM → AH → Prop} {Ex} {W : Wd} (h : IdV v i) (hX : X0 = "Stream %d already in tree") (hq : ∀ t, Q (.str t 0) m σ) : Op2 W A B fe fs (binaryOp .Mod) (.str X0 0) v m σ (ErQ Q) Ex := by
  subst hX
  rcases h.1 with rfl | ⟨rfl, rfl⟩
  · exact op_fmtInt (by decide +kernel) (fun u => fmt_dup h.2 (by simpa using h.2)) hq
  · exact op_fmtBool (by decide +kernel) (fmtT_dup (by decide) (by decide)) hq
theorem op_many {k : Int} {X0 : PySem.Str} {Q : Value → LM → AH → Prop} {Ex} {W : Wd} (h : k.natAbs.log2 < 1920) (hX : X0 = "Refusing to insert %d streams into priority tree at once") (hq : ∀ t, Q (.str t 0) m σ) : Op2 W A B fe fs (binaryOp .Mod) (.str X0 0) (.int k 0) m σ (ErQ Q) Ex := by
  subst hX
  exact op_fmtInt (by decide +kernel) (fun u => fmt_many h (by simpa using h)) hq
end

/-! # Co -/
set_option maxRecDepth 100000

section
variable {prog : Program} {w : World} {p : Program} {loose : List Str} {mean : ExcName → Option Value} {mg mb : Str → Option Value}
variable {A : Around} {B : Base} {fs : List (Env × LM)} {σ σ' : AH} {Q : Value → AH → Prop} {X : Value → Bool → AH → Prop}
variable {fe env : Env} {es : List Env} {u : Nat} {m : LM}
variable {G : Geo} {N : ST} {i : Int} {n : Node} {T : TA} {M : Int → Bool} {len : Nat}
theorem DepV.idv {dv : Value} {b : Int} (h : DepV dv b) (hb : b ≠ 0) : IdV dv b := h.resolve_left fun q => hb q.2
theorem op_truthy_dep {dv : Value} {b : Int} {Q : Bool → LM → AH → Prop} {X} {W : Wd} (h : DepV dv b) (hq : Q (decide (b ≠ 0)) m σ) : Op1 W A B fe fs truthy dv m σ Q X := by
  rcases h with ⟨rfl, rfl⟩ | h
  · exact op_truthy_none (by simpa using hq)
  · rcases h.1 with rfl | ⟨rfl, rfl⟩
    · refine op_truthy_int ?_
      have : (b != 0) = decide (b ≠ 0) := by by_cases z : b = 0 <;> simp [z]
      rw [this]; exact hq
    · exact op_truthy_bool (by simpa using hq)
theorem pNew_self {sid wv : Value} : pNew N i sid wv i = some (newNode sid wv) := upd_self _ _ _
theorem Cl.new {sid wv : Value} (C : Cl N) (hN : N i = none) : Cl (pNew N i sid wv) := fun j k e => by
  have dm : ∀ j k, N j = some k → ∃ k', pNew N i sid wv j = some k' := fun j k e => by
    by_cases z : j = i
    · subst z; exact ⟨_, pNew_self⟩
    · exact ⟨k, (upd_ne _ _ z).trans e⟩
  by_cases z : j = i
  · subst z
    rw [pNew_self] at e; cases e
    exact ⟨(fun e he => by cases he), (fun k hk => by cases hk)⟩
  · unfold pNew at e
    rw [upd_ne _ _ z] at e
    obtain ⟨c1, c2⟩ := C j k e
    exact ⟨fun d hd => by obtain ⟨x, hx⟩ := c1 d hd; exact dm _ _ hx, fun d hd => by obtain ⟨x, hx⟩ := c2 d hd; exact dm _ _ hx⟩
theorem Bd.new {sid wv : Value} (C : Bd N) : Bd (pNew N i sid wv) := fun j k e => by
  by_cases z : j = i
  · subst z
    rw [pNew_self] at e; cases e
    exact ⟨Nat.zero_le _, Nat.zero_le _⟩
  · unfold pNew at e
    rw [upd_ne _ _ z] at e
    exact C j k e
theorem pPut_dom {b i j : Int} {ex : Bool} : (∃ k, pPut N b i ex j = some k) ↔ ∃ k, N j = some k := by
  unfold pPut
  cases ex with
  | false => rw [if_neg (by decide), pAdd_dom]
  | true =>
    rw [if_pos rfl]
    unfold pAddX
    cases N b with
    | none => rfl
    | some nb => dsimp only; rw [pAdds_dom, pAdd_dom, md_dom]
set_option maxHeartbeats 4000000 in
/-- an insert, given what the asking for the parent does -/
theorem k_ins_with {v dv wv : Value} {b : Int} {ex : Bool} {pos : List Value} {kw : List (Str × Value)} {N₂ : ST} {M₂ : Int → Bool} {len₂ : Nat} {nb : Node} (ha : InsArgs (.ref T.t) v dv wv ex pos kw)
    (O : Ok (mkW prog w p loose mean mg mb) A B (fs.map (·.1)) 0) (hsh : fs.length < 50) (Hd : HdOk A B) (h : HT T G N M len σ) (hv : IdV v i) (hM : M i = false) (hN : N i = none) (hr : NoRef N i) (hd : DepV dv b) (hbi : b ≠ i) (hw : Wt wv) (hwe : er wv = wv)
    (hroom : (len : Int) + 1 ≤ T.mx)
    (hg : ∀ (dv' : Value) {A' : Around} {fs' : List (Env × LM)} {G₁ : Geo} {σ₁ : AH} {Q : Value → AH → Prop} {X : Value → Bool → AH → Prop}, nv dv' = some b → (b ≠ 0 → dv' = dv) → Ok (mkW prog w p loose mean mg mb) A' B (fs'.map (·.1)) 0 → fs'.length = fs.length + 1 → A'.handled = A.handled →
      HT T G₁ (pNew N i v wv) M len σ₁ → (∀ G₂ σ₂, StT T G₁ (pNew N i v wv) σ₁ G₂ N₂ M₂ len₂ σ₂ → (∀ j k, pNew N i v wv j = some k → G₂.ad j = G₁.ad j) → Q (.ref (G₂.ad b)) σ₂) → CallR (mkW prog w p loose mean mg mb) A' B fs' (.ref a_T__get_or_insert_parent) [.ref T.t, dv'] [] σ₁ Q X)
    (hb₂ : N₂ b = some nb) (hi₂ : ∃ n, N₂ i = some n) (C₂ : Cl N₂) (B₂ : Bd N₂) (hM₂ : M₂ i = false) (hl₂ : len₂ < 5000) (dm₂ : ∀ j k, pNew N i v wv j = some k → ∃ k', N₂ j = some k')
    (hq : ∀ G' σ', StT T G N σ G' (pPut N₂ b i ex) (upd M₂ i true) (len₂ + 1) σ' → (∀ j k, N j = some k → G'.ad j = G.ad j) → Q .none σ') : CallR (mkW prog w p loose mean mg mb) A B fs (.ref a_T_insert_stream) pos kw σ Q X := by
  refine CallR.go (bs := [("self", .ref T.t), ("stream_id", v), ("depends_on", dv), ("weight", wv), ("exclusive", .bool ex)]) O (by omega) (by rfl) (by kernel_rfl) ?_ rfl fun L A' O' hA' => ?_
  · rcases ha with ⟨rfl, rfl⟩ | ⟨rfl, rfl, rfl, rfl, rfl⟩ | ⟨rfl, rfl, rfl⟩ | ⟨rfl, rfl, rfl, rfl⟩
    · exact binds5_5 rfl rfl rfl (by intro _ _ _ _ _; rfl) (by intro _ _ _ _ _; rfl)
    · refine binds5_2 (v3 := .none) (v4 := .int 16 ?_) (v5 := .bool false) rfl rfl rfl (by intro _ _; rfl) (by intro _ _; rfl)
    · exact binds5_4 (v5 := .bool false) rfl rfl rfl (by intro _ _ _ _; rfl) (by intro _ _ _ _; rfl)
    · refine binds5_2k (v4 := .int 16 ?_) (v5 := .bool false) rfl rfl rfl (by intro _ _ _; rfl) (by intro _ _ _; rfl)
  walk_at "ss"
  refine gt_streams O' h ?_
  obtain ⟨l, h1, h2, h3⟩ := h.miss hv.nv hM
  refine op_inDict O'.g h1 h2 ?_
  rw [h3]
  refine op_truthy_bool (ch_f ?_)
  walk_at "ss"
  refine gt_streams O' h ?_
  walk_at "ss"
  have hlen : l.length = len ∧ len ≤ 5000 := by
    obtain ⟨l', g1, g2, g3, _⟩ := h.d
    rw [h1] at g1; cases g1; exact ⟨g2, g3.1⟩
  refine call_lenDict O'.g h1 (by omega) ?_
  walk_at "ss"
  refine op_add ?_
  walk_at "ss"
  refine gt_max O' h ?_
  refine op_gt (op_truthy_bool ?_)
  rw [hlen.1, show decide ((len : Int) + 1 > T.mx) = false by simp; omega]
  refine ch_f ?_
  walk_at "ss"
  refine k_Stream (fs := (_, _) :: fs) (.inl ⟨rfl, rfl⟩) O' (by simp; omega) h.H hN hr hv.nv hv.er hw hwe fun G₁ σ₁ S₁ => ?_
  have h₁ := S₁.tree h fun j k e => by
    by_cases z : j = i
    · subst z; exact ⟨_, upd_self _ _ _⟩
    · exact ⟨k, (upd_ne _ _ z).trans e⟩
  walk_at "ss"
  refine op_truthy_dep hd ⟨fun c => ?_, fun c => ?_⟩
  · have hb0 : b = 0 := by simpa using c
    walk_at "ss"
    refine op_truthy_bool ⟨fun hex => ?_, fun hex => ?_⟩
    · subst hex
      walk_at "ss"
      refine gm_T (g := a_T__get_or_insert_parent) O' h₁.1 (by simp +decide [treeF]) (by kernel_rfl) (by kernel_rfl) ?_
      walk_at "ss"
      refine (hg (.int 0 0) (fs' := (_, _) :: fs) (by rw [hb0]; rfl) (fun z => absurd hb0 z) O'.less (by simp) hA' h₁.1 fun G₂ σ₂ S₂ ad₂ => ?_).w
      walk_at "ss"
      refine gm_T (g := a_T__exclusive_insert) O' S₂.1 (by simp +decide [treeF]) (by kernel_rfl) (by kernel_rfl) ?_
      rw [← ad₂ i _ pNew_self]
      obtain ⟨ni₂, hi₂⟩ := hi₂
      walk_at "ss"
      refine (k_excl (T := T) (fs := (_, _) :: fs) O'.less (by simp; omega) (Hd.same hA') S₂.1.H C₂ B₂ hb₂ hi₂ hbi fun G₃ σ₃ S₃ => ?_).w
      refine ⟨trivial, ?_⟩
      have h₃ := S₃.tree S₂.1 fun j k e => (by
        have := (pPut_dom (b := b) (i := i) (ex := true)).mpr ⟨k, e⟩
        unfold pPut at this; rw [if_pos rfl] at this; exact this)
      have eP : pPut N₂ b i true = pAddX N₂ b i := by unfold pPut; rw [if_pos rfl]
      rw [← eP] at h₃ S₃
      obtain ⟨n₃, hn₃⟩ := (pPut_dom (N := N₂) (b := b) (i := i) (ex := true)).mpr ⟨ni₂, hi₂⟩
      rw [← S₃.2.2 _ _ hi₂]
      walk_at "ss"
      refine gt_streams O' h₃.1 ?_
      walk_at "ss"
      obtain ⟨l₃, g1, g2, g3⟩ := h₃.1.miss hv.nv hM₂
      have gl : l₃.length ≤ 10000 := by
        obtain ⟨l', k1, k2, k3, _⟩ := h₃.1.d
        rw [g1] at k1; cases k1; omega
      refine op_setDict O'.g g1 g2 gl ?_
      obtain ⟨h₄, f₄⟩ := h₃.1.more g1 hv.nv hM₂ hn₃ hl₂
      walk_at "ss"
      exact hq _ _ ⟨h₄, ((h₁.2.trans S₂.2).trans h₃.2).trans f₄⟩ fun j k e => by
        have z : j ≠ i := fun z => by rw [z, hN] at e; cases e
        have e₁ : pNew N i v wv j = some k := (upd_ne _ _ z).trans e
        obtain ⟨k', e₂⟩ := dm₂ _ _ e₁
        rw [S₃.2.2 _ _ e₂, ad₂ _ _ e₁, S₁.2.2 _ _ e]
    · subst hex
      walk_at "ss"
      refine gm_T (g := a_T__get_or_insert_parent) O' h₁.1 (by simp +decide [treeF]) (by kernel_rfl) (by kernel_rfl) ?_
      walk_at "ss"
      refine (hg (.int 0 0) (fs' := (_, _) :: fs) (by rw [hb0]; rfl) (fun z => absurd hb0 z) O'.less (by simp) hA' h₁.1 fun G₂ σ₂ S₂ ad₂ => ?_).w
      obtain ⟨ni₂, hi₂⟩ := hi₂
      rw [← ad₂ i _ pNew_self]
      walk_at "ss"
      refine gm_S (g := a_S_add_child) O' S₂.1.H hb₂ (by simp +decide [nodeF]) (by kernel_rfl) (by kernel_rfl) ?_
      walk_at "ss"
      have bb := B₂ _ _ hb₂
      refine (k_add_child (fs := (_, _) :: fs) O'.less (by simp; omega) S₂.1.H C₂ hb₂ hi₂ (by omega) fun σ₃ S₃ => ?_).w
      refine ⟨trivial, ?_⟩
      have h₃ := S₃.tree S₂.1 fun j k e => pAdd_dom.mpr ⟨k, e⟩
      have eP : pPut N₂ b i false = pAdd N₂ b i := by unfold pPut; rw [if_neg (by decide)]
      rw [← eP] at h₃ S₃
      obtain ⟨n₃, hn₃⟩ := (pPut_dom (N := N₂) (b := b) (i := i) (ex := false)).mpr ⟨ni₂, hi₂⟩
      walk_at "ss"
      refine gt_streams O' h₃.1 ?_
      walk_at "ss"
      obtain ⟨l₃, g1, g2, g3⟩ := h₃.1.miss hv.nv hM₂
      have gl : l₃.length ≤ 10000 := by
        obtain ⟨l', k1, k2, k3, _⟩ := h₃.1.d
        rw [g1] at k1; cases k1; omega
      refine op_setDict O'.g g1 g2 gl ?_
      obtain ⟨h₄, f₄⟩ := h₃.1.more g1 hv.nv hM₂ hn₃ hl₂
      walk_at "ss"
      exact hq _ _ ⟨h₄, ((h₁.2.trans S₂.2).trans h₃.2).trans f₄⟩ fun j k e => by
        have z : j ≠ i := fun z => by rw [z, hN] at e; cases e
        have e₁ : pNew N i v wv j = some k := (upd_ne _ _ z).trans e
        rw [ad₂ _ _ e₁, S₁.2.2 _ _ e]
  · have hb0 : b ≠ 0 := by simpa using c
    have hdv := hd.idv hb0
    walk_at "ss"
    refine op_eqP (a := some (.n b)) (b := some (.n i)) (pk_nv hdv.nv) (pk_nv hv.nv) (op_truthy_bool ?_)
    rw [show decide (some (DK.n b) = some (DK.n i)) = false by simpa using hbi]
    refine ch_f ?_
    walk_at "ss"
    refine op_truthy_bool ⟨fun hex => ?_, fun hex => ?_⟩
    · subst hex
      walk_at "ss"
      refine gm_T (g := a_T__get_or_insert_parent) O' h₁.1 (by simp +decide [treeF]) (by kernel_rfl) (by kernel_rfl) ?_
      walk_at "ss"
      refine (hg dv (fs' := (_, _) :: fs) hdv.nv (fun _ => rfl) O'.less (by simp) hA' h₁.1 fun G₂ σ₂ S₂ ad₂ => ?_).w
      walk_at "ss"
      refine gm_T (g := a_T__exclusive_insert) O' S₂.1 (by simp +decide [treeF]) (by kernel_rfl) (by kernel_rfl) ?_
      rw [← ad₂ i _ pNew_self]
      obtain ⟨ni₂, hi₂⟩ := hi₂
      walk_at "ss"
      refine (k_excl (T := T) (fs := (_, _) :: fs) O'.less (by simp; omega) (Hd.same hA') S₂.1.H C₂ B₂ hb₂ hi₂ hbi fun G₃ σ₃ S₃ => ?_).w
      refine ⟨trivial, ?_⟩
      have h₃ := S₃.tree S₂.1 fun j k e => (by
        have := (pPut_dom (b := b) (i := i) (ex := true)).mpr ⟨k, e⟩
        unfold pPut at this; rw [if_pos rfl] at this; exact this)
      have eP : pPut N₂ b i true = pAddX N₂ b i := by unfold pPut; rw [if_pos rfl]
      rw [← eP] at h₃ S₃
      obtain ⟨n₃, hn₃⟩ := (pPut_dom (N := N₂) (b := b) (i := i) (ex := true)).mpr ⟨ni₂, hi₂⟩
      rw [← S₃.2.2 _ _ hi₂]
      walk_at "ss"
      refine gt_streams O' h₃.1 ?_
      walk_at "ss"
      obtain ⟨l₃, g1, g2, g3⟩ := h₃.1.miss hv.nv hM₂
      have gl : l₃.length ≤ 10000 := by
        obtain ⟨l', k1, k2, k3, _⟩ := h₃.1.d
        rw [g1] at k1; cases k1; omega
      refine op_setDict O'.g g1 g2 gl ?_
      obtain ⟨h₄, f₄⟩ := h₃.1.more g1 hv.nv hM₂ hn₃ hl₂
      walk_at "ss"
      exact hq _ _ ⟨h₄, ((h₁.2.trans S₂.2).trans h₃.2).trans f₄⟩ fun j k e => by
        have z : j ≠ i := fun z => by rw [z, hN] at e; cases e
        have e₁ : pNew N i v wv j = some k := (upd_ne _ _ z).trans e
        obtain ⟨k', e₂⟩ := dm₂ _ _ e₁
        rw [S₃.2.2 _ _ e₂, ad₂ _ _ e₁, S₁.2.2 _ _ e]
    · subst hex
      walk_at "ss"
      refine gm_T (g := a_T__get_or_insert_parent) O' h₁.1 (by simp +decide [treeF]) (by kernel_rfl) (by kernel_rfl) ?_
      walk_at "ss"
      refine (hg dv (fs' := (_, _) :: fs) hdv.nv (fun _ => rfl) O'.less (by simp) hA' h₁.1 fun G₂ σ₂ S₂ ad₂ => ?_).w
      obtain ⟨ni₂, hi₂⟩ := hi₂
      rw [← ad₂ i _ pNew_self]
      walk_at "ss"
      refine gm_S (g := a_S_add_child) O' S₂.1.H hb₂ (by simp +decide [nodeF]) (by kernel_rfl) (by kernel_rfl) ?_
      walk_at "ss"
      have bb := B₂ _ _ hb₂
      refine (k_add_child (fs := (_, _) :: fs) O'.less (by simp; omega) S₂.1.H C₂ hb₂ hi₂ (by omega) fun σ₃ S₃ => ?_).w
      refine ⟨trivial, ?_⟩
      have h₃ := S₃.tree S₂.1 fun j k e => pAdd_dom.mpr ⟨k, e⟩
      have eP : pPut N₂ b i false = pAdd N₂ b i := by unfold pPut; rw [if_neg (by decide)]
      rw [← eP] at h₃ S₃
      obtain ⟨n₃, hn₃⟩ := (pPut_dom (N := N₂) (b := b) (i := i) (ex := false)).mpr ⟨ni₂, hi₂⟩
      walk_at "ss"
      refine gt_streams O' h₃.1 ?_
      walk_at "ss"
      obtain ⟨l₃, g1, g2, g3⟩ := h₃.1.miss hv.nv hM₂
      have gl : l₃.length ≤ 10000 := by
        obtain ⟨l', k1, k2, k3, _⟩ := h₃.1.d
        rw [g1] at k1; cases k1; omega
      refine op_setDict O'.g g1 g2 gl ?_
      obtain ⟨h₄, f₄⟩ := h₃.1.more g1 hv.nv hM₂ hn₃ hl₂
      walk_at "ss"
      exact hq _ _ ⟨h₄, ((h₁.2.trans S₂.2).trans h₃.2).trans f₄⟩ fun j k e => by
        have z : j ≠ i := fun z => by rw [z, hN] at e; cases e
        have e₁ : pNew N i v wv j = some k := (upd_ne _ _ z).trans e
        rw [ad₂ _ _ e₁, S₁.2.2 _ _ e]
end

/-! # Cq -/
set_option maxRecDepth 100000

section
variable {prog : Program} {w : World} {p : Program} {loose : List Str} {mean : ExcName → Option Value} {mg mb : Str → Option Value}
variable {A : Around} {B : Base} {fs : List (Env × LM)} {σ σ' : AH} {Q : Value → AH → Prop} {X : Value → Bool → AH → Prop}
variable {fe env : Env} {es : List Env} {u : Nat} {m : LM}
variable {G : Geo} {N : ST} {i : Int} {n : Node} {T : TA} {M : Int → Bool} {len : Nat}
/-- an insert beneath one that is there -/
theorem k_ins0 {v dv wv : Value} {b : Int} {ex : Bool} {pos : List Value} {kw : List (Str × Value)} (ha : InsArgs (.ref T.t) v dv wv ex pos kw)
    (O : Ok (mkW prog w p loose mean mg mb) A B (fs.map (·.1)) 0) (hsh : fs.length < 50) (Hd : HdOk A B) (h : HT T G N M len σ) (C : Cl N) (Bn : Bd N) (hv : IdV v i) (hM : M i = false) (hN : N i = none) (hr : NoRef N i) (hd : DepV dv b) (hbi : b ≠ i) (hMb : M b = true) (hw : Wt wv) (hwe : er wv = wv)
    (hroom : (len : Int) + 1 ≤ T.mx) (hl : len < 5000)
    (hq : ∀ G' σ', StT T G N σ G' (pPut (pNew N i v wv) b i ex) (upd M i true) (len + 1) σ' → (∀ j k, N j = some k → G'.ad j = G.ad j) → Q .none σ') : CallR (mkW prog w p loose mean mg mb) A B fs (.ref a_T_insert_stream) pos kw σ Q X := by
  obtain ⟨nb, hb⟩ := h.sub b hMb
  have hb' : pNew N i v wv b = some nb := (upd_ne _ _ hbi).trans hb
  refine k_ins_with ha O hsh Hd h hv hM hN hr hd hbi hw hwe hroom (N₂ := pNew N i v wv) (M₂ := M) (len₂ := len) (fun dv' {A'} {fs'} {G₁} {σ₁} {Q} {X} hdv _ O₁ hf hA h₁ hq₁ => ?_) hb' ⟨_, pNew_self⟩ (C.new hN) Bn.new hM hl (fun j k e => ⟨k, e⟩) hq
  exact k_gip_hit O₁ (by omega) h₁ hdv hMb (hq₁ _ _ (.refl h₁) fun _ _ _ => rfl)
def pParB (N : ST) (b : Int) (dv : Value) : ST := md (pAdd (pNew N b dv (.int 16 0)) 0 b) b fun n => { n with act := false }
theorem k_gip_miss {dv : Value} {b : Int} (O : Ok (mkW prog w p loose mean mg mb) A B (fs.map (·.1)) 0) (hsh : fs.length < 48) (hA : A.handled = none) (h : HT T G N M len σ) (C : Cl N) (Bn : Bd N) (hv : IdV dv b) (hb0 : b ≠ 0) (hM : M b = false) (hM0 : M 0 = true) (hN : N b = none) (hr : NoRef N b)
    (hroom : (len : Int) + 1 ≤ T.mx) (hl : len < 5000)
    (hq : ∀ G' σ', StT T G N σ G' (pParB N b dv) (upd M b true) (len + 1) σ' → (∀ j k, N j = some k → G'.ad j = G.ad j) → Q (.ref (G'.ad b)) σ') : CallR (mkW prog w p loose mean mg mb) A B fs (.ref a_T__get_or_insert_parent) [.ref T.t, dv] [] σ Q X := by
  refine CallR.go O (by omega) (by rfl) (by kernel_rfl) (binds2 (p1 := "self") (p2 := "parent_stream_id") (by intro _ _; rfl)) rfl fun L A' O' hA' => ?_
  walk_at "ss"
  refine t_Exc O' ?_ fun _ _ q => q
  walk_at "ss"
  refine gt_streams O' h ?_
  walk_at "ss"
  obtain ⟨l, h1, h2, h3⟩ := h.miss hv.nv hM
  refine op_itemDict_none O'.g (hA'.trans hA) h1 h2 h3 ?_
  refine hit_KeyError O'.g (by kernel_rfl) (by kernel_rfl) (by kernel_rfl) fun A₂ B₂ hB hO hH => ?_
  have O₂ := hO _ _ O'
  have Hd₂ : HdOk A₂ B₂ := hH rfl
  walk_at "ss"
  refine gm_T (g := a_T_insert_stream) O₂ h (by simp +decide [treeF]) (by kernel_rfl) (by kernel_rfl) ?_
  walk_at "ss"
  refine (k_ins0 (dv := .none) (wv := .int 16 0) (b := 0) (ex := false) (fs := (_, _) :: fs) (.inr (.inl ⟨rfl, rfl, rfl, rfl, rfl⟩)) O₂.less (by simp; omega) Hd₂ h C Bn hv hM hN hr (.inl ⟨rfl, rfl⟩) (Ne.symm hb0) hM0 ⟨16, rfl, by decide, by decide⟩ rfl hroom hl fun G₁ σ₁ S₁ ad₁ => ?_).w
  refine ⟨trivial, ?_⟩
  have eP : pPut (pNew N b dv (.int 16 0)) 0 b false = pAdd (pNew N b dv (.int 16 0)) 0 b := by unfold pPut; rw [if_neg (by decide)]
  rw [eP] at S₁
  have hb₁ : upd M b true b = true := upd_self _ _ _
  walk_at "ss"
  refine gm_T (g := a_T_block) O₂ S₁.1 (by simp +decide [treeF]) (by kernel_rfl) (by kernel_rfl) ?_
  walk_at "ss"
  refine (k_block (fs := (_, _) :: fs) O₂.less (by simp; omega) Hd₂ S₁.1 hv hb0 hb₁ fun σ₂ S₂ => ?_).w
  refine ⟨trivial, ?_⟩
  walk_at "ss"
  refine gt_streams O₂ S₂.1 ?_
  walk_at "ss"
  obtain ⟨l₂, g1, g2, g3⟩ := S₂.1.get hv.nv hb₁
  refine op_itemDict O₂.g g1 g2 g3 ?_
  walk_at "ss"
  exact hq _ _ (S₁.trans S₂) ad₁
/-- an insert beneath one that is not there -/
theorem k_ins1 {v dv wv : Value} {b : Int} {ex : Bool} {pos : List Value} {kw : List (Str × Value)} {nb : Node} (ha : InsArgs (.ref T.t) v dv wv ex pos kw)
    (O : Ok (mkW prog w p loose mean mg mb) A B (fs.map (·.1)) 0) (hsh : fs.length < 46) (hA : A.handled = none) (h : HT T G N M len σ) (C : Cl N) (Bn : Bd N) (hv : IdV v i) (hM : M i = false) (hN : N i = none) (hr : NoRef N i) (hd : IdV dv b) (hbi : b ≠ i) (hb0 : b ≠ 0) (hMb : M b = false) (hM0 : M 0 = true)
    (hNb : N b = none) (hrb : NoRef (pNew N i v wv) b) (hw : Wt wv) (hwe : er wv = wv) (hroom : (len : Int) + 2 ≤ T.mx) (hl : len < 4000) (B₂ : Bd (pParB (pNew N i v wv) b dv)) (hb₂ : pParB (pNew N i v wv) b dv b = some nb)
    (hq : ∀ G' σ', StT T G N σ G' (pPut (pParB (pNew N i v wv) b dv) b i ex) (upd (upd M b true) i true) (len + 2) σ' → Q .none σ') : CallR (mkW prog w p loose mean mg mb) A B fs (.ref a_T_insert_stream) pos kw σ Q X := by
  have dm : ∀ j, (∃ k, pParB (pNew N i v wv) b dv j = some k) ↔ ∃ k, pNew (pNew N i v wv) b dv (.int 16 0) j = some k := fun j => by unfold pParB; rw [md_dom, pAdd_dom]
  have dm₂ : ∀ j k, pNew N i v wv j = some k → ∃ k', pParB (pNew N i v wv) b dv j = some k' := fun j k e => (dm j).mpr (by
    by_cases z : j = b
    · subst z; exact ⟨_, pNew_self⟩
    · exact ⟨k, (upd_ne _ _ z).trans e⟩)
  have Nb : pNew N i v wv b = none := (upd_ne _ _ hbi).trans hNb
  have C₂ : Cl (pParB (pNew N i v wv) b dv) := Cl.keep (f := fun n => { n with act := false }) (Cl.pAdd ((C.new hN).new Nb) ⟨_, pNew_self⟩) fun _ => ⟨rfl, rfl⟩
  refine k_ins_with ha O (by omega) (.inl hA) h hv hM hN hr (.inr hd) hbi hw hwe (by omega) (N₂ := pParB (pNew N i v wv) b dv) (M₂ := upd M b true) (len₂ := len + 1) (fun dv' {A'} {fs'} {G₁} {σ₁} {Q} {X} hdv hdv2 O₁ hf hA₁ h₁ hq₁ => ?_) hb₂ ?_ C₂ B₂ ((upd_ne _ _ (Ne.symm hbi)).trans hM) (by omega) dm₂ fun G' σ' S _ => hq G' σ' S
  · obtain rfl := hdv2 hb0
    exact k_gip_miss O₁ (by omega) (hA₁.trans hA) h₁ (C.new hN) Bn.new hd hb0 hMb hM0 Nb hrb (by omega) (by omega) hq₁
  · exact dm₂ _ _ pNew_self
end

/-! # Cr -/
set_option maxRecDepth 100000

section
variable {prog : Program} {w : World} {p : Program} {loose : List Str} {mean : ExcName → Option Value} {mg mb : Str → Option Value}
variable {A : Around} {B : Base} {fs : List (Env × LM)} {σ σ' : AH} {Q : Value → AH → Prop} {X : Value → Bool → AH → Prop}
variable {fe env : Env} {es : List Env} {u : Nat} {m : LM}
variable {G : Geo} {N : ST} {i : Int} {n : Node} {T : TA} {M : Int → Bool} {len : Nat}
theorem k_ins_dup {v dv wv : Value} {ex : Bool} {pos : List Value} {kw : List (Str × Value)} (ha : InsArgs (.ref T.t) v dv wv ex pos kw) (O : Ok (mkW prog w p loose mean mg mb) A B (fs.map (·.1)) 0) (hsh : fs.length < 50) (Hd : HdOk A B) (h : HT T G N M len σ) (hv : IdV v i) (hM : M i = true)
    (hx : ∀ ctx, X (.ref c_DuplicateStreamError) ctx σ) : CallR (mkW prog w p loose mean mg mb) A B fs (.ref a_T_insert_stream) pos kw σ Q X := by
  refine CallR.go (bs := [("self", .ref T.t), ("stream_id", v), ("depends_on", dv), ("weight", wv), ("exclusive", .bool ex)]) O (by omega) (by rfl) (by kernel_rfl) ?_ rfl fun L A' O' hA' => ?_
  · rcases ha with ⟨rfl, rfl⟩ | ⟨rfl, rfl, rfl, rfl, rfl⟩ | ⟨rfl, rfl, rfl⟩ | ⟨rfl, rfl, rfl, rfl⟩
    · exact binds5_5 rfl rfl rfl (by intro _ _ _ _ _; rfl) (by intro _ _ _ _ _; rfl)
    · refine binds5_2 (v3 := .none) (v4 := .int 16 ?_) (v5 := .bool false) rfl rfl rfl (by intro _ _; rfl) (by intro _ _; rfl)
    · exact binds5_4 (v5 := .bool false) rfl rfl rfl (by intro _ _ _ _; rfl) (by intro _ _ _ _; rfl)
    · refine binds5_2k (v4 := .int 16 ?_) (v5 := .bool false) rfl rfl rfl (by intro _ _ _; rfl) (by intro _ _ _; rfl)
  walk_at "ss"
  refine gt_streams O' h ?_
  obtain ⟨l, h1, h2, h3⟩ := h.get hv.nv hM
  refine op_inDict O'.g h1 h2 ?_
  rw [h3]
  refine op_truthy_bool (ch_t ?_)
  walk_at "ss"
  refine t_Raise O' (Hd.same hA') ?_
  walk_at "ss"
  refine op_dup hv rfl fun t => ?_
  walk_at "ss"
  refine ce_own (x := "DuplicateStreamError") O' (by kernel_rfl) (by kernel_rfl) fun e he => ?_
  exact ⟨e, _, σ, rfl, he, rfl, ⟨by kernel_rfl, by kernel_rfl⟩, fun ctx _ => hx ctx⟩
theorem k_ins_many {v dv wv : Value} {ex : Bool} {pos : List Value} {kw : List (Str × Value)} (ha : InsArgs (.ref T.t) v dv wv ex pos kw) (O : Ok (mkW prog w p loose mean mg mb) A B (fs.map (·.1)) 0) (hsh : fs.length < 50) (Hd : HdOk A B) (h : HT T G N M len σ) (hv : IdV v i) (hM : M i = false) (hroom : ¬ (len : Int) + 1 ≤ T.mx) (hmx : 0 ≤ T.mx ∧ T.mx < 10000)
    (hx : ∀ ctx, X (.ref c_TooManyStreamsError) ctx σ) : CallR (mkW prog w p loose mean mg mb) A B fs (.ref a_T_insert_stream) pos kw σ Q X := by
  refine CallR.go (bs := [("self", .ref T.t), ("stream_id", v), ("depends_on", dv), ("weight", wv), ("exclusive", .bool ex)]) O (by omega) (by rfl) (by kernel_rfl) ?_ rfl fun L A' O' hA' => ?_
  · rcases ha with ⟨rfl, rfl⟩ | ⟨rfl, rfl, rfl, rfl, rfl⟩ | ⟨rfl, rfl, rfl⟩ | ⟨rfl, rfl, rfl, rfl⟩
    · exact binds5_5 rfl rfl rfl (by intro _ _ _ _ _; rfl) (by intro _ _ _ _ _; rfl)
    · refine binds5_2 (v3 := .none) (v4 := .int 16 ?_) (v5 := .bool false) rfl rfl rfl (by intro _ _; rfl) (by intro _ _; rfl)
    · exact binds5_4 (v5 := .bool false) rfl rfl rfl (by intro _ _ _ _; rfl) (by intro _ _ _ _; rfl)
    · refine binds5_2k (v4 := .int 16 ?_) (v5 := .bool false) rfl rfl rfl (by intro _ _ _; rfl) (by intro _ _ _; rfl)
  walk_at "ss"
  refine gt_streams O' h ?_
  obtain ⟨l, h1, h2, h3⟩ := h.miss hv.nv hM
  refine op_inDict O'.g h1 h2 ?_
  rw [h3]
  refine op_truthy_bool (ch_f ?_)
  walk_at "ss"
  refine gt_streams O' h ?_
  walk_at "ss"
  have hlen : l.length = len ∧ len ≤ 5000 := by
    obtain ⟨l', g1, g2, g3, _⟩ := h.d
    rw [h1] at g1; cases g1; exact ⟨g2, g3.1⟩
  refine call_lenDict O'.g h1 (by omega) ?_
  walk_at "ss"
  refine op_add ?_
  walk_at "ss"
  refine gt_max O' h ?_
  refine op_gt (op_truthy_bool ?_)
  rw [hlen.1, show decide ((len : Int) + 1 > T.mx) = true by simp; omega]
  refine ch_t ?_
  walk_at "ss"
  refine t_Raise O' (Hd.same hA') ?_
  walk_at "ss"
  refine gt_max O' h ?_
  walk_at "ss"
  refine op_add ?_
  refine op_many (by
    have h1 : (T.mx + 1).natAbs < 2 ^ 1920 := Nat.lt_of_lt_of_le (show (T.mx + 1).natAbs < 20000 by omega) (by decide)
    by_cases z : (T.mx + 1).natAbs = 0
    · rw [z]; decide
    · exact (Nat.log2_lt z).mpr h1) rfl fun t => ?_
  walk_at "ss"
  refine ce_own (x := "TooManyStreamsError") O' (by kernel_rfl) (by kernel_rfl) fun e he => ?_
  exact ⟨e, _, σ, rfl, he, rfl, ⟨by kernel_rfl, by kernel_rfl⟩, fun ctx _ => hx ctx⟩
theorem k_ins_bad {v dv wv : Value} {ex : Bool} {pos : List Value} {kw : List (Str × Value)} (ha : InsArgs (.ref T.t) v dv wv ex pos kw) (O : Ok (mkW prog w p loose mean mg mb) A B (fs.map (·.1)) 0) (hsh : fs.length < 50) (Hd : HdOk A B) (h : HT T G N M len σ) (hv : IdV v i) (hM : M i = false) (hroom : (len : Int) + 1 ≤ T.mx) (hw : (∃ s, wv = .str s 0) ∨ ((∃ k, nv wv = some k ∧ ¬ (1 ≤ k ∧ k ≤ 256)) ∧ er wv = wv))
    (hx : ∀ ctx σ', (∀ a c, σ a = some c → σ' a = some c) → X (.ref c_BadWeightError) ctx σ') : CallR (mkW prog w p loose mean mg mb) A B fs (.ref a_T_insert_stream) pos kw σ Q X := by
  refine CallR.go (bs := [("self", .ref T.t), ("stream_id", v), ("depends_on", dv), ("weight", wv), ("exclusive", .bool ex)]) O (by omega) (by rfl) (by kernel_rfl) ?_ rfl fun L A' O' hA' => ?_
  · rcases ha with ⟨rfl, rfl⟩ | ⟨rfl, rfl, rfl, rfl, rfl⟩ | ⟨rfl, rfl, rfl⟩ | ⟨rfl, rfl, rfl, rfl⟩
    · exact binds5_5 rfl rfl rfl (by intro _ _ _ _ _; rfl) (by intro _ _ _ _ _; rfl)
    · refine binds5_2 (v3 := .none) (v4 := .int 16 ?_) (v5 := .bool false) rfl rfl rfl (by intro _ _; rfl) (by intro _ _; rfl)
    · exact binds5_4 (v5 := .bool false) rfl rfl rfl (by intro _ _ _ _; rfl) (by intro _ _ _ _; rfl)
    · refine binds5_2k (v4 := .int 16 ?_) (v5 := .bool false) rfl rfl rfl (by intro _ _ _; rfl) (by intro _ _ _; rfl)
  walk_at "ss"
  refine gt_streams O' h ?_
  obtain ⟨l, h1, h2, h3⟩ := h.miss hv.nv hM
  refine op_inDict O'.g h1 h2 ?_
  rw [h3]
  refine op_truthy_bool (ch_f ?_)
  walk_at "ss"
  refine gt_streams O' h ?_
  walk_at "ss"
  have hlen : l.length = len ∧ len ≤ 5000 := by
    obtain ⟨l', g1, g2, g3, _⟩ := h.d
    rw [h1] at g1; cases g1; exact ⟨g2, g3.1⟩
  refine call_lenDict O'.g h1 (by omega) ?_
  walk_at "ss"
  refine op_add ?_
  walk_at "ss"
  refine gt_max O' h ?_
  refine op_gt (op_truthy_bool ?_)
  rw [hlen.1, show decide ((len : Int) + 1 > T.mx) = false by simp; omega]
  refine ch_f ?_
  walk_at "ss"
  exact k_Stream_bad (fs := (_, _) :: fs) O' (by simp; omega) (Hd.same hA') hw fun ctx σ' k _ => hx ctx σ' k
theorem St.drop {G' : Geo} {n' : Node} (h : HT T G N M len σ) (hN : N i = none) (S : St G N σ G' (upd N i (some n')) σ') : StT T G N σ G' N M len σ' := by
  have h' := S.tree h fun j k e => by
    by_cases z : j = i
    · subst z; exact ⟨_, upd_self _ _ _⟩
    · exact ⟨k, (upd_ne _ _ z).trans e⟩
  have le : ∀ j k, N j = some k → upd N i (some n') j = some k := fun j k e => (upd_ne _ _ fun z => by rw [z, hN] at e; cases e).trans e
  refine ⟨⟨h'.1.H.less le, h'.1.tr, h'.1.d, h.sub, h.z⟩, ⟨h'.2.1, fun a f => h'.2.2 a (f.imp (fun f => foot_dom (fun j k e => ⟨k, le j k e⟩) f) id)⟩⟩
theorem k_ins_self {v dv wv : Value} {ex : Bool} {pos : List Value} {kw : List (Str × Value)} (ha : InsArgs (.ref T.t) v dv wv ex pos kw) (O : Ok (mkW prog w p loose mean mg mb) A B (fs.map (·.1)) 0) (hsh : fs.length < 50) (Hd : HdOk A B) (h : HT T G N M len σ) (hv : IdV v i) (hM : M i = false) (hN : N i = none) (hr : NoRef N i) (hd : IdV dv i) (hi0 : i ≠ 0) (hw : Wt wv) (hwe : er wv = wv) (hroom : (len : Int) + 1 ≤ T.mx)
    (hx : ∀ ctx G' σ', StT T G N σ G' N M len σ' → X (.ref c_PriorityLoop) ctx σ') : CallR (mkW prog w p loose mean mg mb) A B fs (.ref a_T_insert_stream) pos kw σ Q X := by
  refine CallR.go (bs := [("self", .ref T.t), ("stream_id", v), ("depends_on", dv), ("weight", wv), ("exclusive", .bool ex)]) O (by omega) (by rfl) (by kernel_rfl) ?_ rfl fun L A' O' hA' => ?_
  · rcases ha with ⟨rfl, rfl⟩ | ⟨rfl, rfl, rfl, rfl, rfl⟩ | ⟨rfl, rfl, rfl⟩ | ⟨rfl, rfl, rfl, rfl⟩
    · exact binds5_5 rfl rfl rfl (by intro _ _ _ _ _; rfl) (by intro _ _ _ _ _; rfl)
    · refine binds5_2 (v3 := .none) (v4 := .int 16 ?_) (v5 := .bool false) rfl rfl rfl (by intro _ _; rfl) (by intro _ _; rfl)
    · exact binds5_4 (v5 := .bool false) rfl rfl rfl (by intro _ _ _ _; rfl) (by intro _ _ _ _; rfl)
    · refine binds5_2k (v4 := .int 16 ?_) (v5 := .bool false) rfl rfl rfl (by intro _ _ _; rfl) (by intro _ _ _; rfl)
  walk_at "ss"
  refine gt_streams O' h ?_
  obtain ⟨l, h1, h2, h3⟩ := h.miss hv.nv hM
  refine op_inDict O'.g h1 h2 ?_
  rw [h3]
  refine op_truthy_bool (ch_f ?_)
  walk_at "ss"
  refine gt_streams O' h ?_
  walk_at "ss"
  have hlen : l.length = len ∧ len ≤ 5000 := by
    obtain ⟨l', g1, g2, g3, _⟩ := h.d
    rw [h1] at g1; cases g1; exact ⟨g2, g3.1⟩
  refine call_lenDict O'.g h1 (by omega) ?_
  walk_at "ss"
  refine op_add ?_
  walk_at "ss"
  refine gt_max O' h ?_
  refine op_gt (op_truthy_bool ?_)
  rw [hlen.1, show decide ((len : Int) + 1 > T.mx) = false by simp; omega]
  refine ch_f ?_
  walk_at "ss"
  refine k_Stream (fs := (_, _) :: fs) (.inl ⟨rfl, rfl⟩) O' (by simp; omega) h.H hN hr hv.nv hv.er hw hwe fun G₁ σ₁ S₁ => ?_
  walk_at "ss"
  refine op_truthy_dep (.inr hd) ⟨fun c => by simp [hi0] at c, fun _ => ?_⟩
  walk_at "ss"
  refine op_eqP (a := some (.n i)) (b := some (.n i)) (pk_nv hd.nv) (pk_nv hv.nv) (op_truthy_bool ?_)
  rw [show decide (some (DK.n i) = some (DK.n i)) = true by simp]
  refine ch_t ?_
  walk_at "ss"
  refine t_Raise O' (Hd.same hA') ?_
  walk_at "ss"
  refine op_selfD hv rfl fun t => ?_
  walk_at "ss"
  refine ce_own (x := "PriorityLoop") O' (by kernel_rfl) (by kernel_rfl) fun e he => ?_
  exact ⟨e, _, σ₁, rfl, he, rfl, ⟨by kernel_rfl, by kernel_rfl⟩, fun ctx _ => hx ctx _ _ (S₁.drop h hN)⟩
/-- no room for the parent that is asked for -/
theorem k_gip_many {dv : Value} {b : Int} (O : Ok (mkW prog w p loose mean mg mb) A B (fs.map (·.1)) 0) (hsh : fs.length < 48) (hA : A.handled = none) (h : HT T G N M len σ) (hv : IdV dv b) (hM : M b = false) (hroom : ¬ (len : Int) + 1 ≤ T.mx) (hmx : 0 ≤ T.mx ∧ T.mx < 10000)
    (hx : ∀ ctx, X (.ref c_TooManyStreamsError) ctx σ) : CallR (mkW prog w p loose mean mg mb) A B fs (.ref a_T__get_or_insert_parent) [.ref T.t, dv] [] σ Q X := by
  refine CallR.go O (by omega) (by rfl) (by kernel_rfl) (binds2 (p1 := "self") (p2 := "parent_stream_id") (by intro _ _; rfl)) rfl fun L A' O' hA' => ?_
  walk_at "ss"
  refine t_Exc O' ?_ fun _ _ q => q
  walk_at "ss"
  refine gt_streams O' h ?_
  walk_at "ss"
  obtain ⟨l, h1, h2, h3⟩ := h.miss hv.nv hM
  refine op_itemDict_none O'.g (hA'.trans hA) h1 h2 h3 ?_
  refine hit_KeyError O'.g (by kernel_rfl) (by kernel_rfl) (by kernel_rfl) fun A₂ B₂ hB hO hH => ?_
  have O₂ := hO _ _ O'
  have Hd₂ : HdOk A₂ B₂ := hH rfl
  walk_at "ss"
  refine gm_T (g := a_T_insert_stream) O₂ h (by simp +decide [treeF]) (by kernel_rfl) (by kernel_rfl) ?_
  walk_at "ss"
  exact (k_ins_many (dv := .none) (wv := .int 16 0) (ex := false) (fs := (_, _) :: fs) (.inr (.inl ⟨rfl, rfl, rfl, rfl, rfl⟩)) O₂.less (by simp; omega) Hd₂ h hv hM hroom hmx hx).w
end

/-! # Cs -/
set_option maxRecDepth 100000

section
variable {prog : Program} {w : World} {p : Program} {loose : List Str} {mean : ExcName → Option Value} {mg mb : Str → Option Value}
variable {A : Around} {B : Base} {fs : List (Env × LM)} {σ σ' : AH} {Q : Value → AH → Prop} {X : Value → Bool → AH → Prop}
variable {fe env : Env} {es : List Env} {u : Nat} {m : LM}
variable {G : Geo} {N : ST} {i : Int} {n : Node} {T : TA} {M : Int → Bool} {len : Nat}
def cyc (N : ST) (c : Int) : Nat → Int → Option Bool
  | 0, _ => none
  | k + 1, a => match N a with
    | none => none
    | some na => match na.par with
      | none => none
      | some q => if q = c then some true else if q = 0 then some false else cyc N c k q
theorem k_cycle {a c : Int} {b : Bool} {nc : Node} (O : Ok (mkW prog w p loose mean mg mb) A B (fs.map (·.1)) 0) (hsh : fs.length < 58) (Hd : HdOk A B) (H : Holds G N σ) (hc : N c = some nc) (h0 : ∃ n, N 0 = some n) (hcy : cyc N c 100 a = some b)
    (hq : Q (.bool b) σ) : CallR (mkW prog w p loose mean mg mb) A B fs (.ref a_stream_cycle) [.ref (G.ad a), .ref (G.ad c)] [] σ Q X := by
  refine CallR.go O (by omega) (by rfl) (by kernel_rfl) (binds2 (p1 := "new_parent") (p2 := "current") (by intro _ _; rfl)) rfl fun L A' O' hA' => ?_
  walk_at "ss"
  refine t_ForR O' (Hd.same hA') 100 (by decide) ?_
  walk_at "ss"
  refine call_range (n := 100) fun r hr => ?_
  refine ⟨r, σ, rfl, rfl, hr, fun i m' σ' => σ' = σ ∧ m' "current" = some (.ref (G.ad c)) ∧ ∃ k, m' "parent" = some (.ref (G.ad k)) ∧ cyc N c (100 - i) k = some b, ⟨rfl, rfl, a, rfl, hcy⟩, fun m' σ' hI => ?_, fun B' hB i m' σ' hi hI v hv => ?_⟩
  · obtain ⟨-, -, k, -, q⟩ := hI
    cases q
  · obtain ⟨rfl, hm1, k, hm2, q⟩ := hI
    have O₂ := O'.le hB
    obtain ⟨z, hz⟩ : ∃ z, 100 - i = z + 1 := ⟨100 - i - 1, by omega⟩
    rw [hz] at q
    unfold cyc at q
    cases hk : N k with
    | none => rw [hk] at q; cases q
    | some nk =>
    rw [hk] at q; dsimp only at q
    cases hp : nk.par with
    | none => rw [hp] at q; cases q
    | some y =>
    rw [hp] at q; dsimp only at q
    walk_at "ss"
    refine gn_parent O₂ H hk ?_
    rw [hp]
    walk_at "ss"
    obtain ⟨ny, hy⟩ : ∃ n, N y = some n := by
      by_cases y1 : y = c
      · exact ⟨nc, y1 ▸ hc⟩
      by_cases y2 : y = 0
      · subst y2; exact h0
      rw [if_neg y1, if_neg y2] at q
      cases z with
      | zero => cases q
      | succ z =>
        unfold cyc at q
        cases e : N y with
        | none => rw [e] at q; cases q
        | some x => exact ⟨x, rfl⟩
    refine gn_stream_id O₂ H hy ?_
    walk_at "ss"
    refine gn_stream_id O₂ H hc ?_
    refine op_eqP (a := some (.n y)) (b := some (.n c)) (pk_nv (H.sid _ _ hy)) (pk_nv (H.sid _ _ hc)) (op_truthy_bool ⟨fun e => ?_, fun e => ?_⟩)
    · have e : y = c := by simpa using e
      rw [if_pos e] at q; cases q
      walk_at "ss"
      exact hq
    · have e : y ≠ c := by simpa using e
      rw [if_neg e] at q
      walk_at "ss"
      refine gn_stream_id O₂ H hy ?_
      walk_at "ss"
      refine op_eqP (a := some (.n y)) (b := some (.n 0)) (pk_nv (H.sid _ _ hy)) rfl (op_truthy_bool ⟨fun e2 => ?_, fun e2 => ?_⟩)
      · have e2 : y = 0 := by simpa using e2
        rw [if_pos e2] at q; cases q
        walk_at "ss"
        exact hq
      · have e2 : y ≠ 0 := by simpa using e2
        rw [if_neg e2] at q
        walk_at "ss"
        refine ⟨rfl, ?_, y, ?_, by rw [show 100 - (i + 1) = z by omega]; exact q⟩
        · repeat (refine (upd_ne _ _ (by decide)).trans ?_)
          exact hm1
        · exact upd_self _ _ _
end

/-! # Ct -/
set_option maxRecDepth 100000

section
variable {prog : Program} {w : World} {p : Program} {loose : List Str} {mean : ExcName → Option Value} {mg mb : Str → Option Value}
variable {A : Around} {B : Base} {fs : List (Env × LM)} {σ σ' : AH} {Q : Value → AH → Prop} {X : Value → Bool → AH → Prop}
variable {fe env : Env} {es : List Env} {u : Nat} {m : LM}
variable {G : Geo} {N : ST} {i : Int} {n : Node} {T : TA} {M : Int → Bool} {len : Nat}
theorem k_rep_zero {v dv wv : Value} {ex : Bool} (O : Ok (mkW prog w p loose mean mg mb) A B (fs.map (·.1)) 0) (hsh : fs.length < 44) (Hd : HdOk A B) (hv : IdV v 0)
    (hx : ∀ ctx, X (.ref c_PseudoStreamError) ctx σ) : CallR (mkW prog w p loose mean mg mb) A B fs (.ref a_T_reprioritize) [.ref T.t, v, dv, wv, .bool ex] [] σ Q X := by
  refine CallR.go (bs := [("self", .ref T.t), ("stream_id", v), ("depends_on", dv), ("weight", wv), ("exclusive", .bool ex)]) O (by omega) (by rfl) (by kernel_rfl) (binds5_5 rfl rfl rfl (by intro _ _ _ _ _; rfl) (by intro _ _ _ _ _; rfl)) rfl fun L A' O' hA' => ?_
  walk_at "ss"
  refine op_idz hv (op_truthy_bool (ch_t ?_))
  walk_at "ss"
  refine t_Raise O' (Hd.same hA') ?_
  walk_at "ss"
  refine ce_own (x := "PseudoStreamError") O' (by kernel_rfl) (by kernel_rfl) fun e he => ?_
  exact ⟨e, _, σ, rfl, he, rfl, ⟨by kernel_rfl, by kernel_rfl⟩, fun ctx _ => hx ctx⟩
theorem k_rep_miss {v dv wv : Value} {ex : Bool} (O : Ok (mkW prog w p loose mean mg mb) A B (fs.map (·.1)) 0) (hsh : fs.length < 44) (hA : A.handled = none) (h : HT T G N M len σ) (hv : IdV v i) (hi : i ≠ 0) (hM : M i = false)
    (hx : ∀ ctx, X (.ref c_MissingStreamError) ctx σ) : CallR (mkW prog w p loose mean mg mb) A B fs (.ref a_T_reprioritize) [.ref T.t, v, dv, wv, .bool ex] [] σ Q X := by
  refine CallR.go (bs := [("self", .ref T.t), ("stream_id", v), ("depends_on", dv), ("weight", wv), ("exclusive", .bool ex)]) O (by omega) (by rfl) (by kernel_rfl) (binds5_5 rfl rfl rfl (by intro _ _ _ _ _; rfl) (by intro _ _ _ _ _; rfl)) rfl fun L A' O' hA' => ?_
  walk_at "ss"
  refine op_idz hv (op_truthy_bool ?_)
  rw [show decide (i = 0) = false by simpa using hi]
  refine ch_f ?_
  walk_at "ss"
  refine t_Exc O' ?_ fun _ _ q => q
  walk_at "ss"
  refine gt_streams O' h ?_
  walk_at "ss"
  obtain ⟨l, h1, h2, h3⟩ := h.miss hv.nv hM
  refine op_itemDict_none O'.g (hA'.trans hA) h1 h2 h3 ?_
  refine hit_KeyError O'.g (by kernel_rfl) (by kernel_rfl) (by kernel_rfl) fun A₂ B₂ hB hO hH => ?_
  have O₂ := hO _ _ O'
  walk_at "ss"
  refine t_Raise O₂ (hH rfl) ?_
  walk_at "ss"
  refine op_miss hv rfl fun t => ?_
  walk_at "ss"
  refine ce_miss O₂ fun e he => ?_
  exact ⟨e, _, σ, rfl, he, rfl, ⟨by kernel_rfl, by kernel_rfl⟩, fun ctx _ => hx ctx⟩
theorem k_rep_self {v dv wv : Value} {ex : Bool} (O : Ok (mkW prog w p loose mean mg mb) A B (fs.map (·.1)) 0) (hsh : fs.length < 44) (Hd : HdOk A B) (h : HT T G N M len σ) (hv : IdV v i) (hi : i ≠ 0) (hM : M i = true) (hd : IdV dv i)
    (hx : ∀ ctx, X (.ref c_PriorityLoop) ctx σ) : CallR (mkW prog w p loose mean mg mb) A B fs (.ref a_T_reprioritize) [.ref T.t, v, dv, wv, .bool ex] [] σ Q X := by
  refine CallR.go (bs := [("self", .ref T.t), ("stream_id", v), ("depends_on", dv), ("weight", wv), ("exclusive", .bool ex)]) O (by omega) (by rfl) (by kernel_rfl) (binds5_5 rfl rfl rfl (by intro _ _ _ _ _; rfl) (by intro _ _ _ _ _; rfl)) rfl fun L A' O' hA' => ?_
  walk_at "ss"
  refine op_idz hv (op_truthy_bool ?_)
  rw [show decide (i = 0) = false by simpa using hi]
  refine ch_f ?_
  walk_at "ss"
  refine t_Exc O' ?_ fun _ _ q => q
  walk_at "ss"
  refine gt_streams O' h ?_
  walk_at "ss"
  obtain ⟨l, h1, h2, h3⟩ := h.get hv.nv hM
  refine op_itemDict O'.g h1 h2 h3 ?_
  walk_at "ss"
  refine op_truthy_dep (.inr hd) ⟨fun _ => ?_, fun c => by simp [hi] at c⟩
  walk_at "ss"
  refine op_eqP (a := some (.n i)) (b := some (.n i)) (pk_nv hd.nv) (pk_nv hv.nv) (op_truthy_bool ?_)
  rw [show decide (some (DK.n i) = some (DK.n i)) = true by simp]
  refine ch_t ?_
  walk_at "ss"
  refine t_Raise O' (Hd.same hA') ?_
  walk_at "ss"
  refine op_self hv rfl fun t => ?_
  walk_at "ss"
  refine ce_own (x := "PriorityLoop") O' (by kernel_rfl) (by kernel_rfl) fun e he => ?_
  exact ⟨e, _, σ, rfl, he, rfl, ⟨by kernel_rfl, by kernel_rfl⟩, fun ctx _ => hx ctx⟩
theorem k_rep_many {b : Int} {v dv wv : Value} {ex : Bool} (O : Ok (mkW prog w p loose mean mg mb) A B (fs.map (·.1)) 0) (hsh : fs.length < 44) (hA : A.handled = none) (h : HT T G N M len σ) (hv : IdV v i) (hi : i ≠ 0) (hM : M i = true) (hd : IdV dv b) (hb0 : b ≠ 0) (hbi : b ≠ i) (hMb : M b = false) (hroom : ¬ (len : Int) + 1 ≤ T.mx) (hmx : 0 ≤ T.mx ∧ T.mx < 10000)
    (hx : ∀ ctx, X (.ref c_TooManyStreamsError) ctx σ) : CallR (mkW prog w p loose mean mg mb) A B fs (.ref a_T_reprioritize) [.ref T.t, v, dv, wv, .bool ex] [] σ Q X := by
  refine CallR.go (bs := [("self", .ref T.t), ("stream_id", v), ("depends_on", dv), ("weight", wv), ("exclusive", .bool ex)]) O (by omega) (by rfl) (by kernel_rfl) (binds5_5 rfl rfl rfl (by intro _ _ _ _ _; rfl) (by intro _ _ _ _ _; rfl)) rfl fun L A' O' hA' => ?_
  walk_at "ss"
  refine op_idz hv (op_truthy_bool ?_)
  rw [show decide (i = 0) = false by simpa using hi]
  refine ch_f ?_
  walk_at "ss"
  refine t_Exc O' ?_ fun _ _ q => q
  walk_at "ss"
  refine gt_streams O' h ?_
  walk_at "ss"
  obtain ⟨l, h1, h2, h3⟩ := h.get hv.nv hM
  refine op_itemDict O'.g h1 h2 h3 ?_
  walk_at "ss"
  refine op_truthy_dep (.inr hd) ⟨fun _ => ?_, fun c => by simp [hb0] at c⟩
  walk_at "ss"
  refine op_eqP (a := some (.n b)) (b := some (.n i)) (pk_nv hd.nv) (pk_nv hv.nv) (op_truthy_bool ?_)
  rw [show decide (some (DK.n b) = some (DK.n i)) = false by simpa using hbi]
  refine ch_f ?_
  walk_at "ss"
  refine gm_T (g := a_T__get_or_insert_parent) O' h (by simp +decide [treeF]) (by kernel_rfl) (by kernel_rfl) ?_
  walk_at "ss"
  exact (k_gip_many (fs := (_, _) :: fs) O'.less (by simp; omega) (hA'.trans hA) h hd hMb hroom hmx hx).w
end

/-! # Cu -/
set_option maxRecDepth 100000

section
variable {prog : Program} {w : World} {p : Program} {loose : List Str} {mean : ExcName → Option Value} {mg mb : Str → Option Value}
variable {A : Around} {B : Base} {fs : List (Env × LM)} {σ σ' : AH} {Q : Value → AH → Prop} {X : Value → Bool → AH → Prop}
variable {fe env : Env} {es : List Env} {u : Nat} {m : LM}
variable {G : Geo} {N : ST} {i : Int} {n : Node} {T : TA} {M : Int → Bool} {len : Nat}
/-- no list in the store is longer -/
def BdK (k : Nat) (N : ST) : Prop := ∀ j n, N j = some n → n.kids.length ≤ k ∧ n.q.length ≤ k
theorem BdK.mono {k k' : Nat} (h : BdK k N) (l : k ≤ k') : BdK k' N := fun j n e => ⟨Nat.le_trans (h j n e).1 l, Nat.le_trans (h j n e).2 l⟩
theorem BdK.add {k : Nat} {a c : Int} (h : BdK k N) : BdK (k + 1) (pAdd N a c) := fun j n e => by
  obtain ⟨n₀, h₀⟩ := pAdd_dom.mp ⟨n, e⟩
  rw [pAdd_get h₀] at e
  cases e
  obtain ⟨b1, b2⟩ := h j n₀ h₀
  dsimp only
  constructor
  · split
    · simp; omega
    · omega
  · split
    · rw [ins_length]; omega
    · omega
theorem BdK.adds {a : Int} : ∀ {l : List Int} {k : Nat} {N : ST}, BdK k N → BdK (k + l.length) (pAdds N a l)
  | [], _, _, h => h
  | o :: l, k, N, h => by
    have := BdK.adds (a := a) (l := l) (h.add (a := a) (c := o))
    exact this.mono (by simp; omega)
theorem requeue_length {c : Int} : ∀ {q acc : List (Int × Int)}, (requeue c acc q).length ≤ acc.length + q.length
  | [], acc => Nat.le_refl _
  | e :: q, acc => by
    have := requeue_length (c := c) (q := q) (acc := if e.2 = c then acc else ins e acc)
    unfold requeue at this ⊢
    rw [List.foldl_cons]
    refine Nat.le_trans this ?_
    split
    · simp
    · rw [ins_length]; simp; omega
theorem BdK.md {k : Nat} {f : Node → Node} (h : BdK k N) (hf : ∀ n, (f n).kids.length ≤ n.kids.length ∧ (f n).q.length ≤ n.q.length) : BdK k (md N i f) := fun j n e => by
  obtain ⟨n₀, h₀⟩ := md_dom.mp ⟨n, e⟩
  rw [md_get h₀] at e
  cases e
  obtain ⟨b1, b2⟩ := h j n₀ h₀
  have := hf n₀
  split
  · omega
  · omega
theorem BdK.rem {k : Nat} {a c : Int} {s : Bool} (h : BdK k N) : BdK (k + k) (pRem N a c s) := by
  have h1 : BdK k (Mine.md N a fun n => { n with kids := n.kids.erase c, q := requeue c [] n.q }) :=
    h.md fun n => ⟨List.length_erase_le .., by have := requeue_length (c := c) (q := n.q) (acc := []); simpa using this⟩
  unfold pRem
  cases s with
  | false => rw [if_neg (by decide)]; exact h1.mono (by omega)
  | true =>
    rw [if_pos rfl]
    cases hc : N c with
    | none => exact h1.mono (by omega)
    | some nc => exact (h1.adds (a := a) (l := nc.kids)).mono (by have := (h _ _ hc).1; omega)
def oPar (N : ST) (i : Int) : Option Int := (N i).bind (·.par)
def oRem (N : ST) (a c : Int) (s : Bool) : Option ST := match N a, N c with
  | some na, some _ => if a ≠ c ∧ c ∈ na.kids then some (pRem N a c s) else none
  | _, _ => none
/-- a stream beneath its own dependant: the dependant goes up first -/
def oUp (N : ST) (i b : Int) : Option ST := match oPar N b with
  | none => none
  | some pb => match oRem N pb b true with
    | none => none
    | some N₃ => match oPar N₃ i with
      | none => none
      | some pi => match N₃ pi, N₃ b with
        | some _, some _ => some (pAdd N₃ pi b)
        | _, _ => none
/-- a stream's own move -/
def oMove (N : ST) (i b : Int) (ex : Bool) : Option ST := match oPar N i with
  | none => none
  | some pi => match oRem N pi i false with
    | none => none
    | some N₅ => match N₅ b, N₅ i with
      | some _, some _ => some (pPut N₅ b i ex)
      | _, _ => none
def pRep (N : ST) (i b : Int) (wv : Value) (cy ex : Bool) : Option ST :=
  match (if cy = true then oUp (md N i fun n => { n with w := wv }) i b else some (md N i fun n => { n with w := wv })) with
  | none => none
  | some N₄ => oMove N₄ i b ex
theorem requeue_mem {c : Int} {d : Int × Int} : ∀ {q acc : List (Int × Int)}, d ∈ requeue c acc q → d ∈ acc ∨ d ∈ q
  | [], acc, h => .inl h
  | e :: q, acc, h => by
    unfold requeue at h
    rw [List.foldl_cons] at h
    rcases requeue_mem (c := c) (q := q) h with h | h
    · split at h
      · exact .inl h
      · rcases mem_putAt.mp h with rfl | h
        · exact .inr (.head _)
        · exact .inl h
    · exact .inr (.tail _ h)
theorem Cl.rem {a c : Int} {s : Bool} (C : Cl N) : Cl (pRem N a c s) := by
  have h1 : Cl (md N a fun n => { n with kids := n.kids.erase c, q := requeue c [] n.q }) := fun j k e => by
    obtain ⟨k', e'⟩ := md_dom.mp ⟨k, e⟩
    rw [md_get e'] at e
    cases e
    obtain ⟨c1, c2⟩ := C j k' e'
    by_cases z : j = a
    · rw [if_pos z]
      exact ⟨fun d hd => md_dom.mpr (c1 d ((requeue_mem hd).resolve_left (by simp))), fun d hd => md_dom.mpr (c2 d (List.mem_of_mem_erase hd))⟩
    · rw [if_neg z]
      exact ⟨fun d hd => md_dom.mpr (c1 d hd), fun d hd => md_dom.mpr (c2 d hd)⟩
  unfold pRem
  cases s with
  | false => rw [if_neg (by decide)]; exact h1
  | true =>
    rw [if_pos rfl]
    cases hc : N c with
    | none => exact h1
    | some nc => exact h1.pAdds fun o ho => md_dom.mpr ((C _ _ hc).2 o ho)
theorem oRem_spec {a c : Int} {s : Bool} {N' : ST} (h : oRem N a c s = some N') : ∃ na nc, N a = some na ∧ N c = some nc ∧ a ≠ c ∧ c ∈ na.kids ∧ N' = pRem N a c s := by
  unfold oRem at h
  cases ha : N a with
  | none => rw [ha] at h; cases h
  | some na =>
    cases hc : N c with
    | none => rw [ha, hc] at h; cases h
    | some nc =>
      rw [ha, hc] at h; dsimp only at h
      split at h
      · rename_i q
        cases h
        exact ⟨na, nc, rfl, rfl, q.1, q.2, rfl⟩
      · cases h
end

/-! # Cv -/
set_option maxRecDepth 100000

section
variable {prog : Program} {w : World} {p : Program} {loose : List Str} {mean : ExcName → Option Value} {mg mb : Str → Option Value}
variable {A : Around} {B : Base} {fs : List (Env × LM)} {σ σ' : AH} {Q : Value → AH → Prop} {X : Value → Bool → AH → Prop}
variable {fe env : Env} {es : List Env} {u : Nat} {m : LM}
variable {G : Geo} {N : ST} {i : Int} {n : Node} {T : TA} {M : Int → Bool} {len : Nat}
theorem St.setNode {n' : Node} (H : Holds G N σ) (hn : N i = some n) (hk : n'.kids = n.kids) (hq : n'.q = n.q) (hs : n'.sid = n.sid) (hw : Wt n'.w) :
    St G N σ G (upd N i (some n')) (upd σ (G.ad i) (some (.inst c_Stream (nodeF G i n') 8))) := by
  have oth : ∀ a, a ≠ G.ad i → upd σ (G.ad i) (some (.inst c_Stream (nodeF G i n') 8)) a = σ a := fun a z => upd_ne _ _ z
  refine H.put hn rfl (fun _ _ => rfl) (fun _ _ => rfl) (fun a c e z _ _ => (oth a z).trans e) (upd_self _ _ _) ?_ ?_ (.inl rfl) (.inl rfl) (H.cq _ _ _ _ hn hn) hs hw (by rw [hk, hq]; exact H.sz _ _ hn)
  · rw [oth _ (H.acq hn hn).1.symm, hk]; exact H.kid _ _ hn
  · obtain ⟨rs, h1, h2⟩ := H.que _ _ hn
    rw [hq]
    refine ⟨rs, (oth _ (H.acq hn hn).2.symm).trans h1, h2.imp fun t e r => (oth t fun z => ?_).trans r⟩
    rw [z, H.node _ _ hn] at r; cases r
theorem sp_weight {v : Value} {Q : Unit → LM → AH → Prop} {X} (O : Ok (mkW prog w p loose mean mg mb) A B (fe :: fs.map (·.1)) 8) (hsh : fs.length < 56) (H : Holds G N σ) (hn : N i = some n) (hw : Wt v) (he : er v = v)
    (h : ∀ σ', St G N σ G (md N i fun n => { n with w := v }) σ' → Q () m σ') : Op2 (mkW prog w p loose mean mg mb) A B fe fs (fun o v => setAttr o "weight" v) (.ref (G.ad i)) v m σ Q X := by
  refine op_setProp (p := p_weight) (fset := a_S_weight_set) O (H.node _ _ hn) (k_set_weight (fs := (fe, m) :: fs) O.in1.in1.less (by simp; omega) (H.node _ _ hn) (by decide) hw he (h _ ?_)) (by kernel_rfl) (by kernel_rfl) (by kernel_rfl) (by kernel_rfl) (by rfl)
  rw [show (nodeF G i n "_weight").isSome = true by simp +decide [nodeF], if_pos rfl]
  have e : upd (nodeF G i n) "_weight" (some v) = nodeF G i { n with w := v } := by
    funext x
    by_cases z : x = "_weight"
    · subst z; simp +decide [nodeF, upd]
    · rw [upd_ne _ _ z]; simp [nodeF, z, parV]
  rw [e, md_some (f := fun n => { n with w := v }) hn]
  exact St.setNode H hn rfl rfl rfl hw
end

/-! # Cw -/
set_option maxRecDepth 100000

section
variable {prog : Program} {w : World} {p : Program} {loose : List Str} {mean : ExcName → Option Value} {mg mb : Str → Option Value}
variable {A : Around} {B : Base} {fs : List (Env × LM)} {σ σ' : AH} {Q : Value → AH → Prop} {X : Value → Bool → AH → Prop}
variable {fe env : Env} {es : List Env} {u : Nat} {m : LM}
variable {G : Geo} {N : ST} {i : Int} {n : Node} {T : TA} {M : Int → Bool} {len : Nat}
theorem oMove_spec {b : Int} {ex : Bool} {N' : ST} (h : oMove N i b ex = some N') : ∃ pi N₅ n₄ np₄ nb₅ ni₅, N i = some n₄ ∧ n₄.par = some pi ∧ N pi = some np₄ ∧ pi ≠ i ∧ i ∈ np₄.kids ∧ N₅ = pRem N pi i false ∧ (N₅ b = some nb₅ ∧ N₅ i = some ni₅) ∧ N' = pPut N₅ b i ex := by
  unfold oMove at h
  cases h1 : oPar N i with
  | none => rw [h1] at h; cases h
  | some pi =>
    rw [h1] at h; dsimp only at h
    cases h2 : oRem N pi i false with
    | none => rw [h2] at h; cases h
    | some N₅ =>
      rw [h2] at h; dsimp only at h
      obtain ⟨na, nc, g1, g2, g3, g4, g5⟩ := oRem_spec h2
      cases h3 : N₅ b with
      | none => rw [h3] at h; cases h
      | some nb₅ =>
        cases h4 : N₅ i with
        | none => rw [h3, h4] at h; cases h
        | some ni₅ =>
          rw [h3, h4] at h; cases h
          refine ⟨pi, N₅, nc, na, nb₅, ni₅, g2, ?_, g1, g3, g4, g5, ⟨h3, h4⟩, rfl⟩
          unfold oPar at h1
          rw [g2] at h1; exact h1
theorem oUp_spec {b : Int} {N₄ : ST} (h : oUp N i b = some N₄) : ∃ pb N₃ nb npb pi n₃ np₃ nb₃, N b = some nb ∧ nb.par = some pb ∧ N pb = some npb ∧ pb ≠ b ∧ b ∈ npb.kids ∧ N₃ = pRem N pb b true ∧ N₃ i = some n₃ ∧ n₃.par = some pi ∧ N₃ pi = some np₃ ∧ N₃ b = some nb₃ ∧ N₄ = pAdd N₃ pi b := by
  unfold oUp at h
  cases h1 : oPar N b with
  | none => rw [h1] at h; cases h
  | some pb =>
    rw [h1] at h; dsimp only at h
    cases h2 : oRem N pb b true with
    | none => rw [h2] at h; cases h
    | some N₃ =>
      rw [h2] at h; dsimp only at h
      obtain ⟨na, nc, g1, g2, g3, g4, g5⟩ := oRem_spec h2
      cases h3 : oPar N₃ i with
      | none => rw [h3] at h; cases h
      | some pi =>
        rw [h3] at h; dsimp only at h
        cases h4 : N₃ pi with
        | none => rw [h4] at h; cases h
        | some np₃ =>
          cases h5 : N₃ b with
          | none => rw [h4, h5] at h; cases h
          | some nb₃ =>
            rw [h4, h5] at h; cases h
            obtain ⟨n₃, hn₃⟩ : ∃ n, N₃ i = some n := by
              unfold oPar at h3
              cases e : N₃ i with
              | none => rw [e] at h3; cases h3
              | some x => exact ⟨x, rfl⟩
            refine ⟨pb, N₃, nc, na, pi, n₃, np₃, nb₃, g2, ?_, g1, g3, g4, g5, hn₃, ?_, h4, h5, rfl⟩
            · unfold oPar at h1; rw [g2] at h1; exact h1
            · unfold oPar at h3; rw [hn₃] at h3; exact h3
set_option maxHeartbeats 4000000 in
theorem k_rep_with {v dv wv : Value} {b : Int} {ex cy : Bool} {N₁ N' : ST} {M₁ : Int → Bool} {len₁ : Nat}
    (O : Ok (mkW prog w p loose mean mg mb) A B (fs.map (·.1)) 0) (hsh : fs.length < 40) (Hd : HdOk A B) (h : HT T G N M len σ) (hv : IdV v i) (hi : i ≠ 0) (hM : M i = true) (hd : IdV dv b) (hb0 : b ≠ 0) (hbi : b ≠ i) (hw : Wt wv) (hwe : er wv = wv)
    (hg : ∀ {A' : Around} {fs' : List (Env × LM)} {Q : Value → AH → Prop} {X : Value → Bool → AH → Prop}, Ok (mkW prog w p loose mean mg mb) A' B (fs'.map (·.1)) 0 → fs'.length = fs.length + 1 → A'.handled = A.handled →
      (∀ G₂ σ₂, StT T G N σ G₂ N₁ M₁ len₁ σ₂ → (∀ j k, N j = some k → G₂.ad j = G.ad j) → Q (.ref (G₂.ad b)) σ₂) → CallR (mkW prog w p loose mean mg mb) A' B fs' (.ref a_T__get_or_insert_parent) [.ref T.t, dv] [] σ Q X)
    (hcy : cyc N₁ i 100 b = some cy) (hr : pRep N₁ i b wv cy ex = some N') (C₁ : Cl N₁) (B₁ : BdK 100 N₁) (dm : ∀ j k, N j = some k → ∃ k', N₁ j = some k')
    (hq : ∀ G' σ', StT T G N σ G' N' M₁ len₁ σ' → Q .none σ') : CallR (mkW prog w p loose mean mg mb) A B fs (.ref a_T_reprioritize) [.ref T.t, v, dv, wv, .bool ex] [] σ Q X := by
  refine CallR.go (bs := [("self", .ref T.t), ("stream_id", v), ("depends_on", dv), ("weight", wv), ("exclusive", .bool ex)]) O (by omega) (by rfl) (by kernel_rfl) (binds5_5 rfl rfl rfl (by intro _ _ _ _ _; rfl) (by intro _ _ _ _ _; rfl)) rfl fun L A' O' hA' => ?_
  walk_at "ss"
  refine op_idz hv (op_truthy_bool ?_)
  rw [show decide (i = 0) = false by simpa using hi]
  refine ch_f ?_
  walk_at "ss"
  refine t_Exc O' ?_ fun _ _ q => q
  walk_at "ss"
  refine gt_streams O' h ?_
  walk_at "ss"
  obtain ⟨l, h1, h2, h3⟩ := h.get hv.nv hM
  obtain ⟨n₀, hn₀⟩ := h.sub i hM
  obtain ⟨n₁, hi₁⟩ := dm _ _ hn₀
  refine op_itemDict O'.g h1 h2 h3 ?_
  walk_at "ss"
  refine op_truthy_dep (.inr hd) ⟨fun _ => ?_, fun c => by simp [hb0] at c⟩
  walk_at "ss"
  refine op_eqP (a := some (.n b)) (b := some (.n i)) (pk_nv hd.nv) (pk_nv hv.nv) (op_truthy_bool ?_)
  rw [show decide (some (DK.n b) = some (DK.n i)) = false by simpa using hbi]
  refine ch_f ?_
  walk_at "ss"
  refine gm_T (g := a_T__get_or_insert_parent) O' h (by simp +decide [treeF]) (by kernel_rfl) (by kernel_rfl) ?_
  walk_at "ss"
  refine (hg (fs' := (_, _) :: fs) O'.less (by simp) hA' fun G₂ σ₂ S₂ ad₂ => ?_).w
  rw [← ad₂ _ _ hn₀]
  walk_at "ss"
  refine (k_cycle (fs := (_, _) :: fs) O'.less (by simp; omega) (Hd.same hA') S₂.1.H hi₁ S₂.1.z hcy ?_).w
  walk_at "ss"
  refine sp_weight O' (by omega) S₂.1.H hi₁ hw hwe fun σ₃ S₃ => ?_
  have T₃ := S₃.tree S₂.1 fun j k e => md_dom.mpr ⟨k, e⟩
  have C₃ : Cl (md N₁ i fun n => { n with w := wv }) := Cl.keep (f := fun n => { n with w := wv }) C₁ fun _ => ⟨rfl, rfl⟩
  have B₃ : BdK 100 (md N₁ i fun n => { n with w := wv }) := B₁.md fun _ => ⟨Nat.le_refl _, Nat.le_refl _⟩
  have T₃' := S₂.trans T₃
  unfold pRep at hr
  walk_at "ss"
  obtain ⟨nb₁, hb₁⟩ : ∃ n, N₁ b = some n := by
    unfold cyc at hcy
    cases e : N₁ b with
    | none => rw [e] at hcy; cases hcy
    | some x => exact ⟨x, rfl⟩
  refine op_truthy_bool ⟨fun hc => ?_, fun hc => ?_⟩
  · subst hc
    rw [if_pos rfl] at hr
    obtain ⟨N₄, hup⟩ : ∃ N₄, oUp (md N₁ i fun n => { n with w := wv }) i b = some N₄ := by
      cases e : oUp (md N₁ i fun n => { n with w := wv }) i b with
      | none => rw [e] at hr; cases hr
      | some x => exact ⟨x, rfl⟩
    rw [hup] at hr
    dsimp only at hr
    obtain ⟨pb, N₃, nb₂, npb, pi₃, n₃, np₃, nb₃, u1, u2, u3, u4, u5, u6, u7, u8, u9, u10, u11⟩ := oUp_spec hup
    walk_at "ss"
    refine gn_parent O' T₃.1.H u1 ?_
    rw [u2]
    refine gm_S (g := a_S_remove_child) (i := pb) O' T₃.1.H u3 (by simp +decide [nodeF]) (by kernel_rfl) (by kernel_rfl) ?_
    walk_at "ss"
    have y1 := B₃ _ _ u3
    have y2 := B₃ _ _ u1
    refine (k_remove_child (sv := true) (.inl ⟨rfl, rfl⟩) (fs := (_, _) :: fs) O'.less (by simp; omega) (Hd.same hA') T₃.1.H C₃ u3 u1 u4 u5 (by omega) fun G₄ σ₄ V₄ => ?_).w
    refine ⟨trivial, ?_⟩
    rw [← u6] at V₄
    have W₄ := V₄.tree T₃.1 fun j k e => by rw [u6]; exact pRem_dom.mpr ⟨k, e⟩
    have D₄ : Cl N₃ := by rw [u6]; exact C₃.rem
    have E₄ : BdK 200 N₃ := by rw [u6]; exact B₃.rem
    rw [← V₄.2.2 _ _ (md_self hi₁), ← V₄.2.2 _ _ u1]
    have y3 := E₄ _ _ u9
    walk_at "ss"
    refine gn_parent O' V₄.1 u7 ?_
    rw [u8]
    refine gm_S (g := a_S_add_child) (i := pi₃) O' V₄.1 u9 (by simp +decide [nodeF]) (by kernel_rfl) (by kernel_rfl) ?_
    walk_at "ss"
    refine (k_add_child (fs := (_, _) :: fs) O'.less (by simp; omega) V₄.1 D₄ u9 u10 (by omega) fun σ₅ V₅ => ?_).w
    refine ⟨trivial, ?_⟩
    rw [← u11] at V₅
    have W₅ := V₅.tree W₄.1 fun j k e => by rw [u11]; exact pAdd_dom.mpr ⟨k, e⟩
    have S₄ := (T₃'.trans W₄).trans W₅
    have C₄ : Cl N₄ := by rw [u11]; exact D₄.pAdd ⟨_, u10⟩
    have B₄ : BdK 450 N₄ := by rw [u11]; exact (E₄.add).mono (by omega)
    obtain ⟨nb₄, fb₄⟩ : ∃ n, N₄ b = some n := by rw [u11]; exact pAdd_dom.mpr ⟨_, u10⟩
    obtain ⟨pi, N₅, n₄, np₄, nb₅, ni₅, f1, f2, f3, f4, f5, f6, ⟨f7, f8⟩, f9⟩ := oMove_spec hr
    walk_at "ss"
    refine gn_parent O' S₄.1.H f1 ?_
    rw [f2]
    refine gm_S (g := a_S_remove_child) (i := pi) O' S₄.1.H f3 (by simp +decide [nodeF]) (by kernel_rfl) (by kernel_rfl) ?_
    refine t_cwMK O' (by kernel_rfl) ?_
    walk_at "ss"
    refine t_kws_cons ?_
    walk_at "ss"
    refine t_kws_nil ?_
    have b1 := B₄ _ _ f3
    have b2 := B₄ _ _ f1
    refine (k_remove_child (sv := false) (.inr rfl) (fs := (_, _) :: fs) O'.less (by simp; omega) (Hd.same hA') S₄.1.H C₄ f3 f1 f4 f5 (by omega) fun G₅ σ₅ S₅ => ?_).w
    refine ⟨trivial, ?_⟩
    rw [← f6] at S₅
    have T₅ := S₅.tree S₄.1 fun j k e => by rw [f6]; exact pRem_dom.mpr ⟨k, e⟩
    have C₅ : Cl N₅ := by rw [f6]; exact C₄.rem
    have B₅ : BdK 900 N₅ := by rw [f6]; exact (B₄.rem).mono (by omega)
    rw [← S₅.2.2 _ _ f1, ← S₅.2.2 _ _ fb₄]
    have c1 := B₅ _ _ f7
    have c2 := B₅ _ _ f8
    walk_at "ss"
    refine op_truthy_bool ⟨fun hex => ?_, fun hex => ?_⟩
    · subst hex
      walk_at "ss"
      refine gm_S (g := a_S_add_child_exclusive) O' S₅.1 f7 (by simp +decide [nodeF]) (by kernel_rfl) (by kernel_rfl) ?_
      walk_at "ss"
      refine (k_add_child_exclusive (fs := (_, _) :: fs) O'.less (by simp; omega) (Hd.same hA') S₅.1 C₅ f7 f8 hbi (by omega) fun G₆ σ₆ S₆ => ?_).w
      refine ⟨trivial, ?_⟩
      walk_at "ss"
      have eP : pPut N₅ b i true = pAddX N₅ b i := by unfold pPut; rw [if_pos rfl]
      rw [← eP] at S₆
      have T₆ := S₆.tree T₅.1 fun j k e => pPut_dom.mpr ⟨k, e⟩
      rw [← f9] at T₆
      exact hq _ _ ((S₄.trans T₅).trans T₆)
    · subst hex
      walk_at "ss"
      refine gm_S (g := a_S_add_child) O' S₅.1 f7 (by simp +decide [nodeF]) (by kernel_rfl) (by kernel_rfl) ?_
      walk_at "ss"
      refine (k_add_child (fs := (_, _) :: fs) O'.less (by simp; omega) S₅.1 C₅ f7 f8 (by omega) fun σ₆ S₆ => ?_).w
      refine ⟨trivial, ?_⟩
      walk_at "ss"
      have eP : pPut N₅ b i false = pAdd N₅ b i := by unfold pPut; rw [if_neg (by decide)]
      rw [← eP] at S₆
      have T₆ := S₆.tree T₅.1 fun j k e => pPut_dom.mpr ⟨k, e⟩
      rw [← f9] at T₆
      exact hq _ _ ((S₄.trans T₅).trans T₆)
  · subst hc
    rw [if_neg (by decide)] at hr
    dsimp only at hr
    have S₄ := T₃'
    have C₄ := C₃
    have B₄ : BdK 450 (md N₁ i fun n => { n with w := wv }) := B₃.mono (by omega)
    have fb₄ := md_get (i := i) (f := fun n => { n with w := wv }) hb₁
    generalize (md N₁ i fun n => { n with w := wv }) = N₄ at S₄ C₄ B₄ hr fb₄
    obtain ⟨pi, N₅, n₄, np₄, nb₅, ni₅, f1, f2, f3, f4, f5, f6, ⟨f7, f8⟩, f9⟩ := oMove_spec hr
    walk_at "ss"
    refine gn_parent O' S₄.1.H f1 ?_
    rw [f2]
    refine gm_S (g := a_S_remove_child) (i := pi) O' S₄.1.H f3 (by simp +decide [nodeF]) (by kernel_rfl) (by kernel_rfl) ?_
    refine t_cwMK O' (by kernel_rfl) ?_
    walk_at "ss"
    refine t_kws_cons ?_
    walk_at "ss"
    refine t_kws_nil ?_
    have b1 := B₄ _ _ f3
    have b2 := B₄ _ _ f1
    refine (k_remove_child (sv := false) (.inr rfl) (fs := (_, _) :: fs) O'.less (by simp; omega) (Hd.same hA') S₄.1.H C₄ f3 f1 f4 f5 (by omega) fun G₅ σ₅ S₅ => ?_).w
    refine ⟨trivial, ?_⟩
    rw [← f6] at S₅
    have T₅ := S₅.tree S₄.1 fun j k e => by rw [f6]; exact pRem_dom.mpr ⟨k, e⟩
    have C₅ : Cl N₅ := by rw [f6]; exact C₄.rem
    have B₅ : BdK 900 N₅ := by rw [f6]; exact (B₄.rem).mono (by omega)
    rw [← S₅.2.2 _ _ f1, ← S₅.2.2 _ _ fb₄]
    have c1 := B₅ _ _ f7
    have c2 := B₅ _ _ f8
    walk_at "ss"
    refine op_truthy_bool ⟨fun hex => ?_, fun hex => ?_⟩
    · subst hex
      walk_at "ss"
      refine gm_S (g := a_S_add_child_exclusive) O' S₅.1 f7 (by simp +decide [nodeF]) (by kernel_rfl) (by kernel_rfl) ?_
      walk_at "ss"
      refine (k_add_child_exclusive (fs := (_, _) :: fs) O'.less (by simp; omega) (Hd.same hA') S₅.1 C₅ f7 f8 hbi (by omega) fun G₆ σ₆ S₆ => ?_).w
      refine ⟨trivial, ?_⟩
      walk_at "ss"
      have eP : pPut N₅ b i true = pAddX N₅ b i := by unfold pPut; rw [if_pos rfl]
      rw [← eP] at S₆
      have T₆ := S₆.tree T₅.1 fun j k e => pPut_dom.mpr ⟨k, e⟩
      rw [← f9] at T₆
      exact hq _ _ ((S₄.trans T₅).trans T₆)
    · subst hex
      walk_at "ss"
      refine gm_S (g := a_S_add_child) O' S₅.1 f7 (by simp +decide [nodeF]) (by kernel_rfl) (by kernel_rfl) ?_
      walk_at "ss"
      refine (k_add_child (fs := (_, _) :: fs) O'.less (by simp; omega) S₅.1 C₅ f7 f8 (by omega) fun σ₆ S₆ => ?_).w
      refine ⟨trivial, ?_⟩
      walk_at "ss"
      have eP : pPut N₅ b i false = pAdd N₅ b i := by unfold pPut; rw [if_neg (by decide)]
      rw [← eP] at S₆
      have T₆ := S₆.tree T₅.1 fun j k e => pPut_dom.mpr ⟨k, e⟩
      rw [← f9] at T₆
      exact hq _ _ ((S₄.trans T₅).trans T₆)
end

/-! # Cx -/
set_option maxRecDepth 100000

section
variable {prog : Program} {w : World} {p : Program} {loose : List Str} {mean : ExcName → Option Value} {mg mb : Str → Option Value}
variable {A : Around} {B : Base} {fs : List (Env × LM)} {σ σ' : AH} {Q : Value → AH → Prop} {X : Value → Bool → AH → Prop}
variable {fe env : Env} {es : List Env} {u : Nat} {m : LM}
variable {G : Geo} {N : ST} {i : Int} {n : Node} {T : TA} {M : Int → Bool} {len : Nat}
/-- reprioritize beneath a stream that is there -/
theorem k_rep_hit {v dv wv : Value} {b : Int} {ex cy : Bool} {N' : ST}
    (O : Ok (mkW prog w p loose mean mg mb) A B (fs.map (·.1)) 0) (hsh : fs.length < 40) (Hd : HdOk A B) (h : HT T G N M len σ) (hv : IdV v i) (hi : i ≠ 0) (hM : M i = true) (hd : IdV dv b) (hb0 : b ≠ 0) (hbi : b ≠ i) (hMb : M b = true) (hw : Wt wv) (hwe : er wv = wv)
    (hcy : cyc N i 100 b = some cy) (hr : pRep N i b wv cy ex = some N') (C : Cl N) (Bn : BdK 100 N)
    (hq : ∀ G' σ', StT T G N σ G' N' M len σ' → Q .none σ') : CallR (mkW prog w p loose mean mg mb) A B fs (.ref a_T_reprioritize) [.ref T.t, v, dv, wv, .bool ex] [] σ Q X :=
  k_rep_with O hsh Hd h hv hi hM hd hb0 hbi hw hwe (fun {A'} {fs'} {Q} {X} O₁ hf _ hq₁ => k_gip_hit O₁ (by omega) h hd.nv hMb (hq₁ G σ (.refl h) fun _ _ _ => rfl)) hcy hr C Bn (fun j k e => ⟨k, e⟩) hq
/-- a wrong weight -/
theorem k_rep_bad {v dv wv : Value} {b : Int} {ex cy : Bool}
    (O : Ok (mkW prog w p loose mean mg mb) A B (fs.map (·.1)) 0) (hsh : fs.length < 40) (Hd : HdOk A B) (h : HT T G N M len σ) (hv : IdV v i) (hi : i ≠ 0) (hM : M i = true) (hd : IdV dv b) (hb0 : b ≠ 0) (hbi : b ≠ i) (hMb : M b = true) (hw : (∃ s, wv = .str s 0) ∨ ((∃ k, nv wv = some k ∧ ¬ (1 ≤ k ∧ k ≤ 256)) ∧ er wv = wv))
    (hcy : cyc N i 100 b = some cy) (hx : ∀ ctx, X (.ref c_BadWeightError) ctx σ) : CallR (mkW prog w p loose mean mg mb) A B fs (.ref a_T_reprioritize) [.ref T.t, v, dv, wv, .bool ex] [] σ Q X := by
  refine CallR.go (bs := [("self", .ref T.t), ("stream_id", v), ("depends_on", dv), ("weight", wv), ("exclusive", .bool ex)]) O (by omega) (by rfl) (by kernel_rfl) (binds5_5 rfl rfl rfl (by intro _ _ _ _ _; rfl) (by intro _ _ _ _ _; rfl)) rfl fun L A' O' hA' => ?_
  walk_at "ss"
  refine op_idz hv (op_truthy_bool ?_)
  rw [show decide (i = 0) = false by simpa using hi]
  refine ch_f ?_
  walk_at "ss"
  refine t_Exc O' ?_ fun _ _ q => q
  walk_at "ss"
  refine gt_streams O' h ?_
  walk_at "ss"
  obtain ⟨l, h1, h2, h3⟩ := h.get hv.nv hM
  obtain ⟨n₀, hn₀⟩ := h.sub i hM
  refine op_itemDict O'.g h1 h2 h3 ?_
  walk_at "ss"
  refine op_truthy_dep (.inr hd) ⟨fun _ => ?_, fun c => by simp [hb0] at c⟩
  walk_at "ss"
  refine op_eqP (a := some (.n b)) (b := some (.n i)) (pk_nv hd.nv) (pk_nv hv.nv) (op_truthy_bool ?_)
  rw [show decide (some (DK.n b) = some (DK.n i)) = false by simpa using hbi]
  refine ch_f ?_
  walk_at "ss"
  refine gm_T (g := a_T__get_or_insert_parent) O' h (by simp +decide [treeF]) (by kernel_rfl) (by kernel_rfl) ?_
  walk_at "ss"
  refine (k_gip_hit (fs := (_, _) :: fs) O'.less (by simp; omega) h hd.nv hMb ?_).w
  walk_at "ss"
  refine (k_cycle (fs := (_, _) :: fs) O'.less (by simp; omega) (Hd.same hA') h.H hn₀ h.z hcy ?_).w
  walk_at "ss"
  exact op_setProp (p := p_weight) (fset := a_S_weight_set) O' (h.H.node _ _ hn₀) (k_set_weight_bad (fs := (_, _) :: fs) O'.in1.in1.less (by simp; omega) (Hd.same hA') hw fun ctx _ => hx ctx) (by kernel_rfl) (by kernel_rfl) (by kernel_rfl) (by kernel_rfl) (by rfl)
/-! ## a tree is made -/
def N0 : ST := upd (fun _ => none) 0 (some { newNode (.int 0 0) (.int 1 0) with act := false })
def M0 : Int → Bool := upd (fun _ => false) 0 true
theorem s_IT {x : Addr} {f : LM} {k : Nat} {name : Str} {v : Value} {Q : Unit → LM → AH → Prop} {X} (O : Ok (mkW prog w p loose mean mg mb) A B es u) (hσ : σ x = some (.inst c_PriorityTree f k)) (ht : takerIn (mkW prog w p loose mean mg mb).K c_PriorityTree name = some none) (hk : k < 1000) (hf : f name = none)
    (h : ∀ σ', σ' x = some (.inst c_PriorityTree (upd f name (some v)) (k + 1)) → (∀ a, a ≠ x → σ' a = σ a) → Q () m σ') : Op2 (mkW prog w p loose mean mg mb) A B fe fs (fun o v => setAttr o name v) (.ref x) v m σ Q X :=
  op_setOwn O hσ (by rw [hf]; exact h _ (upd_self _ _ _) fun a z => upd_ne _ _ z) (by kernel_rfl) (by kernel_rfl) ht (by kernel_rfl) hk
theorem Holds.away (H : Holds G N σ) (k : ∀ a c, σ a = some c → foot G N a → σ' a = some c) (kt : ∀ t v, σ t = some (.seq "tuple" v) → σ' t = some (.seq "tuple" v)) : Holds G N σ' := by
  refine ⟨fun j m e => k _ _ (H.node _ _ e) ⟨j, m, e, .inl rfl⟩, fun j m e => k _ _ (H.kid _ _ e) ⟨j, m, e, .inr (.inl rfl)⟩, fun j m e => ?_, H.injc, H.injq, H.cq, H.sid, H.wt, H.sz⟩
  obtain ⟨rs, e1, e2⟩ := H.que _ _ e
  exact ⟨rs, k _ _ e1 ⟨j, m, e, .inr (.inr rfl)⟩, e2.imp fun t d r => kt _ _ r⟩
theorem k_tree {mx : Int} {pos : List Value} (hargs : (pos = [] ∧ mx = 1000) ∨ pos = [.int mx 0]) (O : Ok (mkW prog w p loose mean mg mb) A B (fs.map (·.1)) 8) (hsh : fs.length < 50) (hmx : 0 < mx)
    (h : ∀ T G σ', T.mx = mx → HT T G N0 M0 1 σ' → (∀ a c, σ a = some c → σ' a = some c) → (∀ a, footT T G N0 a ∨ a = T.t → σ a = none) → Q (.ref T.t) σ') : CallW (mkW prog w p loose mean mg mb) A B fs (.ref c_PriorityTree) pos [] σ Q X := by
  refine CallW.make (fI := a_T_dinit) O (fun x A₁ O₁ hA₁ hx => ?_) (by kernel_rfl) (by kernel_rfl) (by kernel_rfl)
  refine CallR.go (bs := [("self", .ref x), ("maximum_streams", .int mx 0)]) (f := a_T_dinit) O₁.less (by omega) (by rfl) (by kernel_rfl) ?_ rfl fun L A' O' hA' => ?_
  · rcases hargs with ⟨rfl, rfl⟩ | rfl
    · refine bindsD1 (v := .int 1000 ?_) rfl rfl rfl (by intro _; rfl) (by intro _; rfl)
    · exact bindsD22 rfl rfl rfl (by intro _ _; rfl) (by intro _ _; rfl)
  walk_at "ss"
  refine t_callWithK0 O' (by kernel_rfl) ?_
  refine t_kws_cons ?_
  walk_at "ss"
  refine t_kws_cons ?_
  walk_at "ss"
  refine t_kws_nil ?_
  -- the stream beneath which all lie
  have H₀ : Holds (Geo.mk (fun _ => x) (fun _ => x) (fun _ => x)) (fun _ => none) (upd σ x (some (.inst c_PriorityTree noF 0))) := by
    refine ⟨?_, ?_, ?_, ?_, ?_, ?_, ?_, ?_, ?_⟩
    all_goals (intros; contradiction)
  refine k_Stream (i := 0) (sid := .int 0 0) (wv := .int 1 0) (.inr ⟨rfl, rfl⟩) O' (by simp; omega) H₀ rfl (fun j n e => by cases e) rfl rfl ⟨1, rfl, by decide, by decide⟩ rfl fun G₁ σ₁ S₁ => ?_
  have x₁ : σ₁ x = some (.inst c_PriorityTree noF 0) := S₁.2.1.1 x _ (upd_self _ _ _) fun ⟨j, k, e, _⟩ => by cases e
  have f₁ : ∀ a, foot G₁ (upd (fun _ => none) 0 (some (newNode (.int 0 0) (.int 1 0)))) a → upd σ x (some (.inst c_PriorityTree noF 0)) a = none := fun a f => (S₁.2.1.2 a f).resolve_left fun ⟨j, k, e, _⟩ => by cases e
  have k₁ : ∀ a c, upd σ x (some (.inst c_PriorityTree noF 0)) a = some c → σ₁ a = some c := fun a c e => S₁.2.1.1 a c e fun ⟨j, k, e, _⟩ => by cases e
  walk_at "ss"
  refine s_IT O' x₁ (by kernel_rfl) (by decide) rfl fun σ₂ x₂ o₂ => ?_
  have nf₁ : ¬ foot G₁ (upd (fun _ => none) 0 (some (newNode (.int 0 0) (.int 1 0)))) x := fun f => by have := f₁ x f; rw [upd_self] at this; cases this
  have H₂ : Holds G₁ (upd (fun _ => none) 0 (some (newNode (.int 0 0) (.int 1 0)))) σ₂ := S₁.1.away (fun a c e f => by
    have : a ≠ x := fun z => nf₁ (z ▸ f)
    rw [o₂ a this]; exact e) fun t v e => by
      have : t ≠ x := fun z => by rw [z, x₁] at e; cases e
      rw [o₂ t this]; exact e
  walk_at "ss"
  refine op_getOwn (attr := none) O' x₂ (v := .ref (G₁.ad 0)) rfl ?_ (by kernel_rfl) (by kernel_rfl) (by kernel_rfl) (by kernel_rfl) rfl
  walk_at "ss"
  refine sn_active O' H₂ (upd_self _ _ _) fun σ₃ S₃ => ?_
  rw [upd_upd] at S₃
  have x₃ : σ₃ x = some _ := S₃.2.1.1 x _ x₂ nf₁
  walk_at "ss"
  refine t_DictP O' fun d hd => ?_
  have xd : x ≠ d := fun z => by rw [← z, x₃] at hd; cases hd
  have x₄ := (upd_ne σ₃ (some (Cell.dict [])) xd).trans x₃
  refine p_cons ?_
  walk_at "ss"
  refine op_getOwn (attr := none) O' x₄ (v := .ref (G₁.ad 0)) rfl ?_ (by kernel_rfl) (by kernel_rfl) (by kernel_rfl) (by kernel_rfl) rfl
  refine p_nil ?_
  refine ⟨upd_self _ _ _, rfl, by simp, ?_⟩
  rw [upd_upd]
  have ed : List.foldl (fun l (p : Value × Value) => dsetV p.1 p.2 l) [] [(Value.int 0 0, .ref (G₁.ad 0))] = [(Value.int 0 0, .ref (G₁.ad 0))] := rfl
  have x₅ := (upd_ne σ₃ (some (Cell.dict [(Value.int 0 0, .ref (G₁.ad 0))])) xd).trans x₃
  walk_at "ss"
  refine s_IT O' x₅ (by kernel_rfl) (by decide) rfl fun σ₆ x₆ o₆ => ?_
  walk_at "ss"
  refine call_isiInt ?_
  refine op_truthy_bool (ch_f ?_)
  walk_at "ss"
  refine op_le (op_truthy_bool ?_)
  rw [show decide (mx ≤ 0) = false by simp; omega]
  refine ch_f ?_
  walk_at "ss"
  refine s_IT O' x₆ (by kernel_rfl) (by decide) rfl fun σ₇ x₇ o₇ => ?_
  walk_at "ss"
  refine ⟨rfl, ?_⟩
  have kp₃ : ∀ a c, σ₃ a = some c → a ≠ x → σ₇ a = some c := fun a c e ax => by
    have ad : a ≠ d := fun z => by rw [z, hd] at e; cases e
    rw [o₇ a ax, o₆ a ax, upd_ne _ _ ad]; exact e
  have nf₃ : ¬ foot G₁ N0 x := fun f => nf₁ ((foot_dom (N := N0) (fun j k e => by
    by_cases z : j = 0
    · subst z; exact ⟨_, upd_self _ _ _⟩
    · exact ⟨k, by unfold N0 at e; rw [upd_ne _ _ z] at e; cases e⟩)) f)
  have occ : ∀ a, foot G₁ N0 a → ∃ c, σ₃ a = some c := fun a ⟨j, k, e, f⟩ => by
    have H₃ : Holds G₁ N0 σ₃ := S₃.1
    rcases f with rfl | rfl | rfl
    · exact ⟨_, H₃.node _ _ e⟩
    · exact ⟨_, H₃.kid _ _ e⟩
    · obtain ⟨rs, e1, _⟩ := H₃.que _ _ e; exact ⟨_, e1⟩
  have H₇ : Holds G₁ N0 σ₇ := (show Holds G₁ N0 σ₃ from S₃.1).away (fun a c e f => kp₃ a c e fun z => nf₃ (z ▸ f)) fun t v e => kp₃ t _ e fun z => by rw [z, x₃] at e; cases e
  refine h ⟨x, d, mx⟩ G₁ σ₇ rfl ⟨H₇, ?_, ?_, ?_, ⟨_, upd_self _ _ _⟩⟩ (fun a c e => ?_) fun a f => ?_
  · refine x₇.trans ?_
    congr 2
    funext y
    unfold treeF
    simp only [upd, noF]
    by_cases z1 : y = "_root_stream"
    · subst z1; rfl
    · by_cases z2 : y = "_streams"
      · subst z2; rfl
      · by_cases z3 : y = "_maximum_streams"
        · subst z3; rfl
        · simp [z1, z2, z3]
  · refine ⟨[(.int 0 0, .ref (G₁.ad 0))], ?_, rfl, ⟨by decide, by simp [dk]⟩, fun k => ?_⟩
    · rw [o₇ d (Ne.symm xd), o₆ d (Ne.symm xd), upd_self]; rfl
    · cases k with
      | s y => simp [dget, dkIs, dk]
      | n j =>
        by_cases z : j = 0
        · subst z; simp [dget, dkIs, dk, M0]
        · have : ¬ (0 = j) := fun q => z q.symm
          simp [dget, dkIs, dk, M0, upd, z, this]
  · intro j hj
    by_cases z : j = 0
    · subst z; exact ⟨_, upd_self _ _ _⟩
    · unfold M0 at hj; rw [upd_ne _ _ z] at hj; cases hj
  · have ax : a ≠ x := fun z => by rw [z, hx] at e; cases e
    have e₁ := k₁ a c (by rw [upd_ne _ _ ax]; exact e)
    have nf : ¬ foot G₁ (upd (fun _ => none) 0 (some (newNode (.int 0 0) (.int 1 0)))) a := fun f => by have := f₁ a f; rw [upd_ne _ _ ax, e] at this; cases this
    have e₃ := S₃.2.1.1 a c (by rw [o₂ a ax]; exact e₁) nf
    exact kp₃ a c e₃ ax
  · have fresh : ∀ a, a ≠ x → foot G₁ N0 a → σ a = none := fun a ax f => by
      have := f₁ a (foot_dom (N := N0) (fun j k e => by
        by_cases z : j = 0
        · subst z; exact ⟨_, upd_self _ _ _⟩
        · exact ⟨k, by unfold N0 at e; rw [upd_ne _ _ z] at e; cases e⟩) f)
      rw [upd_ne _ _ ax] at this; exact this
    rcases f with (f | fd) | fx
    · exact fresh a (fun z => nf₃ (z ▸ f)) f
    · rw [show a = d from fd]
      cases q : σ d with
      | none => rfl
      | some c =>
        have e₁ := k₁ d c (by rw [upd_ne _ _ (Ne.symm xd)]; exact q)
        have nf : ¬ foot G₁ (upd (fun _ => none) 0 (some (newNode (.int 0 0) (.int 1 0)))) d := fun f => by have := f₁ d f; rw [upd_ne _ _ (Ne.symm xd), q] at this; cases this
        have e₃ := S₃.2.1.1 d c (by rw [o₂ d (Ne.symm xd)]; exact e₁) nf
        rw [hd] at e₃; cases e₃
    · rw [show a = x from fx]; exact hx
end

/-! # D1 -/
set_option maxRecDepth 100000

section
variable {prog : Program} {w : World} {p : Program} {loose : List Str} {mean : ExcName → Option Value} {mg mb : Str → Option Value}
variable {A : Around} {B : Base} {fs : List (Env × LM)} {σ σ' : AH} {Q : Value → AH → Prop} {X : Value → Bool → AH → Prop}
variable {fe env : Env} {es : List Env} {u : Nat} {m : LM}
variable {G : Geo} {N : ST} {i : Int} {n : Node} {T : TA} {M : Int → Bool} {len : Nat}
set_option maxHeartbeats 4000000 in
/-- reprioritize beneath the root -/
theorem k_rep_root {v dv wv : Value} {ex : Bool} {N' : ST}
    (O : Ok (mkW prog w p loose mean mg mb) A B (fs.map (·.1)) 0) (hsh : fs.length < 40) (Hd : HdOk A B) (h : HT T G N M len σ) (hv : IdV v i) (hi : i ≠ 0) (hM : M i = true) (hd : DepV dv 0) (hM0 : M 0 = true) (hw : Wt wv) (hwe : er wv = wv)
    (hr : pRep N i 0 wv false ex = some N') (C : Cl N) (B₁ : BdK 100 N)
    (hq : ∀ G' σ', StT T G N σ G' N' M len σ' → Q .none σ') : CallR (mkW prog w p loose mean mg mb) A B fs (.ref a_T_reprioritize) [.ref T.t, v, dv, wv, .bool ex] [] σ Q X := by
  refine CallR.go (bs := [("self", .ref T.t), ("stream_id", v), ("depends_on", dv), ("weight", wv), ("exclusive", .bool ex)]) O (by omega) (by rfl) (by kernel_rfl) (binds5_5 rfl rfl rfl (by intro _ _ _ _ _; rfl) (by intro _ _ _ _ _; rfl)) rfl fun L A' O' hA' => ?_
  walk_at "ss"
  refine op_idz hv (op_truthy_bool ?_)
  rw [show decide (i = 0) = false by simpa using hi]
  refine ch_f ?_
  walk_at "ss"
  refine t_Exc O' ?_ fun _ _ q => q
  walk_at "ss"
  refine gt_streams O' h ?_
  walk_at "ss"
  obtain ⟨l, h1, h2, h3⟩ := h.get hv.nv hM
  obtain ⟨n₁, hi₁⟩ := h.sub i hM
  obtain ⟨nb₁, hb₁⟩ := h.z
  refine op_itemDict O'.g h1 h2 h3 ?_
  walk_at "ss"
  refine op_truthy_dep hd ⟨fun c => by simp at c, fun _ => ?_⟩
  walk_at "ss"
  refine gt_streams O' h ?_
  walk_at "ss"
  obtain ⟨l', h1', h2', h3'⟩ := h.get (v := .int 0 0) (i := 0) rfl hM0
  refine op_itemDict O'.g h1' h2' h3' ?_
  walk_at "ss"
  refine sp_weight O' (by omega) h.H hi₁ hw hwe fun σ₃ S₃ => ?_
  have T₃ := S₃.tree h fun j k e => md_dom.mpr ⟨k, e⟩
  have C₃ : Cl (md N i fun n => { n with w := wv }) := Cl.keep (f := fun n => { n with w := wv }) C fun _ => ⟨rfl, rfl⟩
  have B₃ : BdK 100 (md N i fun n => { n with w := wv }) := B₁.md fun _ => ⟨Nat.le_refl _, Nat.le_refl _⟩
  have T₃' := T₃
  unfold pRep at hr
  rw [if_neg (by decide)] at hr
  dsimp only at hr
  walk_at "ss"
  refine op_truthy_bool ⟨fun hc => (nomatch hc), fun _ => ?_⟩
  have S₄ := T₃'
  have C₄ := C₃
  have B₄ : BdK 450 (md N i fun n => { n with w := wv }) := B₃.mono (by omega)
  have fb₄ := md_get (i := i) (f := fun n => { n with w := wv }) hb₁
  generalize (md N i fun n => { n with w := wv }) = N₄ at S₄ C₄ B₄ hr fb₄
  obtain ⟨pi, N₅, n₄, np₄, nb₅, ni₅, f1, f2, f3, f4, f5, f6, ⟨f7, f8⟩, f9⟩ := oMove_spec hr
  walk_at "ss"
  refine gn_parent O' S₄.1.H f1 ?_
  rw [f2]
  refine gm_S (g := a_S_remove_child) (i := pi) O' S₄.1.H f3 (by simp +decide [nodeF]) (by kernel_rfl) (by kernel_rfl) ?_
  refine t_cwMK O' (by kernel_rfl) ?_
  walk_at "ss"
  refine t_kws_cons ?_
  walk_at "ss"
  refine t_kws_nil ?_
  have b1 := B₄ _ _ f3
  have b2 := B₄ _ _ f1
  refine (k_remove_child (sv := false) (.inr rfl) (fs := (_, _) :: fs) O'.less (by simp; omega) (Hd.same hA') S₄.1.H C₄ f3 f1 f4 f5 (by omega) fun G₅ σ₅ S₅ => ?_).w
  refine ⟨trivial, ?_⟩
  rw [← f6] at S₅
  have T₅ := S₅.tree S₄.1 fun j k e => by rw [f6]; exact pRem_dom.mpr ⟨k, e⟩
  have C₅ : Cl N₅ := by rw [f6]; exact C₄.rem
  have B₅ : BdK 900 N₅ := by rw [f6]; exact (B₄.rem).mono (by omega)
  rw [← S₅.2.2 _ _ f1, ← S₅.2.2 _ _ fb₄]
  have c1 := B₅ _ _ f7
  have c2 := B₅ _ _ f8
  walk_at "ss"
  refine op_truthy_bool ⟨fun hex => ?_, fun hex => ?_⟩
  · subst hex
    walk_at "ss"
    refine gm_S (g := a_S_add_child_exclusive) O' S₅.1 f7 (by simp +decide [nodeF]) (by kernel_rfl) (by kernel_rfl) ?_
    walk_at "ss"
    refine (k_add_child_exclusive (fs := (_, _) :: fs) O'.less (by simp; omega) (Hd.same hA') S₅.1 C₅ f7 f8 (Ne.symm hi) (by omega) fun G₆ σ₆ S₆ => ?_).w
    refine ⟨trivial, ?_⟩
    walk_at "ss"
    have eP : pPut N₅ 0 i true = pAddX N₅ 0 i := by unfold pPut; rw [if_pos rfl]
    rw [← eP] at S₆
    have T₆ := S₆.tree T₅.1 fun j k e => pPut_dom.mpr ⟨k, e⟩
    rw [← f9] at T₆
    exact hq _ _ ((S₄.trans T₅).trans T₆)
  · subst hex
    walk_at "ss"
    refine gm_S (g := a_S_add_child) O' S₅.1 f7 (by simp +decide [nodeF]) (by kernel_rfl) (by kernel_rfl) ?_
    walk_at "ss"
    refine (k_add_child (fs := (_, _) :: fs) O'.less (by simp; omega) S₅.1 C₅ f7 f8 (by omega) fun σ₆ S₆ => ?_).w
    refine ⟨trivial, ?_⟩
    walk_at "ss"
    have eP : pPut N₅ 0 i false = pAdd N₅ 0 i := by unfold pPut; rw [if_neg (by decide)]
    rw [← eP] at S₆
    have T₆ := S₆.tree T₅.1 fun j k e => pPut_dom.mpr ⟨k, e⟩
    rw [← f9] at T₆
    exact hq _ _ ((S₄.trans T₅).trans T₆)
/-- a wrong weight, beneath the root -/
theorem k_rep_root_bad {v dv wv : Value} {ex : Bool}
    (O : Ok (mkW prog w p loose mean mg mb) A B (fs.map (·.1)) 0) (hsh : fs.length < 40) (Hd : HdOk A B) (h : HT T G N M len σ) (hv : IdV v i) (hi : i ≠ 0) (hM : M i = true) (hd : DepV dv 0) (hM0 : M 0 = true) (hw : (∃ s, wv = .str s 0) ∨ ((∃ k, nv wv = some k ∧ ¬ (1 ≤ k ∧ k ≤ 256)) ∧ er wv = wv))
    (hx : ∀ ctx, X (.ref c_BadWeightError) ctx σ) : CallR (mkW prog w p loose mean mg mb) A B fs (.ref a_T_reprioritize) [.ref T.t, v, dv, wv, .bool ex] [] σ Q X := by
  refine CallR.go (bs := [("self", .ref T.t), ("stream_id", v), ("depends_on", dv), ("weight", wv), ("exclusive", .bool ex)]) O (by omega) (by rfl) (by kernel_rfl) (binds5_5 rfl rfl rfl (by intro _ _ _ _ _; rfl) (by intro _ _ _ _ _; rfl)) rfl fun L A' O' hA' => ?_
  walk_at "ss"
  refine op_idz hv (op_truthy_bool ?_)
  rw [show decide (i = 0) = false by simpa using hi]
  refine ch_f ?_
  walk_at "ss"
  refine t_Exc O' ?_ fun _ _ q => q
  walk_at "ss"
  refine gt_streams O' h ?_
  walk_at "ss"
  obtain ⟨l, h1, h2, h3⟩ := h.get hv.nv hM
  obtain ⟨n₀, hn₀⟩ := h.sub i hM
  refine op_itemDict O'.g h1 h2 h3 ?_
  walk_at "ss"
  refine op_truthy_dep hd ⟨fun c => by simp at c, fun _ => ?_⟩
  walk_at "ss"
  refine gt_streams O' h ?_
  walk_at "ss"
  obtain ⟨l', h1', h2', h3'⟩ := h.get (v := .int 0 0) (i := 0) rfl hM0
  refine op_itemDict O'.g h1' h2' h3' ?_
  walk_at "ss"
  exact op_setProp (p := p_weight) (fset := a_S_weight_set) O' (h.H.node _ _ hn₀) (k_set_weight_bad (fs := (_, _) :: fs) O'.in1.in1.less (by simp; omega) (Hd.same hA') hw fun ctx _ => hx ctx) (by kernel_rfl) (by kernel_rfl) (by kernel_rfl) (by kernel_rfl) (by rfl)
/-- reprioritize beneath a stream that is not there -/
theorem k_rep_new {v dv wv : Value} {b : Int} {ex : Bool} {N' : ST}
    (O : Ok (mkW prog w p loose mean mg mb) A B (fs.map (·.1)) 0) (hsh : fs.length < 40) (hA : A.handled = none) (h : HT T G N M len σ) (hv : IdV v i) (hi : i ≠ 0) (hM : M i = true) (hd : IdV dv b) (hb0 : b ≠ 0) (hbi : b ≠ i) (hMb : M b = false) (hM0 : M 0 = true) (hNb : N b = none) (hrb : NoRef N b) (hw : Wt wv) (hwe : er wv = wv)
    (hroom : (len : Int) + 1 ≤ T.mx) (hl : len < 5000) (C : Cl N) (Bn : Bd N)
    (hcy : cyc (pParB N b dv) i 100 b = some false) (hr : pRep (pParB N b dv) i b wv false ex = some N') (B₁ : BdK 100 (pParB N b dv))
    (hq : ∀ G' σ', StT T G N σ G' N' (upd M b true) (len + 1) σ' → Q .none σ') : CallR (mkW prog w p loose mean mg mb) A B fs (.ref a_T_reprioritize) [.ref T.t, v, dv, wv, .bool ex] [] σ Q X := by
  have dm : ∀ j, (∃ k, pParB N b dv j = some k) ↔ ∃ k, pNew N b dv (.int 16 0) j = some k := fun j => by unfold pParB; rw [md_dom, pAdd_dom]
  refine k_rep_with O hsh (.inl hA) h hv hi hM hd hb0 hbi hw hwe (fun {A'} {fs'} {Q} {X} O₁ hf hA₁ hq₁ => k_gip_miss O₁ (by omega) (hA₁.trans hA) h C Bn hd hb0 hMb hM0 hNb hrb hroom hl hq₁) hcy hr
    (Cl.keep (f := fun n => { n with act := false }) (Cl.pAdd (C.new hNb) ⟨_, pNew_self⟩) fun _ => ⟨rfl, rfl⟩) B₁ (fun j k e => (dm j).mpr ?_) hq
  by_cases z : j = b
  · subst z; exact ⟨_, pNew_self⟩
  · exact ⟨k, (upd_ne _ _ z).trans e⟩
end

/-! # T0 -/

/-! ## a table: a dict from ints to rows; a row is a dict that holds some lists of its own -/
structure RK (ρ : Type) where
  nl : Nat
  ls : Nat → ρ → List Value
  fd : (Nat → Addr) → ρ → List (Value × Value)
structure RG where
  ra : Int → Addr
  rl : Nat → Int → Addr
section
variable {ρ : Type} {K : RK ρ} {g g' : RG} {D : Addr} {R R' : Int → Option ρ} {len : Nat} {σ σ' : AH} {i : Int} {r r' : ρ}
structure Tab (K : RK ρ) (g : RG) (D : Addr) (R : Int → Option ρ) (len : Nat) (σ : AH) : Prop where
  d : ∃ l, σ D = some (.dict l) ∧ l.length = len ∧ (len ≤ 1000 ∧ (l.map fun p => dk p.1).Nodup) ∧ ∀ k, dget l k = match k with
    | .n i => (R i).map fun _ => .ref (g.ra i)
    | .s _ => none
  row : ∀ i r, R i = some r → σ (g.ra i) = some (.dict (K.fd (fun k => g.rl k i) r))
  lst : ∀ i r k, R i = some r → k < K.nl → σ (g.rl k i) = some (.seq "list" (K.ls k r))
  ia : ∀ i j r q, R i = some r → R j = some q → g.ra i = g.ra j → i = j
  il : ∀ i j k l r q, R i = some r → R j = some q → k < K.nl → l < K.nl → g.rl k i = g.rl l j → k = l ∧ i = j
  ad : ∀ i r, R i = some r → g.ra i ≠ D
def footR (K : RK ρ) (g : RG) (D : Addr) (R : Int → Option ρ) (a : Addr) : Prop := a = D ∨ ∃ i r, R i = some r ∧ (a = g.ra i ∨ ∃ k, k < K.nl ∧ a = g.rl k i)
def TabS (K : RK ρ) (g : RG) (D : Addr) (R : Int → Option ρ) (σ : AH) (g' : RG) (R' : Int → Option ρ) (len' : Nat) (σ' : AH) : Prop :=
  Tab K g' D R' len' σ' ∧ Fr2 (footR K g D R) σ (footR K g' D R') σ' ∧ ∀ i r, R i = some r → g'.ra i = g.ra i
theorem TabS.refl (h : Tab K g D R len σ) : TabS K g D R σ g R len σ := ⟨h, .refl, fun _ _ _ => rfl⟩
theorem TabS.trans {g'' : RG} {R'' : Int → Option ρ} {l' l'' : Nat} {σ'' : AH} (a : TabS K g D R σ g' R' l' σ') (b : TabS K g' D R' σ' g'' R'' l'' σ'') (d : ∀ i r, R i = some r → g'.ra i = g.ra i → g''.ra i = g.ra i) : TabS K g D R σ g'' R'' l'' σ'' :=
  ⟨b.1, a.2.1.trans b.2.1, fun i r e => d i r e (a.2.2 i r e)⟩
theorem TabS.then {g'' : RG} {R'' : Int → Option ρ} {l' l'' : Nat} {σ'' : AH} (a : TabS K g D R σ g' R' l' σ') (b : TabS K g' D R' σ' g'' R'' l'' σ'') (d : ∀ i r, R i = some r → ∃ r', R' i = some r') : TabS K g D R σ g'' R'' l'' σ'' :=
  a.trans b fun i r e q => by obtain ⟨r', e'⟩ := d i r e; rw [b.2.2 i r' e', q]
theorem Tab.get (h : Tab K g D R len σ) (hi : R i = some r) : ∃ l, σ D = some (.dict l) ∧ dget l (.n i) = some (.ref (g.ra i)) := by
  obtain ⟨l, h1, _, _, h4⟩ := h.d
  exact ⟨l, h1, by rw [h4]; dsimp only; rw [hi]; rfl⟩
theorem Tab.isSome (h : Tab K g D R len σ) : ∃ l, σ D = some (.dict l) ∧ (dget l (.n i)).isSome = (R i).isSome := by
  obtain ⟨l, h1, _, _, h4⟩ := h.d
  exact ⟨l, h1, by rw [h4]; dsimp only; cases R i <;> rfl⟩
theorem Tab.offD (h : Tab K g D R len σ) {a : Addr} (ha : σ a = none) : ¬ footR K g D R a := by
  rintro (rfl | ⟨i, r, e, rfl | ⟨k, hk, rfl⟩⟩)
  · obtain ⟨l, h1, _⟩ := h.d; rw [h1] at ha; cases ha
  · rw [h.row _ _ e] at ha; cases ha
  · rw [h.lst _ _ _ e hk] at ha; cases ha
theorem Tab.offT (h : Tab K g D R len σ) {a : Addr} {ty : String} {v : List Value} (ha : σ a = some (.seq ty v)) (hty : ty ≠ "list") : ¬ footR K g D R a := by
  rintro (rfl | ⟨i, r, e, rfl | ⟨k, hk, rfl⟩⟩)
  · obtain ⟨l, h1, _⟩ := h.d; rw [h1] at ha; cases ha
  · rw [h.row _ _ e] at ha; cases ha
  · rw [h.lst _ _ _ e hk] at ha; simp at ha; exact hty ha.1.symm
/-- other cells do not matter -/
theorem Tab.away (h : Tab K g D R len σ) (k : ∀ a c, σ a = some c → footR K g D R a → σ' a = some c) : Tab K g D R len σ' := by
  obtain ⟨l, h1, h2⟩ := h.d
  exact ⟨⟨l, k _ _ h1 (.inl rfl), h2⟩, fun i r e => k _ _ (h.row i r e) (.inr ⟨i, r, e, .inl rfl⟩), fun i r j e hj => k _ _ (h.lst i r j e hj) (.inr ⟨i, r, e, .inr ⟨j, hj, rfl⟩⟩), h.ia, h.il, h.ad⟩
theorem Tab.keep (h : Tab K g D R len σ) (k : ∀ a c, σ a = some c → σ' a = some c) : TabS K g D R σ g R len σ' :=
  ⟨h.away fun a c e _ => k a c e, ⟨fun a c e _ => k a c e, fun _ f => .inl f⟩, fun _ _ _ => rfl⟩
/-- a row is turned -/
theorem Tab.put (h : Tab K g D R len σ) (hi : R i = some r) (hra : g'.ra = g.ra) (hrl : ∀ k j, j ≠ i → g'.rl k j = g.rl k j)
    (hx : ∀ a c, σ a = some c → a ≠ g.ra i → (∀ k, k < K.nl → a ≠ g.rl k i) → σ' a = some c) (h1 : σ' (g.ra i) = some (.dict (K.fd (fun k => g'.rl k i) r'))) (h2 : ∀ k, k < K.nl → σ' (g'.rl k i) = some (.seq "list" (K.ls k r')))
    (hc : ∀ k, k < K.nl → g'.rl k i = g.rl k i ∨ σ (g'.rl k i) = none) (hd : ∀ k l, k < K.nl → l < K.nl → g'.rl k i = g'.rl l i → k = l) : TabS K g D R σ g' (upd R i (some r')) len σ' := by
  have cs : ∀ j q, upd R i (some r') j = some q → (j = i ∧ q = r') ∨ (j ≠ i ∧ R j = some q) := fun j q e => by
    by_cases z : j = i
    · subst z; rw [upd_self] at e; exact .inl ⟨rfl, (Option.some.inj e).symm⟩
    · rw [upd_ne _ _ z] at e; exact .inr ⟨z, e⟩
  obtain ⟨l, d1, d2, d3, d4⟩ := h.d
  have old : ∀ j q, j ≠ i → R j = some q → σ' (g.ra j) = σ (g.ra j) ∧ ∀ k, k < K.nl → σ' (g.rl k j) = σ (g.rl k j) := fun j q z e => by
    refine ⟨?_, fun k hk => ?_⟩
    · rw [h.row _ _ e]
      exact hx _ _ (h.row _ _ e) (fun y => z (h.ia _ _ _ _ e hi y)) fun k hk y => by
        have := h.row _ _ e; rw [y, h.lst _ _ _ hi hk] at this; cases this
    · rw [h.lst _ _ _ e hk]
      exact hx _ _ (h.lst _ _ _ e hk) (fun y => by have := h.lst _ _ _ e hk; rw [y, h.row _ _ hi] at this; cases this) fun k' hk' y => z (h.il _ _ _ _ _ _ e hi hk hk' y).2
  have nf : ∀ k j q, k < K.nl → R j = some q → σ (g'.rl k i) = none → ∀ l, l < K.nl → g'.rl k i ≠ g.rl l j := fun k j q _ e n l hl y => by
    rw [y, h.lst _ _ _ e hl] at n; cases n
  refine ⟨⟨⟨l, ?_, d2, d3, fun k => ?_⟩, fun j q e => ?_, fun j q k e hk => ?_, fun a b x y e1 e2 z => ?_, fun a b k k' x y e1 e2 hk hk' z => ?_, fun j q e => ?_⟩, ⟨fun a c e nf => ?_, fun a f => ?_⟩, fun j q e => by rw [hra]⟩
  · exact hx _ _ d1 (fun y => h.ad _ _ hi y.symm) fun k hk y => by rw [y, h.lst _ _ _ hi hk] at d1; cases d1
  · rw [d4 k]
    cases k with
    | s x => rfl
    | n j =>
      dsimp only
      rw [hra]
      by_cases z : j = i
      · subst z; rw [hi, upd_self]; rfl
      · rw [upd_ne _ _ z]
  · rcases cs _ _ e with ⟨rfl, rfl⟩ | ⟨z, e⟩
    · rw [hra]; exact h1
    · rw [hra, (old j q z e).1, h.row _ _ e]
      have : (fun k => g'.rl k j) = fun k => g.rl k j := funext fun k => hrl k j z
      rw [this]
  · rcases cs _ _ e with ⟨rfl, rfl⟩ | ⟨z, e⟩
    · exact h2 k hk
    · rw [hrl k j z, (old j q z e).2 k hk, h.lst _ _ _ e hk]
  · rw [hra] at z
    rcases cs _ _ e1 with ⟨rfl, rfl⟩ | ⟨_, f1⟩ <;> rcases cs _ _ e2 with ⟨rfl, rfl⟩ | ⟨_, f2⟩
    · rfl
    · exact h.ia _ _ _ _ hi f2 z
    · exact h.ia _ _ _ _ f1 hi z
    · exact h.ia _ _ _ _ f1 f2 z
  · rcases cs _ _ e1 with ⟨rfl, rfl⟩ | ⟨z1, f1⟩ <;> rcases cs _ _ e2 with ⟨rfl, rfl⟩ | ⟨z2, f2⟩
    · exact ⟨hd _ _ hk hk' z, rfl⟩
    · rw [hrl _ _ z2] at z
      rcases hc k hk with q | q
      · rw [q] at z; exact h.il _ _ _ _ _ _ hi f2 hk hk' z
      · exact absurd z (nf k _ _ hk f2 q _ hk')
    · rw [hrl _ _ z1] at z
      rcases hc k' hk' with q | q
      · rw [q] at z; exact h.il _ _ _ _ _ _ f1 hi hk hk' z
      · exact absurd z.symm (nf k' _ _ hk' f1 q _ hk)
    · rw [hrl _ _ z1, hrl _ _ z2] at z
      exact h.il _ _ _ _ _ _ f1 f2 hk hk' z
  · rw [hra]
    rcases cs _ _ e with ⟨rfl, rfl⟩ | ⟨_, e⟩
    · exact h.ad _ _ hi
    · exact h.ad _ _ e
  · exact hx a c e (fun y => nf (.inr ⟨i, r, hi, .inl y⟩)) fun k hk y => nf (.inr ⟨i, r, hi, .inr ⟨k, hk, y⟩⟩)
  · rcases f with f | ⟨j, q, e, f⟩
    · exact .inl (.inl f)
    · rw [hra] at f
      rcases cs _ _ e with ⟨rfl, rfl⟩ | ⟨z, e⟩
      · rcases f with f | ⟨k, hk, f⟩
        · exact .inl (.inr ⟨_, _, hi, .inl f⟩)
        · rcases hc k hk with y | y
          · exact .inl (.inr ⟨_, _, hi, .inr ⟨k, hk, f.trans y⟩⟩)
          · exact .inr (by rw [f]; exact y)
      · rcases f with f | ⟨k, hk, f⟩
        · exact .inl (.inr ⟨_, _, e, .inl f⟩)
        · exact .inl (.inr ⟨_, _, e, .inr ⟨k, hk, by rw [f, hrl _ _ z]⟩⟩)
/-- a new row -/
theorem Tab.new (h : Tab K g D R len σ) (hi : R i = none) {l : List (Value × Value)} {key : Value} (hl : σ D = some (.dict l)) (hkey : dk key = some (.n i)) (hz : len < 1000) (hra : ∀ j, j ≠ i → g'.ra j = g.ra j) (hrl : ∀ k j, j ≠ i → g'.rl k j = g.rl k j)
    (hx : ∀ a c, σ a = some c → a ≠ D → σ' a = some c) (h0 : σ' D = some (.dict (dset (.n i) key (.ref (g'.ra i)) l))) (h1 : σ' (g'.ra i) = some (.dict (K.fd (fun k => g'.rl k i) r'))) (h2 : ∀ k, k < K.nl → σ' (g'.rl k i) = some (.seq "list" (K.ls k r')))
    (ha : σ (g'.ra i) = none) (hc : ∀ k, k < K.nl → σ (g'.rl k i) = none) (hd : ∀ k l, k < K.nl → l < K.nl → g'.rl k i = g'.rl l i → k = l) : TabS K g D R σ g' (upd R i (some r')) (len + 1) σ' := by
  have cs : ∀ j q, upd R i (some r') j = some q → (j = i ∧ q = r') ∨ (j ≠ i ∧ R j = some q) := fun j q e => by
    by_cases z : j = i
    · subst z; rw [upd_self] at e; exact .inl ⟨rfl, (Option.some.inj e).symm⟩
    · rw [upd_ne _ _ z] at e; exact .inr ⟨z, e⟩
  obtain ⟨l', d1, d2, d3, d4⟩ := h.d
  rw [hl] at d1; cases d1
  have oldR : ∀ j q, R j = some q → σ' (g.ra j) = σ (g.ra j) := fun j q e => by
    rw [h.row _ _ e]; exact hx _ _ (h.row _ _ e) (h.ad _ _ e)
  have oldL : ∀ j q k, R j = some q → k < K.nl → σ' (g.rl k j) = σ (g.rl k j) := fun j q k e hk => by
    rw [h.lst _ _ _ e hk]; exact hx _ _ (h.lst _ _ _ e hk) fun y => by
      have := h.lst _ _ _ e hk; rw [y, hl] at this; cases this
  have aD : g'.ra i ≠ D := fun y => by rw [y, hl] at ha; cases ha
  refine ⟨⟨⟨_, h0, ?_, ⟨by omega, dset_nodup hkey d3.2⟩, fun k => ?_⟩, fun j q e => ?_, fun j q k e hk => ?_, fun a b x y e1 e2 z => ?_, fun a b k k' x y e1 e2 hk hk' z => ?_, fun j q e => ?_⟩, ⟨fun a c e nf => ?_, fun a f => ?_⟩, fun j q e => hra j fun y => by rw [y, hi] at e; cases e⟩
  · rw [dset_length (by rw [d4]; dsimp only; rw [hi]; rfl), d2]
  · rw [dget_dset hkey, d4]
    cases k with
    | s x => simp
    | n j =>
      by_cases z : j = i
      · subst z; simp
      · simp [z, upd, hra j z]
  · rcases cs _ _ e with ⟨rfl, rfl⟩ | ⟨z, e⟩
    · exact h1
    · rw [hra j z, oldR _ _ e, h.row _ _ e]
      have : (fun k => g'.rl k j) = fun k => g.rl k j := funext fun k => hrl k j z
      rw [this]
  · rcases cs _ _ e with ⟨rfl, rfl⟩ | ⟨z, e⟩
    · exact h2 k hk
    · rw [hrl k j z, oldL _ _ _ e hk, h.lst _ _ _ e hk]
  · rcases cs _ _ e1 with ⟨rfl, rfl⟩ | ⟨z1, f1⟩ <;> rcases cs _ _ e2 with ⟨rfl, rfl⟩ | ⟨z2, f2⟩
    · rfl
    · rw [hra _ z2] at z; rw [z, h.row _ _ f2] at ha; cases ha
    · rw [hra _ z1] at z; rw [← z, h.row _ _ f1] at ha; cases ha
    · rw [hra _ z1, hra _ z2] at z; exact h.ia _ _ _ _ f1 f2 z
  · rcases cs _ _ e1 with ⟨rfl, rfl⟩ | ⟨z1, f1⟩ <;> rcases cs _ _ e2 with ⟨rfl, rfl⟩ | ⟨z2, f2⟩
    · exact ⟨hd _ _ hk hk' z, rfl⟩
    · rw [hrl _ _ z2] at z
      have := hc k hk; rw [z, h.lst _ _ _ f2 hk'] at this; cases this
    · rw [hrl _ _ z1] at z
      have := hc k' hk'; rw [← z, h.lst _ _ _ f1 hk] at this; cases this
    · rw [hrl _ _ z1, hrl _ _ z2] at z
      exact h.il _ _ _ _ _ _ f1 f2 hk hk' z
  · rcases cs _ _ e with ⟨rfl, rfl⟩ | ⟨z, e⟩
    · exact aD
    · rw [hra _ z]; exact h.ad _ _ e
  · exact hx a c e fun y => nf (.inl y)
  · rcases f with f | ⟨j, q, e, f⟩
    · exact .inl (.inl f)
    · rcases cs _ _ e with ⟨rfl, rfl⟩ | ⟨z, e⟩
      · rcases f with f | ⟨k, hk, f⟩
        · exact .inr (by rw [f]; exact ha)
        · exact .inr (by rw [f]; exact hc k hk)
      · rcases f with f | ⟨k, hk, f⟩
        · exact .inl (.inr ⟨_, _, e, .inl (by rw [f, hra _ z])⟩)
        · exact .inl (.inr ⟨_, _, e, .inr ⟨k, hk, by rw [f, hrl _ _ z]⟩⟩)
/-- a row is taken out -/
theorem Tab.del (h : Tab K g D R len σ) (hi : R i = some r) {l : List (Value × Value)} (hl : σ D = some (.dict l)) (h0 : σ' D = some (.dict (ddel (.n i) l))) (hx : ∀ a c, σ a = some c → a ≠ D → σ' a = some c) : Tab K g D (upd R i none) (len - 1) σ' ∧ Fr2 (footR K g D R) σ (footR K g D (upd R i none)) σ' := by
  have cs : ∀ j q, upd R i none j = some q → j ≠ i ∧ R j = some q := fun j q e => by
    by_cases z : j = i
    · subst z; rw [upd_self] at e; cases e
    · rw [upd_ne _ _ z] at e; exact ⟨z, e⟩
  obtain ⟨l', d1, d2, d3, d4⟩ := h.d
  rw [hl] at d1; cases d1
  refine ⟨⟨⟨_, h0, ?_, ⟨by omega, ddel_nodup d3.2⟩, fun k => ?_⟩, fun j q e => hx _ _ (h.row _ _ (cs _ _ e).2) (h.ad _ _ (cs _ _ e).2), fun j q k e hk => hx _ _ (h.lst _ _ _ (cs _ _ e).2 hk) fun y => ?_,
    fun a b x y e1 e2 z => h.ia _ _ _ _ (cs _ _ e1).2 (cs _ _ e2).2 z, fun a b k k' x y e1 e2 hk hk' z => h.il _ _ _ _ _ _ (cs _ _ e1).2 (cs _ _ e2).2 hk hk' z, fun j q e => h.ad _ _ (cs _ _ e).2⟩, ⟨fun a c e nf => hx a c e fun y => nf (.inl y), fun a f => .inl ?_⟩⟩
  · have := ddel_length (k := .n i) (l := l) (by rw [d4]; dsimp only; rw [hi]; rfl)
    omega
  · rw [dget_ddel d3.2, d4]
    cases k with
    | s x => simp
    | n j =>
      by_cases z : j = i
      · subst z; simp
      · simp [z, upd]
  · have := h.lst _ _ _ (cs _ _ e).2 hk; rw [y, hl] at this; cases this
  · rcases f with f | ⟨j, q, e, f⟩
    · exact .inl f
    · exact .inr ⟨j, q, (cs _ _ e).2, f⟩
end

/-! # P1 -/

section
/-! ## the shape of a tree; `D` the streams that hang nowhere at the moment -/
theorem ins_perm (e : Int × Int) (l : List (Int × Int)) : (ins e l).Perm (e :: l) := by
  unfold ins putAt
  have := (List.perm_middle (a := e) (l₁ := l.take (place e l)) (l₂ := l.drop (place e l)))
  rw [List.take_append_drop] at this
  exact this
theorem requeue_perm (c : Int) : ∀ (q acc : List (Int × Int)), (requeue c acc q).Perm (acc ++ q.filter (fun e => decide (e.2 ≠ c)))
  | [], acc => by simp [requeue]
  | e :: q, acc => by
    have ih := requeue_perm c q (if e.2 = c then acc else ins e acc)
    have : requeue c acc (e :: q) = requeue c (if e.2 = c then acc else ins e acc) q := rfl
    rw [this]
    by_cases z : e.2 = c
    · rw [if_pos z] at ih ⊢
      rw [List.filter_cons_of_neg (by simpa using z)]; exact ih
    · rw [if_neg z] at ih ⊢
      rw [List.filter_cons_of_pos (by simpa using z)]
      refine ih.trans ?_
      refine ((ins_perm e acc).append_right _).trans ?_
      exact (List.perm_middle (a := e) (l₁ := acc) (l₂ := q.filter _)).symm
theorem nodup_sub_length {α : Type} [DecidableEq α] : ∀ {l k : List α}, l.Nodup → (∀ x ∈ l, x ∈ k) → l.length ≤ k.length
  | [], k, _, _ => Nat.zero_le _
  | a :: l, k, h, s => by
    rw [List.nodup_cons] at h
    have ha := s a (.head _)
    have := nodup_sub_length (l := l) (k := k.erase a) h.2 (fun x hx => (List.mem_erase_of_ne (fun z => h.1 (by rw [← z]; exact hx))).mpr (s x (.tail _ hx)))
    rw [List.length_erase_of_mem ha] at this
    have := List.length_pos_of_mem ha
    simp; omega

abbrev DS := Int → Prop
def Top (N : ST) (D : DS) : Nat → Int → Int → Prop
  | 0, i, t => i = t ∧ (i = 0 ∨ D i) ∧ ∃ n, N i = some n
  | k + 1, i, t => i ≠ 0 ∧ ¬ D i ∧ ∃ n p, N i = some n ∧ n.par = some p ∧ Top N D k p t
structure WF (ids : List Int) (D : DS) (N : ST) : Prop where
  root : ∃ n, N 0 = some n ∧ n.act = false ∧ n.par = none
  z : ¬ D 0
  ds : ∀ i, D i → ∃ n, N i = some n
  inn : ∀ i n, N i = some n → i ∈ ids
  kd : ∀ p n c, N p = some n → (c ∈ n.kids ↔ c ≠ 0 ∧ ¬ D c ∧ ∃ k, N c = some k ∧ k.par = some p)
  nd : ∀ p n, N p = some n → n.kids.Nodup
  qp : ∀ p n, N p = some n → (n.q.map (·.2)).Perm n.kids
  tp : ∀ i n, N i = some n → ∃ k t, Top N D k i t
abbrev none' : DS := fun _ => False
variable {ids : List Int} {D D' : DS} {N N' : ST} {i : Int} {n : Node}

theorem Top.dom : ∀ {k : Nat} {i t : Int}, Top N D k i t → (∃ n, N i = some n) ∧ (∃ n, N t = some n) ∧ (t = 0 ∨ D t)
  | 0, _, _, ⟨rfl, h, n⟩ => ⟨n, n, h⟩
  | k + 1, _, _, ⟨_, _, n, p, hn, _, h⟩ => ⟨⟨n, hn⟩, (Top.dom h).2⟩
theorem Top.det : ∀ {k k' : Nat} {i t t' : Int}, Top N D k i t → Top N D k' i t' → k = k' ∧ t = t'
  | 0, 0, _, _, _, ⟨rfl, _⟩, ⟨rfl, _⟩ => ⟨rfl, rfl⟩
  | 0, _ + 1, _, _, _, ⟨rfl, h, _⟩, ⟨a, b, _⟩ => (h.elim a b).elim
  | _ + 1, 0, _, _, _, ⟨a, b, _⟩, ⟨rfl, h, _⟩ => (h.elim a b).elim
  | _ + 1, _ + 1, _, _, _, ⟨_, _, n, p, hn, hp, h⟩, ⟨_, _, n', p', hn', hp', h'⟩ => by
    rw [hn] at hn'; cases hn'
    rw [hp] at hp'; cases hp'
    obtain ⟨rfl, rfl⟩ := Top.det h h'
    exact ⟨rfl, rfl⟩
/-- a chain speaks of parents alone -/
theorem Top.congr (hp : ∀ j n, N j = some n → ∃ n', N' j = some n' ∧ n'.par = n.par) : ∀ {k : Nat} {i t : Int}, Top N D k i t → Top N' D k i t
  | 0, _, _, ⟨rfl, h, n, hn⟩ => ⟨rfl, h, by obtain ⟨n', e, _⟩ := hp _ _ hn; exact ⟨n', e⟩⟩
  | _ + 1, _, _, ⟨a, b, n, p, hn, hpp, h⟩ => by
    obtain ⟨n', e, e'⟩ := hp _ _ hn
    exact ⟨a, b, n', p, e, e'.trans hpp, Top.congr hp h⟩
/-- more streams are taken off -/
theorem Top.more (hD : ∀ i, D i → D' i) (hd : ∀ i, D' i → ∃ n, N i = some n) (hz : ¬ D' 0) : ∀ {k : Nat} {i t : Int}, Top N D k i t → ∃ k' t', Top N D' k' i t' ∧ k' ≤ k ∧ (k' = k ∧ t' = t ∨ k' < k ∧ D' t' ∧ ¬ D t')
  | 0, i, _, ⟨rfl, h, n⟩ => ⟨0, i, ⟨rfl, h.imp id (hD _), n⟩, Nat.le_refl _, .inl ⟨rfl, rfl⟩⟩
  | k + 1, i, t, ⟨a, b, n, p, hn, hpp, h⟩ => by
    by_cases q : D' i
    · exact ⟨0, i, ⟨rfl, .inr q, n, hn⟩, Nat.zero_le _, .inr ⟨Nat.succ_pos _, q, b⟩⟩
    · obtain ⟨k', t', h1, h2, h3⟩ := Top.more hD hd hz h
      exact ⟨k' + 1, t', ⟨a, q, n, p, hn, hpp, h1⟩, Nat.succ_le_succ h2, h3.imp (fun x => ⟨by rw [x.1], x.2⟩) fun x => ⟨Nat.succ_lt_succ x.1, x.2⟩⟩
theorem WF.congrD (h : WF ids D N) (e : ∀ i, D i ↔ D' i) : WF ids D' N := by
  have : D = D' := funext fun i => propext (e i)
  rw [← this]; exact h
theorem WF.par (h : WF ids D N) (hn : N i = some n) (hi : i ≠ 0) (hd : ¬ D i) : ∃ p np, n.par = some p ∧ N p = some np ∧ i ∈ np.kids := by
  obtain ⟨k, t, ht⟩ := h.tp _ _ hn
  cases k with
  | zero => obtain ⟨_, q, _⟩ := ht; exact (q.elim hi hd).elim
  | succ k =>
    obtain ⟨_, _, n', p, e, e', h'⟩ := ht
    rw [hn] at e; cases e
    obtain ⟨⟨np, hnp⟩, _⟩ := Top.dom h'
    exact ⟨p, np, e', hnp, (h.kd _ _ _ hnp).mpr ⟨hi, hd, n, hn, e'⟩⟩
/-- what steps that leave parents and children as they are keep -/
theorem WF.same (h : WF ids D N) (f : ∀ j n, N j = some n → ∃ n', N' j = some n' ∧ n'.par = n.par ∧ n'.kids = n.kids ∧ n'.act = n.act ∧ (n'.q.map (·.2)).Perm (n.q.map (·.2))) (b : ∀ j n, N' j = some n → ∃ n', N j = some n') : WF ids D N' := by
  have g : ∀ j n', N' j = some n' → ∃ n, N j = some n ∧ n'.par = n.par ∧ n'.kids = n.kids ∧ n'.act = n.act ∧ (n'.q.map (·.2)).Perm (n.q.map (·.2)) := fun j n' e => by
    obtain ⟨n, hn⟩ := b _ _ e
    obtain ⟨n₁, e1, e2⟩ := f _ _ hn
    rw [e] at e1; cases e1
    exact ⟨n, hn, e2⟩
  refine ⟨?_, h.z, fun i hi => ?_, fun i n e => ?_, fun p n c e => ?_, fun p n e => ?_, fun p n e => ?_, fun i n e => ?_⟩
  · obtain ⟨n, h1, h2⟩ := h.root
    obtain ⟨n', e, e'', _, e', _⟩ := f _ _ h1
    exact ⟨n', e, e'.trans h2.1, e''.trans h2.2⟩
  · obtain ⟨n, hn⟩ := h.ds i hi
    obtain ⟨n', e, _⟩ := f _ _ hn
    exact ⟨n', e⟩
  · obtain ⟨n', hn⟩ := b _ _ e; exact h.inn _ _ hn
  · obtain ⟨n₀, e0, e1, e2, e3, e4⟩ := g _ _ e
    rw [e2, h.kd _ _ _ e0]
    constructor
    · rintro ⟨a, d, k, hk, hp⟩
      obtain ⟨k', f1, f2, _⟩ := f _ _ hk
      exact ⟨a, d, k', f1, f2.trans hp⟩
    · rintro ⟨a, d, k, hk, hp⟩
      obtain ⟨k', f1, f2, _⟩ := g _ _ hk
      exact ⟨a, d, k', f1, f2.symm.trans hp⟩
  · obtain ⟨n₀, e0, e1, e2, e3, e4⟩ := g _ _ e
    rw [e2]; exact h.nd _ _ e0
  · obtain ⟨n₀, e0, e1, e2, e3, e4⟩ := g _ _ e
    rw [e2]; exact e4.trans (h.qp _ _ e0)
  · obtain ⟨n₀, e0, _⟩ := g _ _ e
    obtain ⟨k, t, ht⟩ := h.tp _ _ e0
    exact ⟨k, t, ht.congr fun j n e => by obtain ⟨n', a, b, _⟩ := f _ _ e; exact ⟨n', a, b⟩⟩

theorem WF.new {sid wv : Value} (h : WF ids D N) (hi : i ∈ ids) (hN : N i = none) (h0 : i ≠ 0) : WF ids (fun x => D x ∨ x = i) (pNew N i sid wv) := by
  have old : ∀ j k, N j = some k → pNew N i sid wv j = some k := fun j k e => (upd_ne _ _ fun z => by rw [z, hN] at e; cases e).trans e
  have cs : ∀ j k, pNew N i sid wv j = some k → (j = i ∧ k = newNode sid wv) ∨ (j ≠ i ∧ N j = some k) := fun j k e => by
    by_cases z : j = i
    · subst z; unfold pNew at e; rw [upd_self] at e; exact .inl ⟨rfl, (Option.some.inj e).symm⟩
    · exact .inr ⟨z, by unfold pNew at e; rw [upd_ne _ _ z] at e; exact e⟩
  have nopar : ∀ c k, N c = some k → c ≠ 0 → ¬ D c → k.par ≠ some i := fun c k e c0 cd q => by
    obtain ⟨p, np, e1, e2, _⟩ := h.par e c0 cd
    rw [q] at e1; cases e1
    rw [hN] at e2; cases e2
  have self : pNew N i sid wv i = some (newNode sid wv) := upd_self _ _ _
  have top : ∀ k x t, Top N D k x t → Top (pNew N i sid wv) (fun x => D x ∨ x = i) k x t := fun k => by
    induction k with
    | zero =>
      rintro x t ⟨rfl, a, n, hn⟩
      exact ⟨rfl, a.imp id .inl, n, old _ _ hn⟩
    | succ k ih =>
      rintro x t ⟨a, b, n, p, hn, hp, ht⟩
      exact ⟨a, fun q => q.elim b fun z => (by rw [z, hN] at hn; cases hn), n, p, old _ _ hn, hp, ih _ _ ht⟩
  refine ⟨?_, fun q => q.elim h.z fun z => h0 z.symm, fun j hj => ?_, fun j k e => ?_, fun p k c e => ?_, fun p k e => ?_, fun p k e => ?_, fun j k e => ?_⟩
  · obtain ⟨n, h1, h2⟩ := h.root; exact ⟨n, old _ _ h1, h2⟩
  · rcases hj with hj | rfl
    · obtain ⟨n, hn⟩ := h.ds j hj; exact ⟨n, old _ _ hn⟩
    · exact ⟨_, self⟩
  · rcases cs _ _ e with ⟨rfl, _⟩ | ⟨_, e⟩
    · exact hi
    · exact h.inn _ _ e
  · rcases cs _ _ e with ⟨rfl, rfl⟩ | ⟨z, e⟩
    · constructor
      · intro q; cases q
      · rintro ⟨c0, cd, k, hk, hp⟩
        rcases cs _ _ hk with ⟨rfl, rfl⟩ | ⟨z, hk⟩
        · cases hp
        · exact (nopar _ _ hk c0 (fun q => cd (.inl q)) hp).elim
    · rw [h.kd _ _ _ e]
      constructor
      · rintro ⟨c0, cd, k, hk, hp⟩
        exact ⟨c0, fun q => q.elim cd fun z => (by rw [z, hN] at hk; cases hk), k, old _ _ hk, hp⟩
      · rintro ⟨c0, cd, k, hk, hp⟩
        rcases cs _ _ hk with ⟨rfl, rfl⟩ | ⟨z, hk⟩
        · exact (cd (.inr rfl)).elim
        · exact ⟨c0, fun q => cd (.inl q), k, hk, hp⟩
  · rcases cs _ _ e with ⟨rfl, rfl⟩ | ⟨z, e⟩
    · exact List.nodup_nil
    · exact h.nd _ _ e
  · rcases cs _ _ e with ⟨rfl, rfl⟩ | ⟨z, e⟩
    · exact .refl _
    · exact h.qp _ _ e
  · rcases cs _ _ e with ⟨rfl, rfl⟩ | ⟨z, e⟩
    · exact ⟨0, _, rfl, .inr (.inr rfl), _, self⟩
    · obtain ⟨k', t, ht⟩ := h.tp _ _ e
      exact ⟨k', t, top _ _ _ ht⟩

theorem pAdd_get' {a c j : Int} (h : N j = some n) : pAdd N a c j = some { n with par := if j = c then some a else n.par, kids := if j = a then n.kids ++ [c] else n.kids, q := if j = a then ins (n.last, c) n.q else n.q } := by
  unfold pAdd
  rw [md_get (md_get h)]
  by_cases h1 : j = a
  · by_cases h2 : j = c
    · rw [if_pos h1, if_pos h2]; simp only [if_pos h1, if_pos h2]
    · rw [if_pos h1, if_neg h2]; simp only [if_pos h1, if_neg h2]
  · by_cases h2 : j = c
    · rw [if_neg h1, if_pos h2]; simp only [if_neg h1, if_pos h2]
    · rw [if_neg h1, if_neg h2]; simp only [if_neg h1, if_neg h2]
theorem pAdd_back {a c j : Int} (h : pAdd N a c j = some n) : ∃ n₀, N j = some n₀ ∧ n = { n₀ with par := if j = c then some a else n₀.par, kids := if j = a then n₀.kids ++ [c] else n₀.kids, q := if j = a then ins (n₀.last, c) n₀.q else n₀.q } := by
  obtain ⟨n₀, h₀⟩ := pAdd_dom.mp ⟨n, h⟩
  rw [pAdd_get' h₀] at h
  exact ⟨n₀, h₀, (Option.some.inj h).symm⟩
theorem md_back {f : Node → Node} {j : Int} (h : md N i f j = some n) : ∃ n₀, N j = some n₀ ∧ n = if j = i then f n₀ else n₀ := by
  obtain ⟨n₀, h₀⟩ := md_dom.mp ⟨n, h⟩
  rw [md_get h₀] at h
  exact ⟨n₀, h₀, (Option.some.inj h).symm⟩

/-- chains behind an add -/
theorem Top.add {a c : Int} {ka ta : Nat × Int} (hc : D c) (hcz : c ≠ 0) (ha : Top N D ka.1 a ka.2) (hac : ka.2 ≠ c) (hcN : ∃ n, N c = some n) : ∀ {k : Nat} {x t : Int}, Top N D k x t →
    (t ≠ c → Top (pAdd N a c) (fun x => D x ∧ x ≠ c) k x t) ∧ (t = c → Top (pAdd N a c) (fun x => D x ∧ x ≠ c) (k + (ka.1 + 1)) x ka.2) := by
  have first : ∀ {k : Nat} {x t : Int}, Top N D k x t → t ≠ c → Top (pAdd N a c) (fun x => D x ∧ x ≠ c) k x t := fun {k} => by
    induction k with
    | zero =>
      rintro x t ⟨rfl, a, n, hn⟩ z
      exact ⟨rfl, a.imp id fun q => ⟨q, z⟩, pAdd_dom.mpr ⟨n, hn⟩⟩
    | succ k ih =>
      rintro x t ⟨x0, b, n, p, hn, hp, ht⟩ z
      refine ⟨x0, fun q => b q.1, _, p, pAdd_get' hn, ?_, ih ht z⟩
      have : x ≠ c := fun q => b (by rw [q]; exact hc)
      rw [if_neg this]; exact hp
  intro k
  induction k with
  | zero =>
    rintro x t ⟨rfl, e, n, hn⟩
    refine ⟨fun z => first ⟨rfl, e, n, hn⟩ z, fun z => ?_⟩
    subst z
    rw [Nat.zero_add]
    exact ⟨hcz, fun q => q.2 rfl, _, a, pAdd_get' hn, by simp, first ha hac⟩
  | succ k ih =>
    rintro x t ⟨x0, b, n, p, hn, hp, ht⟩
    refine ⟨fun z => first ⟨x0, b, n, p, hn, hp, ht⟩ z, fun z => ?_⟩
    have xc : x ≠ c := fun q => b (by rw [q]; exact hc)
    rw [show k + 1 + (ka.1 + 1) = (k + (ka.1 + 1)) + 1 by omega]
    exact ⟨x0, fun q => b q.1, _, p, pAdd_get' hn, by rw [if_neg xc]; exact hp, (ih ht).2 z⟩
theorem WF.add {a c : Int} {k : Nat} {t : Int} (h : WF ids D N) (hc : D c) (ha : Top N D k a t) (hac : t ≠ c) : WF ids (fun x => D x ∧ x ≠ c) (pAdd N a c) := by
  have hcz : c ≠ 0 := fun z => h.z (z ▸ hc)
  obtain ⟨nc, hnc⟩ := h.ds c hc
  obtain ⟨⟨na, hna⟩, _⟩ := Top.dom ha
  refine ⟨?_, fun q => h.z q.1, fun j hj => pAdd_dom.mpr (h.ds j hj.1), fun j n e => ?_, fun p n d e => ?_, fun p n e => ?_, fun p n e => ?_, fun j n e => ?_⟩
  · obtain ⟨n, h1, h2⟩ := h.root
    exact ⟨_, pAdd_get' h1, h2.1, by rw [if_neg (Ne.symm hcz)]; exact h2.2⟩
  · obtain ⟨n₀, h₀, _⟩ := pAdd_back e; exact h.inn _ _ h₀
  · obtain ⟨n₀, h₀, rfl⟩ := pAdd_back e
    dsimp only
    have key : d ∈ (if p = a then n₀.kids ++ [c] else n₀.kids) ↔ d ∈ n₀.kids ∨ (p = a ∧ d = c) := by
      by_cases z : p = a
      · simp [z]
      · simp [z]
    rw [key, h.kd _ _ _ h₀]
    constructor
    · rintro (⟨d0, dd, k, hk, hp⟩ | ⟨rfl, rfl⟩)
      · have dc : d ≠ c := fun z => dd (z ▸ hc)
        exact ⟨d0, fun q => dd q.1, _, pAdd_get' hk, by rw [if_neg dc]; exact hp⟩
      · exact ⟨hcz, fun q => q.2 rfl, _, pAdd_get' hnc, by simp⟩
    · rintro ⟨d0, dd, k, hk, hp⟩
      obtain ⟨k₀, g, rfl⟩ := pAdd_back hk
      dsimp only at hp
      by_cases z : d = c
      · rw [if_pos z] at hp
        exact .inr ⟨(Option.some.inj hp).symm, z⟩
      · rw [if_neg z] at hp
        exact .inl ⟨d0, fun q => dd ⟨q, z⟩, k₀, g, hp⟩
  · obtain ⟨n₀, h₀, rfl⟩ := pAdd_back e
    dsimp only
    by_cases z : p = a
    · rw [if_pos z]
      refine List.nodup_append.mpr ⟨h.nd _ _ h₀, List.nodup_cons.mpr ⟨List.not_mem_nil, List.nodup_nil⟩, fun x hx y hy q => ?_⟩
      rw [List.mem_singleton.mp hy] at q
      subst q
      exact ((h.kd _ _ _ h₀).mp hx).2.1 hc
    · rw [if_neg z]; exact h.nd _ _ h₀
  · obtain ⟨n₀, h₀, rfl⟩ := pAdd_back e
    dsimp only
    by_cases z : p = a
    · rw [if_pos z, if_pos z]
      refine ((ins_perm _ _).map _).trans ?_
      rw [List.map_cons]
      exact ((h.qp _ _ h₀).cons c).trans (List.perm_append_singleton c n₀.kids).symm
    · rw [if_neg z, if_neg z]; exact h.qp _ _ h₀
  · obtain ⟨n₀, h₀, rfl⟩ := pAdd_back e
    obtain ⟨k', t', ht⟩ := h.tp _ _ h₀
    obtain ⟨t1, t2⟩ := Top.add (ka := (k, t)) (ta := (k, t)) hc hcz ha hac ⟨nc, hnc⟩ ht
    by_cases z : t' = c
    · exact ⟨_, _, t2 z⟩
    · exact ⟨_, _, t1 z⟩

/-- a stream is taken off its parent -/
theorem WF.det {a : Int} (h : WF ids D N) (hn : N i = some n) (hi : i ≠ 0) (hd : ¬ D i) (hp : n.par = some a) : WF ids (fun x => D x ∨ x = i) (pRem N a i false) := by
  unfold pRem
  rw [if_neg (by decide)]
  have sp : ∀ j n, N j = some n → ∃ n', md N a (fun n => { n with kids := n.kids.erase i, q := requeue i [] n.q }) j = some n' ∧ n'.par = n.par := fun j n e => ⟨_, md_get e, by split <;> rfl⟩
  refine ⟨?_, fun q => q.elim h.z fun z => hi z.symm, fun j hj => ?_, fun j k e => ?_, fun p k c e => ?_, fun p k e => ?_, fun p k e => ?_, fun j k e => ?_⟩
  · obtain ⟨n, h1, h2⟩ := h.root
    exact ⟨_, md_get h1, by split <;> exact h2.1, by split <;> exact h2.2⟩
  · rcases hj with hj | rfl
    · exact md_dom.mpr (h.ds j hj)
    · exact md_dom.mpr ⟨n, hn⟩
  · obtain ⟨k₀, h₀, _⟩ := md_back e; exact h.inn _ _ h₀
  · obtain ⟨k₀, h₀, rfl⟩ := md_back e
    have key : c ∈ (if p = a then { k₀ with kids := k₀.kids.erase i, q := requeue i [] k₀.q } else k₀).kids ↔ c ∈ k₀.kids ∧ c ≠ i := by
      by_cases z : p = a
      · rw [if_pos z]
        dsimp only
        rw [(h.nd _ _ h₀).mem_erase_iff]
        exact And.comm
      · rw [if_neg z]
        refine ⟨fun q => ⟨q, fun y => ?_⟩, fun q => q.1⟩
        subst y
        obtain ⟨_, _, k, hk, hkp⟩ := (h.kd _ _ _ h₀).mp q
        rw [hn] at hk; cases hk
        rw [hp] at hkp; cases hkp
        exact z rfl
    rw [key, h.kd _ _ _ h₀]
    constructor
    · rintro ⟨⟨c0, cd, k, hk, hkp⟩, ci⟩
      obtain ⟨k', e1, e2⟩ := sp _ _ hk
      exact ⟨c0, fun q => q.elim cd ci, k', e1, e2.trans hkp⟩
    · rintro ⟨c0, cd, k, hk, hkp⟩
      obtain ⟨k', e1, e2⟩ := md_back hk
      exact ⟨⟨c0, fun q => cd (.inl q), k', e1, by rw [e2] at hkp; split at hkp <;> exact hkp⟩, fun q => cd (.inr q)⟩
  · obtain ⟨k₀, h₀, rfl⟩ := md_back e
    by_cases z : p = a
    · rw [if_pos z]; exact (h.nd _ _ h₀).erase _
    · rw [if_neg z]; exact h.nd _ _ h₀
  · obtain ⟨k₀, h₀, rfl⟩ := md_back e
    by_cases z : p = a
    · rw [if_pos z]
      dsimp only
      refine ((requeue_perm i k₀.q []).map _).trans ?_
      rw [List.nil_append, (h.nd _ _ h₀).erase_eq_filter]
      have e1 : (k₀.q.filter fun e => decide (e.2 ≠ i)).map (·.2) = (k₀.q.map (·.2)).filter (fun x => x != i) := by
        rw [List.filter_map]
        congr 1
        exact List.filter_congr fun x _ => by by_cases y : x.2 = i <;> simp [y]
      rw [e1]
      exact (h.qp _ _ h₀).filter _
    · rw [if_neg z]; exact h.qp _ _ h₀
  · obtain ⟨k₀, h₀, _⟩ := md_back e
    obtain ⟨k', t, ht⟩ := h.tp _ _ h₀
    obtain ⟨k₁, t₁, h1, _⟩ := Top.more (N := N) (D' := fun x => D x ∨ x = i) (fun _ => .inl) (fun j hj => hj.elim (h.ds j) fun z => ⟨n, z ▸ hn⟩) (fun q => q.elim h.z fun z => hi z.symm) ht
    exact ⟨k₁, t₁, h1.congr sp⟩
/-- all children are taken off -/
theorem WF.clear (h : WF ids D N) (hn : N i = some n) : WF ids (fun x => D x ∨ x ∈ n.kids) (md N i pClear) := by
  have sp : ∀ j n, N j = some n → ∃ n', md N i pClear j = some n' ∧ n'.par = n.par := fun j n e => ⟨_, md_get e, by split <;> rfl⟩
  have kk : ∀ x, x ∈ n.kids → x ≠ 0 ∧ ¬ D x ∧ ∃ k, N x = some k ∧ k.par = some i := fun x hx => (h.kd _ _ _ hn).mp hx
  have hz : ¬ (D 0 ∨ 0 ∈ n.kids) := fun q => q.elim h.z fun z => (kk _ z).1 rfl
  have hds : ∀ j, D j ∨ j ∈ n.kids → ∃ n, N j = some n := fun j hj => hj.elim (h.ds j) fun z => by obtain ⟨_, _, k, hk, _⟩ := kk _ z; exact ⟨k, hk⟩
  refine ⟨?_, hz, fun j hj => md_dom.mpr (hds j hj), fun j k e => ?_, fun p k c e => ?_, fun p k e => ?_, fun p k e => ?_, fun j k e => ?_⟩
  · obtain ⟨n, h1, h2⟩ := h.root
    exact ⟨_, md_get h1, by split <;> exact h2.1, by split <;> exact h2.2⟩
  · obtain ⟨k₀, h₀, _⟩ := md_back e; exact h.inn _ _ h₀
  · obtain ⟨k₀, h₀, rfl⟩ := md_back e
    by_cases z : p = i
    · subst z
      rw [if_pos rfl]
      rw [hn] at h₀; cases h₀
      constructor
      · intro q; cases q
      · rintro ⟨c0, cd, k, hk, hkp⟩
        obtain ⟨k', e1, e2⟩ := md_back hk
        exact (cd (.inr ((h.kd _ _ _ hn).mpr ⟨c0, fun q => cd (.inl q), k', e1, by rw [e2] at hkp; split at hkp <;> exact hkp⟩))).elim
    · rw [if_neg z, h.kd _ _ _ h₀]
      constructor
      · rintro ⟨c0, cd, k, hk, hkp⟩
        obtain ⟨k', e1, e2⟩ := sp _ _ hk
        refine ⟨c0, fun q => q.elim cd fun y => ?_, k', e1, e2.trans hkp⟩
        obtain ⟨_, _, k'', e3, e4⟩ := kk _ y
        rw [hk] at e3; cases e3
        rw [hkp] at e4; cases e4
        exact z rfl
      · rintro ⟨c0, cd, k, hk, hkp⟩
        obtain ⟨k', e1, e2⟩ := md_back hk
        exact ⟨c0, fun q => cd (.inl q), k', e1, by rw [e2] at hkp; split at hkp <;> exact hkp⟩
  · obtain ⟨k₀, h₀, rfl⟩ := md_back e
    by_cases z : p = i
    · rw [if_pos z]; exact List.nodup_nil
    · rw [if_neg z]; exact h.nd _ _ h₀
  · obtain ⟨k₀, h₀, rfl⟩ := md_back e
    by_cases z : p = i
    · rw [if_pos z]; exact .refl _
    · rw [if_neg z]; exact h.qp _ _ h₀
  · obtain ⟨k₀, h₀, _⟩ := md_back e
    obtain ⟨k', t, ht⟩ := h.tp _ _ h₀
    obtain ⟨k₁, t₁, h1, _⟩ := Top.more (N := N) (D' := fun x => D x ∨ x ∈ n.kids) (fun _ => .inl) hds hz ht
    exact ⟨k₁, t₁, h1.congr sp⟩
def dropN (N : ST) (i : Int) : ST := upd N i none
/-- a stream that hangs nowhere is forgotten, its children hang nowhere then -/
theorem Top.drop (h : WF ids D N) (hn : N i = some n) (hd : D i) : ∀ {k : Nat} {x t : Int}, x ≠ i → Top N D k x t → ∃ k' t', Top (dropN N i) (fun x => (D x ∧ x ≠ i) ∨ x ∈ n.kids) k' x t' ∧ (t ≠ i → k' = k ∧ t' = t)
  | 0, x, _, xi, ⟨rfl, a, k, hk⟩ => ⟨0, x, ⟨rfl, a.imp id fun q => .inl ⟨q, xi⟩, k, (upd_ne _ _ xi).trans hk⟩, fun _ => ⟨rfl, rfl⟩⟩
  | k + 1, x, t, xi, ⟨a, b, m, p, hm, hp, ht⟩ => by
    by_cases hx : x ∈ n.kids
    · refine ⟨0, x, ⟨rfl, .inr (.inr hx), m, (upd_ne _ _ xi).trans hm⟩, fun ti => ?_⟩
      obtain ⟨_, _, k', hk, hkp⟩ := (h.kd _ _ _ hn).mp hx
      rw [hm] at hk; cases hk
      rw [hp] at hkp; cases hkp
      exact (ti (Top.det ht (show Top N D 0 i i from ⟨rfl, .inr hd, n, hn⟩)).2).elim
    · have pi : p ≠ i := fun z => hx ((h.kd _ _ _ hn).mpr ⟨a, b, m, hm, z ▸ hp⟩)
      obtain ⟨k', t', h1, h2⟩ := Top.drop h hn hd pi ht
      exact ⟨k' + 1, t', ⟨a, fun q => q.elim (fun q => b q.1) hx, m, p, (upd_ne _ _ xi).trans hm, hp, h1⟩, fun ti => by obtain ⟨e1, e2⟩ := h2 ti; exact ⟨by rw [e1], e2⟩⟩
theorem WF.drop (h : WF ids D N) (hn : N i = some n) (hd : D i) : WF ids (fun x => (D x ∧ x ≠ i) ∨ x ∈ n.kids) (dropN N i) := by
  have hi : i ≠ 0 := fun z => h.z (z ▸ hd)
  have old : ∀ j k, dropN N i j = some k → j ≠ i ∧ N j = some k := fun j k e => by
    by_cases z : j = i
    · subst z; unfold dropN at e; rw [upd_self] at e; cases e
    · exact ⟨z, by unfold dropN at e; rw [upd_ne _ _ z] at e; exact e⟩
  have new : ∀ j k, j ≠ i → N j = some k → dropN N i j = some k := fun j k z e => (upd_ne _ _ z).trans e
  have kk : ∀ x, x ∈ n.kids → x ≠ 0 ∧ ¬ D x ∧ ∃ k, N x = some k ∧ k.par = some i := fun x hx => (h.kd _ _ _ hn).mp hx
  refine ⟨?_, fun q => q.elim (fun q => h.z q.1) fun z => (kk _ z).1 rfl, fun j hj => ?_, fun j k e => h.inn _ _ (old _ _ e).2, fun p k c e => ?_, fun p k e => h.nd _ _ (old _ _ e).2, fun p k e => h.qp _ _ (old _ _ e).2, fun j k e => ?_⟩
  · obtain ⟨n, h1, h2⟩ := h.root; exact ⟨n, new _ _ (Ne.symm hi) h1, h2⟩
  · rcases hj with hj | hj
    · obtain ⟨k, hk⟩ := h.ds j hj.1; exact ⟨k, new _ _ hj.2 hk⟩
    · obtain ⟨_, jd, k, hk, _⟩ := kk _ hj
      exact ⟨k, new _ _ (fun z => jd (z ▸ hd)) hk⟩
  · obtain ⟨pi, e⟩ := old _ _ e
    rw [h.kd _ _ _ e]
    constructor
    · rintro ⟨c0, cd, m, hm, hmp⟩
      refine ⟨c0, fun q => q.elim (fun q => cd q.1) fun q => ?_, m, new _ _ (fun z => cd (z ▸ hd)) hm, hmp⟩
      obtain ⟨_, _, k', hk', hkp⟩ := kk _ q
      rw [hm] at hk'; cases hk'
      rw [hmp] at hkp; cases hkp
      exact pi rfl
    · rintro ⟨c0, cd, m, hm, hmp⟩
      obtain ⟨ci, hm⟩ := old _ _ hm
      exact ⟨c0, fun q => cd (.inl ⟨q, ci⟩), m, hm, hmp⟩
  · obtain ⟨ji, e⟩ := old _ _ e
    obtain ⟨k', t, ht⟩ := h.tp _ _ e
    obtain ⟨k₁, t₁, h1, _⟩ := Top.drop h hn hd ji ht
    exact ⟨k₁, t₁, h1⟩
theorem WF.adds {a : Int} : ∀ {l : List Int} {D : DS} {N : ST} {k : Nat} {t : Int}, WF ids D N → l.Nodup → (∀ x ∈ l, D x) → Top N D k a t → t ∉ l → WF ids (fun x => D x ∧ x ∉ l) (pAdds N a l) ∧ Top (pAdds N a l) (fun x => D x ∧ x ∉ l) k a t
  | [], D, N, k, t, h, _, _, ht, _ => by
    have e : (fun x => D x ∧ x ∉ ([] : List Int)) = D := funext fun x => propext ⟨fun q => q.1, fun q => ⟨q, List.not_mem_nil⟩⟩
    rw [e]; exact ⟨h, ht⟩
  | c :: l, D, N, k, t, h, nd, hl, ht, htl => by
    rw [List.nodup_cons] at nd
    have tc : t ≠ c := fun z => htl (z ▸ .head _)
    have hc := hl c (.head _)
    obtain ⟨nc, hnc⟩ := h.ds c hc
    have h1 := h.add hc ht tc
    have t1 := (Top.add (ka := (k, t)) (ta := (k, t)) hc (fun z => h.z (z ▸ hc)) ht tc ⟨nc, hnc⟩ ht).1 tc
    have e : (fun x => D x ∧ x ∉ c :: l) = fun x => (D x ∧ x ≠ c) ∧ x ∉ l := funext fun x => propext (by simp [and_assoc])
    rw [e]
    exact WF.adds (l := l) h1 nd.2 (fun x hx => ⟨hl x (.tail _ hx), fun z => nd.1 (z ▸ hx)⟩) t1 fun q => htl (.tail _ q)
end

/-! # P2 -/

section
variable {ids : List Int} {D D' : DS} {N N' : ST} {i : Int} {n : Node}
/-! ## what a tree's shape gives -/
theorem Top.list : ∀ {k : Nat} {i t : Int}, Top N D k i t → ∃ l : List Int, l.length = k + 1 ∧ l.Nodup ∧ ∀ x ∈ l, (∃ n, N x = some n) ∧ ∃ k' t', k' ≤ k ∧ Top N D k' x t'
  | 0, i, t, h => ⟨[i], rfl, List.nodup_cons.mpr ⟨List.not_mem_nil, List.nodup_nil⟩, fun x hx => by rw [List.mem_singleton.mp hx]; exact ⟨(Top.dom h).1, 0, t, Nat.le_refl _, h⟩⟩
  | k + 1, i, t, h => by
    obtain ⟨a, b, n, p, hn, hp, ht⟩ := h
    obtain ⟨l, e, nd, hl⟩ := Top.list ht
    refine ⟨i :: l, by simp [e], List.nodup_cons.mpr ⟨fun q => ?_, nd⟩, fun x hx => ?_⟩
    · obtain ⟨_, k', t', hk, h'⟩ := hl _ q
      have := (Top.det h' (show Top N D (k + 1) i t from ⟨a, b, n, p, hn, hp, ht⟩)).1
      omega
    · rcases List.mem_cons.mp hx with rfl | hx
      · exact ⟨⟨n, hn⟩, k + 1, t, Nat.le_refl _, ⟨a, b, n, p, hn, hp, ht⟩⟩
      · obtain ⟨h1, k', t', hk, h'⟩ := hl _ hx
        exact ⟨h1, k', t', by omega, h'⟩
theorem WF.short (h : WF ids D N) {k : Nat} {t : Int} (ht : Top N D k i t) : k + 1 ≤ ids.length := by
  obtain ⟨l, e, nd, hl⟩ := Top.list ht
  rw [← e]
  exact nodup_sub_length nd fun x hx => by obtain ⟨⟨n, hn⟩, _⟩ := hl x hx; exact h.inn _ _ hn
theorem WF.len (h : WF ids D N) (hn : N i = some n) : n.kids.length ≤ ids.length ∧ n.q.length ≤ ids.length := by
  have h1 : n.kids.length ≤ ids.length := nodup_sub_length (h.nd _ _ hn) fun x hx => by
    obtain ⟨_, _, k, hk, _⟩ := (h.kd _ _ _ hn).mp hx
    exact h.inn _ _ hk
  have := (h.qp _ _ hn).length_eq
  rw [List.length_map] at this
  exact ⟨h1, by rw [this]; exact h1⟩
theorem WF.bdk (h : WF ids D N) {k : Nat} (hk : ids.length ≤ k) : BdK k N := fun j n e => by
  obtain ⟨a, b⟩ := h.len e
  exact ⟨Nat.le_trans a hk, Nat.le_trans b hk⟩
theorem WF.bd (h : WF ids D N) (hk : ids.length ≤ 1000) : Bd N := h.bdk hk
theorem WF.qmem (h : WF ids D N) (hn : N i = some n) {e : Int × Int} (he : e ∈ n.q) : e.2 ≠ 0 ∧ ¬ D e.2 ∧ ∃ k, N e.2 = some k ∧ k.par = some i :=
  (h.kd _ _ _ hn).mp ((h.qp _ _ hn).mem_iff.mp (List.mem_map.mpr ⟨e, he, rfl⟩))
theorem WF.cl (h : WF ids D N) : Cl N := fun j n e =>
  ⟨fun d hd => by obtain ⟨_, _, k, hk, _⟩ := h.qmem e hd; exact ⟨k, hk⟩, fun d hd => by obtain ⟨_, _, k, hk, _⟩ := (h.kd _ _ _ e).mp hd; exact ⟨k, hk⟩⟩
theorem WF.noref (h : WF ids D N) (hD : ∀ x n, D x → N x = some n → n.par ≠ some i) (hN : N i = none) : NoRef N i := fun j n e => by
  refine ⟨fun q => ?_, fun q => ?_, fun d hd q => ?_⟩
  · by_cases j0 : j = 0
    · obtain ⟨n', e', _, e''⟩ := h.root
      rw [j0, e'] at e; cases e
      rw [e''] at q; cases q
    · by_cases jd : D j
      · exact hD _ _ jd e q
      · obtain ⟨p, np, e1, e2, _⟩ := h.par e j0 jd
        rw [q] at e1; cases e1
        rw [hN] at e2; cases e2
  · obtain ⟨_, _, k, hk, _⟩ := (h.kd _ _ _ e).mp q
    rw [hN] at hk; cases hk
  · obtain ⟨_, _, k, hk, _⟩ := h.qmem e hd
    rw [q, hN] at hk; cases hk
theorem WF.noref' (h : WF ids none' N) (hN : N i = none) : NoRef N i := h.noref (fun _ _ q => q.elim) hN
theorem WF.top0 (h : WF ids none' N) (hn : N i = some n) : ∃ k, Top N none' k i 0 := by
  obtain ⟨k, t, ht⟩ := h.tp _ _ hn
  rcases (Top.dom ht).2.2 with rfl | q
  · exact ⟨k, ht⟩
  · exact q.elim
/-- the chain of a stream, seen from the one that is taken off -/
theorem WF.off (h : WF ids none' N) (hn : N i = some n) (hi : i ≠ 0) {k : Nat} {x : Int} (ht : Top N none' k x 0) : ∃ k' t, Top N (fun x => x = i) k' x t ∧ k' ≤ k ∧ (t = 0 ∨ t = i) := by
  obtain ⟨k', t', h1, h2, h3⟩ := Top.more (D' := fun x => x = i) (fun _ q => q.elim) (fun j hj => ⟨n, by rw [show j = i from hj]; exact hn⟩) (fun q => hi (show (0 : Int) = i from q).symm) ht
  exact ⟨k', t', h1, h2, h3.imp (·.2) (·.2.1)⟩
/-- a stream's parent does not hang on it -/
theorem WF.parOff (h : WF ids none' N) (hn : N i = some n) (hi : i ≠ 0) {p : Int} (hp : n.par = some p) : ∃ k, Top N (fun x => x = i) k p 0 := by
  obtain ⟨k, hk⟩ := h.top0 hn
  cases k with
  | zero => exact (hi hk.1).elim
  | succ k =>
    obtain ⟨_, _, n', p', e1, e2, ht⟩ := hk
    rw [hn] at e1; cases e1
    rw [hp] at e2; cases e2
    obtain ⟨k', t, h1, h2, h3⟩ := h.off hn hi ht
    rcases h3 with rfl | rfl
    · exact ⟨k', h1⟩
    · -- the parent's chain would run through the stream
      exfalso
      obtain ⟨k₁, t₁, g1, g2, g3⟩ := Top.more (N := N) (D := none') (D' := fun x => x = t) (fun _ q => q.elim) (fun j hj => ⟨n, by rw [show j = t from hj]; exact hn⟩) (fun q => hi (show (0 : Int) = t from q).symm) ht
      -- walk it again, counting
      have key : ∀ {k : Nat} {x : Int}, Top N none' k x 0 → ∀ {k' : Nat}, Top N (fun x => x = t) k' x t → ∃ r, r ≤ k ∧ Top N none' r t 0 := by
        intro k
        induction k with
        | zero =>
          intro x hx k' hk'
          obtain ⟨rfl, _, m, hm⟩ := hx
          cases k' with
          | zero => exact (hi hk'.1.symm).elim
          | succ k' => exact (hk'.1 rfl).elim
        | succ k ih =>
          intro x hx k' hk'
          cases k' with
          | zero => obtain ⟨rfl, _⟩ := hk'; exact ⟨k + 1, Nat.le_refl _, hx⟩
          | succ k' =>
            obtain ⟨_, _, m, y, hm, hy, hx'⟩ := hx
            obtain ⟨_, _, m', y', hm', hy', hk''⟩ := hk'
            rw [hm] at hm'; cases hm'
            rw [hy] at hy'; cases hy'
            obtain ⟨r, h1, h2⟩ := ih hx' hk''
            exact ⟨r, by omega, h2⟩
      obtain ⟨r, hr, hr2⟩ := key ht h1
      have := (Top.det hr2 (show Top N none' (k + 1) t 0 from ⟨hi, fun q => q, n, p, hn, hp, ht⟩)).1
      omega
/-- whom the search for a loop finds -/
theorem cyc_spec (hi : i ≠ 0) (hn : N i = some n) : ∀ {k fuel : Nat} {b : Int}, Top N none' (k + 1) b 0 → k + 1 ≤ fuel → ∃ cy, cyc N i fuel b = some cy ∧ (b ≠ i → (cy = true → ∃ k', Top N (fun x => x = i) k' b i) ∧ (cy = false → ∃ k', Top N (fun x => x = i) k' b 0)) := by
  intro k
  induction k with
  | zero =>
    intro fuel b hb hf
    obtain ⟨b0, _, nb, q, hnb, hq, ht⟩ := hb
    obtain ⟨rfl, _, nq, hnq⟩ := ht
    obtain ⟨fuel, rfl⟩ : ∃ f, fuel = f + 1 := ⟨fuel - 1, by omega⟩
    refine ⟨false, ?_, fun bi => ⟨fun h => (nomatch h), fun _ => ⟨1, b0, bi, nb, 0, hnb, hq, rfl, .inl rfl, nq, hnq⟩⟩⟩
    unfold cyc
    rw [hnb]; dsimp only
    rw [hq]; dsimp only
    rw [if_neg (Ne.symm hi), if_pos rfl]
  | succ k ih =>
    intro fuel b hb hf
    obtain ⟨b0, _, nb, q, hnb, hq, ht⟩ := hb
    obtain ⟨fuel, rfl⟩ : ∃ f, fuel = f + 1 := ⟨fuel - 1, by omega⟩
    have q0 : q ≠ 0 := ht.1
    by_cases qi : q = i
    · subst qi
      refine ⟨true, ?_, fun bi => ⟨fun _ => ⟨1, b0, bi, nb, q, hnb, hq, rfl, .inr rfl, n, hn⟩, fun h => (nomatch h)⟩⟩
      unfold cyc
      rw [hnb]; dsimp only
      rw [hq]; dsimp only
      rw [if_pos rfl]
    · obtain ⟨cy, e, hc⟩ := ih ht (fuel := fuel) (by omega)
      refine ⟨cy, ?_, fun bi => ⟨fun h => ?_, fun h => ?_⟩⟩
      · unfold cyc
        rw [hnb]; dsimp only
        rw [hq]; dsimp only
        rw [if_neg qi, if_neg q0]; exact e
      · obtain ⟨k', h'⟩ := (hc qi).1 h
        exact ⟨k' + 1, b0, bi, nb, q, hnb, hq, h'⟩
      · obtain ⟨k', h'⟩ := (hc qi).2 h
        exact ⟨k' + 1, b0, bi, nb, q, hnb, hq, h'⟩
theorem WF.cyc (h : WF ids none' N) (hi : i ≠ 0) (hn : N i = some n) {b : Int} {nb : Node} (hb : N b = some nb) (hb0 : b ≠ 0) (hs : ids.length ≤ 50) :
    ∃ cy, cyc N i 100 b = some cy ∧ (b ≠ i → (cy = true → ∃ k', Top N (fun x => x = i) k' b i) ∧ (cy = false → ∃ k', Top N (fun x => x = i) k' b 0)) := by
  obtain ⟨k, hk⟩ := h.top0 hb
  have := h.short hk
  cases k with
  | zero => exact (hb0 hk.1).elim
  | succ k => exact cyc_spec hi hn hk (by omega)

/-! ## putting a loose stream somewhere -/
theorem Top.more2 (hD : ∀ i, D i → D' i) (hd : ∀ i, D' i → ∃ n, N i = some n) : ∀ {k : Nat} {x t : Int}, Top N D k x t → ∃ k' t' r, Top N D' k' x t' ∧ Top N D r t' t ∧ k = k' + r ∧ (t' = t ∨ D' t' ∧ ¬ D t')
  | 0, i, _, ⟨rfl, h, n⟩ => ⟨0, i, 0, ⟨rfl, h.imp id (hD _), n⟩, ⟨rfl, h, n⟩, rfl, .inl rfl⟩
  | k + 1, x, t, ⟨a, b, n, p, hn, hpp, h⟩ => by
    by_cases q : D' x
    · exact ⟨0, x, k + 1, ⟨rfl, .inr q, n, hn⟩, ⟨a, b, n, p, hn, hpp, h⟩, by omega, .inr ⟨q, b⟩⟩
    · obtain ⟨k', t', r, h1, h2, h3, h4⟩ := Top.more2 hD hd h
      exact ⟨k' + 1, t', r, ⟨a, q, n, p, hn, hpp, h1⟩, h2, by omega, h4⟩
theorem WF.put {b : Int} {k : Nat} {ex : Bool} (h : WF ids D N) (hi : D i) (ht : Top N D k b 0) : WF ids (fun x => D x ∧ x ≠ i) (pPut N b i ex) := by
  have hi0 : i ≠ 0 := fun z => h.z (z ▸ hi)
  unfold pPut
  cases ex with
  | false => rw [if_neg (by decide)]; exact h.add hi ht (Ne.symm hi0)
  | true =>
    rw [if_pos rfl]
    obtain ⟨⟨nb, hb⟩, _⟩ := Top.dom ht
    unfold pAddX
    rw [hb]
    dsimp only
    have h1 := h.clear hb
    have kk : ∀ x, x ∈ nb.kids → x ≠ 0 ∧ ¬ D x ∧ ∃ k, N x = some k ∧ k.par = some b := fun x hx => (h.kd _ _ _ hb).mp hx
    have sp : ∀ j n, N j = some n → ∃ n', md N b pClear j = some n' ∧ n'.par = n.par := fun j n e => ⟨_, md_get e, by split <;> rfl⟩
    have tb : ∃ k, Top (md N b pClear) (fun x => D x ∨ x ∈ nb.kids) k b 0 := by
      obtain ⟨k', t', r, g1, g2, g3, g4⟩ := Top.more2 (N := N) (D' := fun x => D x ∨ x ∈ nb.kids) (fun _ => .inl) (fun j hj => hj.elim (h.ds j) fun z => by obtain ⟨_, _, k, hk, _⟩ := kk _ z; exact ⟨k, hk⟩) ht
      rcases g4 with rfl | ⟨q, q'⟩
      · exact ⟨k', g1.congr sp⟩
      · exfalso
        have q := q.resolve_left q'
        obtain ⟨x0, xd, nx, hx, hxp⟩ := kk _ q
        cases r with
        | zero => exact x0 g2.1
        | succ r =>
          obtain ⟨_, _, m, y, hm, hy, g2⟩ := g2
          rw [hx] at hm; cases hm
          rw [hxp] at hy; cases hy
          have := (Top.det ht g2).1
          omega
    obtain ⟨kb, tb⟩ := tb
    have hi1 : D i ∨ i ∈ nb.kids := .inl hi
    have h2 := h1.add hi1 tb (Ne.symm hi0)
    obtain ⟨ni, hni⟩ := h.ds i hi
    have ti := (Top.add (ka := (kb, 0)) (ta := (kb, 0)) (D := fun x => D x ∨ x ∈ nb.kids) hi1 hi0 tb (Ne.symm hi0) (md_dom.mpr ⟨ni, hni⟩) (show Top (md N b pClear) (fun x => D x ∨ x ∈ nb.kids) 0 i i from ⟨rfl, .inr hi1, md_dom.mpr ⟨ni, hni⟩⟩)).2 rfl
    have hik : i ∉ nb.kids := fun q => (kk _ q).2.1 hi
    obtain ⟨h3, _⟩ := WF.adds (l := nb.kids) h2 (h.nd _ _ hb) (fun x hx => ⟨.inr hx, fun z => hik (z ▸ hx)⟩) ti fun q => (kk _ q).1 rfl
    refine h3.congrD fun x => ⟨fun ⟨⟨a, b⟩, c⟩ => ⟨a.resolve_right c, b⟩, fun ⟨a, b⟩ => ⟨⟨.inl a, b⟩, fun q => (kk _ q).2.1 a⟩⟩
theorem WF.put0 {b : Int} {k : Nat} {ex : Bool} (h : WF ids (fun x => x = i) N) (ht : Top N (fun x => x = i) k b 0) : WF ids none' (pPut N b i ex) :=
  (h.put (i := i) rfl ht).congrD fun x => ⟨fun ⟨a, b⟩ => b a, fun q => q.elim⟩
/-- a stream is put in -/
theorem WF.ins {sid wv : Value} {b : Int} {ex : Bool} (h : WF ids none' N) (hi : i ∈ ids) (hN : N i = none) (h0 : i ≠ 0) {nb : Node} (hb : N b = some nb) : WF ids none' (pPut (pNew N i sid wv) b i ex) := by
  have h1 : WF ids (fun x => x = i) (pNew N i sid wv) := (h.new hi hN h0).congrD fun x => ⟨fun q => q.resolve_left id, .inr⟩
  have hb1 : pNew N i sid wv b = some nb := (upd_ne _ _ fun z => by rw [z, hN] at hb; cases hb).trans hb
  obtain ⟨k, t, ht⟩ := h1.tp _ _ hb1
  have : t = 0 := by
    rcases (Top.dom ht).2.2 with z | z
    · exact z
    · exfalso
      -- nobody hangs on the new one
      have : ∀ {k : Nat} {x : Int}, Top (pNew N i sid wv) (fun x => x = i) k x i → x = i := by
        intro k
        induction k with
        | zero => intro x q; exact q.1
        | succ k ih =>
          rintro x ⟨x0, xi, n, p, hn, hp, hx⟩
          exfalso
          have := ih hx
          subst this
          have hn' : N x = some n := by unfold pNew at hn; rw [upd_ne _ _ xi] at hn; exact hn
          obtain ⟨p', np, e1, e2, _⟩ := h.par hn' x0 (fun q => q)
          rw [hp] at e1; cases e1
          rw [hN] at e2; cases e2
      have z : t = i := z
      rw [z] at ht
      have := this ht
      rw [this] at hb
      rw [hN] at hb; cases hb
  subst this
  exact h1.put0 ht
/-- a stream that was asked for is put beneath stream 0, blocked -/
theorem WF.parB {dv : Value} {b : Int} (h : WF ids D N) (hi : b ∈ ids) (hN : N b = none) (h0 : b ≠ 0) (hD : ∀ x n, D x → N x = some n → n.par ≠ some b) : WF ids D (pParB N b dv) := by
  have h1 := h.new (sid := dv) (wv := .int 16 0) hi hN h0
  have h2 := h1.add (a := 0) (c := b) (k := 0) (t := 0) (.inr rfl) ⟨rfl, .inl rfl, by obtain ⟨n, e, _⟩ := h1.root; exact ⟨n, e⟩⟩ (Ne.symm h0)
  have h3 : WF ids D (pAdd (pNew N b dv (.int 16 0)) 0 b) := h2.congrD fun x => ⟨fun ⟨a, c⟩ => a.resolve_right c, fun a => ⟨.inl a, fun z => by obtain ⟨n, e⟩ := h.ds x a; rw [z, hN] at e; cases e⟩⟩
  unfold pParB
  have r0 : ∀ j n, (pAdd (pNew N b dv (.int 16 0)) 0 b) j = some n → j = 0 → n.act = false := fun j n e z => by
    obtain ⟨n', e', a, _⟩ := h3.root
    rw [z, e'] at e; cases e; exact a
  -- being blocked is no matter of shape
  refine ⟨?_, h3.z, fun j hj => md_dom.mpr (h3.ds j hj), fun j k e => ?_, fun p k c e => ?_, fun p k e => ?_, fun p k e => ?_, fun j k e => ?_⟩
  · obtain ⟨n, e, a, c⟩ := h3.root
    exact ⟨_, md_get e, by rw [if_neg (Ne.symm h0)]; exact a, by rw [if_neg (Ne.symm h0)]; exact c⟩
  · obtain ⟨k₀, e0, _⟩ := md_back e; exact h3.inn _ _ e0
  · obtain ⟨k₀, e0, rfl⟩ := md_back e
    have : (if p = b then { k₀ with act := false } else k₀).kids = k₀.kids := by split <;> rfl
    rw [this, h3.kd _ _ _ e0]
    constructor
    · rintro ⟨c0, cd, m, hm, hmp⟩; exact ⟨c0, cd, _, md_get hm, by split <;> exact hmp⟩
    · rintro ⟨c0, cd, m, hm, hmp⟩
      obtain ⟨m₀, g, rfl⟩ := md_back hm
      exact ⟨c0, cd, m₀, g, by split at hmp <;> exact hmp⟩
  · obtain ⟨k₀, e0, rfl⟩ := md_back e
    have : (if p = b then { k₀ with act := false } else k₀).kids = k₀.kids := by split <;> rfl
    rw [this]; exact h3.nd _ _ e0
  · obtain ⟨k₀, e0, rfl⟩ := md_back e
    have e1 : (if p = b then { k₀ with act := false } else k₀).kids = k₀.kids := by split <;> rfl
    have e2 : (if p = b then { k₀ with act := false } else k₀).q = k₀.q := by split <;> rfl
    rw [e1, e2]; exact h3.qp _ _ e0
  · obtain ⟨k₀, e0, _⟩ := md_back e
    obtain ⟨k', t, ht⟩ := h3.tp _ _ e0
    exact ⟨k', t, ht.congr fun j n e => ⟨_, md_get e, by split <;> rfl⟩⟩

/-! ## a stream's marks -/
theorem WF.md {f : Node → Node} (h : WF ids D N) (hf : ∀ n, (f n).par = n.par ∧ (f n).kids = n.kids ∧ (f n).q = n.q) (ha : i = 0 → ∀ n, (f n).act = n.act) : WF ids D (md N i f) := by
  have a1 : ∀ p k₀, (if p = i then f k₀ else k₀).kids = k₀.kids := fun p k₀ => by split; exact (hf k₀).2.1; rfl
  have a2 : ∀ p k₀, (if p = i then f k₀ else k₀).q = k₀.q := fun p k₀ => by split; exact (hf k₀).2.2; rfl
  have a3 : ∀ p k₀, (if p = i then f k₀ else k₀).par = k₀.par := fun p k₀ => by split; exact (hf k₀).1; rfl
  refine ⟨?_, h.z, fun j hj => md_dom.mpr (h.ds j hj), fun j k e => ?_, fun p k c e => ?_, fun p k e => ?_, fun p k e => ?_, fun j k e => ?_⟩
  · obtain ⟨n, e, a, c⟩ := h.root
    refine ⟨_, md_get e, ?_, (a3 _ _).trans c⟩
    split
    · rename_i z; rw [ha z.symm]; exact a
    · exact a
  · obtain ⟨k₀, e0, _⟩ := md_back e; exact h.inn _ _ e0
  · obtain ⟨k₀, e0, rfl⟩ := md_back e
    rw [a1, h.kd _ _ _ e0]
    constructor
    · rintro ⟨c0, cd, m, hm, hmp⟩; exact ⟨c0, cd, _, md_get hm, (a3 _ _).trans hmp⟩
    · rintro ⟨c0, cd, m, hm, hmp⟩
      obtain ⟨m₀, g, rfl⟩ := md_back hm
      exact ⟨c0, cd, m₀, g, (a3 _ _).symm.trans hmp⟩
  · obtain ⟨k₀, e0, rfl⟩ := md_back e
    rw [a1]; exact h.nd _ _ e0
  · obtain ⟨k₀, e0, rfl⟩ := md_back e
    rw [a1, a2]; exact h.qp _ _ e0
  · obtain ⟨k₀, e0, _⟩ := md_back e
    obtain ⟨k', t, ht⟩ := h.tp _ _ e0
    exact ⟨k', t, ht.congr fun j n e => ⟨_, md_get e, a3 _ _⟩⟩

/-! ## moves -/
theorem WF.move {b : Int} {ex : Bool} {k : Nat} (h : WF ids none' N) (hn : N i = some n) (hi : i ≠ 0) (ht : Top N (fun x => x = i) k b 0) : ∃ N' pi, oMove N i b ex = some N' ∧ WF ids none' N' ∧ n.par = some pi ∧ N' = pPut (pRem N pi i false) b i ex := by
  obtain ⟨p, np, e1, e2, e3⟩ := h.par hn hi (fun q => q)
  have pi : p ≠ i := fun z => by
    subst z
    obtain ⟨k', hk'⟩ := h.parOff hn hi e1
    cases k' with
    | zero => exact hi hk'.1
    | succ k' => exact hk'.2.1 rfl
  have h1 : WF ids (fun x => x = i) (pRem N p i false) := (h.det hn hi (fun q => q) e1).congrD fun x => ⟨fun q => q.resolve_left id, .inr⟩
  have sp : ∀ j n, N j = some n → ∃ n', pRem N p i false j = some n' ∧ n'.par = n.par := fun j n e => by
    unfold pRem; rw [if_neg (by decide)]
    exact ⟨_, md_get e, by split <;> rfl⟩
  have ht' := ht.congr sp
  refine ⟨pPut (pRem N p i false) b i ex, p, ?_, h1.put0 ht', e1, rfl⟩
  unfold oMove oPar
  rw [hn]
  show (match n.par with | none => _ | some pi => _) = _
  rw [e1]
  dsimp only
  unfold oRem
  rw [e2, hn]
  dsimp only
  rw [if_pos ⟨pi, e3⟩]
  dsimp only
  obtain ⟨⟨nb, hb⟩, _⟩ := Top.dom ht'
  obtain ⟨ni, hni, _⟩ := sp _ _ hn
  rw [hb, hni]
theorem WF.leafTop (h : WF ids none' N) (hn : N i = some n) (hk : n.kids = []) : ∀ {k : Nat} {x : Int}, Top N (fun x => x = i) k x i → x = i
  | 0, x, q => q.1
  | k + 1, x, ⟨x0, xi, m, p, hm, hp, hx⟩ => by
    have := WF.leafTop h hn hk hx
    subst this
    have : x ∈ n.kids := (h.kd _ _ _ hn).mpr ⟨x0, fun q => q, m, hm, hp⟩
    rw [hk] at this; cases this
/-- a stream beneath its own childless dependant -/
theorem WF.up {b : Int} {nb : Node} {k : Nat} (h : WF ids none' N) (hn : N i = some n) (hi : i ≠ 0) (hb : N b = some nb) (hb0 : b ≠ 0) (hbi : b ≠ i) (hk : nb.kids = []) (ht : Top N (fun x => x = i) k b i) :
    ∃ N₄ pb pi, oUp N i b = some N₄ ∧ WF ids none' N₄ ∧ (∃ n₄, N₄ i = some n₄ ∧ n₄.par = n.par ∧ n₄.kids = (if i = pb then n.kids.erase b else n.kids)) ∧ (∃ k', Top N₄ (fun x => x = i) k' b 0) ∧ n.par = some pi ∧ nb.par = some pb ∧ N₄ = pAdd (pRem N pb b true) pi b := by
  obtain ⟨pb, npb, e1, e2, e3⟩ := h.par hb hb0 (fun q => q)
  obtain ⟨pi, npi, f1, f2, f3⟩ := h.par hn hi (fun q => q)
  have pbb : pb ≠ b := fun z => by
    subst z
    rw [e2] at hb; cases hb
    rw [hk] at e3; cases e3
  have pib : pi ≠ b := fun z => by
    subst z
    rw [f2] at hb; cases hb
    rw [hk] at f3; cases f3
  have h1 : WF ids (fun x => x = b) (pRem N pb b false) := (h.det hb hb0 (fun q => q) e1).congrD fun x => ⟨fun q => q.resolve_left id, .inr⟩
  have eR : pRem N pb b true = pRem N pb b false := by
    unfold pRem
    rw [if_pos rfl, if_neg (by decide), hb]
    dsimp only
    rw [hk]; rfl
  have sp : ∀ j n, N j = some n → ∃ n', pRem N pb b false j = some n' ∧ n'.par = n.par ∧ n'.kids = (if j = pb then n.kids.erase b else n.kids) := fun j n e => by
    unfold pRem; rw [if_neg (by decide)]
    exact ⟨_, md_get e, by split <;> rfl, by split <;> rfl⟩
  have sp' : ∀ j n, N j = some n → ∃ n', pRem N pb b false j = some n' ∧ n'.par = n.par := fun j n e => by obtain ⟨n', a, b, _⟩ := sp _ _ e; exact ⟨n', a, b⟩
  -- the stream's parent does not hang on the dependant
  obtain ⟨kp, hkp⟩ := h.top0 f2
  obtain ⟨k', t, g1, g2, g3⟩ := h.off hb hb0 hkp
  have t0 : t = 0 := g3.resolve_right fun z => by rw [z] at g1; exact pib (h.leafTop hb hk g1)
  subst t0
  have g1 := g1.congr sp'
  obtain ⟨ni, hni, hnp, hnk⟩ := sp _ _ hn
  obtain ⟨nb', hnb', _⟩ := sp _ _ hb
  obtain ⟨np', hnp', _⟩ := sp _ _ f2
  have h2 : WF ids none' (pAdd (pRem N pb b false) pi b) := (h1.add (c := b) rfl g1 (Ne.symm hb0)).congrD fun x => ⟨fun ⟨a, b⟩ => b a, fun q => q.elim⟩
  have pii : pi ≠ i := fun z => by
    obtain ⟨k', hk'⟩ := h.parOff hn hi f1
    rw [z] at hk'
    cases k' with
    | zero => exact hi hk'.1
    | succ k' => exact hk'.2.1 rfl
  refine ⟨pAdd (pRem N pb b false) pi b, pb, pi, ?_, h2, ⟨_, pAdd_get' hni, ?_, ?_⟩, ?_, f1, e1, by rw [eR]⟩
  · unfold oUp oPar
    rw [hb]
    show (match nb.par with | none => _ | some pb => _) = _
    rw [e1]
    dsimp only
    unfold oRem
    rw [e2, hb]
    dsimp only
    rw [if_pos ⟨pbb, e3⟩, eR]
    dsimp only
    rw [hni]
    show (match ni.par with | none => _ | some pi => _) = _
    rw [hnp, f1]
    dsimp only
    rw [hnp', hnb']
  · dsimp only; rw [if_neg (Ne.symm hbi)]; exact hnp
  · dsimp only; rw [if_neg (Ne.symm pii)]; exact hnk
  · -- where the dependant hangs now
    obtain ⟨ki, hki⟩ := h.parOff hn hi f1
    have hb₂ : (pAdd (pRem N pb b false) pi b) b = some _ := pAdd_get' hnb'
    obtain ⟨k₂, hk₂⟩ := h2.top0 hb₂
    obtain ⟨k₃, t₃, u1, u2, u3⟩ := h2.off (pAdd_get' hni) hi hk₂
    rcases u3 with rfl | rfl
    · exact ⟨k₃, u1⟩
    · exfalso
      cases k₃ with
      | zero => exact hbi u1.1
      | succ k₃ =>
        obtain ⟨_, _, m, p, hm, hp, hx⟩ := u1
        rw [hb₂] at hm; cases hm
        dsimp only at hp
        rw [if_pos rfl] at hp; cases hp
        -- then the parent would hang on the stream
        obtain ⟨k₄, hk₄⟩ := h2.parOff (pAdd_get' hni) hi (show _ = some pi by dsimp only; rw [if_neg (Ne.symm hbi)]; exact hnp.trans f1)
        exact hi (Top.det hx hk₄).2
theorem WF.rep {b : Int} {nb : Node} {wv : Value} {ex cy : Bool} (h : WF ids none' N) (hn : N i = some n) (hi : i ≠ 0) (hb : N b = some nb) (hbi : b ≠ i) (hs : ids.length ≤ 50)
    (hc : (cy = false ∧ b = 0) ∨ (b ≠ 0 ∧ Mine.cyc N i 100 b = some cy)) (hk : cy = true → nb.kids = []) : ∃ N', pRep N i b wv cy ex = some N' ∧ WF ids none' N' := by
  have h1 : WF ids none' (Mine.md N i fun n => { n with w := wv }) := h.md (fun _ => ⟨rfl, rfl, rfl⟩) (fun z => (hi z).elim)
  have sp : ∀ j n, N j = some n → ∃ n', (Mine.md N i fun n => { n with w := wv }) j = some n' ∧ n'.par = n.par := fun j n e => ⟨_, md_get e, by split <;> rfl⟩
  have hn1 := md_get (i := i) (f := fun n => { n with w := wv }) hn
  have hb1 := md_get (i := i) (f := fun n => { n with w := wv }) hb
  unfold pRep
  rcases hc with ⟨rfl, rfl⟩ | ⟨b0, hc⟩
  · rw [if_neg (by decide)]
    dsimp only
    obtain ⟨N', pi, e, w, _⟩ := h1.move (b := 0) (ex := ex) (k := 0) hn1 hi ⟨rfl, .inl rfl, _, hb1⟩
    exact ⟨N', e, w⟩
  · obtain ⟨cy', e, hcy⟩ := h.cyc hi hn hb b0 hs
    rw [hc] at e; cases e
    cases cy with
    | false =>
      rw [if_neg (by decide)]
      dsimp only
      obtain ⟨k', hk'⟩ := (hcy hbi).2 rfl
      obtain ⟨N', pi, e, w, _⟩ := h1.move (b := b) (ex := ex) hn1 hi (hk'.congr sp)
      exact ⟨N', e, w⟩
    | true =>
      rw [if_pos rfl]
      obtain ⟨k', hk'⟩ := (hcy hbi).1 rfl
      obtain ⟨N₄, pb, pi, e, w, ⟨n₄, hn₄, _⟩, ⟨k₂, ht₂⟩, _⟩ := h1.up hn1 hi hb1 b0 hbi (by rw [if_neg hbi]; exact hk rfl) (hk'.congr sp)
      rw [e]
      dsimp only
      obtain ⟨N', pi, e, w, _⟩ := w.move (b := b) (ex := ex) hn₄ hi ht₂
      exact ⟨N', e, w⟩
/-- a stream is taken out -/
theorem pAdd_drop {a c : Int} (ha : a ≠ i) (hc : c ≠ i) : dropN (pAdd N a c) i = pAdd (dropN N i) a c := by
  funext j
  by_cases z : j = i
  · subst z
    have : dropN (pAdd N a c) j j = none := upd_self _ _ _
    rw [this]
    cases e : pAdd (dropN N j) a c j with
    | none => rfl
    | some m =>
      obtain ⟨m₀, g, _⟩ := pAdd_back e
      have : dropN N j j = none := upd_self _ _ _
      rw [this] at g; cases g
  · have e1 : dropN (pAdd N a c) i j = pAdd N a c j := upd_ne _ _ z
    have e2 : dropN N i j = N j := upd_ne _ _ z
    rw [e1]
    cases e : N j with
    | none =>
      cases e' : pAdd N a c j with
      | none =>
        cases e'' : pAdd (dropN N i) a c j with
        | none => rfl
        | some m => obtain ⟨m₀, g, _⟩ := pAdd_back e''; rw [e2, e] at g; cases g
      | some m => obtain ⟨m₀, g, _⟩ := pAdd_back e'; rw [e] at g; cases g
    | some m => rw [pAdd_get' e, pAdd_get' (e2.trans e)]
theorem pAdds_drop {a : Int} (ha : a ≠ i) : ∀ {l : List Int} {N : ST}, i ∉ l → dropN (pAdds N a l) i = pAdds (dropN N i) a l
  | [], _, _ => rfl
  | c :: l, N, h => by
    have e : ∀ N : ST, pAdds N a (c :: l) = pAdds (pAdd N a c) a l := fun _ => rfl
    rw [e, e, pAdds_drop ha (fun q => h (.tail _ q)), pAdd_drop ha (fun z => h (z ▸ .head _))]
theorem WF.out (h : WF ids none' N) (hn : N i = some n) (hi : i ≠ 0) : ∃ b nb, n.par = some b ∧ N b = some nb ∧ b ≠ i ∧ i ∈ nb.kids ∧ dropN (pRem N b i true) i = pAdds (dropN (pRem N b i false) i) b n.kids ∧ WF ids none' (dropN (pRem N b i true) i) := by
  obtain ⟨b, nb, e1, e2, e3⟩ := h.par hn hi (fun q => q)
  have bi : b ≠ i := fun z => by
    obtain ⟨k', hk'⟩ := h.parOff hn hi e1
    rw [z] at hk'
    cases k' with
    | zero => exact hi hk'.1
    | succ k' => exact hk'.2.1 rfl
  have h1 : WF ids (fun x => x = i) (pRem N b i false) := (h.det hn hi (fun q => q) e1).congrD fun x => ⟨fun q => q.resolve_left id, .inr⟩
  have sp : ∀ j n, N j = some n → ∃ n', pRem N b i false j = some n' ∧ n'.par = n.par ∧ (j ≠ b → n' = n) := fun j n e => by
    unfold pRem; rw [if_neg (by decide)]
    exact ⟨_, md_get e, by split <;> rfl, fun z => by rw [if_neg z]⟩
  obtain ⟨n', hn', _, en⟩ := sp _ _ hn
  have en := en (Ne.symm bi)
  subst en
  have ik : i ∉ n'.kids := fun q => by
    obtain ⟨_, _, k, hk, hkp⟩ := (h.kd _ _ _ hn).mp q
    rw [hn] at hk; cases hk
    rw [e1] at hkp; cases hkp
    exact bi rfl
  have e4 : pRem N b i true = pAdds (pRem N b i false) b n'.kids := by
    unfold pRem
    rw [if_pos rfl, if_neg (by decide), hn]
  have e5 : dropN (pRem N b i true) i = pAdds (dropN (pRem N b i false) i) b n'.kids := by rw [e4, pAdds_drop bi ik]
  refine ⟨b, nb, e1, e2, bi, e3, e5, ?_⟩
  rw [e5]
  have h2 := h1.drop hn' rfl
  have h3 : WF ids (fun x => x ∈ n'.kids) (dropN (pRem N b i false) i) := h2.congrD fun x => ⟨fun q => q.resolve_left fun ⟨a, b⟩ => b a, .inr⟩
  obtain ⟨k, ht⟩ := h.parOff hn hi e1
  obtain ⟨k', t', u1, u2⟩ := Top.drop h1 hn' rfl bi (ht.congr fun j n e => by obtain ⟨n', a, b, _⟩ := sp _ _ e; exact ⟨n', a, b⟩)
  obtain ⟨rfl, rfl⟩ := u2 (Ne.symm hi)
  have ed : (fun x => (x = i ∧ x ≠ i) ∨ x ∈ n'.kids) = fun x => x ∈ n'.kids := funext fun x => propext ⟨fun q => q.resolve_left fun ⟨a, b⟩ => b a, .inr⟩
  rw [ed] at u1
  obtain ⟨h4, _⟩ := WF.adds (l := n'.kids) h3 (h.nd _ _ hn) (fun x hx => hx) u1 fun q => h3.z q
  exact h4.congrD fun x => ⟨fun ⟨a, b⟩ => b a, fun q => q.elim⟩
end

/-! # P3 -/

section
variable {ids : List Int} {D D' : DS} {N N' : ST} {i : Int} {n : Node}
/-! ## a turn keeps the shape, and ends -/
/-- what a turn leaves as it is; `pl` tells which queue entries come back to `i` -/
def Sh (i : Int) (pl : List Int) (N N' : ST) : Prop :=
  (∀ j n, N j = some n → ∃ n', N' j = some n' ∧ n'.sid = n.sid ∧ n'.w = n.w ∧ n'.kids = n.kids ∧ n'.par = n.par ∧ n'.act = n.act ∧ (n'.q.map (·.2)).Perm ((if j = i then pl else []) ++ n.q.map (·.2))) ∧ ∀ j n, N' j = some n → ∃ n', N j = some n'
theorem Sh.refl : Sh i [] N N := ⟨fun j n e => ⟨n, e, rfl, rfl, rfl, rfl, rfl, by split <;> exact .refl _⟩, fun j n e => ⟨n, e⟩⟩
theorem Sh.trans {pl pl' : List Int} {N'' : ST} (h : Sh i pl N N') (k : Sh i pl' N' N'') : Sh i (pl' ++ pl) N N'' := by
  refine ⟨fun j n e => ?_, fun j n e => ?_⟩
  · obtain ⟨n', e', a1, a2, a3, a4, a5, a6⟩ := h.1 _ _ e
    obtain ⟨n'', e'', b1, b2, b3, b4, b5, b6⟩ := k.1 _ _ e'
    refine ⟨n'', e'', b1.trans a1, b2.trans a2, b3.trans a3, b4.trans a4, b5.trans a5, b6.trans ?_⟩
    by_cases z : j = i
    · simp only [if_pos z] at a6 ⊢
      rw [List.append_assoc]
      exact a6.append_left _
    · simp only [if_neg z] at a6 ⊢
      exact a6
  · obtain ⟨n', e'⟩ := k.2 _ _ e
    exact h.2 _ _ e'
theorem Sh.other {i' : Int} (h : Sh i' [] N N') : Sh i [] N N' := ⟨fun j n e => by
  obtain ⟨n', e', a1, a2, a3, a4, a5, a6⟩ := h.1 _ _ e
  refine ⟨n', e', a1, a2, a3, a4, a5, ?_⟩
  have : (if j = i' then ([] : List Int) else []) = [] := by split <;> rfl
  rw [this] at a6
  have : (if j = i then ([] : List Int) else []) = [] := by split <;> rfl
  rw [this]; exact a6, h.2⟩
theorem pBack1_sh {e : Int × Int} {c : Node} (hc : N e.2 = some c) : Sh i [e.2] N (pBack1 i N e) := by
  refine ⟨fun j n h => ⟨_, pBack1_get hc h, rfl, rfl, rfl, rfl, rfl, ?_⟩, fun j n h => pBack1_dom.mp ⟨n, h⟩⟩
  dsimp only
  by_cases z : j = i
  · rw [if_pos z, if_pos z]
    exact (ins_perm _ _).map _
  · rw [if_neg z, if_neg z]; exact .refl _
theorem pBack_sh : ∀ {l : List (Int × Int)} {N : ST}, (∀ e ∈ l, ∃ c, N e.2 = some c) → Sh i (l.map (·.2)).reverse N (pBack N i l)
  | [], _, _ => Sh.refl
  | e :: l, N, h => by
    obtain ⟨c, hc⟩ := h e (.head _)
    have ih := pBack_sh (l := l) (N := pBack1 i N e) fun d hd => pBack1_dom.mpr (h d (.tail _ hd))
    have := (pBack1_sh (i := i) hc).trans ih
    rw [List.map_cons, List.reverse_cons]
    exact this
/-- queue entries are children, chains are short, queues are short -/
structure CN (L : Nat) (N : ST) : Prop where
  q : ∀ j n e, N j = some n → e ∈ n.q → e.2 ≠ 0 ∧ ∃ c, N e.2 = some c ∧ c.par = some j
  t : ∀ j n, N j = some n → ∃ k, k ≤ L ∧ Top N none' k j 0
  z : ∀ j n, N j = some n → n.q.length ≤ 1000
theorem WF.cn (h : WF ids none' N) (hs : ids.length ≤ 1000) : CN ids.length N := by
  refine ⟨fun j n e hn he => ?_, fun j n hn => ?_, fun j n hn => Nat.le_trans (h.len hn).2 hs⟩
  · obtain ⟨a, _, c, d⟩ := h.qmem hn he
    exact ⟨a, c, d⟩
  · obtain ⟨k, hk⟩ := h.top0 hn
    have := h.short hk
    exact ⟨k, by omega, hk⟩
theorem CN.keep {L : Nat} (h : CN L N) (f : ∀ j n, N j = some n → ∃ n', N' j = some n' ∧ n'.par = n.par ∧ (∀ e ∈ n'.q, ∃ d ∈ n.q, d.2 = e.2) ∧ n'.q.length ≤ n.q.length) (b : ∀ j n, N' j = some n → ∃ n', N j = some n') : CN L N' := by
  have g : ∀ j n', N' j = some n' → ∃ n, N j = some n ∧ n'.par = n.par ∧ (∀ e ∈ n'.q, ∃ d ∈ n.q, d.2 = e.2) ∧ n'.q.length ≤ n.q.length := fun j n' e => by
    obtain ⟨n, hn⟩ := b _ _ e
    obtain ⟨n₁, e1, e2⟩ := f _ _ hn
    rw [e] at e1; cases e1
    exact ⟨n, hn, e2⟩
  refine ⟨fun j n' e hn he => ?_, fun j n' hn => ?_, fun j n' hn => ?_⟩
  · obtain ⟨n, h1, h2, h3, _⟩ := g _ _ hn
    obtain ⟨d, hd, de⟩ := h3 e he
    obtain ⟨a, c, hc, hcp⟩ := h.q _ _ _ h1 hd
    rw [de] at a hc
    obtain ⟨c', f1, f2, _⟩ := f _ _ hc
    exact ⟨a, c', f1, f2.trans hcp⟩
  · obtain ⟨n, h1, _⟩ := g _ _ hn
    obtain ⟨k, hk, ht⟩ := h.t _ _ h1
    exact ⟨k, hk, ht.congr fun j n e => by obtain ⟨n', a, b, _⟩ := f _ _ e; exact ⟨n', a, b⟩⟩
  · obtain ⟨n, h1, _, _, h2⟩ := g _ _ hn
    exact Nat.le_trans h2 (h.z _ _ h1)
theorem CN.sh {L : Nat} (h : CN L N) (s : Sh i [] N N') : CN L N' := h.keep (fun j n e => by
  obtain ⟨n', e', a1, a2, a3, a4, a5, a6⟩ := s.1 _ _ e
  have : (if j = i then ([] : List Int) else []) = [] := by split <;> rfl
  rw [this, List.nil_append] at a6
  refine ⟨n', e', a4, fun d hd => ?_, ?_⟩
  · obtain ⟨x, hx, hxe⟩ := List.mem_map.mp (a6.mem_iff.mp (List.mem_map.mpr ⟨d, hd, rfl⟩))
    exact ⟨x, hx, hxe⟩
  · have := a6.length_eq
    simp only [List.length_map] at this
    omega) s.2
theorem CN.pop {L : Nat} (h : CN L N) (hn : N i = some n) {e : Int × Int} {r : List (Int × Int)} (hq : n.q = e :: r) : CN L (md N i fun n => { n with q := r }) := h.keep (fun j k hk => by
  refine ⟨_, md_get hk, by split <;> rfl, fun d hd => ?_, ?_⟩
  · by_cases z : j = i
    · subst z
      rw [hn] at hk; cases hk
      rw [if_pos rfl] at hd
      exact ⟨d, by rw [hq]; exact .tail _ hd, rfl⟩
    · rw [if_neg z] at hd; exact ⟨d, hd, rfl⟩
  · by_cases z : j = i
    · subst z
      rw [hn] at hk; cases hk
      rw [if_pos rfl, hq]; simp
    · rw [if_neg z]; exact Nat.le_refl _) fun j k hk => md_dom.mp ⟨k, hk⟩
theorem Sh.dom {pl : List Int} (h : Sh i pl N N') {j : Int} (hj : ∃ n, N j = some n) : ∃ n, N' j = some n := by
  obtain ⟨n, e⟩ := hj
  obtain ⟨n', e', _⟩ := h.1 _ _ e
  exact ⟨n', e'⟩
/-- an entry that was taken -/
theorem Sh.pop (hn : N i = some n) {e : Int × Int} {r : List (Int × Int)} (hq : n.q = e :: r) {pl : List Int} {N₂ : ST} (h : Sh i (e.2 :: pl) (md N i fun n => { n with q := r }) N₂) : Sh i pl N N₂ := by
  refine ⟨fun j k hk => ?_, fun j k hk => ?_⟩
  · obtain ⟨k', e', a1, a2, a3, a4, a5, a6⟩ := h.1 _ _ (md_get (i := i) (f := fun n => { n with q := r }) hk)
    by_cases z : j = i
    · subst z
      rw [hn] at hk; cases hk
      simp only [if_true] at a1 a2 a3 a4 a5 a6
      refine ⟨k', e', a1, a2, a3, a4, a5, a6.trans ?_⟩
      rw [if_pos rfl, hq, List.map_cons]
      exact (List.perm_middle (l₁ := pl)).symm
    · simp only [if_neg z] at a1 a2 a3 a4 a5 a6
      refine ⟨k', e', a1, a2, a3, a4, a5, ?_⟩
      rw [if_neg z]; exact a6
  · exact md_dom.mp (h.2 _ _ hk)
theorem schedL_total {L k : Nat} {rec : ST → Int → Option (Option Value × ST)} {i : Int}
    (hrec : ∀ N c nc, CN L N → Top N none' k i 0 → N c = some nc → nc.par = some i → c ≠ 0 → nc.act = false → ∃ r N', rec N c = some (r, N') ∧ Sh c [] N N') :
    ∀ (m : Nat) (N : ST) (pop : List (Int × Int)) (n : Node), CN L N → Top N none' k i 0 → (∀ e ∈ pop, ∃ c, N e.2 = some c) → N i = some n → n.q.length < m → ∃ r N', schedL rec i m N pop = some (r, N') ∧ Sh i (pop.map (·.2)).reverse N N'
  | 0, N, pop, n, C, ht, hp, hn, hm => by omega
  | m + 1, N, pop, n, C, ht, hp, hn, hm => by
    unfold schedL
    rw [hn]; dsimp only
    cases hq : n.q with
    | nil => exact ⟨none, pBack N i pop, rfl, pBack_sh hp⟩
    | cons e r =>
      dsimp only
      have C₁ := C.pop hn hq
      have ht₁ : Top (md N i fun n => { n with q := r }) none' k i 0 := ht.congr fun j n e => ⟨_, md_get e, by split <;> rfl⟩
      obtain ⟨e0, c, hc, hcp⟩ := C.q _ _ _ hn (by rw [hq]; exact .head _)
      have hc₁ := md_get (i := i) (f := fun n => { n with q := r }) hc
      have hn₁ := md_get (i := i) (f := fun n => { n with q := r }) hn
      rw [if_pos rfl] at hn₁
      have hp₁ : ∀ d ∈ pop ++ [e], ∃ c, (md N i fun n => { n with q := r }) d.2 = some c := fun d hd => md_dom.mpr (by
        rcases List.mem_append.mp hd with hd | hd
        · exact hp d hd
        · rw [List.mem_singleton.mp hd]; exact ⟨c, hc⟩)
      have er : ((pop ++ [e]).map (·.2)).reverse = e.2 :: (pop.map (·.2)).reverse := by simp
      rw [hc₁]
      dsimp only
      generalize hcc : (if e.2 = i then { c with q := r } else c) = cc
      have ccp : cc.par = some i := by rw [← hcc]; split <;> exact hcp
      rw [hcc] at hc₁
      cases ha : cc.act with
      | true =>
        rw [if_pos rfl]
        exact ⟨_, _, rfl, Sh.pop hn hq (by rw [← er]; exact pBack_sh hp₁)⟩
      | false =>
        rw [if_neg (by decide)]
        obtain ⟨x, N₂, h1, h2⟩ := hrec _ _ _ C₁ ht₁ hc₁ ccp e0 ha
        rw [h1]
        have h2' : Sh i [] (md N i fun n => { n with q := r }) N₂ := h2.other
        have hp₂ : ∀ d ∈ pop ++ [e], ∃ c, N₂ d.2 = some c := fun d hd => h2.dom (hp₁ d hd)
        cases x with
        | some v =>
          dsimp only
          refine ⟨_, _, rfl, Sh.pop hn hq ?_⟩
          have := h2'.trans (pBack_sh (i := i) hp₂)
          rw [List.append_nil, er] at this
          exact this
        | none =>
          dsimp only
          obtain ⟨n₂, hn₂, _, _, _, _, _, a6⟩ := h2'.1 _ _ hn₁
          have hl := a6.length_eq
          simp only [if_true, List.nil_append, List.length_map] at hl
          obtain ⟨y, N₃, g1, g2⟩ := schedL_total hrec m N₂ (pop ++ [e]) n₂ (C₁.sh h2') (ht₁.congr fun j n e => by obtain ⟨n', a, _, _, _, b, _⟩ := h2'.1 _ _ e; exact ⟨n', a, b⟩) hp₂ hn₂ (by rw [hl]; rw [hq] at hm; simp at hm; omega)
          refine ⟨y, N₃, g1, Sh.pop hn hq ?_⟩
          have := h2'.trans g2
          rw [List.append_nil, er] at this
          exact this
theorem sched_total {L : Nat} : ∀ (d : Nat) (N : ST) (i : Int) (n : Node) (k : Nat), CN L N → N i = some n → Top N none' k i 0 → L < k + d → ∃ r N', sched d N i = some (r, N') ∧ Sh i [] N N'
  | 0, N, i, n, k, C, hn, ht, hd => by
    obtain ⟨k', hk, ht'⟩ := C.t _ _ hn
    have := (Top.det ht ht').1
    omega
  | d + 1, N, i, n, k, C, hn, ht, hd => by
    unfold sched
    exact schedL_total (L := L) (k := k) (rec := sched d) (i := i) (fun N' c nc C' ht' hc hcp c0 ha => sched_total d N' c nc (k + 1) C' hc ⟨c0, fun q => q, nc, i, hc, hcp, ht'⟩ (by omega)) 6000 N [] n C ht (fun _ h => by cases h) hn (by have := C.z _ _ hn; omega)
theorem Sh.wf (h : WF ids D N) (s : Sh i [] N N') : WF ids D N' := h.same (fun j n e => by
  obtain ⟨n', e', a1, a2, a3, a4, a5, a6⟩ := s.1 _ _ e
  have : (if j = i then ([] : List Int) else []) = [] := by split <;> rfl
  rw [this, List.nil_append] at a6
  exact ⟨n', e', a4, a3, a5, a6⟩) s.2
/-- a turn of the whole tree -/
theorem WF.turn (h : WF ids none' N) (hs : ids.length < 20) : ∃ r N', sched 20 N 0 = some (r, N') ∧ Sh 0 [] N N' ∧ WF ids none' N' := by
  obtain ⟨n, hn, _⟩ := h.root
  obtain ⟨r, N', e, s⟩ := sched_total 20 N 0 n 0 (h.cn (by omega)) hn ⟨rfl, .inl rfl, n, hn⟩ (by omega)
  exact ⟨r, N', e, s, Sh.wf h s⟩
end

/-! # P4 -/

section
variable {ids : List Int} {D : DS} {N N' : ST} {i : Int} {n : Node}
/-! ## whose name a turn gives -/
def SidG (R : Value → Prop) (N : ST) : Prop := ∀ j n, N j = some n → R n.sid
variable {R : Value → Prop}
theorem SidG.back1 {e : Int × Int} (S : SidG R N) : SidG R (pBack1 i N e) := fun j n hj => by
  cases hc : N e.2 with
  | none => rw [pBack1_none hc] at hj; exact S j n hj
  | some c =>
    obtain ⟨n₀, h₀⟩ := pBack1_dom.mp ⟨n, hj⟩
    rw [pBack1_get hc h₀] at hj
    cases hj
    exact S j n₀ h₀
theorem SidG.back : ∀ {l : List (Int × Int)} {N : ST}, SidG R N → SidG R (pBack N i l)
  | [], _, S => S
  | _ :: l, _, S => SidG.back (l := l) S.back1
theorem SidG.md {f : Node → Node} (S : SidG R N) (hf : ∀ n, (f n).sid = n.sid) : SidG R (md N i f) := fun j n hj => by
  obtain ⟨n₀, h₀⟩ := md_dom.mp ⟨n, hj⟩
  rw [md_get h₀] at hj
  cases hj
  have := S j n₀ h₀
  split
  · rw [hf]; exact this
  · exact this
theorem schedL_sidG {rec : ST → Int → Option (Option Value × ST)} (T : ∀ N i r N', SidG R N → rec N i = some (r, N') → SidG R N' ∧ ∀ v, r = some v → R v) : ∀ (m : Nat) (N : ST) (pop : List (Int × Int)) (r : Option Value) (N' : ST), SidG R N → schedL rec i m N pop = some (r, N') →
    SidG R N' ∧ ∀ v, r = some v → R v
  | 0, N, pop, r, N', C, h => by cases h
  | m + 1, N, pop, r, N', C, h => by
    unfold schedL at h
    cases hi : N i with
    | none => rw [hi] at h; cases h
    | some n =>
      rw [hi] at h; dsimp only at h
      cases hq : n.q with
      | nil => rw [hq] at h; cases h; exact ⟨C.back, fun v e => by cases e⟩
      | cons e q =>
        rw [hq] at h; dsimp only at h
        have C₁ : SidG R (Mine.md N i fun n => { n with q := q }) := C.md fun _ => rfl
        cases hc : (Mine.md N i fun n => { n with q := q }) e.2 with
        | none => rw [hc] at h; cases h
        | some c =>
          rw [hc] at h; dsimp only at h
          cases ha : c.act with
          | true =>
            rw [ha, if_pos rfl] at h; cases h
            exact ⟨C₁.back, fun v e => by cases e; exact C₁ _ _ hc⟩
          | false =>
            rw [ha, if_neg (by decide)] at h
            cases hr : rec (Mine.md N i fun n => { n with q := q }) e.2 with
            | none => rw [hr] at h; cases h
            | some x =>
              obtain ⟨o, N₂⟩ := x
              obtain ⟨S, hv⟩ := T _ _ _ _ C₁ hr
              rw [hr] at h
              cases o with
              | some v => cases h; exact ⟨S.back, fun v' e => by cases e; exact hv _ rfl⟩
              | none => exact schedL_sidG T m N₂ (pop ++ [e]) r N' S h
theorem sched_sidG : ∀ d (N : ST) (i : Int) (r : Option Value) (N' : ST), SidG R N → sched d N i = some (r, N') → SidG R N' ∧ ∀ v, r = some v → R v
  | 0, _, _, _, _, _, h => by cases h
  | d + 1, N, i, r, N', C, h => schedL_sidG (sched_sidG d) 6000 N [] r N' C h
/-- every stream bears its own number -/
def SidI (N : ST) : Prop := ∀ j n, N j = some n → n.sid = .int j 0
def domM (N : ST) : Int → Bool := fun i => (N i).isSome
theorem domM_true {N : ST} {i : Int} : domM N i = true ↔ ∃ n, N i = some n := by unfold domM; exact Option.isSome_iff_exists
theorem domM_false {N : ST} {i : Int} : domM N i = false ↔ N i = none := by unfold domM; cases N i <;> simp
theorem SidI.add {a c : Int} (S : SidI N) : SidI (pAdd N a c) := fun j n h => by
  obtain ⟨n₀, e, rfl⟩ := pAdd_back h
  exact S j n₀ e
theorem SidI.adds {a : Int} : ∀ {l : List Int} {N : ST}, SidI N → SidI (pAdds N a l)
  | [], _, S => S
  | c :: l, N, S => SidI.adds (l := l) (S.add (a := a) (c := c))
theorem SidI.md {f : Node → Node} (S : SidI N) (hf : ∀ n, (f n).sid = n.sid) : SidI (md N i f) := fun j n h => by
  obtain ⟨n₀, e, rfl⟩ := md_back h
  have := S j n₀ e
  split
  · rw [hf]; exact this
  · exact this
theorem SidI.rem {a c : Int} {s : Bool} (S : SidI N) : SidI (pRem N a c s) := by
  have h1 : SidI (Mine.md N a fun n => { n with kids := n.kids.erase c, q := requeue c [] n.q }) := S.md fun _ => rfl
  unfold pRem
  cases s with
  | false => rw [if_neg (by decide)]; exact h1
  | true =>
    rw [if_pos rfl]
    cases N c with
    | none => exact h1
    | some nc => exact h1.adds
theorem SidI.put {b c : Int} {ex : Bool} (S : SidI N) : SidI (pPut N b c ex) := by
  unfold pPut
  cases ex with
  | false => rw [if_neg (by decide)]; exact S.add
  | true =>
    rw [if_pos rfl]
    unfold pAddX
    split
    · exact S
    · exact ((SidI.md (f := pClear) S fun _ => rfl).add).adds
theorem SidI.new {wv : Value} (S : SidI N) : SidI (pNew N i (.int i 0) wv) := fun j n h => by
  by_cases z : j = i
  · subst z; unfold pNew at h; rw [upd_self] at h; cases h; rfl
  · unfold pNew at h; rw [upd_ne _ _ z] at h; exact S j n h
theorem SidI.drop (S : SidI N) : SidI (dropN N i) := fun j n h => by
  by_cases z : j = i
  · subst z; unfold dropN at h; rw [upd_self] at h; cases h
  · unfold dropN at h; rw [upd_ne _ _ z] at h; exact S j n h
theorem Sh.sidI {pl : List Int} (s : Sh i pl N N') (S : SidI N) : SidI N' := fun j n h => by
  obtain ⟨n₀, e⟩ := s.2 _ _ h
  obtain ⟨n', e', a, _⟩ := s.1 _ _ e
  rw [h] at e'; cases e'
  rw [a]; exact S j n₀ e
end
/-! ## the deeds, as the trees do them -/
def goodW (w : Int) : Bool := decide (1 ≤ w ∧ w ≤ 256)
def turnP (N : ST) : Option ((Str × Int) × ST) := match sched 20 N 0 with
  | some (some v, N') => (nv v).map fun k => (("turn", k), N')
  | some (none, N') => some (("deadlock", 0), N')
  | none => none
def actP (N : ST) (name : Int) (b : Bool) : Option ((Str × Int) × ST) :=
  if name = 0 then some (("pseudo", 0), N) else if (N name).isSome = true then some (("done", 0), md N name fun n => { n with act := b }) else some (("missing", 0), N)
def remP (N : ST) (name : Int) : Option ((Str × Int) × ST) :=
  if name = 0 then some (("pseudo", 0), N) else match N name with
  | none => some (("missing", 0), N)
  | some n => match n.par with
    | none => none
    | some b => some (("done", 0), dropN (pRem N b name true) name)
def repP (N : ST) (name under w : Int) (ex : Bool) : Option ((Str × Int) × ST) :=
  if name = 0 then some (("pseudo", 0), N) else if (N name).isSome = false then some (("missing", 0), N) else if under = 0 then none else if under = name then some (("loop", 0), N)
  else if (N under).isSome = false then none else match cyc N name 100 under with
    | none => none
    | some cy => if goodW w = false then some (("weight", 0), N) else (pRep N name under (.int w 0) cy ex).map fun N' => (("done", 0), N')
def insP (N : ST) (name under w : Int) (ex : Bool) : Option ((Str × Int) × ST) :=
  if (N name).isSome = true then some (("duplicate", 0), N) else if goodW w = false then some (("weight", 0), N) else if under = name then some (("loop", 0), N)
  else if (N under).isSome = true then some (("done", 0), pPut (pNew N name (.int name 0) (.int w 0)) under name ex) else none
def askP (N : ST) (kind name under w : Int) (ex : Bool) : Option ((Str × Int) × ST) :=
  if 6 ≤ kind then turnP N else if kind = 3 then actP N name false else if kind = 4 then actP N name true else if kind = 5 then remP N name else if kind = 2 then repP N name under w ex else insP N name under w ex
theorem pRep_dom {N N' : ST} {i b : Int} {wv : Value} {cy ex : Bool} (h : pRep N i b wv cy ex = some N') {j : Int} : (∃ k, N' j = some k) ↔ ∃ k, N j = some k := by
  unfold pRep at h
  cases cy with
  | false =>
    rw [if_neg (by decide)] at h
    dsimp only at h
    obtain ⟨pi, N₅, n₄, np₄, nb₅, ni₅, _, _, _, _, _, rfl, _, rfl⟩ := oMove_spec h
    rw [pPut_dom, pRem_dom, md_dom]
  | true =>
    rw [if_pos rfl] at h
    cases e : oUp (md N i fun n => { n with w := wv }) i b with
    | none => rw [e] at h; cases h
    | some N₄ =>
      rw [e] at h; dsimp only at h
      obtain ⟨pb, N₃, nb, npb, pi₃, n₃, np₃, nb₃, _, _, _, _, _, rfl, _, _, _, _, rfl⟩ := oUp_spec e
      obtain ⟨pi, N₅, n₄, np₄, nb₅, ni₅, _, _, _, _, _, rfl, _, rfl⟩ := oMove_spec h
      rw [pPut_dom, pRem_dom, pAdd_dom, pRem_dom, md_dom]

/-! # Q3a -/

/-! ## law 3: rounds, told by two lists a parent (pure) -/
structure Row where
  up : Int
  op : Bool
  come : List Int
  been : List Int
abbrev RT := Int → Option Row
def srt (l : List Int) : List Int := l.mergeSort fun a b => decide (a ≤ b)
theorem srt_perm (l : List Int) : (srt l).Perm l := List.mergeSort_perm _ _
theorem srt_sorted (l : List Int) : (srt l).Pairwise (· ≤ ·) := by
  have := List.pairwise_mergeSort (le := fun a b : Int => decide (a ≤ b)) (fun a b c h1 h2 => by simp only [decide_eq_true_eq] at *; omega) (fun a b => by simp only [Bool.or_eq_true, decide_eq_true_eq]; omega) l
  exact this.imp fun h => by simpa using h
theorem sorted_unique : ∀ {l l' : List Int}, l.Pairwise (· ≤ ·) → l'.Pairwise (· ≤ ·) → l.Perm l' → l = l'
  | [], l', _, _, p => p.nil_eq
  | a :: l, [], _, _, p => absurd p.length_eq (by simp)
  | a :: l, b :: l', h, h', p => by
    rw [List.pairwise_cons] at h h'
    have e : a = b := by
      rcases List.mem_cons.mp (p.mem_iff.mp (.head _)) with e | e
      · exact e
      · rcases List.mem_cons.mp (p.mem_iff.mpr (.head _)) with e' | e'
        · exact e'.symm
        · have := h.1 _ e'; have := h'.1 _ e; omega
    subst e
    rw [sorted_unique h.2 h'.2 p.cons_inv]
theorem srt_eq {l l' : List Int} (h : l'.Pairwise (· ≤ ·)) (p : l'.Perm l) : l' = srt l := sorted_unique h (srt_sorted l) (p.trans (srt_perm l).symm)
def rmd (R : RT) (i : Int) (f : Row → Row) : RT := upd R i ((R i).map f)
theorem rmd_self {R : RT} {i : Int} {f : Row → Row} {r : Row} (h : R i = some r) : rmd R i f i = some (f r) := by unfold rmd; rw [upd_self, h]; rfl
theorem rmd_ne {R : RT} {i j : Int} {f : Row → Row} (h : j ≠ i) : rmd R i f j = R j := upd_ne _ _ h
theorem rmd_get {R : RT} {i j : Int} {f : Row → Row} {r : Row} (h : R j = some r) : rmd R i f j = some (if j = i then f r else r) := by
  by_cases z : j = i
  · subst z; rw [rmd_self h, if_pos rfl]
  · rw [rmd_ne z, h, if_neg z]
theorem rmd_isSome {R : RT} {i j : Int} {f : Row → Row} : (rmd R i f j).isSome = (R j).isSome := by
  by_cases z : j = i
  · subst z; unfold rmd; rw [upd_self]; cases R j <;> rfl
  · rw [rmd_ne z]
def rJoin (R : RT) (under name : Int) : RT := rmd (rmd R name fun r => { r with up := under }) under fun r => { r with come := r.come ++ [name] }
def rJoins (R : RT) (under : Int) (l : List Int) : RT := l.foldl (fun R c => rJoin R under c) R
def rLeave (R : RT) (p name : Int) : RT := rmd R p fun r => { r with come := r.come.filter (fun x => decide (x ≠ name)), been := r.been.filter fun x => decide (x ≠ name) }
def rPlace (R : RT) (under name : Int) (alone : Bool) : RT :=
  if alone = true then (match R under with
    | none => R
    | some r => rJoins (rJoin (rmd R under fun r => { r with come := [], been := [] }) under name) name (r.come ++ r.been))
  else rJoin R under name
def rNeed (R : RT) (under : Int) : RT := if (R under).isSome = true then R else rJoin (upd R under (some ⟨0, false, [], []⟩)) 0 under
def rWalk (rec : RT → Int → Option (Int × RT)) : List Int → List Int → RT → Option (List Int × Int × RT)
  | [], gone, R => some (gone, 0, R)
  | x :: l, gone, R => match R x with
    | none => none
    | some r => if r.op = true then (if x ≠ 0 then some (gone ++ [x], x, R) else rWalk rec l (gone ++ [x]) R) else match rec R x with
      | none => none
      | some (t, R') => if t ≠ 0 then some (gone ++ [x], t, R') else rWalk rec l (gone ++ [x]) R'
/-- a parent's two lists after a turn -/
def rDone (come been gone : List Int) (r : Row) : Row :=
  if gone.length > come.length then { r with come := come ++ been.filter (fun x => !gone.any fun y => decide (y = x)), been := been.filter fun x => gone.any fun y => decide (y = x) }
  else { r with come := come.filter (fun x => !gone.any fun y => decide (y = x)), been := been ++ gone }
def rTurn : Nat → RT → Int → Option (Int × RT)
  | 0, _, _ => none
  | d + 1, R, i => match R i with
    | none => none
    | some r => match rWalk (rTurn d) (srt r.come ++ srt r.been) [] R with
      | none => none
      | some (gone, told, R') => some (told, rmd R' i (rDone (srt r.come) (srt r.been) gone))
/-! ## queues stand in order -/
def leq (a b : Int × Int) : Prop := a.1 < b.1 ∨ (a.1 = b.1 ∧ a.2 ≤ b.2)
theorem ahead_iff {a b : Int × Int} : ahead a b = true ↔ ¬ leq b a := by
  unfold ahead leq
  by_cases h : a.1 = b.1
  · rw [if_pos h, decide_eq_true_eq]; omega
  · rw [if_neg h, decide_eq_true_eq]; omega
theorem leq_trans {a b c : Int × Int} (h : leq a b) (k : leq b c) : leq a c := by unfold leq at *; omega
theorem leq_total (a b : Int × Int) : leq a b ∨ leq b a := by unfold leq; omega
theorem leq_anti {a b : Int × Int} (h : leq a b) (k : leq b a) : a = b := by
  unfold leq at *
  exact Prod.ext (by omega) (by omega)
abbrev SQ (q : List (Int × Int)) : Prop := q.Pairwise leq
theorem sq_get {q : List (Int × Int)} (h : SQ q) {i j : Nat} {a b : Int × Int} (ij : i ≤ j) (hi : q[i]? = some a) (hj : q[j]? = some b) : leq a b := by
  obtain ⟨hi1, hi2⟩ := List.getElem?_eq_some_iff.mp hi
  obtain ⟨hj1, hj2⟩ := List.getElem?_eq_some_iff.mp hj
  by_cases z : i = j
  · subst z
    rw [hi] at hj; cases hj
    exact .inr ⟨rfl, Int.le_refl _⟩
  · rw [← hi2, ← hj2]
    exact List.pairwise_iff_getElem.mp h i j hi1 hj1 (by omega)
theorem plc_spec {e : Int × Int} {q : List (Int × Int)} (h : SQ q) : ∀ n, n ≤ q.length → (∀ j a, j < plc e q n → q[j]? = some a → leq a e) ∧ (∀ j a, plc e q n ≤ j → j < n → q[j]? = some a → leq e a)
  | 0, _ => ⟨fun j a hj _ => absurd hj (by unfold plc; omega), fun j a _ hj _ => absurd hj (by omega)⟩
  | n + 1, hn => by
    obtain ⟨h1, h2⟩ := plc_spec (e := e) h n (by omega)
    obtain ⟨b, hb⟩ : ∃ b, q[n]? = some b := ⟨q[n]'(by omega), List.getElem?_eq_getElem (by omega)⟩
    unfold plc
    rw [hb]
    show (∀ j a, j < (if ahead e b = true then _ else _) → _) ∧ _
    by_cases z : ahead e b = true
    · rw [if_pos (show (some b).any (ahead e) = true from z), if_pos z]
      refine ⟨h1, fun j a h3 h4 h5 => ?_⟩
      by_cases y : j = n
      · subst y
        rw [hb] at h5; cases h5
        exact (leq_total e b).resolve_right (ahead_iff.mp z)
      · exact h2 j a h3 (by omega) h5
    · rw [if_neg (show ¬ (some b).any (ahead e) = true from z), if_neg z]
      have hb' : leq b e := Classical.byContradiction fun q => z (ahead_iff.mpr q)
      exact ⟨fun j a h3 h5 => leq_trans (sq_get h (by omega) h5 hb) hb', fun j a h3 h4 => absurd h3 (by omega)⟩
theorem ins_sq {e : Int × Int} {q : List (Int × Int)} (h : SQ q) : SQ (ins e q) := by
  obtain ⟨h1, h2⟩ := plc_spec (e := e) h q.length (Nat.le_refl _)
  unfold ins putAt place
  have t : ∀ a ∈ q.take (plc e q q.length), leq a e := fun a ha => by
    obtain ⟨j, hj⟩ := List.getElem?_of_mem ha
    have hl := (List.getElem?_eq_some_iff.mp hj).1
    rw [List.length_take] at hl
    rw [List.getElem?_take_of_lt (by omega)] at hj
    exact h1 j a (by omega) hj
  have d : ∀ a ∈ q.drop (plc e q q.length), leq e a := fun a ha => by
    obtain ⟨j, hj⟩ := List.getElem?_of_mem ha
    rw [List.getElem?_drop] at hj
    have hl := (List.getElem?_eq_some_iff.mp hj).1
    exact h2 _ a (by omega) hl hj
  rw [SQ, List.pairwise_append]
  refine ⟨h.sublist (List.take_sublist _ _), List.pairwise_cons.mpr ⟨d, h.sublist (List.drop_sublist _ _)⟩, fun a ha b hb => ?_⟩
  rcases List.mem_cons.mp hb with rfl | hb
  · exact t a ha
  · exact leq_trans (t a ha) (d b hb)
theorem sq_unique : ∀ {l l' : List (Int × Int)}, SQ l → SQ l' → l.Perm l' → l = l'
  | [], l', _, _, p => p.nil_eq
  | a :: l, [], _, _, p => absurd p.length_eq (by simp)
  | a :: l, b :: l', h, h', p => by
    rw [SQ, List.pairwise_cons] at h h'
    have e : a = b := by
      rcases List.mem_cons.mp (p.mem_iff.mp (.head _)) with e | e
      · exact e
      · rcases List.mem_cons.mp (p.mem_iff.mpr (.head _)) with e' | e'
        · exact e'.symm
        · exact leq_anti (h.1 _ e') (h'.1 _ e)
    subst e
    rw [sq_unique h.2 h'.2 p.cons_inv]
theorem requeue_sq {c : Int} : ∀ {q acc : List (Int × Int)}, SQ acc → SQ (requeue c acc q)
  | [], acc, h => h
  | e :: q, acc, h => by
    show SQ (requeue c (if e.2 = c then acc else ins e acc) q)
    by_cases z : e.2 = c
    · rw [if_pos z]; exact requeue_sq h
    · rw [if_neg z]; exact requeue_sq (ins_sq h)

/-! # Q3b -/

/-! ## the relation between a tree of one weight and the table of rounds -/
structure Rnd (s : Int) (n : Node) (r : Row) : Prop where
  up : r.up = n.par.getD 0
  op : r.op = n.act
  sq : SQ n.q
  q : n.q.Perm (r.come.map (fun c => (n.last, c)) ++ r.been.map fun c => (n.last + s, c))
/-- all nodes but those in E -/
structure RndX (W s : Int) (E : Int → Prop) (S : ST) (R : RT) : Prop where
  dom : ∀ i, (S i).isSome = (R i).isSome
  rel : ∀ i n r, ¬ E i → S i = some n → R i = some r → Rnd s n r
  wt : ∀ i n, S i = some n → i ≠ 0 → n.w = .int W 0 ∧ n.df = 0
section
variable {W s : Int} {E : Int → Prop} {S : ST} {R : RT} {i : Int}
theorem RndX.get (h : RndX W s E S R) {n : Node} (hn : S i = some n) : ∃ r, R i = some r := by
  have := h.dom i; rw [hn] at this; exact Option.isSome_iff_exists.mp this.symm
theorem RndX.get' (h : RndX W s E S R) {r : Row} (hr : R i = some r) : ∃ n, S i = some n := by
  have := h.dom i; rw [hr] at this; exact Option.isSome_iff_exists.mp this
theorem RndX.gone (h : RndX W s E S R) (hn : S i = none) : R i = none := by
  have := h.dom i; rw [hn] at this
  cases e : R i with
  | none => rfl
  | some r => rw [e] at this; cases this
theorem md_isSome {N : ST} {f : Node → Node} {j : Int} : (md N i f j).isSome = (N j).isSome := by
  cases e : N j with
  | none =>
    cases e' : md N i f j with
    | none => rfl
    | some n => obtain ⟨k, hk⟩ := md_dom.mp ⟨n, e'⟩; rw [e] at hk; cases hk
  | some n => rw [md_get e]; rfl
theorem RndX.more {E' : Int → Prop} (h : RndX W s E S R) (k : ∀ j, E j → E' j) : RndX W s E' S R := ⟨h.dom, fun j n r e => h.rel j n r fun q => e (k j q), h.wt⟩
theorem RndX.md (h : RndX W s E S R) {f : Node → Node} {g : Row → Row} (hw : ∀ n, (f n).w = n.w ∧ (f n).df = n.df)
    (hf : ¬ E i → ∀ n r, S i = some n → R i = some r → Rnd s n r → Rnd s (f n) (g r)) : RndX W s E (md S i f) (rmd R i g) := by
  refine ⟨fun j => by rw [md_isSome, rmd_isSome]; exact h.dom j, fun j n r he hn hr => ?_, fun j n hn hj => ?_⟩
  · obtain ⟨n₀, h₀⟩ := md_dom.mp ⟨n, hn⟩
    obtain ⟨r₀, g₀⟩ := h.get h₀
    rw [md_get h₀] at hn; rw [rmd_get g₀] at hr
    cases hn; cases hr
    by_cases z : j = i
    · subst z
      rw [if_pos rfl, if_pos rfl]; exact hf he _ _ h₀ g₀ (h.rel _ _ _ he h₀ g₀)
    · rw [if_neg z, if_neg z]; exact h.rel _ _ _ he h₀ g₀
  · obtain ⟨n₀, h₀⟩ := md_dom.mp ⟨n, hn⟩
    rw [md_get h₀] at hn; cases hn
    have := h.wt _ _ h₀ hj
    by_cases z : j = i
    · rw [if_pos z, (hw n₀).1, (hw n₀).2]; exact this
    · rw [if_neg z]; exact this
theorem RndX.mdS (h : RndX W s E S R) {f : Node → Node} (hw : ∀ n, (f n).w = n.w ∧ (f n).df = n.df)
    (hf : ¬ E i → ∀ n r, S i = some n → R i = some r → Rnd s n r → Rnd s (f n) r) : RndX W s E (Mine.md S i f) R := by
  have := RndX.md (g := id) h hw hf
  rwa [show rmd R i id = R by unfold rmd; rw [Option.map_id]; funext j; by_cases z : j = i
                              · subst z; rw [upd_self]; rfl
                              · rw [upd_ne _ _ z]] at this
/-! ### joining, leaving -/
theorem RndX.join (h : RndX W s E S R) {a c : Int} : RndX W s E (pAdd S a c) (rJoin R a c) := by
  unfold pAdd rJoin
  have h1 : RndX W s E (Mine.md S c fun n => { n with par := some a }) (rmd R c fun r => { r with up := a }) :=
    RndX.md (f := fun n => { n with par := some a }) (g := fun r => { r with up := a }) h (fun n => ⟨rfl, rfl⟩) fun _ n r _ _ x => ⟨rfl, x.op, x.sq, x.q⟩
  refine RndX.md (f := fun n => { n with kids := n.kids ++ [c], q := ins (n.last, c) n.q }) (g := fun r => { r with come := r.come ++ [c] }) h1 (fun n => ⟨rfl, rfl⟩) fun _ n r _ _ x => ⟨x.up, x.op, ins_sq x.sq, ?_⟩
  refine (ins_perm _ _).trans ?_
  show ((n.last, c) :: n.q).Perm ((r.come ++ [c]).map (fun c => (n.last, c)) ++ r.been.map fun c => (n.last + s, c))
  rw [List.map_append, List.append_assoc]
  exact (x.q.cons _).trans (List.perm_middle (l₁ := r.come.map fun c => (n.last, c))).symm
theorem RndX.joins {a : Int} : ∀ {l : List Int} {S : ST} {R : RT}, RndX W s E S R → RndX W s E (pAdds S a l) (rJoins R a l)
  | [], _, _, h => h
  | c :: l, _, _, h => RndX.joins (l := l) h.join
theorem filter_map_q {a x : Int} {l : List Int} : (l.map fun c => (a, c)).filter (fun e : Int × Int => decide (e.2 ≠ x)) = (l.filter fun c => decide (c ≠ x)).map fun c => (a, c) := by
  rw [List.filter_map]; rfl
theorem RndX.leave (h : RndX W s E S R) {a c : Int} : RndX W s E (pRem S a c false) (rLeave R a c) := by
  unfold pRem rLeave
  rw [if_neg (by decide)]
  refine RndX.md h (fun n => ⟨rfl, rfl⟩) fun _ n r _ _ x => ⟨x.up, x.op, requeue_sq .nil, (requeue_perm c n.q []).trans ?_⟩
  rw [List.nil_append]
  refine (x.q.filter _).trans ?_
  rw [List.filter_append, filter_map_q, filter_map_q]
theorem RndX.clear (h : RndX W s E S R) {a : Int} : RndX W s E (Mine.md S a pClear) (rmd R a fun r => { r with come := [], been := [] }) :=
  RndX.md h (fun n => ⟨rfl, rfl⟩) fun _ n r _ _ x => ⟨x.up, x.op, .nil, .refl _⟩
/-! ### rows may have their lists in another order -/
def RowP (r r' : Row) : Prop := r'.up = r.up ∧ r'.op = r.op ∧ r.come.Perm r'.come ∧ r.been.Perm r'.been
def RP (R R' : RT) : Prop := ∀ i, match R i, R' i with
  | some r, some r' => RowP r r'
  | none, none => True
  | _, _ => False
theorem RP.refl : RP R R := fun i => by
  cases R i with
  | none => trivial
  | some r => exact ⟨rfl, rfl, .refl _, .refl _⟩
theorem RP.trans {R' R'' : RT} (h : RP R R') (k : RP R' R'') : RP R R'' := fun i => by
  have a := h i; have b := k i
  revert a b
  cases R i <;> cases R' i <;> cases R'' i <;> simp
  exact fun a b => ⟨b.1.trans a.1, b.2.1.trans a.2.1, a.2.2.1.trans b.2.2.1, a.2.2.2.trans b.2.2.2⟩
theorem RndX.perm {R' : RT} (h : RndX W s E S R) (p : RP R R') : RndX W s E S R' := by
  refine ⟨fun j => ?_, fun j n r he hn hr => ?_, h.wt⟩
  · have a := p j; have b := h.dom j
    revert a b
    cases R j <;> cases R' j <;> simp
  · obtain ⟨r₀, g₀⟩ := h.get hn
    have a := p j
    rw [g₀, hr] at a
    have x := h.rel _ _ _ he hn g₀
    exact ⟨a.1.trans x.up, a.2.1.trans x.op, x.sq, x.q.trans ((a.2.2.1.map _).append (a.2.2.2.map _))⟩
theorem RP.md {R' : RT} (h : RP R R') {f : Row → Row} (hf : ∀ r r', RowP r r' → RowP (f r) (f r')) : RP (rmd R i f) (rmd R' i f) := fun j => by
  have a := h j
  by_cases z : j = i
  · subst z
    unfold rmd; rw [upd_self, upd_self]
    revert a
    cases R j <;> cases R' j <;> simp
    exact hf _ _
  · rw [rmd_ne z, rmd_ne z]; exact a
theorem RP.join {R' : RT} (h : RP R R') {a c : Int} : RP (rJoin R a c) (rJoin R' a c) :=
  RP.md (f := fun r => { r with come := r.come ++ [c] }) (RP.md (f := fun r => { r with up := a }) h fun r r' x => ⟨rfl, x.2.1, x.2.2.1, x.2.2.2⟩) fun r r' x => ⟨x.1, x.2.1, x.2.2.1.append_right _, x.2.2.2⟩
theorem RP.joins {a : Int} : ∀ {l : List Int} {R R' : RT}, RP R R' → RP (rJoins R a l) (rJoins R' a l)
  | [], _, _, h => h
  | c :: l, _, _, h => RP.joins (l := l) h.join
theorem rmd_rmd_get {f g : Row → Row} {k l j : Int} : rmd (rmd R k f) l g j = (R j).map fun r => if j = l then g (if j = k then f r else r) else if j = k then f r else r := by
  cases e : R j with
  | none =>
    have : (rmd (rmd R k f) l g j).isSome = false := by rw [rmd_isSome, rmd_isSome, e]; rfl
    cases e' : rmd (rmd R k f) l g j with
    | none => rfl
    | some x => rw [e'] at this; cases this
  | some r => rw [rmd_get (rmd_get e)]; rfl
theorem rJoin_get {a c j : Int} : rJoin R a c j = (R j).map fun r => { r with up := if j = c then a else r.up, come := if j = a then r.come ++ [c] else r.come } := by
  unfold rJoin
  rw [rmd_rmd_get]
  cases R j with
  | none => rfl
  | some r =>
    by_cases z1 : j = a
    · by_cases z2 : j = c
      · simp only [Option.map_some, if_pos z1, if_pos z2]
      · simp only [Option.map_some, if_pos z1, if_neg z2]
    · by_cases z2 : j = c
      · simp only [Option.map_some, if_neg z1, if_pos z2]
      · simp only [Option.map_some, if_neg z1, if_neg z2]
theorem rJoin_swap {a x y : Int} : RP (rJoin (rJoin R a x) a y) (rJoin (rJoin R a y) a x) := fun j => by
  simp only [rJoin_get]
  cases R j with
  | none => trivial
  | some r =>
    simp only [Option.map_some]
    refine ⟨?_, rfl, ?_, .refl _⟩
    · by_cases z1 : j = x <;> by_cases z2 : j = y <;> simp [z1, z2]
    · by_cases z : j = a
      · simp only [z, if_true, List.append_assoc]
        exact (List.Perm.swap _ _ _).append_left _
      · simp only [if_neg z]; exact .refl _
theorem rJoins_perm {a : Int} {l l' : List Int} (p : l.Perm l') : ∀ {R : RT}, RP (rJoins R a l) (rJoins R a l') := by
  induction p with
  | nil => exact RP.refl
  | cons x p ih => exact ih
  | swap x y l => exact RP.joins rJoin_swap
  | trans p q ih1 ih2 => exact ih1.trans ih2
theorem RndX.joinsP {a : Int} {l l' : List Int} (h : RndX W s E S R) (p : l.Perm l') : RndX W s E (pAdds S a l) (rJoins R a l') := h.joins.perm (rJoins_perm p)
/-! ### a stream put beneath a parent; a new stream -/
/-- a parent's children, told by its two lists -/
theorem Rnd.kids {n : Node} {r : Row} (h : Rnd s n r) (hq : (n.q.map (·.2)).Perm n.kids) : n.kids.Perm (r.come ++ r.been) := by
  refine hq.symm.trans ((h.q.map _).trans ?_)
  rw [List.map_append, List.map_map, List.map_map]
  have : ∀ (l : List Int) (a : Int), l.map ((fun e : Int × Int => e.2) ∘ fun c => (a, c)) = l := fun l a => by
    induction l with
    | nil => rfl
    | cons x l ih => rw [List.map_cons, ih]; rfl
  rw [this, this]
theorem RndX.put (h : RndX W s E S R) {b c : Int} {ex : Bool} (hb : ¬ E b) {nb : Node} (hn : S b = some nb) (hq : (nb.q.map (·.2)).Perm nb.kids) : RndX W s E (pPut S b c ex) (rPlace R b c ex) := by
  unfold pPut rPlace
  cases ex with
  | false => rw [if_neg (by decide), if_neg (by decide)]; exact h.join
  | true =>
    rw [if_pos rfl, if_pos rfl]
    unfold pAddX
    obtain ⟨r, hr⟩ := h.get hn
    rw [hn, hr]
    exact h.clear.join.joinsP ((h.rel _ _ _ hb hn hr).kids hq)
theorem RndX.new (h : RndX W s E S R) {sid : Value} (hi : i ≠ 0) (op : Bool) (ho : op = true) : RndX W s E (pNew S i sid (.int W 0)) (upd R i (some ⟨0, op, [], []⟩)) := by
  subst ho
  unfold pNew
  refine ⟨fun j => ?_, fun j n r he hn hr => ?_, fun j n hn hj => ?_⟩
  · by_cases z : j = i
    · subst z; rw [upd_self, upd_self]; rfl
    · rw [upd_ne _ _ z, upd_ne _ _ z]; exact h.dom j
  · by_cases z : j = i
    · subst z; rw [upd_self] at hn hr; cases hn; cases hr
      exact ⟨rfl, rfl, .nil, .refl _⟩
    · rw [upd_ne _ _ z] at hn hr; exact h.rel _ _ _ he hn hr
  · by_cases z : j = i
    · subst z; rw [upd_self] at hn; cases hn; exact ⟨rfl, rfl⟩
    · rw [upd_ne _ _ z] at hn; exact h.wt _ _ hn hj
end

/-! # Q3c -/

section
variable {W s : Int} {E : Int → Prop} {S : ST} {R : RT} {i : Int}
/-! ## a turn goes in rounds -/
theorem wnum_W {n : Node} (h : n.w = .int W 0) : wnum n = W := by unfold wnum; rw [h]; rfl
theorem step_W (hW : 0 < W) (hs : W * s = 256) : (256 + 0) / W = s ∧ (256 + 0 : Int) % W = 0 := by
  rw [Int.add_zero, ← hs]
  exact ⟨Int.mul_ediv_cancel_left _ (by omega), Int.mul_emod_right _ _⟩
def backQ (s : Int) (q l : List (Int × Int)) : List (Int × Int) := l.foldl (fun q e => ins (e.1 + s, e.2) q) q
def lastL (a : Int) (l : List (Int × Int)) : Int := l.foldl (fun _ e => e.1) a
theorem backQ_perm : ∀ {l q : List (Int × Int)}, (backQ s q l).Perm (q ++ l.map fun e => (e.1 + s, e.2))
  | [], q => by simp [backQ]
  | e :: l, q => by
    refine (backQ_perm (l := l) (q := ins (e.1 + s, e.2) q)).trans ?_
    rw [List.map_cons]
    exact ((ins_perm _ _).append_right _).trans List.perm_middle.symm
theorem backQ_sq : ∀ {l q : List (Int × Int)}, SQ q → SQ (backQ s q l)
  | [], _, h => h
  | e :: l, q, h => backQ_sq (l := l) (ins_sq h)
/-- all are of the one weight -/
def OneW (W : Int) (S : ST) : Prop := ∀ i n, S i = some n → i ≠ 0 → n.w = .int W 0 ∧ n.df = 0
theorem pBack_one (hW : 0 < W) (hs : W * s = 256) : ∀ {l : List (Int × Int)} {S : ST}, OneW W S → (∀ e ∈ l, e.2 ≠ 0 ∧ e.2 ≠ i ∧ ∃ c, S e.2 = some c) → ∀ {j n}, S j = some n →
    pBack S i l j = some { n with last := if j = i then lastL n.last l else n.last, q := if j = i then backQ s n.q l else n.q }
  | [], S, o, h, j, n, hn => by
    show S j = _
    rw [hn]; split <;> rfl
  | e :: l, S, o, h, j, n, hn => by
    obtain ⟨h0, hi, c, hc⟩ := h e (.head _)
    obtain ⟨s1, s2⟩ := step_W hW hs
    obtain ⟨wc, dc⟩ := o _ _ hc h0
    have g : ∀ {j n}, S j = some n → pBack1 i S e j = some { n with last := if j = i then e.1 else n.last, q := if j = i then ins (e.1 + s, e.2) n.q else n.q } := fun {j n} hn => by
      rw [pBack1_get hc hn, wnum_W wc, dc, s1, s2]
      by_cases z : j = e.2
      · subst z
        rw [hc] at hn; cases hn
        rw [if_pos rfl, dc]
      · rw [if_neg z]
    have o1 : OneW W (pBack1 i S e) := fun j n hj j0 => by
      obtain ⟨n₀, h₀⟩ := pBack1_dom.mp ⟨n, hj⟩
      rw [g h₀] at hj; cases hj
      have := o j n₀ h₀ j0
      exact this
    show pBack (pBack1 i S e) i l j = _
    rw [pBack_one hW hs o1 (fun d hd => ⟨(h d (.tail _ hd)).1, (h d (.tail _ hd)).2.1, pBack1_dom.mpr (h d (.tail _ hd)).2.2⟩) (g hn)]
    by_cases z : j = i
    · simp only [if_pos z]; rfl
    · simp only [if_neg z]
theorem lastL_const {a b : Int} : ∀ {l : List (Int × Int)}, (∀ e ∈ l, e.1 = b) → l ≠ [] → lastL a l = b
  | [], _, h => (h rfl).elim
  | [e], h, _ => h e (.head _)
  | e :: d :: l, h, _ => lastL_const (a := e.1) (l := d :: l) (fun x hx => h x (.tail _ hx)) (by simp)
theorem lastL_app {a : Int} {l k : List (Int × Int)} : lastL a (l ++ k) = lastL (lastL a l) k := by unfold lastL; rw [List.foldl_append]
theorem nodup_filter_in {l a : List Int} (h : ∀ x ∈ l, x ∈ a) : l.filter (fun x => a.any fun y => decide (y = x)) = l :=
  List.filter_eq_self.mpr fun x hx => List.any_eq_true.mpr ⟨x, h x hx, by simp⟩
theorem nodup_filter_out {l a : List Int} (h : ∀ x ∈ l, x ∉ a) : l.filter (fun x => !a.any fun y => decide (y = x)) = l :=
  List.filter_eq_self.mpr fun x hx => by
    rw [Bool.not_eq_true', List.any_eq_false]
    intro y hy; simp; rintro rfl; exact h _ hx hy
theorem filter_in_none {l a : List Int} (h : ∀ x ∈ l, x ∉ a) : l.filter (fun x => a.any fun y => decide (y = x)) = [] :=
  List.filter_eq_nil_iff.mpr fun x hx => by
    rw [List.any_eq_true]; rintro ⟨y, hy, e⟩
    have : y = x := by simpa using e
    subst this; exact h _ hx hy
theorem filter_out_none {l a : List Int} (h : ∀ x ∈ l, x ∈ a) : l.filter (fun x => !a.any fun y => decide (y = x)) = [] :=
  List.filter_eq_nil_iff.mpr fun x hx => by
    rw [Bool.not_eq_true', List.any_eq_false]; intro q; exact (q x (h x hx)) (by simp)
theorem map_snd {a : Int} : ∀ {l : List Int}, (l.map fun c => (a, c)).map (·.2) = l
  | [] => rfl
  | x :: l => by rw [List.map_cons, List.map_cons, map_snd]
/-- a queue that stands in order, told by the sorted lists -/
theorem Rnd.queue {n : Node} {r : Row} (h : Rnd s n r) (hs : 0 < s) : n.q = (srt r.come).map (fun c => (n.last, c)) ++ (srt r.been).map fun c => (n.last + s, c) := by
  refine sq_unique h.sq ?_ (h.q.trans (((srt_perm _).symm.map _).append ((srt_perm _).symm.map _)))
  rw [SQ, List.pairwise_append]
  refine ⟨List.pairwise_map.mpr ((srt_sorted _).imp fun h => .inr ⟨rfl, h⟩), List.pairwise_map.mpr ((srt_sorted _).imp fun h => .inr ⟨rfl, h⟩), fun a ha b hb => ?_⟩
  obtain ⟨x, _, rfl⟩ := List.mem_map.mp ha
  obtain ⟨y, _, rfl⟩ := List.mem_map.mp hb
  exact .inl (by show n.last < n.last + s; omega)
/-- the end of a turn at one parent -/
theorem Rnd.done {n : Node} {r : Row} {pop rest : List (Int × Int)} (h : Rnd s n r) (hs : 0 < s) (hq : pop ++ rest = n.q) (nd : (n.q.map (·.2)).Nodup) :
    Rnd s { n with last := lastL n.last pop, q := backQ s rest pop } (rDone (srt r.come) (srt r.been) (pop.map (·.2)) r) := by
  have hQ := h.queue hs
  have sr : SQ rest := by have := h.sq; rw [← hq] at this; exact (List.pairwise_append.mp this).2.1
  generalize hc : srt r.come = c at hQ ⊢
  generalize hb : srt r.been = b at hQ ⊢
  have ndq : (c ++ b).Nodup := by rw [hQ, List.map_append, map_snd, map_snd] at nd; exact nd
  have disj : ∀ x ∈ c, x ∉ b := fun x hx hx' => by
    have := (List.nodup_append.mp ndq).2.2 x hx x hx'
    exact this rfl
  have hup : ∀ gone, (rDone c b gone r).up = r.up ∧ (rDone c b gone r).op = r.op := fun gone => by unfold rDone; split <;> exact ⟨rfl, rfl⟩
  refine ⟨(hup _).1.trans h.up, (hup _).2.trans h.op, backQ_sq sr, backQ_perm.trans ?_⟩
  have key : pop ++ rest = c.map (fun c => (n.last, c)) ++ b.map fun c => (n.last + s, c) := hq.trans hQ
  dsimp only
  by_cases hl : pop.length ≤ c.length
  · -- within those still to come
    obtain ⟨c1, c2, rfl, rfl, rfl⟩ : ∃ c1 c2, c = c1 ++ c2 ∧ pop = c1.map (fun c => (n.last, c)) ∧ rest = c2.map (fun c => (n.last, c)) ++ b.map fun c => (n.last + s, c) := by
      refine ⟨c.take pop.length, c.drop pop.length, (List.take_append_drop _ _).symm, ?_, ?_⟩
      · have := congrArg (List.take pop.length) key
        rw [List.take_left' rfl, List.take_append_of_le_length (by simpa using hl), ← List.map_take] at this
        exact this
      · have := congrArg (List.drop pop.length) key
        rw [List.drop_left' rfl, List.drop_append_of_le_length (by simpa using hl), ← List.map_drop] at this
        exact this
    have nd1 := (List.nodup_append.mp ndq).1
    have dj : ∀ x ∈ c1, x ∉ c2 := fun x hx hx' => (List.nodup_append.mp nd1).2.2 x hx x hx' rfl
    have el : lastL n.last (c1.map fun c => (n.last, c)) = n.last := by
      cases c1 with
      | nil => rfl
      | cons x l => exact lastL_const (fun e he => by obtain ⟨y, _, rfl⟩ := List.mem_map.mp he; rfl) (by simp)
    rw [el]
    unfold rDone
    rw [map_snd, if_neg (by simp)]
    dsimp only
    rw [List.filter_append, filter_out_none (fun x hx => hx), nodup_filter_out (fun x hx hx' => dj x hx' hx), List.nil_append, List.map_append, List.map_map, List.append_assoc]
    exact .refl _
  · -- beyond them
    obtain ⟨b1, b2, rfl, rfl, rfl, hb1⟩ : ∃ b1 b2, b = b1 ++ b2 ∧ pop = c.map (fun c => (n.last, c)) ++ b1.map (fun c => (n.last + s, c)) ∧ rest = b2.map (fun c => (n.last + s, c)) ∧ b1 ≠ [] := by
      have hlen := congrArg List.length key
      simp only [List.length_append, List.length_map] at hlen
      refine ⟨b.take (pop.length - c.length), b.drop (pop.length - c.length), (List.take_append_drop _ _).symm, ?_, ?_, fun z => ?_⟩
      · have := congrArg (List.take pop.length) key
        rw [List.take_left' rfl, List.take_append, List.length_map, List.take_of_length_le (by simp; omega), ← List.map_take] at this
        exact this
      · have := congrArg (List.drop pop.length) key
        rw [List.drop_left' rfl, List.drop_append, List.length_map, List.drop_of_length_le (by simp; omega), ← List.map_drop, List.nil_append] at this
        exact this
      · have := congrArg List.length z
        rw [List.length_take] at this
        simp only [List.length_nil] at this
        omega
    have nd2 := (List.nodup_append.mp ndq).2.1
    have dj : ∀ x ∈ b2, x ∉ b1 := fun x hx hx' => (List.nodup_append.mp nd2).2.2 x hx' x hx rfl
    have el : lastL n.last (c.map (fun c => (n.last, c)) ++ b1.map (fun c => (n.last + s, c))) = n.last + s := by
      rw [lastL_app]
      exact lastL_const (fun e he => by obtain ⟨y, _, rfl⟩ := List.mem_map.mp he; rfl) (by simpa using hb1)
    rw [el]
    have eg : (c.map (fun c => (n.last, c)) ++ b1.map (fun c => (n.last + s, c))).map (·.2) = c ++ b1 := by rw [List.map_append, map_snd, map_snd]
    unfold rDone
    rw [eg, if_pos (by
      rw [List.length_append]
      cases b1 with
      | nil => exact (hb1 rfl).elim
      | cons x l => rw [List.length_cons]; omega)]
    dsimp only
    have f1 : (b1 ++ b2).filter (fun x => !(c ++ b1).any fun y => decide (y = x)) = b2 := by
      rw [List.filter_append, filter_out_none (fun x hx => List.mem_append_right _ hx), nodup_filter_out, List.nil_append]
      intro x hx hx'
      rcases List.mem_append.mp hx' with q | q
      · exact disj x q (List.mem_append_right _ hx)
      · exact dj x hx q
    have f2 : (b1 ++ b2).filter (fun x => (c ++ b1).any fun y => decide (y = x)) = b1 := by
      rw [List.filter_append, nodup_filter_in (fun x hx => List.mem_append_right _ hx), filter_in_none, List.append_nil]
      intro x hx hx'
      rcases List.mem_append.mp hx' with q | q
      · exact disj x q (List.mem_append_right _ hx)
      · exact dj x hx q
    rw [f1, f2, List.map_append, List.map_append, List.map_map, List.map_map, List.append_assoc]
    -- b2 at last + s, then c at last + s, then b1 at last + 2 s
    refine (List.perm_append_comm_assoc _ _ _).trans ?_
    have e2 : b1.map ((fun e : Int × Int => (e.1 + s, e.2)) ∘ fun c => (n.last + s, c)) = b1.map fun c => (n.last + s + s, c) := rfl
    rw [e2]
    exact .refl _
/-! ### what a turn leaves alone, and what it answers -/
def Tol (r : Option Value) (t : Int) : Prop := (r = none ∧ t = 0) ∨ (r = some (.int t 0) ∧ t ≠ 0)
def ND (S : ST) : Prop := ∀ j n, S j = some n → (n.q.map (·.2)).Nodup
theorem ND.sh {S' : ST} (h : ND S) (k : Sh i [] S S') : ND S' := fun j n hn => by
  obtain ⟨n₀, h₀⟩ := k.2 _ _ hn
  obtain ⟨n', e', _, _, _, _, _, p⟩ := k.1 _ _ h₀
  rw [hn] at e'; cases e'
  have : (if j = i then ([] : List Int) else []) = [] := by split <;> rfl
  rw [this, List.nil_append] at p
  exact p.nodup_iff.mpr (h _ _ h₀)
theorem ND.pop (h : ND S) {n : Node} (hn : S i = some n) {e : Int × Int} {r : List (Int × Int)} (hq : n.q = e :: r) : ND (md S i fun n => { n with q := r }) := fun j k hk => by
  obtain ⟨n₀, h₀⟩ := md_dom.mp ⟨k, hk⟩
  rw [md_get h₀] at hk; cases hk
  by_cases z : j = i
  · subst z
    rw [hn] at h₀; cases h₀
    rw [if_pos rfl]
    have := h _ _ hn
    rw [hq, List.map_cons, List.nodup_cons] at this
    exact this.2
  · rw [if_neg z]; exact h _ _ h₀
theorem Top.sh {S' : ST} {D : DS} {k : Nat} {t x : Int} (h : Sh i [] S S') (ht : Top S D k x t) : Top S' D k x t := ht.congr fun j n e => by
  obtain ⟨n', a, _, _, _, b, _⟩ := h.1 _ _ e
  exact ⟨n', a, b⟩
/-- the nodes in E lie less deep than k -/
def Above (S : ST) (E : Int → Prop) (k : Nat) : Prop := ∀ j, E j → ∃ k', k' < k ∧ Top S none' k' j 0
theorem schedL_rnd {L k d : Nat} (hW : 0 < W) (hs : W * s = 256) (hs0 : 0 < s)
    (hrec : ∀ (E : Int → Prop) S R c nc r S', CN L S → ND S → SidI S → Top S none' k i 0 → S c = some nc → nc.par = some i → c ≠ 0 → nc.act = false → RndX W s E S R → Above S E (k + 1) → sched d S c = some (r, S') →
      ∃ t R', rTurn d R c = some (t, R') ∧ RndX W s E S' R' ∧ (∀ j, E j → S' j = S j ∧ R' j = R j) ∧ Tol r t) (hLk : L < k + 1 + d) :
    ∀ (m : Nat) (S : ST) (R : RT) (pop : List (Int × Int)) (n : Node) (r : Option Value) (S' : ST), CN L S → ND S → SidI S → Top S none' k i 0 → S i = some n → RndX W s (fun j => E j ∨ j = i) S R → Above S E k → (∀ e ∈ pop, e.2 ≠ 0 ∧ e.2 ≠ i ∧ ∃ c, S e.2 = some c) →
      schedL (sched d) i m S pop = some (r, S') → ∃ S₂ rest pop' t R', rWalk (rTurn d) (n.q.map (·.2)) (pop.map (·.2)) R = some (pop'.map (·.2), t, R') ∧ S' = pBack S₂ i pop' ∧ S₂ i = some { n with q := rest } ∧ pop' ++ rest = pop ++ n.q ∧
        (∀ e ∈ pop', e.2 ≠ 0 ∧ e.2 ≠ i ∧ ∃ c, S₂ e.2 = some c) ∧ RndX W s (fun j => E j ∨ j = i) S₂ R' ∧ (∀ j, E j → S₂ j = S j) ∧ (∀ j, E j ∨ j = i → R' j = R j) ∧ Tol r t
  | 0, S, R, pop, n, r, S', C, nd, sd, ht, hn, X, ab, hp, h => by cases h
  | m + 1, S, R, pop, n, r, S', C, nd, sd, ht, hn, X, ab, hp, h => by
    unfold schedL at h
    rw [hn] at h; dsimp only at h
    cases hq : n.q with
    | nil =>
      rw [hq] at h; cases h
      exact ⟨S, [], pop, 0, R, rfl, rfl, by rw [hn, ← hq], by simp, hp, X, fun _ _ => rfl, fun _ _ => rfl, .inl ⟨rfl, rfl⟩⟩
    | cons e q =>
      rw [hq] at h; dsimp only at h
      have C₁ := C.pop hn hq
      have nd₁ := nd.pop hn hq
      have sd₁ : SidI (md S i fun n => { n with q := q }) := sd.md fun _ => rfl
      have ht₁ : Top (md S i fun n => { n with q := q }) none' k i 0 := ht.congr fun j n e => ⟨_, md_get e, by split <;> rfl⟩
      obtain ⟨e0, c, hc, hcp⟩ := C.q _ _ _ hn (by rw [hq]; exact .head _)
      have eni : e.2 ≠ i := fun z => by
        rw [z] at hc
        have t' : Top S none' (k + 1) i 0 := by rw [z] at e0; exact ⟨e0, fun q => q, c, i, hc, hcp, ht⟩
        have := (Top.det ht t').1
        omega
      have hc₁ := md_get (i := i) (f := fun n => { n with q := q }) hc
      rw [if_neg eni] at hc₁
      have hn₁ := md_get (i := i) (f := fun n => { n with q := q }) hn
      rw [if_pos rfl] at hn₁
      have ab₁ : Above (md S i fun n => { n with q := q }) E k := fun j hj => by
        obtain ⟨k', h1, h2⟩ := ab j hj
        exact ⟨k', h1, h2.congr fun j n e => ⟨_, md_get e, by split <;> rfl⟩⟩
      have X₁ : RndX W s (fun j => E j ∨ j = i) (md S i fun n => { n with q := q }) R := RndX.mdS (f := fun n => { n with q := q }) X (fun n => ⟨rfl, rfl⟩) fun he => (he (.inr rfl)).elim
      have Eo : ∀ j, E j → md S i (fun n => { n with q := q }) j = S j := fun j hj => md_ne fun z => by
        obtain ⟨k', h1, h2⟩ := ab j hj
        rw [z] at h2
        have := (Top.det ht h2).1
        omega
      have hp₁ : ∀ d ∈ pop ++ [e], d.2 ≠ 0 ∧ d.2 ≠ i ∧ ∃ c, (md S i fun n => { n with q := q }) d.2 = some c := fun d hd => by
        rcases List.mem_append.mp hd with hd | hd
        · exact ⟨(hp d hd).1, (hp d hd).2.1, md_dom.mpr (hp d hd).2.2⟩
        · rw [List.mem_singleton.mp hd]; exact ⟨e0, eni, _, hc₁⟩
      rw [hc₁] at h; dsimp only at h
      generalize md S i (fun n => { n with q := q }) = S₁ at *
      obtain ⟨rc, hrc⟩ := X₁.get hc₁
      -- the child's row
      have hE : ¬ (E e.2 ∨ e.2 = i) := fun z => by
        rcases z with z | z
        · obtain ⟨k', h1, h2⟩ := ab _ z
          have t' : Top S none' (k + 1) e.2 0 := ⟨e0, fun q => q, c, i, hc, hcp, ht⟩
          have := (Top.det t' h2).1
          omega
        · exact eni z
      have hop := (X₁.rel _ _ _ hE hc₁ hrc).op
      rw [List.map_cons]
      unfold rWalk
      rw [hrc]; dsimp only
      rw [hop]
      have em : (pop ++ [e]).map (·.2) = pop.map (·.2) ++ [e.2] := by rw [List.map_append]; rfl
      cases ha : c.act with
      | true =>
        rw [ha, if_pos rfl] at h; cases h
        rw [if_pos rfl, if_pos e0]
        refine ⟨S₁, q, pop ++ [e], e.2, R, by rw [em], rfl, hn₁, by simp, hp₁, X₁, Eo, fun _ _ => rfl, .inr ⟨?_, e0⟩⟩
        rw [sd₁ _ _ hc₁]
      | false =>
        rw [ha, if_neg (by decide)] at h
        rw [if_neg (by decide)]
        have ab₂ : Above S₁ (fun j => E j ∨ j = i) (k + 1) := fun j hj => by
          rcases hj with hj | rfl
          · obtain ⟨k', h1, h2⟩ := ab₁ j hj
            exact ⟨k', by omega, h2⟩
          · exact ⟨k, by omega, ht₁⟩
        obtain ⟨ro, So, ho, sh⟩ := sched_total (L := L) d S₁ e.2 c (k + 1) C₁ hc₁ ⟨e0, fun q => q, c, i, hc₁, hcp, ht₁⟩ (by omega)
        obtain ⟨t, R₂, hR₂, X₂, un, tol⟩ := hrec _ S₁ R e.2 c ro So C₁ nd₁ sd₁ ht₁ hc₁ hcp e0 ha X₁ ab₂ ho
        rw [hR₂]; dsimp only
        rw [ho] at h
        have hn₂ : So i = some { n with q := q } := by rw [(un i (.inr rfl)).1]; exact hn₁
        have hp₂ : ∀ d ∈ pop ++ [e], d.2 ≠ 0 ∧ d.2 ≠ i ∧ ∃ c, So d.2 = some c := fun d hd => ⟨(hp₁ d hd).1, (hp₁ d hd).2.1, sh.dom (hp₁ d hd).2.2⟩
        rcases tol with ⟨rfl, rfl⟩ | ⟨rfl, ht0⟩
        · dsimp only at h
          rw [if_neg (by simp)]
          have sh' := sh.other (i := i)
          obtain ⟨S₃, rest, pop', t, R₃, b1, b2, b3, b4, b5, b6, b7, b8, b9⟩ := schedL_rnd hW hs hs0 hrec hLk m So R₂ (pop ++ [e]) _ r S' (C₁.sh sh') (nd₁.sh sh') (sh'.sidI sd₁) (ht₁.sh sh') hn₂ X₂ (fun j hj => by
            obtain ⟨k', h1, h2⟩ := ab₁ j hj
            exact ⟨k', h1, h2.sh sh'⟩) hp₂ h
          refine ⟨S₃, rest, pop', t, R₃, by rw [← em]; exact b1, b2, b3, by rw [b4]; simp, b5, b6, fun j hj => (b7 j hj).trans ((un j (.inl hj)).1.trans (Eo j hj)), fun j hj => (b8 j hj).trans (un j hj).2, b9⟩
        · dsimp only at h; cases h
          rw [if_pos ht0]
          exact ⟨So, q, pop ++ [e], t, R₂, by rw [em], rfl, hn₂, by simp, hp₂, X₂, fun j hj => (un j (.inl hj)).1.trans (Eo j hj), fun j hj => (un j hj).2, .inr ⟨rfl, ht0⟩⟩
theorem sched_rnd (hW : 0 < W) (hs : W * s = 256) (hs0 : 0 < s) {L : Nat} : ∀ (d k : Nat) (E : Int → Prop) (S : ST) (R : RT) (i : Int) (n : Node) (r : Option Value) (S' : ST), CN L S → ND S → SidI S → Top S none' k i 0 → S i = some n → RndX W s E S R → Above S E k → L < k + d →
    sched d S i = some (r, S') → ∃ t R', rTurn d R i = some (t, R') ∧ RndX W s E S' R' ∧ (∀ j, E j → S' j = S j ∧ R' j = R j) ∧ Tol r t
  | 0, k, E, S, R, i, n, r, S', C, nd, sd, ht, hn, X, ab, hL, h => by cases h
  | d + 1, k, E, S, R, i, n, r, S', C, nd, sd, ht, hn, X, ab, hL, h => by
    unfold sched at h
    obtain ⟨rr, hr⟩ := X.get hn
    have iE : ¬ E i := fun z => by
      obtain ⟨k', h1, h2⟩ := ab i z
      have := (Top.det ht h2).1
      omega
    have rnd := X.rel _ _ _ iE hn hr
    obtain ⟨S₂, rest, pop', t, R', b1, rfl, b3, b4, b5, b6, b7, b8, b9⟩ := schedL_rnd (E := E) (L := L) (k := k) (d := d) (i := i) hW hs hs0
      (fun E S R c nc r S' C nd sd ht hc hcp c0 ha X ab h => sched_rnd hW hs hs0 d (k + 1) E S R c nc r S' C nd sd ⟨c0, fun q => q, nc, i, hc, hcp, ht⟩ hc X ab (by omega) h) (by omega)
      6000 S R [] n r S' C nd sd ht hn (X.more fun j => .inl) ab (fun _ h => by cases h) h
    have qe : n.q.map (·.2) = srt rr.come ++ srt rr.been := by rw [rnd.queue hs0, List.map_append, map_snd, map_snd]
    unfold rTurn
    rw [hr]; dsimp only
    rw [← qe]
    rw [show rWalk (rTurn d) (n.q.map (·.2)) [] R = some (pop'.map (·.2), t, R') from b1]
    dsimp only
    have hRi : R' i = some rr := (b8 i (.inr rfl)).trans hr
    have oW : OneW W S₂ := b6.wt
    have pb : ∀ {j n}, S₂ j = some n → pBack S₂ i pop' j = some { n with last := if j = i then lastL n.last pop' else n.last, q := if j = i then backQ s n.q pop' else n.q } := fun {j n} h => pBack_one hW hs oW b5 h
    refine ⟨t, _, rfl, ⟨fun j => ?_, fun j k' r' he hk hr' => ?_, fun j k' hk hj => ?_⟩, fun j hj => ?_, b9⟩
    · rw [rmd_isSome, ← b6.dom j]
      cases e : S₂ j with
      | none =>
        cases e' : pBack S₂ i pop' j with
        | none => rfl
        | some x => obtain ⟨y, hy⟩ := pBack_dom.mp ⟨x, e'⟩; rw [e] at hy; cases hy
      | some x => rw [pb e]; rfl
    · obtain ⟨n₀, h₀⟩ := pBack_dom.mp ⟨k', hk⟩
      rw [pb h₀] at hk; cases hk
      by_cases z : j = i
      · subst z
        rw [b3] at h₀; cases h₀
        rw [rmd_self hRi] at hr'; cases hr'
        simp only [if_true]
        exact rnd.done hs0 (by rw [b4]; rfl) (nd _ _ hn)
      · rw [rmd_ne z] at hr'
        simp only [if_neg z]
        exact b6.rel _ _ _ (fun q => q.elim he z) h₀ hr'
    · obtain ⟨n₀, h₀⟩ := pBack_dom.mp ⟨k', hk⟩
      rw [pb h₀] at hk; cases hk
      have := oW j n₀ h₀ hj
      exact this
    · have ji : j ≠ i := fun z => iE (z ▸ hj)
      refine ⟨?_, (rmd_ne ji).trans (b8 j (.inl hj))⟩
      obtain ⟨k', h1, h2⟩ := ab j hj
      obtain ⟨nj, hnj⟩ := h2.dom.1
      have e2 := b7 j hj
      rw [hnj] at e2
      rw [pb e2, hnj]; simp only [if_neg ji]
end

/-! # Q3d -/

section
variable {W s : Int} {E : Int → Prop} {S : ST} {R : RT} {i : Int} {ids : List Int}
/-! ## the deeds -/
theorem RndX.dropX (h : RndX W s E S R) : RndX W s E (dropN S i) (upd R i none) := by
  unfold dropN
  refine ⟨fun j => ?_, fun j n r he hn hr => ?_, fun j n hn hj => ?_⟩
  · by_cases z : j = i
    · subst z; rw [upd_self, upd_self]; rfl
    · rw [upd_ne _ _ z, upd_ne _ _ z]; exact h.dom j
  · by_cases z : j = i
    · subst z; rw [upd_self] at hn; cases hn
    · rw [upd_ne _ _ z] at hn hr; exact h.rel _ _ _ he hn hr
  · by_cases z : j = i
    · subst z; rw [upd_self] at hn; cases hn
    · rw [upd_ne _ _ z] at hn; exact h.wt _ _ hn hj
theorem rJoin_drop {a c : Int} (ha : a ≠ i) (hc : c ≠ i) : upd (rJoin R a c) i none = rJoin (upd R i none) a c := by
  funext j
  by_cases z : j = i
  · subst z; rw [upd_self, rJoin_get, upd_self]; rfl
  · rw [upd_ne _ _ z, rJoin_get, rJoin_get, upd_ne _ _ z]
theorem rJoins_drop {a : Int} (ha : a ≠ i) : ∀ {l : List Int} {R : RT}, i ∉ l → upd (rJoins R a l) i none = rJoins (upd R i none) a l
  | [], _, _ => rfl
  | c :: l, R, h => by
    show upd (rJoins (rJoin R a c) a l) i none = rJoins (rJoin (upd R i none) a c) a l
    rw [rJoins_drop ha (fun q => h (.tail _ q)), rJoin_drop ha (fun z => h (z ▸ .head _))]
def rOver (R : RT) (name : Int) : Nat → Int → Option Bool
  | 0, _ => none
  | k + 1, a => if a = 0 then some false else match R a with
    | none => none
    | some r => if r.up = name then some true else rOver R name k r.up
theorem rOver_cyc (h : RndX W s E S R) (hE : ∀ j, ¬ E j) {name : Int} : ∀ {k : Nat} {a : Int} {cy : Bool}, a ≠ 0 → cyc S name k a = some cy → rOver R name (k + 1) a = some cy
  | 0, a, cy, h0, hc => by cases hc
  | k + 1, a, cy, h0, hc => by
    unfold cyc at hc
    unfold rOver
    rw [if_neg h0]
    cases hn : S a with
    | none => rw [hn] at hc; cases hc
    | some n =>
      obtain ⟨r, hr⟩ := h.get hn
      rw [hn] at hc; rw [hr]; dsimp only at hc ⊢
      have hup := (h.rel _ _ _ (hE a) hn hr).up
      cases hp : n.par with
      | none => rw [hp] at hc; cases hc
      | some p =>
        rw [hp] at hc hup; dsimp only at hc
        have hup : r.up = p := hup
        rw [hup]
        by_cases z : p = name
        · rw [if_pos z] at hc ⊢; exact hc
        · rw [if_neg z] at hc ⊢
          by_cases y : p = 0
          · rw [if_pos y] at hc; rw [y]; cases hc; unfold rOver; rw [if_pos rfl]
          · rw [if_neg y] at hc; exact rOver_cyc h hE y hc
def parN (N : ST) (b : Int) : ST := if (N b).isSome = true then N else pParB N b (.int b 0)
/-- what the law says of a deed -/
def rMove (R : RT) (name under : Int) (alone : Bool) : Option RT := match rOver R name 101 under, R name with
  | some ov, some r => match (if ov = true then (R under).map fun u => rJoin (rLeave R u.up under) r.up under else some R) with
    | none => none
    | some R₂ => some (rPlace (rLeave R₂ r.up name) under name alone)
  | _, _ => none
def rWants (R : RT) (kind name under : Int) (alone : Bool) : Option (Value × RT) :=
  if 6 ≤ kind then (match rTurn 20 R 0 with
    | some (t, R') => some (if t ≠ 0 then .int t 0 else .str (Str.ofString "deadlock") 0, R')
    | none => none)
  else if kind = 0 then
    (if (R name).isSome = true then some (.str (Str.ofString "duplicate") 0, R)
    else if name = under then some (.str (Str.ofString "loop") 0, R)
    else some (.str (Str.ofString "done") 0, rPlace (upd (rNeed R under) name (some ⟨0, true, [], []⟩)) under name alone))
  else if name = 0 then some (.str (Str.ofString "pseudo") 0, R)
  else match R name with
  | none => some (.str (Str.ofString "missing") 0, R)
  | some r =>
    if kind = 1 then (if name = under then some (.str (Str.ofString "loop") 0, R) else (rMove (rNeed R under) name under alone).map fun R' => (.str (Str.ofString "done") 0, R'))
    else if kind = 5 then some (.str (Str.ofString "done") 0, upd (rJoins (rLeave R r.up name) r.up (r.come ++ r.been)) name none)
    else some (.str (Str.ofString "done") 0, rmd R name fun r => { r with op := decide (2 < kind) })
def ask3 (N : ST) (kind name under W : Int) (ex : Bool) : Option (Value × ST) :=
  if 6 ≤ kind then (match sched 20 N 0 with
    | some (some v, N') => some (v, N')
    | some (none, N') => some (.str (Str.ofString "deadlock") 0, N')
    | none => none)
  else if kind = 0 then
    (if (N name).isSome = true then some (.str (Str.ofString "duplicate") 0, N)
    else if name = under then some (.str (Str.ofString "loop") 0, N)
    else some (.str (Str.ofString "done") 0, pPut (parN (pNew N name (.int name 0) (.int W 0)) under) under name ex))
  else if name = 0 then some (.str (Str.ofString "pseudo") 0, N)
  else match N name with
  | none => some (.str (Str.ofString "missing") 0, N)
  | some n =>
    if kind = 1 then (if name = under then some (.str (Str.ofString "loop") 0, N) else match (if under = 0 then some false else cyc (parN N under) name 100 under) with
      | none => none
      | some cy => (pRep (parN N under) name under (.int W 0) cy ex).map fun N' => (.str (Str.ofString "done") 0, N'))
    else if kind = 5 then (match n.par with
      | none => none
      | some b => some (.str (Str.ofString "done") 0, dropN (pRem N b name true) name))
    else some (.str (Str.ofString "done") 0, md N name fun n => { n with act := decide (2 < kind) })
/-! ### both sides -/
abbrev nE : Int → Prop := fun _ => False
theorem RndX.need (h : RndX W s E S R) {b : Int} (hb : b ≠ 0) (hW : (S b).isSome = false → W = 16) : RndX W s E (parN S b) (rNeed R b) := by
  unfold parN rNeed
  rw [← h.dom b]
  cases hS : (S b).isSome with
  | true => rw [if_pos rfl, if_pos rfl]; exact h
  | false =>
    rw [if_neg (by decide), if_neg (by decide)]
    have hW := hW hS
    subst hW
    have hb0 : (0 : Int) ≠ b := Ne.symm hb
    have h1 : RndX 16 s E (pParB S b (.int b 0)) (rmd (rJoin (upd R b (some ⟨0, true, [], []⟩)) 0 b) b fun r => { r with op := false }) := by
      unfold pParB
      exact RndX.md (f := fun n => { n with act := false }) (g := fun r => { r with op := false }) (RndX.join (h.new hb true rfl)) (fun n => ⟨rfl, rfl⟩) fun _ n r _ _ x => ⟨x.up, rfl, x.sq, x.q⟩
    have e : (rmd (rJoin (upd R b (some ⟨0, true, [], []⟩)) 0 b) b fun r => { r with op := false }) = rJoin (upd R b (some ⟨0, false, [], []⟩)) 0 b := by
      funext j
      by_cases z : j = b
      · subst z
        rw [rJoin_get, upd_self]
        have : rJoin (upd R j (some ⟨0, true, [], []⟩)) 0 j j = some { up := 0, op := true, come := if j = 0 then [j] else [], been := [] } := by
          rw [rJoin_get, upd_self]; simp
        rw [rmd_self this]; simp
      · rw [rmd_ne z, rJoin_get, rJoin_get, upd_ne _ _ z, upd_ne _ _ z]
    rw [← e]; exact h1
theorem rNeed_upd {b name : Int} {r : Row} (h0 : name ≠ 0) (hb : b ≠ name) : rNeed (upd R name (some r)) b = upd (rNeed R b) name (some r) := by
  unfold rNeed
  rw [upd_ne _ _ hb]
  cases hR : (R b).isSome with
  | true => rw [if_pos rfl, if_pos rfl]
  | false =>
    rw [if_neg (by decide), if_neg (by decide)]
    funext j
    rw [rJoin_get]
    by_cases z : j = name
    · subst z
      rw [upd_ne _ _ (Ne.symm hb), upd_self, upd_self]
      simp [h0, Ne.symm hb]
    · rw [upd_ne _ _ z, rJoin_get]
      by_cases y : j = b
      · subst y; rw [upd_self, upd_self]
      · rw [upd_ne _ _ y, upd_ne _ _ y, upd_ne _ _ z]
theorem SidI.parN (h : SidI S) {b : Int} : SidI (Mine.parN S b) := by
  unfold Mine.parN
  split
  · exact h
  · unfold pParB
    exact ((h.new).add).md fun _ => rfl
theorem WF.parN (h : WF ids none' S) {b : Int} (hb : b ∈ ids) (h0 : b ≠ 0) : WF ids none' (Mine.parN S b) := by
  unfold Mine.parN
  split
  · exact h
  · rename_i q
    have q : S b = none := by cases e : S b with
      | none => rfl
      | some n => rw [e] at q; exact (q rfl).elim
    exact h.parB hb q h0 fun _ _ z => z.elim
theorem parN_some {b : Int} (hS : (S b).isSome = true) : parN S b = S := by unfold parN; rw [if_pos hS]
theorem parN_dom {b j : Int} (hz : (S 0).isSome = true) : (parN S b j).isSome = ((S j).isSome || decide (j = b)) := by
  unfold parN
  cases hS : (S b).isSome with
  | true =>
    rw [if_pos rfl]
    by_cases z : j = b
    · subst z; rw [hS]; simp
    · simp [z]
  | false =>
    rw [if_neg (by decide)]
    unfold pParB
    rw [md_isSome]
    unfold pAdd
    rw [md_isSome, md_isSome]
    unfold pNew
    by_cases z : j = b
    · subst z; rw [upd_self]; simp
    · rw [upd_ne _ _ z]; simp [z]
end

/-! # Q3e -/

section
variable {W s : Int} {S : ST} {R : RT} {i : Int} {ids : List Int}
theorem md_same {f : Node → Node} (h : ∀ n, S i = some n → f n = n) : md S i f = S := by
  funext j
  cases e : S j with
  | none =>
    cases e' : md S i f j with
    | none => rfl
    | some n => obtain ⟨k, hk⟩ := md_dom.mp ⟨n, e'⟩; rw [e] at hk; cases hk
  | some n =>
    rw [md_get e]
    by_cases z : j = i
    · subst z; rw [if_pos rfl, h _ e]
    · rw [if_neg z]
theorem RndX.same_w (X : RndX W s nE S R) (hi : i ≠ 0) : Mine.md S i (fun n => { n with w := .int W 0 }) = S := md_same fun n hn => by
  have := (X.wt _ _ hn hi).1
  cases n; simp only at this; subst this; rfl
theorem WF.nd' (h : WF ids none' S) : ND S := fun j n hn => (h.qp _ _ hn).nodup_iff.mpr (h.nd _ _ hn)
theorem RndX.moveX {n : Node} {r : Row} {b : Int} {k : Nat} {ex : Bool} (X : RndX W s nE S R) (h : WF ids none' S) (hn : S i = some n) (hi : i ≠ 0) (hr : R i = some r) (ht : Top S (fun x => x = i) k b 0) :
    ∃ S', oMove S i b ex = some S' ∧ WF ids none' S' ∧ RndX W s nE S' (rPlace (rLeave R r.up i) b i ex) ∧ (SidI S → SidI S') := by
  obtain ⟨S', pi, e1, e2, e3, rfl⟩ := h.move (b := b) (ex := ex) hn hi ht
  have hup : r.up = pi := by
    have := (X.rel _ _ _ (fun q => q) hn hr).up
    rw [e3] at this; exact this
  have h1 := h.det hn hi (fun q => q) e3
  obtain ⟨⟨nb, hb⟩, _⟩ := Top.dom ht
  obtain ⟨nb', hb'⟩ : ∃ m, pRem S pi i false b = some m := pRem_dom.mpr ⟨nb, hb⟩
  refine ⟨_, e1, e2, ?_, fun q => (q.rem).put⟩
  rw [hup]
  exact X.leave.put (fun q => q) hb' (h1.qp _ _ hb')
theorem RndX.upX {n nb : Node} {r rb : Row} {b : Int} {k : Nat} (X : RndX W s nE S R) (h : WF ids none' S) (hn : S i = some n) (hi : i ≠ 0) (hb : S b = some nb) (hb0 : b ≠ 0) (hbi : b ≠ i) (hk : nb.kids = []) (hr : R i = some r) (hrb : R b = some rb) (ht : Top S (fun x => x = i) k b i) :
    ∃ S', oUp S i b = some S' ∧ WF ids none' S' ∧ RndX W s nE S' (rJoin (rLeave R rb.up b) r.up b) ∧ (∃ n', S' i = some n' ∧ n'.par = n.par) ∧ (∃ k', Top S' (fun x => x = i) k' b 0) ∧ (SidI S → SidI S') := by
  obtain ⟨S', pb, pi, e1, e2, ⟨n₄, e3, e4, _⟩, e5, e6, e7, rfl⟩ := h.up hn hi hb hb0 hbi hk ht
  have hup : r.up = pi := by
    have := (X.rel _ _ _ (fun q => q) hn hr).up
    rw [e6] at this; exact this
  have hub : rb.up = pb := by
    have := (X.rel _ _ _ (fun q => q) hb hrb).up
    rw [e7] at this; exact this
  have e : pRem S pb b true = pRem S pb b false := by
    unfold pRem
    rw [if_pos rfl, if_neg (by decide), hb]
    dsimp only
    rw [hk]; rfl
  refine ⟨_, e1, e2, ?_, ⟨n₄, e3, e4⟩, e5, fun q => (q.rem).add⟩
  rw [e, hup, hub]
  exact X.leave.join
theorem rLeave_get {p c j : Int} : rLeave R p c j = (R j).map fun r => if j = p then { r with come := r.come.filter (fun x => decide (x ≠ c)), been := r.been.filter fun x => decide (x ≠ c) } else r := by
  unfold rLeave
  cases e : R j with
  | none =>
    have : (rmd R p (fun r => { r with come := r.come.filter (fun x => decide (x ≠ c)), been := r.been.filter fun x => decide (x ≠ c) }) j).isSome = false := by rw [rmd_isSome, e]; rfl
    cases e' : rmd R p (fun r => { r with come := r.come.filter (fun x => decide (x ≠ c)), been := r.been.filter fun x => decide (x ≠ c) }) j with
    | none => rfl
    | some x => rw [e'] at this; cases this
  | some r => rw [rmd_get e]; rfl
theorem RndX.moved {name under : Int} {ex cy : Bool} {n nb : Node} (X : RndX W s nE S R) (h : WF ids none' S) (hids : ids.length < 20) (sd : SidI S) (hn : S name = some n) (h0 : name ≠ 0) (hb : S under = some nb) (hbn : under ≠ name)
    (hc : (cy = false ∧ under = 0) ∨ (under ≠ 0 ∧ cyc S name 100 under = some cy)) (hk : cy = true → nb.kids = []) :
    ∃ S' R', pRep S name under (.int W 0) cy ex = some S' ∧ rMove R name under ex = some R' ∧ WF ids none' S' ∧ RndX W s nE S' R' ∧ SidI S' := by
  obtain ⟨r, hr⟩ := X.get hn
  obtain ⟨rb, hrb⟩ := X.get hb
  unfold pRep rMove
  rw [X.same_w h0, hr]
  rcases hc with ⟨rfl, rfl⟩ | ⟨b0, hc⟩
  · have ho : rOver R name 101 0 = some false := by unfold rOver; rw [if_pos rfl]
    rw [ho, if_neg (by decide)]
    dsimp only
    rw [if_neg (by decide)]
    obtain ⟨S', e1, e2, e3, e4⟩ := X.moveX (b := 0) (ex := ex) (k := 0) h hn h0 hr ⟨rfl, .inl rfl, _, hb⟩
    exact ⟨S', _, e1, rfl, e2, e3, e4 sd⟩
  · obtain ⟨cy', e, hcy⟩ := h.cyc h0 hn hb b0 (by omega)
    rw [hc] at e; cases e
    rw [rOver_cyc X (fun _ q => q) b0 hc]
    cases cy with
    | false =>
      rw [if_neg (by decide)]
      dsimp only
      rw [if_neg (by decide)]
      obtain ⟨k', hk'⟩ := (hcy hbn).2 rfl
      obtain ⟨S', e1, e2, e3, e4⟩ := X.moveX (b := under) (ex := ex) h hn h0 hr hk'
      exact ⟨S', _, e1, rfl, e2, e3, e4 sd⟩
    | true =>
      rw [if_pos rfl]
      obtain ⟨k', hk'⟩ := (hcy hbn).1 rfl
      obtain ⟨S₄, e1, e2, e3, ⟨n₄, e5, e6⟩, ⟨k₂, e7⟩, e8⟩ := X.upX h hn h0 hb b0 hbn (hk rfl) hr hrb hk'
      rw [e1]
      dsimp only
      rw [if_pos rfl, hrb]
      dsimp only [Option.map_some]
      obtain ⟨r₄, hr₄⟩ := e3.get e5
      have hu4 : r₄.up = r.up := by rw [(e3.rel _ _ _ (fun q => q) e5 hr₄).up, e6, (X.rel _ _ _ (fun q => q) hn hr).up]
      obtain ⟨S', f1, f2, f3, f4⟩ := e3.moveX (b := under) (ex := ex) e2 e5 h0 hr₄ e7
      rw [hu4] at f3
      exact ⟨S', _, f1, rfl, f2, f3, f4 (e8 sd)⟩
def PlainA (a : Value) : Prop := (∃ t, a = .int t 0) ∨ ∃ t, a = .str t 0
theorem step3 (hW : 0 < W) (hs : W * s = 256) (hs0 : 0 < s) (X : RndX W s nE S R) (Wf : WF ids none' S) (hids : ids.length < 20) (sd : SidI S) {kind name under : Int} {ex : Bool} (hn : name ∈ ids) (hu : under ∈ ids)
    (hmiss : (S under).isSome = false → W = 16) (hleft : kind = 1 → name ≠ 0 → name ≠ under → under ≠ 0 → ∀ nu, S under = some nu → (S name).isSome = true → cyc S name 100 under = some true → nu.kids = []) :
    ∃ a S' R', ask3 S kind name under W ex = some (a, S') ∧ rWants R kind name under ex = some (a, R') ∧ RndX W s nE S' R' ∧ WF ids none' S' ∧ SidI S' ∧ PlainA a := by
  obtain ⟨n0, hn0, ha0, hp0⟩ := Wf.root
  have z0 : (S 0).isSome = true := by rw [hn0]; rfl
  unfold ask3 rWants
  by_cases k6 : 6 ≤ kind
  · rw [if_pos k6, if_pos k6]
    obtain ⟨r, S', hs', sh, wf'⟩ := Wf.turn hids
    obtain ⟨t, R', h1, h2, _, h3⟩ := sched_rnd hW hs hs0 (L := ids.length) 20 0 nE S R 0 n0 r S' (Wf.cn (by omega)) Wf.nd' sd ⟨rfl, .inl rfl, _, hn0⟩ hn0 X (fun _ q => q.elim) (by omega) hs'
    rw [hs', h1]
    rcases h3 with ⟨rfl, rfl⟩ | ⟨rfl, h3⟩
    · dsimp only
      rw [if_neg (by simp)]
      exact ⟨_, _, _, rfl, rfl, h2, wf', sh.sidI sd, .inr ⟨_, rfl⟩⟩
    · dsimp only
      rw [if_pos h3]
      exact ⟨_, _, _, rfl, rfl, h2, wf', sh.sidI sd, .inl ⟨_, rfl⟩⟩
  rw [if_neg k6, if_neg k6]
  by_cases k0 : kind = 0
  · rw [if_pos k0, if_pos k0, ← X.dom name]
    by_cases c1 : (S name).isSome = true
    · rw [if_pos c1, if_pos c1]
      exact ⟨_, _, _, rfl, rfl, X, Wf, sd, .inr ⟨_, rfl⟩⟩
    rw [if_neg c1, if_neg c1]
    by_cases c2 : name = under
    · rw [if_pos c2, if_pos c2]
      exact ⟨_, _, _, rfl, rfl, X, Wf, sd, .inr ⟨_, rfl⟩⟩
    rw [if_neg c2, if_neg c2]
    have hN : S name = none := by cases e : S name with
      | none => rfl
      | some n => rw [e] at c1; exact (c1 rfl).elim
    have n0' : name ≠ 0 := fun z => by rw [z, hn0] at hN; cases hN
    have X1 : RndX W s nE (pNew S name (.int name 0) (.int W 0)) (upd R name (some ⟨0, true, [], []⟩)) := X.new n0' true rfl
    have sd1 : SidI (pNew S name (.int name 0) (.int W 0)) := sd.new
    refine ⟨_, _, _, rfl, rfl, ?_, ?_, (sd1.parN).put, .inr ⟨_, rfl⟩⟩
    · rw [← rNeed_upd n0' (Ne.symm c2)]
      by_cases c3 : (S under).isSome = true
      · obtain ⟨nu, hnu⟩ := Option.isSome_iff_exists.mp c3
        have e1 : pNew S name (.int name 0) (.int W 0) under = some nu := (upd_ne _ _ (Ne.symm c2)).trans hnu
        have e2 : upd R name (some ⟨0, true, [], []⟩) under = R under := upd_ne _ _ (Ne.symm c2)
        rw [parN_some (by rw [e1]; rfl), show rNeed (upd R name (some ⟨0, true, [], []⟩)) under = upd R name (some ⟨0, true, [], []⟩) by unfold rNeed; rw [e2, ← X.dom under, c3, if_pos rfl]]
        exact X1.put (fun q => q) e1 (Wf.qp _ _ hnu)
      · have c3 : (S under).isSome = false := by simpa using c3
        have u0 : under ≠ 0 := fun z => by rw [z, z0] at c3; cases c3
        have e1 : (pNew S name (.int name 0) (.int W 0) under).isSome = false := by rw [show pNew S name (.int name 0) (.int W 0) under = S under from upd_ne _ _ (Ne.symm c2)]; exact c3
        have X2 := X1.need u0 fun _ => hmiss c3
        have h1 : WF ids (fun x => x = name) (pNew S name (.int name 0) (.int W 0)) := (Wf.new hn hN n0').congrD fun x => ⟨fun q => q.resolve_left id, .inr⟩
        have hNu : pNew S name (.int name 0) (.int W 0) under = none := by cases e : pNew S name (.int name 0) (.int W 0) under with
          | none => rfl
          | some n => rw [e] at e1; cases e1
        have h2 := h1.parB (dv := .int under 0) hu hNu u0 (fun x m hx hm hp => by
          subst hx; unfold pNew at hm; rw [upd_self] at hm; cases hm; cases hp)
        have e2 : parN (pNew S name (.int name 0) (.int W 0)) under = pParB (pNew S name (.int name 0) (.int W 0)) under (.int under 0) := by unfold parN; rw [if_neg (by rw [e1]; decide)]
        obtain ⟨nu, hnu⟩ : ∃ m, parN (pNew S name (.int name 0) (.int W 0)) under under = some m := by
          rw [e2]; unfold pParB; exact md_dom.mpr (pAdd_dom.mpr ⟨_, upd_self _ _ _⟩)
        exact X2.put (fun q => q) hnu (by rw [e2] at hnu; exact h2.qp _ _ hnu)
    · by_cases c3 : (S under).isSome = true
      · obtain ⟨nu, hnu⟩ := Option.isSome_iff_exists.mp c3
        have e1 : pNew S name (.int name 0) (.int W 0) under = some nu := (upd_ne _ _ (Ne.symm c2)).trans hnu
        rw [parN_some (by rw [e1]; rfl)]
        exact Wf.ins hn hN n0' hnu
      · have c3 : (S under).isSome = false := by simpa using c3
        have u0 : under ≠ 0 := fun z => by rw [z, z0] at c3; cases c3
        have hNu : pNew S name (.int name 0) (.int W 0) under = none := by
          rw [show pNew S name (.int name 0) (.int W 0) under = S under from upd_ne _ _ (Ne.symm c2)]
          cases e : S under with
          | none => rfl
          | some n => rw [e] at c3; cases c3
        have h1 : WF ids (fun x => x = name) (pNew S name (.int name 0) (.int W 0)) := (Wf.new hn hN n0').congrD fun x => ⟨fun q => q.resolve_left id, .inr⟩
        have h2 := h1.parB (dv := .int under 0) hu hNu u0 (fun x m hx hm hp => by
          subst hx; unfold pNew at hm; rw [upd_self] at hm; cases hm; cases hp)
        have e2 : parN (pNew S name (.int name 0) (.int W 0)) under = pParB (pNew S name (.int name 0) (.int W 0)) under (.int under 0) := by unfold parN; rw [if_neg (by rw [hNu]; decide)]
        rw [e2]
        obtain ⟨m0, hm0⟩ := h2.root
        obtain ⟨nu, hnu, hpu⟩ : ∃ m, pParB (pNew S name (.int name 0) (.int W 0)) under (.int under 0) under = some m ∧ m.par = some 0 := by
          unfold pParB
          refine ⟨_, md_get (pAdd_get' (upd_self _ _ _)), ?_⟩
          rw [if_pos rfl]
          dsimp only
          rw [if_pos rfl]
        exact h2.put0 (k := 1) ⟨u0, Ne.symm c2, nu, 0, hnu, hpu, rfl, .inl rfl, m0, hm0.1⟩
  rw [if_neg k0, if_neg k0]
  by_cases c1 : name = 0
  · rw [if_pos c1, if_pos c1]
    exact ⟨_, _, _, rfl, rfl, X, Wf, sd, .inr ⟨_, rfl⟩⟩
  rw [if_neg c1, if_neg c1]
  cases hS : S name with
  | none =>
    rw [X.gone hS]
    exact ⟨_, _, _, rfl, rfl, X, Wf, sd, .inr ⟨_, rfl⟩⟩
  | some n =>
    obtain ⟨r, hr⟩ := X.get hS
    rw [hr]
    dsimp only
    by_cases k1 : kind = 1
    · rw [if_pos k1, if_pos k1]
      by_cases c2 : name = under
      · rw [if_pos c2, if_pos c2]
        exact ⟨_, _, _, rfl, rfl, X, Wf, sd, .inr ⟨_, rfl⟩⟩
      rw [if_neg c2, if_neg c2]
      -- the parent
      obtain ⟨X1, W1, nb, hb, hpar⟩ : RndX W s nE (parN S under) (rNeed R under) ∧ WF ids none' (parN S under) ∧ ∃ nb, parN S under under = some nb ∧ ((S under).isSome = false → nb.kids = [] ∧ nb.par = some 0) := by
        by_cases c3 : (S under).isSome = true
        · obtain ⟨nu, hnu⟩ := Option.isSome_iff_exists.mp c3
          rw [parN_some c3, show rNeed R under = R by unfold rNeed; rw [← X.dom under, c3, if_pos rfl]]
          exact ⟨X, Wf, nu, hnu, fun q => by rw [c3] at q; cases q⟩
        · have c3' : (S under).isSome = false := by simpa using c3
          have u0 : under ≠ 0 := fun z => by rw [z, z0] at c3'; cases c3'
          refine ⟨X.need u0 hmiss, Wf.parN hu u0, ?_⟩
          have e2 : parN S under = pParB S under (.int under 0) := by unfold parN; rw [if_neg c3]
          rw [e2]
          unfold pParB
          refine ⟨_, md_get (pAdd_get' (upd_self _ _ _)), fun _ => ?_⟩
          rw [if_pos rfl]
          dsimp only
          rw [if_pos rfl, if_neg u0]
          exact ⟨rfl, rfl⟩
      have hn1 : ∃ n₁, parN S under name = some n₁ := by
        have := parN_dom (S := S) (b := under) (j := name) z0
        rw [hS] at this
        exact Option.isSome_iff_exists.mp this
      obtain ⟨n₁, hn1⟩ := hn1
      have nu0 : under = 0 → S under = some n0 := fun z => by rw [z]; exact hn0
      obtain ⟨cy, hcy, hk⟩ : ∃ cy, (if under = 0 then some false else cyc (parN S under) name 100 under) = some cy ∧ (cy = true → nb.kids = []) ∧ ((cy = false ∧ under = 0) ∨ (under ≠ 0 ∧ cyc (parN S under) name 100 under = some cy)) := by
        by_cases u0 : under = 0
        · exact ⟨false, by rw [if_pos u0], fun q => (nomatch q), .inl ⟨rfl, u0⟩⟩
        · obtain ⟨cy, e, _⟩ := W1.cyc c1 hn1 hb u0 (by omega)
          refine ⟨cy, by rw [if_neg u0]; exact e, fun q => ?_, .inr ⟨u0, e⟩⟩
          subst q
          by_cases c3 : (S under).isSome = true
          · rw [parN_some c3] at e hb
            exact hleft k1 c1 c2 u0 nb hb (by rw [hS]; rfl) e
          · exact (hpar (by simpa using c3)).1
      rw [hcy]
      dsimp only
      obtain ⟨S', R', e1, e2, e3, e4, e5⟩ := X1.moved (ex := ex) W1 hids sd.parN hn1 c1 hb (Ne.symm c2) hk.2 hk.1
      rw [e1, e2]
      exact ⟨_, _, _, rfl, rfl, e4, e3, e5, .inr ⟨_, rfl⟩⟩
    rw [if_neg k1, if_neg k1]
    by_cases k5 : kind = 5
    · rw [if_pos k5, if_pos k5]
      obtain ⟨b, nb, e1, e2, e3, e4, e5, e6⟩ := Wf.out hS c1
      rw [e1]
      have hub : r.up = b := by
        have := (X.rel _ _ _ (fun q => q) hS hr).up
        rw [e1] at this; exact this
      have ik : name ∉ n.kids := fun q => by
        obtain ⟨_, _, k, hk, hkp⟩ := (Wf.kd _ _ _ hS).mp q
        rw [hS] at hk; cases hk
        rw [e1] at hkp; cases hkp
        exact e3 rfl
      have pk := (X.rel _ _ _ (fun q => q) hS hr).kids (Wf.qp _ _ hS)
      refine ⟨_, _, _, rfl, rfl, ?_, e6, (sd.rem).drop, .inr ⟨_, rfl⟩⟩
      rw [e5, hub, rJoins_drop e3 (fun q => ik (pk.mem_iff.mpr q))]
      exact (X.leave.dropX).joinsP pk
    rw [if_neg k5, if_neg k5]
    refine ⟨_, _, _, rfl, rfl, ?_, Wf.md (fun _ => ⟨rfl, rfl, rfl⟩) (fun z => (c1 z).elim), sd.md fun _ => rfl, .inr ⟨_, rfl⟩⟩
    exact RndX.md (f := fun n => { n with act := decide (2 < kind) }) (g := fun r => { r with op := decide (2 < kind) }) X (fun _ => ⟨rfl, rfl⟩) fun _ n r _ _ x => ⟨x.up, rfl, x.sq, x.q⟩
end

/-! # T3a -/
set_option maxRecDepth 100000

section
variable {prog : Program} {w : World} {p : Program} {loose : List Str} {mean : ExcName → Option Value} {mg mb : Str → Option Value}
variable {A : Around} {B : Base} {fs : List (Env × LM)} {σ σ' : AH} {Q : Value → AH → Prop} {X : Value → Bool → AH → Prop}
variable {fe env : Env} {es : List Env} {u : Nat} {m : LM}
/-! ## law 3's table -/
def K3 : RK Row where
  nl := 2
  ls := fun k r => iv (if k = 0 then r.come else r.been)
  fd := fun l r => [(.str "up" 0, .int r.up 0), (.str "open" 0, .bool r.op), (.str "come" 0, .ref (l 0)), (.str "been" 0, .ref (l 1))]
section
variable {l : Nat → Addr} {r : Row}
theorem g3_up : dget (K3.fd l r) (.s "up") = some (.int r.up 0) := rfl
theorem g3_open : dget (K3.fd l r) (.s "open") = some (.bool r.op) := rfl
theorem g3_come : dget (K3.fd l r) (.s "come") = some (.ref (l 0)) := rfl
theorem g3_been : dget (K3.fd l r) (.s "been") = some (.ref (l 1)) := rfl
theorem s3_up {v : Int} : dset (.s "up") (.str "up" 0) (.int v 0) (K3.fd l r) = K3.fd l { r with up := v } := rfl
theorem s3_open {b : Bool} : dset (.s "open") (.str "open" 0) (.bool b) (K3.fd l r) = K3.fd l { r with op := b } := rfl
theorem s3_come {a : Addr} : dset (.s "come") (.str "come" 0) (.ref a) (K3.fd l r) = K3.fd (fun k => if k = 0 then a else l k) r := rfl
theorem s3_been {a : Addr} : dset (.s "been") (.str "been" 0) (.ref a) (K3.fd l r) = K3.fd (fun k => if k = 1 then a else l k) r := rfl
end
section
variable {g : RG} {D : Addr} {R : RT} {len : Nat} {i : Int} {r : Row}
theorem rmd_some {f : Row → Row} (h : R i = some r) : rmd R i f = upd R i (some (f r)) := by unfold rmd; rw [h]; rfl
theorem Tab.lra (h : Tab K3 g D R len σ) (hi : R i = some r) {j : Int} {q : Row} {k : Nat} (hj : R j = some q) (hk : k < 2) : g.rl k j ≠ g.ra i := fun y => by
  have := h.lst _ _ _ hj hk; rw [y, h.row _ _ hi] at this; cases this
/-- a field of a row -/
theorem Tab.field (h : Tab K3 g D R len σ) (hi : R i = some r) {f : Row → Row} {l : List (Value × Value)} (hf : (f r).come = r.come ∧ (f r).been = r.been) (hl : l = K3.fd (fun k => g.rl k i) (f r)) : TabS K3 g D R σ g (rmd R i f) len (upd σ (g.ra i) (some (.dict l))) := by
  subst hl
  rw [rmd_some hi]
  refine h.put hi rfl (fun _ _ _ => rfl) (fun a c e n _ => (upd_ne _ _ n).trans e) (upd_self _ _ _) (fun k hk => (upd_ne _ _ (h.lra hi hi hk)).trans ?_) (fun _ _ => .inl rfl) fun k l hk hl y => (h.il _ _ _ _ _ _ hi hi hk hl y).1
  rw [h.lst _ _ _ hi hk]
  show _ = some (Cell.seq "list" (iv (if k = 0 then (f r).come else (f r).been)))
  rw [hf.1, hf.2]; rfl
/-- one more in a list -/
theorem Tab.come (h : Tab K3 g D R len σ) (hi : R i = some r) {x : Int} : TabS K3 g D R σ g (rmd R i fun r => { r with come := r.come ++ [x] }) len (upd σ (g.rl 0 i) (some (.seq "list" (iv r.come ++ [.int x 0])))) := by
  rw [rmd_some hi]
  refine h.put hi rfl (fun _ _ _ => rfl) (fun a c e _ n => (upd_ne _ _ (n 0 (by decide))).trans e) ((upd_ne _ _ (Ne.symm (h.lra hi hi (by decide)))).trans (by have := h.row _ _ hi; exact this)) (fun k hk => ?_) (fun _ _ => .inl rfl) fun k l hk hl y => (h.il _ _ _ _ _ _ hi hi hk hl y).1
  by_cases z : k = 0
  · subst z
    rw [upd_self]
    show _ = some (Cell.seq "list" (iv (r.come ++ [x])))
    unfold iv; rw [List.map_append]; rfl
  · rw [upd_ne _ _ (fun y => z (h.il _ _ _ _ _ _ hi hi hk (by decide) y).1), h.lst _ _ _ hi hk]
    show some (Cell.seq "list" (iv (if k = 0 then _ else _))) = some (Cell.seq "list" (iv (if k = 0 then _ else _)))
    rw [if_neg z, if_neg z]
theorem iv_length {l : List Int} : (iv l).length = l.length := by unfold iv; rw [List.length_map]
theorem iv_app {l k : List Int} : iv (l ++ k) = iv l ++ iv k := by unfold iv; rw [List.map_append]
theorem rmd_dom {f : Row → Row} {j : Int} {q : Row} (h : R j = some q) : ∃ q', rmd R i f j = some q' := ⟨_, rmd_get h⟩
theorem k3_join {name under : Int} {rn ru : Row} (O : Ok (mkW prog w p loose mean mg mb) A B (fs.map (·.1)) 0) (hsh : fs.length < 58) (h : Tab K3 g D R len σ) (hn : R name = some rn) (hu : R under = some ru) (hz : ru.come.length < 900)
    (hq : ∀ σ', TabS K3 g D R σ g (rJoin R under name) len σ' → Q .none σ') : CallR (mkW prog w p loose mean mg mb) A B fs (.ref a_law_join) [.ref D, .int under 0, .int name 0] [] σ Q X := by
  refine CallR.go O (by omega) (by rfl) (by kernel_rfl) (binds3 (p1 := "rows") (p2 := "under") (p3 := "name") (by intro _ _ _; rfl)) rfl fun L A' O' hA' => ?_
  walk_at "ss"
  obtain ⟨l, h1, h2⟩ := h.get hn
  refine op_itemDict O'.g h1 (k := .n name) rfl h2 ?_
  walk_at "ss"
  refine op_setDict O'.g (h.row _ _ hn) (k := .s "up") rfl (by show 4 ≤ 10000; decide) ?_
  have S₁ := h.field hn (f := fun r => { r with up := under }) ⟨rfl, rfl⟩ s3_up
  generalize upd σ (g.ra name) _ = σ₁ at S₁ ⊢
  have hu₁ := rmd_get (i := name) (f := fun r => { r with up := under }) hu
  obtain ⟨ru₁, hr₁, hc₁⟩ : ∃ q, rmd R name (fun r => { r with up := under }) under = some q ∧ q.come = ru.come := ⟨_, hu₁, by split <;> rfl⟩
  walk_at "ss"
  obtain ⟨l', g1, g2⟩ := S₁.1.get hr₁
  refine op_itemDict O'.g g1 (k := .n under) rfl g2 ?_
  walk_at "ss"
  refine op_itemDict O'.g (S₁.1.row _ _ hr₁) (k := .s "come") rfl g3_come ?_
  have hl := S₁.1.lst _ _ 0 hr₁ (by decide)
  refine op_methList PySem.F.slot_list_append PySem.F.type_list_append hl ?_
  walk_at "ss"
  refine call_append (v := .int name 0) hl (by show (iv ru₁.come).length ≤ _; rw [iv_length, hc₁]; omega) ?_
  refine ⟨trivial, ?_⟩
  have S₂ := S₁.1.come hr₁ (x := name)
  walk_at "ss"
  exact hq _ (S₁.then S₂ fun j q e => rmd_dom e)
end
end

/-! # T3b -/
set_option maxRecDepth 100000

section
variable {prog : Program} {w : World} {p : Program} {loose : List Str} {mean : ExcName → Option Value} {mg mb : Str → Option Value}
variable {A : Around} {B : Base} {fs : List (Env × LM)} {σ σ' : AH} {Q : Value → AH → Prop} {X : Value → Bool → AH → Prop}
variable {fe env : Env} {es : List Env} {u : Nat} {m : LM}
section
variable {g : RG} {D : Addr} {R : RT} {len : Nat} {i : Int} {r : Row}
def setG (g : RG) (k : Nat) (i : Int) (a : Addr) : RG := { g with rl := fun k' j => if k' = k ∧ j = i then a else g.rl k' j }
theorem Tab.setCome (h : Tab K3 g D R len σ) (hi : R i = some r) {τ : AH} {a : Addr} {l : List Int} (kp : ∀ a c, σ a = some c → τ a = some c) (ha : σ a = none) (hl : τ a = some (.seq "list" (iv l))) :
    TabS K3 g D R σ (setG g 0 i a) (rmd R i fun r => { r with come := l }) len (upd τ (g.ra i) (some (.dict (dset (.s "come") (.str "come" 0) (.ref a) (K3.fd (fun k => g.rl k i) r))))) := by
  rw [rmd_some hi]
  have ne : a ≠ g.ra i := fun y => by rw [y, h.row _ _ hi] at ha; cases ha
  have nl : ∀ k, k < 2 → a ≠ g.rl k i := fun k hk y => by rw [y, h.lst _ _ _ hi hk] at ha; cases ha
  refine h.put hi rfl (fun k j hj => by unfold setG; dsimp only; rw [if_neg fun q => hj q.2]) (fun b c e n _ => (upd_ne _ _ n).trans (kp _ _ e)) ?_ (fun k hk => ?_) (fun k hk => ?_) fun k k' hk hk' y => ?_
  · rw [upd_self, s3_come]
    show some (Cell.dict [_, _, _, _]) = some (Cell.dict [_, _, _, _])
    simp [setG]
  · unfold setG; dsimp only
    by_cases z : k = 0
    · subst z
      rw [if_pos ⟨rfl, rfl⟩, upd_ne _ _ ne, hl]; rfl
    · rw [if_neg fun q => z q.1, upd_ne _ _ (h.lra hi hi hk), kp _ _ (h.lst _ _ _ hi hk)]
      have hk : k < 2 := hk
      obtain rfl : k = 1 := by omega
      rfl
  · unfold setG; dsimp only
    by_cases z : k = 0
    · rw [if_pos ⟨z, rfl⟩]; exact .inr ha
    · rw [if_neg fun q => z q.1]; exact .inl rfl
  · unfold setG at y; dsimp only at y
    by_cases z : k = 0
    · by_cases z' : k' = 0
      · rw [z, z']
      · rw [if_pos ⟨z, rfl⟩, if_neg fun q => z' q.1] at y; exact absurd y (nl _ hk')
    · by_cases z' : k' = 0
      · rw [if_neg (fun q => z q.1), if_pos ⟨z', rfl⟩] at y; exact absurd y.symm (nl _ hk)
      · rw [if_neg (fun q => z q.1), if_neg fun q => z' q.1] at y; exact (h.il _ _ _ _ _ _ hi hi hk hk' y).1
theorem Tab.setBeen (h : Tab K3 g D R len σ) (hi : R i = some r) {τ : AH} {a : Addr} {l : List Int} (kp : ∀ a c, σ a = some c → τ a = some c) (ha : σ a = none) (hl : τ a = some (.seq "list" (iv l))) :
    TabS K3 g D R σ (setG g 1 i a) (rmd R i fun r => { r with been := l }) len (upd τ (g.ra i) (some (.dict (dset (.s "been") (.str "been" 0) (.ref a) (K3.fd (fun k => g.rl k i) r))))) := by
  rw [rmd_some hi]
  have ne : a ≠ g.ra i := fun y => by rw [y, h.row _ _ hi] at ha; cases ha
  have nl : ∀ k, k < 2 → a ≠ g.rl k i := fun k hk y => by rw [y, h.lst _ _ _ hi hk] at ha; cases ha
  refine h.put hi rfl (fun k j hj => by unfold setG; dsimp only; rw [if_neg fun q => hj q.2]) (fun b c e n _ => (upd_ne _ _ n).trans (kp _ _ e)) ?_ (fun k hk => ?_) (fun k hk => ?_) fun k k' hk hk' y => ?_
  · rw [upd_self, s3_been]
    show some (Cell.dict [_, _, _, _]) = some (Cell.dict [_, _, _, _])
    simp [setG]
  · unfold setG; dsimp only
    by_cases z : k = 1
    · subst z
      rw [if_pos ⟨rfl, rfl⟩, upd_ne _ _ ne, hl]; rfl
    · rw [if_neg fun q => z q.1, upd_ne _ _ (h.lra hi hi hk), kp _ _ (h.lst _ _ _ hi hk)]
      have hk : k < 2 := hk
      obtain rfl : k = 0 := by omega
      rfl
  · unfold setG; dsimp only
    by_cases z : k = 1
    · rw [if_pos ⟨z, rfl⟩]; exact .inr ha
    · rw [if_neg fun q => z q.1]; exact .inl rfl
  · unfold setG at y; dsimp only at y
    by_cases z : k = 1
    · by_cases z' : k' = 1
      · rw [z, z']
      · rw [if_pos ⟨z, rfl⟩, if_neg fun q => z' q.1] at y; exact absurd y (nl _ hk')
    · by_cases z' : k' = 1
      · rw [if_neg (fun q => z q.1), if_pos ⟨z', rfl⟩] at y; exact absurd y.symm (nl _ hk)
      · rw [if_neg (fun q => z q.1), if_neg fun q => z' q.1] at y; exact (h.il _ _ _ _ _ _ hi hi hk hk' y).1
/-- all but one name -/
def notN (name : Int) : Value → Option Value
  | .int x t => if x = name then none else some (.int x t)
  | v => some v
theorem iv_notN {name : Int} : ∀ {l : List Int}, (iv l).filterMap (notN name) = iv (l.filter fun x => decide (x ≠ name))
  | [] => rfl
  | x :: l => by
    show (Value.int x 0 :: iv l).filterMap (notN name) = _
    by_cases z : x = name
    · rw [List.filterMap_cons_none (by simp [notN, z]), List.filter_cons_of_neg (by simp [z])]; exact iv_notN
    · rw [List.filterMap_cons_some (by simp [notN, z]; rfl), List.filter_cons_of_pos (by simp [z]), iv_notN]; rfl
theorem iv_get {l : List Int} {k : Nat} {v : Value} (h : (iv l)[k]? = some v) : ∃ x, v = .int x 0 ∧ l[k]? = some x := by
  unfold iv at h
  rw [List.getElem?_map] at h
  obtain ⟨x, hx, e⟩ := Option.map_eq_some_iff.mp h
  exact ⟨x, e.symm, hx⟩
local macro_rules | `(tactic| walk_at "x") => `(tactic| with_reducible (refine is_name ?_; refine t_CompName (by with_unfolding_all exact upd_self _ _ _) (by assumption) ?_))
local macro_rules | `(tactic| walk_at "x") => `(tactic| with_reducible (refine is_name ?_; refine t_CellName (by with_unfolding_all rfl) (by assumption) ?_))
theorem k3_leave {name : Int} {rn ru : Row} (O : Ok (mkW prog w p loose mean mg mb) A B (fs.map (·.1)) 0) (hsh : fs.length < 58) (Hd : HdOk A B) (h : Tab K3 g D R len σ) (hn : R name = some rn) (hu : R rn.up = some ru) (hz : ru.come.length < 900 ∧ ru.been.length < 900)
    (hq : ∀ g' σ', TabS K3 g D R σ g' (rLeave R rn.up name) len σ' → Q .none σ') : CallR (mkW prog w p loose mean mg mb) A B fs (.ref a_law_leave) [.ref D, .int name 0] [] σ Q X := by
  refine CallR.goC O (by omega) (by rfl) (by kernel_rfl) (binds2 (p1 := "rows") (p2 := "name") (by intro _ _; rfl)) ?_ fun L A' σ₁ O' hA' k₁ c₁ b₁ => ?_
  · intro n x hx
    rcases List.mem_cons.mp hx with rfl | hx
    · exact .inl rfl
    rcases List.mem_cons.mp hx with rfl | hx
    · exact .inr ⟨rfl, rfl⟩
    cases hx
  have Hd' : HdOk A' B := Hd.same hA'
  have hnm : σ₁ _ = some (PyC (some (.int name 0))) := (c₁ (Str.ofString "name") _ rfl).1
  have S₁ := h.keep k₁
  walk_at "ss"
  obtain ⟨l, h1, h2⟩ := S₁.1.get hn
  refine op_itemDict O'.g h1 (k := .n name) rfl h2 ?_
  walk_at "ss"
  refine op_itemDict O'.g (S₁.1.row _ _ hn) (k := .s "up") rfl g3_up ?_
  obtain ⟨l', g1, g2⟩ := S₁.1.get hu
  refine op_itemDict O'.g g1 (k := .n rn.up) rfl g2 ?_
  walk_at "ss"
  have nf : ¬ footR K3 g D R (L + 1) := h.offD (c₁ (Str.ofString "name") _ rfl).2
  refine t_ListCompPure Hd' (by with_unfolding_all rfl) (by decide) (by with_unfolding_all rfl) (by decide) (by with_unfolding_all rfl) ?_
  walk_at "ss"
  refine op_itemDict O'.g (S₁.1.row _ _ hu) (k := .s "come") rfl g3_come ?_
  refine ⟨g.rl 0 rn.up, iv ru.come, notN name, rfl, S₁.1.lst _ _ 0 hu (by decide), by rw [iv_length]; omega, fun B' hB' H' C i v mm hv hC hm => ?_, fun a1 ha1 => ?_⟩
  · obtain ⟨x, rfl, hx⟩ := iv_get hv
    have hc : upd σ₁ C (some (NsC mm)) (L + 1) = some (PyC (some (.int name 0))) := (upd_ne _ _ fun z => by rw [← z, hnm] at hC; cases hC).trans hnm
    refine comp_one ?_
    walk_at "ss"
    refine op_ne (op_truthy_bool ⟨rfl, fun c => ?_, fun c => ?_⟩)
    · have c : x ≠ name := by simpa using c
      intro B₂ hB₂
      walk_at "ss"
      exact ⟨rfl, by simp [notN, c], rfl⟩
    · have c : x = name := by simpa using c
      exact ⟨by simp [notN, c], rfl⟩
  rw [iv_notN]
  have kp₁ : ∀ b c, σ₁ b = some c → upd σ₁ a1 (some (.seq "list" (iv (ru.come.filter fun x => decide (x ≠ name))))) b = some c := fun b c e => (upd_ne _ _ fun z => by rw [z, ha1] at e; cases e).trans e
  have S₂ := S₁.1.setCome hu kp₁ ha1 (upd_self _ _ _)
  walk_at "ss"
  refine op_setDict O'.g (kp₁ _ _ (S₁.1.row _ _ hu)) (k := .s "come") rfl (by show 4 ≤ 10000; decide) ?_
  have hnm₂ := S₂.2.1.1 _ _ hnm nf
  have nf₂ : ¬ footR K3 (setG g 0 rn.up a1) D (rmd R rn.up fun r => { r with come := ru.come.filter fun x => decide (x ≠ name) }) (L + 1) := fun q => (S₂.2.1.2 _ q).elim nf fun z => by rw [hnm] at z; cases z
  have hu₂ := rmd_self (f := fun r => { r with come := ru.come.filter fun x => decide (x ≠ name) }) hu
  have hr2 : (setG g 0 rn.up a1).ra rn.up = g.ra rn.up := rfl
  rw [← hr2] at S₂ hnm₂ ⊢
  have eR : rLeave R rn.up name = rmd (rmd R rn.up fun r => { r with come := ru.come.filter fun x => decide (x ≠ name) }) rn.up fun r => { r with been := ru.been.filter fun x => decide (x ≠ name) } := by
    funext j
    rw [rLeave_get, rmd_rmd_get]
    by_cases z : j = rn.up
    · subst z; rw [hu]; simp
    · simp [z]
  rw [eR] at hq
  clear eR
  generalize hR2 : (rmd R rn.up fun r => { r with come := ru.come.filter fun x => decide (x ≠ name) }) = R₂ at S₂ hu₂ nf₂ hq
  generalize setG g 0 rn.up a1 = g₂ at S₂ hnm₂ nf₂ ⊢
  have hdom : ∀ j q, R j = some q → ∃ q', R₂ j = some q' := fun j q e => by rw [← hR2]; exact rmd_dom e
  generalize upd _ (g₂.ra rn.up) _ = σ₂ at S₂ hnm₂ ⊢
  walk_at "ss"
  refine t_ListCompPure Hd' (by with_unfolding_all rfl) (by decide) (by with_unfolding_all rfl) (by decide) (by with_unfolding_all rfl) ?_
  walk_at "ss"
  refine op_itemDict O'.g (S₂.1.row _ _ hu₂) (k := .s "been") rfl g3_been ?_
  refine ⟨g₂.rl 1 rn.up, iv ru.been, notN name, rfl, (by have := S₂.1.lst _ _ 1 hu₂ (by decide); exact this), by rw [iv_length]; omega, fun B' hB' H' C i v mm hv hC hm => ?_, fun a2 ha2 => ?_⟩
  · obtain ⟨x, rfl, hx⟩ := iv_get hv
    have hc : upd σ₂ C (some (NsC mm)) (L + 1) = some (PyC (some (.int name 0))) := (upd_ne _ _ fun z => by rw [← z, hnm₂] at hC; cases hC).trans hnm₂
    refine comp_one ?_
    walk_at "ss"
    refine op_ne (op_truthy_bool ⟨rfl, fun c => ?_, fun c => ?_⟩)
    · have c : x ≠ name := by simpa using c
      intro B₂ hB₂
      walk_at "ss"
      exact ⟨rfl, by simp [notN, c], rfl⟩
    · have c : x = name := by simpa using c
      exact ⟨by simp [notN, c], rfl⟩
  rw [iv_notN]
  have kp₂ : ∀ b c, σ₂ b = some c → upd σ₂ a2 (some (.seq "list" (iv (ru.been.filter fun x => decide (x ≠ name))))) b = some c := fun b c e => (upd_ne _ _ fun z => by rw [z, ha2] at e; cases e).trans e
  have S₃ := S₂.1.setBeen hu₂ kp₂ ha2 (upd_self _ _ _)
  walk_at "ss"
  refine op_setDict O'.g (kp₂ _ _ (S₂.1.row _ _ hu₂)) (k := .s "been") rfl (by show 4 ≤ 10000; decide) ?_
  walk_at "ss"
  exact .all (hq _ _ ((S₁.then S₂ fun j q e => ⟨q, e⟩).then S₃ fun j q e => (hdom j q e)))
end
end

/-! # T3c -/
set_option maxRecDepth 100000

section
variable {prog : Program} {w : World} {p : Program} {loose : List Str} {mean : ExcName → Option Value} {mg mb : Str → Option Value}
variable {A : Around} {B : Base} {fs : List (Env × LM)} {σ σ' : AH} {Q : Value → AH → Prop} {X : Value → Bool → AH → Prop}
variable {fe env : Env} {es : List Env} {u : Nat} {m : LM}
section
variable {g : RG} {D : Addr} {R : RT} {len : Nat} {i : Int} {r : Row}
/-- a new row, written out -/
theorem t_rowLit {W : Wd} {op : Bool} {k1 k2 k3 k4 k5 k6 : Nat} {p1 p2 p3 p4 p5 p6 p7 p8 p9 : Pos} {Q : Value → LM → AH → Prop} {X : Value → Bool → LM → AH → Prop} (O : Ok W A B es u)
    (h : ∀ d a b τ, σ d = none → σ a = none → σ b = none → a ≠ b → (∀ x c, σ x = some c → τ x = some c) → τ d = some (.dict (K3.fd (fun k => if k = 0 then a else b) ⟨0, op, [], []⟩)) → τ a = some (.seq "list" []) → τ b = some (.seq "list" []) → Q (.ref d) m τ) :
    TrV W A B fe fs (eval (.Dict [some (.Constant (.str "up") k1 p1), some (.Constant (.str "open") k2 p2), some (.Constant (.str "come") k3 p3), some (.Constant (.str "been") k4 p4)] [.Constant (.int 0) k5 p5, .Constant (.bool op) k6 p6, .List [] p7, .List [] p8] p9) env) m σ Q X := by
  with_reducible refine t_DictP O (fun d hd => ?_) (hlen := by with_unfolding_all exact (by decide : 4 ≤ 15))
  refine p_cons ?_
  walk_at "ss"
  refine p_cons ?_
  walk_at "ss"
  refine p_cons ?_
  walk_at "ss"
  refine ⟨by decide, fun a ha => ?_⟩
  refine p_cons ?_
  walk_at "ss"
  refine ⟨by decide, fun b hb => ?_⟩
  refine p_nil ?_
  have nn : ∀ {τ : AH} {a b : Addr} {c : Cell}, upd τ a (some c) b = none → b ≠ a ∧ τ b = none := fun {τ a b c} h => by
    by_cases z : b = a
    · subst z; rw [upd_self] at h; cases h
    · rw [upd_ne _ _ z] at h; exact ⟨z, h⟩
  obtain ⟨ad, ha⟩ := nn ha
  obtain ⟨ba, hb⟩ := nn hb
  obtain ⟨bd, hb⟩ := nn hb
  refine ⟨?_, rfl, by simp, ?_⟩
  · rw [upd_ne _ _ (Ne.symm bd), upd_ne _ _ (Ne.symm ad), upd_self]
  refine h d a b _ hd ha hb (Ne.symm ba) (fun x c e => ?_) (by rw [upd_self]; rfl) ?_ ?_
  · have xd : x ≠ d := fun z => by rw [z, hd] at e; cases e
    have xa : x ≠ a := fun z => by rw [z, ha] at e; cases e
    have xb : x ≠ b := fun z => by rw [z, hb] at e; cases e
    rw [upd_ne _ _ xd, upd_ne _ _ xb, upd_ne _ _ xa, upd_ne _ _ xd]; exact e
  · rw [upd_ne _ _ ad, upd_ne _ _ (Ne.symm ba), upd_self]
  · rw [upd_ne _ _ bd, upd_self]
local macro_rules | `(tactic| walk_at "x") => `(tactic| with_reducible (refine is_dict ?_; refine t_rowLit (by assumption) ?_))
def newG (g : RG) (i : Int) (d a b : Addr) : RG := { ra := upd g.ra i d, rl := fun k j => if j = i then (if k = 0 then a else b) else g.rl k j }
theorem Tab.new3 (h : Tab K3 g D R len σ) (hi : R i = none) {l : List (Value × Value)} {d a b : Addr} {τ : AH} {op : Bool} (hl : σ D = some (.dict l)) (hz : len < 1000) (hd : σ d = none) (ha : σ a = none) (hb : σ b = none) (hab : a ≠ b)
    (kp : ∀ x c, σ x = some c → τ x = some c) (h1 : τ d = some (.dict (K3.fd (fun k => if k = 0 then a else b) ⟨0, op, [], []⟩))) (h2 : τ a = some (.seq "list" [])) (h3 : τ b = some (.seq "list" [])) :
    TabS K3 g D R σ (newG g i d a b) (upd R i (some ⟨0, op, [], []⟩)) (len + 1) (upd τ D (some (.dict (dset (.n i) (.int i 0) (.ref d) l)))) := by
  have ne : ∀ {x : Addr}, σ x = none → x ≠ D := fun e z => by rw [z, hl] at e; cases e
  have e0 : ∀ k, (newG g i d a b).rl k i = if k = 0 then a else b := fun k => by unfold newG; dsimp only; rw [if_pos rfl]
  refine h.new (key := .int i 0) hi hl rfl hz (fun j hj => upd_ne _ _ hj) (fun k j hj => by unfold newG; dsimp only; rw [if_neg hj]) (fun x c e n => (upd_ne _ _ n).trans (kp _ _ e)) ?_ ?_ (fun k hk => ?_) ?_ (fun k hk => ?_) fun k k' hk hk' y => ?_
  · rw [upd_self]; unfold newG; dsimp only; rw [upd_self]
  · have : (newG g i d a b).ra i = d := upd_self _ _ _
    rw [this, upd_ne _ _ (ne hd), h1]
    have : (fun k => (newG g i d a b).rl k i) = fun k => if k = 0 then a else b := funext e0
    rw [this]
  · rw [e0]
    have hk : k < 2 := hk
    by_cases z : k = 0
    · subst z; rw [if_pos rfl, upd_ne _ _ (ne ha), h2]; rfl
    · obtain rfl : k = 1 := by omega
      rw [if_neg (by decide), upd_ne _ _ (ne hb), h3]; rfl
  · have : (newG g i d a b).ra i = d := upd_self _ _ _
    rw [this]; exact hd
  · rw [e0]; split <;> assumption
  · rw [e0, e0] at y
    have hk : k < 2 := hk
    have hk' : k' < 2 := hk'
    by_cases z : k = 0 <;> by_cases z' : k' = 0
    · rw [z, z']
    · rw [if_pos z, if_neg z'] at y; exact absurd y hab
    · rw [if_neg z, if_pos z'] at y; exact absurd y.symm hab
    · omega
theorem k3_need {under : Int} {r0 : Row} (O : Ok (mkW prog w p loose mean mg mb) A B (fs.map (·.1)) 0) (hsh : fs.length < 56) (h : Tab K3 g D R len σ) (h0 : R 0 = some r0) (hz : r0.come.length < 900) (hlen : len < 900)
    (hq : ∀ g' len' σ', len' ≤ len + 1 → TabS K3 g D R σ g' (rNeed R under) len' σ' → Q .none σ') : CallR (mkW prog w p loose mean mg mb) A B fs (.ref a_law_need) [.ref D, .int under 0] [] σ Q X := by
  refine CallR.go O (by omega) (by rfl) (by kernel_rfl) (binds2 (p1 := "rows") (p2 := "under") (by intro _ _; rfl)) rfl fun L A' O' hA' => ?_
  walk_at "ss"
  obtain ⟨l, h1, h2⟩ := h.isSome (i := under)
  refine op_notInDict O'.g h1 (k := .n under) rfl ?_
  rw [h2]
  refine op_truthy_bool ⟨fun c => ?_, fun c => ?_⟩
  · have hu : R under = none := by cases e : R under with
      | none => rfl
      | some x => rw [e] at c; cases c
    have u0 : under ≠ 0 := fun z => by rw [z, h0] at hu; cases hu
    have eN : rNeed R under = rJoin (upd R under (some ⟨0, false, [], []⟩)) 0 under := by unfold rNeed; rw [hu, if_neg (by decide)]
    rw [eN] at hq
    walk_at "ss"
    intro d a b τ hd ha hb hab kp t1 t2 t3
    walk_at "ss"
    have hl : l.length ≤ 10000 := by
      obtain ⟨l', e1, e2, e3, _⟩ := h.d
      rw [h1] at e1; cases e1; omega
    refine op_setDict O'.g (kp _ _ h1) (k := .n under) rfl hl ?_
    have S₁ := h.new3 hu h1 (by omega) hd ha hb hab kp t1 t2 t3
    generalize upd τ D _ = σ₁ at S₁ ⊢
    walk_at "ss"
    refine (k3_join (fs := (_, _) :: fs) O'.less (by simp; omega) S₁.1 (upd_self _ _ _) (show upd R under _ 0 = some r0 from (upd_ne _ _ (Ne.symm u0)).trans h0) (by omega) fun σ₂ S₂ => ?_).w
    refine ⟨trivial, ?_⟩
    walk_at "ss"
    exact hq _ _ _ (Nat.le_refl _) (S₁.then S₂ fun j q e => by
      by_cases z : j = under
      · subst z; exact ⟨_, upd_self _ _ _⟩
      · exact ⟨q, (upd_ne _ _ z).trans e⟩)
  · have hu : (R under).isSome = true := by simpa using c
    have eN : rNeed R under = R := by unfold rNeed; rw [if_pos hu]
    rw [eN] at hq
    walk_at "ss"
    exact hq _ _ _ (Nat.le_succ _) (.refl h)
theorem k3_over {name under : Int} {fuel : Nat} {b : Bool} (O : Ok (mkW prog w p loose mean mg mb) A B (fs.map (·.1)) 0) (hsh : fs.length < 50) (h : Tab K3 g D R len σ) (ho : rOver R name fuel under = some b) (hq : Q (.bool b) σ) :
    CallR (mkW prog w p loose mean mg mb) A B fs (.ref a_law_over) [.ref D, .int name 0, .int under 0] [] σ Q X := by
  refine CallR.go O (by omega) (by rfl) (by kernel_rfl) (binds3 (p1 := "rows") (p2 := "name") (p3 := "under") (by intro _ _ _; rfl)) rfl fun L A' O' hA' => ?_
  refine t_stmt (t_Wh O' (fun n m' σ' => σ' = σ ∧ m' "rows" = some (.ref D) ∧ m' "name" = some (.int name 0) ∧ ∃ a, m' "under" = some (.int a 0) ∧ rOver R name n a = some b) fuel ⟨rfl, rfl, rfl, under, rfl, ho⟩ ?_)
  rintro n m' σ' ⟨rfl, m1, m2, a, m3, hn⟩
  obtain ⟨n, rfl⟩ : ∃ k, n = k + 1 := by
    cases n with
    | zero => cases hn
    | succ k => exact ⟨k, rfl⟩
  unfold rOver at hn
  walk_at "ss"
  refine op_ne (op_truthy_bool ⟨fun c => ?_, fun c => ?_⟩)
  · have a0 : a ≠ 0 := by simpa using c
    rw [if_neg a0] at hn
    cases hR : R a with
    | none => rw [hR] at hn; cases hn
    | some q =>
      rw [hR] at hn; dsimp only at hn
      obtain ⟨l, h1, h2⟩ := h.get hR
      walk_at "ss"
      refine op_itemDict O'.g h1 (k := .n a) rfl h2 ?_
      walk_at "ss"
      refine op_itemDict O'.g (h.row _ _ hR) (k := .s "up") rfl g3_up ?_
      walk_at "ss"
      refine op_eq (op_truthy_bool ⟨fun c => ?_, fun c => ?_⟩)
      · have c : q.up = name := by simpa using c
        rw [if_pos c] at hn; cases hn
        walk_at "ss"
        exact hq
      · have c : q.up ≠ name := by simpa using c
        rw [if_neg c] at hn
        walk_at "ss"
        refine ⟨n, Nat.lt_succ_self _, rfl, ?_, ?_, q.up, ?_, hn⟩
        · exact (upd_ne _ _ (by decide)).trans m1
        · exact (upd_ne _ _ (by decide)).trans m2
        · exact upd_self _ _ _
  · have a0 : a = 0 := by simpa using c
    rw [if_pos a0] at hn; cases hn
    walk_at "ss"
    exact hq
end
end

/-! # T3d -/
set_option maxRecDepth 100000

section
variable {prog : Program} {w : World} {p : Program} {loose : List Str} {mean : ExcName → Option Value} {mg mb : Str → Option Value}
variable {A : Around} {B : Base} {fs : List (Env × LM)} {σ σ' : AH} {Q : Value → AH → Prop} {X : Value → Bool → AH → Prop}
variable {fe env : Env} {es : List Env} {u : Nat} {m : LM}
section
variable {g g' : RG} {D : Addr} {R R' : RT} {len len' : Nat} {i : Int} {r : Row}
theorem TabS.out {ρ : Type} {K : RK ρ} {R R' : Int → Option ρ} (S : TabS K g D R σ g' R' len' σ') {a : Addr} {c : Cell} (h : σ a = some c) (n : ¬ footR K g D R a) : σ' a = some c ∧ ¬ footR K g' D R' a :=
  ⟨S.2.1.1 _ _ h n, fun q => (S.2.1.2 a q).elim n fun z => by rw [h] at z; cases z⟩
theorem rJoins_get {a j : Int} : ∀ {l : List Int} {R : RT}, rJoins R a l j = (R j).map fun r => { r with up := if j ∈ l then a else r.up, come := if j = a then r.come ++ l else r.come }
  | [], R => by
    show R j = _
    cases R j with
    | none => rfl
    | some r => simp
  | x :: l, R => by
    show rJoins (rJoin R a x) a l j = _
    rw [rJoins_get, rJoin_get]
    cases R j with
    | none => rfl
    | some r =>
      simp only [Option.map_some, Option.some.injEq, Row.mk.injEq, true_and, and_true, List.mem_cons]
      constructor
      · by_cases h1 : j ∈ l
        · simp [h1]
        · by_cases h2 : j = x <;> simp [h1, h2]
      · by_cases h : j = a <;> simp [h]
theorem rJoins_snoc {a x : Int} {l : List Int} : rJoins R a (l ++ [x]) = rJoin (rJoins R a l) a x := by unfold rJoins; rw [List.foldl_append]; rfl
theorem rJoin_some {a c j : Int} {q : Row} (h : R j = some q) : ∃ q', rJoin R a c j = some q' := by rw [rJoin_get, h]; exact ⟨_, rfl⟩
theorem rJoins_some {a j : Int} {l : List Int} {q : Row} (h : R j = some q) : ∃ q', rJoins R a l j = some q' := by rw [rJoins_get, h]; exact ⟨_, rfl⟩
theorem k3_place {name under : Int} {rn ru : Row} {alone : Bool} (O : Ok (mkW prog w p loose mean mg mb) A B (fs.map (·.1)) 0) (hsh : fs.length < 56) (Hd : HdOk A B) (h : Tab K3 g D R len σ) (hn : R name = some rn) (hu : R under = some ru) (hz : ru.come.length + ru.been.length < 400 ∧ rn.come.length < 400) (hne : name ≠ under)
    (hd : ∀ x ∈ ru.come ++ ru.been, ∃ q, R x = some q) (hq : ∀ g' σ', TabS K3 g D R σ g' (rPlace R under name alone) len σ' → Q .none σ') : CallR (mkW prog w p loose mean mg mb) A B fs (.ref a_law_place) [.ref D, .int under 0, .int name 0, .bool alone] [] σ Q X := by
  refine CallR.go O (by omega) (by rfl) (by kernel_rfl) (binds4 (p1 := "rows") (p2 := "under") (p3 := "name") (p4 := "alone") (by intro _ _ _ _; rfl)) rfl fun L A' O' hA' => ?_
  have Hd' : HdOk A' B := Hd.same hA'
  walk_at "ss"
  refine ⟨by decide, fun a0 ha0 => ?_⟩
  have S₀ := h.keep (σ' := upd σ a0 (some (.seq "list" []))) fun b c e => (upd_ne _ _ fun z => by rw [z, ha0] at e; cases e).trans e
  have o₀ : ¬ footR K3 g D R a0 := h.offD ha0
  have c₀ : upd σ a0 (some (.seq "list" [])) a0 = some (.seq "list" []) := upd_self _ _ _
  generalize upd σ a0 (some (.seq "list" [])) = σ₀ at S₀ c₀ ⊢
  walk_at "ss"
  refine op_truthy_bool ⟨fun c => ?_, fun c => ?_⟩
  · subst c
    walk_at "ss"
    obtain ⟨l, h1, h2⟩ := S₀.1.get hu
    refine op_itemDict O'.g h1 (k := .n under) rfl h2 ?_
    walk_at "ss"
    refine op_itemDict O'.g (S₀.1.row _ _ hu) (k := .s "come") rfl g3_come ?_
    walk_at "ss"
    refine op_itemDict O'.g h1 (k := .n under) rfl h2 ?_
    walk_at "ss"
    refine op_itemDict O'.g (S₀.1.row _ _ hu) (k := .s "been") rfl g3_been ?_
    have L0 : σ₀ (g.rl 0 under) = some (.seq "list" (iv ru.come)) := S₀.1.lst _ _ 0 hu (by decide)
    have L1 : σ₀ (g.rl 1 under) = some (.seq "list" (iv ru.been)) := S₀.1.lst _ _ 1 hu (by decide)
    refine op_addList L0 L1 (by rw [iv_length, iv_length]; omega) fun a1 ha1 => ?_
    rw [← iv_app]
    have S₁ := S₀.1.keep (σ' := upd σ₀ a1 (some (.seq "list" (iv (ru.come ++ ru.been))))) fun b c e => (upd_ne _ _ fun z => by rw [z, ha1] at e; cases e).trans e
    have o₁ : ¬ footR K3 g D R a1 := S₀.1.offD ha1
    have c₁ : upd σ₀ a1 (some (.seq "list" (iv (ru.come ++ ru.been)))) a1 = some (.seq "list" (iv (ru.come ++ ru.been))) := upd_self _ _ _
    generalize upd σ₀ a1 (some (.seq "list" (iv (ru.come ++ ru.been)))) = σ₁ at S₁ c₁ ⊢
    have S₁' := S₀.then S₁ fun j q e => ⟨q, e⟩
    walk_at "ss"
    refine ⟨by decide, fun a2 ha2 => ?_⟩
    walk_at "ss"
    have kp₂ : ∀ b c, σ₁ b = some c → upd σ₁ a2 (some (.seq "list" [])) b = some c := fun b c e => (upd_ne _ _ fun z => by rw [z, ha2] at e; cases e).trans e
    obtain ⟨l₂, h1₂, h2₂⟩ := S₁.1.get hu
    refine op_itemDict O'.g (kp₂ _ _ h1₂) (k := .n under) rfl h2₂ ?_
    walk_at "ss"
    refine op_setDict O'.g (kp₂ _ _ (S₁.1.row _ _ hu)) (k := .s "come") rfl (by show 4 ≤ 10000; decide) ?_
    have S₂ := S₁.1.setCome (l := []) hu kp₂ ha2 (upd_self _ _ _)
    have hu₂ := rmd_self (f := fun r => { r with come := [] }) hu
    have e2 : (setG g 0 under a2).ra under = g.ra under := rfl
    rw [← e2] at S₂ ⊢
    have dm₂ : ∀ j q, R j = some q → ∃ q', rmd R under (fun r => { r with come := [] }) j = some q' := fun j q e => rmd_dom e
    obtain ⟨c₂, o₂⟩ := S₂.out c₁ o₁
    generalize upd _ ((setG g 0 under a2).ra under) _ = σ₂ at S₂ c₂ ⊢
    generalize setG g 0 under a2 = g₂ at S₂ o₂
    walk_at "ss"
    refine ⟨by decide, fun a3 ha3 => ?_⟩
    walk_at "ss"
    have kp₃ : ∀ b c, σ₂ b = some c → upd σ₂ a3 (some (.seq "list" [])) b = some c := fun b c e => (upd_ne _ _ fun z => by rw [z, ha3] at e; cases e).trans e
    obtain ⟨l₃, h1₃, h2₃⟩ := S₂.1.get hu₂
    refine op_itemDict O'.g (kp₃ _ _ h1₃) (k := .n under) rfl h2₃ ?_
    walk_at "ss"
    refine op_setDict O'.g (kp₃ _ _ (S₂.1.row _ _ hu₂)) (k := .s "been") rfl (by show 4 ≤ 10000; decide) ?_
    have S₃ := S₂.1.setBeen (l := []) hu₂ kp₃ ha3 (upd_self _ _ _)
    have e3 : (setG g₂ 1 under a3).ra under = g₂.ra under := rfl
    rw [← e3] at S₃ ⊢
    obtain ⟨c₃, o₃⟩ := S₃.out c₂ o₂
    have eR : rmd (rmd R under fun r => { r with come := [] }) under (fun r => { r with been := [] }) = rmd R under fun r => { r with come := [], been := [] } := by
      funext j
      rw [rmd_rmd_get]
      cases e : R j with
      | none =>
        have : (rmd R under (fun r => { r with come := [], been := [] }) j).isSome = false := by rw [rmd_isSome, e]; rfl
        cases e' : rmd R under (fun r => { r with come := [], been := [] }) j with
        | none => rfl
        | some x => rw [e'] at this; cases this
      | some x =>
        rw [rmd_get e]
        by_cases z : j = under <;> simp [z]
    rw [eR] at S₃ o₃
    have hu₃ := rmd_self (f := fun r => { r with come := [], been := [] }) hu
    have hn₃ : rmd R under (fun r => { r with come := [], been := [] }) name = some rn := by rw [rmd_ne hne]; exact hn
    have dm₃ : ∀ j q, R j = some q → ∃ q', rmd R under (fun r => { r with come := [], been := [] }) j = some q' := fun j q e => rmd_dom e
    have T₃ := (S₁'.then S₂ fun j q e => ⟨q, e⟩).then S₃ dm₂
    have eP : rPlace R under name true = rJoins (rJoin (rmd R under fun r => { r with come := [], been := [] }) under name) name (ru.come ++ ru.been) := by unfold rPlace; rw [if_pos rfl, hu]
    rw [eP] at hq
    generalize upd _ ((setG g₂ 1 under a3).ra under) _ = σ₃ at S₃ c₃ T₃ ⊢
    generalize setG g₂ 1 under a3 = g₃ at S₃ o₃ T₃
    generalize rmd R under (fun r => { r with come := [], been := [] }) = R₃ at *
    walk_at "ss"
    refine (k3_join (fs := (_, _) :: fs) O'.less (by simp; omega) S₃.1 hn₃ hu₃ (by simp) fun σ₄ S₄ => ?_).w
    refine ⟨trivial, ?_⟩
    obtain ⟨c₄, o₄⟩ := S₄.out c₃ o₃
    have T₄ := T₃.then S₄ dm₃
    have dm₄ : ∀ j q, R j = some q → ∃ q', rJoin R₃ under name j = some q' := fun j q e => by obtain ⟨q', e'⟩ := dm₃ j q e; exact rJoin_some e'
    have hn₄ : rJoin R₃ under name name = some { rn with up := under } := by
      rw [rJoin_get, hn₃]; simp [hne]
    generalize rJoin R₃ under name = R₄ at S₄ T₄ o₄ dm₄ hn₄ hq
    walk_at "ss"
    refine t_ForL O' Hd' ?_
    walk_at "ss"
    refine ⟨a1, iv (ru.come ++ ru.been), rfl, fun k m' σ' => m' "rows" = some (.ref D) ∧ m' "name" = some (.int name 0) ∧ TabS K3 g₃ D R₄ σ₄ g₃ (rJoins R₄ name ((ru.come ++ ru.been).take k)) len σ' ∧ σ' a1 = some (.seq "list" (iv (ru.come ++ ru.been))), ⟨rfl, rfl, .refl S₄.1, c₄⟩, fun k m' σ' hI => hI.2.2.2, fun m' σ' hI => ?_, fun B' hB' k m' σ' v hI hv r' hr' => ?_⟩
    · obtain ⟨_, _, S₅, _⟩ := hI
      rw [iv_length, List.take_length] at S₅
      walk_at "ss"
      exact hq _ _ (T₄.then S₅ dm₄)
    · obtain ⟨m1, m2, S₅, c₅⟩ := hI
      have O₂ := O'.le hB'
      obtain ⟨x, rfl, hx⟩ := iv_get hv
      have hk := (List.getElem?_eq_some_iff.mp hx).1
      obtain ⟨q, hq'⟩ := hd x (List.mem_of_getElem? hx)
      obtain ⟨q₄, hq₄⟩ := dm₄ _ _ hq'
      obtain ⟨q₅, hq₅⟩ := rJoins_some (a := name) (l := (ru.come ++ ru.been).take k) hq₄
      obtain ⟨qn, hn₅, hl₅⟩ : ∃ q, rJoins R₄ name ((ru.come ++ ru.been).take k) name = some q ∧ q.come.length ≤ rn.come.length + k := by
        rw [rJoins_get, hn₄]
        exact ⟨_, rfl, by simp; omega⟩
      walk_at "ss"
      refine (k3_join (fs := (_, _) :: fs) O₂.less (by simp; omega) S₅.1 hq₅ hn₅ (by rw [List.length_append] at hk; omega) fun σ₆ S₆ => ?_).w
      refine ⟨trivial, ?_⟩
      walk_at "ss"
      rw [← rJoins_snoc] at S₆
      have et : (ru.come ++ ru.been).take (k + 1) = (ru.come ++ ru.been).take k ++ [x] := by rw [List.take_add_one, hx]; rfl
      rw [← et] at S₆
      refine ⟨?_, ?_, S₅.then S₆ fun j q e => rJoins_some e, (S₆.out c₅ (S₅.out c₄ o₄).2).1⟩
      · exact (upd_ne _ _ (by decide)).trans m1
      · exact (upd_ne _ _ (by decide)).trans m2
  · subst c
    have eP : rPlace R under name false = rJoin R under name := by unfold rPlace; rw [if_neg (by decide)]
    rw [eP] at hq
    walk_at "ss"
    refine (k3_join (fs := (_, _) :: fs) O'.less (by simp; omega) S₀.1 hn hu (by omega) fun σ₄ S₄ => ?_).w
    refine ⟨trivial, ?_⟩
    obtain ⟨c₄, o₄⟩ := S₄.out c₀ o₀
    walk_at "ss"
    refine t_ForL O' Hd' ?_
    walk_at "ss"
    refine ⟨a0, [], rfl, fun k m' σ' => σ' = σ₄, rfl, fun k m' σ' hI => by rw [hI]; exact c₄, fun m' σ' hI => ?_, fun B' hB' k m' σ' v hI hv r' hr' => ?_⟩
    · subst hI
      walk_at "ss"
      exact hq _ _ (S₀.then S₄ fun j q e => ⟨q, e⟩)
    · simp at hv
end
end

/-! # Q3f -/

/-! ## rows keep their names through a turn -/
def RowsOk (b : Nat) (R : RT) : Prop := ∀ j q, R j = some q → (q.come ++ q.been).Nodup ∧ q.come.length + q.been.length ≤ b
theorem rWalk_pre {rec : RT → Int → Option (Int × RT)} : ∀ {l gone : List Int} {R : RT} {x : List Int × Int × RT}, rWalk rec l gone R = some x → ∃ k, x.1 = gone ++ l.take k
  | [], gone, R, x, h => by cases h; exact ⟨0, by simp⟩
  | y :: l, gone, R, x, h => by
    unfold rWalk at h
    cases hr : R y with
    | none => rw [hr] at h; cases h
    | some r =>
      rw [hr] at h; dsimp only at h
      have more : ∀ {R₂ : RT}, rWalk rec l (gone ++ [y]) R₂ = some x → ∃ k, x.1 = gone ++ (y :: l).take k := fun h => by
        obtain ⟨k, e⟩ := rWalk_pre h
        exact ⟨k + 1, by rw [e]; simp⟩
      by_cases ho : r.op = true
      · rw [if_pos ho] at h
        by_cases hy : y ≠ 0
        · rw [if_pos hy] at h; cases h; exact ⟨1, by simp⟩
        · rw [if_neg hy] at h; exact more h
      · rw [if_neg ho] at h
        cases ht : rec R y with
        | none => rw [ht] at h; cases h
        | some z =>
          rw [ht] at h; dsimp only at h
          by_cases hz : z.1 ≠ 0
          · rw [if_pos hz] at h; cases h; exact ⟨1, by simp⟩
          · rw [if_neg hz] at h; exact more h
theorem rDone_perm {c b : List Int} {k : Nat} {r : Row} (h : (c ++ b).Nodup) : ((rDone c b ((c ++ b).take k) r).come ++ (rDone c b ((c ++ b).take k) r).been).Perm (c ++ b) := by
  unfold rDone
  by_cases hl : ((c ++ b).take k).length > c.length
  · rw [if_pos hl]
    dsimp only
    rw [List.append_assoc]
    refine List.Perm.append_left _ ?_
    have := List.filter_append_perm (fun x => ((c ++ b).take k).any fun y => decide (y = x)) b
    exact (List.perm_append_comm).trans this
  · rw [if_neg hl]
    dsimp only
    have hk : (c ++ b).take k = c.take k := by
      have : k ≤ c.length ∨ b = [] := by
        rw [List.length_take, List.length_append] at hl
        by_cases z : k ≤ c.length
        · exact .inl z
        · right
          cases b with
          | nil => rfl
          | cons x l => rw [List.length_cons] at hl; omega
      rcases this with z | z
      · exact List.take_append_of_le_length z
      · rw [z, List.append_nil]
    rw [hk]
    have nd1 := (List.nodup_append.mp h).1
    have e : c.filter (fun x => !(c.take k).any fun y => decide (y = x)) = c.drop k := by
      have nd2 : (c.take k ++ c.drop k).Nodup := by rw [List.take_append_drop]; exact nd1
      have := congrArg (List.filter fun x => !(c.take k).any fun y => decide (y = x)) (List.take_append_drop k c).symm
      rw [this, List.filter_append, filter_out_none (fun x hx => hx), nodup_filter_out (fun x hx hx' => (List.nodup_append.mp nd2).2.2 x hx' x hx rfl), List.nil_append]
    rw [e]
    refine ((List.perm_append_comm).append_left _).trans ?_
    rw [← List.append_assoc]
    refine List.Perm.append_right _ ?_
    refine (List.perm_append_comm).trans ?_
    rw [List.take_append_drop]
theorem RowsOk.done {b : Nat} {R : RT} {i : Int} {r : Row} {k : Nat} (h : RowsOk b R) (hr : (r.come ++ r.been).Nodup ∧ r.come.length + r.been.length ≤ b) : RowsOk b (rmd R i (rDone (srt r.come) (srt r.been) ((srt r.come ++ srt r.been).take k))) := fun j q hq => by
  by_cases z : j = i
  · subst z
    cases e : R j with
    | none =>
      have : (rmd R j (rDone (srt r.come) (srt r.been) ((srt r.come ++ srt r.been).take k)) j).isSome = false := by rw [rmd_isSome, e]; rfl
      rw [hq] at this; cases this
    | some q₀ =>
      rw [rmd_self e] at hq; cases hq
      have p := ((srt_perm r.come).append (srt_perm r.been))
      have := (rDone_perm (k := k) (r := q₀) (p.nodup_iff.mpr hr.1)).trans p
      refine ⟨this.nodup_iff.mpr hr.1, ?_⟩
      have := this.length_eq
      rw [List.length_append, List.length_append] at this
      omega
  · rw [rmd_ne z] at hq; exact h j q hq
theorem rWalk_ok {b : Nat} {rec : RT → Int → Option (Int × RT)} (hrec : ∀ R i t R', RowsOk b R → rec R i = some (t, R') → RowsOk b R' ∧ ∀ j q, R j = some q → ∃ q', R' j = some q') :
    ∀ {l gone : List Int} {R : RT} {g' : List Int} {t : Int} {R' : RT}, RowsOk b R → rWalk rec l gone R = some (g', t, R') → RowsOk b R' ∧ ∀ j q, R j = some q → ∃ q', R' j = some q'
  | [], gone, R, g', t, R', ok, h => by cases h; exact ⟨ok, fun j q e => ⟨q, e⟩⟩
  | y :: l, gone, R, g', t, R', ok, h => by
    unfold rWalk at h
    cases hr : R y with
    | none => rw [hr] at h; cases h
    | some r =>
      rw [hr] at h; dsimp only at h
      by_cases ho : r.op = true
      · rw [if_pos ho] at h
        by_cases hy : y ≠ 0
        · rw [if_pos hy] at h; cases h; exact ⟨ok, fun j q e => ⟨q, e⟩⟩
        · rw [if_neg hy] at h; exact rWalk_ok hrec ok h
      · rw [if_neg ho] at h
        cases ht : rec R y with
        | none => rw [ht] at h; cases h
        | some z =>
          obtain ⟨t₁, R₁⟩ := z
          obtain ⟨ok₁, d₁⟩ := hrec _ _ _ _ ok ht
          rw [ht] at h; dsimp only at h
          by_cases hz : t₁ ≠ 0
          · rw [if_pos hz] at h; cases h; exact ⟨ok₁, d₁⟩
          · rw [if_neg hz] at h
            obtain ⟨ok₂, d₂⟩ := rWalk_ok hrec ok₁ h
            exact ⟨ok₂, fun j q e => by obtain ⟨q', e'⟩ := d₁ j q e; exact d₂ j q' e'⟩
theorem rTurn_ok {b : Nat} : ∀ (d : Nat) (R : RT) (i : Int) (t : Int) (R' : RT), RowsOk b R → rTurn d R i = some (t, R') → RowsOk b R' ∧ ∀ j q, R j = some q → ∃ q', R' j = some q'
  | 0, R, i, t, R', ok, h => by cases h
  | d + 1, R, i, t, R', ok, h => by
    unfold rTurn at h
    cases hr : R i with
    | none => rw [hr] at h; cases h
    | some r =>
      rw [hr] at h; dsimp only at h
      cases hw : rWalk (rTurn d) (srt r.come ++ srt r.been) [] R with
      | none => rw [hw] at h; cases h
      | some x =>
        obtain ⟨gone, t₁, R₁⟩ := x
        rw [hw] at h; dsimp only at h; cases h
        obtain ⟨ok₁, d₁⟩ := rWalk_ok (rTurn_ok d) ok hw
        obtain ⟨k, e⟩ := rWalk_pre hw
        have e : gone = (srt r.come ++ srt r.been).take k := e
        subst e
        refine ⟨ok₁.done (ok _ _ hr), fun j q e => ?_⟩
        obtain ⟨q', e'⟩ := d₁ j q e
        exact ⟨_, rmd_get e'⟩

/-! # T3e -/
set_option maxRecDepth 100000

section
variable {prog : Program} {w : World} {p : Program} {loose : List Str} {mean : ExcName → Option Value} {mg mb : Str → Option Value}
variable {A : Around} {B : Base} {fs : List (Env × LM)} {σ σ' : AH} {Q : Value → AH → Prop} {X : Value → Bool → AH → Prop}
variable {fe env : Env} {es : List Env} {u : Nat} {m : LM}
section
variable {g g' : RG} {D : Addr} {R R' : RT} {len len' : Nat} {i : Int} {r : Row}
theorem TabS.aside {ρ : Type} {K : RK ρ} {R R' : Int → Option ρ} (S : TabS K g D R σ g' R' len' σ') {a : Addr} {c : Option Cell} (h : σ a = none) (n : ¬ footR K g' D R' a) : TabS K g D R σ g' R' len' (upd σ' a c) := by
  have ne : ∀ b, footR K g' D R' b → b ≠ a := fun b f z => n (z ▸ f)
  exact ⟨S.1.away fun b d e f => (upd_ne _ _ (ne b f)).trans e, ⟨fun b d e nf => (upd_ne _ _ fun z => by rw [z, h] at e; cases e).trans (S.2.1.1 b d e nf), S.2.1.2⟩, S.2.2⟩
/-- a cell beside the table -/
def Bes (g : RG) (D : Addr) (R : RT) (σ : AH) (a : Addr) (c : Cell) : Prop := σ a = some c ∧ ¬ footR K3 g D R a
theorem Bes.step {a : Addr} {c : Cell} (b : Bes g D R σ a c) (S : TabS K3 g D R σ g' R' len' σ') : Bes g' D R' σ' a c := S.out b.1 b.2
theorem Bes.upd {a x : Addr} {c d : Cell} (b : Bes g D R σ a c) (h : a ≠ x) : Bes g D R (Mine.upd σ x (some d)) a c := ⟨(upd_ne _ _ h).trans b.1, b.2⟩
theorem Bes.fresh {a x : Addr} {c d : Cell} (b : Bes g D R σ a c) (n : σ x = none) : Bes g D R (Mine.upd σ x (some d)) a c := b.upd fun z => by rw [← z, b.1] at n; cases n
theorem Bes.ne {a x : Addr} {c d : Cell} (b : Bes g D R σ a c) (b' : Bes g D R σ x d) (h : c ≠ d) : a ≠ x := fun z => h (by have := b.1; rw [z, b'.1] at this; exact (Option.some.inj this).symm)
/-- those that have not gone -/
def outG (gone : List Int) : Value → Option Value
  | .int x t => if (gone.any fun y => decide (y = x)) = true then none else some (.int x t)
  | v => some v
def inG (gone : List Int) : Value → Option Value
  | .int x t => if (gone.any fun y => decide (y = x)) = true then some (.int x t) else none
  | v => none
theorem outG_eq {gone : List Int} {x : Int} : outG gone (.int x 0) = if (gone.any fun y => decide (y = x)) = true then none else some (.int x 0) := rfl
theorem inG_eq {gone : List Int} {x : Int} : inG gone (.int x 0) = if (gone.any fun y => decide (y = x)) = true then some (.int x 0) else none := rfl
theorem iv_outG {gone : List Int} : ∀ {l : List Int}, (iv l).filterMap (outG gone) = iv (l.filter fun x => !gone.any fun y => decide (y = x))
  | [] => rfl
  | x :: l => by
    show (Value.int x 0 :: iv l).filterMap (outG gone) = _
    rw [List.filterMap_cons, outG_eq, iv_outG, List.filter_cons]
    cases gone.any fun y => decide (y = x) with
    | true => rfl
    | false => rfl
theorem iv_inG {gone : List Int} : ∀ {l : List Int}, (iv l).filterMap (inG gone) = iv (l.filter fun x => gone.any fun y => decide (y = x))
  | [] => rfl
  | x :: l => by
    show (Value.int x 0 :: iv l).filterMap (inG gone) = _
    rw [List.filterMap_cons, inG_eq, iv_inG, List.filter_cons]
    cases gone.any fun y => decide (y = x) with
    | true => rfl
    | false => rfl
theorem iv_any {gone : List Int} {x : Int} : ((iv gone).any fun v => decide (pk v = some (some (.n x)))) = gone.any fun y => decide (y = x) := by
  unfold iv
  rw [List.any_map]
  congr 1
  funext y
  simp [pk, dk]
theorem iv_pk {l : List Int} : pkAll (iv l) := fun v hv => by
  unfold iv at hv
  obtain ⟨x, _, rfl⟩ := List.mem_map.mp hv
  exact ⟨_, rfl⟩
theorem rmd_two {X Y : List Int} {f : Row → Row} (h : R i = some r) (hf : f r = { r with come := X, been := Y }) : rmd (rmd R i fun r => { r with come := X }) i (fun r => { r with been := Y }) = rmd R i f := by
  funext j
  by_cases z : j = i
  · subst z
    rw [rmd_self (rmd_self h), rmd_self h, hf]
  · rw [rmd_ne z, rmd_ne z, rmd_ne z]
end
end

/-! # T3f -/
set_option maxRecDepth 100000

section
variable {prog : Program} {w : World} {p : Program} {loose : List Str} {mean : ExcName → Option Value} {mg mb : Str → Option Value}
variable {A : Around} {B : Base} {fs : List (Env × LM)} {σ σ' : AH} {Q : Value → AH → Prop} {X : Value → Bool → AH → Prop}
variable {fe env : Env} {es : List Env} {u : Nat} {m : LM}
section
variable {g g' : RG} {D : Addr} {R R' : RT} {len len' : Nat} {i : Int} {r : Row}
local macro_rules | `(tactic| walk_at "x") => `(tactic| with_reducible (refine is_name ?_; refine t_CompName (by with_unfolding_all exact upd_self _ _ _) (by assumption) ?_))
local macro_rules | `(tactic| walk_at "x") => `(tactic| with_reducible (refine is_name ?_; refine t_CellName (by with_unfolding_all rfl) (by assumption) ?_))
set_option maxHeartbeats 4000000 in
theorem k3_turn : ∀ (d : Nat) {A : Around} {B : Base} {fs : List (Env × LM)} {σ : AH} {Q : Value → AH → Prop} {X : Value → Bool → AH → Prop} {g : RG} {R R' : RT} {i t : Int} {r : Row},
    Ok (mkW prog w p loose mean mg mb) A B (fs.map (·.1)) 0 → fs.length + d < 50 → A.handled = none → Tab K3 g D R len σ → R i = some r → RowsOk 40 R → rTurn d R i = some (t, R') →
    (∀ g' σ', TabS K3 g D R σ g' R' len σ' → Q (.int t 0) σ') → CallR (mkW prog w p loose mean mg mb) A B fs (.ref a_law_turn) [.ref D, .int i 0] [] σ Q X := by
  intro d
  induction d with
  | zero => intro A B fs σ Q X g R R' i t r O hsh hA h hr ok ht; cases ht
  | succ d ih =>
  intro A B fs σ Q X g R R' i t r O hsh hA h hr ok ht hq
  unfold rTurn at ht
  rw [hr] at ht; dsimp only at ht
  obtain ⟨nd, hb⟩ := ok _ _ hr
  obtain ⟨gone, t₁, R₁, hw⟩ : ∃ gone t₁ R₁, rWalk (rTurn d) (srt r.come ++ srt r.been) [] R = some (gone, t₁, R₁) := by
    cases e : rWalk (rTurn d) (srt r.come ++ srt r.been) [] R with
    | none => rw [e] at ht; cases ht
    | some x => exact ⟨x.1, x.2.1, x.2.2, rfl⟩
  rw [hw] at ht; dsimp only at ht; cases ht
  obtain ⟨ok₁, dm₁⟩ := rWalk_ok (rTurn_ok d) ok hw
  have lc : (srt r.come).length = r.come.length := (srt_perm _).length_eq
  have lb : (srt r.been).length = r.been.length := (srt_perm _).length_eq
  obtain ⟨kg, hkg⟩ := rWalk_pre hw
  have lg : gone.length ≤ 40 := by
    rw [show gone = [] ++ (srt r.come ++ srt r.been).take kg from hkg, List.nil_append, List.length_take, List.length_append]; omega
  clear hkg
  refine CallR.goC O (by omega) (by rfl) (by kernel_rfl) (binds2 (p1 := "rows") (p2 := "node") (by intro _ _; rfl)) ?_ fun L A' σ₁ O' hA' k₁ c₁ b₁ => ?_
  · intro n x hx
    rcases List.mem_cons.mp hx with rfl | hx
    · exact .inl rfl
    rcases List.mem_cons.mp hx with rfl | hx
    · exact .inl rfl
    cases hx
  have hA₁ := hA'.trans hA
  have Hd' : HdOk A' B := .inl hA₁
  have hce : σ₁ _ = some (PyC none) := (c₁ (Str.ofString "gone") _ rfl).1
  have nL : σ (L + 1) = none := (c₁ (Str.ofString "gone") _ rfl).2
  have S₁ := h.keep k₁
  have B₁ : Bes g D R σ₁ (L + 1) (PyC none) := ⟨hce, h.offD nL⟩
  walk_at "ss"
  obtain ⟨l, h1, h2⟩ := S₁.1.get hr
  refine op_itemDict O'.g h1 (k := .n i) rfl h2 ?_
  walk_at "ss"
  refine op_itemDict O'.g (S₁.1.row _ _ hr) (k := .s "come") rfl g3_come ?_
  walk_at "ss"
  have L0 : σ₁ (g.rl 0 i) = some (.seq "list" (iv r.come)) := S₁.1.lst _ _ 0 hr (by decide)
  refine call_sorted L0 (by omega) fun a1 s1 n1 p1 q1 => ?_
  obtain rfl := srt_eq q1 p1
  have old : ∀ {τ : AH} {a : Addr}, (∀ b c, σ b = some c → τ b = some c) → τ a = none → σ a = none := fun {τ a} k e => by
    cases q : σ a with
    | none => rfl
    | some c => rw [k _ _ q] at e; cases e
  have keep : ∀ {τ : AH} {a : Addr} {c : Cell}, (∀ b c, σ b = some c → τ b = some c) → σ a = none → ∀ b d, σ b = some d → upd τ a (some c) b = some d := fun {τ a c} k e b d q => (upd_ne _ _ fun z => by rw [z, e] at q; cases q).trans (k b d q)
  have z1 := old k₁ n1
  have S₂ := S₁.aside (c := some (.seq "list" (iv (srt r.come)))) z1 (h.offD z1)
  have C1 : Bes g D R (upd σ₁ a1 (some (.seq "list" (iv (srt r.come))))) a1 (.seq "list" (iv (srt r.come))) := ⟨upd_self _ _ _, h.offD z1⟩
  have Cg := B₁.fresh (d := .seq "list" (iv (srt r.come))) n1
  have k₂ := keep (c := .seq "list" (iv (srt r.come))) k₁ z1
  clear hce B₁
  generalize upd σ₁ a1 (some (.seq "list" (iv (srt r.come)))) = σ₂ at S₂ C1 Cg k₂ ⊢
  walk_at "ss"
  refine op_itemDict O'.g (S₂.1.row _ _ hr) (k := .s "been") rfl g3_been ?_
  walk_at "ss"
  have L1 : σ₂ (g.rl 1 i) = some (.seq "list" (iv r.been)) := S₂.1.lst _ _ 1 hr (by decide)
  refine call_sorted L1 (by omega) fun a2 s2 n2 p2 q2 => ?_
  obtain rfl := srt_eq q2 p2
  have z2 := old k₂ n2
  have S₃ := S₂.aside (c := some (.seq "list" (iv (srt r.been)))) z2 (h.offD z2)
  have C2 : Bes g D R (upd σ₂ a2 (some (.seq "list" (iv (srt r.been))))) a2 (.seq "list" (iv (srt r.been))) := ⟨upd_self _ _ _, h.offD z2⟩
  have n12 : a1 ≠ a2 := fun z => by rw [← z, C1.1] at n2; cases n2
  have C1 := C1.fresh (d := .seq "list" (iv (srt r.been))) n2
  have Cg := Cg.fresh (d := .seq "list" (iv (srt r.been))) n2
  have k₃ := keep (c := .seq "list" (iv (srt r.been))) k₂ z2
  generalize upd σ₂ a2 (some (.seq "list" (iv (srt r.been)))) = σ₃ at S₃ C1 C2 Cg k₃ ⊢
  walk_at "ss"
  refine t_AssignCell (by with_unfolding_all rfl) ?_
  walk_at "ss"
  refine ⟨by decide, fun a3 n3 => ?_⟩
  have z3 := old k₃ n3
  have S₄ := S₃.aside (c := some (.seq "list" [])) z3 (h.offD z3)
  have C3 : Bes g D R (upd σ₃ a3 (some (.seq "list" []))) a3 (.seq "list" []) := ⟨upd_self _ _ _, h.offD z3⟩
  have n13 : a1 ≠ a3 := fun z => by rw [← z, C1.1] at n3; cases n3
  have n23 : a2 ≠ a3 := fun z => by rw [← z, C2.1] at n3; cases n3
  have ng3 : a3 ≠ L + 1 := fun z => by rw [z, Cg.1] at n3; cases n3
  have C1 := C1.fresh (d := .seq "list" []) n3
  have C2 := C2.fresh (d := .seq "list" []) n3
  have Cg := Cg.fresh (d := .seq "list" []) n3
  have k₄ := keep (c := .seq "list" []) k₃ z3
  refine ⟨⟨_, Cg.1⟩, ?_⟩
  generalize upd σ₃ a3 (some (.seq "list" [])) = σ₄ at S₄ C1 C2 C3 Cg k₄ ⊢
  have S₅ := S₄.aside (c := some (PyC (some (.ref a3)))) nL (h.offD nL)
  have ne1 : a1 ≠ L + 1 := C1.ne Cg (by intro q; cases q)
  have ne2 : a2 ≠ L + 1 := C2.ne Cg (by intro q; cases q)
  have C1 := C1.upd (d := PyC (some (.ref a3))) ne1
  have C2 := C2.upd (d := PyC (some (.ref a3))) ne2
  have C3 := C3.upd (d := PyC (some (.ref a3))) ng3
  have Cg : Bes g D R (upd σ₄ (L + 1) (some (PyC (some (.ref a3))))) (L + 1) (PyC (some (.ref a3))) := ⟨upd_self _ _ _, h.offD nL⟩
  have k₅ := keep (c := PyC (some (.ref a3))) k₄ nL
  generalize upd σ₄ (L + 1) (some (PyC (some (.ref a3)))) = σ₅ at S₅ C1 C2 C3 Cg k₅ ⊢
  walk_at "ss"
  -- the loop
  with_reducible refine Tr.mono (Q := fun f m' σ' => f = .next ∧ m' "row" = some (.ref (g.ra i)) ∧ m' "come" = some (.ref a1) ∧ m' "been" = some (.ref a2) ∧ m' "told" = some (.int t 0) ∧ ∃ g', TabS K3 g D R σ g' R₁ len σ' ∧ Bes g' D R₁ σ' (L + 1) (PyC (some (.ref a3))) ∧ Bes g' D R₁ σ' a1 (.seq "list" (iv (srt r.come))) ∧ Bes g' D R₁ σ' a2 (.seq "list" (iv (srt r.been))) ∧ Bes g' D R₁ σ' a3 (.seq "list" (iv gone))) ?_ ?_ (fun _ _ _ _ x => x)
  · refine t_ForL O' Hd' ?_
    walk_at "ss"
    refine op_addList C1.1 C2.1 (by rw [iv_length, iv_length]; omega) fun a4 n4 => ?_
    rw [← iv_app]
    have z4 := old k₅ n4
    have S₆ := S₅.aside (c := some (.seq "list" (iv (srt r.come ++ srt r.been)))) z4 (h.offD z4)
    have C4 : Bes g D R (upd σ₅ a4 (some (.seq "list" (iv (srt r.come ++ srt r.been))))) a4 (.seq "list" (iv (srt r.come ++ srt r.been))) := ⟨upd_self _ _ _, h.offD z4⟩
    have n34 : a4 ≠ a3 := fun z => by rw [z, C3.1] at n4; cases n4
    have C1 := C1.fresh (d := .seq "list" (iv (srt r.come ++ srt r.been))) n4
    have C2 := C2.fresh (d := .seq "list" (iv (srt r.come ++ srt r.been))) n4
    have C3 := C3.fresh (d := .seq "list" (iv (srt r.come ++ srt r.been))) n4
    have Cg := Cg.fresh (d := .seq "list" (iv (srt r.come ++ srt r.been))) n4
    generalize upd σ₅ a4 (some (.seq "list" (iv (srt r.come ++ srt r.been)))) = σ₆ at S₆ C1 C2 C3 C4 Cg ⊢
    have ll : (srt r.come ++ srt r.been).length ≤ 40 := by rw [List.length_append]; omega
    generalize srt r.come ++ srt r.been = ls at C4 hw ll ⊢
    refine ⟨a4, iv ls, rfl, fun k m' σ' => m' "rows" = some (.ref D) ∧ m' "row" = some (.ref (g.ra i)) ∧ m' "come" = some (.ref a1) ∧ m' "been" = some (.ref a2) ∧ m' "told" = some (.int 0 0) ∧ ∃ g' Rk, TabS K3 g D R σ g' Rk len σ' ∧ Bes g' D Rk σ' (L + 1) (PyC (some (.ref a3))) ∧ Bes g' D Rk σ' a1 (.seq "list" (iv (srt r.come))) ∧ Bes g' D Rk σ' a2 (.seq "list" (iv (srt r.been))) ∧ Bes g' D Rk σ' a3 (.seq "list" (iv (ls.take k))) ∧
      Bes g' D Rk σ' a4 (.seq "list" (iv ls)) ∧ RowsOk 40 Rk ∧ (∀ j q, R j = some q → ∃ q', Rk j = some q') ∧ rWalk (rTurn d) (ls.drop k) (ls.take k) Rk = some (gone, t, R₁), ⟨rfl, rfl, rfl, rfl, rfl, g, R, S₆, Cg, C1, C2, C3, C4, ok, fun j q e => ⟨q, e⟩, hw⟩, fun k m' σ' hI => ?_, fun m' σ' hI => ?_, fun B' hB' k m' σ' v hI hv r' hr' => ?_⟩
    · obtain ⟨_, _, _, _, _, g', Rk, _, _, _, _, _, c4, _⟩ := hI
      exact c4.1
    · obtain ⟨m1, m2, m3, m4, m5, g', Rk, T, cg, c1, c2, c3, c4, okk, dmk, hwk⟩ := hI
      rw [iv_length, List.take_length] at c3 hwk
      rw [List.drop_length] at hwk
      unfold rWalk at hwk
      cases hwk
      exact ⟨rfl, m2, m3, m4, m5, g', T, cg, c1, c2, c3⟩
    · obtain ⟨m1, m2, m3, m4, m5, g', Rk, T, cg, c1, c2, c3, c4, okk, dmk, hwk⟩ := hI
      have O₂ := O'.le hB'
      obtain ⟨x, rfl, hx⟩ := iv_get hv
      have hk := (List.getElem?_eq_some_iff.mp hx).1
      have ed : ls.drop k = x :: ls.drop (k + 1) := by
        rw [List.drop_eq_getElem_cons hk, (List.getElem?_eq_some_iff.mp hx).2]
      have et : ls.take (k + 1) = ls.take k ++ [x] := by rw [List.take_add_one, hx]; rfl
      rw [ed] at hwk
      unfold rWalk at hwk
      rw [← et] at hwk
      have hcg := cg.1
      walk_at "ss"
      refine op_methList PySem.F.slot_list_append PySem.F.type_list_append c3.1 ?_
      walk_at "ss"
      refine call_append (v := .int x 0) c3.1 (by rw [iv_length, List.length_take]; omega) ?_
      refine ⟨trivial, ?_⟩
      have e3 : iv (ls.take k) ++ [.int x 0] = iv (ls.take (k + 1)) := by rw [et, iv_app]; rfl
      rw [e3]
      have T := T.aside (c := some (.seq "list" (iv (ls.take (k + 1))))) z3 c3.2
      have cg := cg.upd (d := .seq "list" (iv (ls.take (k + 1)))) (x := a3) (Ne.symm ng3)
      have c1 := c1.upd (d := .seq "list" (iv (ls.take (k + 1)))) (x := a3) n13
      have c2 := c2.upd (d := .seq "list" (iv (ls.take (k + 1)))) (x := a3) n23
      have c4 := c4.upd (d := .seq "list" (iv (ls.take (k + 1)))) (x := a3) n34
      have c3 : Bes g' D Rk (upd σ' a3 (some (.seq "list" (iv (ls.take (k + 1)))))) a3 (.seq "list" (iv (ls.take (k + 1)))) := ⟨upd_self _ _ _, c3.2⟩
      clear hcg
      generalize upd σ' a3 (some (.seq "list" (iv (ls.take (k + 1))))) = τ at T cg c1 c2 c3 c4 ⊢
      cases hrx : Rk x with
      | none => rw [hrx] at hwk; cases hwk
      | some rx =>
      rw [hrx] at hwk; dsimp only at hwk
      obtain ⟨l₃, h3, h4⟩ := T.1.get hrx
      walk_at "ss"
      refine op_itemDict O₂.g h3 (k := .n x) rfl h4 ?_
      walk_at "ss"
      refine op_itemDict O₂.g (T.1.row _ _ hrx) (k := .s "open") rfl g3_open ?_
      refine op_truthy_bool ⟨fun c => ?_, fun c => ?_⟩
      · rw [if_pos c] at hwk
        walk_at "ss"
        refine op_ne (op_truthy_bool ⟨fun c0 => ?_, fun c0 => ?_⟩)
        · have c0 : x ≠ 0 := by simpa using c0
          rw [if_pos c0] at hwk; cases hwk
          walk_at "ss"
          exact ⟨rfl, m2, m3, m4, rfl, g', T, cg, c1, c2, c3⟩
        · have c0 : x = 0 := by simpa using c0
          rw [if_neg (by simp [c0])] at hwk
          walk_at "ss"
          exact ⟨m1, m2, m3, m4, by rw [c0]; rfl, g', Rk, T, cg, c1, c2, c3, c4, okk, dmk, hwk⟩
      · rw [if_neg (by rw [c]; decide)] at hwk
        cases hrec : rTurn d Rk x with
        | none => rw [hrec] at hwk; cases hwk
        | some z =>
        obtain ⟨t', R₂⟩ := z
        rw [hrec] at hwk; dsimp only at hwk
        obtain ⟨ok₂, dm₂⟩ := rTurn_ok d _ _ _ _ okk hrec
        walk_at "ss"
        refine (ih (fs := (_, _) :: fs) O₂.less (by simp; omega) hA₁ T.1 hrx okk hrec fun g'' σ'' U => ?_).w
        have T₂ := T.then U dmk
        have cg := cg.step U
        have c1 := c1.step U
        have c2 := c2.step U
        have c3 := c3.step U
        have c4 := c4.step U
        have dm₃ : ∀ j q, R j = some q → ∃ q', R₂ j = some q' := fun j q e => by obtain ⟨q', e'⟩ := dmk j q e; exact dm₂ j q' e'
        walk_at "ss"
        refine op_ne (op_truthy_bool ⟨fun c0 => ?_, fun c0 => ?_⟩)
        · have c0 : t' ≠ 0 := by simpa using c0
          rw [if_pos c0] at hwk; cases hwk
          walk_at "ss"
          exact ⟨rfl, m2, m3, m4, rfl, g'', T₂, cg, c1, c2, c3⟩
        · have c0 : t' = 0 := by simpa using c0
          rw [if_neg (by simp [c0])] at hwk
          walk_at "ss"
          exact ⟨m1, m2, m3, m4, by rw [c0]; rfl, g'', R₂, T₂, cg, c1, c2, c3, c4, ok₂, dm₃, hwk⟩
  · rintro f m' σ' ⟨rfl, m2, m3, m4, m5, g', T, cg, c1, c2, c3⟩
    have hcg := cg.1
    obtain ⟨r₁, hr₁⟩ := dm₁ _ _ hr
    have era := T.2.2 i r hr
    rw [← era] at m2
    refine nx_next ?_
    have kp1 : ∀ {τ : AH} {b : Addr} {d : Cell}, τ b = none → ∀ x c, τ x = some c → upd τ b (some d) x = some c := fun {τ b d} n x c e => (upd_ne _ _ fun z => by rw [z, n] at e; cases e).trans e
    walk_at "ss"
    refine call_len c3.1 (by rw [iv_length]; omega) ?_
    walk_at "ss"
    refine call_len c1.1 (by rw [iv_length]; omega) ?_
    walk_at "ss"
    rw [iv_length, iv_length]
    refine op_gt (op_truthy_bool ⟨fun c => ?_, fun c => ?_⟩)
    · have c : gone.length > (srt r.come).length := by simpa using c
      walk_at "ss"
      refine t_ListCompPure Hd' (by with_unfolding_all rfl) (by decide) (by with_unfolding_all rfl) (by decide) (by with_unfolding_all rfl) ?_
      walk_at "ss"
      refine ⟨a2, iv (srt r.been), outG gone, rfl, c2.1, by rw [iv_length]; omega, fun B' hB' H' C k v mm hv hC hm => ?_, fun b1 n5 => ?_⟩
      · obtain ⟨x, rfl, hx⟩ := iv_get hv
        have hc := (c2.fresh (d := NsC mm) hC).1
        have hc' := (cg.fresh (d := NsC mm) hC).1
        have hg := (c3.fresh (d := NsC mm) hC).1
        refine comp_one ?_
        walk_at "ss"
        refine op_notInList hg iv_pk (a := some (.n x)) rfl ?_
        rw [iv_any]
        refine op_truthy_bool ⟨rfl, fun c => ?_, fun c => ?_⟩
        · intro B₂ hB₂
          walk_at "ss"
          exact ⟨rfl, by rw [outG_eq, if_neg (fun q => by rw [q] at c; cases c)], rfl⟩
        · exact ⟨by rw [outG_eq, if_pos (by simpa using c)], rfl⟩
      rw [iv_outG]
      refine op_addList (c1.fresh n5).1 (upd_self _ _ _) (by rw [iv_length, iv_length]; have := List.length_filter_le (fun x => !gone.any fun y => decide (y = x)) (srt r.been); omega) fun b2 n6 => ?_
      rw [← iv_app]
      have kp₂ : ∀ x c, σ' x = some c → upd (upd σ' b1 (some (.seq "list" (iv ((srt r.been).filter fun x => !gone.any fun y => decide (y = x)))))) b2 (some (.seq "list" (iv (srt r.come ++ (srt r.been).filter fun x => !gone.any fun y => decide (y = x))))) x = some c := fun x c e => kp1 n6 _ _ (kp1 n5 _ _ e)
      have n6' : σ' b2 = none := by
        cases q : σ' b2 with
        | none => rfl
        | some c => have := kp1 (d := .seq "list" (iv ((srt r.been).filter fun x => !gone.any fun y => decide (y = x)))) n5 _ _ q; rw [n6] at this; cases this
      walk_at "ss"
      refine op_setDict O'.g (kp₂ _ _ (T.1.row _ _ hr₁)) (k := .s "come") rfl (by show 4 ≤ 10000; decide) ?_
      have U := T.1.setCome (l := srt r.come ++ (srt r.been).filter fun x => !gone.any fun y => decide (y = x)) hr₁ kp₂ n6' (upd_self _ _ _)
      have hr₂ := rmd_self (f := fun q => { q with come := srt r.come ++ (srt r.been).filter fun x => !gone.any fun y => decide (y = x) }) hr₁
      have e2 : (setG g' 0 i b2).ra i = g'.ra i := rfl
      rw [← e2] at U m2 ⊢
      have cg := cg.step U
      have c2 := c2.step U
      have c3 := c3.step U
      have T₂ := T.then U dm₁
      have dm₂ : ∀ j q, R j = some q → ∃ q', rmd R₁ i (fun q => { q with come := srt r.come ++ (srt r.been).filter fun x => !gone.any fun y => decide (y = x) }) j = some q' := fun j q e => by obtain ⟨q', e'⟩ := dm₁ j q e; exact rmd_dom e'
      clear hcg
      have hcg := cg.1
      generalize upd _ ((setG g' 0 i b2).ra i) _ = σ₇ at U T₂ cg c2 c3 hcg ⊢
      generalize setG g' 0 i b2 = g₂ at U T₂ cg c2 c3 m2 ⊢
      walk_at "ss"
      refine t_ListCompPure Hd' (by with_unfolding_all rfl) (by decide) (by with_unfolding_all rfl) (by decide) (by with_unfolding_all rfl) ?_
      walk_at "ss"
      refine ⟨a2, iv (srt r.been), inG gone, rfl, c2.1, by rw [iv_length]; omega, fun B' hB' H' C k v mm hv hC hm => ?_, fun b1 n5 => ?_⟩
      · obtain ⟨x, rfl, hx⟩ := iv_get hv
        have hc := (c2.fresh (d := NsC mm) hC).1
        have hc' := (cg.fresh (d := NsC mm) hC).1
        have hg := (c3.fresh (d := NsC mm) hC).1
        refine comp_one ?_
        walk_at "ss"
        refine op_inList hg iv_pk (a := some (.n x)) rfl ?_
        rw [iv_any]
        refine op_truthy_bool ⟨rfl, fun c => ?_, fun c => ?_⟩
        · intro B₂ hB₂
          walk_at "ss"
          exact ⟨rfl, by rw [inG_eq, if_pos c], rfl⟩
        · exact ⟨by rw [inG_eq, if_neg (by rw [c]; decide)], rfl⟩
      rw [iv_inG]
      walk_at "ss"
      refine op_setDict O'.g (kp1 n5 _ _ (T₂.1.row _ _ hr₂)) (k := .s "been") rfl (by show 4 ≤ 10000; decide) ?_
      have V := T₂.1.setBeen (l := (srt r.been).filter fun x => gone.any fun y => decide (y = x)) hr₂ (kp1 n5) n5 (upd_self _ _ _)
      rw [rmd_two (f := rDone (srt r.come) (srt r.been) gone) hr₁ (by unfold rDone; rw [if_pos c])] at V
      walk_at "ss"
      exact .all (hq _ _ (T₂.then V dm₂))
    · have c : ¬ gone.length > (srt r.come).length := by simpa using c
      walk_at "ss"
      refine t_ListCompPure Hd' (by with_unfolding_all rfl) (by decide) (by with_unfolding_all rfl) (by decide) (by with_unfolding_all rfl) ?_
      walk_at "ss"
      refine ⟨a1, iv (srt r.come), outG gone, rfl, c1.1, by rw [iv_length]; omega, fun B' hB' H' C k v mm hv hC hm => ?_, fun b1 n5 => ?_⟩
      · obtain ⟨x, rfl, hx⟩ := iv_get hv
        have hc := (c1.fresh (d := NsC mm) hC).1
        have hc' := (cg.fresh (d := NsC mm) hC).1
        have hg := (c3.fresh (d := NsC mm) hC).1
        refine comp_one ?_
        walk_at "ss"
        refine op_notInList hg iv_pk (a := some (.n x)) rfl ?_
        rw [iv_any]
        refine op_truthy_bool ⟨rfl, fun c => ?_, fun c => ?_⟩
        · intro B₂ hB₂
          walk_at "ss"
          exact ⟨rfl, by rw [outG_eq, if_neg (fun q => by rw [q] at c; cases c)], rfl⟩
        · exact ⟨by rw [outG_eq, if_pos (by simpa using c)], rfl⟩
      rw [iv_outG]
      walk_at "ss"
      refine op_setDict O'.g (kp1 n5 _ _ (T.1.row _ _ hr₁)) (k := .s "come") rfl (by show 4 ≤ 10000; decide) ?_
      have U := T.1.setCome (l := (srt r.come).filter fun x => !gone.any fun y => decide (y = x)) hr₁ (kp1 n5) n5 (upd_self _ _ _)
      have hr₂ := rmd_self (f := fun q => { q with come := (srt r.come).filter fun x => !gone.any fun y => decide (y = x) }) hr₁
      have e2 : (setG g' 0 i b1).ra i = g'.ra i := rfl
      rw [← e2] at U m2 ⊢
      have cg := cg.step U
      have c2 := c2.step U
      have c3 := c3.step U
      have T₂ := T.then U dm₁
      have dm₂ : ∀ j q, R j = some q → ∃ q', rmd R₁ i (fun q => { q with come := (srt r.come).filter fun x => !gone.any fun y => decide (y = x) }) j = some q' := fun j q e => by obtain ⟨q', e'⟩ := dm₁ j q e; exact rmd_dom e'
      clear hcg
      have hcg := cg.1
      generalize upd _ ((setG g' 0 i b1).ra i) _ = σ₇ at U T₂ cg c2 c3 hcg ⊢
      generalize setG g' 0 i b1 = g₂ at U T₂ cg c2 c3 m2 ⊢
      walk_at "ss"
      refine op_addList c2.1 c3.1 (by rw [iv_length, iv_length]; omega) fun b2 n6 => ?_
      rw [← iv_app]
      walk_at "ss"
      refine op_setDict O'.g (kp1 n6 _ _ (T₂.1.row _ _ hr₂)) (k := .s "been") rfl (by show 4 ≤ 10000; decide) ?_
      have V := T₂.1.setBeen (l := srt r.been ++ gone) hr₂ (kp1 n6) n6 (upd_self _ _ _)
      rw [rmd_two (f := rDone (srt r.come) (srt r.been) gone) hr₁ (by unfold rDone; rw [if_neg c])] at V
      walk_at "ss"
      exact .all (hq _ _ (T₂.then V dm₂))
end
end

/-! # Q3g -/

/-! ## what the law's deeds need of its table -/
structure Fit (b : Nat) (R : RT) : Prop where
  z : ∀ j q, R j = some q → q.come.length + q.been.length ≤ b
  u : ∀ j q, R j = some q → ∃ q', R q.up = some q'
  m : ∀ j q, R j = some q → ∀ x ∈ q.come ++ q.been, ∃ q', R x = some q'
section
variable {b : Nat} {R : RT} {i a c : Int}
theorem Fit.join {qa qc : Row} (h : Fit b R) (ha : R a = some qa) (hc : R c = some qc) : Fit (b + 1) (rJoin R a c) := by
  have ex : ∀ x q, R x = some q → ∃ q', rJoin R a c x = some q' := fun x q e => by rw [rJoin_get, e]; exact ⟨_, rfl⟩
  have inv : ∀ j q, rJoin R a c j = some q → ∃ q₀, R j = some q₀ ∧ q = { q₀ with up := if j = c then a else q₀.up, come := if j = a then q₀.come ++ [c] else q₀.come } := fun j q e => by
    rw [rJoin_get] at e
    cases h0 : R j with
    | none => rw [h0] at e; cases e
    | some q₀ => rw [h0] at e; exact ⟨q₀, rfl, (Option.some.inj e).symm⟩
  refine ⟨fun j q e => ?_, fun j q e => ?_, fun j q e x hx => ?_⟩
  · obtain ⟨q₀, e0, rfl⟩ := inv j q e
    have := h.z _ _ e0
    dsimp only
    by_cases z : j = a
    · rw [if_pos z, List.length_append]; simp; omega
    · rw [if_neg z]; omega
  · obtain ⟨q₀, e0, rfl⟩ := inv j q e
    dsimp only
    by_cases z : j = c
    · rw [if_pos z]; exact ex _ _ ha
    · rw [if_neg z]; obtain ⟨q', e'⟩ := h.u _ _ e0; exact ex _ _ e'
  · obtain ⟨q₀, e0, rfl⟩ := inv j q e
    dsimp only at hx
    by_cases z : j = a
    · rw [if_pos z] at hx
      rcases List.mem_append.mp hx with hx | hx
      · rcases List.mem_append.mp hx with hx | hx
        · obtain ⟨q', e'⟩ := h.m _ _ e0 x (List.mem_append_left _ hx); exact ex _ _ e'
        · rw [List.mem_singleton.mp hx]; exact ex _ _ hc
      · obtain ⟨q', e'⟩ := h.m _ _ e0 x (List.mem_append_right _ hx); exact ex _ _ e'
    · rw [if_neg z] at hx
      obtain ⟨q', e'⟩ := h.m _ _ e0 x hx; exact ex _ _ e'
theorem Fit.leave {p : Int} (h : Fit b R) : Fit b (rLeave R p c) := by
  have ex : ∀ x q, R x = some q → ∃ q', rLeave R p c x = some q' := fun x q e => by rw [rLeave_get, e]; exact ⟨_, rfl⟩
  have inv : ∀ j q, rLeave R p c j = some q → ∃ q₀, R j = some q₀ ∧ q.up = q₀.up ∧ q.come.length ≤ q₀.come.length ∧ q.been.length ≤ q₀.been.length ∧ ∀ x ∈ q.come ++ q.been, x ∈ q₀.come ++ q₀.been := fun j q e => by
    rw [rLeave_get] at e
    cases h0 : R j with
    | none => rw [h0] at e; cases e
    | some q₀ =>
      rw [h0] at e
      have e := (Option.some.inj e).symm
      subst e
      refine ⟨q₀, rfl, ?_⟩
      by_cases z : j = p
      · simp only [if_pos z]
        refine ⟨by trivial, List.length_filter_le _ _, List.length_filter_le _ _, fun x hx => ?_⟩
        rcases List.mem_append.mp hx with hx | hx
        · exact List.mem_append_left _ (List.mem_filter.mp hx).1
        · exact List.mem_append_right _ (List.mem_filter.mp hx).1
      · simp only [if_neg z]
        exact ⟨by trivial, Nat.le_refl _, Nat.le_refl _, fun x hx => hx⟩
  refine ⟨fun j q e => ?_, fun j q e => ?_, fun j q e x hx => ?_⟩
  · obtain ⟨q₀, e0, _, l1, l2, _⟩ := inv j q e
    have := h.z _ _ e0; omega
  · obtain ⟨q₀, e0, hu, _⟩ := inv j q e
    obtain ⟨q', e'⟩ := h.u _ _ e0
    rw [hu]; exact ex _ _ e'
  · obtain ⟨q₀, e0, _, _, _, hm⟩ := inv j q e
    obtain ⟨q', e'⟩ := h.m _ _ e0 x (hm x hx)
    exact ex _ _ e'
theorem Fit.new {op : Bool} {r0 : Row} (h : Fit b R) (hi : R i = none) (h0 : R 0 = some r0) : Fit b (upd R i (some ⟨0, op, [], []⟩)) := by
  have ex : ∀ x q, R x = some q → ∃ q', upd R i (some ⟨0, op, [], []⟩) x = some q' := fun x q e => ⟨q, (upd_ne _ _ fun z => by rw [z, hi] at e; cases e).trans e⟩
  have inv : ∀ j q, upd R i (some ⟨0, op, [], []⟩) j = some q → q = ⟨0, op, [], []⟩ ∨ R j = some q := fun j q e => by
    by_cases z : j = i
    · subst z; rw [upd_self] at e; exact .inl (Option.some.inj e).symm
    · rw [upd_ne _ _ z] at e; exact .inr e
  refine ⟨fun j q e => ?_, fun j q e => ?_, fun j q e x hx => ?_⟩
  · rcases inv j q e with rfl | e
    · exact Nat.zero_le _
    · exact h.z _ _ e
  · rcases inv j q e with rfl | e
    · exact ex _ _ h0
    · obtain ⟨q', e'⟩ := h.u _ _ e; exact ex _ _ e'
  · rcases inv j q e with rfl | e
    · cases hx
    · obtain ⟨q', e'⟩ := h.m _ _ e x hx; exact ex _ _ e'
theorem Fit.more {b' : Nat} (h : Fit b R) (k : b ≤ b') : Fit b' R := ⟨fun j q e => Nat.le_trans (h.z j q e) k, h.u, h.m⟩
theorem Fit.need {r0 : Row} (h : Fit b R) (h0 : R 0 = some r0) : Fit (b + 1) (rNeed R i) := by
  unfold rNeed
  cases hR : (R i).isSome with
  | true => rw [if_pos rfl]; exact h.more (Nat.le_succ _)
  | false =>
    rw [if_neg (by decide)]
    have hi : R i = none := by cases e : R i with
      | none => rfl
      | some x => rw [e] at hR; cases hR
    have ne : (0 : Int) ≠ i := fun z => by rw [← z, h0] at hi; cases hi
    exact (h.new hi h0).join ((upd_ne _ _ ne).trans h0) (upd_self _ _ _)
theorem need_some {j : Int} {q : Row} (h : R j = some q) : ∃ q', rNeed R i j = some q' ∧ (j ≠ 0 → q' = q) := by
  unfold rNeed
  cases hR : (R i).isSome with
  | true => rw [if_pos rfl]; exact ⟨q, h, fun _ => rfl⟩
  | false =>
    rw [if_neg (by decide)]
    have ne : j ≠ i := fun z => by rw [← z, h] at hR; cases hR
    rw [rJoin_get, upd_ne _ _ ne, h]
    exact ⟨_, rfl, fun z => by simp [z, ne]⟩
theorem need_self {r0 : Row} (h0 : R 0 = some r0) : ∃ q, rNeed R i i = some q := by
  unfold rNeed
  cases hR : (R i).isSome with
  | true => rw [if_pos rfl]; exact Option.isSome_iff_exists.mp hR
  | false => rw [if_neg (by decide), rJoin_get, upd_self]; exact ⟨_, rfl⟩
theorem need_none {j : Int} (h : R j = none) (hj : j ≠ i) : rNeed R i j = none := by
  unfold rNeed
  cases hR : (R i).isSome with
  | true => rw [if_pos rfl]; exact h
  | false => rw [if_neg (by decide), rJoin_get, upd_ne _ _ hj, h]; rfl
end
section
variable {W s : Int} {S : ST} {R : RT} {ids : List Int}
theorem RndX.mem {n : Node} {r : Row} {i : Int} (X : RndX W s nE S R) (Wf : WF ids none' S) (hn : S i = some n) (hr : R i = some r) : n.kids.Perm (r.come ++ r.been) := (X.rel _ _ _ (fun q => q) hn hr).kids (Wf.qp _ _ hn)
theorem RndX.fit (X : RndX W s nE S R) (Wf : WF ids none' S) : Fit ids.length R ∧ RowsOk ids.length R ∧ (∀ j q, j ≠ 0 → R j = some q → q.up ≠ j) := by
  refine ⟨⟨fun j q e => ?_, fun j q e => ?_, fun j q e x hx => ?_⟩, fun j q e => ?_, fun j q j0 e => ?_⟩
  · obtain ⟨n, hn⟩ := X.get' e
    have := (X.mem Wf hn e).length_eq
    rw [List.length_append] at this
    have := (Wf.len hn).1
    omega
  · obtain ⟨n, hn⟩ := X.get' e
    rw [(X.rel _ _ _ (fun q => q) hn e).up]
    by_cases z : j = 0
    · obtain ⟨m, hm, _, hp⟩ := Wf.root
      rw [z, hm] at hn; cases hn
      rw [hp]; exact X.get hm
    · obtain ⟨p, np, e1, e2, _⟩ := Wf.par hn z (fun q => q)
      rw [e1]; exact X.get e2
  · obtain ⟨n, hn⟩ := X.get' e
    obtain ⟨_, _, k, hk, _⟩ := (Wf.kd _ _ _ hn).mp ((X.mem Wf hn e).mem_iff.mpr hx)
    exact X.get hk
  · obtain ⟨n, hn⟩ := X.get' e
    have p := X.mem Wf hn e
    refine ⟨p.nodup_iff.mp (Wf.nd _ _ hn), ?_⟩
    have := p.length_eq
    rw [List.length_append] at this
    have := (Wf.len hn).1
    omega
  · obtain ⟨n, hn⟩ := X.get' e
    rw [(X.rel _ _ _ (fun q => q) hn e).up]
    obtain ⟨b, nb, e1, e2, e3, _⟩ := Wf.out hn j0
    rw [e1]; exact e3
end

/-! # T3g -/
set_option maxRecDepth 100000

section
variable {prog : Program} {w : World} {p : Program} {loose : List Str} {mean : ExcName → Option Value} {mg mb : Str → Option Value}
variable {A : Around} {B : Base} {fs : List (Env × LM)} {σ σ' : AH} {Q : Value → AH → Prop} {X : Value → Bool → AH → Prop}
variable {fe env : Env} {es : List Env} {u : Nat} {m : LM}
section
variable {g g' : RG} {D : Addr} {R R' : RT} {len len' : Nat} {i : Int} {r : Row}
local macro_rules | `(tactic| walk_at "x") => `(tactic| with_reducible (refine is_dict ?_; refine t_rowLit (by assumption) ?_))
theorem RowsOk.more {b b' : Nat} (h : RowsOk b R) (k : b ≤ b') : RowsOk b' R := fun j q e => ⟨(h j q e).1, Nat.le_trans (h j q e).2 k⟩
theorem Tab.len10 (h : Tab K3 g D R len σ) {l : List (Value × Value)} (hl : σ D = some (.dict l)) (hz : len < 900) : l.length ≤ 10000 := by
  obtain ⟨l', e1, e2, _⟩ := h.d
  rw [hl] at e1; cases e1; omega
set_option maxHeartbeats 4000000 in
theorem k3_wants {kind name under : Int} {alone : Bool} {a : Value} {r0 : Row} (O : Ok (mkW prog w p loose mean mg mb) A B (fs.map (·.1)) 0) (hsh : fs.length < 20) (hA : A.handled = none) (h : Tab K3 g D R len σ) (hlen : len < 800) (h0 : R 0 = some r0) (F : Fit 30 R) (ok : RowsOk 30 R)
    (hup : ∀ j q, j ≠ 0 → R j = some q → q.up ≠ j) (hw : rWants R kind name under alone = some (a, R'))
    (hq : ∀ g' len' σ', len' ≤ len + 2 → Tab K3 g' D R' len' σ' → Fr2 (footR K3 g D R) σ (footR K3 g' D R') σ' → Q a σ') : CallR (mkW prog w p loose mean mg mb) A B fs (.ref a_law_wants) [.ref D, .int kind 0, .int name 0, .int under 0, .bool alone] [] σ Q X := by
  refine CallR.go O (by omega) (by rfl) (by kernel_rfl) (binds5 (p1 := "rows") (p2 := "kind") (p3 := "name") (p4 := "under") (p5 := "alone") (by intro _ _ _ _ _; rfl)) rfl fun L A' O' hA' => ?_
  have hA₁ := hA'.trans hA
  have Hd' : HdOk A' B := .inl hA₁
  unfold rWants at hw
  walk_at "ss"
  refine op_ge (op_truthy_bool ⟨fun c => ?_, fun c => ?_⟩)
  · have c : 6 ≤ kind := by simpa using c
    rw [if_pos c] at hw
    cases ht : rTurn 20 R 0 with
    | none => rw [ht] at hw; cases hw
    | some z =>
    obtain ⟨t, R₁⟩ := z
    rw [ht] at hw; dsimp only at hw
    injection hw with hw; injection hw with e1 e2
    subst e2
    walk_at "ss"
    refine (k3_turn 20 (fs := (_, _) :: fs) O'.less (by simp; omega) hA₁ h h0 (ok.more (by decide)) ht fun g' σ' S => ?_).w
    walk_at "ss"
    refine op_ne (op_truthy_bool ⟨fun c0 => ?_, fun c0 => ?_⟩)
    · have c0 : t ≠ 0 := by simpa using c0
      rw [if_pos c0] at e1; subst e1
      walk_at "ss"
      exact hq _ _ _ (by omega) S.1 S.2.1
    · have c0 : t = 0 := by simpa using c0
      rw [if_neg (by simp [c0])] at e1; subst e1
      walk_at "ss"
      exact hq _ _ _ (by omega) S.1 S.2.1
  have c : ¬ 6 ≤ kind := by simpa using c
  rw [if_neg c] at hw
  have same : ∀ {x : Str}, some (Value.str x 0, R) = some (a, R') → Q (.str x 0) σ := fun {x} e => by
    injection e with e; injection e with e1 e2
    subst e1 e2
    exact hq _ _ _ (by omega) h .refl
  walk_at "ss"
  refine op_eq (op_truthy_bool ⟨fun k0 => ?_, fun k0 => ?_⟩)
  · have k0 : kind = 0 := by simpa using k0
    rw [if_pos k0] at hw
    walk_at "ss"
    obtain ⟨l, h1, h2⟩ := h.isSome (i := name)
    refine op_inDict O'.g h1 (k := .n name) rfl ?_
    rw [h2]
    refine op_truthy_bool ⟨fun c1 => ?_, fun c1 => ?_⟩
    · rw [if_pos c1] at hw
      walk_at "ss"
      exact same hw
    rw [if_neg (by rw [c1]; decide)] at hw
    walk_at "ss"
    refine op_eq (op_truthy_bool ⟨fun c2 => ?_, fun c2 => ?_⟩)
    · have c2 : name = under := by simpa using c2
      rw [if_pos c2] at hw
      walk_at "ss"
      exact same hw
    have c2 : name ≠ under := by simpa using c2
    rw [if_neg c2] at hw
    injection hw with hw; injection hw with e1 e2
    subst e1 e2
    have hN : R name = none := by cases e : R name with
      | none => rfl
      | some x => rw [e] at c1; cases c1
    have n0 : name ≠ 0 := fun z => by rw [z, h0] at hN; cases hN
    walk_at "ss"
    refine (k3_need (fs := (_, _) :: fs) (under := under) O'.less (by simp; omega) h h0 (by have := F.z _ _ h0; omega) (by omega) fun g₁ len₁ σ₁ hl₁ S₁ => ?_).w
    refine ⟨trivial, ?_⟩
    have F₁ : Fit 31 (rNeed R under) := F.need h0
    have hN₁ : rNeed R under name = none := need_none hN c2
    obtain ⟨q0, hq0, _⟩ := need_some (i := under) h0
    obtain ⟨qu, hqu⟩ := need_self (i := under) h0
    have dm₁ : ∀ j q, R j = some q → ∃ q', rNeed R under j = some q' := fun j q e => by obtain ⟨q', e', _⟩ := need_some (i := under) e; exact ⟨q', e'⟩
    generalize rNeed R under = R₁ at *
    walk_at "ss"
    intro d a b τ hd ha hb hab kp t1 t2 t3
    walk_at "ss"
    obtain ⟨l₁, g1, g2⟩ := S₁.1.isSome (i := name)
    refine op_setDict O'.g (kp _ _ g1) (k := .n name) rfl (S₁.1.len10 g1 (by omega)) ?_
    have S₂ := S₁.1.new3 hN₁ g1 (by omega) hd ha hb hab kp t1 t2 t3
    generalize upd τ D _ = σ₂ at S₂ ⊢
    have F₂ : Fit 31 (upd R₁ name (some ⟨0, true, [], []⟩)) := F₁.new hN₁ hq0
    have hu₂ : upd R₁ name (some ⟨0, true, [], []⟩) under = some qu := (upd_ne _ _ (Ne.symm c2)).trans hqu
    walk_at "ss"
    refine (k3_place (fs := (_, _) :: fs) (alone := alone) O'.less (by simp; omega) Hd' S₂.1 (upd_self _ _ _) hu₂ ⟨by have := F₂.z _ _ hu₂; omega, by simp⟩ c2 (F₂.m _ _ hu₂) fun g₃ σ₃ S₃ => ?_).w
    refine ⟨trivial, ?_⟩
    walk_at "ss"
    exact hq _ _ _ (by omega) S₃.1 ((S₁.2.1.trans S₂.2.1).trans S₃.2.1)
  have k0 : kind ≠ 0 := by simpa using k0
  rw [if_neg k0] at hw
  walk_at "ss"
  refine op_eq (op_truthy_bool ⟨fun n0 => ?_, fun n0 => ?_⟩)
  · have n0 : name = 0 := by simpa using n0
    rw [if_pos n0] at hw
    walk_at "ss"
    exact same hw
  have n0 : name ≠ 0 := by simpa using n0
  rw [if_neg n0] at hw
  walk_at "ss"
  obtain ⟨l, h1, h2⟩ := h.isSome (i := name)
  refine op_notInDict O'.g h1 (k := .n name) rfl ?_
  rw [h2]
  refine op_truthy_bool ⟨fun c1 => ?_, fun c1 => ?_⟩
  · have hN : R name = none := by cases e : R name with
      | none => rfl
      | some x => rw [e] at c1; cases c1
    rw [hN] at hw
    walk_at "ss"
    exact same hw
  obtain ⟨r, hr⟩ : ∃ r, R name = some r := by
    cases e : R name with
    | none => rw [e] at c1; cases c1
    | some x => exact ⟨x, rfl⟩
  rw [hr] at hw; dsimp only at hw
  obtain ⟨l', g1, g2⟩ := h.get hr
  walk_at "ss"
  refine op_itemDict O'.g g1 (k := .n name) rfl g2 ?_
  walk_at "ss"
  refine op_eq (op_truthy_bool ⟨fun k1 => ?_, fun k1 => ?_⟩)
  · have k1 : kind = 1 := by simpa using k1
    rw [if_pos k1] at hw
    walk_at "ss"
    refine op_eq (op_truthy_bool ⟨fun c2 => ?_, fun c2 => ?_⟩)
    · have c2 : name = under := by simpa using c2
      rw [if_pos c2] at hw
      walk_at "ss"
      exact same hw
    have c2 : name ≠ under := by simpa using c2
    rw [if_neg c2] at hw
    walk_at "ss"
    refine (k3_need (fs := (_, _) :: fs) (under := under) O'.less (by simp; omega) h h0 (by have := F.z _ _ h0; omega) (by omega) fun g₁ len₁ σ₁ hl₁ S₁ => ?_).w
    refine ⟨trivial, ?_⟩
    have F₁ : Fit 31 (rNeed R under) := F.need h0
    obtain ⟨qu, hqu⟩ := need_self (i := under) h0
    obtain ⟨r₁, hr₁, er₁⟩ := need_some (i := under) hr
    obtain rfl := er₁ n0
    have dm₁ : ∀ j q, R j = some q → ∃ q', rNeed R under j = some q' := fun j q e => by obtain ⟨q', e', _⟩ := need_some (i := under) e; exact ⟨q', e'⟩
    rw [← S₁.2.2 _ _ hr]
    generalize rNeed R under = R₁ at *
    unfold rMove at hw
    rw [hr₁] at hw
    obtain ⟨ov, hov⟩ : ∃ ov, rOver R₁ name 101 under = some ov := by
      cases e : rOver R₁ name 101 under with
      | none => rw [e] at hw; cases hw
      | some x => exact ⟨x, rfl⟩
    rw [hov] at hw; dsimp only at hw
    with_reducible refine nx_next ?_
    with_reducible refine t_stmt ?_
    with_reducible refine Tr.mono (Q := fun f m' σ' => f = .next ∧ m' "rows" = some (.ref D) ∧ m' "name" = some (.int name 0) ∧ m' "under" = some (.int under 0) ∧ m' "alone" = some (.bool alone) ∧ ∃ g₂ R₂ r₂, Tab K3 g₂ D R₂ len₁ σ' ∧ Fr2 (footR K3 g D R) σ (footR K3 g₂ D R₂) σ' ∧ Fit 32 R₂ ∧ R₂ name = some r₂ ∧ r₂.up = r₁.up ∧ (∃ q, R₂ under = some q) ∧
      some (Value.str (Str.ofString "done") 0, rPlace (rLeave R₂ r₁.up name) under name alone) = some (a, R')) ?_ ?_ (fun _ _ _ _ x => x)
    · walk_at "ss"
      refine (k3_over (fs := (_, _) :: fs) O'.less (by simp; omega) S₁.1 hov ?_).w
      refine op_truthy_bool ⟨fun cv => ?_, fun cv => ?_⟩
      · rw [if_pos cv, hqu] at hw
        dsimp only [Option.map_some] at hw
        walk_at "ss"
        obtain ⟨q1, hq1⟩ := F₁.u _ _ hqu
        have z1 := F₁.z _ _ hq1
        refine (k3_leave (fs := (_, _) :: fs) (name := under) O'.less (by simp; omega) Hd' S₁.1 hqu hq1 (by omega) fun g₂ σ₂ S₂ => ?_).w
        refine ⟨trivial, ?_⟩
        have F₂ : Fit 31 (rLeave R₁ qu.up under) := F₁.leave
        have ex₂ : ∀ j q, R₁ j = some q → ∃ q', rLeave R₁ qu.up under j = some q' ∧ q'.up = q.up := fun j q e => by rw [rLeave_get, e]; exact ⟨_, rfl, by split <;> rfl⟩
        obtain ⟨r₂, hr₂, er₂⟩ := ex₂ _ _ hr₁
        obtain ⟨u₂, hu₂, _⟩ := ex₂ _ _ hqu
        rw [← S₂.2.2 _ _ hr₁]
        generalize rLeave R₁ qu.up under = R₂ at *
        walk_at "ss"
        refine op_itemDict O'.g (S₂.1.row _ _ hr₂) (k := .s "up") rfl g3_up ?_
        walk_at "ss"
        obtain ⟨p₂, hp₂⟩ := F₂.u _ _ hr₂
        have z2 := F₂.z _ _ hp₂
        refine (k3_join (fs := (_, _) :: fs) (name := under) O'.less (by simp; omega) S₂.1 hu₂ hp₂ (by omega) fun σ₃ S₃ => ?_).w
        refine ⟨trivial, ?_⟩
        have F₃ : Fit 32 (rJoin R₂ r₂.up under) := F₂.join hp₂ hu₂
        walk_at "ss"
        rw [← er₂] at hw
        refine ⟨rfl, rfl, rfl, rfl, rfl, g₂, rJoin R₂ r₂.up under, _, S₃.1, (S₁.2.1.trans S₂.2.1).trans S₃.2.1, F₃, by rw [rJoin_get, hr₂]; rfl, by dsimp only; rw [if_neg c2]; exact er₂, rJoin_some hu₂, by rw [← er₂]; exact hw⟩
      · rw [if_neg (by rw [cv]; decide)] at hw
        walk_at "ss"
        exact ⟨rfl, rfl, rfl, rfl, rfl, g₁, R₁, r₁, S₁.1, S₁.2.1, F₁.more (by decide), hr₁, rfl, ⟨_, hqu⟩, hw⟩
    · rintro f m' σ' ⟨rfl, m1, m2, m3, m4, g₂, R₂, r₂, T₂, fr₂, F₂, hr₂, er₂, ⟨u₂, hu₂⟩, hw⟩
      injection hw with hw; injection hw with e1 e2
      subst e1 e2
      walk_at "ss"
      obtain ⟨p₂, hp₂⟩ := F₂.u _ _ hr₂
      have z2 := F₂.z _ _ hp₂
      refine (k3_leave (fs := (_, _) :: fs) (name := name) O'.less (by simp; omega) Hd' T₂ hr₂ hp₂ (by omega) fun g₃ σ₃ S₃ => ?_).w
      refine ⟨trivial, ?_⟩
      rw [er₂] at S₃
      have F₃ : Fit 32 (rLeave R₂ r₁.up name) := F₂.leave
      have ex₃ : ∀ j q, R₂ j = some q → ∃ q', rLeave R₂ r₁.up name j = some q' := fun j q e => by rw [rLeave_get, e]; exact ⟨_, rfl⟩
      obtain ⟨r₃, hr₃⟩ := ex₃ _ _ hr₂
      obtain ⟨u₃, hu₃⟩ := ex₃ _ _ hu₂
      generalize rLeave R₂ r₁.up name = R₃ at *
      walk_at "ss"
      refine (k3_place (fs := (_, _) :: fs) (alone := alone) O'.less (by simp; omega) Hd' S₃.1 hr₃ hu₃ ⟨by have := F₃.z _ _ hu₃; omega, by have := F₃.z _ _ hr₃; omega⟩ c2 (F₃.m _ _ hu₃) fun g₄ σ₄ S₄ => ?_).w
      refine ⟨trivial, ?_⟩
      walk_at "ss"
      exact hq _ _ _ (by omega) S₄.1 ((fr₂.trans S₃.2.1).trans S₄.2.1)
  have k1 : kind ≠ 1 := by simpa using k1
  rw [if_neg k1] at hw
  walk_at "ss"
  refine op_eq (op_truthy_bool ⟨fun k5 => ?_, fun k5 => ?_⟩)
  · have k5 : kind = 5 := by simpa using k5
    rw [if_pos k5] at hw
    injection hw with hw; injection hw with e1 e2
    subst e1 e2
    walk_at "ss"
    obtain ⟨p₁, hp₁⟩ := F.u _ _ hr
    have z1 := F.z _ _ hp₁
    have ne := hup _ _ n0 hr
    refine (k3_leave (fs := (_, _) :: fs) (name := name) O'.less (by simp; omega) Hd' h hr hp₁ (by omega) fun g₁ σ₁ S₁ => ?_).w
    refine ⟨trivial, ?_⟩
    have hr₁ : rLeave R r.up name name = some r := by rw [rLeave_get, hr, Option.map_some, if_neg (Ne.symm ne)]
    have ex₁ : ∀ j q, R j = some q → ∃ q', rLeave R r.up name j = some q' := fun j q e => by rw [rLeave_get, e]; exact ⟨_, rfl⟩
    obtain ⟨p₂, hp₂⟩ := ex₁ _ _ hp₁
    have zr := F.z _ _ hr
    have F₁ : Fit 30 (rLeave R r.up name) := F.leave
    have zp := F₁.z _ _ hp₂
    have mm := F₁.m _ _ hr₁
    rw [← S₁.2.2 _ _ hr]
    generalize rLeave R r.up name = R₁ at *
    walk_at "ss"
    refine t_ForL O' Hd' ?_
    walk_at "ss"
    refine op_itemDict O'.g (S₁.1.row _ _ hr₁) (k := .s "come") rfl g3_come ?_
    walk_at "ss"
    refine op_itemDict O'.g (S₁.1.row _ _ hr₁) (k := .s "been") rfl g3_been ?_
    have L0 : σ₁ (g₁.rl 0 name) = some (.seq "list" (iv r.come)) := S₁.1.lst _ _ 0 hr₁ (by decide)
    have L1 : σ₁ (g₁.rl 1 name) = some (.seq "list" (iv r.been)) := S₁.1.lst _ _ 1 hr₁ (by decide)
    refine op_addList L0 L1 (by rw [iv_length, iv_length]; omega) fun a1 ha1 => ?_
    rw [← iv_app]
    have S₂ := S₁.1.keep (σ' := upd σ₁ a1 (some (.seq "list" (iv (r.come ++ r.been))))) fun b c e => (upd_ne _ _ fun z => by rw [z, ha1] at e; cases e).trans e
    have o₁ : ¬ footR K3 g₁ D R₁ a1 := S₁.1.offD ha1
    have c₁ : upd σ₁ a1 (some (.seq "list" (iv (r.come ++ r.been)))) a1 = some (.seq "list" (iv (r.come ++ r.been))) := upd_self _ _ _
    generalize upd σ₁ a1 (some (.seq "list" (iv (r.come ++ r.been)))) = σ₂ at S₂ c₁ ⊢
    have ll : (r.come ++ r.been).length ≤ 30 := by rw [List.length_append]; omega
    refine ⟨a1, iv (r.come ++ r.been), rfl, fun k m' σ' => m' "rows" = some (.ref D) ∧ m' "name" = some (.int name 0) ∧ m' "row" = some (.ref (g₁.ra name)) ∧ TabS K3 g₁ D R₁ σ₂ g₁ (rJoins R₁ r.up ((r.come ++ r.been).take k)) len σ' ∧ σ' a1 = some (.seq "list" (iv (r.come ++ r.been))), ⟨rfl, rfl, rfl, .refl S₂.1, c₁⟩, fun k m' σ' hI => hI.2.2.2.2, fun m' σ' hI => ?_, fun B' hB' k m' σ' v hI hv r' hr' => ?_⟩
    · obtain ⟨m1, m2, m3, S₅, _⟩ := hI
      rw [iv_length, List.take_length] at S₅
      obtain ⟨r₅, hr₅⟩ := rJoins_some (a := r.up) (l := r.come ++ r.been) hr₁
      obtain ⟨l₅, g5, g6⟩ := S₅.1.get hr₅
      walk_at "ss"
      refine t_DeleteSub ?_
      walk_at "ss"
      refine op_delDict O'.g g5 (k := .n name) rfl (S₅.1.len10 g5 (by omega)) g6 ?_
      have V := S₅.1.del (σ' := upd σ' D (some (.dict (ddel (.n name) l₅)))) hr₅ g5 (upd_self _ _ _) fun b c e n => (upd_ne _ _ n).trans e
      walk_at "ss"
      exact hq _ _ _ (by omega) V.1 (((S₁.2.1.trans S₂.2.1).trans S₅.2.1).trans V.2)
    · obtain ⟨m1, m2, m3, S₅, c₅⟩ := hI
      have O₂ := O'.le hB'
      obtain ⟨x, rfl, hx⟩ := iv_get hv
      have hk := (List.getElem?_eq_some_iff.mp hx).1
      obtain ⟨q, hq'⟩ := mm x (List.mem_of_getElem? hx)
      obtain ⟨q₅, hq₅⟩ := rJoins_some (a := r.up) (l := (r.come ++ r.been).take k) hq'
      obtain ⟨p₅, hp₅, lp₅⟩ : ∃ q, rJoins R₁ r.up ((r.come ++ r.been).take k) r.up = some q ∧ q.come.length ≤ p₂.come.length + k := by
        rw [rJoins_get, hp₂]
        exact ⟨_, rfl, by simp; omega⟩
      obtain ⟨r₅, hr₅, eu₅⟩ : ∃ q, rJoins R₁ r.up ((r.come ++ r.been).take k) name = some q ∧ q.up = r.up := by
        rw [rJoins_get, hr₁]
        exact ⟨_, rfl, by dsimp only; split <;> rfl⟩
      walk_at "ss"
      refine op_itemDict O₂.g (S₅.1.row _ _ hr₅) (k := .s "up") rfl g3_up ?_
      rw [eu₅]
      walk_at "ss"
      refine (k3_join (fs := (_, _) :: fs) O₂.less (by simp; omega) S₅.1 hq₅ hp₅ (by omega) fun σ₆ S₆ => ?_).w
      refine ⟨trivial, ?_⟩
      walk_at "ss"
      rw [← rJoins_snoc] at S₆
      have et : (r.come ++ r.been).take (k + 1) = (r.come ++ r.been).take k ++ [x] := by rw [List.take_add_one, hx]; rfl
      rw [← et] at S₆
      refine ⟨?_, ?_, ?_, S₅.then S₆ fun j q e => rJoins_some e, (S₆.out c₅ (S₅.out c₁ o₁).2).1⟩
      · exact (upd_ne _ _ (by decide)).trans m1
      · exact (upd_ne _ _ (by decide)).trans m2
      · exact (upd_ne _ _ (by decide)).trans m3
  have k5 : kind ≠ 5 := by simpa using k5
  rw [if_neg k5] at hw
  injection hw with hw; injection hw with e1 e2
  subst e1 e2
  walk_at "ss"
  refine op_gt ?_
  walk_at "ss"
  refine op_setDict O'.g (h.row _ _ hr) (k := .s "open") rfl (by show 4 ≤ 10000; decide) ?_
  have eb : decide (kind > 2) = decide (2 < kind) := rfl
  rw [eb]
  have S₁ := h.field hr (f := fun r => { r with op := decide (2 < kind) }) ⟨rfl, rfl⟩ s3_open
  walk_at "ss"
  exact hq _ _ _ (by omega) S₁.1 S₁.2.1
end
end

/-! # T3h -/
set_option maxRecDepth 100000

section
variable {prog : Program} {w : World} {p : Program} {loose : List Str} {mean : ExcName → Option Value} {mg mb : Str → Option Value}
variable {A : Around} {B : Base} {fs : List (Env × LM)} {σ σ' : AH} {Q : Value → AH → Prop} {X : Value → Bool → AH → Prop}
variable {fe env : Env} {es : List Env} {u : Nat} {m : LM}
section
variable {g g' : RG} {D : Addr} {R R' : RT} {len len' : Nat} {i : Int} {r : Row}
local macro_rules | `(tactic| walk_at "x") => `(tactic| with_reducible (refine t_BoolOne ?_))
local macro_rules | `(tactic| walk_at "x") => `(tactic| with_reducible (refine t_OrV ?_))
local macro_rules | `(tactic| walk_at "x") => `(tactic| with_reducible (refine t_AndV ?_))
def Left3 (R : RT) (kind name under : Int) (lo : Bool) : Prop := lo = true ↔ (kind = 1 ∧ name ≠ 0 ∧ (R name).isSome = true ∧ name ≠ under ∧ rOver R name 101 under = some true ∧ ∃ q, R under = some q ∧ q.come ++ q.been ≠ [])
theorem k3_left {kind name under : Int} (O : Ok (mkW prog w p loose mean mg mb) A B (fs.map (·.1)) 0) (hsh : fs.length < 48) (h : Tab K3 g D R len σ) (F : Fit 30 R)
    (ho : kind = 1 → name ≠ 0 → (R name).isSome = true → (R under).isSome = true → name ≠ under → ∃ ov, rOver R name 101 under = some ov)
    (hq : ∀ lo σ', (∀ a c, σ a = some c → σ' a = some c) → Left3 R kind name under lo → Q (.bool lo) σ') :
    CallR (mkW prog w p loose mean mg mb) A B fs (.ref a_law_left_out) [.ref D, .int kind 0, .int name 0, .int under 0] [] σ Q X := by
  refine CallR.go O (by omega) (by rfl) (by kernel_rfl) (binds4 (p1 := "rows") (p2 := "kind") (p3 := "name") (p4 := "under") (by intro _ _ _ _; rfl)) rfl fun L A' O' hA' => ?_
  have no : ¬ (kind = 1 ∧ name ≠ 0 ∧ (R name).isSome = true ∧ name ≠ under ∧ rOver R name 101 under = some true ∧ ∃ q, R under = some q ∧ q.come ++ q.been ≠ []) → Q (.bool false) σ := fun n => hq false σ (fun _ _ e => e) ⟨fun z => (nomatch z), fun z => (n z).elim⟩
  walk_at "ss"
  refine op_ne (op_truthy_bool ⟨fun c => ?_, fun c => ?_⟩)
  · have c : kind ≠ 1 := by simpa using c
    walk_at "ss"
    try refine ch_t ?_
    walk_at "ss"
    exact no fun z => c z.1
  have k1 : kind = 1 := by simpa using c
  walk_at "ss"
  refine op_eq (op_truthy_bool ⟨fun c => ?_, fun c => ?_⟩)
  · have c : name = 0 := by simpa using c
    walk_at "ss"
    try refine ch_t ?_
    walk_at "ss"
    exact no fun z => z.2.1 c
  have n0 : name ≠ 0 := by simpa using c
  walk_at "ss"
  obtain ⟨l, h1, h2⟩ := h.isSome (i := name)
  refine op_notInDict O'.g h1 (k := .n name) rfl ?_
  rw [h2]
  refine op_truthy_bool ⟨fun c => ?_, fun c => ?_⟩
  · have c : (R name).isSome = false := by simpa using c
    walk_at "ss"
    try refine ch_t ?_
    walk_at "ss"
    exact no fun z => by rw [c] at z; exact (nomatch z.2.2.1)
  have hN : (R name).isSome = true := by simpa using c
  walk_at "ss"
  obtain ⟨l', g1, g2⟩ := h.isSome (i := under)
  refine op_notInDict O'.g g1 (k := .n under) rfl ?_
  rw [g2]
  refine op_truthy_bool ⟨fun c => ?_, fun c => ?_⟩
  · have c : (R under).isSome = false := by simpa using c
    walk_at "ss"
    try refine ch_t ?_
    walk_at "ss"
    exact no fun z => by obtain ⟨_, _, _, _, _, q, hq, _⟩ := z; rw [hq] at c; cases c
  have hU : (R under).isSome = true := by simpa using c
  walk_at "ss"
  refine op_eq (op_truthy_bool ⟨fun c => ?_, fun c => ?_⟩)
  · have c : name = under := by simpa using c
    walk_at "ss"
    try refine ch_t ?_
    walk_at "ss"
    exact no fun z => z.2.2.2.1 c
  have nu : name ≠ under := by simpa using c
  obtain ⟨ov, hov⟩ := ho k1 n0 hN hU nu
  obtain ⟨q, hqu⟩ := Option.isSome_iff_exists.mp hU
  have zq := F.z _ _ hqu
  walk_at "ss"
  try refine ch_f ?_
  walk_at "ss"
  refine (k3_over (fs := (_, _) :: fs) O'.less (by simp; omega) h hov ?_).w
  refine op_truthy_bool ⟨fun c => ?_, fun c => ?_⟩
  · subst c
    walk_at "ss"
    obtain ⟨l₂, e1, e2⟩ := h.get hqu
    refine op_itemDict O'.g e1 (k := .n under) rfl e2 ?_
    walk_at "ss"
    refine op_itemDict O'.g (h.row _ _ hqu) (k := .s "come") rfl g3_come ?_
    walk_at "ss"
    refine op_itemDict O'.g e1 (k := .n under) rfl e2 ?_
    walk_at "ss"
    refine op_itemDict O'.g (h.row _ _ hqu) (k := .s "been") rfl g3_been ?_
    have L0 : σ (g.rl 0 under) = some (.seq "list" (iv q.come)) := h.lst _ _ 0 hqu (by decide)
    have L1 : σ (g.rl 1 under) = some (.seq "list" (iv q.been)) := h.lst _ _ 1 hqu (by decide)
    refine op_addList L0 L1 (by rw [iv_length, iv_length]; omega) fun a1 ha1 => ?_
    walk_at "ss"
    refine call_len (upd_self _ _ _) (by rw [← iv_app, iv_length, List.length_append]; omega) ?_
    walk_at "ss"
    refine op_gt ?_
    walk_at "ss"
    refine hq _ _ (fun b c e => (upd_ne _ _ fun z => by rw [z, ha1] at e; cases e).trans e) ?_
    rw [← iv_app, iv_length]
    unfold Left3
    rw [decide_eq_true_iff]
    constructor
    · intro z
      exact ⟨k1, n0, hN, nu, hov, q, hqu, fun y => by rw [y] at z; simp at z⟩
    · rintro ⟨_, _, _, _, _, q', hq', ne⟩
      rw [hqu] at hq'; cases hq'
      cases e : q.come ++ q.been with
      | nil => exact (ne e).elim
      | cons x l => simp
  · subst c
    walk_at "ss"
    exact no fun z => by rw [hov] at z; exact (nomatch z.2.2.2.2.1)
end
end

/-! # D2 -/
set_option maxRecDepth 100000

section
variable {prog : Program} {w : World} {p : Program} {loose : List Str} {mean : ExcName → Option Value} {mg mb : Str → Option Value}
variable {A : Around} {B : Base} {fs : List (Env × LM)} {σ σ' : AH} {Q : Value → AH → Prop} {X : Value → Bool → AH → Prop}
variable {fe env : Env} {es : List Env} {u : Nat} {m : LM}
section
variable {G : Geo} {N N' : ST} {i : Int} {n : Node} {T : TA} {M : Int → Bool} {len : Nat} {ids : List Int}
theorem HT.away (h : HT T G N M len σ) (k : ∀ a c, σ a = some c → footT T G N a ∨ a = T.t → σ' a = some c) (kt : ∀ t v, σ t = some (.seq "tuple" v) → σ' t = some (.seq "tuple" v)) : HT T G N M len σ' := by
  refine ⟨h.H.away (fun a c e f => k a c e (.inl (.inl f))) kt, k _ _ h.tr (.inr rfl), ?_, h.sub, h.z⟩
  obtain ⟨l, h1, h2⟩ := h.d
  exact ⟨l, k _ _ h1 (.inl (.inr rfl)), h2⟩
theorem HT.mEq {M' : Int → Bool} (h : HT T G N M len σ) (e : ∀ i, M i = M' i) : HT T G N M' len σ := by
  rw [← (funext e : M = M')]; exact h
theorem domM_eq {N : ST} {M : Int → Bool} (h : ∀ j, M j = true ↔ ∃ n, N j = some n) (j : Int) : M j = domM N j := by
  cases q : domM N j with
  | true => exact (h j).mpr (domM_true.mp q)
  | false =>
    cases z : M j with
    | false => rfl
    | true =>
      have := domM_true.mpr ((h j).mp z)
      rw [q] at this; cases this
/-! ## the tree's deeds, told by the whole tree's shape -/
def parW (N : ST) (b : Int) (dv : Value) : ST := if (N b).isSome = true then N else pParB N b dv
abbrev BadW (wv : Value) : Prop := (∃ s, wv = .str s 0) ∨ ((∃ k, nv wv = some k ∧ ¬ (1 ≤ k ∧ k ≤ 256)) ∧ er wv = wv)
/-- a tree that knows all its streams, and what is beside it -/
structure DS3 (T : TA) (G : Geo) (N : ST) (σ : AH) (G' : Geo) (N' : ST) (len' : Nat) (σ' : AH) : Prop where
  h : HT T G' N' (domM N') len' σ'
  f : Fr2 (footT T G N) σ (footT T G' N') σ'
theorem DS3.same (h : HT T G N (domM N) len σ) : DS3 T G N σ G N len σ := ⟨h, .refl⟩
theorem d_ins {v dv wv : Value} {b : Int} {ex : Bool} {pos : List Value} {kw : List (Str × Value)} (ha : InsArgs (.ref T.t) v dv wv ex pos kw) (O : Ok (mkW prog w p loose mean mg mb) A B (fs.map (·.1)) 0) (hsh : fs.length < 44) (hA : A.handled = none)
    (h : HT T G N (domM N) len σ) (Wf : WF ids none' N) (hids : ids.length < 20) (hi : i ∈ ids) (hbi : b ∈ ids) (hv : IdV v i) (hd : DepV dv b) (hlen : len < 4000) (hmx : 0 ≤ T.mx ∧ T.mx < 10000) (hw : BadW wv ∨ (Wt wv ∧ er wv = wv))
    (hdup : (N i).isSome = true → ∀ ctx, X (.ref c_DuplicateStreamError) ctx σ)
    (hmany : N i = none → ¬ (len : Int) + 1 ≤ T.mx → ∀ ctx, X (.ref c_TooManyStreamsError) ctx σ)
    (hbad : N i = none → (len : Int) + 1 ≤ T.mx → BadW wv → ∀ ctx σ₁, DS3 T G N σ G N len σ₁ → X (.ref c_BadWeightError) ctx σ₁)
    (hself : N i = none → (len : Int) + 1 ≤ T.mx → Wt wv → b = i → ∀ ctx G₁ σ₁, DS3 T G N σ G₁ N len σ₁ → X (.ref c_PriorityLoop) ctx σ₁)
    (hroom : N i = none → N b = none → b ≠ i → (len : Int) + 1 ≤ T.mx → Wt wv → (len : Int) + 2 ≤ T.mx)
    (hdone : N i = none → (len : Int) + 1 ≤ T.mx → Wt wv → b ≠ i → ∀ G' len' σ', len' ≤ len + 2 → (((N b).isSome = true → len' = len + 1) ∧ ((N b).isSome = false → len' = len + 2)) → DS3 T G N σ G' (pPut (parW (pNew N i v wv) b dv) b i ex) len' σ' → Q .none σ') :
    CallR (mkW prog w p loose mean mg mb) A B fs (.ref a_T_insert_stream) pos kw σ Q X := by
  obtain ⟨nz, hnz, _⟩ := Wf.root
  cases hN : N i with
  | some ni => exact k_ins_dup ha O (by omega) (.inl hA) h hv (domM_true.mpr ⟨_, hN⟩) (hdup (by rw [hN]; rfl))
  | none =>
    have hMn := domM_false.mpr hN
    have i0 : i ≠ 0 := fun z => by rw [z, hnz] at hN; cases hN
    by_cases hr1 : (len : Int) + 1 ≤ T.mx
    · rcases hw with hw | ⟨hw, hwe⟩
      · exact k_ins_bad ha O (by omega) (.inl hA) h hv hMn hr1 hw fun ctx σ₁ k₁ => hbad hN hr1 hw ctx σ₁ ⟨h.away (fun a c e _ => k₁ a c e) fun t v e => k₁ t _ e, ⟨fun a c e _ => k₁ a c e, fun a f => .inl f⟩⟩
      · by_cases hbe : b = i
        · subst hbe
          have hd' : IdV dv b := hd.resolve_left fun q => i0 q.2
          exact k_ins_self ha O (by omega) (.inl hA) h hv hMn hN (Wf.noref' hN) hd' i0 hw hwe hr1 fun ctx G₁ σ₁ S => hself hN hr1 hw rfl ctx G₁ σ₁ ⟨S.1, S.2⟩
        · have bn : pNew N i v wv b = N b := upd_ne _ _ hbe
          cases hU : N b with
          | some nb =>
            have eP : parW (pNew N i v wv) b dv = pNew N i v wv := by unfold parW; rw [bn, hU]; exact if_pos rfl
            rw [eP] at hdone
            refine k_ins0 ha O (by omega) (.inl hA) h Wf.cl (Wf.bd (by omega)) hv hMn hN (Wf.noref' hN) hd hbe (domM_true.mpr ⟨_, hU⟩) hw hwe hr1 (by omega) fun G₁ σ₁ S _ => ?_
            refine hdone hN hr1 hw hbe G₁ (len + 1) σ₁ (by omega) ⟨fun _ => rfl, (fun q => by rw [hU] at q; cases q)⟩ ⟨S.1.mEq fun j => domM_eq (fun j => ?_) j, S.2⟩
            rw [pPut_dom]
            by_cases z : j = i
            · subst z; rw [upd_self]; exact ⟨fun _ => ⟨_, pNew_self⟩, fun _ => rfl⟩
            · rw [upd_ne _ _ z, domM_true]
              have : pNew N i v wv j = N j := upd_ne _ _ z
              rw [this]
          | none =>
            have b0 : b ≠ 0 := fun z => by rw [z, hnz] at hU; cases hU
            have hd' : IdV dv b := hd.resolve_left fun q => b0 q.2
            have hr2 := hroom hN hU hbe hr1 hw
            have eP : parW (pNew N i v wv) b dv = pParB (pNew N i v wv) b dv := by unfold parW; rw [bn, hU]; exact if_neg (by simp)
            rw [eP] at hdone
            have h1 : WF ids (fun x => x = i) (pNew N i v wv) := (Wf.new hi hN i0).congrD fun x => ⟨fun q => q.resolve_left id, .inr⟩
            have hD : ∀ x n, x = i → pNew N i v wv x = some n → n.par ≠ some b := fun x m hx hm hp => by
              subst hx; unfold pNew at hm; rw [upd_self] at hm; cases hm; cases hp
            have bn' : pNew N i v wv b = none := bn.trans hU
            have h2 := h1.parB (dv := dv) hbi bn' b0 hD
            obtain ⟨nb₂, hb₂⟩ : ∃ m, pParB (pNew N i v wv) b dv b = some m := by unfold pParB; exact md_dom.mpr (pAdd_dom.mpr ⟨_, upd_self _ _ _⟩)
            refine k_ins1 ha O (by omega) hA h Wf.cl (Wf.bd (by omega)) hv hMn hN (Wf.noref' hN) hd' hbe b0 (domM_false.mpr hU) (domM_true.mpr ⟨_, hnz⟩) hU (h1.noref hD bn') hw hwe hr2 hlen (h2.bd (by omega)) hb₂ fun G₁ σ₁ S => ?_
            refine hdone hN hr1 hw hbe G₁ (len + 2) σ₁ (by omega) ⟨(fun q => by rw [hU] at q; cases q), fun _ => rfl⟩ ⟨S.1.mEq fun j => domM_eq (fun j => ?_) j, S.2⟩
            rw [pPut_dom]
            unfold pParB
            rw [md_dom, pAdd_dom]
            by_cases z : j = i
            · subst z; rw [upd_self]
              refine ⟨fun _ => ?_, fun _ => rfl⟩
              have : pNew (pNew N j v wv) b dv (.int 16 0) j = pNew N j v wv j := upd_ne _ _ (Ne.symm hbe)
              rw [this]; exact ⟨_, pNew_self⟩
            · rw [upd_ne _ _ z]
              by_cases y : j = b
              · subst y; rw [upd_self]; exact ⟨fun _ => ⟨_, pNew_self⟩, fun _ => rfl⟩
              · rw [upd_ne _ _ y, domM_true]
                have e1 : pNew (pNew N i v wv) b dv (.int 16 0) j = pNew N i v wv j := upd_ne _ _ y
                have e2 : pNew N i v wv j = N j := upd_ne _ _ z
                rw [e1, e2]
    · exact k_ins_many ha O (by omega) (.inl hA) h hv hMn hr1 hmx (hmany hN hr1)
theorem d_rep {v dv wv : Value} {b : Int} {ex : Bool} (O : Ok (mkW prog w p loose mean mg mb) A B (fs.map (·.1)) 0) (hsh : fs.length < 40) (hA : A.handled = none)
    (h : HT T G N (domM N) len σ) (Wf : WF ids none' N) (hids : ids.length < 20) (hbi : b ∈ ids) (hv : IdV v i) (hd : DepV dv b) (hlen : len < 4000) (hmx : 0 ≤ T.mx ∧ T.mx < 10000) (hw : BadW wv ∨ (Wt wv ∧ er wv = wv))
    (hzero : i = 0 → ∀ ctx, X (.ref c_PseudoStreamError) ctx σ)
    (hmiss : i ≠ 0 → N i = none → ∀ ctx, X (.ref c_MissingStreamError) ctx σ)
    (hself : i ≠ 0 → (N i).isSome = true → b = i → ∀ ctx, X (.ref c_PriorityLoop) ctx σ)
    (hmany : i ≠ 0 → (N i).isSome = true → b ≠ i → N b = none → ¬ (len : Int) + 1 ≤ T.mx → ∀ ctx, X (.ref c_TooManyStreamsError) ctx σ)
    (hnew : i ≠ 0 → (N i).isSome = true → b ≠ i → N b = none → (len : Int) + 1 ≤ T.mx → Wt wv)
    (hbad : i ≠ 0 → (N i).isSome = true → b ≠ i → (N b).isSome = true → BadW wv → ∀ ctx, X (.ref c_BadWeightError) ctx σ)
    (hleaf : i ≠ 0 → (N i).isSome = true → b ≠ i → b ≠ 0 → Wt wv → ∀ nb, N b = some nb → cyc N i 100 b = some true → nb.kids = [])
    (hdone : i ≠ 0 → (N i).isSome = true → b ≠ i → Wt wv → (N b = none → (len : Int) + 1 ≤ T.mx) → ∀ cy N', ((cy = false ∧ b = 0) ∨ (b ≠ 0 ∧ cyc (parW N b dv) i 100 b = some cy)) → pRep (parW N b dv) i b wv cy ex = some N' →
      ∀ G' len' σ', (((N b).isSome = true → len' = len) ∧ ((N b).isSome = false → len' = len + 1)) → DS3 T G N σ G' N' len' σ' → Q .none σ') :
    CallR (mkW prog w p loose mean mg mb) A B fs (.ref a_T_reprioritize) [.ref T.t, v, dv, wv, .bool ex] [] σ Q X := by
  obtain ⟨nz, hnz, _⟩ := Wf.root
  have hM0 := domM_true.mpr ⟨_, hnz⟩
  by_cases i0 : i = 0
  · subst i0
    exact k_rep_zero O (by omega) (.inl hA) hv (hzero rfl)
  cases hN : N i with
  | none => exact k_rep_miss O (by omega) hA h hv i0 (domM_false.mpr hN) (hmiss i0 hN)
  | some ni =>
    have hMn := domM_true.mpr ⟨_, hN⟩
    have hNs : (N i).isSome = true := by rw [hN]; rfl
    by_cases hbe : b = i
    · subst hbe
      exact k_rep_self O (by omega) (.inl hA) h hv i0 hMn (hd.resolve_left fun q => i0 q.2) (hself i0 hNs rfl)
    by_cases b0 : b = 0
    · subst b0
      have hU : (N 0).isSome = true := by rw [hnz]; rfl
      have eP : parW N 0 dv = N := by unfold parW; rw [hU, if_pos rfl]
      rw [eP] at hdone
      rcases hw with hw | ⟨hw, hwe⟩
      · exact k_rep_root_bad O hsh (.inl hA) h hv i0 hMn hd hM0 hw (hbad i0 hNs hbe hU hw)
      · obtain ⟨N', hp, _⟩ := Wf.rep (wv := wv) (ex := ex) (cy := false) hN i0 hnz hbe (by omega) (.inl ⟨rfl, rfl⟩) (fun q => (nomatch q))
        refine k_rep_root O hsh (.inl hA) h hv i0 hMn hd hM0 hw hwe hp Wf.cl (Wf.bdk (by omega)) fun G₁ σ₁ S => ?_
        exact hdone i0 hNs hbe hw (fun q => by rw [hnz] at q; cases q) false N' (.inl ⟨rfl, rfl⟩) hp G₁ len σ₁ ⟨fun _ => rfl, (fun q => by rw [hU] at q; cases q)⟩ ⟨S.1.mEq fun j => domM_eq (fun j => by rw [domM_true, pRep_dom hp]) j, S.2⟩
    have hd' : IdV dv b := hd.resolve_left fun q => b0 q.2
    cases hU : N b with
    | some nb =>
      have hUs : (N b).isSome = true := by rw [hU]; rfl
      have eP : parW N b dv = N := by unfold parW; rw [hUs, if_pos rfl]
      rw [eP] at hdone
      obtain ⟨cy, hcy, _⟩ := Wf.cyc i0 hN hU b0 (by omega)
      rcases hw with hw | ⟨hw, hwe⟩
      · exact k_rep_bad O hsh (.inl hA) h hv i0 hMn hd' b0 hbe (domM_true.mpr ⟨_, hU⟩) hw hcy (hbad i0 hNs hbe hUs hw)
      · obtain ⟨N', hp, _⟩ := Wf.rep (wv := wv) (ex := ex) (cy := cy) hN i0 hU hbe (by omega) (.inr ⟨b0, hcy⟩) (fun q => by subst q; exact hleaf i0 hNs hbe b0 hw nb hU hcy)
        refine k_rep_hit O hsh (.inl hA) h hv i0 hMn hd' b0 hbe (domM_true.mpr ⟨_, hU⟩) hw hwe hcy hp Wf.cl (Wf.bdk (by omega)) fun G₁ σ₁ S => ?_
        exact hdone i0 hNs hbe hw (fun q => by rw [hU] at q; cases q) cy N' (.inr ⟨b0, hcy⟩) hp G₁ len σ₁ ⟨fun _ => rfl, (fun q => by rw [hU] at q; cases q)⟩ ⟨S.1.mEq fun j => domM_eq (fun j => by rw [domM_true, pRep_dom hp]) j, S.2⟩
    | none =>
      by_cases hr1 : (len : Int) + 1 ≤ T.mx
      · have hWt := hnew i0 hNs hbe hU hr1
        have hwe : er wv = wv := by
          rcases hw with (⟨s, rfl⟩ | q) | q
          · obtain ⟨k, e, _⟩ := hWt; cases e
          · exact q.2
          · exact q.2
        have eP : parW N b dv = pParB N b dv := by unfold parW; rw [hU]; exact if_neg (by simp)
        rw [eP] at hdone
        have h2 := Wf.parB (dv := dv) hbi hU b0 fun _ _ q => q.elim
        obtain ⟨nb₂, hb₂, hpb, hkb⟩ : ∃ m, pParB N b dv b = some m ∧ m.par = some 0 ∧ m.kids = [] := by
          unfold pParB
          refine ⟨_, md_get (pAdd_get' (upd_self _ _ _)), ?_⟩
          rw [if_pos rfl]
          dsimp only
          rw [if_pos rfl, if_neg b0]
          exact ⟨rfl, rfl⟩
        obtain ⟨ni₂, hi₂⟩ : ∃ m, pParB N b dv i = some m := by
          unfold pParB
          refine md_dom.mpr (pAdd_dom.mpr ⟨ni, ?_⟩)
          exact (upd_ne _ _ (Ne.symm hbe)).trans hN
        have hcy : cyc (pParB N b dv) i 100 b = some false := by
          unfold cyc
          rw [hb₂]; dsimp only
          rw [hpb]; dsimp only
          rw [if_neg (Ne.symm i0), if_pos rfl]
        obtain ⟨N', hp, _⟩ := h2.rep (wv := wv) (ex := ex) (cy := false) hi₂ i0 hb₂ hbe (by omega) (.inr ⟨b0, hcy⟩) (fun q => (nomatch q))
        refine k_rep_new O hsh hA h hv i0 hMn hd' b0 hbe (domM_false.mpr hU) hM0 hU (Wf.noref' hU) hWt hwe hr1 (by omega) Wf.cl (Wf.bd (by omega)) hcy hp (h2.bdk (by omega)) fun G₁ σ₁ S => ?_
        refine hdone i0 hNs hbe hWt (fun _ => hr1) false N' (.inr ⟨b0, hcy⟩) hp G₁ (len + 1) σ₁ ⟨(fun q => by rw [hU] at q; cases q), fun _ => rfl⟩ ⟨S.1.mEq fun j => domM_eq (fun j => ?_) j, S.2⟩
        rw [pRep_dom hp]
        unfold pParB
        rw [md_dom, pAdd_dom]
        by_cases y : j = b
        · subst y; rw [upd_self]; exact ⟨fun _ => ⟨_, pNew_self⟩, fun _ => rfl⟩
        · rw [upd_ne _ _ y, domM_true]
          have e1 : pNew N b dv (.int 16 0) j = N j := upd_ne _ _ y
          rw [e1]
      · exact k_rep_many O (by omega) hA h hv i0 hMn hd' b0 hbe (domM_false.mpr hU) hr1 hmx (hmany i0 hNs hbe hU hr1)
theorem d_rem {v : Value} (O : Ok (mkW prog w p loose mean mg mb) A B (fs.map (·.1)) 0) (hsh : fs.length < 44) (hA : A.handled = none) (h : HT T G N (domM N) len σ) (Wf : WF ids none' N) (hids : ids.length < 20) (hv : IdV v i)
    (hzero : i = 0 → ∀ ctx, X (.ref c_PseudoStreamError) ctx σ) (hmiss : i ≠ 0 → N i = none → ∀ ctx, X (.ref c_MissingStreamError) ctx σ)
    (hdone : i ≠ 0 → ∀ n b, N i = some n → n.par = some b → ∀ G' σ', DS3 T G N σ G' (dropN (pRem N b i true) i) (len - 1) σ' → Q .none σ') :
    CallR (mkW prog w p loose mean mg mb) A B fs (.ref a_T_remove_stream) [.ref T.t, v] [] σ Q X := by
  by_cases n0 : i = 0
  · subst n0
    exact k_remove_zero O (by omega) (.inl hA) hv (hzero rfl)
  cases hN : N i with
  | none => exact k_remove_miss O (by omega) hA h hv n0 (domM_false.mpr hN) (hmiss n0 hN)
  | some nn =>
    obtain ⟨b, nb, e1, e2, e3, e4, e5, e6⟩ := Wf.out hN n0
    have z1 := Wf.len hN
    have z2 := Wf.len e2
    refine k_remove_stream O (by omega) (.inl hA) h Wf.cl hv n0 (domM_true.mpr ⟨_, hN⟩) hN e1 e2 e3 e4 (by omega) fun G₁ σ₁ S => ?_
    have hd1 : ∀ j k, dropN (pRem N b i true) i j = some k → pRem N b i true j = some k ∧ j ≠ i := fun j k e => by
      by_cases z : j = i
      · subst z; unfold dropN at e; rw [upd_self] at e; cases e
      · unfold dropN at e; rw [upd_ne _ _ z] at e; exact ⟨e, z⟩
    refine hdone n0 nn b hN e1 G₁ σ₁ ⟨HT.mEq (M := upd (domM N) i false) ⟨S.1.H.less fun j k e => (hd1 j k e).1, S.1.tr, S.1.d, fun j hj => ?_, ?_⟩ fun j => (domM_eq (fun j => ?_) j), ⟨S.2.1, fun a f => S.2.2 a (f.imp (fun f => foot_dom (fun j k e => ⟨k, (hd1 j k e).1⟩) f) id)⟩⟩
    · by_cases z : j = i
      · subst z; rw [upd_self] at hj; cases hj
      · rw [upd_ne _ _ z] at hj
        obtain ⟨k, hk⟩ := pRem_dom.mpr (domM_true.mp hj)
        exact ⟨k, by unfold dropN; rw [upd_ne _ _ z]; exact hk⟩
    · obtain ⟨k, hk⟩ := S.1.z
      exact ⟨k, by unfold dropN; rw [upd_ne _ _ (Ne.symm n0)]; exact hk⟩
    · by_cases z : j = i
      · subst z; rw [upd_self]; exact ⟨fun q => (nomatch q), fun ⟨k, e⟩ => ((hd1 _ _ e).2 rfl).elim⟩
      · rw [upd_ne _ _ z, domM_true]
        have : dropN (pRem N b i true) i j = pRem N b i true j := upd_ne _ _ z
        rw [this, pRem_dom]
theorem d_block {v : Value} (O : Ok (mkW prog w p loose mean mg mb) A B (fs.map (·.1)) 0) (hsh : fs.length < 44) (hA : A.handled = none) (h : HT T G N (domM N) len σ) (hv : IdV v i)
    (hzero : i = 0 → ∀ ctx, X (.ref c_PseudoStreamError) ctx σ) (hmiss : i ≠ 0 → N i = none → ∀ ctx, X (.ref c_MissingStreamError) ctx σ)
    (hdone : i ≠ 0 → (N i).isSome = true → ∀ σ', DS3 T G N σ G (md N i fun n => { n with act := false }) len σ' → Q .none σ') :
    CallR (mkW prog w p loose mean mg mb) A B fs (.ref a_T_block) [.ref T.t, v] [] σ Q X := by
  by_cases n0 : i = 0
  · subst n0
    exact k_block_zero (T := T) O (by omega) (.inl hA) hv (hzero rfl)
  cases hN : N i with
  | none => exact k_block_miss O (by omega) hA h hv n0 (domM_false.mpr hN) (hmiss n0 hN)
  | some nn => exact k_block O (by omega) (.inl hA) h hv n0 (domM_true.mpr ⟨_, hN⟩) fun σ₁ S => hdone n0 (by rw [hN]; rfl) σ₁ ⟨S.1.mEq fun j => (domM_eq (fun j => by rw [domM_true, md_dom]) j), S.2⟩
theorem d_unblock {v : Value} (O : Ok (mkW prog w p loose mean mg mb) A B (fs.map (·.1)) 0) (hsh : fs.length < 44) (hA : A.handled = none) (h : HT T G N (domM N) len σ) (hv : IdV v i)
    (hzero : i = 0 → ∀ ctx, X (.ref c_PseudoStreamError) ctx σ) (hmiss : i ≠ 0 → N i = none → ∀ ctx, X (.ref c_MissingStreamError) ctx σ)
    (hdone : i ≠ 0 → (N i).isSome = true → ∀ σ', DS3 T G N σ G (md N i fun n => { n with act := true }) len σ' → Q .none σ') :
    CallR (mkW prog w p loose mean mg mb) A B fs (.ref a_T_unblock) [.ref T.t, v] [] σ Q X := by
  by_cases n0 : i = 0
  · subst n0
    exact k_unblock_zero (T := T) O (by omega) (.inl hA) hv (hzero rfl)
  cases hN : N i with
  | none => exact k_unblock_miss O (by omega) hA h hv n0 (domM_false.mpr hN) (hmiss n0 hN)
  | some nn => exact k_unblock O (by omega) (.inl hA) h hv n0 (domM_true.mpr ⟨_, hN⟩) fun σ₁ S => hdone n0 (by rw [hN]; rfl) σ₁ ⟨S.1.mEq fun j => (domM_eq (fun j => by rw [domM_true, md_dom]) j), S.2⟩
theorem d_next (O : Ok (mkW prog w p loose mean mg mb) A B (fs.map (·.1)) 0) (hsh : fs.length < 28) (hA : A.handled = none) (h : HT T G N (domM N) len σ) (Wf : WF ids none' N) (hids : ids.length < 20)
    (hq : ∀ v N' σ', sched 20 N 0 = some (some v, N') → Sh 0 [] N N' → WF ids none' N' → DS3 T G N σ G N' len σ' → Q v σ')
    (hx : ∀ N' σ' ctx, sched 20 N 0 = some (none, N') → Sh 0 [] N N' → WF ids none' N' → DS3 T G N σ G N' len σ' → X (.ref c_DeadlockError) ctx σ') :
    CallR (mkW prog w p loose mean mg mb) A B fs (.ref a_T_next) [.ref T.t] [] σ Q X := by
  obtain ⟨r, N₁, hs, hSh, hW⟩ := Wf.turn hids
  obtain ⟨n0, hn0, ha0, _⟩ := Wf.root
  have hm : ∀ j, domM N j = domM N₁ j := domM_eq (fun j => by rw [domM_true]; exact ⟨fun ⟨n, e⟩ => by obtain ⟨n', e', _⟩ := hSh.1 _ _ e; exact ⟨n', e'⟩, fun ⟨n, e⟩ => hSh.2 _ _ e⟩)
  refine k_next (d := 20) O (by omega) hA h Wf.cl hn0 ha0 hs (fun σ₁ x S hr => ?_) (fun σ₁ ctx S hr => ?_)
  · subst hr; exact hq _ _ _ hs hSh hW ⟨S.1.mEq hm, S.2⟩
  · subst hr; exact hx _ _ _ hs hSh hW ⟨S.1.mEq hm, S.2⟩
end
end

/-! # T3i -/
set_option maxRecDepth 100000

section
variable {prog : Program} {w : World} {p : Program} {loose : List Str} {mean : ExcName → Option Value} {mg mb : Str → Option Value}
variable {A : Around} {B : Base} {fs : List (Env × LM)} {σ σ' : AH} {Q : Value → AH → Prop} {X : Value → Bool → AH → Prop}
variable {fe env : Env} {es : List Env} {u : Nat} {m : LM}
local macro_rules | `(tactic| walk_at "c1") => `(tactic| (refine hit_own (C := c_DuplicateStreamError) (by assumption) (by kernel_rfl) (by rfl) (by kernel_rfl) (by kernel_rfl) (by kernel_rfl) (by kernel_rfl) ?_))
local macro_rules | `(tactic| walk_at "m1") => `(tactic| (refine miss_own (C := c_DuplicateStreamError) (by assumption) (by kernel_rfl) (by rfl) (by kernel_rfl) (by kernel_rfl) (by kernel_rfl) (by kernel_rfl) ?_))
local macro_rules | `(tactic| walk_at "c2") => `(tactic| (walk_at "m1"; refine hit_own (C := c_PriorityLoop) (by assumption) (by kernel_rfl) (by rfl) (by kernel_rfl) (by kernel_rfl) (by kernel_rfl) (by kernel_rfl) ?_))
local macro_rules | `(tactic| walk_at "m2") => `(tactic| (walk_at "m1"; refine miss_own (C := c_PriorityLoop) (by assumption) (by kernel_rfl) (by rfl) (by kernel_rfl) (by kernel_rfl) (by kernel_rfl) (by kernel_rfl) ?_))
local macro_rules | `(tactic| walk_at "c3") => `(tactic| (walk_at "m2"; refine hit_own (C := c_PseudoStreamError) (by assumption) (by kernel_rfl) (by rfl) (by kernel_rfl) (by kernel_rfl) (by kernel_rfl) (by kernel_rfl) ?_))
local macro_rules | `(tactic| walk_at "m3") => `(tactic| (walk_at "m2"; refine miss_own (C := c_PseudoStreamError) (by assumption) (by kernel_rfl) (by rfl) (by kernel_rfl) (by kernel_rfl) (by kernel_rfl) (by kernel_rfl) ?_))
local macro_rules | `(tactic| walk_at "c4") => `(tactic| (walk_at "m3"; refine hit_own (C := c_MissingStreamError) (by assumption) (by kernel_rfl) (by rfl) (by kernel_rfl) (by kernel_rfl) (by kernel_rfl) (by kernel_rfl) ?_))
local macro_rules | `(tactic| walk_at "m4") => `(tactic| (walk_at "m3"; refine miss_own (C := c_MissingStreamError) (by assumption) (by kernel_rfl) (by rfl) (by kernel_rfl) (by kernel_rfl) (by kernel_rfl) (by kernel_rfl) ?_))
local macro_rules | `(tactic| walk_at "c5") => `(tactic| (walk_at "m4"; refine hit_own (C := c_DeadlockError) (by assumption) (by kernel_rfl) (by rfl) (by kernel_rfl) (by kernel_rfl) (by kernel_rfl) (by kernel_rfl) ?_))
section
variable {G : Geo} {N N' : ST} {i : Int} {n : Node} {T : TA} {M : Int → Bool} {len : Nat} {ids : List Int}
set_option maxHeartbeats 4000000 in
theorem k3_asks {kind name under W : Int} {a : Value} {ex : Bool} (O : Ok (mkW prog w p loose mean mg mb) A B (fs.map (·.1)) 0) (hsh : fs.length < 20) (hA : A.handled = none) (h : HT T G N (domM N) len σ) (Wf : WF ids none' N) (hids : ids.length < 20) (hS : SidI N)
    (hlen : len < 900) (hmx : T.mx = 1000) (hn : name ∈ ids) (hu : under ∈ ids) (hnb : name.natAbs.log2 < 1920) (hub : under.natAbs.log2 < 1920) (hW : 1 ≤ W ∧ W ≤ 256) (hk0 : 0 ≤ kind)
    (hleaf : kind = 1 → name ≠ 0 → name ≠ under → under ≠ 0 → ∀ nu, N under = some nu → (N name).isSome = true → cyc N name 100 under = some true → nu.kids = [])
    (hk : ask3 N kind name under W ex = some (a, N'))
    (hq : ∀ G' len' σ', len' ≤ len + 2 → DS3 T G N σ G' N' len' σ' → Q a σ') :
    CallR (mkW prog w p loose mean mg mb) A B fs (.ref a_law_asks) [.ref T.t, .int kind 0, .int name 0, .int under 0, .int W 0, .bool ex] [] σ Q X := by
  refine CallR.go O (by omega) (by rfl) (by kernel_rfl) (binds6 (p1 := "tree") (p2 := "kind") (p3 := "name") (p4 := "under") (p5 := "weight") (p6 := "alone") (by intro _ _ _ _ _ _; rfl)) rfl fun L A' O' hA' => ?_
  have hA₁ := hA'.trans hA
  have hg := O'.g
  have idn : IdV (.int name 0) name := ⟨.inl rfl, hnb⟩
  have idu : IdV (.int under 0) under := ⟨.inl rfl, hub⟩
  have hWt : Wt (.int W 0) := ⟨W, rfl, hW.1, hW.2⟩
  have hp : ∀ {M : ST} {b : Int}, parW M b (.int b 0) = parN M b := rfl
  have end1 : ∀ {x : Value} {M : ST}, some (x, M) = some (a, N') → ∀ {G' : Geo} {len' : Nat} {σ' : AH}, len' ≤ len + 2 → DS3 T G N σ G' M len' σ' → Q x σ' := fun {x M} e {G' len' σ'} hl S => by
    injection e with e; injection e with e1 e2
    subst e1 e2
    exact hq _ _ _ hl S
  have stay : ∀ {x : Value}, some (x, N) = some (a, N') → Q x σ := fun {x} e => end1 e (Nat.le_add_right _ _) (.same h)
  unfold ask3 at hk
  walk_at "ss"
  refine t_Exc O' ?_ fun _ _ q => q
  walk_at "ss"
  refine op_ge (op_truthy_bool ⟨fun c6 => ?_, fun c6 => ?_⟩)
  · have c6 : 6 ≤ kind := by simpa using c6
    rw [if_pos c6] at hk
    walk_at "ss"
    refine gm_T (g := a_T_next) O' h (by simp +decide [treeF]) (by kernel_rfl) (by kernel_rfl) ?_
    walk_at "ss"
    refine (d_next (fs := (_, _) :: fs) O'.less (by simp; omega) hA₁ h Wf hids (fun v N₁ σ₁ hs _ _ S => ?_) (fun N₁ σ₁ ctx hs _ _ S => ?_)).w
    · rw [hs] at hk; dsimp only at hk
      obtain ⟨_, hsid⟩ := sched_sidG (R := fun x => ∃ j, x = .int j 0) 20 N 0 _ _ (fun j n e => ⟨j, hS j n e⟩) hs
      obtain ⟨j, rfl⟩ := hsid _ rfl
      walk_at "ss"
      exact end1 hk (Nat.le_add_right _ _) S
    · rw [hs] at hk; dsimp only at hk
      walk_at "c5"
      intro A₂ B₂ hB hO hH
      have O₂ := hO _ _ O'
      walk_at "ss"
      exact end1 hk (Nat.le_add_right _ _) S
  have c6 : ¬ 6 ≤ kind := by simpa using c6
  rw [if_neg c6] at hk
  walk_at "ss"
  refine op_eq (op_truthy_bool ⟨fun k0 => ?_, fun k0 => ?_⟩)
  · have k0 : kind = 0 := by simpa using k0
    rw [if_pos k0] at hk
    walk_at "ss"
    refine gm_T (g := a_T_insert_stream) O' h (by simp +decide [treeF]) (by kernel_rfl) (by kernel_rfl) ?_
    walk_at "ss"
    have args : InsArgs (.ref T.t) (.int name 0) (.int under 0) (.int W 0) ex [.ref T.t, .int name 0, .int under 0, .int W 0, .bool ex] [] := .inl ⟨rfl, rfl⟩
    refine (d_ins (fs := (_, _) :: fs) args O'.less (by simp; omega) hA₁ h Wf hids hn hu idn (.inr idu) (by omega) (by omega) (.inr ⟨hWt, rfl⟩) (fun q ctx => ?_) (fun q z => absurd (by omega) z) (fun q _ z => ?_) (fun q _ _ e ctx G₁ σ₁ S => ?_) (fun _ _ _ _ _ => by omega) (fun q _ _ e G₁ len₁ σ₁ hl _ S => ?_)).w
    · rw [if_pos q] at hk
      walk_at "c1"
      intro A₂ B₂ hB hO hH
      have O₂ := hO _ _ O'
      walk_at "ss"
      exact stay hk
    · rcases z with ⟨s, e⟩ | ⟨⟨k, e, z⟩, _⟩
      · cases e
      · cases e; exact (z hW).elim
    · rw [if_neg (by rw [q]; simp), if_pos e.symm] at hk
      walk_at "c2"
      intro A₂ B₂ hB hO hH
      have O₂ := hO _ _ O'
      walk_at "ss"
      exact end1 hk (Nat.le_add_right _ _) S
    · rw [if_neg (by rw [q]; simp), if_neg (Ne.symm e)] at hk
      rw [hp] at S
      refine ⟨trivial, ?_⟩
      walk_at "ss"
      exact end1 hk hl S
  have k0 : kind ≠ 0 := by simpa using k0
  rw [if_neg k0] at hk
  have zz : name = 0 → some (Value.str (Str.ofString "pseudo") 0, N) = some (a, N') := fun z => by rw [if_pos z] at hk; exact hk
  have mm : name ≠ 0 → N name = none → some (Value.str (Str.ofString "missing") 0, N) = some (a, N') := fun z e => by rw [if_neg z, e] at hk; exact hk
  walk_at "ss"
  refine op_eq (op_truthy_bool ⟨fun k1 => ?_, fun k1 => ?_⟩)
  · have k1 : kind = 1 := by simpa using k1
    walk_at "ss"
    refine gm_T (g := a_T_reprioritize) O' h (by simp +decide [treeF]) (by kernel_rfl) (by kernel_rfl) ?_
    walk_at "ss"
    refine (d_rep (fs := (_, _) :: fs) O'.less (by simp; omega) hA₁ h Wf hids hu idn (.inr idu) (by omega) (by omega) (.inr ⟨hWt, rfl⟩) (fun q ctx => ?_) (fun q e ctx => ?_) (fun q e u ctx => ?_) (fun _ _ _ _ z => absurd (by omega) z) (fun _ _ _ _ _ => hWt) (fun _ _ _ _ z => ?_) (fun q e u b0 _ nb hb hc => hleaf k1 q (Ne.symm u) b0 nb hb e hc) (fun q e u _ _ cy N₁ hcy hpr G₁ len₁ σ₁ hl S => ?_)).w
    · walk_at "c3"
      intro A₂ B₂ hB hO hH
      have O₂ := hO _ _ O'
      walk_at "ss"
      exact stay (zz q)
    · walk_at "c4"
      intro A₂ B₂ hB hO hH
      have O₂ := hO _ _ O'
      walk_at "ss"
      exact stay (mm q e)
    · obtain ⟨nn, hN⟩ := Option.isSome_iff_exists.mp e
      rw [if_neg q, hN] at hk; dsimp only at hk
      rw [if_pos k1, if_pos u.symm] at hk
      walk_at "c2"
      intro A₂ B₂ hB hO hH
      have O₂ := hO _ _ O'
      walk_at "ss"
      exact stay hk
    · rcases z with ⟨s, e⟩ | ⟨⟨k, e, z⟩, _⟩
      · cases e
      · cases e; exact (z hW).elim
    · obtain ⟨nn, hN⟩ := Option.isSome_iff_exists.mp e
      rw [if_neg q, hN] at hk; dsimp only at hk
      rw [if_pos k1, if_neg (Ne.symm u)] at hk
      rw [hp] at hcy hpr
      have e2 : (if under = 0 then some false else cyc (parN N under) name 100 under) = some cy := by
        rcases hcy with ⟨rfl, z⟩ | ⟨z, e⟩
        · rw [if_pos z]
        · rw [if_neg z]; exact e
      rw [e2] at hk; dsimp only at hk
      rw [hpr] at hk
      refine ⟨trivial, ?_⟩
      walk_at "ss"
      exact end1 hk (by
        cases z : (N under).isSome with
        | true => have := hl.1 z; omega
        | false => have := hl.2 z; omega) S
  have k1 : kind ≠ 1 := by simpa using k1
  have act : name ≠ 0 → (N name).isSome = true → kind ≠ 5 → some (Value.str (Str.ofString "done") 0, md N name fun n => { n with act := decide (2 < kind) }) = some (a, N') := fun z e k5 => by
    obtain ⟨nn, hN⟩ := Option.isSome_iff_exists.mp e
    rw [if_neg z, hN] at hk; dsimp only at hk
    rw [if_neg k1, if_neg k5] at hk; exact hk
  walk_at "ss"
  refine op_eq (op_truthy_bool ⟨fun k2 => ?_, fun k2 => ?_⟩)
  · have k2 : kind = 2 := by simpa using k2
    walk_at "ss"
    refine gm_T (g := a_T_block) O' h (by simp +decide [treeF]) (by kernel_rfl) (by kernel_rfl) ?_
    walk_at "ss"
    refine (d_block (fs := (_, _) :: fs) O'.less (by simp; omega) hA₁ h idn (fun q ctx => ?_) (fun q e ctx => ?_) (fun q e σ₁ S => ?_)).w
    · walk_at "c3"
      intro A₂ B₂ hB hO hH
      have O₂ := hO _ _ O'
      walk_at "ss"
      exact stay (zz q)
    · walk_at "c4"
      intro A₂ B₂ hB hO hH
      have O₂ := hO _ _ O'
      walk_at "ss"
      exact stay (mm q e)
    · have hk := act q e (by omega)
      rw [show decide (2 < kind) = false by rw [k2]; rfl] at hk
      refine ⟨trivial, ?_⟩
      walk_at "ss"
      exact end1 hk (Nat.le_add_right _ _) S
  have k2 : kind ≠ 2 := by simpa using k2
  walk_at "ss"
  refine op_eq (op_truthy_bool ⟨fun k5 => ?_, fun k5 => ?_⟩)
  · have k5 : kind = 5 := by simpa using k5
    walk_at "ss"
    refine gm_T (g := a_T_remove_stream) O' h (by simp +decide [treeF]) (by kernel_rfl) (by kernel_rfl) ?_
    walk_at "ss"
    refine (d_rem (fs := (_, _) :: fs) O'.less (by simp; omega) hA₁ h Wf hids idn (fun q ctx => ?_) (fun q e ctx => ?_) (fun q nn b hN hb G₁ σ₁ S => ?_)).w
    · walk_at "c3"
      intro A₂ B₂ hB hO hH
      have O₂ := hO _ _ O'
      walk_at "ss"
      exact stay (zz q)
    · walk_at "c4"
      intro A₂ B₂ hB hO hH
      have O₂ := hO _ _ O'
      walk_at "ss"
      exact stay (mm q e)
    · rw [if_neg q, hN] at hk; dsimp only at hk
      rw [if_neg k1, if_pos k5, hb] at hk; dsimp only at hk
      refine ⟨trivial, ?_⟩
      walk_at "ss"
      exact end1 hk (by omega) S
  have k5 : kind ≠ 5 := by simpa using k5
  walk_at "ss"
  refine gm_T (g := a_T_unblock) O' h (by simp +decide [treeF]) (by kernel_rfl) (by kernel_rfl) ?_
  walk_at "ss"
  refine (d_unblock (fs := (_, _) :: fs) O'.less (by simp; omega) hA₁ h idn (fun q ctx => ?_) (fun q e ctx => ?_) (fun q e σ₁ S => ?_)).w
  · walk_at "c3"
    intro A₂ B₂ hB hO hH
    have O₂ := hO _ _ O'
    walk_at "ss"
    exact stay (zz q)
  · walk_at "c4"
    intro A₂ B₂ hB hO hH
    have O₂ := hO _ _ O'
    walk_at "ss"
    exact stay (mm q e)
  · have hk := act q e k5
    refine ⟨trivial, ?_⟩
    walk_at "ss"
    rw [show decide (2 < kind) = true from decide_eq_true (by omega)] at hk
    exact end1 hk (Nat.le_add_right _ _) S
end
end

/-! # T3j -/
set_option maxRecDepth 100000

section
variable {prog : Program} {w : World} {p : Program} {loose : List Str} {mean : ExcName → Option Value} {mg mb : Str → Option Value}
variable {A : Around} {B : Base} {fs : List (Env × LM)} {σ σ' : AH} {Q : Value → AH → Prop} {X : Value → Bool → AH → Prop}
variable {fe env : Env} {es : List Env} {u : Nat} {m : LM}
section
variable {G G' : Geo} {S S' : ST} {T : TA} {g g' : RG} {D : Addr} {R R' : RT} {l l' k k' : Nat} {K : Addr → Cell → Prop}
/-! ## the tree and the table side by side; K: what stands beside them -/
structure TT3 (T : TA) (G : Geo) (S : ST) (l : Nat) (g : RG) (D : Addr) (R : RT) (k : Nat) (K : Addr → Cell → Prop) (σ : AH) : Prop where
  h : HT T G S (domM S) l σ
  t : Tab K3 g D R k σ
  ap : ∀ a, footT T G S a → ¬ footR K3 g D R a
  tt : ¬ footR K3 g D R T.t
  kp : ∀ a c, K a c → σ a = some c ∧ ¬ footT T G S a ∧ ¬ footR K3 g D R a
theorem HT.offT (h : HT T G S (domM S) l σ) {a : Addr} (e : σ a = none) : ¬ footT T G S a := fun q => by
  rcases q with ⟨j, n, hn, rfl | rfl | rfl⟩ | rfl
  · rw [h.H.node _ _ hn] at e; cases e
  · rw [h.H.kid _ _ hn] at e; cases e
  · obtain ⟨_, h1, _⟩ := h.H.que _ _ hn; rw [h1] at e; cases e
  · obtain ⟨_, h1, _⟩ := h.d; rw [h1] at e; cases e
theorem TT3.tree (h : TT3 T G S l g D R k K σ) (d : DS3 T G S σ G' S' l' σ') : TT3 T G' S' l' g D R k K σ' := by
  have tf : ∀ a, footR K3 g D R a → ∃ c, σ a = some c := fun a f => by
    cases e : σ a with
    | none => exact (h.t.offD e f).elim
    | some c => exact ⟨c, rfl⟩
  refine ⟨d.h, h.t.away fun a c e f => d.f.1 a c e fun q => h.ap a q f, fun a q f => ?_, h.tt, fun a c q => ?_⟩
  · rcases d.f.2 a q with q | q
    · exact h.ap a q f
    · exact h.t.offD q f
  · obtain ⟨e, n1, n2⟩ := h.kp a c q
    refine ⟨d.f.1 a c e n1, fun z => ?_, n2⟩
    rcases d.f.2 a z with z | z
    · exact n1 z
    · rw [e] at z; cases z
theorem TT3.table (h : TT3 T G S l g D R k K σ) (t : Tab K3 g' D R' k' σ') (f : Fr2 (footR K3 g D R) σ (footR K3 g' D R') σ') : TT3 T G S l g' D R' k' K σ' := by
  refine ⟨h.h.away (fun a c e q => f.1 a c e ?_) fun a v e => f.1 a _ e (h.t.offT e (by decide)), t, fun a q z => ?_, fun z => ?_, fun a c q => ?_⟩
  · rcases q with q | rfl
    · exact h.ap a q
    · exact h.tt
  · rcases f.2 a z with z | z
    · exact h.ap a q z
    · exact h.h.offT z q
  · rcases f.2 _ z with z | z
    · exact h.tt z
    · rw [h.h.tr] at z; cases z
  · obtain ⟨e, n1, n2⟩ := h.kp a c q
    refine ⟨f.1 a c e n2, n1, fun z => ?_⟩
    rcases f.2 a z with z | z
    · exact n2 z
    · rw [e] at z; cases z
theorem TT3.sub (h : TT3 T G S l g D R k K σ) (s : Sub σ σ') : TT3 T G S l g D R k K σ' :=
  ⟨h.h.away (fun a c e _ => s a c e) fun _ _ e => s _ _ e, h.t.away fun a c e _ => s a c e, h.ap, h.tt, fun a c q => ⟨s _ _ (h.kp a c q).1, (h.kp a c q).2⟩⟩
theorem TT3.all (h : TT3 T G S l g D R k K σ) : TT3 T G S l g D R k (fun a c => σ a = some c ∧ ¬ footT T G S a ∧ ¬ footR K3 g D R a) σ := ⟨h.h, h.t, h.ap, h.tt, fun a c q => q⟩
theorem HT.tupT (h : HT T G S (domM S) l σ) {a : Addr} {v : List Value} (e : σ a = some (.seq "tuple" v)) : ¬ footT T G S a := fun q => by
  rcases q with ⟨j, n, hn, rfl | rfl | rfl⟩ | rfl
  · rw [h.H.node _ _ hn] at e; cases e
  · rw [h.H.kid _ _ hn] at e; simp at e
  · obtain ⟨_, h1, _⟩ := h.H.que _ _ hn; rw [h1] at e; simp at e
  · obtain ⟨_, h1, _⟩ := h.d; rw [h1] at e; cases e
/-! ## the law's deeds, as tuples -/
def Deed3 (P : Addr → Cell → Prop) (v : Value) : Prop := ∃ t kind one other alone, v = .ref t ∧ P t (.seq "tuple" [.int kind 0, .int one 0, .int other 0, .bool alone]) ∧ 0 ≤ kind ∧ (0 ≤ one ∧ one < 13) ∧ (0 ≤ other ∧ other < 13)
theorem Deed3.imp {P P' : Addr → Cell → Prop} (q : ∀ t l, P t (.seq "tuple" l) → P' t (.seq "tuple" l)) {v : Value} (h : Deed3 P v) : Deed3 P' v := by
  obtain ⟨t, a, b, c, d, e, f, r⟩ := h
  exact ⟨t, a, b, c, d, e, q _ _ f, r⟩
theorem Deed3.sub {v : Value} (h : Deed3 (CellIn σ) v) (s : Sub σ σ') : Deed3 (CellIn σ') v := h.imp fun t l q => s _ _ q
def nm3 : List Int := [0, 7, 14, 21, 28, 4, 11, 18, 25, 1, 8, 15, 22]
theorem nm3_at {x : Int} (h : 0 ≤ x ∧ x < 13) : ∃ n, (iv nm3)[x.toNat]? = some (.int n 0) ∧ n ∈ nm3 := by
  have : x = 0 ∨ x = 1 ∨ x = 2 ∨ x = 3 ∨ x = 4 ∨ x = 5 ∨ x = 6 ∨ x = 7 ∨ x = 8 ∨ x = 9 ∨ x = 10 ∨ x = 11 ∨ x = 12 := by omega
  rcases this with rfl | rfl | rfl | rfl | rfl | rfl | rfl | rfl | rfl | rfl | rfl | rfl | rfl <;> exact ⟨_, rfl, by decide⟩
theorem nm3_small {n : Int} (h : n ∈ nm3) : n.natAbs.log2 < 1920 := by
  have : ∀ n ∈ nm3, n.natAbs < 29 := by decide
  have h1 := this n h
  have h2 : n.natAbs.log2 ≤ n.natAbs := Nat.log2_le_self _
  omega
end
end

/-! # W3m -/
set_option maxRecDepth 100000

section
variable {prog : Program} {w : World} {p : Program} {loose : List Str} {mean : ExcName → Option Value} {mg mb : Str → Option Value}
variable {A : Around} {B : Base} {fs : List (Env × LM)} {σ σ' : AH} {Q : Value → AH → Prop} {X : Value → Bool → AH → Prop}
variable {fe env : Env} {es : List Env} {u : Nat} {m : LM}
section
def R0 : RT := upd (fun _ => none) 0 (some ⟨0, false, [], []⟩)
theorem n0_wf {ids : List Int} (h : (0 : Int) ∈ ids) : WF ids none' N0 := by
  have inv : ∀ j n, N0 j = some n → j = 0 ∧ n = { newNode (.int 0 0) (.int 1 0) with act := false } := fun j n e => by
    unfold N0 at e
    by_cases z : j = 0
    · subst z; rw [upd_self] at e; exact ⟨rfl, (Option.some.inj e).symm⟩
    · rw [upd_ne _ _ z] at e; cases e
  have at0 : N0 0 = some { newNode (.int 0 0) (.int 1 0) with act := false } := upd_self _ _ _
  refine ⟨⟨_, at0, rfl, rfl⟩, fun q => q, fun _ q => q.elim, fun j n e => by rw [(inv j n e).1]; exact h, fun p n c e => ?_, fun p n e => ?_, fun p n e => ?_, fun j n e => ?_⟩
  · obtain ⟨rfl, rfl⟩ := inv p n e
    constructor
    · intro q; cases q
    · rintro ⟨c0, _, k, hk, _⟩; exact (c0 (inv _ _ hk).1).elim
  · obtain ⟨rfl, rfl⟩ := inv p n e; exact List.nodup_nil
  · obtain ⟨rfl, rfl⟩ := inv p n e; exact .refl _
  · obtain ⟨rfl, rfl⟩ := inv j n e; exact ⟨0, 0, rfl, .inl rfl, _, e⟩
theorem n0_sid : SidI N0 := fun j n e => by
  unfold N0 at e
  by_cases z : j = 0
  · subst z; rw [upd_self] at e; cases e; rfl
  · rw [upd_ne _ _ z] at e; cases e
theorem n0_rnd {W s : Int} : RndX W s nE N0 R0 := by
  refine ⟨fun j => ?_, fun j n r _ e1 e2 => ?_, fun j n e hj => ?_⟩
  · unfold N0 R0
    by_cases z : j = 0
    · subst z; rw [upd_self, upd_self]; rfl
    · rw [upd_ne _ _ z, upd_ne _ _ z]; rfl
  · unfold N0 at e1; unfold R0 at e2
    by_cases z : j = 0
    · subst z; rw [upd_self] at e1 e2; cases e1; cases e2; exact ⟨rfl, rfl, .nil, .refl _⟩
    · rw [upd_ne _ _ z] at e1; cases e1
  · unfold N0 at e; rw [upd_ne _ _ hj] at e; cases e
end
noncomputable def lawB0 : List Stmt := ((recsOf hd3.view_39).find? fun d => d.name == ("law" : Str)).elim [] (·.body)
noncomputable def lawBS : {b : List Stmt // b = lawB0} := by
  refine ⟨?b, ?h⟩
  case h =>
    unfold lawB0
    conv => rhs; whnf
noncomputable def lawS0 : Scope := ((recsOf hd3.view_39).find? fun d => d.name == ("law" : Str)).elim { kind := .function, names := [], isGenerator := false, isCoroutine := false } (·.scope)
noncomputable def lawSc : {b : Scope // b = lawS0} := by
  refine ⟨?b, ?h⟩
  case h =>
    unfold lawS0
    conv => rhs; whnf
section
set_option maxHeartbeats 6000000
theorem main_loop {L fa : Addr} {cd : Value} {m' : LM} {σ8 : AH} {T : TA} {G : Geo} {g : RG} {D aD aN : Addr} {K : Addr → Cell → Prop} {vd8 : List Value} {W s : Int}
    (O : Ok (mkW prog w p loose mean mg mb) A B (envOf "law" lawSc.1 L fa cd :: ([] : List (Env × LM)).map (·.1)) 8) (hA : A.handled = none)
    (m2 : m' "names" = some (.ref aN)) (m4 : m' "tree" = some (.ref T.t)) (m5 : m' "rows" = some (.ref D)) (m6 : m' "weight" = some (.int W 0)) (m8 : m' "deeds" = some (.ref aD))
    (mx : T.mx = 1000) (hW : 0 < W ∧ W ≤ 256) (hs : W * s = 256) (hs0 : 0 < s) (K1 : K aN (.seq "list" (iv nm3))) (K2 : K aD (.seq "list" vd8)) (K3' : ∀ v ∈ vd8, Deed3 K v) (len8 : vd8.length ≤ 44)
    (W8 : TT3 T G N0 1 g D R0 1 K σ8) :
    Tr (mkW prog w p loose mean mg mb) A B (envOf "law" lawSc.1 L fa cd) [] (execs (lawBS.1.drop 10) (envOf "law" lawSc.1 L fa cd)) m' σ8 (RQ fun v _ => v = .bool true) noX := by
  dsimp only [lawBS, lawSc, List.drop] at O ⊢
  walk_at "ss"
  refine t_ForL O (.inl hA) ?_
  walk_at "ss"
  refine ⟨aD, vd8, rfl, fun i m' σ' => m' "names" = some (.ref aN) ∧ m' "tree" = some (.ref T.t) ∧ m' "rows" = some (.ref D) ∧ m' "weight" = some (.int W 0) ∧ i ≤ 44 ∧ ∃ G g S R l k, TT3 T G S l g D R k K σ' ∧ RndX W s nE S R ∧ WF nm3 none' S ∧ SidI S ∧ l ≤ 1 + 2 * i ∧ k ≤ 1 + 2 * i,
    ⟨m2, m4, m5, m6, by decide, G, g, N0, R0, 1, 1, W8, n0_rnd, n0_wf (by decide), n0_sid, by decide, by decide⟩, fun i m' σ' h => ?_, ?_, ?_⟩
  · obtain ⟨_, _, _, _, _, _, _, _, _, _, _, W, _⟩ := h
    exact (W.kp _ _ K2).1
  · rintro m' σ' _
    walk_at "ss"
    rfl
  · clear m2 m4 m5 m6 m8 W8
    rintro B' hB' i m' σ' v ⟨m2, m4, m5, m6, _, G, g, S, R, l, k, H, X, Wf, sd, b1, b2⟩ hv r hr
    have O₂ := O.le hB'
    have hi : i < 44 := by
      have := (List.getElem?_eq_some_iff.mp hv).1
      omega
    obtain ⟨t, kind, one, other, alone, rfl, ht, hk0, ho1, ho2⟩ := K3' v (List.mem_of_getElem? hv)
    refine t_asTup (.inl hA) hr (H.kp _ _ ht).1 rfl ?_
    refine as_name (as_name (as_name (as_name (as_nil ?_))))
    obtain ⟨name, en, hn⟩ := nm3_at ho1
    obtain ⟨un, eu, hun⟩ := nm3_at ho2
    have hlt : ∀ {x : Int}, x < 13 → x < 2 ^ 63 := fun {x} h => by omega
    walk_at "ss"
    refine op_itemList (H.kp _ _ K1).1 ho1.1 (hlt ho1.2) en ?_
    walk_at "ss"
    refine op_itemList (H.kp _ _ K1).1 ho2.1 (hlt ho2.2) eu ?_
    with_reducible refine nx_next ?_
    with_reducible refine t_stmt ?_
    -- where the parent is put
    with_reducible refine Tr.mono (Q := fun f m'' σ'' => f = .next ∧ σ'' = σ' ∧ m'' "names" = some (.ref aN) ∧ m'' "tree" = some (.ref T.t) ∧ m'' "rows" = some (.ref D) ∧ m'' "weight" = some (.int W 0) ∧ m'' "kind" = some (.int kind 0) ∧ m'' "alone" = some (.bool alone) ∧ m'' "name" = some (.int name 0) ∧ ∃ under, m'' "under" = some (.int under 0) ∧ under ∈ nm3 ∧ ((S under).isSome = false → W = 16)) ?_ ?_ (fun _ _ _ _ x => x)
    · walk_at "ss"
      refine op_ne (op_truthy_bool ⟨fun c => ?_, fun c => ?_⟩)
      · walk_at "ss"
        obtain ⟨lt, t1, t2⟩ := H.t.isSome (i := un)
        refine op_notInDict O₂.g t1 (k := .n un) rfl ?_
        rw [t2, ← X.dom un]
        refine op_truthy_bool ⟨fun c2 => ?_, fun c2 => ?_⟩
        · walk_at "ss"
          try refine ch_t ?_
          walk_at "ss"
          refine ⟨rfl, rfl, m2, m4, m5, m6, rfl, rfl, rfl, 0, rfl, by decide, fun q => ?_⟩
          obtain ⟨n0, hn0, _⟩ := Wf.root
          rw [hn0] at q; cases q
        · have c2 : (S un).isSome = true := by simpa using c2
          walk_at "ss"
          try refine ch_f ?_
          walk_at "ss"
          exact ⟨rfl, rfl, m2, m4, m5, m6, rfl, rfl, rfl, un, rfl, hun, fun q => by rw [c2] at q; cases q⟩
      · have c : W = 16 := by simpa using c
        walk_at "ss"
        try refine ch_f ?_
        walk_at "ss"
        exact ⟨rfl, rfl, m2, m4, m5, m6, rfl, rfl, rfl, un, rfl, hun, fun _ => c⟩
    rintro f m'' _ ⟨rfl, rfl, m2, m4, m5, m6, m7, m9, m10, under, m11, hu, hmiss⟩
    obtain ⟨F, okR, hup⟩ := X.fit Wf
    have F := F.more (b' := 30) (by decide)
    have okR := RowsOk.more okR (b' := 30) (by decide)
    obtain ⟨n0, hn0, _⟩ := Wf.root
    obtain ⟨r0, hr0⟩ := X.get hn0
    have cycov : ∀ {nb : Node} {nn : Node}, S under = some nb → S name = some nn → name ≠ 0 → under ≠ 0 → ∃ ov, cyc S name 100 under = some ov ∧ rOver R name 101 under = some ov := fun {nb nn} e1 e2 z1 z2 => by
      obtain ⟨cy, e, _⟩ := Wf.cyc z1 e2 e1 z2 (by decide)
      exact ⟨cy, e, rOver_cyc X (fun _ q => q) z2 e⟩
    walk_at "ss"
    refine (k3_left (fs := [(_, _)]) O₂.less (by show 1 < 48; decide) H.t F (fun k1 z1 e1 e2 ne => ?_) fun lo σa sa hl => ?_).w
    · by_cases u0 : under = 0
      · exact ⟨false, by unfold rOver; rw [if_pos u0]⟩
      · rw [← X.dom name] at e1
        rw [← X.dom under] at e2
        obtain ⟨nn, e1⟩ := Option.isSome_iff_exists.mp e1
        obtain ⟨nb, e2⟩ := Option.isSome_iff_exists.mp e2
        obtain ⟨ov, _, e⟩ := cycov e2 e1 z1 u0
        exact ⟨ov, e⟩
    have Ha := H.sub sa
    refine op_truthy_bool ⟨fun c => ?_, fun c => ?_⟩
    · walk_at "ss"
      exact ⟨m2, m4, m5, m6, by omega, G, g, S, R, l, k, Ha, X, Wf, sd, by omega, by omega⟩
    · have hleaf : kind = 1 → name ≠ 0 → name ≠ under → under ≠ 0 → ∀ nu, S under = some nu → (S name).isSome = true → cyc S name 100 under = some true → nu.kids = [] := fun k1 z1 ne z2 nu e2 e1 hc => by
        obtain ⟨nn, e1'⟩ := Option.isSome_iff_exists.mp e1
        obtain ⟨ov, hc', hov⟩ := cycov e2 e1' z1 z2
        rw [hc] at hc'; cases hc'
        obtain ⟨ru, hru⟩ := X.get e2
        cases hkk : nu.kids with
        | nil => rfl
        | cons x ll =>
          exfalso
          have : lo = true := hl.mpr ⟨k1, z1, by rw [← X.dom name]; exact e1, ne, hov, ru, hru, fun q => by
            have := (X.mem Wf e2 hru).length_eq
            rw [q, hkk] at this; simp at this⟩
          rw [this] at c; cases c
      obtain ⟨a, S', R', e1, e2, X', Wf', sd', pa⟩ := step3 hW.1 hs hs0 X Wf (by decide) sd (kind := kind) (ex := alone) hn hu hmiss hleaf
      walk_at "ss"
      refine (k3_asks (fs := [(_, _)]) O₂.less (by show 1 < 20; decide) hA Ha.h Wf (by decide) sd (by omega) mx hn hu (nm3_small hn) (nm3_small hu) ⟨by omega, hW.2⟩ hk0 hleaf e1 fun G' l' σb hl' d' => ?_).w
      have Hb := Ha.tree d'
      walk_at "ss"
      refine (k3_wants (fs := [(_, _)]) O₂.less (by show 1 < 20; decide) hA Hb.t (by omega) hr0 F okR hup e2 fun g' k' σc hk' t' f' => ?_).w
      have Hc := Hb.table t' f'
      walk_at "ss"
      obtain ⟨x, hx⟩ : ∃ x, pk a = some x := by
        rcases pa with ⟨t, rfl⟩ | ⟨t, rfl⟩ <;> exact ⟨_, rfl⟩
      refine op_neP hx hx ?_
      rw [decide_eq_true rfl]
      refine op_truthy_bool (ch_f ?_)
      walk_at "ss"
      have isb : ∀ {fs' : List (Env × LM)} {Q : Value → AH → Prop} {X}, Q (.bool false) σc → CallW (mkW prog w p loose mean mg mb) A B' fs' (.builtin "isinstance") [a, .type "bool"] [] σc Q X := fun {fs' Q X} h => by
        rcases pa with ⟨t, rfl⟩ | ⟨t, rfl⟩
        · exact call_isiIntBool h
        · exact call_isiStrBool h
      refine isb ?_
      refine op_truthy_bool ?_
      try refine ch_f ?_
      walk_at "ss"
      try refine ch_f ?_
      walk_at "ss"
      exact ⟨m2, m4, m5, m6, by omega, G', g', S', R', l', k', Hc, X', Wf', sd', by omega, by omega⟩
end
end

/-! # W3b -/
set_option maxRecDepth 100000

section
variable {prog : Program} {w : World} {p : Program} {loose : List Str} {mean : ExcName → Option Value} {mg mb : Str → Option Value}
variable {A : Around} {B : Base} {fs : List (Env × LM)} {σ σ' : AH} {Q : Value → AH → Prop} {X : Value → Bool → AH → Prop}
variable {fe env : Env} {es : List Env} {u : Nat} {m : LM}
local macro_rules | `(tactic| walk_at "x") => `(tactic| with_reducible (refine is_name ?_; refine t_CompName (by with_unfolding_all exact upd_self _ _ _) (by assumption) ?_))
local macro_rules | `(tactic| walk_at "x") => `(tactic| with_reducible (refine is_dict ?_; refine t_rowLit (by assumption) ?_))
local macro_rules | `(tactic| walk_at "x") => `(tactic| with_reducible (refine is_dict ?_; refine t_DictEmpty (by assumption) ?_))
local macro_rules | `(tactic| walk_at "s") => `(tactic| with_reducible (refine is_subs ?_; refine t_SliceE ?_))
local macro_rules | `(tactic| walk_at "s") => `(tactic| with_reducible (refine t_ListA ?_))
local macro_rules | `(tactic| walk_at "s") => `(tactic| with_reducible (refine t_TupleA ?_))
theorem ch_cut {W : Wd} {b : Bool} {t₁ t₂ : Sem Value} {Q Q' : Value → LM → AH → Prop} {X : Value → Bool → LM → AH → Prop} (h₁ : b = true → TrV W A B fe fs t₁ m σ Q X) (h₂ : b = false → TrV W A B fe fs t₂ m σ Q X) (hq : ∀ v m' σ', Q v m' σ' → Q' v m' σ') : Ch b (TrV W A B fe fs t₁ m σ Q' X) (TrV W A B fe fs t₂ m σ Q' X) :=
  ⟨fun e => (h₁ e).mono (fun v m' σ' q => hq (er v) m' σ' q) fun _ _ _ _ x => x, fun e => (h₂ e).mono (fun v m' σ' q => hq (er v) m' σ' q) fun _ _ _ _ x => x⟩
def ws3 : List Int := [16, 1, 256, 64, 2, 32, 4, 128, 8]
theorem ws3_at {k : Int} (h0 : 0 ≤ k) (h9 : k < 9) : ∃ W s, (iv ws3)[k.toNat]? = some (.int W 0) ∧ (0 < W ∧ W ≤ 256) ∧ W * s = 256 ∧ 0 < s := by
  have : k = 0 ∨ k = 1 ∨ k = 2 ∨ k = 3 ∨ k = 4 ∨ k = 5 ∨ k = 6 ∨ k = 7 ∨ k = 8 := by omega
  rcases this with rfl | rfl | rfl | rfl | rfl | rfl | rfl | rfl | rfl
  · exact ⟨16, 16, rfl, by decide, by decide, by decide⟩
  · exact ⟨1, 256, rfl, by decide, by decide, by decide⟩
  · exact ⟨256, 1, rfl, by decide, by decide, by decide⟩
  · exact ⟨64, 4, rfl, by decide, by decide, by decide⟩
  · exact ⟨2, 128, rfl, by decide, by decide, by decide⟩
  · exact ⟨32, 8, rfl, by decide, by decide, by decide⟩
  · exact ⟨4, 64, rfl, by decide, by decide, by decide⟩
  · exact ⟨128, 2, rfl, by decide, by decide, by decide⟩
  · exact ⟨8, 32, rfl, by decide, by decide, by decide⟩
theorem iv_at {xs : List Int} {k : Int} (h0 : 0 ≤ k) (hk : k < xs.length) : ∃ x, (iv xs)[k.toNat]? = some (.int x 0) := by
  obtain ⟨n, rfl⟩ : ∃ n : Nat, k = n := ⟨k.toNat, by omega⟩
  have hn : n < xs.length := by omega
  refine ⟨xs[n], ?_⟩
  unfold iv
  rw [Int.toNat_natCast, List.getElem?_map, List.getElem?_eq_getElem hn]; rfl
theorem comp_fresh {σj τ : AH} {C : Addr} {mm : LM} (hC : σj C = none) (st : Sub (upd σj C (some (NsC mm))) τ) : τ = upd (upd τ C none) C (some (NsC mm)) ∧ upd τ C none C = none ∧ Sub σj (upd τ C none) := by
  have e1 := st _ _ (upd_self _ C (some (NsC mm)))
  refine ⟨funext fun b => ?_, upd_self _ _ _, fun a c e => ?_⟩
  · by_cases z : b = C
    · subst z; rw [upd_self]; exact e1
    · rw [upd_ne _ _ z, upd_ne _ _ z]
  · have ne : a ≠ C := fun z => by rw [z, hC] at e; cases e
    rw [upd_ne _ _ ne]
    exact st _ _ ((upd_ne _ _ ne).trans e)
theorem Deed3.put {v : Value} {a : Addr} {x : List Value} {c : Option Cell} (h : Deed3 (CellIn σ) v) (ha : σ a = some (.seq "list" x)) : Deed3 (CellIn (upd σ a c)) v :=
  Deed3.imp (P := CellIn σ) (P' := CellIn (upd σ a c)) (fun t l q => by
    have q : σ t = some (.seq "tuple" l) := q
    show upd σ a c t = some (.seq "tuple" l)
    exact (upd_ne _ _ fun z => by rw [z, ha] at q; simp at q).trans q) h
theorem Deed3.new {t : Addr} {kind one other : Int} {alone : Bool} (ht : σ t = some (.seq "tuple" [.int kind 0, .int one 0, .int other 0, .bool alone])) (h1 : 0 ≤ kind) (h2 : 0 ≤ one ∧ one < 13) (h3 : 0 ≤ other ∧ other < 13) : Deed3 (CellIn σ) (.ref t) := ⟨t, kind, one, other, alone, rfl, ht, h1, h2, h3⟩
theorem tab_start {τ : AH} {d dr ra rb : Addr} (h1 : τ dr = some (.dict (K3.fd (fun k => if k = 0 then ra else rb) ⟨0, false, [], []⟩))) (h2 : τ ra = some (.seq "list" [])) (h3 : τ rb = some (.seq "list" [])) (hab : ra ≠ rb) (nd : dr ≠ d) (na : ra ≠ d) (nb : rb ≠ d) :
    Tab K3 ⟨fun _ => dr, fun k _ => if k = 0 then ra else rb⟩ d R0 1 (upd τ d (some (.dict [(.int 0 0, .ref dr)]))) := by
  have inv : ∀ i r, R0 i = some r → i = 0 ∧ r = ⟨0, false, [], []⟩ := fun i r e => by
    unfold R0 at e
    by_cases z : i = 0
    · subst z; rw [upd_self] at e; exact ⟨rfl, (Option.some.inj e).symm⟩
    · rw [upd_ne _ _ z] at e; cases e
  refine ⟨⟨_, upd_self _ _ _, rfl, ⟨by decide, by simp⟩, fun k => ?_⟩, fun i r e => ?_, fun i r k e hk => ?_, fun i j r q e1 e2 _ => by rw [(inv _ _ e1).1, (inv _ _ e2).1], fun i j k l r q e1 e2 hk hl y => ?_, fun i r e => nd⟩
  · cases k with
    | s x => rfl
    | n i =>
      show dget [(Value.int 0 0, Value.ref dr)] (.n i) = (R0 i).map fun _ => Value.ref dr
      unfold R0
      by_cases z : i = 0
      · subst z; rw [upd_self]; rfl
      · rw [upd_ne _ _ z]
        show ((List.find? _ [_]).map _) = none
        rw [List.find?_cons_of_neg (by simp [dkIs, dk]; exact fun h => z h.symm)]; rfl
  · obtain ⟨rfl, rfl⟩ := inv _ _ e
    rw [upd_ne _ _ nd]; exact h1
  · obtain ⟨rfl, rfl⟩ := inv _ _ e
    have hk : k < 2 := hk
    by_cases z : k = 0
    · subst z
      show upd τ d _ ra = _
      rw [upd_ne _ _ na, h2]; rfl
    · obtain rfl : k = 1 := by omega
      show upd τ d _ rb = _
      rw [upd_ne _ _ nb, h3]; rfl
  · refine ⟨?_, by rw [(inv _ _ e1).1, (inv _ _ e2).1]⟩
    have hk : k < 2 := hk
    have hl : l < 2 := hl
    dsimp only at y
    by_cases z : k = 0 <;> by_cases z' : l = 0
    · omega
    · rw [if_pos z, if_neg z'] at y; exact absurd y hab
    · rw [if_neg z, if_pos z'] at y; exact absurd y.symm hab
    · omega
theorem m0_dom3 (i : Int) : M0 i = domM N0 i := by
  unfold M0 domM N0
  by_cases z : i = 0
  · subst z; rw [upd_self, upd_self]; rfl
  · rw [upd_ne _ _ z, upd_ne _ _ z]; rfl
set_option maxHeartbeats 6000000
theorem law_run {L fa l : Addr} {cd : Value} {xs : List Int} (O : Ok (mkW prog w p loose mean mg mb) A B (envOf "law" lawSc.1 L fa cd :: ([] : List (Env × LM)).map (·.1)) 8) (hA : A.handled = none) (hlb : ListB B l (iv xs)) (hxs : xs.length ≤ 63) :
    Tr (mkW prog w p loose mean mg mb) A B (envOf "law" lawSc.1 L fa cd) [] (execs lawBS.1 (envOf "law" lawSc.1 L fa cd)) (fun x => [((Str.ofString "script"), Value.ref l)].reverse.lookup x) (fun _ => none) (RQ fun v _ => v = .bool true) noX := by
  dsimp only [lawBS, lawSc] at O ⊢
  have hiv : (iv xs).length ≤ 10000 := by rw [iv_length]; omega
  walk_at "ss"
  refine ⟨by decide, fun aW σ₁ _ s1 c1 _ => ?_⟩
  walk_at "ss"
  refine op_truthy_listB hlb hiv ?_
  with_reducible refine ch_cut (Q := fun v m' σ' => m' = (fun x => [((Str.ofString "script"), Value.ref l)].reverse.lookup x) ∧ σ' = σ₁ ∧ ∃ k : Int, v = .int k 0 ∧ 0 ≤ k ∧ k < 9) (fun c => ?_) (fun c => ?_) ?_
  · · have hx0 : 0 < xs.length := by
        cases xs with
        | nil => simp [iv] at c
        | cons => simp
      obtain ⟨x, hx⟩ := iv_at (xs := xs) (k := 0) (by decide) (by omega)
      walk_at "ss"
      refine op_itemListB hlb (by decide) (by decide) hx ?_
      walk_at "ss"
      refine op_mod (by decide) ?_
      exact ⟨rfl, rfl, _, rfl, Int.emod_nonneg _ (by decide), Int.emod_lt_of_pos _ (by decide)⟩
  · · walk_at "ss"
      exact ⟨rfl, rfl, _, rfl, by decide, by decide⟩
  rintro v m' σ' ⟨rfl, rfl, k9, rfl, hk0, hk9⟩
  obtain ⟨W, s, hWat, hW, hs, hs0⟩ := ws3_at hk0 hk9
  refine op_itemList c1 hk0 (by omega) hWat ?_
  walk_at "ss"
  -- the names
  refine t_AssignComp (.inl hA) (by with_unfolding_all rfl) (by decide) (by with_unfolding_all rfl) (by decide) (by with_unfolding_all rfl) ?_
  walk_at "ss"
  refine call_range (n := 13) fun r hr => ?_
  obtain ⟨σ₂, hσ₂⟩ : ∃ s, s = upd σ' r (some (RangeC 13)) := ⟨_, rfl⟩
  have s2 : Sub σ' σ₂ := by rw [hσ₂]; exact Sub.new hr
  have c2 : σ₂ r = some (RangeC ((13 : Nat) : Int)) := by rw [hσ₂]; exact upd_self _ _ _
  rw [← hσ₂]
  clear hσ₂
  refine op_iterRange (n := 13) (by decide) c2 fun it hit => ⟨it, σ₂, fun i => RIter i (((13 : Nat) : Int) - i), 13, _, _, rfl, rfl, hit, ItOk.range, by decide, fun i acc σ => σ = σ₂ ∧ acc = (List.range i).map (fun k : Nat => Value.int (7 * k % 31) 0), ⟨rfl, rfl⟩, ?_, ?_, ?_⟩
  · rintro i acc _ ⟨rfl, rfl⟩
    exact ⟨trivial, by rw [List.length_map, List.length_range]; exact Nat.le_refl _⟩
  · rintro B' hB' H' C i v acc _ mm ⟨rfl, rfl⟩ hi rfl hC hm
    refine comp_nil fun B₂ hB₂ => ?_
    walk_at "ss"
    refine op_mul (a := 7) ?_ (.of_left (by decide))
    walk_at "ss"
    refine op_mod (by decide) ?_
    refine ⟨rfl, _, rfl, hC, rfl, ?_⟩
    rw [List.range_succ, List.map_append]; rfl
  rintro acc τ ⟨hτ, rfl⟩ aN hN
  rw [hτ] at hN ⊢
  clear hτ
  have cN : upd σ₂ aN (some (.seq "list" ((List.range 13).map fun k : Nat => Value.int (7 * k % 31) 0))) aN = some (.seq "list" (iv nm3)) := by rw [upd_self]; rfl
  have sN := Sub.new (c := some (Cell.seq "list" ((List.range 13).map fun k : Nat => Value.int (7 * k % 31) 0))) hN
  generalize upd σ₂ aN _ = σ₃ at cN sN ⊢
  walk_at "ss"
  refine call_lenB hlb hiv ?_
  walk_at "ss"
  rw [iv_length]
  refine op_mod (by decide) ?_
  refine op_add ?_
  obtain ⟨wd, hwd, hwd2⟩ : ∃ n : Nat, 3 + (xs.length : Int) % 7 = n ∧ 3 ≤ n ∧ n ≤ 9 := by
    have h1 := Int.emod_nonneg (xs.length : Int) (show (7 : Int) ≠ 0 by decide)
    have h2 := Int.emod_lt_of_pos (xs.length : Int) (show (0 : Int) < 7 by decide)
    exact ⟨(3 + (xs.length : Int) % 7).toNat, by omega, by omega, by omega⟩
  rw [hwd]
  walk_at "ss"
  refine k_tree (fs := [(_, _)]) (.inl ⟨rfl, rfl⟩) O (by show 1 < 50; decide) (by decide) fun T G σ₄ mx H1 s4 f4 => ?_
  walk_at "ss"
  -- the table
  with_reducible refine t_DictP O fun dD hdD => ?_
  refine p_cons ?_
  walk_at "ss"
  intro dr ra rb τ hdr hra hrb hab kp t1 t2 t3
  refine p_nil ?_
  have nn : ∀ {σ : AH} {a b : Addr} {c : Cell}, upd σ a (some c) b = none → b ≠ a ∧ σ b = none := fun {σ a b c} h => by
    by_cases z : b = a
    · subst z; rw [upd_self] at h; cases h
    · rw [upd_ne _ _ z] at h; exact ⟨z, h⟩
  obtain ⟨nd, hdr⟩ := nn hdr
  obtain ⟨na, hra⟩ := nn hra
  obtain ⟨nb, hrb⟩ := nn hrb
  refine ⟨kp _ _ (upd_self _ _ _), rfl, by simp, ?_⟩
  rw [show List.foldl (fun l (p : Value × Value) => dsetV p.1 p.2 l) [] [(Value.int 0 0, Value.ref dr)] = [(Value.int 0 0, .ref dr)] from rfl]
  have tab := tab_start t1 t2 t3 hab nd na nb
  have s5 : Sub σ₄ (upd τ dD (some (.dict [(.int 0 0, .ref dr)]))) := fun a c e => by
    have ne : a ≠ dD := fun z => by rw [z, hdD] at e; cases e
    rw [upd_ne _ _ ne]; exact kp _ _ ((upd_ne _ _ ne).trans e)
  have H1' : HT T G N0 (domM N0) 1 σ₄ := H1.mEq m0_dom3
  have fr : ∀ a, footR K3 ⟨fun _ => dr, fun k _ => if k = 0 then ra else rb⟩ dD R0 a → σ₄ a = none := fun a f => by
    rcases f with rfl | ⟨i, r, _, rfl | ⟨k, _, rfl⟩⟩
    · exact hdD
    · exact hdr
    · dsimp only; split <;> assumption
  have W5 : TT3 T G N0 1 ⟨fun _ => dr, fun k _ => if k = 0 then ra else rb⟩ dD R0 1 (fun a c => σ₃ a = some c) (upd τ dD (some (.dict [(.int 0 0, .ref dr)]))) := by
    refine ⟨H1'.away (fun a c e _ => s5 a c e) fun _ _ e => s5 _ _ e, tab, fun a q f => H1'.offT (fr a f) q, fun f => ?_, fun a c e => ⟨s5 _ _ (s4 _ _ e), fun q => ?_, fun f => ?_⟩⟩
    · have := fr _ f; rw [H1.tr] at this; cases this
    · have := f4 a (.inl q); rw [e] at this; cases this
    · have := fr _ f; rw [s4 _ _ e] at this; cases this
  clear tab t1 t2 t3 kp fr
  generalize (⟨fun _ => dr, fun k _ => if k = 0 then ra else rb⟩ : RG) = g at W5
  generalize upd τ dD (some (.dict [(.int 0 0, .ref dr)])) = σ₇ at s5 W5 ⊢
  walk_at "ss"
  -- the deeds
  refine t_AssignComp (.inl hA) (by with_unfolding_all rfl) (by decide) (by with_unfolding_all rfl) (by decide) (by with_unfolding_all rfl) ?_
  walk_at "ss"
  refine op_add ?_
  walk_at "ss"
  rw [show (wd : Int) + 1 = 1 + ((wd : Nat) : Int) by omega]
  refine call_range2 fun r hr => ?_
  refine op_iterRange2 (a := 1) (n := wd) (by decide) (by omega) (upd_self _ _ _) fun it hit => ?_
  obtain ⟨σr, hσr⟩ : ∃ s, s = upd σ₇ r (some (RangeC2 1 (1 + ((wd : Nat) : Int)))) := ⟨_, rfl⟩
  have sr : Sub σ₇ σr := by rw [hσr]; exact Sub.new hr
  rw [← hσr] at hit ⊢
  clear hσr
  refine ⟨it, σr, fun i => RIter (1 + i) (((wd : Nat) : Int) - i), wd, _, _, rfl, rfl, hit, ItOk.range2, by omega, fun i acc σ => Sub σr σ ∧ acc.length = i ∧ ∀ v ∈ acc, Deed3 (CellIn σ) v, ⟨Sub.refl, rfl, fun v hv => (nomatch hv)⟩, fun i acc σ q => ⟨trivial, by omega⟩, ?_, ?_⟩
  · rintro B' hB' H' C i v acc σj mm ⟨j1, j2, j3⟩ hi rfl hC hm
    refine comp_nil fun B₂ hB₂ => ?_
    walk_at "ss"
    refine ⟨by simp, fun t τ nt st ct => ?_⟩
    obtain ⟨f1, f2, f3⟩ := comp_fresh hC st
    have tC : t ≠ C := fun z => by rw [z, upd_self] at nt; cases nt
    refine ⟨rfl, _, f1, f2, Sub.trans j1 f3, by simp [j2], fun v hv => ?_⟩
    rcases List.mem_append.mp hv with hv | hv
    · exact (j3 v hv).sub f3
    · rw [Option.toList_some, List.mem_singleton] at hv
      subst hv
      exact Deed3.new ((upd_ne _ _ tC).trans ct) (by decide) (by omega) (by decide)
  rintro acc σj ⟨j1, j2, j3⟩ aD hD
  have S7 : Sub σ₇ (upd σj aD (some (.seq "list" acc))) := Sub.trans sr (Sub.trans j1 (Sub.new hD))
  have hD7 : σ₇ aD = none := by
    cases q : σ₇ aD with
    | none => rfl
    | some c => have := j1 _ _ (sr _ _ q); rw [hD] at this; cases this
  have AD : ∀ v ∈ acc, Deed3 (CellIn (upd σj aD (some (.seq "list" acc)))) v := fun v hv => (j3 v hv).sub (Sub.new hD)
  have cD : upd σj aD (some (.seq "list" acc)) aD = some (.seq "list" acc) := upd_self _ _ _
  generalize upd σj aD (some (.seq "list" acc)) = σ₈ at S7 AD cD ⊢
  have lacc : acc.length ≤ 9 := by omega
  clear j1 j3 hit sr hr it r
  walk_at "ss"
  refine t_ListComp (.inl hA) (by with_unfolding_all rfl) (by decide) (by with_unfolding_all rfl) (by decide) (by with_unfolding_all rfl) ?_
  walk_at "ss"
  obtain ⟨wp, hwp⟩ : ∃ n : Nat, wd = n + 1 := ⟨wd - 1, by omega⟩
  rw [show (wd : Int) = 1 + ((wp : Nat) : Int) by omega]
  refine call_range2 fun r hr => ?_
  refine op_iterRange2 (a := 1) (n := wp) (by decide) (by omega) (upd_self _ _ _) fun it hit => ?_
  obtain ⟨σr, hσr⟩ : ∃ s, s = upd σ₈ r (some (RangeC2 1 (1 + ((wp : Nat) : Int)))) := ⟨_, rfl⟩
  have sr : Sub σ₈ σr := by rw [hσr]; exact Sub.new hr
  rw [← hσr] at hit ⊢
  clear hσr
  refine ⟨it, σr, fun i => RIter (1 + i) (((wp : Nat) : Int) - i), wp, _, _, rfl, rfl, hit, ItOk.range2, by omega, fun i acc σ => Sub σr σ ∧ acc.length = i ∧ ∀ v ∈ acc, Deed3 (CellIn σ) v, ⟨Sub.refl, rfl, fun v hv => (nomatch hv)⟩, fun i acc σ q => ⟨trivial, by omega⟩, ?_, ?_⟩
  · rintro B' hB' H' C i v acc σj mm ⟨j1, j2, j3⟩ hi rfl hC hm
    refine comp_nil fun B₂ hB₂ => ?_
    walk_at "ss"
    refine ⟨by simp, fun t τ nt st ct => ?_⟩
    obtain ⟨f1, f2, f3⟩ := comp_fresh hC st
    have tC : t ≠ C := fun z => by rw [z, upd_self] at nt; cases nt
    refine ⟨rfl, _, f1, f2, Sub.trans j1 f3, by simp [j2], fun v hv => ?_⟩
    rcases List.mem_append.mp hv with hv | hv
    · exact (j3 v hv).sub f3
    · rw [Option.toList_some, List.mem_singleton] at hv
      subst hv
      exact Deed3.new ((upd_ne _ _ tC).trans ct) (by decide) (by omega) (by decide)
  rintro acc2 σj ⟨j1, j2, j3⟩ aE hE
  have sE : Sub σ₈ (upd σj aE (some (.seq "list" acc2))) := Sub.trans sr (Sub.trans j1 (Sub.new hE))
  have cE : upd σj aE (some (.seq "list" acc2)) aE = some (.seq "list" acc2) := upd_self _ _ _
  have AE : ∀ v ∈ acc2, Deed3 (CellIn (upd σj aE (some (.seq "list" acc2)))) v := fun v hv => (j3 v hv).sub (Sub.new hE)
  generalize upd σj aE (some (.seq "list" acc2)) = σ₉ at sE cE AE ⊢
  have cD9 := sE _ _ cD
  refine op_iaddList cD9 cE (by omega) ?_
  rw [show 1 + ((wp : Nat) : Int) = (wd : Int) by omega]
  have S10 : Sub σ₇ (upd σ₉ aD (some (.seq "list" (acc ++ acc2)))) := fun a c q => (upd_ne _ _ fun z => by rw [z, hD7] at q; cases q).trans (sE _ _ (S7 a c q))
  have AD10 : ∀ v ∈ acc ++ acc2, Deed3 (CellIn (upd σ₉ aD (some (.seq "list" (acc ++ acc2))))) v := fun v hv => by
    rcases List.mem_append.mp hv with hv | hv
    · exact ((AD v hv).sub sE).put cD9
    · exact (AE v hv).put cD9
  have cD10 : upd σ₉ aD (some (.seq "list" (acc ++ acc2))) aD = some (.seq "list" (acc ++ acc2)) := upd_self _ _ _
  have l10 : (acc ++ acc2).length ≤ 17 := by rw [List.length_append]; omega
  generalize upd σ₉ aD (some (.seq "list" (acc ++ acc2))) = σa at S10 AD10 cD10 ⊢
  generalize acc ++ acc2 = vd at AD10 cD10 l10 ⊢
  clear AD cD S7 j1 j3 hit sr hr it r AE cE cD9 sE
  walk_at "ss"
  refine ⟨by decide, fun t1 τ1 n1 q1 c1' => ?_⟩
  walk_at "ss"
  refine ⟨by decide, fun t2 τ2 n2 q2 c2' => ?_⟩
  walk_at "ss"
  refine op_add ?_
  walk_at "ss"
  refine ⟨by simp, fun t3 τ3 n3 q3 c3' => ?_⟩
  walk_at "ss"
  refine ⟨by simp, fun aL τL nL qL cL _ => ?_⟩
  have sL : Sub σa τL := Sub.trans q1 (Sub.trans q2 (Sub.trans q3 qL))
  refine op_iaddList (sL _ _ cD10) cL (by simp; omega) ?_
  have S11 : Sub σ₇ (upd τL aD (some (.seq "list" (vd ++ [.ref t1, .ref t2, .ref t3])))) := fun a c q => (upd_ne _ _ fun z => by rw [z, hD7] at q; cases q).trans (sL _ _ (S10 a c q))
  have AD11 : ∀ v ∈ vd ++ [.ref t1, .ref t2, .ref t3], Deed3 (CellIn (upd τL aD (some (.seq "list" (vd ++ [.ref t1, .ref t2, .ref t3]))))) v := fun v hv => by
    refine Deed3.put ?_ (sL _ _ cD10)
    rcases List.mem_append.mp hv with hv | hv
    · exact (AD10 v hv).sub sL
    · simp only [List.mem_cons, List.not_mem_nil, or_false] at hv
      rcases hv with rfl | rfl | rfl
      · exact Deed3.new (qL _ _ (q3 _ _ (q2 _ _ c1'))) (by decide) (by decide) (by decide)
      · exact Deed3.new (qL _ _ (q3 _ _ c2')) (by decide) (by decide) (by decide)
      · exact Deed3.new (qL _ _ c3') (by decide) (by omega) (by decide)
  have cD11 : upd τL aD (some (.seq "list" (vd ++ [.ref t1, .ref t2, .ref t3]))) aD = some (.seq "list" (vd ++ [.ref t1, .ref t2, .ref t3])) := upd_self _ _ _
  have l11 : (vd ++ [Value.ref t1, .ref t2, .ref t3]).length ≤ 20 := by simp; omega
  generalize upd τL aD (some (.seq "list" (vd ++ [.ref t1, .ref t2, .ref t3]))) = σb at S11 AD11 cD11 ⊢
  generalize vd ++ [Value.ref t1, .ref t2, .ref t3] = vd at AD11 cD11 l11 ⊢
  clear AD10 cD10 S10 sL cL c1' c2' c3'
  walk_at "ss"
  refine t_ForE O hA ?_
  walk_at "ss"
  refine ⟨l, iv xs, 20, rfl, .inl hlb, hiv, rfl, by decide, fun aS σs hS sS cS => ?_⟩
  walk_at "ss"
  refine call_enum cS fun it e nit ne hne => ?_
  have aSD : aS ≠ aD := fun z => by rw [z, cD11] at hS; cases hS
  refine ⟨e, it, aS, _, _, rfl, rfl, nit, ne, hne, fun i m' σ' => m' "names" = some (.ref aN) ∧ m' "weight" = some (.int W 0) ∧ m' "tree" = some (.ref T.t) ∧ m' "rows" = some (.ref dD) ∧ m' "width" = some (.int wd 0) ∧ m' "deeds" = some (.ref aD) ∧ Sub σ₇ σ' ∧ σ' aS = some (.seq "list" ((iv xs).take 20)) ∧ ∃ vd, σ' aD = some (.seq "list" vd) ∧ (∀ v ∈ vd, Deed3 (CellIn σ') v) ∧ vd.length ≤ 20 + i ∧ i ≤ 20,
    ⟨rfl, rfl, rfl, rfl, rfl, rfl, Sub.trans S11 sS, cS, vd, sS _ _ cD11, fun v hv => (AD11 v hv).sub sS, by omega, by decide⟩, fun i m' σ' h => h.2.2.2.2.2.2.2.1, ?_, ?_⟩
  · rintro m' σ' ⟨m1, m2, m3, m4, m5, m6, S12, _, vd, cD12, AD12, l12, _⟩
    have l12' : vd.length ≤ 40 := by
      have : ((iv xs).take 20).length ≤ 20 := by rw [List.length_take]; omega
      omega
    walk_at "ss"
    refine t_AugName (v := .ref aD) m6 ?_
    walk_at "ss"
    refine ⟨by decide, fun tx τx nx sx cx => ?_⟩
    walk_at "ss"
    refine ⟨by simp, fun ay τy ny sy cy _ => ?_⟩
    walk_at "ss"
    refine op_mulList (k := 4) cy (by simp) (by simp) (by decide) fun aM hM => ?_
    walk_at "ss"
    have cDm := Sub.new (c := some (.seq "list" (List.replicate 4 [Value.ref tx]).flatten)) hM _ _ (sy _ _ (sx _ _ cD12))
    refine op_iaddList cDm (upd_self _ _ _) (by simp; omega) ?_
    have s13 : Sub σ' (upd τy aM (some (.seq "list" (List.replicate 4 [Value.ref tx]).flatten))) := Sub.trans sx (Sub.trans sy (Sub.new hM))
    have dx : Deed3 (CellIn (upd τy aM (some (.seq "list" (List.replicate 4 [Value.ref tx]).flatten)))) (.ref tx) := Deed3.new (Sub.new hM _ _ (sy _ _ cx)) (by decide) (by decide) (by decide)
    have S14 : Sub σ₇ (upd (upd τy aM (some (.seq "list" (List.replicate 4 [Value.ref tx]).flatten))) aD (some (.seq "list" (vd ++ (List.replicate 4 [Value.ref tx]).flatten)))) := fun a c q => (upd_ne _ _ fun z => by rw [z, hD7] at q; cases q).trans (s13 _ _ (S12 a c q))
    have AD14 : ∀ v ∈ vd ++ (List.replicate 4 [Value.ref tx]).flatten, Deed3 (CellIn (upd (upd τy aM (some (.seq "list" (List.replicate 4 [Value.ref tx]).flatten))) aD (some (.seq "list" (vd ++ (List.replicate 4 [Value.ref tx]).flatten))))) v := fun v hv => by
      refine Deed3.put ?_ cDm
      rcases List.mem_append.mp hv with hv | hv
      · exact (AD12 v hv).sub s13
      · have : v = .ref tx := by simpa using hv
        rw [this]; exact dx
    have cD14 : upd (upd τy aM (some (.seq "list" (List.replicate 4 [Value.ref tx]).flatten))) aD (some (.seq "list" (vd ++ (List.replicate 4 [Value.ref tx]).flatten))) aD = some (.seq "list" (vd ++ (List.replicate 4 [Value.ref tx]).flatten)) := upd_self _ _ _
    have l14 : (vd ++ (List.replicate 4 [Value.ref tx]).flatten).length ≤ 44 := by simp; omega
    generalize upd (upd τy aM (some (.seq "list" (List.replicate 4 [Value.ref tx]).flatten))) aD (some (.seq "list" (vd ++ (List.replicate 4 [Value.ref tx]).flatten))) = σz at S14 AD14 cD14 ⊢
    generalize vd ++ (List.replicate 4 [Value.ref tx]).flatten = vz at AD14 cD14 l14 ⊢
    have Wz := (W5.sub S14).all
    have kN := W5.kp _ _ cN
    have tupOff : ∀ {t : Addr} {x : List Value}, σz t = some (.seq "tuple" x) → ¬ footT T G N0 t ∧ ¬ footR K3 g dD R0 t := fun {t x} e => ⟨Wz.h.tupT e, Wz.t.offT e (by decide)⟩
    refine nx_next ?_
    exact main_loop O hA ((upd_ne _ _ (by decide)).trans m1) ((upd_ne _ _ (by decide)).trans m3) ((upd_ne _ _ (by decide)).trans m4) ((upd_ne _ _ (by decide)).trans m2) (upd_self _ _ _) mx hW hs hs0
      ⟨S14 _ _ kN.1, kN.2⟩ ⟨cD14, W5.h.offT hD7, W5.t.offD hD7⟩ (fun v hv => (AD14 v hv).imp fun t x q => ⟨q, tupOff q⟩) l14 Wz
  · rintro B' hB' i m' σ' v ⟨m1, m2, m3, m4, m5, m6, S12, cS', vd, cD12, AD12, l12, _⟩ hv
    have O₂ := O.le hB'
    obtain ⟨number, rfl⟩ : ∃ n : Int, v = .int n 0 := by
      have := List.mem_of_mem_take (List.mem_of_getElem? hv)
      unfold iv at this
      obtain ⟨n, _, e⟩ := List.mem_map.mp this
      exact ⟨n, e.symm⟩
    have hi : i < 20 := by
      have := (List.getElem?_eq_some_iff.mp hv).1
      rw [List.length_take] at this
      omega
    walk_at "ss"
    refine op_mod (by decide) ?_
    walk_at "ss"
    refine op_floordiv (by decide) (by decide) ?_
    walk_at "ss"
    refine op_methList PySem.F.slot_list_append PySem.F.type_list_append cD12 ?_
    walk_at "ss"
    refine op_mul (a := 3) ?_ (.of_left (by decide))
    walk_at "ss"
    refine op_add ?_
    walk_at "ss"
    refine op_mod (by decide) ?_
    walk_at "ss"
    refine op_add ?_
    walk_at "ss"
    refine op_add ?_
    refine op_mod (by omega) ?_
    walk_at "ss"
    refine op_floordiv (by decide) (by decide) ?_
    walk_at "ss"
    refine op_mul (a := 2) ?_ (.of_left (by decide))
    walk_at "ss"
    refine op_add ?_
    walk_at "ss"
    refine op_add ?_
    refine op_mod (by omega) ?_
    walk_at "ss"
    refine op_floordiv (by decide) (by decide) ?_
    walk_at "ss"
    refine op_add ?_
    walk_at "ss"
    refine op_mod (by decide) ?_
    walk_at "ss"
    refine op_eq ?_
    walk_at "ss"
    refine ⟨by simp, fun tt τ nt st ct => ?_⟩
    walk_at "ss"
    refine call_append (v := .ref tt) (st _ _ cD12) (by omega) ?_
    have bd : ∀ x : Int, 0 ≤ x % ((wd : Int) + 3) ∧ x % ((wd : Int) + 3) < 13 := fun x => by
      have h1 := Int.emod_nonneg x (show (wd : Int) + 3 ≠ 0 by omega)
      have h2 := Int.emod_lt_of_pos x (show (0 : Int) < (wd : Int) + 3 by omega)
      omega
    have dn : Deed3 (CellIn τ) (.ref tt) := Deed3.new ct (Int.emod_nonneg _ (by decide)) (bd _) (bd _)
    refine ⟨by first | trivial | rfl | decide | (intro q; cases q) | (intro _ q; cases q), ?_⟩
    walk_at "ss"
    refine ⟨m1, m2, m3, m4, m5, m6, fun a c q => (upd_ne _ _ fun z => by rw [z, hD7] at q; cases q).trans (st _ _ (S12 a c q)), (upd_ne _ _ aSD).trans (st _ _ cS'), vd ++ [.ref tt], upd_self _ _ _, fun x hx => ?_, by rw [List.length_append]; simp; omega, by omega⟩
    refine Deed3.put ?_ (st _ _ cD12)
    rcases List.mem_append.mp hx with hx | hx
    · exact (AD12 x hx).sub st
    · rw [List.mem_singleton.mp hx]; exact dn
end

/-! # S0 -/
set_option maxRecDepth 100000

section
variable {prog : Program} {w : World} {p : Program} {loose : List Str} {mean : ExcName → Option Value} {mg mb : Str → Option Value}
variable {A : Around} {B : Base} {fs : List (Env × LM)} {σ σ' : AH} {Q : Value → AH → Prop} {X : Value → Bool → AH → Prop}
variable {fe env : Env} {es : List Env} {u : Nat} {m : LM}
section
/-- the law's own frame -/
theorem start_tr {s₁ : Shared} {h₁ : Heap} {tk : Nat} {body : List Stmt} {sc : Str} {v : Value} {Qw : Flow → Shared → Prop} {Ew : Value → Shared → Prop} (hX : (hd3.heap_39 w.params).In s₁.heap) (T : PyProof.Rows.Top p loose mean mg mb s₁.heap) (hg : s₁.gens = #[])
    (F : Fr s₁.heap s₁.heap.objs.size h₁ (fun x => List.lookup x [(sc, v)].reverse)) (hL : env.locals = s₁.heap.objs.size) (hf : env.frame = some env.locals) (hk : env.scope.kind = .function)
    (h : ∀ A B, Ok (mkW prog w p loose mean mg mb) A B (env :: ([] : List (Env × LM)).map (·.1)) 8 → A.handled = none → B.h = s₁.heap → Tr (mkW prog w p loose mean mg mb) A B env [] (execs body env) (fun x => [(sc, er v)].reverse.lookup x) (fun _ => none) (RQ fun v _ => v = .bool true) noX)
    (hgood : ∀ s', (∀ b o, s₁.heap.get? b = some o → s'.heap.get? b = some o) → s'.os = s₁.os → s'.gens = #[] → Qw (.ret (.bool true)) s') :
    wpAny (model prog w) (callerA.deeper env) (execs body env) Qw Ew { heap := h₁, gens := s₁.gens, drawn := s₁.drawn, toks := tk, os := s₁.os } := by
  have R₀ : Rel ⟨s₁.heap, s₁.os, hashStr w⟩ [] (fun _ => none) s₁ := ⟨fun _ _ e => e, fun _ hp => (nomatch hp), List.nodup_nil, ⟨fun a => a, fun _ _ e => (nomatch e), fun _ _ e => (nomatch e), fun _ _ _ _ e => (nomatch e)⟩, hg, rfl⟩
  have R₁ := R₀.enter (env := env) (t := tk) hL hf hk (by rw [hL]; exact F.ns) F.keep
  have em : (fun x => (List.lookup x [(sc, v)].reverse).map er) = fun x => [(sc, er v)].reverse.lookup x := by
    funext x
    simp only [List.reverse_cons, List.reverse_nil, List.nil_append, List.lookup]
    cases x == sc <;> rfl
  rw [em] at R₁
  refine wpAny_mono (h (callerA.deeper env) ⟨s₁.heap, s₁.os, hashStr w⟩ ⟨⟨hX, T, rfl⟩, ?_, ?_, ?_, ?_⟩ rfl rfl _ R₁) (fun f s' q => ?_) fun e s' q => ?_
  · rfl
  · show callerA.depth + 1 + 8 ≤ 310 + 10 * 1; decide
  · show callerA.units + 3 + 8 ≤ 20 + 12 * 1; decide
  · show 1 ≤ 60; decide
  · obtain ⟨m', σ', R', q⟩ := q
    cases f with
    | ret v =>
      have q : er v = .bool true := q
      have : v = .bool true := er_bool_inv q
      subst this
      exact hgood s' R'.keep R'.os R'.gens
    | next => exact (nomatch (q : Value.none = .bool true))
    | brk => exact (nomatch (q : Value.none = .bool true))
    | cont => exact (nomatch (q : Value.none = .bool true))
  · obtain ⟨_, _, _, _, _, _, _, _, _, f⟩ := q; exact f.elim
end
end

/-! # W3 -/
set_option maxRecDepth 100000

section
variable {prog : Program} {w : World} {p : Program} {loose : List Str} {mean : ExcName → Option Value} {mg mb : Str → Option Value}
variable {A : Around} {B : Base} {fs : List (Env × LM)} {σ σ' : AH} {Q : Value → AH → Prop} {X : Value → Bool → AH → Prop}
variable {fe env : Env} {es : List Env} {u : Nat} {m : LM}
theorem post3 (a b : List WData) : PySem.Challenge.rw_bn0049_03.row.claim.post a (.bool true) b = true := by kernel_rfl
set_option maxHeartbeats 6000000
theorem w3 : PySem.Challenge.rw_bn0049_03.Holds := by
  refine hd3 ?_
  k_fill
  intro w s₀ s₁ mg mb G Y fa o pm cd doc dV kV ho hd hcd hD hmg hg args vals as hpre hlay hrd hwl hlo
  have KX := kIn_of Y
  k_behind G ho hd hcd hD hmg hpre hlay hrd hwl hlo cd
  rename_i X V GL T BB TE TW x1 x2 M x3 x4 xs hs hlay0 hL1 hr1 hl2 x5 x6 l vs x7 hL ra w1 r0 hI hr hc1 hc2 K0 h₁ F N0
  with_reducible refine start_tr (v := .ref l) KX T hg F ?_ ?_ ?_ (fun A B O hA hB => ?_) fun s' k1 k2 k3 => ?_
  · rfl
  · rfl
  · rfl
  · have hlb : ListB B l (iv xs) := ⟨vs.toArray, by rw [hB]; exact hL, by rw [List.toList_toArray]; exact iv_ints hI⟩
    have hxs : xs.length ≤ 63 := by omega
    clear F N0 K0 hD hcd GL TE TW M V X G Y T hL ra w1 r0 hr hB hI hc1 BB KX hc2 hs hlay0 hL1 hr1 hl2 ho hg
    generalize Challenge.rw_bn0049_03.row.prog = prog at O ⊢
    generalize looseW hd3.view_39 _ = loose at O ⊢
    generalize hd3.view_39 = pp at O ⊢
    generalize ExcName.means s₀.heap = mean at O ⊢
    generalize s₁.heap.objs.size = L at O ⊢
    dsimp only at O ⊢
    have run := @law_run
    dsimp only [lawBS, lawSc] at run
    dsimp only [er_ref]
    with_reducible exact run O hA hlb hxs
  · exact ⟨.inl ⟨_, .bool true, [], rfl, fun _ => rfl, .bool _, post3 _ _, fun _ => ⟨List.nodup_nil, fun _ h => nomatch h⟩⟩, k1, k2, k3⟩
end

end Mine

theorem PySem.Challenge.cw_bn0049_03_holds : PySem.Challenge.rw_bn0049_03.Holds :=
  Mine.w3
