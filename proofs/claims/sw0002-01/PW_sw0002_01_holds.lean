import PyProof.Rows.All
import Wide.All
import OpenK.AllK
import Wide.FinOn
import PySem.Challenge.RW_sw0002_01
open PySem PySem.W PyProof.Rows
set_option Elab.async false
set_option linter.unusedVariables false
namespace Mine

/-- data that a value stands for -/
inductive D where
  | int (i : Int) | bool (b : Bool) | str (x : Str) | ints (l : List Int) | argl (l : List Int)
  | rng (a b : Int) | pair (i : Int) (l : List Int) | intss (ll : List (List Int)) | fn (v : Value) | set (n : Nat)
  | mut (g : Heap) (a : Addr) (l : List Int)

def Kept (h h' : Heap) : Prop := ∀ b o, h.get? b = some o → h'.get? b = some o
theorem Kept.refl (h : Heap) : Kept h h := fun _ _ e => e
theorem Kept.trans {a b c : Heap} (x : Kept a b) (y : Kept b c) : Kept a c := fun p o e => y p o (x p o e)
theorem Kept.push (h : Heap) (o : Obj) : Kept h (h.push o) := fun _ _ e => Heap.get?_push_of_some _ e

/-- what frames change: their tables and cells -/
def framey : Data → Bool
  | .dict _ _ => true
  | .cell _ => true
  | _ => false
def KeptD (h h' : Heap) : Prop := ∀ b o, h.get? b = some o → framey o.data = false → h'.get? b = some o
theorem Kept.d {h h' : Heap} (k : Kept h h') : KeptD h h' := fun b o e _ => k b o e

def IsInts (h : Heap) (v : Value) (l : List Int) : Prop := l.length ≤ 1000 ∧ ∃ a vs, v = .ref a ∧ h.PlainList a vs.toArray ∧ IntsAre vs l
inductive AllInts2 (h : Heap) : List Value → List (List Int) → Prop
  | nil : AllInts2 h [] []
  | cons {v vs l ll} : IsInts h v l → AllInts2 h vs ll → AllInts2 h (v :: vs) (l :: ll)

def Rep (h : Heap) (v : Value) : D → Prop
  | .int i => ∃ t, v = .int i t
  | .bool b => v = .bool b
  | .str x => ∃ t, v = .str x t
  | .ints l => IsInts h v l
  | .argl l => l.length ≤ 1000 ∧ ∃ a vs, v = .ref a ∧ h.IsList a vs.toArray ∧ IntsAre vs l
  | .rng a b => ∃ r t u w, v = .ref r ∧ IsRange h r a b 1 t u w
  | .pair i l => ∃ a w1 w2, v = .ref a ∧ h.PlainList a #[w1, w2] ∧ (∃ t, w1 = .int i t) ∧ IsInts h w2 l
  | .intss ll => ∃ a vs, v = .ref a ∧ h.PlainList a vs.toArray ∧ AllInts2 h vs ll
  | .fn w => v = w
  | .mut g a l => v = .ref a ∧ g.get? a = none ∧ IsInts h v l
  | .set n => n ≤ 1000 ∧ ∃ a o es ep t, v = .ref a ∧ h.get? a = some o ∧ o.ExactSet ∧ o.data = .set es ep t ∧ t.fits es.size = true ∧ es.size = n

/-- an iterator -/
def iterish (o : Obj) : Prop := (∃ vs, o.data = .fields vs) ∧ (o.cls = .type "list_iterator" ∨ o.cls = .type "range_iterator")
def KeptS (h h' : Heap) : Prop := ∀ b o, h.get? b = some o → framey o.data = false → ¬ iterish o → h'.get? b = some o
def KeptI (h h' : Heap) : Prop := ∀ b o, h.get? b = some o → ¬ iterish o → h'.get? b = some o
theorem KeptD.s {h h' : Heap} (k : KeptD h h') : KeptS h h' := fun b o e f _ => k b o e f
theorem KeptI.s {h h' : Heap} (k : KeptI h h') : KeptS h h' := fun b o e _ f => k b o e f
theorem Kept.i {h h' : Heap} (k : Kept h h') : KeptI h h' := fun b o e _ => k b o e
theorem not_iter_seq {o : Obj} {vs n} (h : o.data = .seq vs n) : ¬ iterish o := fun ⟨⟨us, e⟩, _⟩ => by rw [h] at e; cases e
theorem not_iter_set {o : Obj} {es ep t} (h : o.data = .set es ep t) : ¬ iterish o := fun ⟨⟨us, e⟩, _⟩ => by rw [h] at e; cases e
theorem not_iter_dict {o : Obj} {es ep} (h : o.data = .dict es ep) : ¬ iterish o := fun ⟨⟨us, e⟩, _⟩ => by rw [h] at e; cases e
theorem not_iter_cell {o : Obj} {v} (h : o.data = .cell v) : ¬ iterish o := fun ⟨⟨us, e⟩, _⟩ => by rw [h] at e; cases e
theorem not_iter_range {d dt sl} : ¬ iterish (⟨.type "range", d, dt, sl⟩ : Obj) := fun ⟨_, e⟩ => by
  rcases e with e | e
  · exact absurd (Value.type.inj e) (by decide)
  · exact absurd (Value.type.inj e) (by decide)

theorem IsInts.keptS {h h' : Heap} (k : KeptS h h') {v l} (x : IsInts h v l) : IsInts h' v l :=
  let ⟨z, a, vs, e, ⟨n, g⟩, i⟩ := x; ⟨z, a, vs, e, ⟨n, k _ _ g rfl (not_iter_seq rfl)⟩, i⟩
theorem AllInts2.keptS {h h' : Heap} (k : KeptS h h') {vs ll} (x : AllInts2 h vs ll) : AllInts2 h' vs ll := by
  induction x with
  | nil => exact .nil
  | cons a _ ih => exact .cons (a.keptS k) ih
theorem Rep.keptS {h h' : Heap} (k : KeptS h h') {v : Value} : ∀ {d : D}, Rep h v d → Rep h' v d
  | .int _, x => x
  | .bool _, x => x
  | .str _, x => x
  | .ints _, x => IsInts.keptS k x
  | .set _, ⟨z, a, o, es, ep, t, e, g, x1, x2, x3⟩ => ⟨z, a, o, es, ep, t, e, k _ _ g (by rw [x2]; rfl) (not_iter_set x2), x1, x2, x3⟩
  | .argl _, ⟨z, a, vs, e, ⟨o, g, hc, n, hd⟩, i⟩ => ⟨z, a, vs, e, ⟨o, k _ _ g (by rw [hd]; rfl) (not_iter_seq hd), hc, n, hd⟩, i⟩
  | .rng _ _, ⟨r, t, u, w, e, g⟩ => ⟨r, t, u, w, e, k _ _ g rfl not_iter_range⟩
  | .pair _ _, ⟨a, w1, w2, e, ⟨n, g⟩, p, q⟩ => ⟨a, w1, w2, e, ⟨n, k _ _ g rfl (not_iter_seq rfl)⟩, p, q.keptS k⟩
  | .intss _, ⟨a, vs, e, ⟨n, g⟩, q⟩ => ⟨a, vs, e, ⟨n, k _ _ g rfl (not_iter_seq rfl)⟩, q.keptS k⟩
  | .fn _, x => x
  | .mut _ _ _, ⟨e, g, x⟩ => ⟨e, g, x.keptS k⟩
theorem IsInts.keptD {h h' : Heap} (k : KeptD h h') {v l} (x : IsInts h v l) : IsInts h' v l := x.keptS k.s
theorem AllInts2.keptD {h h' : Heap} (k : KeptD h h') {vs ll} (x : AllInts2 h vs ll) : AllInts2 h' vs ll := x.keptS k.s
theorem Rep.keptD {h h' : Heap} (k : KeptD h h') {v : Value} {d : D} (x : Rep h v d) : Rep h' v d := x.keptS k.s
theorem Rep.kept {h h' : Heap} (k : Kept h h') {v : Value} {d : D} (x : Rep h v d) : Rep h' v d := x.keptD k.d

/-- the value of a name, seen from a frame -/
inductive Sees (env : Env) (h : Heap) (x : Str) (v : Value) : Prop
  | loc {m} : env.scope.kind = .function → (x == ("__debug__" : Str)) = false → env.kindOf x = some .local → h.Ns env.locals m → m x = some v → Sees env h x v
  | cell {c} : env.scope.kind = .function → (x == ("__debug__" : Str)) = false → env.kindOf x = some .cell → env.cells.lookup x = some c → h.IsCell c (some v) → Sees env h x v
  | free {c} : env.scope.kind = .function → (x == ("__debug__" : Str)) = false → (x == ("__classdict__" : Str)) = false → env.kindOf x = some .free → env.cells.lookup x = some c → h.IsCell c (some v) → Sees env h x v
  | glob {mg} : env.scope.kind = .function → (x == ("__debug__" : Str)) = false → env.kindOf x = some .globalImplicit → h.Ns env.globals mg → mg x = some v → Sees env h x v
  | blt {mg mb} : env.scope.kind = .function → (x == ("__debug__" : Str)) = false → env.kindOf x = some .globalImplicit → h.Ns env.globals mg → mg x = none → h.Ns env.builtins mb → mb x = some v → Sees env h x v

theorem Sees.kept {env : Env} {h h' : Heap} {x : Str} {v : Value} (k : Kept h h') (s : Sees env h x v) : Sees env h' x v := by
  cases s with
  | loc a b c d e => exact .loc a b c (d.keeps k) e
  | cell a b c d e => exact .cell a b c d (e.keeps k)
  | free a b b' c d e => exact .free a b b' c d (e.keeps k)
  | glob a b c d e => exact .glob a b c (d.keeps k) e
  | blt a b c d e f g => exact .blt a b c (d.keeps k) e (f.keeps k) g

theorem ns_keptI {h h' : Heap} (k : KeptI h h') {a m} (n : h.Ns a m) : h'.Ns a m :=
  let ⟨o, es, ep, x, d, r⟩ := n; ⟨o, es, ep, k _ _ x (not_iter_dict d), d, r⟩
theorem cell_keptI {h h' : Heap} (k : KeptI h h') {c v} (n : h.IsCell c v) : h'.IsCell c v :=
  let ⟨o, x, d⟩ := n; ⟨o, k _ _ x (not_iter_cell d), d⟩
theorem Sees.keptI {env : Env} {h h' : Heap} {x : Str} {v : Value} (k : KeptI h h') (s : Sees env h x v) : Sees env h' x v := by
  cases s with
  | loc a b c d e => exact .loc a b c (ns_keptI k d) e
  | cell a b c d e => exact .cell a b c d (cell_keptI k e)
  | free a b b' c d e => exact .free a b b' c d (cell_keptI k e)
  | glob a b c d e => exact .glob a b c (ns_keptI k d) e
  | blt a b c d e f g => exact .blt a b c (ns_keptI k d) e (ns_keptI k f) g

def Has (env : Env) (h : Heap) (p : Str × D) : Prop := ∃ v, Sees env h p.1 v ∧ Rep h v p.2
theorem Has.kept {env : Env} {h h' : Heap} {p} (k : Kept h h') (s : Has env h p) : Has env h' p := let ⟨v, a, b⟩ := s; ⟨v, a.kept k, b.kept k⟩
def Vals (env : Env) (h : Heap) (ρ : List (Str × D)) : Prop := ∀ p ∈ ρ, Has env h p
theorem Has.keptI {env : Env} {h h' : Heap} {p} (k : KeptI h h') (s : Has env h p) : Has env h' p := let ⟨v, a, b⟩ := s; ⟨v, a.keptI k, b.keptS k.s⟩
theorem Vals.keptI {env : Env} {h h' : Heap} {ρ} (k : KeptI h h') (s : Vals env h ρ) : Vals env h' ρ := fun p hp => (s p hp).keptI k
theorem Vals.kept {env : Env} {h h' : Heap} {ρ} (k : Kept h h') (s : Vals env h ρ) : Vals env h' ρ := fun p hp => (s p hp).kept k

section
variable {M : Model} {A : Around} {E : Value → Shared → Prop} {s : Shared} {env : Env}
theorem Sees.name {x : Str} {pos : Pos} {v : Value} {Q : Value → Shared → Prop} (S : Sees env s.heap x v) (h : Q v s) : wpAny M A (eval (.Name x pos) env) Q E s := by
  cases S with
  | loc a b c d e => exact wpAny_Name (wpAny_loadName_local a c d e h) b
  | cell a b c d e => exact wpAny_Name (wpAny_loadName_cell a c d e h) b
  | free a b b' c d e => exact wpAny_Name (wpAny_loadName_free a c d e h b') b
  | glob a b c d e => exact Calls.Name_function_global a c (Calls.loadGlobal_global d e h) b
  | blt a b c d e f g => exact Calls.Name_function_global a c (Calls.loadGlobal_builtin d e f g h) b
end

theorem keeps_kept {s s' : Shared} (k : Keeps s s') : Kept s.heap s'.heap := by obtain ⟨h, t, rfl, k⟩ := k; exact k
theorem keeps_refl (s : Shared) : Keeps s s := ⟨_, _, rfl, Kept.refl _⟩
theorem keeps_trans {a b c : Shared} (x : Keeps a b) (y : Keeps b c) : Keeps a c := by
  obtain ⟨h, t, rfl, k⟩ := x
  obtain ⟨h', t', rfl, k'⟩ := y
  exact ⟨h', t', rfl, Kept.trans k k'⟩
theorem keeps_tok (s : Shared) (t : Nat) : Keeps s { s with toks := t } := ⟨_, _, rfl, Kept.refl _⟩
theorem keeps_mk {s : Shared} {h : Heap} {t : Nat} (k : Kept s.heap h) : Keeps s { s with heap := h, toks := t } := ⟨_, _, rfl, k⟩
theorem keeps_mk' {s : Shared} {h : Heap} (k : Kept s.heap h) : Keeps s { s with heap := h } := ⟨_, _, rfl, k⟩
theorem keeps_push (s : Shared) (o : Obj) : Keeps s { s with heap := s.heap.push o } := ⟨_, _, rfl, Kept.push _ _⟩

/-- the part of the heap that stood at the law's call stands -/
structure Room (A : Around) (k : Nat) : Prop where
  hh : A.handled = none
  depth : A.depth + k < recursionLimit
  units : A.units + 100 * k < cLine
theorem Room.hu {A : Around} {k : Nat} (r : Room A (k + 1)) : A.units + 64 < cLine := by have := r.units; omega
theorem Room.le {A : Around} {j k : Nat} (r : Room A k) (h : j ≤ k) : Room A j := ⟨r.hh, by have := r.depth; omega, by have := r.units; omega⟩

/-- one operation upon values: from data to data, all that stands is kept -/
def Op1 (prog : Program) (w : World) (A : Around) (f : Value → Sem Value) (d d' : D) : Prop :=
  ∀ (s : Shared) (v : Value) (Q : Value → Shared → Prop) (E : Value → Shared → Prop), Rep s.heap v d → (∀ r s', Keeps s s' → Rep s'.heap r d' → Q r s') → wpAny (model prog w) A (f v) Q E s
def Op2 (prog : Program) (w : World) (A : Around) (f : Value → Value → Sem Value) (d e d' : D) : Prop :=
  ∀ (s : Shared) (v u : Value) (Q : Value → Shared → Prop) (E : Value → Shared → Prop), Rep s.heap v d → Rep s.heap u e → (∀ r s', Keeps s s' → Rep s'.heap r d' → Q r s') → wpAny (model prog w) A (f v u) Q E s

/-- an expression gives a datum and keeps all that stands -/
def EvE (prog : Program) (w : World) (A : Around) (h₀ : Heap) (env : Env) (ρ : List (Str × D)) (e : Expr) (d : D) : Prop :=
  ∀ (s : Shared) (Q : Value → Shared → Prop) (E : Value → Shared → Prop), Kept h₀ s.heap → Vals env s.heap ρ → (∀ v s', Keeps s s' → Rep s'.heap v d → Q v s') → wpAny (model prog w) A (eval e env) Q E s
/-- a test -/
def TsE (prog : Program) (w : World) (A : Around) (h₀ : Heap) (env : Env) (ρ : List (Str × D)) (e : Expr) (b : Bool) : Prop :=
  ∀ (s : Shared) (Q : Bool → Shared → Prop) (E : Value → Shared → Prop), Kept h₀ s.heap → Vals env s.heap ρ → (∀ s', Keeps s s' → Q b s') → wpAny (model prog w) A (isTrue e env (eval e env)) Q E s
/-- arguments -/
inductive RepAll (h : Heap) : List Value → List D → Prop
  | nil : RepAll h [] []
  | cons {v vs d ds} : Rep h v d → RepAll h vs ds → RepAll h (v :: vs) (d :: ds)
theorem RepAll.kept {h h' : Heap} (k : Kept h h') {vs ds} (x : RepAll h vs ds) : RepAll h' vs ds := by
  induction x with
  | nil => exact .nil
  | cons a _ ih => exact .cons (a.kept k) ih
theorem RepAll.one {h : Heap} {vs d} (x : RepAll h vs [d]) : ∃ v, vs = [v] ∧ Rep h v d := by
  cases x with | cons a r => cases r; exact ⟨_, rfl, a⟩
theorem RepAll.two {h : Heap} {vs d e} (x : RepAll h vs [d, e]) : ∃ v u, vs = [v, u] ∧ Rep h v d ∧ Rep h u e := by
  cases x with | cons a r => cases r with | cons b r => cases r; exact ⟨_, _, rfl, a, b⟩
theorem RepAll.three {h : Heap} {vs d e f} (x : RepAll h vs [d, e, f]) : ∃ v u y, vs = [v, u, y] ∧ Rep h v d ∧ Rep h u e ∧ Rep h y f := by
  cases x with | cons a r => cases r with | cons b r => cases r with | cons c r => cases r; exact ⟨_, _, _, rfl, a, b, c⟩
def EvA (prog : Program) (w : World) (A : Around) (h₀ : Heap) (env : Env) (ρ : List (Str × D)) (pos : Pos) (es : List Expr) (ds : List D) : Prop :=
  ∀ (s : Shared) (Q : List Value → Shared → Prop) (E : Value → Shared → Prop), Kept h₀ s.heap → Vals env s.heap ρ → (∀ vs s', Keeps s s' → RepAll s'.heap vs ds → Q vs s') → wpAny (model prog w) A (spliced (backTo pos (starEach es env))) Q E s

section
variable {prog : Program} {w : World} {A : Around} {h₀ : Heap} {env : Env} {ρ : List (Str × D)}

theorem EvE.eq {e : Expr} {d d' : D} (x : EvE prog w A h₀ env ρ e d) (h : d = d') : EvE prog w A h₀ env ρ e d' := h ▸ x
theorem TsE.eq {e : Expr} {d d' : Bool} (x : TsE prog w A h₀ env ρ e d) (h : d = d') : TsE prog w A h₀ env ρ e d' := h ▸ x

theorem e_name {x : Str} {pos : Pos} {d : D} (h : (x, d) ∈ ρ) : EvE prog w A h₀ env ρ (.Name x pos) d := fun s _ _ _ V hQ => by
  obtain ⟨v, S, R⟩ := V _ h
  exact S.name (hQ _ _ (keeps_refl _) R)
theorem e_int {i : Int} {k : Nat} {pos : Pos} : EvE prog w A h₀ env ρ (.Constant (.int i) k pos) (.int i) := fun s _ _ _ _ hQ =>
  wpAny_Constant_int (hQ _ _ (keeps_tok _ _) ⟨_, rfl⟩)
theorem e_bool {b : Bool} {k : Nat} {pos : Pos} : EvE prog w A h₀ env ρ (.Constant (.bool b) k pos) (.bool b) := fun s _ _ _ _ hQ =>
  fun _ _ _ => hQ _ _ (keeps_refl _) rfl
theorem e_str {x : Str} {k : Nat} {pos : Pos} : EvE prog w A h₀ env ρ (.Constant (.str x) k pos) (.str x) := fun s _ _ _ _ hQ =>
  Calls.Constant_str (hQ _ _ (keeps_tok _ _) ⟨_, rfl⟩)
theorem e_bin {op : Operator} {l r : Expr} {pos : Pos} {d1 d2 d : D} (h1 : EvE prog w A h₀ env ρ l d1) (h2 : EvE prog w A h₀ env ρ r d2) (ho : Op2 prog w A (binaryOp op) d1 d2 d) :
    EvE prog w A h₀ env ρ (.BinOp l op r pos) d := fun s _ _ hb V hQ =>
  wpAny_BinOp (h1 s _ _ hb V fun v s1 k1 r1 => h2 s1 _ _ (hb.trans (keeps_kept k1)) (V.kept (keeps_kept k1)) fun u s2 k2 r2 =>
    ho s2 v u _ _ (r1.kept (keeps_kept k2)) r2 fun r s3 k3 r3 => hQ _ _ (keeps_trans (keeps_trans k1 k2) k3) r3)
theorem e_cmp {op : CmpOp} {l r : Expr} {pos : Pos} {d1 d2 d : D} (h1 : EvE prog w A h₀ env ρ l d1) (h2 : EvE prog w A h₀ env ρ r d2) (ho : Op2 prog w A (compareOp op) d1 d2 d) (hm : behindInMarks op r = false := by rfl) :
    EvE prog w A h₀ env ρ (.Compare l [op] [r] pos) d := fun s _ _ hb V hQ =>
  wpAny_Compare1 (h1 s _ _ hb V fun v s1 k1 r1 => h2 s1 _ _ (hb.trans (keeps_kept k1)) (V.kept (keeps_kept k1)) fun u s2 k2 r2 =>
    ho s2 v u _ _ (r1.kept (keeps_kept k2)) r2 fun r s3 k3 r3 => hQ _ _ (keeps_trans (keeps_trans k1 k2) k3) r3) hm
theorem e_un {op : UnaryOp} {x : Expr} {pos : Pos} {d1 d : D} (h1 : EvE prog w A h₀ env ρ x d1) (ho : Op1 prog w A (unaryOp op) d1 d) :
    EvE prog w A h₀ env ρ (.UnaryOp op x pos) d := fun s _ _ hb V hQ =>
  wpAny_UnaryOp (h1 s _ _ hb V fun v s1 k1 r1 => ho s1 v _ _ r1 fun r s3 k3 r3 => hQ _ _ (keeps_trans k1 k3) r3)
theorem e_if {t a b : Expr} {pos : Pos} {c : Bool} {d : D} (ht : TsE prog w A h₀ env ρ t c) (ha : c = true → EvE prog w A h₀ env ρ a d) (hb' : c = false → EvE prog w A h₀ env ρ b d) :
    EvE prog w A h₀ env ρ (.IfExp t a b pos) d := fun s _ _ hb V hQ =>
  wpAny_IfExp (ht s _ _ hb V fun s1 k1 => by
    cases c with
    | true => exact ha rfl s1 _ _ (hb.trans (keeps_kept k1)) (V.kept (keeps_kept k1)) fun v s2 k2 r2 => hQ _ _ (keeps_trans k1 k2) r2
    | false => exact hb' rfl s1 _ _ (hb.trans (keeps_kept k1)) (V.kept (keeps_kept k1)) fun v s2 k2 r2 => hQ _ _ (keeps_trans k1 k2) r2)
theorem e_list0 {pos : Pos} : EvE prog w A h₀ env ρ (.List [] pos) (.ints []) := fun s _ _ _ _ hQ =>
  List_ (args_nil (wpAny_newObj_type (hQ _ _ (keeps_push _ _) ⟨by decide, _, [], rfl, ⟨0, Heap.get?_push_size _ rfl⟩, .nil⟩) (by size_fits)))

theorem a_nil {pos : Pos} : EvA prog w A h₀ env ρ pos [] [] := fun s _ _ _ _ hQ => args_nil (hQ _ _ (keeps_refl _) .nil)
theorem a_cons {pos : Pos} {e : Expr} {es : List Expr} {d : D} {ds : List D} (h1 : EvE prog w A h₀ env ρ e d) (h2 : EvA prog w A h₀ env ρ pos es ds)
    (he : ∀ env, starEach (e :: es) env = (false, eval e env) :: starEach es env := by intro _; rfl) : EvA prog w A h₀ env ρ pos (e :: es) (d :: ds) := fun s _ _ hb V hQ =>
  args_cons (h1 s _ _ hb V fun v s1 k1 r1 => h2 s1 _ _ (hb.trans (keeps_kept k1)) (V.kept (keeps_kept k1)) fun vs s2 k2 r2 => hQ _ _ (keeps_trans k1 k2) (.cons (r1.kept (keeps_kept k2)) r2)) (he env)

theorem repAll_ints {h : Heap} : ∀ {vs : List Value} {ns : List Int}, RepAll h vs (ns.map D.int) → IntsAre vs ns
  | [], [], _ => .nil
  | _ :: _, [], x => by cases x
  | [], _ :: _, x => by cases x
  | _ :: _, n :: ns, .cons ⟨t, e⟩ r => e ▸ .cons n t (repAll_ints r)
theorem repAll_intss {h : Heap} : ∀ {vs : List Value} {ns : List (List Int)}, RepAll h vs (ns.map D.ints) → AllInts2 h vs ns
  | [], [], _ => .nil
  | _ :: _, [], x => by cases x
  | [], _ :: _, x => by cases x
  | _ :: _, n :: ns, .cons e r => .cons e (repAll_intss r)
theorem repAll_len {h : Heap} {vs ds} (x : RepAll h vs ds) : vs.length = ds.length := by
  induction x with
  | nil => rfl
  | cons _ _ ih => simp [ih]
/-- a list display of ints -/
theorem e_list {pos : Pos} {es : List Expr} {ns : List Int} (h : EvA prog w A h₀ env ρ pos es (ns.map D.int)) (hz : ns.length ≤ 1000 := by decide) : EvE prog w A h₀ env ρ (.List es pos) (.ints ns) := fun s _ _ hb V hQ =>
  List_ (h s _ _ hb V fun vs s1 k1 r1 => wpAny_newObj_type (hQ _ _ (keeps_trans k1 (keeps_push _ _)) ⟨hz, _, vs, rfl, ⟨0, Heap.get?_push_size _ rfl⟩, repAll_ints r1⟩)
    (by show vs.toArray.size ≤ sizeLine; have := repAll_len r1; rw [List.length_map] at this; rw [List.size_toArray, sizeLine_eq]; omega))
theorem e_listl {pos : Pos} {es : List Expr} {ns : List (List Int)} (h : EvA prog w A h₀ env ρ pos es (ns.map D.ints)) (hz : ns.length ≤ 1000 := by decide) : EvE prog w A h₀ env ρ (.List es pos) (.intss ns) := fun s _ _ hb V hQ =>
  List_ (h s _ _ hb V fun vs s1 k1 r1 => wpAny_newObj_type (hQ _ _ (keeps_trans k1 (keeps_push _ _)) ⟨_, vs, rfl, ⟨0, Heap.get?_push_size _ rfl⟩, (repAll_intss r1).keptD (Kept.push _ _).d⟩)
    (by show vs.toArray.size ≤ sizeLine; have := repAll_len r1; rw [List.length_map] at this; rw [List.size_toArray, sizeLine_eq]; omega))
theorem e_pair {pos : Pos} {es : List Expr} {i : Int} {l : List Int} (h : EvA prog w A h₀ env ρ pos es [.int i, .ints l]) : EvE prog w A h₀ env ρ (.List es pos) (.pair i l) := fun s _ _ hb V hQ =>
  List_ (h s _ _ hb V fun vs s1 k1 r1 => by
    cases r1 with
    | cons a r => cases r with
      | cons b r => cases r with
        | nil => exact wpAny_newObj_type (hQ _ _ (keeps_trans k1 (keeps_push _ _)) ⟨_, _, _, rfl, ⟨0, Heap.get?_push_size _ rfl⟩, a, IsInts.keptD (Kept.push _ _).d b⟩) (by size_fits))

-- tests
theorem t_cmp {op : CmpOp} {l r : Expr} {pos : Pos} {d1 d2 : D} {b : Bool} (h1 : EvE prog w A h₀ env ρ l d1) (h2 : EvE prog w A h₀ env ρ r d2) (ho : Op2 prog w A (compareOp op) d1 d2 (.bool b)) (hm : behindInMarks op r = false := by rfl) :
    TsE prog w A h₀ env ρ (.Compare l [op] [r] pos) b := fun s _ _ hb V hQ =>
  wpAny_isTrue_Compare1 (h1 s _ _ hb V fun v s1 k1 r1 => h2 s1 _ _ (hb.trans (keeps_kept k1)) (V.kept (keeps_kept k1)) fun u s2 k2 r2 =>
    ho s2 v u _ _ (r1.kept (keeps_kept k2)) r2 fun r s3 k3 r3 => by
      have r3 : r = .bool b := r3
      subst r3; exact wpAny_truthy_bool (hQ _ (keeps_trans (keeps_trans k1 k2) k3))) hm
theorem t_chain {op op' : CmpOp} {l r r' : Expr} {pos : Pos} {d1 d2 d3 : D} {b b' : Bool} (h1 : EvE prog w A h₀ env ρ l d1) (h2 : EvE prog w A h₀ env ρ r d2) (h3 : EvE prog w A h₀ env ρ r' d3)
    (ho : Op2 prog w A (compareOp op) d1 d2 (.bool b)) (ho' : Op2 prog w A (compareOp op') d2 d3 (.bool b')) (hm : lastMarks [op, op'] [r, r'] = false := by rfl) :
    TsE prog w A h₀ env ρ (.Compare l [op, op'] [r, r'] pos) (b && b') := fun s _ _ hb V hQ =>
  isTrue_chain (h1 s _ _ hb V fun v s1 k1 r1 => test_link (h2 s1 _ _ (hb.trans (keeps_kept k1)) (V.kept (keeps_kept k1)) fun u s2 k2 r2 =>
    ho s2 v u _ _ (r1.kept (keeps_kept k2)) r2 fun r s3 k3 r3 => by
      have r3 : r = .bool b := r3
      subst r3
      refine wpAny_truthy_bool ?_
      cases b with
      | false => exact hQ _ (keeps_trans (keeps_trans k1 k2) k3)
      | true =>
        have kk := keeps_trans (keeps_trans k1 k2) k3
        refine test_last (h3 s3 _ _ (hb.trans (keeps_kept kk)) (V.kept (keeps_kept kk)) fun x s4 k4 r4 =>
          ho' s4 u x _ _ (r2.kept (keeps_kept (keeps_trans k3 k4))) r4 fun y s5 k5 r5 => ?_)
        have r5 : y = .bool b' := r5
        subst r5
        refine wpAny_truthy_bool ?_
        have := hQ _ (keeps_trans (keeps_trans kk k4) k5)
        simpa using this)) hm
theorem t_not {x : Expr} {pos : Pos} {b : Bool} (h : TsE prog w A h₀ env ρ x b) : TsE prog w A h₀ env ρ (.UnaryOp .Not x pos) (!b) := fun s _ _ hb V hQ =>
  isTrue_not (h s _ _ hb V fun s1 k1 => hQ _ k1)
theorem t_and {x y : Expr} {pos : Pos} {b c : Bool} (h1 : TsE prog w A h₀ env ρ x b) (h2 : b = true → TsE prog w A h₀ env ρ y c) : TsE prog w A h₀ env ρ (.BoolOp .And [x, y] pos) (b && c) := fun s _ _ hb V hQ =>
  isTrue_and (h1 s _ _ hb V fun s1 k1 => by
    cases b with
    | false => exact hQ _ k1
    | true =>
      refine isTrue_and (h2 rfl s1 _ _ (hb.trans (keeps_kept k1)) (V.kept (keeps_kept k1)) fun s2 k2 => ?_)
      cases c with
      | false => exact hQ _ (keeps_trans k1 k2)
      | true => exact isTrue_and_nil (hQ _ (keeps_trans k1 k2)))
theorem t_and3 {x y z : Expr} {pos : Pos} {b c d : Bool} (h1 : TsE prog w A h₀ env ρ x b) (h2 : b = true → TsE prog w A h₀ env ρ y c) (h3 : b = true → c = true → TsE prog w A h₀ env ρ z d) : TsE prog w A h₀ env ρ (.BoolOp .And [x, y, z] pos) (b && (c && d)) := fun s _ _ hb V hQ =>
  isTrue_and (h1 s _ _ hb V fun s1 k1 => by
    cases b with
    | false => exact hQ _ k1
    | true =>
      refine isTrue_and (h2 rfl s1 _ _ (hb.trans (keeps_kept k1)) (V.kept (keeps_kept k1)) fun s2 k2 => ?_)
      cases c with
      | false => exact hQ _ (keeps_trans k1 k2)
      | true =>
        have kk := keeps_trans k1 k2
        refine isTrue_and (h3 rfl rfl s2 _ _ (hb.trans (keeps_kept kk)) (V.kept (keeps_kept kk)) fun s3 k3 => ?_)
        cases d with
        | false => exact hQ _ (keeps_trans kk k3)
        | true => exact isTrue_and_nil (hQ _ (keeps_trans kk k3)))
theorem t_or {x y : Expr} {pos : Pos} {b c : Bool} (h1 : TsE prog w A h₀ env ρ x b) (h2 : b = false → TsE prog w A h₀ env ρ y c) : TsE prog w A h₀ env ρ (.BoolOp .Or [x, y] pos) (b || c) := fun s _ _ hb V hQ =>
  isTrue_or (h1 s _ _ hb V fun s1 k1 => by
    cases b with
    | true => exact hQ _ k1
    | false =>
      refine isTrue_or (h2 rfl s1 _ _ (hb.trans (keeps_kept k1)) (V.kept (keeps_kept k1)) fun s2 k2 => ?_)
      cases c with
      | true => exact hQ _ (keeps_trans k1 k2)
      | false => exact isTrue_or_nil (hQ _ (keeps_trans k1 k2)))
/-- a plain expression that gives a bool -/
theorem t_plain {e : Expr} {b : Bool} (h : EvE prog w A h₀ env ρ e (.bool b)) (he : ∀ env whole, isTrue e env whole = (do let v ← whole; standAt e.pos; holding [v] (truthy v)) := by intro _ _; rfl) :
    TsE prog w A h₀ env ρ e b := fun s _ _ hb V hQ =>
  isTrue_plain (h s _ _ hb V fun v s1 k1 r1 => by
    have r1 : v = .bool b := r1
    subst r1; exact wpAny_truthy_bool (hQ _ k1)) (he env _)
end

section
variable {prog : Program} {w : World} {A : Around}
theorem o_add {a b : Int} : Op2 prog w A (binaryOp .Add) (.int a) (.int b) (.int (a + b)) := fun s _ _ _ _ ⟨_, e1⟩ ⟨_, e2⟩ hQ => by subst e1 e2; exact add_int (hQ _ _ (keeps_tok _ _) ⟨_, rfl⟩)
theorem o_sub {a b : Int} : Op2 prog w A (binaryOp .Sub) (.int a) (.int b) (.int (a - b)) := fun s _ _ _ _ ⟨_, e1⟩ ⟨_, e2⟩ hQ => by subst e1 e2; exact sub_int (hQ _ _ (keeps_tok _ _) ⟨_, rfl⟩)
theorem o_mul {a b : Int} (h : a.natAbs < 2 ^ 40 ∧ b.natAbs < 2 ^ 40) : Op2 prog w A (binaryOp .Mult) (.int a) (.int b) (.int (a * b)) := fun s _ _ _ _ ⟨_, e1⟩ ⟨_, e2⟩ hQ => by
  subst e1 e2
  first
  | exact mul_int (hQ _ _ (keeps_tok _ _) ⟨_, rfl⟩)
theorem o_mod {a b : Int} (h : b ≠ 0) : Op2 prog w A (binaryOp .Mod) (.int a) (.int b) (.int (a.fmod b)) := fun s _ _ _ _ ⟨_, e1⟩ ⟨_, e2⟩ hQ => by subst e1 e2; exact mod_int' h (hQ _ _ (keeps_tok _ _) ⟨_, rfl⟩)
theorem o_lt {a b : Int} : Op2 prog w A (compareOp .Lt) (.int a) (.int b) (.bool (decide (a < b))) := fun s _ _ _ _ ⟨_, e1⟩ ⟨_, e2⟩ hQ => by subst e1 e2; exact lt_int (hQ _ _ (keeps_refl _) rfl)
theorem o_gt {a b : Int} : Op2 prog w A (compareOp .Gt) (.int a) (.int b) (.bool (decide (b < a))) := fun s _ _ _ _ ⟨_, e1⟩ ⟨_, e2⟩ hQ => by subst e1 e2; exact gt_int (hQ _ _ (keeps_refl _) rfl)
theorem o_le {a b : Int} : Op2 prog w A (compareOp .LtE) (.int a) (.int b) (.bool (decide (a ≤ b))) := fun s _ _ _ _ ⟨_, e1⟩ ⟨_, e2⟩ hQ => by subst e1 e2; exact le_int (hQ _ _ (keeps_refl _) rfl)
theorem o_eq {a b : Int} : Op2 prog w A (compareOp .Eq) (.int a) (.int b) (.bool (a == b)) := fun s _ _ _ _ ⟨_, e1⟩ ⟨_, e2⟩ hQ => by subst e1 e2; exact eq_int (hQ _ _ (keeps_refl _) rfl)
theorem o_ne {a b : Int} : Op2 prog w A (compareOp .NotEq) (.int a) (.int b) (.bool (a != b)) := fun s _ _ _ _ ⟨_, e1⟩ ⟨_, e2⟩ hQ => by subst e1 e2; exact ne_int (hQ _ _ (keeps_refl _) rfl)
theorem o_neg {a : Int} : Op1 prog w A (unaryOp .USub) (.int a) (.int (-a)) := fun s _ _ _ ⟨_, e1⟩ hQ => by subst e1; exact neg_int (hQ _ _ (keeps_tok _ _) ⟨_, rfl⟩)
end
theorem intItems_of : ∀ {vs : List Value} {ns : List Int}, IntsAre vs ns → ∃ xs : Array (Int × Tok), vs.toArray = intItems xs ∧ xs.toList.map (·.1) = ns
  | _, _, .nil => ⟨#[], by simp [intItems], rfl⟩
  | _, _, .cons n t r => by
    obtain ⟨xs, e, f⟩ := intItems_of r
    refine ⟨((n, t) :: xs.toList).toArray, ?_, by simp [f]⟩
    have := congrArg Array.toList e
    simp only [intItems, Array.toList_map] at this
    apply Array.ext'
    simp only [intItems, Array.toList_map, List.map_cons]
    rw [← this]

section
variable {prog : Program} {w : World} {A : Around}

theorem o_floordiv {a b : Int} (h : b ≠ 0) (hp : Builtin.divisionGoesByPylong a b = false) : Op2 prog w A (binaryOp .FloorDiv) (.int a) (.int b) (.int (a.fdiv b)) := fun s _ _ _ _ ⟨_, e1⟩ ⟨_, e2⟩ hQ => by
  subst e1 e2; exact floordiv_int h (hQ _ _ (keeps_tok _ _) ⟨_, rfl⟩) (.inl hp)

theorem o_addl {l m : List Int} (hz : l.length + m.length ≤ 1000) : Op2 prog w A (binaryOp .Add) (.ints l) (.ints m) (.ints (l ++ m)) := fun s v u _ _ ⟨z1, a, vs, e1, ⟨n1, g1⟩, i1⟩ ⟨z2, b, us, e2, ⟨n2, g2⟩, i2⟩ hQ => by
  subst e1 e2
  refine P.add_list g1 g2 (hQ _ _ (keeps_push _ _) ⟨by simpa using hz, _, vs ++ us, rfl, ⟨0, ?_⟩, i1.append i2⟩) (by have := i1.length; have := i2.length; simp [sizeLine_eq]; omega)
  rw [Heap.get?_push_size _ rfl]; simp

theorem foldl_rep (items : Array Value) : ∀ k : Nat, ∀ acc : Array Value, (List.foldl (fun x y => x ++ y) acc (List.replicate k items)).toList = acc.toList ++ (List.replicate k items.toList).flatten
  | 0, acc => by simp
  | k + 1, acc => by rw [List.replicate_succ, List.foldl_cons, foldl_rep items k]; simp [List.replicate_succ]
theorem ints_rep {vs : List Value} {ns : List Int} (i : IntsAre vs ns) : ∀ k : Nat, IntsAre (List.replicate k vs).flatten (List.replicate k ns).flatten
  | 0 => .nil
  | k + 1 => by simp only [List.replicate_succ, List.flatten_cons]; exact i.append (ints_rep i k)

theorem o_mull {l : List Int} {x : Int} (hz : l.length * x.toNat ≤ 1000) (hx : -1000 ≤ x ∧ x ≤ 1000) : Op2 prog w A (binaryOp .Mult) (.ints l) (.int x) (.ints (List.replicate x.toNat l).flatten) := fun s v u Q E ⟨z1, a, vs, e1, ⟨n1, g1⟩, i1⟩ ⟨t, e2⟩ hQ => by
  subst e1 e2
  have hl := i1.length
  have hsz : vs.toArray.size * x.toNat ≤ 1000 := by rw [List.size_toArray, hl]; exact hz
  have hT : s.TypeIs (.ref a) "list" := ⟨_, g1, rfl⟩
  refine wpAny_binaryOp_repeat_ref (T := "list") (U := "int") (by decide) hT (fun s' => typeIs_int s' x t) noFill_list_mul F.fills_int_mul F.slot_int_rmul repeat_list F.slot_int_index.lookup
    (call_meets F.slot_int_rmul (typeIs_int s x t) F.entry_int_rmul (F.args_int_rmul_2 _ _) (int___rmul___int_list x t a vs.toArray n1)
      ⟨g1, rfl, hT, call_meets F.slot_list_mul hT F.entry_list_mul (F.args_list_mul_2 _ _)
        (AutoListH.list___mul___list_int_3 a vs.toArray n1 x t (by simp [Builtin.List.listFitsIndex]; omega) (by omega) (by simp [Builtin.List.listTooLong, sizeLine]; simp at hsz; omega)) ⟨g1, ?_⟩⟩)
  refine hQ _ _ (keeps_push _ _) ⟨?_, _, (List.replicate x.toNat vs).flatten, rfl, ⟨0, ?_⟩, ints_rep i1 _⟩
  · simp only [List.length_flatten, List.map_replicate, List.sum_replicate_nat]; rw [Nat.mul_comm]; exact hz
  · rw [Heap.get?_push_size _ rfl]
    have : (List.foldl (fun x1 x2 => x1 ++ x2) #[] (List.replicate (if vs.toArray.isEmpty = true then 0 else x.toNat) vs.toArray)) = ((List.replicate x.toNat vs).flatten).toArray := by
      apply Array.ext'
      rw [foldl_rep]
      cases vs with
      | nil => simp
      | cons v r => simp
    rw [this]

theorem eqAt_ints {s : Shared} {l m : List Int} {v u : Value} (hu : A.units + 66 < cLine) (x : IsInts s.heap v l) (y : IsInts s.heap u m) : SeqAt.EqAt A.in1 s v u (decide (l = m)) := by
  obtain ⟨_, a, vs, rfl, p, i⟩ := x
  obtain ⟨_, b, us, rfl, q, j⟩ := y
  exact keq_ints p.isList i q.isList j (by simp only [Around.in1_units]; omega)

theorem rc_ints {s : Shared} {l m : List Int} {a b : Addr} {vs us : List Value} (hu : A.units + 2 < cLine) (x : s.heap.IsList a vs.toArray) (i : IntsAre vs l) (y : s.heap.IsList b us.toArray) (j : IntsAre us m) :
    SeqAt.RcAt A s (.ref a) (.ref b) (decide (l = m)) ∧ SeqAt.RcNeAt A s (.ref a) (.ref b) (!decide (l = m)) := by
  have hi := i.length
  have hj := j.length
  by_cases hs : l.length = m.length
  · have e : ∀ k (h1 : k < vs.toArray.size) (h2 : k < us.toArray.size), SeqAt.EqAt A.in1 s vs.toArray[k] us.toArray[k] (l.getD k 0 == m.getD k 0) := fun k h1 h2 => by
      obtain ⟨t, e1⟩ := i.int_at k vs.toArray[k] (by simp at h1 ⊢)
      obtain ⟨t', e2⟩ := j.int_at k us.toArray[k] (by simp at h2 ⊢)
      rw [e1, e2]
      exact SeqAt.EqAt.int_int _ _ _ _
    have hz : vs.toArray.size = us.toArray.size := by simp; omega
    have q : ((List.range vs.toArray.size).all fun k => l.getD k 0 == m.getD k 0) = decide (l = m) := by
      rw [List.size_toArray, hi]
      rw [Bool.eq_iff_iff]
      simp only [List.all_eq_true, List.mem_range, beq_iff_eq, decide_eq_true_eq]
      constructor
      · intro h
        apply List.ext_getElem hs
        intro k h1 h2
        have := h k h1
        simpa [List.getD_eq_getElem?_getD, h1, h2] using this
      · rintro rfl k _; rfl
    exact ⟨q ▸ SeqAt.RcAt.lists x y hz (by omega) e, q ▸ SeqAt.RcNeAt.lists x y hz (by omega) e⟩
  · have hz : (vs.toArray.size != us.toArray.size) = true := by simp; omega
    have q : decide (l = m) = false := decide_eq_false fun h => hs (by rw [h])
    exact ⟨q ▸ SeqAt.RcAt.lists_lengths x y hz (by omega), q ▸ SeqAt.RcNeAt.lists_lengths x y hz (by omega)⟩

theorem o_eql {l m : List Int} (hu : A.units + 100 < cLine) : Op2 prog w A (compareOp .Eq) (.ints l) (.ints m) (.bool (decide (l = m))) := fun s v u Q E ⟨z1, a, vs, e1, p, i⟩ ⟨z2, b, us, e2, q, j⟩ hQ => by
  subst e1 e2
  exact (rc_ints (by omega) p.isList i q.isList j).1 prog w E Q (hQ _ _ (keeps_refl _) rfl)
theorem o_nel {l m : List Int} (hu : A.units + 100 < cLine) : Op2 prog w A (compareOp .NotEq) (.ints l) (.ints m) (.bool (!decide (l = m))) := fun s v u Q E ⟨z1, a, vs, e1, p, i⟩ ⟨z2, b, us, e2, q, j⟩ hQ => by
  subst e1 e2
  exact (rc_ints (by omega) p.isList i q.isList j).2 prog w E Q (hQ _ _ (keeps_refl _) rfl)
theorem o_nep {x y : Int} {l m : List Int} (hu : A.units + 100 < cLine) : Op2 prog w A (compareOp .NotEq) (.pair x l) (.pair y m) (.bool (!decide (x = y ∧ l = m))) :=
  fun s v u Q E ⟨a, w1, w2, e1, p, ⟨t1, f1⟩, i⟩ ⟨b, u1, u2, e2, q, ⟨t2, f2⟩, j⟩ hQ => by
  subst e1 e2 f1 f2
  have h := SeqAt.RcNeAt.lists (A := A) (e := fun k => match k with | 0 => x == y | _ => decide (l = m)) p.isList q.isList rfl (by omega) (fun k h1 h2 => by
    match k, h1 with
    | 0, _ => exact SeqAt.EqAt.int_int x t1 y t2
    | 1, _ => exact eqAt_ints (by omega) i j
    | k + 2, h1 => exact absurd h1 (by show ¬ (k + 2 < 2); omega)) prog w E Q
  refine h ?_
  have : (!(List.range (#[Value.int x t1, w2] : Array Value).size).all fun k => match k with | 0 => x == y | _ => decide (l = m)) = !decide (x = y ∧ l = m) := by
    show (!(List.range 2).all _) = _
    simp [List.range, List.range.loop, Bool.decide_and]
    by_cases hx : x = y <;> simp [hx]
  rw [this]
  exact hQ _ _ (keeps_refl _) rfl

theorem o_in {x : Int} {l : List Int} : Op2 prog w A (compareOp .In) (.int x) (.ints l) (.bool (l.contains x)) := fun s v u Q E ⟨t, e1⟩ ⟨z2, b, us, e2, q, j⟩ hQ => by
  subst e1 e2
  refine SeqAt.in_listAt (isInt x) q.isList (fun y hy => ?_) ?_
  · obtain ⟨n, t', rfl⟩ := j.all y (by simpa using hy)
    exact SeqAt.EqAt.int_int _ _ _ _
  · have : us.toArray.any (isInt x) = l.contains x := by
      rw [← Array.any_toList, any_isInt x j, List.contains_eq_any_beq]
      congr 1
      funext y
      rw [Bool.eq_iff_iff]; simp only [beq_iff_eq]; exact eq_comm
    rw [this]
    exact hQ _ _ (keeps_refl _) rfl

-- indexing
def idx (l : List Int) (k : Int) : Int := if k < 0 then l.getD (k + l.length).toNat 0 else l.getD k.toNat 0
theorem ints_get {vs : List Value} {ns : List Int} (i : IntsAre vs ns) {k : Nat} (h : k < ns.length) : ∃ t, vs[k]? = some (.int (ns.getD k 0) t) := by
  have hl := i.length
  have hk : k < vs.length := by omega
  obtain ⟨t, e⟩ := i.int_at k vs[k] (by simp)
  exact ⟨t, by rw [← e, List.getElem?_eq_getElem hk]⟩
end

section
variable {prog : Program} {w : World} {A : Around} {h₀ : Heap} {env : Env} {ρ : List (Str × D)}

theorem e_item {l i : Expr} {pos : Pos} {ns : List Int} {k : Int} (h1 : EvE prog w A h₀ env ρ l (.ints ns)) (h2 : EvE prog w A h₀ env ρ i (.int k)) (hk : -(ns.length : Int) ≤ k ∧ k < ns.length)
    (hs : ∀ a t, subscripted i false (.ref a) (.int k t) = operate [.ref a, .int k t] (getItem (.ref a) (.int k t)) := by intro _ _; with_unfolding_all rfl) :
    EvE prog w A h₀ env ρ (.Subscript l i pos) (.int (idx ns k)) := fun s Q E hb V hQ =>
  Subscript_ (h1 s _ _ hb V fun v s1 k1 r1 => h2 s1 _ _ (hb.trans (keeps_kept k1)) (V.kept (keeps_kept k1)) fun u s2 k2 r2 => by
    obtain ⟨z, a, vs, rfl, p, j⟩ := IsInts.keptD (keeps_kept k2).d r1
    obtain ⟨t, rfl⟩ := r2
    have hl := j.length
    refine tail_any p.isList.typeIs slot_list_getitem.lookup ?_ (hs a t)
    by_cases hn : k < 0
    · obtain ⟨t', e⟩ := ints_get j (k := (k + ns.length).toNat) (by omega)
      refine wpAny_getItem_list_neg p.isList hn (by rw [List.size_toArray, hl]; omega) (by omega) (x := .int (idx ns k) t') ?_ (hQ _ _ (keeps_trans k1 k2) ⟨_, rfl⟩)
      rw [List.size_toArray, hl, List.getElem?_toArray, e, idx, if_pos hn]
    · obtain ⟨t', e⟩ := ints_get j (k := k.toNat) (by omega)
      refine wpAny_getItem_list p.isList (by omega) (by omega) (x := .int (idx ns k) t') ?_ (hQ _ _ (keeps_trans k1 k2) ⟨_, rfl⟩)
      rw [List.getElem?_toArray, e, idx, if_neg hn])

theorem allInts2_get {h : Heap} {vs : List Value} {nss : List (List Int)} (i : AllInts2 h vs nss) : ∀ {k : Nat}, k < nss.length → ∃ v, vs[k]? = some v ∧ IsInts h v (nss.getD k []) := by
  induction i with
  | nil => intro k hk; simp at hk
  | cons a _ ih =>
    intro k hk
    cases k with
    | zero => exact ⟨_, rfl, a⟩
    | succ k => exact ih (by simpa using hk)
theorem e_itemss {l i : Expr} {pos : Pos} {nss : List (List Int)} {k : Int} (h1 : EvE prog w A h₀ env ρ l (.intss nss)) (h2 : EvE prog w A h₀ env ρ i (.int k)) (hk : 0 ≤ k ∧ k < nss.length ∧ k < 1000)
    (hs : ∀ a t, subscripted i false (.ref a) (.int k t) = operate [.ref a, .int k t] (getItem (.ref a) (.int k t)) := by intro _ _; with_unfolding_all rfl)
    (hg : ∀ o r : Value, letTemporaryGo l o r = letTemporaryGo l o r := by intro _ _; rfl) :
    EvE prog w A h₀ env ρ (.Subscript l i pos) (.ints (nss.getD k.toNat [])) := fun s Q E hb V hQ =>
  Subscript_ (h1 s _ _ hb V fun v s1 k1 r1 => h2 s1 _ _ (hb.trans (keeps_kept k1)) (V.kept (keeps_kept k1)) fun u s2 k2 r2 => by
    obtain ⟨a, vs, rfl, p, j⟩ := Rep.kept (d := .intss nss) (keeps_kept k2) r1
    obtain ⟨t, rfl⟩ := r2
    obtain ⟨v', e, i'⟩ := allInts2_get j (k := k.toNat) (by omega)
    refine tail_any p.isList.typeIs slot_list_getitem.lookup ?_ (hs a t)
    exact wpAny_getItem_list p.isList (by omega) (by omega) (x := v') (by rw [List.getElem?_toArray, e]) (hQ _ _ (keeps_trans k1 k2) i'))
end
/-- a slice of a list of ints, as the model reckons it -/
def sl (ns : List Int) (lo hi : Option Int) : List Int := (ns.drop (lo.elim 0 (clipAt ns.length))).take (hi.elim ns.length (clipAt ns.length) - lo.elim 0 (clipAt ns.length))
theorem sl_length (ns : List Int) (lo hi : Option Int) : (sl ns lo hi).length ≤ ns.length := by unfold sl; simp [List.length_take]; omega
theorem sl_ints {vs : List Value} {ns : List Int} (i : IntsAre vs ns) (lo hi : Option Int) : ∃ us, slicePick vs.toArray lo hi none = us.toArray ∧ IntsAre us (sl ns lo hi) := by
  have hl := i.length
  refine ⟨_, slicePick_plain _ _ _, ?_⟩
  rw [List.size_toArray, hl]
  exact (i.drop _).take _

section
variable {prog : Program} {w : World} {A : Around} {h₀ : Heap} {env : Env} {ρ : List (Str × D)}

/-- a part of a slice: nothing, or an int -/
inductive EvP (prog : Program) (w : World) (A : Around) (h₀ : Heap) (env : Env) (ρ : List (Str × D)) : Option Expr → Option Int → Prop
  | none : EvP prog w A h₀ env ρ none none
  | some {e : Expr} {i : Int} : EvE prog w A h₀ env ρ e (.int i) → EvP prog w A h₀ env ρ (some e) (some i)
theorem EvP.run {lo : Option Expr} {i : Option Int} (x : EvP prog w A h₀ env ρ lo i) {s : Shared} {Q : Value → Shared → Prop} {E : Value → Shared → Prop} (hb : Kept h₀ s.heap) (V : Vals env s.heap ρ)
    (hQ : ∀ v s', Keeps s s' → IsPart v i → Q v s') : wpAny (model prog w) A (evalPart lo env) Q E s := by
  cases x with
  | none => exact wpAny_evalPart_none (hQ _ _ (keeps_refl _) .none)
  | some h => exact wpAny_evalPart_some (h s _ _ hb V fun v s' k ⟨t, e⟩ => by subst e; exact hQ _ _ k (.int _ _))

theorem e_slice {l : Expr} {lo hi : Option Expr} {p pos : Pos} {ns : List Int} {i j : Option Int} (h1 : EvE prog w A h₀ env ρ l (.ints ns)) (h2 : EvP prog w A h₀ env ρ lo i) (h3 : EvP prog w A h₀ env ρ hi j)
    (ht : ∀ o r, letTemporaryGo l o r = pure () := by intro _ _; rfl) : EvE prog w A h₀ env ρ (.Subscript l (.Slice lo hi none p) pos) (.ints (sl ns i j)) := fun s Q E hb V hQ =>
  wpAny_Subscript_list_slice (h1 s _ _ hb V fun v s1 k1 r1 => h2.run (hb.trans (keeps_kept k1)) (V.kept (keeps_kept k1)) fun a s2 k2 pa =>
    h3.run (hb.trans (keeps_kept (keeps_trans k1 k2))) (V.kept (keeps_kept (keeps_trans k1 k2))) fun b s3 k3 pb => by
      obtain ⟨z, x, vs, rfl, q, ii⟩ := IsInts.keptD (keeps_kept (keeps_trans k2 k3)).d r1
      obtain ⟨us, e, uu⟩ := sl_ints ii i j
      have hl := ii.length
      refine ⟨_, _, i, j, rfl, q.isList, by rw [List.size_toArray, sizeLine_eq]; omega, pa, pb, hQ _ _ (keeps_trans (keeps_trans (keeps_trans k1 k2) k3) (keeps_mk' (Kept.trans (Kept.push _ _) (Kept.push _ _)))) ?_⟩
      refine ⟨Nat.le_trans (sl_length _ _ _) z, _, us, rfl, ⟨0, ?_⟩, uu⟩
      have g := Heap.get?_push_size (s3.heap.push { cls := .type "slice", data := .fields #[a, b, .none] }) (o := { cls := .type "list", data := .seq (slicePick vs.toArray i j none) }) rfl
      rw [Heap.size_push] at g
      rw [g, e]) ht
/-- a slice of the script -/
theorem e_slice_arg {l : Expr} {lo hi : Option Expr} {p pos : Pos} {ns : List Int} {i j : Option Int} (h1 : EvE prog w A h₀ env ρ l (.argl ns)) (h2 : EvP prog w A h₀ env ρ lo i) (h3 : EvP prog w A h₀ env ρ hi j)
    (ht : ∀ o r, letTemporaryGo l o r = pure () := by intro _ _; rfl) : EvE prog w A h₀ env ρ (.Subscript l (.Slice lo hi none p) pos) (.ints (sl ns i j)) := fun s Q E hb V hQ =>
  wpAny_Subscript_list_slice (h1 s _ _ hb V fun v s1 k1 r1 => h2.run (hb.trans (keeps_kept k1)) (V.kept (keeps_kept k1)) fun a s2 k2 pa =>
    h3.run (hb.trans (keeps_kept (keeps_trans k1 k2))) (V.kept (keeps_kept (keeps_trans k1 k2))) fun b s3 k3 pb => by
      obtain ⟨z, x, vs, rfl, q, ii⟩ := Rep.kept (d := .argl ns) (keeps_kept (keeps_trans k2 k3)) r1
      obtain ⟨us, e, uu⟩ := sl_ints ii i j
      have hl := ii.length
      refine ⟨_, _, i, j, rfl, q, by rw [List.size_toArray, sizeLine_eq]; omega, pa, pb, hQ _ _ (keeps_trans (keeps_trans (keeps_trans k1 k2) k3) (keeps_mk' (Kept.trans (Kept.push _ _) (Kept.push _ _)))) ?_⟩
      refine ⟨Nat.le_trans (sl_length _ _ _) z, _, us, rfl, ⟨0, ?_⟩, uu⟩
      have g := Heap.get?_push_size (s3.heap.push { cls := .type "slice", data := .fields #[a, b, .none] }) (o := { cls := .type "list", data := .seq (slicePick vs.toArray i j none) }) rfl
      rw [Heap.size_push] at g
      rw [g, e]) ht

/-- what a callee does -/
def OpN (prog : Program) (w : World) (A : Around) (h₀ : Heap) (f : Value) (ds : List D) (d : D) : Prop :=
  ∀ (s : Shared) (vs : List Value) (Q : Value → Shared → Prop) (E : Value → Shared → Prop), Kept h₀ s.heap → RepAll s.heap vs ds → (∀ r s', Keeps s s' → Rep s'.heap r d → Q r s') → wpAny (model prog w) A (call f vs) Q E s

theorem eval_call {f : Expr} {args : List Expr} {pos : Pos} {env : Env} (hf : ∀ o n p, f ≠ .Attribute o n p) : eval (.Call f args [] pos) env = (eval f env >>= fun v => callWith pos v [] (backTo pos (starEach args env)) []) := by
  cases f <;> first | rfl | exact absurd rfl (hf _ _ _)

theorem plain_backTo {pos : Pos} : ∀ {es : List Expr} {env : Env}, (starEach es env).any (·.1) = false → (backTo pos (starEach es env)).any (·.1) = false := by
  intro es env h
  unfold backTo
  rw [List.any_map]
  exact h

theorem e_call_builtin {x : Str} {p pos : Pos} {id : String} {e : Expr} {es : List Expr} {ds : List D} {d : D} (hf : (x, D.fn (.builtin id)) ∈ ρ) (ha : EvA prog w A h₀ env ρ pos (e :: es) ds) (ho : OpN prog w A h₀ (.builtin id) ds d)
    (he : ∀ env, starEach (e :: es) env = (false, eval e env) :: starEach es env := by intro _; rfl) (hp : ∀ env, (starEach es env).any (·.1) = false := by intro _; rfl) :
    EvE prog w A h₀ env ρ (.Call (.Name x p) (e :: es) [] pos) d := fun s Q E hb V hQ => by
  rw [eval_call (by intro _ _ _ h; cases h)]
  obtain ⟨v, S, R⟩ := V _ hf
  have R : v = .builtin id := R
  subst R
  refine wpAny_bind (S.name ?_)
  exact callWith_builtin1 (ha s _ _ hb V fun vs s1 k1 r1 => ho s1 vs _ _ (hb.trans (keeps_kept k1)) r1 fun r s2 k2 r2 => hQ _ _ (keeps_trans k1 k2) r2) (he env) (plain_backTo (hp env))
theorem e_call_type {x : Str} {p pos : Pos} {id : String} {e : Expr} {es : List Expr} {ds : List D} {d : D} (hf : (x, D.fn (.type id)) ∈ ρ) (ha : EvA prog w A h₀ env ρ pos (e :: es) ds) (ho : OpN prog w A h₀ (.type id) ds d)
    (he : ∀ env, starEach (e :: es) env = (false, eval e env) :: starEach es env := by intro _; rfl) (hp : ∀ env, (starEach es env).any (·.1) = false := by intro _; rfl) :
    EvE prog w A h₀ env ρ (.Call (.Name x p) (e :: es) [] pos) d := fun s Q E hb V hQ => by
  rw [eval_call (by intro _ _ _ h; cases h)]
  obtain ⟨v, S, R⟩ := V _ hf
  have R : v = .type id := R
  subst R
  refine wpAny_bind (S.name ?_)
  exact PyProof.Rows.callWith_type1 (ha s _ _ hb V fun vs s1 k1 r1 => ho s1 vs _ _ (hb.trans (keeps_kept k1)) r1 fun r s2 k2 r2 => hQ _ _ (keeps_trans k1 k2) r2) (he env) (plain_backTo (hp env))
theorem e_call_fn {x : Str} {p pos : Pos} {a : Addr} {o : Obj} {fd : FuncData} {e : Expr} {es : List Expr} {ds : List D} {d : D} (hf : (x, D.fn (.ref a)) ∈ ρ) (hg : h₀.get? a = some o) (hd : o.data = .func fd)
    (ha : EvA prog w A h₀ env ρ pos (e :: es) ds) (ho : OpN prog w A h₀ (.ref a) ds d)
    (he : ∀ env, starEach (e :: es) env = (false, eval e env) :: starEach es env := by intro _; rfl) :
    EvE prog w A h₀ env ρ (.Call (.Name x p) (e :: es) [] pos) d := fun s Q E hb V hQ => by
  rw [eval_call (by intro _ _ _ h; cases h)]
  obtain ⟨v, S, R⟩ := V _ hf
  have R : v = .ref a := R
  subst R
  refine wpAny_bind (S.name ?_)
  exact callWith_def hd (ha s _ _ hb V fun vs s1 k1 r1 => ⟨(hb.trans (keeps_kept k1)) _ _ hg, ho s1 vs _ _ (hb.trans (keeps_kept k1)) r1 fun r s2 k2 r2 => hQ _ _ (keeps_trans k1 k2) r2⟩) (he env)

-- what the built-ins do
theorem c_len {l : List Int} : OpN prog w A h₀ (.builtin "len") [.ints l] (.int l.length) := fun s vs Q E hb r hQ => by
  obtain ⟨_, rfl, z, a, us, e, p, i⟩ := r.one
  subst e
  have hl := i.length
  refine Calls.call_len_list p.isList (by rw [List.size_toArray, hl]; omega) (hQ _ _ (keeps_tok _ _) ⟨s.toks + 1, by rw [List.size_toArray, hl]⟩)
theorem c_lenset {n : Nat} : OpN prog w A h₀ (.builtin "len") [.set n] (.int n) := fun s vs Q E hb r hQ => by
  obtain ⟨_, rfl, z, a, o, es, ep, t, e, g, x1, x2, x3, x4⟩ := r.one
  subst e
  refine call_len_set g x1 x2 x3 (by omega) (hQ _ _ (keeps_tok _ _) ⟨s.toks + 1, by rw [x4]⟩)
theorem c_range1 {b : Int} : OpN prog w A h₀ (.type "range") [.int b] (.rng 0 b) := fun s vs Q E hb r hQ => by
  obtain ⟨_, rfl, t, e⟩ := r.one
  subst e
  exact call_range_1 (hQ _ _ (keeps_mk (Kept.push _ _)) ⟨_, _, _, _, rfl, IsRange.new _ _ _ _ _ _ _⟩)
theorem c_range2 {a b : Int} : OpN prog w A h₀ (.type "range") [.int a, .int b] (.rng a b) := fun s vs Q E hb r hQ => by
  obtain ⟨_, _, rfl, ⟨t, e⟩, ⟨t', e'⟩⟩ := r.two
  subst e e'
  exact call_range_2 (hQ _ _ (keeps_mk (Kept.push _ _)) ⟨_, _, _, _, rfl, IsRange.new _ _ _ _ _ _ _⟩)
theorem c_max2 {a b : Int} (hh : A.handled = none) : OpN prog w A h₀ (.builtin "max") [.int a, .int b] (.int (if b > a then b else a)) := fun s vs Q E hb r hQ => by
  obtain ⟨_, _, rfl, ⟨t, e⟩, ⟨t', e'⟩⟩ := r.two
  subst e e'
  refine max_two_ints hh fun h' tk hk => hQ _ _ (keeps_mk hk) ?_
  by_cases hc : b > a
  · rw [if_pos hc, if_pos hc]; exact ⟨_, rfl⟩
  · rw [if_neg hc, if_neg hc]; exact ⟨_, rfl⟩
theorem c_min2 {a b : Int} (hh : A.handled = none) : OpN prog w A h₀ (.builtin "min") [.int a, .int b] (.int (if b < a then b else a)) := fun s vs Q E hb r hQ => by
  obtain ⟨_, _, rfl, ⟨t, e⟩, ⟨t', e'⟩⟩ := r.two
  subst e e'
  refine min_two_ints hh fun h' tk hk => hQ _ _ (keeps_mk hk) ?_
  by_cases hc : b < a
  · rw [if_pos hc, if_pos hc]; exact ⟨_, rfl⟩
  · rw [if_neg hc, if_neg hc]; exact ⟨_, rfl⟩

def maxL : List Int → Int
  | [] => 0
  | [a] => a
  | a :: b :: r => max a (maxL (b :: r))
def minL : List Int → Int
  | [] => 0
  | [a] => a
  | a :: b :: r => min a (minL (b :: r))
theorem maxL_spec : ∀ (l : List Int) (M : Int), M ∈ l → (∀ a ∈ l, a ≤ M) → maxL l = M
  | [a], M, h, _ => by simp at h; simp [maxL, h]
  | a :: b :: r, M, h, g => by
    rw [maxL]
    rcases List.mem_cons.mp h with rfl | h
    · have : maxL (b :: r) ≤ M := by
        have key : ∀ l : List Int, l ≠ [] → maxL l ∈ l := by
          intro l
          induction l with
          | nil => intro q; exact absurd rfl q
          | cons x l ih =>
            intro _
            cases l with
            | nil => simp [maxL]
            | cons y l =>
              rw [maxL]
              have := ih (by simp)
              by_cases q : x ≤ maxL (y :: l)
              · rw [Int.max_eq_right q]; exact .tail _ this
              · rw [Int.max_eq_left (by omega)]; simp
        exact g _ (.tail _ (key _ (by simp)))
      omega
    · have := maxL_spec (b :: r) M h (fun x hx => g x (.tail _ hx))
      have := g a (by simp)
      omega
theorem minL_spec : ∀ (l : List Int) (M : Int), M ∈ l → (∀ a ∈ l, M ≤ a) → minL l = M
  | [a], M, h, _ => by simp at h; simp [minL, h]
  | a :: b :: r, M, h, g => by
    rw [minL]
    rcases List.mem_cons.mp h with rfl | h
    · have : M ≤ minL (b :: r) := by
        have key : ∀ l : List Int, l ≠ [] → minL l ∈ l := by
          intro l
          induction l with
          | nil => intro q; exact absurd rfl q
          | cons x l ih =>
            intro _
            cases l with
            | nil => simp [minL]
            | cons y l =>
              rw [minL]
              have := ih (by simp)
              by_cases q : x ≤ minL (y :: l)
              · rw [Int.min_eq_left q]; simp
              · rw [Int.min_eq_right (by omega)]; exact .tail _ this
        exact g _ (.tail _ (key _ (by simp)))
      omega
    · have := minL_spec (b :: r) M h (fun x hx => g x (.tail _ hx))
      have := g a (by simp)
      omega
theorem numAt_getD {xs : Array (Int × Tok)} {l : List Int} (h : xs.toList.map (·.1) = l) (j : Nat) : numAt xs j = l.getD j 0 := by
  subst h
  simp [numAt, List.getD_eq_getElem?_getD]

theorem c_max {l : List Int} (hh : A.handled = none) (hne : l ≠ []) : OpN prog w A h₀ (.builtin "max") [.ints l] (.int (maxL l)) := fun s vs Q E hb r hQ => by
  obtain ⟨_, rfl, z, a, us, e, p, i⟩ := r.one
  subst e
  obtain ⟨xs, e, f⟩ := intItems_of i
  have hl : xs.size = l.length := by rw [← f]; simp
  have hpos : 0 < l.length := List.length_pos_iff.mpr hne
  refine max_intList hh (e ▸ p.isList) (by omega) fun v h' tk hv hk => ?_
  obtain ⟨t, rfl⟩ := intItems_at hv
  obtain ⟨h1, h2⟩ := argBest_gt (numAt xs) (xs.size - 1)
  refine hQ _ _ (keeps_mk hk) ⟨t, ?_⟩
  have q := maxL_spec l (numAt xs _) (by rw [numAt_getD f]; exact getD_mem (Nat.lt_of_le_of_lt h1 (by omega))) fun a ha => by
    obtain ⟨j, hj, rfl⟩ := mem_getD ha
    rw [← numAt_getD f]; exact h2 j (by omega)
  rw [q]
theorem c_min {l : List Int} (hh : A.handled = none) (hne : l ≠ []) : OpN prog w A h₀ (.builtin "min") [.ints l] (.int (minL l)) := fun s vs Q E hb r hQ => by
  obtain ⟨_, rfl, z, a, us, e, p, i⟩ := r.one
  subst e
  obtain ⟨xs, e, f⟩ := intItems_of i
  have hl : xs.size = l.length := by rw [← f]; simp
  have hpos : 0 < l.length := List.length_pos_iff.mpr hne
  refine min_intList hh (e ▸ p.isList) (by omega) fun v h' tk hv hk => ?_
  obtain ⟨t, rfl⟩ := intItems_at hv
  obtain ⟨h1, h2⟩ := argBest_lt (numAt xs) (xs.size - 1)
  refine hQ _ _ (keeps_mk hk) ⟨t, ?_⟩
  have q := minL_spec l (numAt xs _) (by rw [numAt_getD f]; exact getD_mem (Nat.lt_of_le_of_lt h1 (by omega))) fun a ha => by
    obtain ⟨j, hj, rfl⟩ := mem_getD ha
    rw [← numAt_getD f]; exact h2 j (by omega)
  rw [q]
theorem c_sum {l : List Int} (hh : A.handled = none) : OpN prog w A h₀ (.builtin "sum") [.ints l] (.int l.sum) := fun s vs Q E hb r hQ => by
  obtain ⟨_, rfl, z, a, us, e, p, i⟩ := r.one
  subst e
  obtain ⟨xs, e, f⟩ := intItems_of i
  refine sum_intListG hh (e ▸ p.isList) fun h' tk t' hk => hQ _ _ (keeps_mk hk) ⟨t', ?_⟩
  rw [preSum_eq, f, List.take_of_length_le (by rw [← f]; simp)]
def uniq (l : List Int) : Nat := (firstMet (fun i => l.getD i 0) l.length).length
theorem c_set {l : List Int} (hh : A.handled = none) : OpN prog w A h₀ (.type "set") [.ints l] (.set (uniq l)) := fun s vs Q E hb r hQ => by
  obtain ⟨_, rfl, z, a, us, e, p, i⟩ := r.one
  subst e
  have hl := i.length
  refine call_set_list (ns := l) hh p.isList i (by rw [List.size_toArray, hl, scanBound]; omega) fun h' tk S k => hQ _ _ (keeps_mk fun b o g => k b o (Heap.lt_size g) g) ?_
  obtain ⟨o, es, ep, t, g, x1, x2, _, _, _, x3, x4⟩ := S
  have x4 : es.size = uniq l := by
    have q : us.toArray.size = l.length := by simp [hl]
    have x5 : es.toList.length = (firstMet (fun i => l.getD i 0) us.toArray.size).length := x4
    rw [q] at x5
    exact x5
  refine ⟨Nat.le_trans (firstMet_length_le _ _) z, _, o, es, ep, t, rfl, g, x1, x2, x3, x4⟩

/-- l.count(x) -/
theorem e_count {o a : Expr} {apos pos : Pos} {l : List Int} {x : Int} (h1 : EvE prog w A h₀ env ρ o (.ints l)) (h2 : EvE prog w A h₀ env ρ a (.int x))
    (hbase : attributeBase o (Str.ofString "count") env (eval o env) = eval o env := by rfl) (hline : (apos.endLine == pos.line) = true := by rfl) (htrees : backTo pos (starEach [a] env) = [(false, eval a env)] := by rfl) :
    EvE prog w A h₀ env ρ (.Call (.Attribute o (Str.ofString "count") apos) [a] [] pos) (.int (l.countP (· == x) : Nat)) := fun s Q E hb V hQ =>
  wpAny_Call_method1_late hbase hline htrees (h1 s _ _ hb V fun v s1 k1 r1 => by
    obtain ⟨z, b, vs, rfl, ⟨n, p⟩, i⟩ := id r1
    refine ⟨"list", "list.count", PySem.F.plainAttrs_list, F.slot_list_count, F.type_list_count, ⟨_, p, rfl⟩, fun a e => by cases e; exact ⟨_, p, rfl⟩, ?_⟩
    refine P.count_list (h2 s1 _ _ (hb.trans (keeps_kept k1)) (V.kept (keeps_kept k1)) fun u s2 k2 r2 => ?_)
    obtain ⟨t, rfl⟩ := r2
    refine ⟨vs.toArray, n, isInt x, keeps_kept k2 _ _ p, fun y hy => ?_, ?_⟩
    · obtain ⟨n, t', rfl⟩ := i.all y (by simpa using hy)
      exact MeetsSeq.EqGives.int _ _ _ _
    · have : ∀ {vs : List Value} {ns : List Int}, IntsAre vs ns → vs.countP (isInt x) = ns.countP (· == x) := by
        intro vs ns i
        induction i with
        | nil => rfl
        | cons n t _ ih => rw [List.countP_cons, List.countP_cons, ih]; rfl
      refine hQ _ _ (keeps_trans (keeps_trans k1 k2) (keeps_tok _ _)) ⟨s2.toks, ?_⟩
      show Value.int (vs.countP (isInt x) : Nat) _ = _
      rw [this i])
end
/-- the closure of a comprehension -/
def clFrom (env : Env) : List (Str × NameKind) → List (Str × Addr) → List (Str × Addr)
  | [], acc => acc
  | (n, k) :: r, acc => clFrom env r (if k == .free then (n, (env.cells.lookup n).getD 0) :: acc else acc)
def clOf (scope : Scope) (env : Env) : List (Str × Addr) := clFrom env scope.names []

theorem closure_go (env : Env) (f : Str × NameKind → List (Str × Addr) → Sem (ForInStep (List (Str × Addr))))
    (hf : ∀ n k acc, f (n, k) acc = (if k == .free then (do let a ← cellOf env n; pure (.yield ((n, a) :: acc))) else pure (.yield acc))) :
    ∀ (names : List (Str × NameKind)) (acc : List (Str × Addr)), (names.all fun y => y.2 != .free || (env.cells.lookup y.1).isSome) = true → forIn names acc f = pure (clFrom env names acc)
  | [], acc, _ => by rw [List.forIn_nil]; rfl
  | (n, k) :: r, acc, h => by
    rw [List.all_cons, Bool.and_eq_true] at h
    rw [List.forIn_cons, hf]
    unfold clFrom
    cases hk : k == .free with
    | false =>
      simp only [Bool.false_eq_true, if_false, pure_bind]
      exact closure_go env f hf r acc h.2
    | true =>
      simp only [if_true]
      have h1 := h.1
      have hk' : k = .free := by simpa using hk
      subst hk'
      have hs : (env.cells.lookup n).isSome = true := by simpa using h1
      obtain ⟨c, hc⟩ := Option.isSome_iff_exists.mp hs
      have e : cellOf env n = pure c := by unfold cellOf; rw [hc]
      rw [e, hc]
      simp only [pure_bind, Option.getD_some]
      exact closure_go env f hf r _ h.2
theorem closureFor_is {scope : Scope} {env : Env} (h : (scope.names.all fun y => y.2 != .free || (env.cells.lookup y.1).isSome) = true) : closureFor scope env = pure (clOf scope env) := by
  unfold closureFor clOf
  dsimp only
  rw [closure_go env _ (fun n k acc => ?_) scope.names [] h]
  · rfl
  · cases hk : k == .free <;> simp

theorem clFrom_lookup {env : Env} {y : Str} {c : Addr} (hc : env.cells.lookup y = some c) : ∀ (names : List (Str × NameKind)) (acc : List (Str × Addr)),
    (acc.lookup y = some c ∨ ((y, NameKind.free) ∈ names ∧ acc.lookup y = none)) → (clFrom env names acc).lookup y = some c
  | [], acc, h => by
    rcases h with h | ⟨h, _⟩
    · exact h
    · cases h
  | (n, k) :: r, acc, h => by
    unfold clFrom
    by_cases hk : (k == NameKind.free) = true
    · rw [if_pos hk]
      by_cases hy : y = n
      · subst hy
        refine clFrom_lookup hc r _ (.inl ?_)
        simp [List.lookup_cons, hc]
      · have hb : (y == n) = false := by simpa using hy
        refine clFrom_lookup hc r _ (h.imp (fun e => ?_) fun e => ⟨?_, ?_⟩)
        · rw [List.lookup_cons, hb]; exact e
        · rcases List.mem_cons.mp e.1 with q | q
          · cases q; exact absurd rfl hy
          · exact q
        · rw [List.lookup_cons, hb]; exact e.2
    · rw [if_neg hk]
      refine clFrom_lookup hc r _ (h.imp id fun e => ⟨?_, e.2⟩)
      rcases List.mem_cons.mp e.1 with q | q
      · cases q; exact absurd rfl hk
      · exact q
theorem mem_of_look {y : Str} {k : NameKind} : ∀ {names : List (Str × NameKind)}, names.lookup y = some k → (y, k) ∈ names
  | [], h => by simp at h
  | (n, k') :: r, h => by
    by_cases hy : y = n
    · subst hy; simp [List.lookup_cons] at h; subst h; exact .head _
    · have hb : (y == n) = false := by simpa using hy
      rw [List.lookup_cons, hb] at h
      exact .tail _ (mem_of_look h)
theorem clOf_lookup {scope : Scope} {env : Env} {y : Str} {c : Addr} (hc : env.cells.lookup y = some c) (hf : scope.names.lookup y = some .free) : (clOf scope env).lookup y = some c :=
  clFrom_lookup hc _ _ (.inr ⟨mem_of_look hf, rfl⟩)

theorem look_relabel {env : Env} {y : Str} {k : NameKind} : ∀ {names : List (Str × NameKind)}, names.lookup y = some k →
    (names.map fun (n, k) => if (k == NameKind.free && env.scope.kind == .function && env.kindOf n == some .cell) then (n, NameKind.cell) else (n, k)).lookup y =
      some (if (k == NameKind.free && env.scope.kind == .function && env.kindOf y == some .cell) then NameKind.cell else k)
  | [], h => by simp at h
  | (n, k') :: r, h => by
    have ih := @look_relabel env y k r
    show List.lookup y ((if (k' == NameKind.free && env.scope.kind == .function && env.kindOf n == some .cell) = true then (n, NameKind.cell) else (n, k')) :: _) = _
    by_cases hy : y = n
    · subst hy
      simp [List.lookup_cons] at h
      subst h
      split <;> simp [List.lookup_cons]
    · have hb : (y == n) = false := by simpa using hy
      rw [List.lookup_cons, hb] at h
      have := ih h
      split <;> (simp only [List.lookup_cons, hb]; exact this)

/-- a name goes into a comprehension -/
def Pass (env : Env) (scope : Scope) (y : Str) : Prop :=
  (scope.names.lookup y = some .globalImplicit ∧ env.kindOf y = some .globalImplicit) ∨ (scope.names.lookup y = some .free ∧ (env.kindOf y = some .cell ∨ env.kindOf y = some .free))

theorem Sees.pass {env : Env} {scope : Scope} {C : Addr} {h : Heap} {y : Str} {v : Value} (hk : scope.kind = .function) (hn : (y == ("__classdict__" : Str)) = false) (P : Pass env scope y) (S : Sees env h y v) : Sees (compEnvC scope (clOf scope env) C env) h y v := by
  have hk' : (compEnvC scope (clOf scope env) C env).scope.kind = .function := hk
  rcases P with ⟨p1, p2⟩ | ⟨p1, p2⟩
  · have kd : (compEnvC scope (clOf scope env) C env).kindOf y = some .globalImplicit := by
      show (relabel scope env).names.lookup y = _
      rw [relabel, look_relabel p1]; rfl
    cases S with
    | loc a b c d e => rw [p2] at c; cases c
    | cell a b c d e => rw [p2] at c; cases c
    | free a b b' c d e => rw [p2] at c; cases c
    | glob a b c d e => exact .glob hk' b kd d e
    | blt a b c d e f g => exact .blt hk' b kd d e f g
  · have cells : ∀ {c}, env.cells.lookup y = some c → (compEnvC scope (clOf scope env) C env).cells.lookup y = some c := fun hc => clOf_lookup hc p1
    cases S with
    | loc a b c d e => rw [c] at p2; rcases p2 with q | q <;> cases q
    | glob a b c d e => rw [c] at p2; rcases p2 with q | q <;> cases q
    | blt a b c d e f g => rw [c] at p2; rcases p2 with q | q <;> cases q
    | cell a b c d e =>
      refine .cell hk' b ?_ (cells d) e
      show (relabel scope env).names.lookup y = _
      rw [relabel, look_relabel p1]; simp [a, c]
    | free a b b' c d e =>
      refine .free hk' b hn ?_ (cells d) e
      show (relabel scope env).names.lookup y = _
      rw [relabel, look_relabel p1]; simp [c]

/-- a list -/
def seqy : D → Bool
  | .rng _ _ => false
  | _ => true
/-- what a datum gives, item by item -/
def Src (prog : Program) (w : World) (A : Around) (d : D) (ns : List Int) : Prop :=
  ∀ (s₁ : Shared) (v : Value) (Q : Value → Shared → Prop) (E : Value → Shared → Prop), Rep s₁.heap v d →
    (∀ I s₂ fp wr P St, Walks prog w A I fp wr ns.length P St → St 0 s₂.heap → (∀ b ∈ fp, b < s₂.heap.objs.size) → Keeps s₁ s₂ → (∀ b o, s₁.heap.get? b = some o → b ∉ wr) →
      (∀ i v, P i v → ∃ t, v = .int (ns.getD i 0) t ∧ i < ns.length) → (∀ i h, St i h → ∀ b ∈ wr, ∃ o, h.get? b = some o ∧ iterish o) → (∀ i h, St i h → ∀ b ∈ fp, ∀ o, h.get? b = some o → framey o.data = false ∧ (seqy d = false → ∀ vs n, o.data ≠ .seq vs n)) → Q (.ref I) s₂) → wpAny (model prog w) A (pyIter v) Q E s₁

def rangeL (a b : Int) : List Int := (List.range (b - a).toNat).map fun i => a + (i : Nat)

section
variable {prog : Program} {w : World} {A : Around}
theorem src_ints {ns : List Int} (hh : A.handled = none) : Src prog w A (.ints ns) ns := fun s₁ v Q E ⟨z, ax, vs, e, p, i⟩ K => by
  subst e
  have hl := i.length
  obtain ⟨n, g⟩ := id p
  have hax := Heap.lt_size g
  refine wpAny_pyIter_list p.isList ?_
  have W := Walks.list (prog := prog) (w := w) hh s₁.heap.objs.size ax (Nat.ne_of_lt hax) vs.toArray
  rw [show vs.toArray.size = ns.length by simp [hl]] at W
  refine K _ _ _ _ _ _ W ⟨⟨_, Heap.get?_push_size _ rfl, rfl, rfl⟩, p.isList.push _⟩ ?_ (keeps_push _ _) (fun b o g' hm => ?_) (fun j v hv => ?_) (fun j h st b hb => ?_) fun j h st b hb o gg => ?_
  rotate_left 4
  · obtain ⟨⟨o', g', hc, hd⟩, ⟨o2, g2, hc2, n2, hd2⟩⟩ := st
    rcases List.mem_cons.mp hb with rfl | hb
    · rw [gg] at g'; cases g'; rw [hd]; exact ⟨rfl, fun q => by cases q⟩
    · rcases List.mem_cons.mp hb with rfl | hb
      · rw [gg] at g2; cases g2; rw [hd2]; exact ⟨rfl, fun q => by cases q⟩
      · cases hb
  rotate_left 3
  · obtain ⟨⟨o, g, hc, hd⟩, _⟩ := st
    rcases List.mem_cons.mp hb with rfl | hb
    · exact ⟨o, g, ⟨_, hd⟩, .inl hc⟩
    · cases hb
  · intro b hb
    show b < (s₁.heap.push _).objs.size
    rw [Heap.size_push]
    rcases List.mem_cons.mp hb with rfl | hb
    · exact Nat.lt_succ_self _
    · rcases List.mem_cons.mp hb with rfl | hb
      · exact Nat.lt_succ_of_lt hax
      · cases hb
  · rcases List.mem_cons.mp hm with rfl | hm
    · exact absurd (Heap.lt_size g') (Nat.lt_irrefl _)
    · cases hm
  · have hv' : vs[j]? = some v := by simpa using hv
    obtain ⟨t, e⟩ := i.int_at j v hv'
    refine ⟨t, e, ?_⟩
    have := (List.getElem?_eq_some_iff.mp hv').1
    omega
theorem getD_rangeL {a b : Int} {i : Nat} (h : i < (rangeL a b).length) : (rangeL a b).getD i 0 = a + i := by
  unfold rangeL at h ⊢
  simp at h
  simp [List.getD_eq_getElem?_getD, List.getElem?_range, h]
theorem src_rng {a b : Int} (hh : A.handled = none) (ha : -(2 ^ 62) ≤ a ∧ a < 2 ^ 62) (hb : -(2 ^ 62) ≤ b ∧ b < 2 ^ 62) : Src prog w A (.rng a b) (rangeL a b) := fun s₁ v Q E ⟨r, t, u, x, e, g⟩ K => by
  subst e
  have hlen : (rangeL a b).length = (b - a).toNat := by simp [rangeL]
  refine wpAny_pyIter_range g (small_one ha.1 ha.2 hb.1 hb.2) ?_
  have W := Walks.range (prog := prog) (w := w) hh s₁.heap.objs.size a 1 (rangeL a b).length
  have hr : (Builtin.Range.rangeSize a b 1) = (((rangeL a b).length : Nat) : Int) := by
    rw [rangeSize_one, hlen]; split <;> omega
  rw [hr]
  -- only the places below the length
  have W' : Walks prog w A s₁.heap.objs.size [s₁.heap.objs.size] [s₁.heap.objs.size] (rangeL a b).length (fun i v => i < (rangeL a b).length ∧ ∃ t, v = .int (a + i * 1) t)
      (fun i h => IsRangeIter h s₁.heap.objs.size (a + (i : Nat) * 1) (((rangeL a b).length : Int) - (i : Nat)) 1) :=
    ⟨W.sub, W.frame, fun i s Q E hi st hQ => W.item i s Q E hi st fun v h' tk hv => hQ v h' tk ⟨hi, hv⟩, W.done, W.self⟩
  refine K _ _ _ _ _ _ W' ?_ ?_ (keeps_push _ _) (fun b' o g' hm => ?_) (fun j v hv => ?_) (fun j h st b hb => ?_) fun j h st b hb o gg => ?_
  rotate_left 5
  · rcases List.mem_cons.mp hb with rfl | hb
    · have st : h.get? _ = _ := st
      rw [st] at gg; cases gg; exact ⟨rfl, fun _ _ _ e => by cases e⟩
    · cases hb
  rotate_left 4
  · rcases List.mem_cons.mp hb with rfl | hb
    · exact ⟨_, st, ⟨_, rfl⟩, .inr rfl⟩
    · cases hb
  · have := Heap.get?_push_size s₁.heap (o := { cls := .type "range_iterator", data := .fields #[rawInt a, rawInt ((rangeL a b).length : Int), rawInt 1] }) rfl
    simpa [IsRangeIter] using this
  · intro b' hb'
    show b' < (s₁.heap.push _).objs.size
    rw [Heap.size_push]
    rcases List.mem_cons.mp hb' with rfl | hb'
    · exact Nat.lt_succ_self _
    · cases hb'
  · rcases List.mem_cons.mp hm with rfl | hm
    · exact absurd (Heap.lt_size g') (Nat.lt_irrefl _)
    · cases hm
  · obtain ⟨hj, t, e⟩ := hv
    refine ⟨t, ?_, hj⟩
    rw [getD_rangeL hj, e]; simp
end

def pzOf (p : Int → Bool) : Value → Bool := fun v => match v with | .int a _ => p a | _ => false
def FOf (f : Int → Int) : Value → Value → Prop := fun v y => ∃ a t u, v = Value.int a t ∧ y = Value.int (f a) u

theorem ints_of_nums : ∀ {l : List Value}, (∀ y, y ∈ l → ∃ b u, y = Value.int b u) → IntsAre l (numsOf l)
  | [], _ => .nil
  | v :: r, h => by
    obtain ⟨b, u, rfl⟩ := h v (.head _)
    exact .cons b u (ints_of_nums fun y hy => h y (.tail _ hy))
theorem nums_places {ns : List Int} {vs : List Value} (hl : vs.length = ns.length) (h : ∀ (j : Nat) (v : Value), vs[j]? = some v → ∃ t, v = Value.int (ns.getD j 0) t) : numsOf vs = ns ∧ ∀ v ∈ vs, ∃ a t, v = Value.int a t := by
  have hI : ∀ v ∈ vs, ∃ a t, v = Value.int a t := fun v hv => by
    obtain ⟨j, hj, e⟩ := List.getElem_of_mem hv
    obtain ⟨t, q⟩ := h j v (by rw [← e]; simp [hj])
    exact ⟨_, t, q⟩
  refine ⟨?_, hI⟩
  have i := ints_of_nums hI
  have hl' := i.length
  apply List.ext_getElem (by omega)
  intro j h1 h2
  have hj : j < vs.length := by omega
  obtain ⟨t, e⟩ := h j vs[j] (by simp)
  obtain ⟨t', e'⟩ := i.int_at j vs[j] (by simp)
  rw [e] at e'
  injection e' with e1 _
  simp [List.getD_eq_getElem?_getD, h1, h2] at e1
  exact e1.symm

section
variable {prog : Program} {w : World} {A : Around} {h₀ : Heap} {env : Env} {ρ ρ' : List (Str × D)} {scope : Scope} {elt : Expr} {x : Str} {ifs : List Expr} {d : D} {ns : List Int} {p : Int → Bool} {f : Int → Int}

/-- the tests of a clause -/
def TsL (prog : Program) (w : World) (A : Around) (h₀ : Heap) (env : Env) (ρ : List (Str × D)) : List Expr → Bool → Prop
  | [], b => b = true
  | [t], b => TsE prog w A h₀ env ρ t b
  | _, _ => False

theorem TsL.run {ifs : List Expr} {b : Bool} (T : TsL prog w A h₀ env ρ ifs b) {s : Shared} {E : Value → Shared → Prop} (hb : Kept h₀ s.heap) (V : Vals env s.heap ρ) :
    wpAny (model prog w) A (forIn ifs true fun c r => if r = true then do let ok ← isTrue c env (eval c env); pure (ForInStep.yield ok) else pure (ForInStep.yield r)) (fun ok s' => ok = b ∧ Keeps s s') E s := by
  match ifs, T with
  | [], T => rw [List.forIn_nil]; exact wpAny_pure ⟨Eq.symm T, keeps_refl _⟩
  | [t], T =>
    rw [List.forIn_cons]
    simp only [if_true]
    refine wpAny_bind (wpAny_bind (TsE.eq T rfl s _ _ hb V fun s' k => wpAny_pure ?_))
    dsimp only
    rw [List.forIn_nil]
    exact wpAny_pure ⟨rfl, k⟩
  | _ :: _ :: _, T => exact T.elim

theorem comp_core (hsrc : Src prog w A d ns) (hk : scope.kind = .function) (hx : scope.names.lookup x = some .local) (hxd : (x == ("__debug__" : Str)) = false)
    (hpass : ∀ q ∈ ρ', q ∈ ρ ∧ Pass env scope q.1 ∧ (q.1 == ("__classdict__" : Str)) = false)
    (ht : ∀ a ∈ ns, ∀ C, TsL prog w A h₀ (compEnvC scope (clOf scope env) C env) ((x, .int a) :: ρ') ifs (p a))
    (he : ∀ a ∈ ns, p a = true → ∀ C, EvE prog w A h₀ (compEnvC scope (clOf scope env) C env) ((x, .int a) :: ρ') elt (.int (f a)))
    {s₁ : Shared} {v : Value} {Q : Value → Shared → Prop} {E : Value → Shared → Prop} (r : Rep s₁.heap v d) (hb : Kept h₀ s₁.heap) (V : Vals env s₁.heap ρ)
    (hQ : ∀ I s₂ fp wr P St, Walks prog w A I fp wr ns.length P St → St 0 s₂.heap → (∀ b ∈ fp, b < s₂.heap.objs.size) → Keeps s₁ s₂ → (∀ b o, s₁.heap.get? b = some o → b ∉ wr) →
      QuietOnC prog w A env scope (clOf scope env) x ifs elt wr P (pzOf p) (FOf f) s₂ →
      (∀ vs : List Value, vs.length = ns.length → (∀ j v, vs[j]? = some v → P j v) → ∀ ys : List Value, Paired (FOf f) (vs.filter (pzOf p)) ys → IntsAre ys ((ns.filter p).map f)) → Q (.ref I) s₂) :
    wpAny (model prog w) A (pyIter v) Q E s₁ := by
  refine hsrc s₁ v Q E r fun I s₂ fp wr P St W st hfp k₁ hwr hP _ _ => hQ I s₂ fp wr P St W st hfp k₁ hwr ?_ ?_
  · have vals : ∀ (C : Addr) (i : Nat) (v : Value) (s₃ : Shared) (m₃ : Str → Option Value), P i v → s₃.heap.Ns C m₃ → m₃ x = some v → (∀ b o, b ∉ wr → s₂.heap.get? b = some o → s₃.heap.get? b = some o) →
        Kept h₀ s₃.heap ∧ Vals (compEnvC scope (clOf scope env) C env) s₃.heap ((x, .int (ns.getD i 0)) :: ρ') := by
      intro C i v s₃ m₃ hPv hn hm hkeep
      have kk : Kept s₁.heap s₃.heap := fun b o g => hkeep b o (hwr b o g) (keeps_kept k₁ b o g)
      refine ⟨hb.trans kk, fun q hq => ?_⟩
      rcases List.mem_cons.mp hq with rfl | hq
      · obtain ⟨t, e, _⟩ := hP i v hPv
        refine ⟨v, .loc hk hxd ?_ hn hm, ⟨t, e⟩⟩
        show (relabel scope env).names.lookup x = _
        rw [relabel, look_relabel hx]; rfl
      · obtain ⟨q1, q2, q3⟩ := hpass q hq
        obtain ⟨u, S, R⟩ := V q q1
        exact ⟨u, (S.kept kk).pass hk q3 q2, R.kept kk⟩
    refine ⟨fun C i v s₃ m₃ E' _ hPv hn hm hkeep _ => ?_, fun C i v s₃ m₃ E' _ hPv hpv hn hm hkeep _ => ?_⟩
    · obtain ⟨k3, V3⟩ := vals C i v s₃ m₃ hPv hn hm hkeep
      obtain ⟨t, e, hi⟩ := hP i v hPv
      have T := ht _ (getD_mem hi) C
      refine wpAny_mono (T.run k3 V3) (fun ok s' h => ?_) fun _ _ e => e
      subst e; exact h
    · obtain ⟨k3, V3⟩ := vals C i v s₃ m₃ hPv hn hm hkeep
      obtain ⟨t, e, hi⟩ := hP i v hPv
      subst e
      exact he _ (getD_mem hi) hpv C s₃ _ _ k3 V3 fun y s' k ⟨u, e⟩ => ⟨⟨_, _, u, rfl, e⟩, k⟩
  · intro vs hl hvs ys hF
    obtain ⟨e, hI⟩ := nums_places hl fun j v hv => let ⟨t, e, _⟩ := hP j v (hvs j v hv); ⟨t, e⟩
    have q := paired_ints p f vs ys hI hF
    rw [e] at q
    exact q.2 ▸ ints_of_nums q.1

theorem e_comp {iter : Expr} {px pos : Pos} (hi : EvE prog w A h₀ env ρ iter d) (hsrc : Src prog w A d ns) (hz : ns.length ≤ 1000) (ρ' : List (Str × D))
    (hk : scope.kind = .function) (hx : scope.names.lookup x = some .local) (hxd : (x == ("__debug__" : Str)) = false) (hcell : ∀ y ∈ scope.names, y.2 ≠ .cell)
    (hnames : ∀ y ∈ scope.names, y.2 = .local → scope.names.lookup y.1 = some .local) (hfree : (scope.names.all fun y => y.2 != .free || (env.cells.lookup y.1).isSome) = true)
    (hpass : ∀ q ∈ ρ', q ∈ ρ ∧ Pass env scope q.1 ∧ (q.1 == ("__classdict__" : Str)) = false)
    (ht : ∀ a ∈ ns, ∀ C, TsL prog w A h₀ (compEnvC scope (clOf scope env) C env) ((x, .int a) :: ρ') ifs (p a))
    (he : ∀ a ∈ ns, p a = true → ∀ C, EvE prog w A h₀ (compEnvC scope (clOf scope env) C env) ((x, .int a) :: ρ') elt (.int (f a)))
    (hs : ∀ env x, foldedSetIterable iter env x = pure x := by intro _ _; rfl) :
    EvE prog w A h₀ env ρ (.ListComp elt [⟨.Name x px, iter, ifs, 0⟩] scope pos) (.ints ((ns.filter p).map f)) := fun s Q E hb V hQ => by
  refine wpAny_ListComp_free (pzOf p) (FOf f) (closureFor_is hfree) hcell hk hnames hx (hi s _ _ hb V fun v s₁ k₁ r₁ => ?_) (hs env)
  refine comp_core hsrc hk hx hxd hpass ht he r₁ (hb.trans (keeps_kept k₁)) (V.kept (keeps_kept k₁)) fun I s₂ fp wr P St W st hfp k₂ hwr hq hys => ?_
  refine ⟨I, fp, wr, _, P, St, rfl, W, by rw [sizeLine_eq]; omega, st, hfp, hq, fun D h' tk ys vs _ _ hpl hlen hP hF hkeep => ?_⟩
  obtain ⟨hh2, tk2, e2, kp2⟩ := id k₂
  refine hQ _ _ (keeps_trans k₁ ⟨h', tk, by rw [e2], fun b o g => hkeep b o (hwr b o g) (keeps_kept k₂ b o g)⟩) ⟨?_, D, ys.toList, rfl, by simpa using hpl, hys vs hlen hP _ hF⟩
  rw [List.length_map]
  exact Nat.le_trans (List.length_filter_le _ _) hz
end
/-- a step that keeps what stands; with b, generators may come and turn -/
def KB (b : Bool) (s s' : Shared) : Prop := ∃ h t g, s' = { s with heap := h, toks := t, gens := g } ∧ Kept s.heap h ∧ (b = false → g = s.gens) ∧ (AllBare s.gens → AllBare g)
theorem KB.kept {b s s'} (k : KB b s s') : Kept s.heap s'.heap := by obtain ⟨h, t, g, rfl, k, _⟩ := k; exact k
theorem KB.of {b s s'} (k : Keeps s s') : KB b s s' := by obtain ⟨h, t, rfl, k⟩ := k; exact ⟨h, t, s.gens, rfl, k, fun _ => rfl, id⟩
theorem KB.keeps {s s'} (k : KB false s s') : Keeps s s' := by obtain ⟨h, t, g, rfl, k, e, _⟩ := k; have := e rfl; subst this; exact ⟨h, t, rfl, k⟩
theorem KB.trans {b s s' s''} (x : KB b s s') (y : KB b s' s'') : KB b s s'' := by
  obtain ⟨h, t, g, rfl, k, e, a⟩ := x
  obtain ⟨h', t', g', rfl, k', e', a'⟩ := y
  exact ⟨h', t', g', rfl, Kept.trans k k', fun q => (e' q).trans (e q), fun q => a' (a q)⟩
theorem KB.bare {b s s'} (x : KB b s s') (y : AllBare s.gens) : AllBare s'.gens := by obtain ⟨h, t, g, rfl, k, e, a⟩ := x; exact a y

/-- a frame at work -/
structure Fm (h₀ : Heap) (s₀ : Shared) (b : Bool) (env : Env) (ρ : List (Str × D)) (s : Shared) : Prop where
  base : Kept h₀ s₀.heap
  kb : KB b s₀ s
  ns : ∃ m, s.heap.Ns env.locals m
  newL : s₀.heap.get? env.locals = none
  cell : ∀ x c, env.cells.lookup x = some c → (∃ v, s.heap.IsCell c v) ∧ s₀.heap.get? c = none
  apart : ∀ x y c, env.cells.lookup x = some c → env.cells.lookup y = some c → x = y
  neG : env.locals ≠ env.globals
  neB : env.locals ≠ env.builtins
  fn : env.scope.kind = .function
  vals : Vals env s.heap ρ

section
variable {h₀ : Heap} {s₀ s s' : Shared} {b : Bool} {env : Env} {ρ ρ' : List (Str × D)}
theorem Fm.hb (F : Fm h₀ s₀ b env ρ s) : Kept h₀ s.heap := F.base.trans F.kb.kept
theorem Fm.step (F : Fm h₀ s₀ b env ρ s) (k : KB b s s') : Fm h₀ s₀ b env ρ s' :=
  ⟨F.base, F.kb.trans k, let ⟨m, n⟩ := F.ns; ⟨m, n.keeps k.kept⟩, F.newL, fun x c hc => ⟨let ⟨v, i⟩ := (F.cell x c hc).1; ⟨v, i.keeps k.kept⟩, (F.cell x c hc).2⟩, F.apart, F.neG, F.neB, F.fn, F.vals.kept k.kept⟩
theorem Fm.keeps (F : Fm h₀ s₀ b env ρ s) (k : Keeps s s') : Fm h₀ s₀ b env ρ s' := F.step (.of k)
theorem Fm.sub (F : Fm h₀ s₀ b env ρ s) (h : ∀ p ∈ ρ', p ∈ ρ) : Fm h₀ s₀ b env ρ' s := { F with vals := fun p hp => F.vals p (h p hp) }
/-- an iterator of the frame's own turns -/
theorem Fm.turn (F : Fm h₀ s₀ b env ρ s) {h : Heap} {t : Nat} (k : KeptI s.heap h) (k0 : Kept s₀.heap h) : Fm h₀ s₀ b env ρ { s with heap := h, toks := t } := by
  refine ⟨F.base, ?_, let ⟨m, n⟩ := F.ns; ⟨m, ns_keptI k n⟩, F.newL, fun x c hc => ⟨let ⟨v, i⟩ := (F.cell x c hc).1; ⟨v, cell_keptI k i⟩, (F.cell x c hc).2⟩, F.apart, F.neG, F.neB, F.fn, F.vals.keptI k⟩
  obtain ⟨h1, t1, g1, rfl, _, e, a⟩ := F.kb
  exact ⟨h, t, g1, rfl, k0, e, a⟩

theorem ns_unique {h : Heap} {a : Addr} {m m' : Str → Option Value} (n : h.Ns a m) (n' : h.Ns a m') : m = m' := by
  obtain ⟨o, es, ep, ho, hd, _, hm⟩ := n
  obtain ⟨o', es', ep', ho', hd', _, hm'⟩ := n'
  rw [ho] at ho'; cases ho'
  rw [hd] at hd'; cases hd'
  funext x
  rw [← hm, ← hm']
theorem ns_at_ne {h : Heap} {a c : Addr} {m v} (n : h.Ns a m) (i : h.IsCell c v) : a ≠ c := by
  obtain ⟨o, es, ep, ho, hd, _⟩ := n
  obtain ⟨o', ho', hd'⟩ := i
  rintro rfl
  rw [ho] at ho'
  cases ho'
  rw [hd] at hd'; cases hd'
theorem sameBut_keptD {h h' : Heap} {a : Addr} {o : Obj} (hs : Heap.SameBut a h h') (ho : h.get? a = some o) (hf : framey o.data = true) : KeptD h h' := fun c o' e f => by
  by_cases hc : c = a
  · subst hc; rw [ho] at e; cases e; rw [hf] at f; cases f
  · exact (hs.2 c hc).trans e

/-- the frame's table with one name stored anew, and new objects -/
theorem Fm.putLocal (F : Fm h₀ s₀ b env ρ s) {x : Str} {v : Value} {d : D} {m : Str → Option Value} {h' : Heap} {t : Nat} (hn : s.heap.Ns env.locals m) (hl : env.kindOf x = some .local) (hxd : (x == ("__debug__" : Str)) = false)
    (hn' : h'.Ns env.locals (fun y => if y = x then some v else m y)) (hk : ∀ c o, c ≠ env.locals → s.heap.get? c = some o → h'.get? c = some o) (r : Rep h' v d) (hρ : ∀ p ∈ ρ', p = (x, d) ∨ (p ∈ ρ ∧ p.1 ≠ x)) :
    Fm h₀ s₀ b env ρ' { s with heap := h', toks := t } ∧ KeptD s.heap h' := by
  obtain ⟨hh, tt, gg, es, k0, eg, ab⟩ := id F.kb
  obtain ⟨oL, el, ep, hoL, hdL, _⟩ := id hn
  have kd : KeptD s.heap h' := fun c o e f => hk c o (fun q => by rw [q, hoL] at e; cases e; rw [hdL] at f; cases f) e
  have cellK : ∀ {c w}, s.heap.IsCell c w → h'.IsCell c w := fun i => let ⟨o, ho, hd⟩ := i; ⟨o, hk _ _ (Ne.symm (ns_at_ne hn i)) ho, hd⟩
  have nsK : ∀ {a m}, a ≠ env.locals → s.heap.Ns a m → h'.Ns a m := fun ha n => let ⟨o, es, ep, ho, r⟩ := n; ⟨o, es, ep, hk _ _ ha ho, r⟩
  refine ⟨⟨F.base, ⟨h', t, gg, by rw [es], fun c o e => hk c o (fun q => by rw [q, F.newL] at e; cases e) (F.kb.kept c o e), eg, ab⟩, ⟨_, hn'⟩, F.newL,
    fun y c hc => ⟨let ⟨w, i⟩ := (F.cell y c hc).1; ⟨w, cellK i⟩, (F.cell y c hc).2⟩, F.apart, F.neG, F.neB, F.fn, fun p hp => ?_⟩, kd⟩
  rcases hρ p hp with rfl | ⟨hp', hne⟩
  · exact ⟨v, .loc F.fn hxd hl hn' (by simp), r⟩
  · obtain ⟨u, S, R⟩ := F.vals p hp'
    refine ⟨u, ?_, R.keptD kd⟩
    cases S with
    | loc a b c d e =>
      refine .loc a b c hn' ?_
      rw [if_neg hne]
      rw [← ns_unique d hn]; exact e
    | cell a b c d e => exact .cell a b c d (cellK e)
    | free a b b' c d e => exact .free a b b' c d (cellK e)
    | glob a b c d e => exact .glob a b c (nsK (Ne.symm F.neG) d) e
    | blt a b c d e f g => exact .blt a b c (nsK (Ne.symm F.neG) d) e (nsK (Ne.symm F.neB) f) g

/-- a store into a name of the frame's own -/
theorem Fm.store (F : Fm h₀ s₀ b env ρ s) {M : Model} {A : Around} {E : Value → Shared → Prop} {x : Str} {v : Value} {d : D} {Q : Unit → Shared → Prop}
    (hx : env.kindOf x = some .local ∨ (env.kindOf x = some .cell ∧ (env.cells.lookup x).isSome = true)) (hxd : (x == ("__debug__" : Str)) = false) (r : Rep s.heap v d)
    (hρ : ∀ p ∈ ρ', p = (x, d) ∨ (p ∈ ρ ∧ p.1 ≠ x)) (hQ : ∀ s', Fm h₀ s₀ b env ρ' s' → KeptD s.heap s'.heap → Q () s') : wpAny M A (storeName env x v) Q E s := by
  obtain ⟨m, hn⟩ := F.ns
  obtain ⟨hh, tt, gg, es, k0, eg, ab⟩ := id F.kb
  rcases hx with hl | ⟨hl, hc⟩
  · refine wpAny_storeName_local hl hn (fun h' hn' hs' => ?_) (by rw [F.fn]; rfl)
    obtain ⟨oL, el, ep, hoL, hdL, _⟩ := id hn
    have q := F.putLocal (t := s.toks + 1) hn hl hxd hn' (fun c o hc e => (hs'.2 c hc).trans e) (r.keptD (sameBut_keptD hs' hoL (by rw [hdL]; rfl))) hρ
    exact hQ _ q.1 q.2
  · obtain ⟨c, hc⟩ := Option.isSome_iff_exists.mp hc
    obtain ⟨⟨w, hi⟩, hnew⟩ := F.cell x c hc
    obtain ⟨oc, hoc, hdc⟩ := id hi
    refine wpAny_storeName_cell F.fn hl hc hi (fun h' hi' hs' => hQ _ ?_ (sameBut_keptD hs' hoc (by rw [hdc]; rfl)))
    have kd : KeptD s.heap h' := sameBut_keptD hs' hoc (by rw [hdc]; rfl)
    have hns : ∀ {a m}, s.heap.Ns a m → h'.Ns a m := fun n => n.sameBut hs' (ns_at_ne n hi)
    refine ⟨F.base, ⟨h', tt, gg, by rw [es], fun y o e => (hs'.2 y (fun q => by rw [q, hnew] at e; cases e)).trans (F.kb.kept y o e), eg, ab⟩, ⟨_, hns hn⟩, F.newL,
      fun y c' hc' => ⟨?_, (F.cell y c' hc').2⟩, F.apart, F.neG, F.neB, F.fn, fun p hp => ?_⟩
    · by_cases q : c' = c
      · exact q ▸ ⟨_, hi'⟩
      · let ⟨w, i⟩ := (F.cell y c' hc').1; exact ⟨w, i.sameBut hs' q⟩
    rcases hρ p hp with rfl | ⟨hp', hne⟩
    · exact ⟨v, .cell F.fn hxd hl hc hi', r.keptD kd⟩
    · obtain ⟨u, S, R⟩ := F.vals p hp'
      refine ⟨u, ?_, R.keptD kd⟩
      cases S with
      | loc a b c d e => exact .loc a b c (hns d) e
      | cell a b c' d e => exact .cell a b c' d (e.sameBut hs' fun q => hne (F.apart _ _ _ d (q ▸ hc)))
      | free a b b' c' d e => exact .free a b b' c' d (e.sameBut hs' fun q => hne (F.apart _ _ _ d (q ▸ hc)))
      | glob a b c d e => exact .glob a b c (hns d) e
      | blt a b c d e f g => exact .blt a b c (hns d) e (hns f) g
end

/-- what a suite keeps: all but the frame's tables; with μ, the frame's own lists may turn -/
def KeptX (μ : Bool) (g h h' : Heap) : Prop := ∀ c o, h.get? c = some o → framey o.data = false → (μ = true → (∃ vs n, o.data = .seq vs n) → (g.get? c).isSome = true) → h'.get? c = some o
theorem KeptD.x {μ : Bool} {g h h' : Heap} (k : KeptD h h') : KeptX μ g h h' := fun c o e f _ => k c o e f
theorem KeptX.refl {μ : Bool} (g h : Heap) : KeptX μ g h h := fun _ _ e _ _ => e
theorem KeptX.trans {μ : Bool} {g x y z : Heap} (p : KeptX μ g x y) (q : KeptX μ g y z) : KeptX μ g x z := fun c o e f m => q c o (p c o e f m) f m

/-- how a suite ends -/
inductive Fl where
  | next | brk | cont | ret (d : D)
def RepF (h : Heap) (f : Flow) : Fl → Prop
  | .next => f = .next
  | .brk => f = .brk
  | .cont => f = .cont
  | .ret d => ∃ v, f = .ret v ∧ Rep h v d

section
variable (prog : Program) (w : World) (A : Around) (h₀ : Heap) (s₀ : Shared) (b μ : Bool) (env : Env)
/-- a suite, from the names' data to the end and the names' data then -/
def Exs (ρ : List (Str × D)) (sts : List Stmt) (K : Fl → List (Str × D) → Prop) : Prop :=
  ∀ (s : Shared) (Q : Flow → Shared → Prop) (E : Value → Shared → Prop), Fm h₀ s₀ b env ρ s →
    (∀ f fl ρ' s', RepF s'.heap f fl → K fl ρ' → Fm h₀ s₀ b env ρ' s' → KeptX μ s₀.heap s.heap s'.heap → Q f s') → wpAny (model prog w) A (execs sts env) Q E s
def Ex1 (ρ : List (Str × D)) (st : Stmt) (K : Fl → List (Str × D) → Prop) : Prop :=
  ∀ (s : Shared) (Q : Flow → Shared → Prop) (E : Value → Shared → Prop), Fm h₀ s₀ b env ρ s →
    (∀ f fl ρ' s', RepF s'.heap f fl → K fl ρ' → Fm h₀ s₀ b env ρ' s' → KeptX μ s₀.heap s.heap s'.heap → Q f s') → wpAny (model prog w) A (exec st env) Q E s
def Then (rest : List Stmt) (K : Fl → List (Str × D) → Prop) : Fl → List (Str × D) → Prop
  | .next, ρ' => Exs prog w A h₀ s₀ b μ env ρ' rest K
  | fl, ρ' => K fl ρ'
end

section
variable {prog : Program} {w : World} {A : Around} {h₀ : Heap} {s₀ : Shared} {b μ : Bool} {env : Env} {ρ ρ' : List (Str × D)} {K K' : Fl → List (Str × D) → Prop}

theorem KeptD.refl (h : Heap) : KeptD h h := fun _ _ e _ => e
theorem KeptD.trans {x y z : Heap} (p : KeptD x y) (q : KeptD y z) : KeptD x z := fun c o e f => q c o (p c o e f) f
theorem kd_keeps {s s' : Shared} (k : Keeps s s') : KeptX μ s₀.heap s.heap s'.heap := (keeps_kept k).d.x

theorem x_nil (h : K .next ρ) : Exs prog w A h₀ s₀ b μ env ρ [] K := fun s Q E F hQ => wpAny_execs_nil (hQ _ .next _ _ rfl h F (KeptX.refl _ _))
theorem x_cons {st : Stmt} {rest : List Stmt} (h : Ex1 prog w A h₀ s₀ b μ env ρ st (Then prog w A h₀ s₀ b μ env rest K)) : Exs prog w A h₀ s₀ b μ env ρ (st :: rest) K := fun s Q E F hQ =>
  wpAny_execs_cons (h s _ _ F fun f fl ρ' s' r k F' kd => by
    cases fl with
    | next => have r : f = .next := r; subst r; exact k s' _ _ F' fun f fl ρ'' s'' r k F'' kd' => hQ f fl ρ'' s'' r k F'' (kd.trans kd')
    | brk => have r : f = .brk := r; subst r; exact hQ _ .brk _ _ rfl k F' kd
    | cont => have r : f = .cont := r; subst r; exact hQ _ .cont _ _ rfl k F' kd
    | ret d => obtain ⟨v, rfl, r⟩ := r; exact hQ _ (.ret d) _ _ ⟨v, rfl, r⟩ k F' kd)
theorem Exs.mono {sts} (h : Exs prog w A h₀ s₀ b μ env ρ sts K) (hk : ∀ fl ρ', K fl ρ' → K' fl ρ') : Exs prog w A h₀ s₀ b μ env ρ sts K' := fun s Q E F hQ =>
  h s Q E F fun f fl ρ' s' r k F' kd => hQ f fl ρ' s' r (hk _ _ k) F' kd
theorem Ex1.mono {st} (h : Ex1 prog w A h₀ s₀ b μ env ρ st K) (hk : ∀ fl ρ', K fl ρ' → K' fl ρ') : Ex1 prog w A h₀ s₀ b μ env ρ st K' := fun s Q E F hQ =>
  h s Q E F fun f fl ρ' s' r k F' kd => hQ f fl ρ' s' r (hk _ _ k) F' kd
theorem Exs.sub {sts} (h : Exs prog w A h₀ s₀ b μ env ρ' sts K) (hs : ∀ p ∈ ρ', p ∈ ρ) : Exs prog w A h₀ s₀ b μ env ρ sts K := fun s Q E F hQ => h s Q E (F.sub hs) hQ
theorem Ex1.sub {st} (h : Ex1 prog w A h₀ s₀ b μ env ρ' st K) (hs : ∀ p ∈ ρ', p ∈ ρ) : Ex1 prog w A h₀ s₀ b μ env ρ st K := fun s Q E F hQ => h s Q E (F.sub hs) hQ

/-- what may be stored into -/
def Own (env : Env) (x : Str) : Prop := env.kindOf x = some .local ∨ (env.kindOf x = some .cell ∧ (env.cells.lookup x).isSome = true)
/-- the names' data after a store -/
def Upd (x : Str) (d : D) (ρ ρ' : List (Str × D)) : Prop := ∀ q ∈ ρ', q = (x, d) ∨ (q ∈ ρ ∧ q.1 ≠ x)

theorem x_assign {x : Str} {p pos : Pos} {e : Expr} {d : D} (ρ' : List (Str × D)) (he : EvE prog w A h₀ env ρ e d) (hx : Own env x) (hρ : Upd x d ρ ρ')
    (k : K .next ρ') (hxd : (x == ("__debug__" : Str)) = false := by decide) (hs : swapsWith e (some (.Name x p)) pos.line env = pure false := by rfl) :
    Ex1 prog w A h₀ s₀ b μ env ρ (.Assign [.Name x p] e pos) K := fun s Q E F hQ =>
  wpAny_Assign_Name (he s _ _ F.hb F.vals fun v s1 k1 r1 => (F.keeps k1).store hx hxd r1 hρ fun s' F' kd => hQ _ .next _ _ rfl k F' ((kd_keeps (s₀ := s₀) (μ := μ) k1).trans kd.x)) hs
theorem x_if {t : Expr} {body orelse : List Stmt} {pos : Pos} {c : Bool} (ht : TsE prog w A h₀ env ρ t c) (h1 : c = true → Exs prog w A h₀ s₀ b μ env ρ body K) (h2 : c = false → Exs prog w A h₀ s₀ b μ env ρ orelse K) :
    Ex1 prog w A h₀ s₀ b μ env ρ (.If t body orelse pos) K := fun s Q E F hQ =>
  wpAny_If (ht s _ _ F.hb F.vals fun s1 k1 => by
    cases c with
    | true => exact h1 rfl s1 _ _ (F.keeps k1) fun f fl ρ' s' r k F' kd => hQ f fl ρ' s' r k F' ((kd_keeps (s₀ := s₀) (μ := μ) k1).trans kd)
    | false => exact h2 rfl s1 _ _ (F.keeps k1) fun f fl ρ' s' r k F' kd => hQ f fl ρ' s' r k F' ((kd_keeps (s₀ := s₀) (μ := μ) k1).trans kd))
theorem x_ret {e : Expr} {pos : Pos} {d : D} (he : EvE prog w A h₀ env ρ e d) (k : K (.ret d) ρ) : Ex1 prog w A h₀ s₀ b μ env ρ (.Return (some e) pos) K := fun s Q E F hQ =>
  wpAny_Return_some (he s _ _ F.hb F.vals fun v s1 k1 r1 => hQ _ (.ret d) _ _ ⟨v, rfl, r1⟩ k (F.keeps k1) (kd_keeps (s₀ := s₀) (μ := μ) k1))
theorem x_break {pos : Pos} (k : K .brk ρ) : Ex1 prog w A h₀ s₀ b μ env ρ (.Break pos) K := fun s Q E F hQ => fun _ _ _ => hQ _ .brk _ _ rfl k F (KeptX.refl _ _)

theorem x_while {t : Expr} {body orelse : List Stmt} {pos : Pos} (Inv : Nat → List (Str × D) → Prop)
    (turn : ∀ n ρ, Inv n ρ → ∃ c, TsE prog w A h₀ env ρ t c ∧ (c = true → Exs prog w A h₀ s₀ b μ env ρ body fun fl ρ' => match fl with | .next => ∃ m, m < n ∧ Inv m ρ' | .cont => ∃ m, m < n ∧ Inv m ρ' | .brk => K .next ρ' | .ret d => K (.ret d) ρ') ∧
      (c = false → Exs prog w A h₀ s₀ b μ env ρ orelse K)) (n : Nat) (h : Inv n ρ) : Ex1 prog w A h₀ s₀ b μ env ρ (.While t body orelse pos) K := fun s Q E F hQ => by
  have hst : ∃ s', s' = s := ⟨s, rfl⟩
  obtain ⟨sa, hsa⟩ := hst
  have kd0 : KeptX μ s₀.heap sa.heap s.heap := hsa ▸ KeptX.refl _ _
  have hQ : ∀ f fl ρ' s', RepF s'.heap f fl → K fl ρ' → Fm h₀ s₀ b env ρ' s' → KeptX μ s₀.heap sa.heap s'.heap → Q f s' := hsa ▸ hQ
  refine wpAny_While (codeAny_whileLoop (fun n s => ∃ ρ, Inv n ρ ∧ Fm h₀ s₀ b env ρ s ∧ KeptX μ s₀.heap sa.heap s.heap) ?_ n ⟨ρ, h, F, kd0⟩)
  rintro n s ⟨ρ, hi, F, kd⟩
  obtain ⟨c, ht, h1, h2⟩ := turn n ρ hi
  refine ht s _ _ F.hb F.vals fun s1 k1 => ?_
  have kd := kd.trans (kd_keeps (s₀ := s₀) (μ := μ) k1)
  cases c with
  | true =>
    simp only [if_true]
    refine h1 rfl s1 _ _ (F.keeps k1) fun f fl ρ' s' r k F' kd' => ?_
    have kd := kd.trans kd'
    cases fl with
    | next => have r : f = .next := r; subst r; obtain ⟨m, hm, hi⟩ := k; exact ⟨m, hm, ρ', hi, F', kd⟩
    | cont => have r : f = .cont := r; subst r; obtain ⟨m, hm, hi⟩ := k; exact ⟨m, hm, ρ', hi, F', kd⟩
    | brk => have r : f = .brk := r; subst r; exact hQ _ .next _ _ rfl k F' kd
    | ret d => obtain ⟨v, rfl, r⟩ := r; exact hQ _ (.ret d) _ _ ⟨v, rfl, r⟩ k F' kd
  | false =>
    simp only [Bool.false_eq_true, if_false]
    exact h2 rfl s1 _ _ (F.keeps k1) fun f fl ρ' s' r k F' kd' => hQ f fl ρ' s' r k F' (kd.trans kd')

theorem x_for {x : Str} {p pos : Pos} {iter : Expr} {body orelse : List Stmt} {d : D} {ns : List Int} (he : EvE prog w A h₀ env ρ iter d) (hsrc : Src prog w A d ns) (hx : Own env x) (hμ : μ = false ∨ seqy d = false) (Inv : Nat → List (Str × D) → Prop)
    (turn : ∀ i, i < ns.length → ∀ ρ, Inv i ρ → ∃ ρ', Upd x (.int (ns.getD i 0)) ρ ρ' ∧ Exs prog w A h₀ s₀ b μ env ρ' body fun fl ρ' => match fl with | .next => Inv (i + 1) ρ' | .cont => Inv (i + 1) ρ' | .brk => K .next ρ' | .ret d => K (.ret d) ρ')
    (fin : ∀ ρ, Inv ns.length ρ → Exs prog w A h₀ s₀ b μ env ρ orelse K) (h : Inv 0 ρ) (hxd : (x == ("__debug__" : Str)) = false := by decide)
    (hs : ∀ env x, foldedSetIterable iter env x = pure x := by intro _ _; rfl) : Ex1 prog w A h₀ s₀ b μ env ρ (.For (.Name x p) iter body orelse pos) K := fun s Q E F hQ => by
  have hst : ∃ s', s' = s := ⟨s, rfl⟩
  obtain ⟨sa, hsa⟩ := hst
  have kd0 : KeptX μ s₀.heap sa.heap s.heap := hsa ▸ KeptX.refl _ _
  have hQ : ∀ f fl ρ' s', RepF s'.heap f fl → K fl ρ' → Fm h₀ s₀ b env ρ' s' → KeptX μ s₀.heap sa.heap s'.heap → Q f s' := hsa ▸ hQ
  refine wpAny_For (he s _ _ F.hb F.vals fun v s1 k1 r1 => hsrc s1 v _ _ r1 fun I s2 fp wr P St W st hfp k2 hwr hP hit hfr => ?_) (hs env)
  have F2 := (F.keeps k1).keeps k2
  have hwr' : ∀ b' o, s₀.heap.get? b' = some o → b' ∉ wr := fun b' o g => hwr b' o (((F.keeps k1).kb.kept) _ _ g)
  have hwrA : ∀ b' o, sa.heap.get? b' = some o → b' ∉ wr := fun b' o g => hwr b' o (keeps_kept k1 _ _ (hsa ▸ g))
  refine codeAny_forLoop (fun n s => ∃ i ρ, i + n = ns.length ∧ Inv i ρ ∧ Fm h₀ s₀ b env ρ s ∧ St i s.heap ∧ KeptX μ s₀.heap sa.heap s.heap) ?_ ns.length ⟨0, ρ, by omega, h, F2, st, kd0.trans (kd_keeps (s₀ := s₀) (μ := μ) (keeps_trans k1 k2))⟩
  rintro n s ⟨i, ρ, hin, hi, F, st, kd⟩
  have ki : ∀ {h' : Heap}, (∀ b' o, b' ∉ wr → s.heap.get? b' = some o → h'.get? b' = some o) → KeptI s.heap h' := fun hk b' o g hni => hk b' o (fun hm => by
    obtain ⟨o', g', hi'⟩ := hit _ _ st b' hm
    rw [g] at g'; cases g'; exact hni hi') g
  by_cases hlt : i < ns.length
  · refine W.item i s _ _ hlt st fun v h' tk hv st' hk => ?_
    obtain ⟨t, e, _⟩ := hP i v hv
    subst e
    have F3 := F.turn (t := tk) (ki hk) fun b' o g => hk b' o (hwr' b' o g) (F.kb.kept _ _ g)
    have kd3 : KeptX μ s₀.heap sa.heap h' := fun b' o g f m => hk b' o (hwrA b' o g) (kd b' o g f m)
    obtain ⟨ρ', hρ, hbody⟩ := turn i hlt ρ hi
    refine wpAny_assign_Name (F3.store (d := .int (ns.getD i 0)) hx hxd ⟨t, rfl⟩ hρ fun s4 F4 kd4 => hbody s4 _ _ F4 fun f fl ρ'' s5 r k F5 kd5 => ?_)
    have kd35 : KeptX μ s₀.heap h' s5.heap := kd4.x.trans kd5
    have kdA := kd3.trans kd35
    have st5 : St (i + 1) s5.heap := W.frame _ _ _ st' fun b' hb' o g => kd35 b' o g (hfr _ _ st' b' hb' o g).1 fun q ⟨vs, n, e⟩ => hμ.elim (fun z => by rw [z] at q; cases q) fun z => absurd e ((hfr _ _ st' b' hb' o g).2 z vs n)
    cases fl with
    | next => have r : f = .next := r; subst r; exact ⟨n - 1, by omega, i + 1, ρ'', by omega, k, F5, st5, kdA⟩
    | cont => have r : f = .cont := r; subst r; exact ⟨n - 1, by omega, i + 1, ρ'', by omega, k, F5, st5, kdA⟩
    | brk => have r : f = .brk := r; subst r; exact hQ _ .next _ _ rfl k F5 kdA
    | ret d => obtain ⟨v, rfl, r⟩ := r; exact hQ _ (.ret d) _ _ ⟨v, rfl, r⟩ k F5 kdA
  · have : i = ns.length := by omega
    subst this
    refine W.done s _ _ st fun h' tk hk => ?_
    have F3 := F.turn (t := tk) (ki hk) fun b' o g => hk b' o (hwr' b' o g) (F.kb.kept _ _ g)
    have kd3 : KeptX μ s₀.heap sa.heap h' := fun b' o g f m => hk b' o (hwrA b' o g) (kd b' o g f m)
    exact fin ρ hi _ _ _ F3 fun f fl ρ' s' r k F' kd' => hQ f fl ρ' s' r k F' (kd3.trans kd')

/-- a comprehension laid into a name of its own line -/
theorem x_assign_comp {iter elt : Expr} {x y : Str} {px py pos spos : Pos} {ifs : List Expr} {scope : Scope} {d : D} {ns : List Int} {p : Int → Bool} {f : Int → Int} (ρ'' : List (Str × D))
    (hi : EvE prog w A h₀ env ρ iter d) (hsrc : Src prog w A d ns) (hz : ns.length ≤ 1000) (ρ' : List (Str × D))
    (hk : scope.kind = .function) (hx : scope.names.lookup x = some .local) (hxd : (x == ("__debug__" : Str)) = false) (hcell : ∀ y ∈ scope.names, y.2 ≠ .cell)
    (hnames : ∀ y ∈ scope.names, y.2 = .local → scope.names.lookup y.1 = some .local) (hfree : (scope.names.all fun y => y.2 != .free || (env.cells.lookup y.1).isSome) = true)
    (hpass : ∀ q ∈ ρ', q ∈ ρ ∧ Pass env scope q.1 ∧ (q.1 == ("__classdict__" : Str)) = false)
    (ht : ∀ a ∈ ns, ∀ C, TsL prog w A h₀ (compEnvC scope (clOf scope env) C env) ((x, .int a) :: ρ') ifs (p a))
    (he : ∀ a ∈ ns, p a = true → ∀ C, EvE prog w A h₀ (compEnvC scope (clOf scope env) C env) ((x, .int a) :: ρ') elt (.int (f a)))
    (hsw : swapsWith (.ListComp elt [⟨.Name x px, iter, ifs, 0⟩] scope pos) (some (.Name y py)) spos.line env = pure true)
    (hy : env.kindOf y = some .local) (hyd : (y == ("__debug__" : Str)) = false) (hρ : Upd y (.ints ((ns.filter p).map f)) ρ ρ'') (k : K .next ρ'')
    (hs : ∀ env x, foldedSetIterable iter env x = pure x := by intro _ _; rfl) :
    Ex1 prog w A h₀ s₀ b μ env ρ (.Assign [.Name y py] (.ListComp elt [⟨.Name x px, iter, ifs, 0⟩] scope pos) spos) K := fun s Q E F hQ => by
  refine wpAny_Assign_ListComp_free (pzOf p) (FOf f) hsw (closureFor_is hfree) hcell hk hnames hx hy (by rw [F.fn]; rfl) (hi s _ _ F.hb F.vals fun v s₁ k₁ r₁ => ?_) (hs env)
  have F1 := F.keeps k₁
  refine comp_core hsrc hk hx hxd hpass ht he r₁ F1.hb F1.vals fun I s₂ fp wr P St W st hfp k₂ hwr hq hys => ?_
  have F2 := F1.keeps k₂
  obtain ⟨m, hn⟩ := F1.ns
  have hLw : env.locals ∉ wr := by obtain ⟨o, _, _, g, _⟩ := hn; exact hwr _ o g
  have hn2 := hn.keeps (keeps_kept k₂)
  refine ⟨I, fp, wr, _, P, St, m, rfl, W, by rw [sizeLine_eq]; omega, st, hfp, hLw, hn2, hq, fun D h' tk ys vs _ _ hpl hlen hP hF hns hkeep => ?_⟩
  obtain ⟨hh2, tk2, e2, kp2⟩ := id k₂
  have q := F1.putLocal (t := tk) (d := .ints ((ns.filter p).map f)) hn hy hyd hns (fun c o hc e => hkeep c o hc (hwr c o e) (keeps_kept k₂ c o e)) ⟨?_, D, ys.toList, rfl, by simpa using hpl, hys vs hlen hP _ hF⟩ hρ
  · have e3 : ({ s₂ with heap := h', toks := tk } : Shared) = { s₁ with heap := h', toks := tk } := by rw [e2]
    rw [e3]
    exact hQ _ .next _ _ rfl k q.1 ((kd_keeps (s₀ := s₀) (μ := μ) k₁).trans q.2.x)
  · rw [List.length_map]
    exact Nat.le_trans (List.length_filter_le _ _) hz
end
/-- a def of the text, as it stands -/
def FnAt (h₀ : Heap) (a : Addr) (name : Str) (params : Arguments) (body : List Stmt) (scope : Scope) : Prop :=
  ∃ o pm cd doc, h₀.get? a = some o ∧ o.data = .func (Calls.docDef name params body scope pm cd doc) ∧ h₀.CodeRec cd name
structure Base (h₀ : Heap) : Prop where
  nolimit : h₀.NoLimit
  g : ∃ mg, h₀.Ns mainGlobals mg
  b : ∃ mb, h₀.Ns builtinsNs mb
/-- a global name -/
def GHas (h₀ : Heap) (p : Str × D) : Prop :=
  ∃ mg v, h₀.Ns mainGlobals mg ∧ (mg p.1 = some v ∨ (mg p.1 = none ∧ ∃ mb, h₀.Ns builtinsNs mb ∧ mb p.1 = some v)) ∧ Rep h₀ v p.2

theorem Room.deeper {A : Around} {k : Nat} (r : Room A (k + 1)) (env : Env) : Room (A.deeper env) k :=
  ⟨r.hh, by have := r.depth; show A.depth + 1 + k < _; omega, by have := r.units; show A.units + 3 + 100 * k < _; omega⟩
theorem Room.in1 {A : Around} {k : Nat} (r : Room A (k + 1)) : Room A.in1 k := ⟨r.hh, by have := r.depth; show A.depth + k < _; omega, by have := r.units; show A.units + 1 + 100 * k < _; omega⟩

theorem bindL_other {kindOf : Str → Option NameKind} {x : Str} : ∀ {l : List (Str × Value)} {m : Str → Option Value}, (∀ p ∈ l, p.1 ≠ x) → bindL kindOf l m x = m x
  | [], _, _ => rfl
  | (n, v) :: r, m, h => by
    unfold bindL
    rw [bindL_other fun p hp => h p (.tail _ hp)]
    have hn : x ≠ n := fun e => h (n, v) (.head _) e.symm
    split <;> simp [hn]
theorem bindC_other {kindOf : Str → Option NameKind} {x : Str} : ∀ {l : List (Str × Value)} {m : Str → Option Value}, (∀ p ∈ l, p.1 ≠ x) → bindC kindOf l m x = m x
  | [], _, _ => rfl
  | (n, v) :: r, m, h => by
    unfold bindC
    rw [bindC_other fun p hp => h p (.tail _ hp)]
    have hn : x ≠ n := fun e => h (n, v) (.head _) e.symm
    split <;> simp [hn]
theorem bindL_mem {kindOf : Str → Option NameKind} {x : Str} {v : Value} (hk : kindOf x = some .local) : ∀ {l : List (Str × Value)} {m : Str → Option Value}, (l.map (·.1)).Nodup → (x, v) ∈ l → bindL kindOf l m x = some v
  | (n, u) :: r, m, hn, h => by
    unfold bindL
    rw [List.map_cons, List.nodup_cons] at hn
    rcases List.mem_cons.mp h with e | h
    · cases e
      rw [bindL_other fun p hp e => hn.1 (List.mem_map.mpr ⟨p, hp, e⟩), if_pos hk]
      simp
    · exact bindL_mem hk hn.2 h
theorem bindC_mem {kindOf : Str → Option NameKind} {x : Str} {v : Value} (hk : kindOf x = some .cell) : ∀ {l : List (Str × Value)} {m : Str → Option Value}, (l.map (·.1)).Nodup → (x, v) ∈ l → bindC kindOf l m x = some v
  | (n, u) :: r, m, hn, h => by
    unfold bindC
    rw [List.map_cons, List.nodup_cons] at hn
    rcases List.mem_cons.mp h with e | h
    · cases e
      rw [bindC_other fun p hp e => hn.1 (List.mem_map.mpr ⟨p, hp, e⟩), if_neg (by rw [hk]; simp)]
      simp
    · exact bindC_mem hk hn.2 h

theorem cells_isSome {y : Str} : ∀ {names : List (Str × NameKind)} {n : Nat} {acc : List (Str × Addr)}, (names.lookup y = some .cell ∨ (acc.lookup y).isSome = true) → ((cellsFrom n names acc).lookup y).isSome = true
  | [], _, _, h => h.elim (fun e => by cases e) id
  | (z, k) :: r, n, acc, h => by
    unfold cellsFrom
    by_cases hk : (k == .cell) = true
    · rw [if_pos hk]
      refine cells_isSome ?_
      by_cases hy : y = z
      · subst hy; right; simp
      · have hb : (y == z) = false := by simpa using hy
        exact h.imp (fun e => by rw [List.lookup_cons, hb] at e; exact e) fun e => by rw [List.lookup_cons, hb]; exact e
    · rw [if_neg hk]
      refine cells_isSome ?_
      by_cases hy : y = z
      · subst hy
        rcases h with e | e
        · simp at e; subst e; exact absurd rfl hk
        · exact .inr e
      · have hb : (y == z) = false := by simpa using hy
        exact h.imp (fun e => by rw [List.lookup_cons, hb] at e; exact e) id

section
variable {prog : Program} {w : World} {A : Around} {h₀ : Heap}

/-- the frame of a call, as it starts -/
theorem fm_start {s s₁ : Shared} {b : Bool} {name : Str} {scope : Scope} {L a : Addr} {cd : Value} {ps : List Str} {vals : List Value} {ds : List D} {γ ρ : List (Str × D)}
    (B : Base h₀) (hb : Kept h₀ s.heap) (hk : scope.kind = .function) (hL : L = s.heap.objs.size) (hnd : ps.Nodup) (hlen : ps.length = vals.length)
    (hps : (ps.all fun p => (scope.names.lookup p == some .local || scope.names.lookup p == some .cell) && !(p == ("__debug__" : Str))) = true)
    (hr : RepAll s.heap vals ds) (hγ : ∀ p ∈ γ, GHas h₀ p) (hγk : ∀ p ∈ γ, scope.names.lookup p.1 = some .globalImplicit ∧ (p.1 == ("__debug__" : Str)) = false) (hρ : ∀ p ∈ ρ, p ∈ ps.zip ds ∨ p ∈ γ)
    (X : InCallC s L (bindL (envOfC name scope L a cd).kindOf (ps.zip vals) fun _ => none) (envOfC name scope L a cd).cells (bindC (envOfC name scope L a cd).kindOf (ps.zip vals) fun _ => none) s₁) :
    Fm h₀ s b (envOfC name scope L a cd) ρ s₁ := by
  subst hL
  have none_ge : ∀ c, s.heap.objs.size ≤ c → s.heap.get? c = none := fun c hc => by
    cases e : s.heap.get? c with
    | none => rfl
    | some o => exact absurd (Heap.lt_size e) (Nat.not_lt.mpr hc)
  have keep : Kept s.heap s₁.heap := X.toInCall.keep
  have ne_of : ∀ {c : Addr} {m}, h₀.Ns c m → s.heap.objs.size ≠ c := fun n e => by
    obtain ⟨o, _, _, g, _⟩ := n
    exact absurd (Heap.lt_size (hb _ _ g)) (by rw [← e]; exact Nat.lt_irrefl _)
  have hnd' : ((ps.zip vals).map (·.1)).Nodup := by
    rw [List.map_fst_zip (by omega)]; exact hnd
  refine ⟨hb, ?_, ⟨_, X.toInCall.ns⟩, none_ge _ (Nat.le_refl _), fun x c hc => ⟨⟨_, X.cell x c hc⟩, none_ge _ (Nat.le_of_lt (X.above x c (mem_of_lookup hc)))⟩,
    fun x y c hx hy => name_of_addr X.apart (mem_of_lookup hx) (mem_of_lookup hy), ?_, ?_, hk, fun p hp => ?_⟩
  · obtain ⟨h', t, e⟩ := X.toInCall.same
    exact ⟨h', t, s.gens, by rw [e], by rw [e] at keep; exact keep, fun _ => rfl, id⟩
  · obtain ⟨mg, n⟩ := B.g; exact ne_of n
  · obtain ⟨mb, n⟩ := B.b; exact ne_of n
  rcases hρ p hp with hz | hz
  · obtain ⟨x, d⟩ := p
    -- the place of the parameter
    have place : ∀ {ps : List Str} {vals : List Value} {ds : List D}, RepAll s.heap vals ds → (x, d) ∈ ps.zip ds → ∃ v, (x, v) ∈ ps.zip vals ∧ Rep s.heap v d := by
      intro ps vals ds hr
      induction hr generalizing ps with
      | nil => intro h; simp at h
      | cons a r ih =>
        intro h
        cases ps with
        | nil => simp at h
        | cons q ps =>
          rw [List.zip_cons_cons] at h
          rcases List.mem_cons.mp h with e | h
          · cases e; exact ⟨_, .head _, a⟩
          · obtain ⟨v, hv, rv⟩ := ih h; exact ⟨v, .tail _ hv, rv⟩
    obtain ⟨v, hv, rv⟩ := place hr hz
    have hx : x ∈ ps := (List.of_mem_zip hz).1
    have hq := List.all_eq_true.mp hps x hx
    rw [Bool.and_eq_true] at hq
    have hxd : (x == ("__debug__" : Str)) = false := by simpa using hq.2
    refine ⟨v, ?_, rv.kept keep⟩
    rcases Bool.or_eq_true_iff.mp hq.1 with q | q
    · have hl : (envOfC name scope s.heap.objs.size a cd).kindOf x = some .local := (show scope.names.lookup x = some .local by simpa using q)
      exact .loc hk hxd hl X.toInCall.ns (bindL_mem hl hnd' hv)
    · have hl : (envOfC name scope s.heap.objs.size a cd).kindOf x = some .cell := (show scope.names.lookup x = some .cell by simpa using q)
      obtain ⟨c, hc⟩ := Option.isSome_iff_exists.mp (cells_isSome (n := s.heap.objs.size + 1) (acc := []) (names := scope.names) (y := x) (.inl hl))
      have := X.cell x c hc
      rw [bindC_mem hl hnd' hv] at this
      exact .cell hk hxd hl hc this
  · obtain ⟨mg, v, n, hm, rv⟩ := hγ p hz
    obtain ⟨g1, g2⟩ := hγk p hz
    have kk : Kept h₀ s₁.heap := hb.trans keep
    refine ⟨v, ?_, rv.kept kk⟩
    rcases hm with hm | ⟨hm, mb, nb, hmb⟩
    · exact .glob hk g2 g1 (n.keeps kk) hm
    · exact .blt hk g2 g1 (n.keeps kk) hm (nb.keeps kk) hmb

/-- a call of a def -/
theorem c_fn {a : Addr} {name : Str} {params : Arguments} {body : List Stmt} {scope : Scope} {ps : List Str} {ds : List D} {d : D} {k : Nat} {μ : Bool} (γ ρ : List (Str × D)) (FA : FnAt h₀ a name params body scope) (B : Base h₀) (R : Room A (k + 1))
    (hk : scope.kind = .function) (hnd : ps.Nodup) (hps : (ps.all fun p => (scope.names.lookup p == some .local || scope.names.lookup p == some .cell) && !(p == ("__debug__" : Str))) = true)
    (hbind : ∀ pm cd doc (vals : List Value), vals.length = ds.length → bindArgs (Calls.docDef name params body scope pm cd doc) ⟨vals, []⟩ = pure (ps.zip vals)) (hlen : ps.length = ds.length)
    (hγ : ∀ p ∈ γ, GHas h₀ p) (hγk : ∀ p ∈ γ, scope.names.lookup p.1 = some .globalImplicit ∧ (p.1 == ("__debug__" : Str)) = false) (hρ : ∀ p ∈ ρ, p ∈ ps.zip ds ∨ p ∈ γ)
    (hbody : ∀ A' L cd s₀, Room A' k → Kept h₀ s₀.heap → Exs prog w A' h₀ s₀ false μ (envOfC name scope L a cd) ρ body fun fl _ => fl = .ret d)
    (hco : scope.isCoroutine = false) (hgen : scope.isGenerator = false) : OpN prog w A h₀ (.ref a) ds d := fun s vals Q E hb hr hQ => by
  obtain ⟨o, pm, cd, doc, ho, hd, hcd⟩ := FA
  have hl := repAll_len hr
  refine wpAny_call (codeAny_call_cells (by have := R.depth; omega) (hb _ _ ho) hd (B.nolimit.keeps hb) (hcd.keeps hb) rfl (hbind pm cd doc vals hl) rfl (fun x hx => ?_) (fun s₁ X => ?_) hco hgen hk)
  · have hx' : x.1 ∈ ps := (List.of_mem_zip (show (x.1, x.2) ∈ ps.zip vals from hx)).1
    have hq := List.all_eq_true.mp hps x.1 hx'
    rw [Bool.and_eq_true] at hq
    rcases Bool.or_eq_true_iff.mp hq.1 with q | q
    · exact .inl (show scope.names.lookup x.1 = some .local by simpa using q)
    · have q' : scope.names.lookup x.1 = some .cell := by simpa using q
      exact .inr ⟨q', cells_isSome (.inl q')⟩
  · have F := fm_start (b := false) (name := name) (a := a) (cd := cd) (L := s.heap.objs.size) B hb hk rfl hnd (by omega) hps hr hγ hγk hρ X
    refine hbody _ _ _ s (R.deeper _) hb s₁ _ _ F fun f fl ρ' s' r q F' _ => ?_
    subst q
    obtain ⟨v, rfl, rv⟩ := r
    exact hQ v s' F'.kb.keeps rv
end
section
variable {prog : Program} {w : World} {A : Around} {h₀ : Heap} {env : Env} {ρ ρ' : List (Str × D)} {scope : Scope} {elt : Expr} {x : Str} {ifs : List Expr} {d : D} {ns : List Int} {p : Int → Bool} {f : Int → Int}

theorem Sees.passX {env : Env} {scope : Scope} {C c : Addr} {h : Heap} {y : Str} {v : Value} (hk : scope.kind = .function) (hn : (y == ("__classdict__" : Str)) = false) (hx : scope.names.lookup x = some .cell) (P : Pass env scope y) (S : Sees env h y v) :
    Sees (compEnvC scope ((x, c) :: clOf scope env) C env) h y v := by
  have S' := Sees.pass (C := C) hk hn P S
  have ne : (scope.names.lookup y = some .free) → (y == x) = false := fun q => by
    by_cases e : y = x
    · subst e; rw [hx] at q; cases q
    · simpa using e
  cases S' with
  | loc a b c' d e => exact .loc a b c' d e
  | glob a b c' d e => exact .glob a b c' d e
  | blt a b c' d e f g => exact .blt a b c' d e f g
  | cell a b c' d e =>
    rcases P with ⟨p1, p2⟩ | ⟨p1, p2⟩
    · have : (relabel scope env).names.lookup y = some .cell := c'
      rw [relabel, look_relabel p1] at this; simp at this
    · exact .cell a b c' (by show List.lookup y ((x, _) :: clOf scope env) = _; rw [List.lookup_cons, ne p1]; exact d) e
  | free a b b' c' d e =>
    rcases P with ⟨p1, p2⟩ | ⟨p1, p2⟩
    · have : (relabel scope env).names.lookup y = some .free := c'
      rw [relabel, look_relabel p1] at this; simp at this
    · exact .free a b b' c' (by show List.lookup y ((x, _) :: clOf scope env) = _; rw [List.lookup_cons, ne p1]; exact d) e

theorem take_filter_map {ns : List Int} {i : Nat} (hi : i < ns.length) (p : Int → Bool) (f : Int → Int) :
    ((ns.take (i + 1)).filter p).map f = ((ns.take i).filter p).map f ++ (if p (ns.getD i 0) then [f (ns.getD i 0)] else []) := by
  rw [List.take_add_one, List.getElem?_eq_getElem hi, List.filter_append, List.map_append]
  have : ns.getD i 0 = ns[i] := by simp [List.getD_eq_getElem?_getD, hi]
  rw [this]
  cases hp : p ns[i] <;> simp [hp]

theorem e_comp_cell {iter : Expr} {px pos : Pos} (hi : EvE prog w A h₀ env ρ iter d) (hsrc : Src prog w A d ns) (hz : ns.length ≤ 1000) (ρ' : List (Str × D))
    (hk : scope.kind = .function) (hx : scope.names.lookup x = some .cell) (hxd : (x == ("__debug__" : Str)) = false)
    (hcf : ∀ C, cellsFrom C scope.names (clOf scope env) = (x, C) :: clOf scope env) (hpc : ∀ h, pushCells h scope.names = h.push { cls := .type "cell", data := .cell none })
    (hnames : ∀ y ∈ scope.names, y.2 = .local → scope.names.lookup y.1 = some .local) (hfree : (scope.names.all fun y => y.2 != .free || (env.cells.lookup y.1).isSome) = true)
    (hpass : ∀ q ∈ ρ', q ∈ ρ ∧ Pass env scope q.1 ∧ (q.1 == ("__classdict__" : Str)) = false)
    (ht : ∀ a ∈ ns, ∀ C, TsL prog w A h₀ (compEnvC scope ((x, C + 1) :: clOf scope env) C env) ((x, .int a) :: ρ') ifs (p a))
    (he : ∀ a ∈ ns, p a = true → ∀ C, EvE prog w A h₀ (compEnvC scope ((x, C + 1) :: clOf scope env) C env) ((x, .int a) :: ρ') elt (.int (f a)))
    (hs : ∀ env x, foldedSetIterable iter env x = pure x := by intro _ _; rfl) :
    EvE prog w A h₀ env ρ (.ListComp elt [⟨.Name x px, iter, ifs, 0⟩] scope pos) (.ints ((ns.filter p).map f)) := fun s Q E hb V hQ => by
  rw [eval_ListComp]
  refine wpAny_comprehension_free (use := none) rfl (hs env) (closureFor_is hfree) hk hnames (hi s _ _ hb V fun v s₁ k₁ r₁ => ?_)
  have hb1 := hb.trans (keeps_kept k₁)
  have V1 := V.kept (keeps_kept k₁)
  refine hsrc s₁ v _ _ r₁ fun I s₂ fp wr P St W st hfp k₂ hwr hP hit hfr => ?_
  refine wpAny_newObj_type ?_ (by size_fits)
  -- the comprehension's frame
  unfold newFunctionEnv
  simp only [Option.isSome_some, if_true]
  refine wpAny_bind (wpAny_alloc ?_)
  refine wpAny_bind (wpAny_layCells _ (fun name kind cells => by cases hkc : kind == NameKind.cell <;> simp [hkc]) _ _ _ _ ?_)
  rw [List.forIn_nil]
  refine wpAny_bind (wpAny_pure (wpAny_pure ?_))
  rw [hcf, hpc]
  -- the new objects
  generalize hH1 : s₂.heap.push { cls := .type "list", data := .seq ([] : List Value).toArray } = H1
  have hD : s₂.heap.objs.size < H1.objs.size := by rw [← hH1, Heap.size_push]; exact Nat.lt_succ_self _
  generalize hH2 : H1.push { cls := .type "dict", data := .dict #[] } = H2
  have hC : H2.objs.size = H1.objs.size + 1 := by rw [← hH2, Heap.size_push]
  generalize hH3 : H2.push { cls := .type "cell", data := .cell none } = H3
  dsimp only
  rw [hC]
  obtain ⟨C, hCa⟩ : ∃ C : Nat, H1.objs.size = C := ⟨_, rfl⟩
  obtain ⟨Da, hDa⟩ : ∃ Da : Nat, s₂.heap.objs.size = Da := ⟨_, rfl⟩
  have hDC : Da < C := hCa ▸ hDa ▸ hD
  rw [hCa] at hC ⊢
  rw [hDa] at ⊢
  have up12 : Kept s₂.heap H1 := hH1 ▸ Kept.push _ _
  have up23 : Kept H1 H2 := hH2 ▸ Kept.push _ _
  have up34 : Kept H2 H3 := hH3 ▸ Kept.push _ _
  have up : Kept s₂.heap H3 := (up12.trans up23).trans up34
  have gD : H3.PlainList Da #[] := ⟨0, up34 _ _ (up23 _ _ (by rw [← hH1, ← hDa]; exact Heap.get?_push_size _ rfl))⟩
  have gC : H3.Ns C fun _ => none := ⟨_, #[], 0, up34 _ _ (by rw [← hH2, ← hCa]; exact Heap.get?_push_size _ rfl), rfl, (by intro e he; simp at he), fun _ => rfl⟩
  have gc : H3.IsCell (C + 1) none := ⟨_, by rw [← hH3, ← hC]; exact Heap.get?_push_size _ rfl, rfl⟩
  have old : ∀ b o, s₂.heap.get? b = some o → b < Da := fun b o g => hDa ▸ Heap.lt_size g
  have hfp' : ∀ b ∈ fp, b < Da := fun b hb => hDa ▸ hfp b hb
  have hwfp : ∀ b ∈ wr, b < Da := fun b hb => hfp' b (W.sub b hb)
  have hcells : (compEnvC scope ((x, C + 1) :: clOf scope env) C env).cells.lookup x = some (C + 1) := by show List.lookup x ((x, C + 1) :: _) = _; simp
  have hkx : (compEnvC scope ((x, C + 1) :: clOf scope env) C env).kindOf x = some .cell := by
    show (relabel scope env).names.lookup x = _
    rw [relabel, look_relabel hx]; rfl
  have st3 : St 0 H3 := W.frame _ _ _ st fun b hb o g => up _ _ g
  suffices loop : ∀ s₃ : Shared, s₃ = { s₂ with heap := H3 } → codeAny (model prog w) A (.compLoop (.ListComp elt [⟨.Name x px, iter, ifs, 0⟩] scope pos) 0 (.ref I) (.ref Da) (compEnvC scope ((x, C + 1) :: clOf scope env) C env))
      (compPost (model prog w) A E none Q (.ref Da) C) s₃ from codeAny_compStart_list (loop _ rfl) (W.self 0 _ _ _ st3 (loop _ rfl))
  rintro s₃ rfl
  refine codeAny_compLoop_tests (fun k s' => ∃ i ys h' tk, s' = { s₂ with heap := h', toks := tk } ∧ k + i = ns.length ∧ St i h' ∧ h'.PlainList Da ys ∧ (∃ m, h'.Ns C m) ∧ (∃ v, h'.IsCell (C + 1) v) ∧
      IntsAre ys.toList (((ns.take i).filter p).map f) ∧ Kept s₁.heap h') ?_ ns.length ⟨0, #[], H3, s₂.toks, rfl, rfl, st3, gD, ⟨_, gC⟩, ⟨_, gc⟩, .nil, (keeps_kept k₂).trans up⟩
  rintro k s' ⟨i, ys, h', tk, rfl, hki, sti, gD, ⟨m, gC⟩, ⟨cv, gc⟩, hys, k1'⟩
  have nD : Da ∉ wr := fun h => absurd (hwfp _ h) (Nat.lt_irrefl _)
  have nC : C ∉ wr := fun h => absurd (hwfp _ h) (Nat.lt_asymm hDC)
  have nc : C + 1 ∉ wr := fun h => absurd (hwfp _ h) (Nat.lt_asymm (Nat.lt_succ_of_lt hDC))
  have oldc : ∀ b o, s₁.heap.get? b = some o → b ≠ C + 1 := fun b o g => Nat.ne_of_lt (Nat.lt_trans (old b o (keeps_kept k₂ _ _ g)) (Nat.lt_succ_of_lt hDC))
  have oldC : ∀ b o, s₁.heap.get? b = some o → b ≠ C := fun b o g => Nat.ne_of_lt (Nat.lt_trans (old b o (keeps_kept k₂ _ _ g)) hDC)
  have oldD : ∀ b o, s₁.heap.get? b = some o → b ≠ Da := fun b o g => Nat.ne_of_lt (old b o (keeps_kept k₂ _ _ g))
  have fpc : ∀ b ∈ fp, b ≠ C + 1 := fun b hb => Nat.ne_of_lt (Nat.lt_trans (hfp' b hb) (Nat.lt_succ_of_lt hDC))
  have fpD : ∀ b ∈ fp, b ≠ Da := fun b hb => Nat.ne_of_lt (hfp' b hb)
  have Dc : Da ≠ C + 1 := Nat.ne_of_lt (Nat.lt_succ_of_lt hDC)
  have DC : Da ≠ C := Nat.ne_of_lt hDC
  have Cc : C ≠ C + 1 := Nat.ne_of_lt (Nat.lt_succ_self _)
  by_cases hlt : i < ns.length
  · refine W.item i _ _ _ hlt sti fun v h2 tk2 hv st2 hk2 => ?_
    obtain ⟨t, e, _⟩ := hP i v hv
    subst e
    have k2' : Kept s₁.heap h2 := fun b o g => hk2 b o (hwr b o g) (k1' b o g)
    have gD2 : h2.PlainList Da ys := gD.at fun o g => hk2 _ o nD g
    have gC2 : h2.Ns C m := gC.at' fun o g => hk2 _ o nC g
    have gc2 : h2.IsCell (C + 1) cv := let ⟨o, g, q⟩ := gc; ⟨o, hk2 _ o nc g, q⟩
    refine wpAny_assign_Name (wpAny_storeName_cell (hk : (compEnvC scope ((x, C + 1) :: clOf scope env) C env).scope.kind = .function) hkx hcells gc2 fun h3 gc3 hs3 => ?_)
    have k3' : Kept s₁.heap h3 := fun b o g => (hs3.2 b (oldc b o g)).trans (k2' b o g)
    have gD3 : h3.PlainList Da ys := gD2.extBut hs3.extBut Dc
    have gC3 : h3.Ns C m := gC2.sameBut hs3 Cc
    have st3' : St (i + 1) h3 := W.frame _ _ _ st2 fun b hb o g => (hs3.2 b (fpc b hb)).trans g
    have V3 : Vals (compEnvC scope ((x, C + 1) :: clOf scope env) C env) h3 ((x, .int (ns.getD i 0)) :: ρ') := fun q hq => by
      rcases List.mem_cons.mp hq with rfl | hq
      · exact ⟨_, .cell hk hxd hkx hcells gc3, ⟨t, rfl⟩⟩
      · obtain ⟨q1, q2, q3⟩ := hpass q hq
        obtain ⟨u, S, R⟩ := V1 q q1
        exact ⟨u, (S.kept k3').passX hk q3 hx q2, R.kept k3'⟩
    refine wpAny_mono ((ht _ (getD_mem hlt) C).run (hb1.trans k3') V3) (fun ok s4 h4 => ?_) fun _ _ e => e
    obtain ⟨rfl, kk4⟩ := h4
    have k4 := keeps_kept kk4
    obtain ⟨h4, tk4, rfl, _⟩ := kk4
    cases hpv : p (ns.getD i 0) with
    | false =>
      simp only [Bool.false_eq_true, if_false]
      refine ⟨k - 1, by omega, i + 1, ys, h4, tk4, rfl, by omega, W.frame _ _ _ st3' fun b _ o g => k4 b o g, gD3.at fun o g => k4 _ o g, ⟨m, gC3.keeps k4⟩, ⟨_, gc3.keeps k4⟩, ?_, k3'.trans k4⟩
      rw [take_filter_map hlt, hpv]; simpa using hys
    | true =>
      simp only [if_true]
      refine he _ (getD_mem hlt) hpv C _ _ _ ((hb1.trans k3').trans k4) (V3.kept k4) fun y s5 kk5 ⟨u, e⟩ => ?_
      subst e
      have k5 := keeps_kept kk5
      obtain ⟨h5, tk5, rfl, _⟩ := kk5
      have k45 := Kept.trans k4 k5
      refine wpAny_list_append_plain (gD3.at fun o g => k45 _ o g) (fun h6 gD6 hs6 => ?_) (by
        have h1 := hys.length
        have h2 := List.length_filter_le p (ns.take i)
        rw [List.length_map] at h1
        rw [List.length_take] at h2
        rw [Array.length_toList] at h1
        rw [sizeLine_eq]; omega)
      refine ⟨k - 1, by omega, i + 1, ys.push (.int (f (ns.getD i 0)) u), h6, tk5, rfl, by omega, W.frame _ _ _ st3' fun b hb o g => (hs6.2 b (fpD b hb)).trans (k45 b o g), gD6,
        ⟨m, (gC3.keeps k45).sameBut hs6 (Ne.symm DC)⟩, ⟨_, (gc3.keeps k45).sameBut hs6 (Ne.symm Dc)⟩, ?_, fun b o g => (hs6.2 b (oldD b o g)).trans (k45 _ _ (k3' b o g))⟩
      rw [take_filter_map hlt, hpv, if_pos rfl, Array.toList_push]
      exact hys.append (.cons _ _ .nil)
  · have hin : i = ns.length := by omega
    subst hin
    refine W.done _ _ _ sti fun h2 tk2 hk2 => ?_
    have gD2 : h2.PlainList Da ys := gD.at fun o g => hk2 _ o nD g
    have gC2 : h2.Ns C m := gC.at' fun o g => hk2 _ o nC g
    refine ⟨m, gC2, fun h3 hs3 => ?_⟩
    have k3 : Kept s₁.heap h3 := fun b o g => (hs3.2 b (oldC b o g)).trans (hk2 b o (hwr b o g) (k1' b o g))
    obtain ⟨ha, ta, ea, _⟩ := id k₂
    refine hQ _ _ (keeps_trans k₁ ⟨h3, tk2, by rw [ea], k3⟩) ⟨?_, Da, ys.toList, rfl, by simpa using gD2.extBut hs3.extBut DC, ?_⟩
    · rw [List.length_map]; exact Nat.le_trans (List.length_filter_le _ _) hz
    · rw [List.take_of_length_le (Nat.le_refl _)] at hys; exact hys
end
section
variable {prog : Program} {w : World} {A : Around} {E : Value → Shared → Prop} {s : Shared}
theorem unpack_two {a : Addr} {v1 v2 : Value} {Q : List Value → Shared → Prop} (hh : A.handled = none) (p : s.heap.PlainList a #[v1, v2]) (hQ : ∀ h', Kept s.heap h' → Q [v1, v2] { s with heap := h' }) :
    wpAny (model prog w) A (unpackItems (.ref a) 2 none) Q E s := by
  obtain ⟨n, g⟩ := id p
  have hne : a ≠ s.heap.objs.size := Nat.ne_of_lt (Heap.lt_size g)
  unfold unpackItems
  refine wpAny_bind ?_
  unfold notIterableAtAll
  refine wpAny_bind (wpAny_specialOf p.isList.typeIs slot_list_iter.lookup ?_)
  refine wpAny_pure ?_
  simp only [Bool.false_eq_true, if_false]
  refine wpAny_bind (wpAny_holding (wpAny_pyIter_list p.isList ?_))
  have hit0 : (s.heap.push { cls := .type "list_iterator", data := .fields #[.ref a, .int 0 0] }).IsListIter s.heap.objs.size a 0 := ⟨_, Heap.get?_push_size _ rfl, rfl, rfl⟩
  refine wpAny_bind (wpAny_holding ?_)
  show wpAny _ _ (pyNext (.ref s.heap.objs.size) >>= _) _ _ _
  refine wpAny_bind (wpAny_pyNext_list_item hit0 (p.isList.push _) (x := v1) rfl fun h1 hit1 hs1 => ?_)
  refine wpAny_bind (wpAny_holding ?_)
  show wpAny _ _ (pyNext (.ref s.heap.objs.size) >>= _) _ _ _
  have p1 : h1.IsList a #[v1, v2] := (p.isList.push _).extBut hs1.extBut hne
  refine wpAny_bind (wpAny_pyNext_list_item hit1 p1 (x := v2) rfl fun h2 hit2 hs2 => ?_)
  have p2 : h2.IsList a #[v1, v2] := p1.extBut hs2.extBut hne
  refine wpAny_bind (wpAny_holding (wpAny_pure (wpAny_pure (wpAny_pure ?_))))
  rw [if_neg (by simp)]
  refine wpAny_bind (wpAny_holding (wpAny_pyNext_list_end hh hit2 p2 rfl fun h3 he3 => ?_))
  simp only [Option.isSome_none, Bool.false_eq_true, if_false]
  refine wpAny_pure (hQ h3 fun b o e => ?_)
  have hb : b ≠ s.heap.objs.size := Nat.ne_of_lt (Heap.lt_size e)
  exact he3 b o hb ((hs2.trans (Heap.SameBut.refl _ _)).extBut b o hb (hs1.extBut b o hb (Heap.get?_push_of_some _ e)))
end

section
variable {prog : Program} {w : World} {A : Around} {h₀ : Heap} {s₀ : Shared} {b μ : Bool} {env : Env} {ρ ρ' ρ'' : List (Str × D)} {K : Fl → List (Str × D) → Prop}

theorem x_unpack {x y : Str} {px py tpos pos : Pos} {k : Nat} {e : Expr} {i : Int} {l : List Int} (ρ' ρ'' : List (Str × D)) (hh : A.handled = none) (he : EvE prog w A h₀ env ρ e (.pair i l)) (hx : Own env x) (hy : Own env y)
    (hρ : Upd x (.int i) ρ ρ') (hρ' : Upd y (.ints l) ρ' ρ'') (kk : K .next ρ'') (hxd : (x == ("__debug__" : Str)) = false := by decide) (hyd : (y == ("__debug__" : Str)) = false := by decide)
    (hs : swapsWithSole [.Tuple [.Name x px, .Name y py] k tpos] e pos.line env = pure false := by rfl) (hw : swappedStores [.Tuple [.Name x px, .Name y py] k tpos] e env = pure none := by rfl) :
    Ex1 prog w A h₀ s₀ b μ env ρ (.Assign [.Tuple [.Name x px, .Name y py] k tpos] e pos) K := fun s Q E F hQ => by
  refine Assign_Tuple (he s _ _ F.hb F.vals fun v s1 k1 r1 => ?_) hs hw
  obtain ⟨a, w1, w2, rfl, p, ⟨t, rfl⟩, r2⟩ := r1
  rw [assign_Tuple]
  refine wpAny_bind (wpAny_standAt ?_)
  unfold unpack
  refine wpAny_bind (wpAny_holding ?_)
  show wpAny _ _ (unpackItems (.ref a) 2 none) _ _ _
  refine unpack_two hh p fun h' kh => ?_
  have F1 := (F.keeps k1).keeps (keeps_mk' kh)
  show wpAny _ _ (holding [w2] (assign (.Name x px) env (.int i t)) >>= fun _ => assignInOrder [assign (.Name y py) env] [w2]) _ _ _
  refine wpAny_bind (wpAny_holding (wpAny_assign_Name (F1.store (d := .int i) hx hxd ⟨t, rfl⟩ hρ fun s2 F2 kd2 => ?_)))
  show wpAny _ _ (holding [] (assign (.Name y py) env w2) >>= fun _ => assignInOrder [] []) _ _ _
  have r2' : Rep s2.heap w2 (.ints l) := Rep.keptD kd2 (Rep.kept (d := .ints l) kh r2)
  refine wpAny_bind (wpAny_holding (wpAny_assign_Name (F2.store (d := .ints l) hy hyd r2' hρ' fun s3 F3 kd3 => ?_)))
  exact wpAny_pure (hQ _ .next _ _ rfl kk F3 (((keeps_kept k1).trans kh).d.x.trans (kd2.trans kd3).x))
end
/-- the defs of the text, by their place -/
def stmtAt (i : Nat) : Stmt := PySem.Challenge.pw_sw0002_01.main.body.getD i (.Pass ⟨0, 0, 0, 0⟩)
def bodyOf : Stmt → List Stmt
  | .FunctionDef _ _ body _ _ _ _ _ _ _ => body
  | _ => []
def scopeOf : Stmt → Scope
  | .FunctionDef _ _ _ _ _ _ scope _ _ _ => scope
  | _ => { kind := .function, names := [], isGenerator := false, isCoroutine := false, more := [] }
def paramsOf : Stmt → Arguments
  | .FunctionDef _ args _ _ _ _ _ _ _ _ => args
  | _ => ⟨[], [], none, [], [], none, []⟩
def nameOf : Stmt → Str
  | .FunctionDef name _ _ _ _ _ _ _ _ _ => name
  | _ => Str.ofString ""
abbrev TextFn (h₀ : Heap) (a : Addr) (i : Nat) : Prop := FnAt h₀ a (nameOf (stmtAt i)) (paramsOf (stmtAt i)) (bodyOf (stmtAt i)) (scopeOf (stmtAt i))
abbrev envAt (i : Nat) (L a : Addr) (cd : Value) : Env := envOfC (nameOf (stmtAt i)) (scopeOf (stmtAt i)) L a cd
abbrev PP := PySem.Challenge.pw_sw0002_01

theorem upd_nil {x : Str} {d : D} {ρ : List (Str × D)} : Upd x d ρ [] := fun _ h => by cases h
theorem upd_here {x : Str} {d : D} {ρ r : List (Str × D)} (h : Upd x d ρ r) : Upd x d ρ ((x, d) :: r) := fun q hq => by
  rcases List.mem_cons.mp hq with e | hq
  · exact .inl e
  · exact h q hq
theorem upd_skip {x y : Str} {d e : D} {ρ r : List (Str × D)} (hm : (y, e) ∈ ρ) (hn : y ≠ x) (h : Upd x d ρ r) : Upd x d ρ ((y, e) :: r) := fun q hq => by
  rcases List.mem_cons.mp hq with e | hq
  · exact .inr (e ▸ ⟨hm, hn⟩)
  · exact h q hq
theorem sub_nil {ρ : List (Str × D)} : ∀ p ∈ ([] : List (Str × D)), p ∈ ρ := fun _ h => by cases h
theorem sub_cons {q : Str × D} {ρ r : List (Str × D)} (hm : q ∈ ρ) (h : ∀ p ∈ r, p ∈ ρ) : ∀ p ∈ q :: r, p ∈ ρ := fun p hp => by
  rcases List.mem_cons.mp hp with e | hp
  · exact e ▸ hm
  · exact h p hp
theorem e_list1 {prog : Program} {w : World} {A : Around} {h₀ : Heap} {env : Env} {ρ : List (Str × D)} {pos : Pos} {e : Expr} {n : Int} (h : EvE prog w A h₀ env ρ e (.int n)) (he : ∀ env, starEach [e] env = (false, eval e env) :: starEach [] env := by intro _; rfl) :
    EvE prog w A h₀ env ρ (.List [e] pos) (.ints [n]) := e_list (ns := [n]) (a_cons h a_nil he) (by simp)
theorem e_list2 {prog : Program} {w : World} {A : Around} {h₀ : Heap} {env : Env} {ρ : List (Str × D)} {pos : Pos} {e e' : Expr} {n n' : Int} (h : EvE prog w A h₀ env ρ e (.int n)) (h' : EvE prog w A h₀ env ρ e' (.int n'))
    (he : ∀ env, starEach [e, e'] env = (false, eval e env) :: starEach [e'] env := by intro _; rfl) (he' : ∀ env, starEach [e'] env = (false, eval e' env) :: starEach [] env := by intro _; rfl) :
    EvE prog w A h₀ env ρ (.List [e, e'] pos) (.ints [n, n']) := e_list (ns := [n, n']) (a_cons h (a_cons h' a_nil he') he) (by simp)
theorem pass_free {env : Env} {scope : Scope} {ρ : List (Str × D)} {x : Str} {d : D} (hm : (x, d) ∈ ρ) (h1 : scope.names.lookup x = some .free) (h2 : env.kindOf x = some .cell ∨ env.kindOf x = some .free) (h3 : (x == ("__classdict__" : Str)) = false) :
    (x, d) ∈ ρ ∧ Pass env scope (x, d).1 ∧ ((x, d).1 == ("__classdict__" : Str)) = false := ⟨hm, .inr ⟨h1, h2⟩, h3⟩
theorem pass_glob {env : Env} {scope : Scope} {ρ : List (Str × D)} {x : Str} {d : D} (hm : (x, d) ∈ ρ) (h1 : scope.names.lookup x = some .globalImplicit) (h2 : env.kindOf x = some .globalImplicit) (h3 : (x == ("__classdict__" : Str)) = false) :
    (x, d) ∈ ρ ∧ Pass env scope (x, d).1 ∧ ((x, d).1 == ("__classdict__" : Str)) = false := ⟨hm, .inl ⟨h1, h2⟩, h3⟩
theorem gk_nil {P : Str × D → Prop} : ∀ p ∈ ([] : List (Str × D)), P p := fun _ h => by cases h
theorem gk_cons {P : Str × D → Prop} {q : Str × D} {r : List (Str × D)} (hm : P q) (h : ∀ p ∈ r, P p) : ∀ p ∈ q :: r, P p := fun p hp => by
  rcases List.mem_cons.mp hp with e | hp
  · exact e ▸ hm
  · exact h p hp
local macro_rules | `(tactic| walk_at "mem") => `(tactic| first | with_reducible exact List.mem_cons_self | (with_reducible refine List.mem_cons_of_mem _ ?_; walk_at "mem"))
local macro_rules | `(tactic| walk_at "ne") => `(tactic| decide +kernel)
local macro_rules | `(tactic| walk_at "upd") => `(tactic| first | exact upd_nil | (with_reducible refine upd_here ?_; walk_at "upd") | (refine upd_skip (by walk_at "mem") (by walk_at "ne") ?_; walk_at "upd"))
local macro_rules | `(tactic| walk_at "sub") => `(tactic| first | exact sub_nil | (refine sub_cons (by walk_at "mem") ?_; walk_at "sub"))
local macro_rules | `(tactic| walk_at "own") => `(tactic| first | (left; rfl) | (right; exact ⟨rfl, rfl⟩))
local macro_rules | `(tactic| walk_at "op") => `(tactic| first
  | with_reducible exact o_add | with_reducible exact o_sub | with_reducible exact o_lt | with_reducible exact o_gt | with_reducible exact o_le | with_reducible exact o_eq | with_reducible exact o_ne | with_reducible exact o_neg
  | with_reducible exact o_in | with_reducible exact c_len | with_reducible exact c_lenset | with_reducible exact c_range1 | with_reducible exact c_range2
  | with_reducible refine c_max2 ?_ | with_reducible refine c_min2 ?_ | with_reducible refine c_sum ?_ | with_reducible refine c_set ?_ | with_reducible refine c_max ?_ ?_ | with_reducible refine c_min ?_ ?_
  | with_reducible refine o_addl ?_ | with_reducible refine o_eql ?_ | with_reducible refine o_nel ?_ | with_reducible refine o_nep ?_ | with_reducible refine o_mod ?_ | with_reducible refine o_mull ?_ ?_ | with_reducible refine o_mul ?_ | with_reducible refine o_floordiv ?_ ?_)
local macro_rules | `(tactic| walk_at "part") => `(tactic| first | exact EvP.none | (apply EvP.some; walk_at "ev"))
local macro_rules | `(tactic| walk_at "args") => `(tactic| first | exact a_nil | (apply a_cons <;> first | walk_at "ev" | walk_at "args" | exact fun _ => rfl | skip))
local macro_rules | `(tactic| walk_at "ev") => `(tactic| first
  | ((with_reducible apply e_name); walk_at "mem") | with_reducible exact e_int | with_reducible exact e_bool | with_reducible exact e_str | with_reducible exact e_list0
  | ((with_reducible apply e_bin) <;> first | walk_at "ev" | walk_at "op" | skip)
  | ((with_reducible apply e_cmp) <;> first | walk_at "ev" | walk_at "op" | exact rfl | skip)
  | ((with_reducible apply e_un) <;> first | walk_at "ev" | walk_at "op" | skip)
  | ((with_reducible apply e_slice) <;> first | walk_at "ev" | walk_at "part" | exact fun _ _ => rfl | skip)
  | ((with_reducible apply e_item) <;> first | walk_at "ev" | (exact fun _ _ => by with_unfolding_all rfl) | skip)
  | (focus ((with_reducible apply e_call_builtin); walk_at "mem"; all_goals first | walk_at "args" | walk_at "op" | exact fun _ => rfl | skip))
  | (focus ((with_reducible apply e_call_type); walk_at "mem"; all_goals first | walk_at "args" | walk_at "op" | exact fun _ => rfl | skip))
  | ((with_reducible apply e_list1) <;> first | walk_at "ev" | exact fun _ => rfl | skip)
  | ((with_reducible apply e_list2) <;> first | walk_at "ev" | exact fun _ => rfl | skip))
local macro_rules | `(tactic| walk_at "ts") => `(tactic| first
  | ((with_reducible apply t_cmp) <;> first | walk_at "ev" | walk_at "op" | exact rfl | skip)
  | ((with_reducible apply t_chain) <;> first | walk_at "ev" | walk_at "op" | exact rfl | skip)
  | ((with_reducible apply t_not) <;> walk_at "ts"))
local macro_rules | `(tactic| walk_at "pass") => `(tactic| first
  | exact gk_nil
  | (refine gk_cons (pass_free (by walk_at "mem") (by rfl) (.inl (by rfl)) (by decide +kernel)) ?_; walk_at "pass")
  | (refine gk_cons (pass_free (by walk_at "mem") (by rfl) (.inr (by rfl)) (by decide +kernel)) ?_; walk_at "pass")
  | (refine gk_cons (pass_glob (by walk_at "mem") (by rfl) (by rfl) (by decide +kernel)) ?_; walk_at "pass"))
section
variable {w : World} {A : Around} {h₀ : Heap}

/-- falls of a table -/
def fallsN (t : List Int) : Nat → Nat → List Int
  | 0, _ => []
  | _ + 1, 0 => []
  | f + 1, n + 1 => ((n + 1 : Nat) - t.getD n 0) :: fallsN t f (t.getD n 0).toNat
def fallsS (t : List Int) : List Int := fallsN t t.length t.length
def GoodT (t : List Int) : Prop := ∀ i, i < t.length → 0 ≤ t.getD i 0 ∧ t.getD i 0 ≤ i

theorem body_falls (s₀ : Shared) (L a : Addr) (cd : Value) (t : List Int) (ht : t.length ≤ 500) (hg : GoodT t) :
    Exs PP w A h₀ s₀ false false (envAt 11 L a cd) [(Str.ofString "table", .ints t), (Str.ofString "len", .fn (.builtin "len"))] (bodyOf (stmtAt 11)) fun fl _ => fl = .ret (.ints (fallsS t)) := by
  refine x_cons (x_assign (d := .ints []) [(Str.ofString "falls", .ints []), (Str.ofString "table", .ints t), (Str.ofString "len", .fn (.builtin "len"))] (by walk_at "ev") (by walk_at "own") (by walk_at "upd") ?_)
  refine x_cons (x_assign (d := .int t.length) [(Str.ofString "size", .int t.length), (Str.ofString "falls", .ints []), (Str.ofString "table", .ints t)] (by walk_at "ev") (by walk_at "own") (by walk_at "upd") ?_)
  refine x_cons (x_while (fun n ρ => ∃ acc f, n ≤ f ∧ n ≤ t.length ∧ acc ++ fallsN t f n = fallsS t ∧ acc.length + n ≤ t.length ∧ ρ = [(Str.ofString "size", .int n), (Str.ofString "falls", .ints acc), (Str.ofString "table", .ints t)]) ?_ t.length
    ⟨[], t.length, Nat.le_refl _, Nat.le_refl _, rfl, by simp, rfl⟩)
  rintro n ρ ⟨acc, f, hf, hn, hacc, hlen, rfl⟩
  refine ⟨decide ((0 : Int) < (n : Int)), by walk_at "ts", fun hc => ?_, fun hc => ?_⟩
  · have hpos : 0 < n := by simpa using hc
    obtain ⟨m, rfl⟩ : ∃ m, n = m + 1 := ⟨n - 1, by omega⟩
    obtain ⟨f', rfl⟩ : ∃ f', f = f' + 1 := ⟨f - 1, by omega⟩
    obtain ⟨g1, g2⟩ := hg m (by omega)
    have hi : idx t (((m + 1 : Nat) : Int) - 1) = t.getD m 0 := by
      unfold idx; rw [if_neg (by omega)]; congr 1; omega
    have hi' : ((t.getD m 0).toNat : Int) = t.getD m 0 := by omega
    refine x_cons (x_assign (d := .ints (acc ++ [((m + 1 : Nat) : Int) - t.getD m 0])) [(Str.ofString "size", .int ((m + 1 : Nat) : Int)), (Str.ofString "falls", .ints (acc ++ [((m + 1 : Nat) : Int) - t.getD m 0])), (Str.ofString "table", .ints t)] ?_ (by walk_at "own") (by walk_at "upd") ?_)
    · rw [← hi]; walk_at "ev"
      · omega
      · simp; omega
    refine x_cons (x_assign (d := .int ((t.getD m 0).toNat : Int)) [(Str.ofString "size", .int ((t.getD m 0).toNat : Int)), (Str.ofString "falls", .ints (acc ++ [((m + 1 : Nat) : Int) - t.getD m 0])), (Str.ofString "table", .ints t)] ?_ (by walk_at "own") (by walk_at "upd") (x_nil ?_))
    · rw [hi', ← hi]; walk_at "ev"
      omega
    refine ⟨(t.getD m 0).toNat, by omega, _, f', by omega, by omega, ?_, by simp only [List.length_append, List.length_cons, List.length_nil]; omega, rfl⟩
    rw [← hacc, fallsN]
    simp
  · have : n = 0 := by simp at hc; omega
    subst this
    refine x_nil ?_
    refine x_cons (x_ret (d := .ints acc) (by walk_at "ev") ?_)
    have : acc = fallsS t := by rw [← hacc]; cases f <;> simp [fallsN]
    rw [this]; rfl
theorem call_falls {a : Addr} {k : Nat} (FA : TextFn h₀ a 11) (B : Base h₀) (R : Room A (k + 1)) (hL : GHas h₀ (Str.ofString "len", .fn (.builtin "len"))) {t : List Int} (ht : t.length ≤ 500) (hg : GoodT t) :
    OpN PP w A h₀ (.ref a) [.ints t] (.ints (fallsS t)) := by
  refine c_fn (ps := [Str.ofString "table"]) (μ := false) [(Str.ofString "len", .fn (.builtin "len"))] [(Str.ofString "table", .ints t), (Str.ofString "len", .fn (.builtin "len"))] FA B R rfl (by decide +kernel) (by decide +kernel) ?_ rfl ?_ ?_ ?_ ?_ rfl rfl
  · intro pm cd doc vals h
    match vals, h with
    | [v], _ => rfl
  · exact gk_cons hL gk_nil
  · exact gk_cons (by decide +kernel) gk_nil
  · intro p hp; simpa using hp
  · intro A' L cd s₀ R' hb
    exact body_falls s₀ L a cd t ht hg
end
section
variable {w : World} {A : Around} {h₀ : Heap}

/-- how many falls a ruler tells -/
def keptN (l : List Int) : Nat → Nat
  | 0 => 0
  | 1 => 1
  | n + 2 => if l.getD n 0 == idx l (-1) then keptN l (n + 1) else n + 2
def ownS (l : List Int) : List Int := sl l none (some (keptN l l.length : Nat)) ++ (if (keptN l l.length : Int) == l.length then [127, 2] else [0, 2])

theorem body_own (s₀ : Shared) (L a : Addr) (cd : Value) (l : List Int) (hl : l.length ≤ 500) (hu : A.units + 100 < cLine) :
    Exs PP w A h₀ s₀ false false (envAt 13 L a cd) [(Str.ofString "falls", .ints l), (Str.ofString "len", .fn (.builtin "len"))] (bodyOf (stmtAt 13)) fun fl _ => fl = .ret (.ints (ownS l)) := by
  refine x_cons (x_assign (d := .int l.length) [(Str.ofString "kept", .int l.length), (Str.ofString "falls", .ints l), (Str.ofString "len", .fn (.builtin "len"))] (by walk_at "ev") (by walk_at "own") (by walk_at "upd") ?_)
  refine x_cons (x_while (fun n ρ => n ≤ l.length ∧ keptN l n = keptN l l.length ∧ ρ = [(Str.ofString "kept", .int n), (Str.ofString "falls", .ints l), (Str.ofString "len", .fn (.builtin "len"))]) ?_ l.length ⟨Nat.le_refl _, rfl, rfl⟩)
  rintro n ρ ⟨hn, hk, rfl⟩
  refine ⟨decide ((1 : Int) < (n : Int)) && (idx l ((n : Int) - 2) == idx l (-1)), t_and (by walk_at "ts") (fun hc => ?_), fun hc => ?_, fun hc => ?_⟩
  · have : 1 < (n : Int) := by simpa using hc
    walk_at "ts"
    · omega
    · omega
  · obtain ⟨h1, h2⟩ := Bool.and_eq_true_iff.mp hc
    have h1 : 1 < (n : Int) := by simpa using h1
    obtain ⟨m, rfl⟩ : ∃ m, n = m + 2 := ⟨n - 2, by omega⟩
    refine x_cons (x_assign (d := .int ((m + 1 : Nat) : Int)) [(Str.ofString "kept", .int ((m + 1 : Nat) : Int)), (Str.ofString "falls", .ints l), (Str.ofString "len", .fn (.builtin "len"))] ?_ (by walk_at "own") (by walk_at "upd") (x_nil ?_))
    · refine EvE.eq (d := .int (((m + 2 : Nat) : Int) - 1)) (by walk_at "ev") ?_
      congr 1; omega
    · refine ⟨m + 1, by omega, by omega, ?_, rfl⟩
      rw [← hk, keptN]
      have : idx l (((m + 2 : Nat) : Int) - 2) = l.getD m 0 := by unfold idx; rw [if_neg (by omega)]; congr 1; omega
      rw [this] at h2
      rw [if_pos h2]
  · refine x_nil (x_cons (x_ret (d := .ints (ownS l)) ?_ rfl))
    have hk' : keptN l l.length = n := by
      rw [← hk]
      match n, hc with
      | 0, _ => rfl
      | 1, _ => rfl
      | m + 2, hc =>
        have h1 : decide ((1 : Int) < ((m + 2 : Nat) : Int)) = true := by simp; omega
        have : idx l (((m + 2 : Nat) : Int) - 2) = l.getD m 0 := by unfold idx; rw [if_neg (by omega)]; congr 1; omega
        rw [h1, Bool.true_and, this] at hc
        rw [keptN, if_neg (by rw [hc]; simp)]
    unfold ownS
    rw [hk']
    refine e_bin (by walk_at "ev") (e_if (c := (n : Int) == l.length) (d := .ints (if (n : Int) == l.length then [127, 2] else [0, 2])) (by walk_at "ts") (fun q => ?_) (fun q => ?_)) (o_addl ?_)
    · rw [q]; simp only [if_true]; walk_at "ev"
    · rw [q]; simp only [Bool.false_eq_true, if_false]; walk_at "ev"
    · have := sl_length l none (some (n : Int))
      split <;> simp only [List.length_cons, List.length_nil] <;> omega
theorem call_own {a : Addr} {k : Nat} (FA : TextFn h₀ a 13) (B : Base h₀) (R : Room A (k + 2)) (hL : GHas h₀ (Str.ofString "len", .fn (.builtin "len"))) {t : List Int} (ht : t.length ≤ 500) :
    OpN PP w A h₀ (.ref a) [.ints t] (.ints (ownS t)) := by
  refine c_fn (ps := [Str.ofString "falls"]) (μ := false) [(Str.ofString "len", .fn (.builtin "len"))] [(Str.ofString "falls", .ints t), (Str.ofString "len", .fn (.builtin "len"))] FA B R rfl (by decide +kernel) (by decide +kernel) ?_ rfl ?_ ?_ ?_ ?_ rfl rfl
  · intro pm cd doc vals h
    match vals, h with
    | [v], _ => rfl
  · exact gk_cons hL gk_nil
  · exact gk_cons (by decide +kernel) gk_nil
  · intro p hp; simpa using hp
  · intro A' L cd s₀ R' hb
    exact body_own s₀ L a cd t ht (by have := R'.units; omega)

/-- the longest lap of a beginning -/
def lapS (text : List Int) (size : Int) : Int := maxL ([0] ++ ((rangeL 1 size).filter fun lap => decide (sl text none (some lap) = sl text (some (size - lap)) (some size))).map fun lap => lap)
def tableS (text : List Int) : List Int := (rangeL 1 (text.length + 1)).map (lapS text)
theorem rangeL_length (a b : Int) : (rangeL a b).length = (b - a).toNat := by simp [rangeL]

theorem body_table (s₀ : Shared) (L a : Addr) (cd : Value) (t : List Int) (ht : t.length ≤ 500) (R : Room A 2) :
    Exs PP w A h₀ s₀ false false (envAt 10 L a cd) [(Str.ofString "text", .ints t), (Str.ofString "range", .fn (.type "range")), (Str.ofString "len", .fn (.builtin "len")), (Str.ofString "max", .fn (.builtin "max"))] (bodyOf (stmtAt 10)) fun fl _ => fl = .ret (.ints (tableS t)) := by
  refine x_cons (x_assign (d := .ints []) [(Str.ofString "told", .ints []), (Str.ofString "text", .ints t), (Str.ofString "range", .fn (.type "range")), (Str.ofString "len", .fn (.builtin "len")), (Str.ofString "max", .fn (.builtin "max"))] (by walk_at "ev") (by walk_at "own") (by walk_at "upd") ?_)
  refine x_cons (x_for (d := .rng 1 (t.length + 1)) (ns := rangeL 1 (t.length + 1)) (by walk_at "ev") (src_rng R.hh (by omega) (by omega)) (by walk_at "own") (.inl rfl)
    (fun i ρ => ρ = [(Str.ofString "told", .ints (((rangeL 1 (t.length + 1)).take i).map (lapS t))), (Str.ofString "text", .ints t), (Str.ofString "range", .fn (.type "range")), (Str.ofString "len", .fn (.builtin "len")), (Str.ofString "max", .fn (.builtin "max"))]) ?_ ?_ rfl)
  · intro i hi ρ hρ
    subst hρ
    have hlen := rangeL_length 1 (t.length + 1)
    have hv := getD_rangeL hi
    refine ⟨[(Str.ofString "size", .int ((rangeL 1 (t.length + 1)).getD i 0)), (Str.ofString "told", .ints (((rangeL 1 (t.length + 1)).take i).map (lapS t))), (Str.ofString "text", .ints t), (Str.ofString "range", .fn (.type "range")), (Str.ofString "len", .fn (.builtin "len")), (Str.ofString "max", .fn (.builtin "max"))], by walk_at "upd", ?_⟩
    generalize hsz : (rangeL 1 (t.length + 1)).getD i 0 = size at *
    have hs1 : 1 ≤ size ∧ size ≤ t.length := by omega
    have hln := rangeL_length 1 size
    refine x_cons (x_assign (d := .ints (((rangeL 1 (t.length + 1)).take (i + 1)).map (lapS t))) [(Str.ofString "told", .ints (((rangeL 1 (t.length + 1)).take (i + 1)).map (lapS t))), (Str.ofString "text", .ints t), (Str.ofString "range", .fn (.type "range")), (Str.ofString "len", .fn (.builtin "len")), (Str.ofString "max", .fn (.builtin "max"))] ?_ (by walk_at "own") (by walk_at "upd") (x_nil rfl))
    have he : ((rangeL 1 (t.length + 1)).take (i + 1)).map (lapS t) = ((rangeL 1 (t.length + 1)).take i).map (lapS t) ++ [lapS t size] := by
      rw [List.take_add_one, List.map_append, ← hsz, List.getD_eq_getElem?_getD, List.getElem?_eq_getElem hi]; rfl
    rw [he]
    refine e_bin (by walk_at "ev") (e_list1 ?_) (o_addl ?_)
    · unfold lapS
      refine e_call_builtin (by walk_at "mem") (a_cons (e_bin (d2 := .ints (((rangeL 1 size).filter fun lap => decide (sl t none (some lap) = sl t (some (size - lap)) (some size))).map fun lap => lap)) (by walk_at "ev") ?_ (o_addl ?_)) a_nil) (c_max R.hh (by simp))
      · refine e_comp (d := .rng 1 size) (by walk_at "ev") (src_rng R.hh (by omega) (by omega)) (by omega) [(Str.ofString "size", .int size), (Str.ofString "text", .ints t)] rfl rfl (by decide +kernel) (by decide +kernel) (by decide +kernel) rfl ?_ ?_ ?_
        · walk_at "pass"
        · intro lap _ C
          refine TsE.eq ?_ rfl
          refine t_cmp (by walk_at "ev") (by walk_at "ev") (o_eql (by have := R.units; omega))
        · intro lap _ _ C
          walk_at "ev"
      · have := List.length_filter_le (fun lap => decide (sl t none (some lap) = sl t (some (size - lap)) (some size))) (rangeL 1 size)
        simp only [List.length_map, List.length_cons, List.length_nil]; omega
    · simp only [List.length_map, List.length_take, List.length_cons, List.length_nil]; omega
  · intro ρ hρ
    subst hρ
    refine x_nil (x_cons (x_ret (d := .ints (tableS t)) ?_ rfl))
    unfold tableS
    rw [List.take_of_length_le (Nat.le_refl _)]
    walk_at "ev"
theorem call_table {a : Addr} {k : Nat} (FA : TextFn h₀ a 10) (B : Base h₀) (R : Room A (k + 3)) (hL : GHas h₀ (Str.ofString "len", .fn (.builtin "len"))) (hR : GHas h₀ (Str.ofString "range", .fn (.type "range"))) (hM : GHas h₀ (Str.ofString "max", .fn (.builtin "max"))) {t : List Int} (ht : t.length ≤ 500) :
    OpN PP w A h₀ (.ref a) [.ints t] (.ints (tableS t)) := by
  refine c_fn (ps := [Str.ofString "text"]) (μ := false) [(Str.ofString "range", .fn (.type "range")), (Str.ofString "len", .fn (.builtin "len")), (Str.ofString "max", .fn (.builtin "max"))] [(Str.ofString "text", .ints t), (Str.ofString "range", .fn (.type "range")), (Str.ofString "len", .fn (.builtin "len")), (Str.ofString "max", .fn (.builtin "max"))] FA B R rfl (by decide +kernel) (by decide +kernel) ?_ rfl ?_ ?_ ?_ ?_ rfl rfl
  · intro pm cd doc vals h
    match vals, h with
    | [v], _ => rfl
  · exact gk_cons hR (gk_cons hL (gk_cons hM gk_nil))
  · exact gk_cons (by decide +kernel) (gk_cons (by decide +kernel) (gk_cons (by decide +kernel) gk_nil))
  · intro p hp; simpa using hp
  · intro A' L cd s₀ R' hb
    exact body_table s₀ L a cd t ht (R'.le (by omega))
end
section
variable {w : World} {A : Around} {h₀ : Heap}

/-- one mark's melting -/
def loS (a b : Int) : Int := if b < a then b else a
def hiS (a b : Int) : Int := if b > a then b else a
def meltS (size : Int) (t : List Int) (m : Int) : List Int :=
  if (decide (m ≤ size) && (idx t (size - m) != idx t size)) = true then
    (t.filter fun _ => true).map fun s => if (s == hiS (idx t (size - m)) (idx t size)) = true then loS (idx t (size - m)) (idx t size) else s
  else t
def grownS (t marks : List Int) : List Int := marks.foldl (meltS t.length) (t ++ [(t.length : Int)])
theorem meltS_length (size : Int) (t : List Int) (m : Int) : (meltS size t m).length = t.length := by
  unfold meltS; split <;> simp
theorem foldl_melt_length (size : Int) : ∀ (ms t : List Int), (ms.foldl (meltS size) t).length = t.length
  | [], _ => rfl
  | m :: ms, t => by rw [List.foldl_cons, foldl_melt_length size ms, meltS_length]

theorem body_grown (s₀ : Shared) (L a : Addr) (cd : Value) (t ms : List Int) (ht : t.length ≤ 500) (hm : ∀ m ∈ ms, 0 ≤ m) (R : Room A 2) :
    Exs PP w A h₀ s₀ false false (envAt 9 L a cd) [(Str.ofString "text", .ints t), (Str.ofString "marks", .ints ms), (Str.ofString "len", .fn (.builtin "len")), (Str.ofString "min", .fn (.builtin "min")), (Str.ofString "max", .fn (.builtin "max"))] (bodyOf (stmtAt 9)) fun fl _ => fl = .ret (.ints (grownS t ms)) := by
  refine x_cons (x_assign (d := .int t.length) [(Str.ofString "size", .int t.length), (Str.ofString "text", .ints t), (Str.ofString "marks", .ints ms), (Str.ofString "min", .fn (.builtin "min")), (Str.ofString "max", .fn (.builtin "max"))] (by walk_at "ev") (by walk_at "own") (by walk_at "upd") ?_)
  refine x_cons (x_assign (d := .ints (t ++ [(t.length : Int)])) [(Str.ofString "text", .ints (t ++ [(t.length : Int)])), (Str.ofString "size", .int t.length), (Str.ofString "marks", .ints ms), (Str.ofString "min", .fn (.builtin "min")), (Str.ofString "max", .fn (.builtin "max"))] ?_ (by walk_at "own") (by walk_at "upd") ?_)
  · walk_at "ev"
    simp only [List.length_cons, List.length_nil]; omega
  refine x_cons (x_for (d := .ints ms) (ns := ms) (by walk_at "ev") (src_ints R.hh) (by walk_at "own") (.inl rfl)
    (fun i ρ => ρ = [(Str.ofString "text", .ints ((ms.take i).foldl (meltS t.length) (t ++ [(t.length : Int)]))), (Str.ofString "size", .int t.length), (Str.ofString "marks", .ints ms), (Str.ofString "min", .fn (.builtin "min")), (Str.ofString "max", .fn (.builtin "max"))]) ?_ ?_ rfl)
  · intro i hi ρ hρ
    subst hρ
    have hlen := foldl_melt_length t.length (ms.take i) (t ++ [(t.length : Int)])
    have hstep : (ms.take (i + 1)).foldl (meltS t.length) (t ++ [(t.length : Int)]) = meltS t.length ((ms.take i).foldl (meltS t.length) (t ++ [(t.length : Int)])) (ms.getD i 0) := by
      rw [List.take_add_one, List.getElem?_eq_getElem hi, List.foldl_append]
      simp [List.getD_eq_getElem?_getD, hi]
    generalize (ms.take i).foldl (meltS t.length) (t ++ [(t.length : Int)]) = T at *
    have hT : T.length = t.length + 1 := by rw [hlen]; simp
    have hmi := hm _ (getD_mem hi)
    generalize ms.getD i 0 = m at *
    refine ⟨[(Str.ofString "mark", .int m), (Str.ofString "text", .ints T), (Str.ofString "size", .int t.length), (Str.ofString "marks", .ints ms), (Str.ofString "min", .fn (.builtin "min")), (Str.ofString "max", .fn (.builtin "max"))], by walk_at "upd", ?_⟩
    refine x_cons (x_if (c := decide (m ≤ t.length) && (idx T (t.length - m) != idx T t.length)) (t_and (by walk_at "ts") (fun hc => ?_)) (fun hc => ?_) (fun hc => ?_))
    · have : m ≤ t.length := by simpa using hc
      walk_at "ts"
      · omega
      · omega
    · have hml : m ≤ t.length := by
        have := (Bool.and_eq_true_iff.mp hc).1
        simpa using this
      refine x_cons (x_assign (d := .int (loS (idx T (t.length - m)) (idx T t.length))) [(Str.ofString "low", .int (loS (idx T (t.length - m)) (idx T t.length))), (Str.ofString "mark", .int m), (Str.ofString "text", .ints T), (Str.ofString "size", .int t.length), (Str.ofString "marks", .ints ms), (Str.ofString "min", .fn (.builtin "min")), (Str.ofString "max", .fn (.builtin "max"))] ?_ (by walk_at "own") (by walk_at "upd") ?_)
      · unfold loS
        walk_at "ev"
        · omega
        · omega
        · exact R.hh
      refine x_cons (x_assign (d := .int (hiS (idx T (t.length - m)) (idx T t.length))) [(Str.ofString "high", .int (hiS (idx T (t.length - m)) (idx T t.length))), (Str.ofString "low", .int (loS (idx T (t.length - m)) (idx T t.length))), (Str.ofString "text", .ints T), (Str.ofString "size", .int t.length), (Str.ofString "marks", .ints ms), (Str.ofString "min", .fn (.builtin "min")), (Str.ofString "max", .fn (.builtin "max"))] ?_ (by walk_at "own") (by walk_at "upd") ?_)
      · unfold hiS
        walk_at "ev"
        · omega
        · omega
        · exact R.hh
      rw [hstep]
      unfold meltS
      rw [if_pos hc]
      refine x_cons (x_assign_comp (d := .ints T) (ns := T) [(Str.ofString "text", .ints ((T.filter fun _ => true).map fun s => if (s == hiS (idx T (t.length - m)) (idx T t.length)) = true then loS (idx T (t.length - m)) (idx T t.length) else s)), (Str.ofString "size", .int t.length), (Str.ofString "marks", .ints ms), (Str.ofString "min", .fn (.builtin "min")), (Str.ofString "max", .fn (.builtin "max"))]
        (by walk_at "ev") (src_ints R.hh) (by omega) [(Str.ofString "low", .int (loS (idx T (t.length - m)) (idx T t.length))), (Str.ofString "high", .int (hiS (idx T (t.length - m)) (idx T t.length)))]
        rfl rfl (by decide +kernel) (by decide +kernel) (by decide +kernel) rfl (by walk_at "pass") ?_ ?_ rfl rfl (by decide +kernel) (by walk_at "upd") (x_nil (x_nil rfl)))
      · intro s _ C; rfl
      · intro s _ _ C
        refine e_if (c := s == hiS (idx T (t.length - m)) (idx T t.length)) (by walk_at "ts") (fun q => ?_) (fun q => ?_)
        · rw [if_pos q]; walk_at "ev"
        · rw [if_neg (by rw [q]; simp)]; walk_at "ev"
    · refine x_nil ?_
      rw [hstep]
      unfold meltS
      rw [if_neg (by rw [hc]; simp)]
      exact x_nil rfl |>.sub (by walk_at "sub")
  · intro ρ hρ
    subst hρ
    rw [List.take_of_length_le (Nat.le_refl _)]
    exact x_nil (x_cons (x_ret (d := .ints (grownS t ms)) (by unfold grownS; walk_at "ev") rfl))
theorem call_grown {a : Addr} {k : Nat} (FA : TextFn h₀ a 9) (B : Base h₀) (R : Room A (k + 3)) (hL : GHas h₀ (Str.ofString "len", .fn (.builtin "len"))) (hN : GHas h₀ (Str.ofString "min", .fn (.builtin "min"))) (hM : GHas h₀ (Str.ofString "max", .fn (.builtin "max"))) {t ms : List Int} (ht : t.length ≤ 500) (hm : ∀ m ∈ ms, 0 ≤ m) :
    OpN PP w A h₀ (.ref a) [.ints t, .ints ms] (.ints (grownS t ms)) := by
  refine c_fn (ps := [Str.ofString "text", Str.ofString "marks"]) (μ := false) [(Str.ofString "len", .fn (.builtin "len")), (Str.ofString "min", .fn (.builtin "min")), (Str.ofString "max", .fn (.builtin "max"))] [(Str.ofString "text", .ints t), (Str.ofString "marks", .ints ms), (Str.ofString "len", .fn (.builtin "len")), (Str.ofString "min", .fn (.builtin "min")), (Str.ofString "max", .fn (.builtin "max"))] FA B R rfl (by decide +kernel) (by decide +kernel) ?_ rfl ?_ ?_ ?_ ?_ rfl rfl
  · intro pm cd doc vals h
    match vals, h with
    | [v, u], _ => rfl
  · exact gk_cons hL (gk_cons hN (gk_cons hM gk_nil))
  · exact gk_cons (by decide +kernel) (gk_cons (by decide +kernel) (gk_cons (by decide +kernel) gk_nil))
  · intro p hp; simpa [or_assoc] using hp
  · intro A' L cd s₀ R' hb
    exact body_grown s₀ L a cd t ms ht hm (R'.le (by omega))

/-- what a ruler's sums tell -/
def toldS (sums : List Int) (step room : Int) : List Int :=
  ((rangeL 1 (room + 8)).filter fun at' => sums.contains at' || (decide (0 < step) && (decide (idx sums (-1) < at') && ((at' - idx sums (-1)).fmod step == 0)))).map fun at' => at'
def dueS (sums : List Int) (step room : Int) : List Int :=
  ((toldS sums step room).filter fun at' => decide ((((toldS sums step room).filter fun other => decide (room < other) && decide (other < at')).map fun other => other) = [])).map fun at' => at'

theorem body_due (s₀ : Shared) (L a : Addr) (cd : Value) (sums : List Int) (step room : Int) (hne : 0 < sums.length) (hr : 0 ≤ room ∧ room ≤ 500) (R : Room A 2) :
    Exs PP w A h₀ s₀ false false (envAt 8 L a cd) [(Str.ofString "sums", .ints sums), (Str.ofString "step", .int step), (Str.ofString "room", .int room), (Str.ofString "range", .fn (.type "range"))] (bodyOf (stmtAt 8)) fun fl _ => fl = .ret (.ints (dueS sums step room)) := by
  have hl := rangeL_length 1 (room + 8)
  refine x_cons (x_assign (d := .ints (toldS sums step room)) [(Str.ofString "told", .ints (toldS sums step room)), (Str.ofString "room", .int room)] ?_ (by walk_at "own") (by walk_at "upd") ?_)
  · unfold toldS
    refine e_comp (d := .rng 1 (room + 8)) (by walk_at "ev") (src_rng R.hh (by omega) (by omega)) (by omega) [(Str.ofString "sums", .ints sums), (Str.ofString "step", .int step)] rfl rfl (by decide +kernel) (by decide +kernel) (by decide +kernel) rfl (by walk_at "pass") ?_ ?_
    · intro x _ C
      refine t_or (by walk_at "ts") (fun _ => t_and3 (by walk_at "ts") (fun _ => ?_) (fun q _ => ?_))
      · walk_at "ts"
        omega
      · have : 0 < step := by simpa using q
        walk_at "ts"
        · omega
        · omega
    · intro x _ _ C
      walk_at "ev"
  · have htl : (toldS sums step room).length ≤ 1000 := by
      unfold toldS
      rw [List.length_map]
      exact Nat.le_trans (List.length_filter_le _ _) (by omega)
    refine x_cons (x_ret (d := .ints (dueS sums step room)) ?_ rfl)
    unfold dueS
    generalize toldS sums step room = told at *
    refine e_comp_cell (d := .ints told) (by walk_at "ev") (src_ints R.hh) htl [(Str.ofString "told", .ints told), (Str.ofString "room", .int room)] rfl rfl (by decide +kernel) (fun _ => rfl) (fun _ => rfl) (by decide +kernel) rfl (by walk_at "pass") ?_ ?_
    · intro x _ C
      refine t_cmp (e_comp (d := .ints told) (by walk_at "ev") (src_ints R.hh) htl [(Str.ofString "at", .int x), (Str.ofString "room", .int room)] rfl rfl (by decide +kernel) (by decide +kernel) (by decide +kernel) rfl (by walk_at "pass") ?_ ?_) (by walk_at "ev") (o_eql (by have := R.units; omega))
      · intro y _ C'
        refine TsE.eq ?_ rfl
        walk_at "ts"
      · intro y _ _ C'
        walk_at "ev"
    · intro x _ _ C
      walk_at "ev"
theorem call_due {a : Addr} {k : Nat} (FA : TextFn h₀ a 8) (B : Base h₀) (R : Room A (k + 3)) (hR : GHas h₀ (Str.ofString "range", .fn (.type "range"))) {sums : List Int} {step room : Int} (hne : 0 < sums.length) (hr : 0 ≤ room ∧ room ≤ 500) :
    OpN PP w A h₀ (.ref a) [.ints sums, .int step, .int room] (.ints (dueS sums step room)) := by
  refine c_fn (ps := [Str.ofString "sums", Str.ofString "step", Str.ofString "room"]) (μ := false) [(Str.ofString "range", .fn (.type "range"))] [(Str.ofString "sums", .ints sums), (Str.ofString "step", .int step), (Str.ofString "room", .int room), (Str.ofString "range", .fn (.type "range"))] FA B R rfl (by decide +kernel) (by decide +kernel) ?_ rfl ?_ ?_ ?_ ?_ rfl rfl
  · intro pm cd doc vals h
    match vals, h with
    | [v, u, z], _ => rfl
  · exact gk_cons hR gk_nil
  · exact gk_cons (by decide +kernel) gk_nil
  · intro p hp; simpa [or_assoc] using hp
  · intro A' L cd s₀ R' hb
    exact body_due s₀ L a cd sums step room hne hr (R'.le (by omega))
end
section
variable {w : World} {A : Around} {h₀ : Heap}

def belowS (size : Int) (marks : List Int) : List Int := (marks.filter fun m => decide (m < size)).map fun m => m
def lessS (step : Int) (below : List Int) : List Int := [step] ++ (below.filter fun m => decide (step < m)).map fun m => m - step
/-- Euclid's way on many marks -/
def euclidN : Nat → Int → List Int → Int × List Int
  | 0, size, _ => (size, [size])
  | f + 1, size, marks =>
    if belowS size marks = [] then (size, [size]) else
    let step := minL (belowS size marks)
    let r := euclidN f (size - step) (lessS step (belowS size marks))
    (r.1 + (if 2 * step - size > 0 then 2 * step - size else 0),
      if (decide (2 * step ≤ size) && (step.fmod (idx r.2 0) == 0)) = true then (List.replicate (step.fdiv (idx r.2 0)).toNat (sl r.2 none (some 1))).flatten ++ r.2 else [step] ++ r.2)

theorem minL_mem : ∀ {l : List Int}, l ≠ [] → minL l ∈ l
  | [a], _ => by simp [minL]
  | a :: b :: r, _ => by
    rw [minL]
    have ih := minL_mem (l := b :: r) (by simp)
    by_cases q : a ≤ minL (b :: r)
    · rw [Int.min_eq_left q]; simp
    · rw [Int.min_eq_right (by omega)]; exact .tail _ ih
theorem below_facts {size : Int} {marks : List Int} (hm : ∀ m ∈ marks, 1 ≤ m) : ∀ m ∈ belowS size marks, 1 ≤ m ∧ m < size := fun m h => by
  unfold belowS at h
  simp at h
  exact ⟨hm m h.1, h.2⟩
theorem sl_one {l : List Int} (h : l ≠ []) : sl l none (some 1) = [idx l 0] := by
  cases l with
  | nil => exact absurd rfl h
  | cons a r =>
    unfold sl idx
    simp [clipAt_nat r.length.succ 1]
    have : clipAt (r.length + 1) 1 = 1 := by have := clipAt_nat (r.length + 1) 1; simp at this; omega
    rw [this]; rfl
theorem rep_sum (k : Nat) (a : Int) : ((List.replicate k [a]).flatten).sum = k * a := by
  induction k with
  | zero => simp
  | succ k ih => rw [List.replicate_succ, List.flatten_cons, List.sum_append, ih]; simp [Int.add_mul, Int.add_comm]
theorem idx_zero_mem {l : List Int} (h : l ≠ []) : idx l 0 ∈ l := by
  cases l with
  | nil => exact absurd rfl h
  | cons a r => simp [idx]

/-- what Euclid's way keeps -/
structure EuOk (size : Int) (r : List Int) : Prop where
  pos : ∀ x ∈ r, 1 ≤ x
  ne : r ≠ []
  sum : r.sum = size
theorem EuOk.length {size : Int} {r : List Int} (h : EuOk size r) : (r.length : Int) ≤ size := by
  rw [← h.sum]
  have := h.pos
  clear h
  induction r with
  | nil => simp
  | cons a r ih =>
    have h1 := this a (by simp)
    have h2 := ih fun x hx => this x (.tail _ hx)
    rw [List.length_cons, List.sum_cons]; omega

theorem less_facts {size : Int} {marks : List Int} (hm : ∀ m ∈ marks, 1 ≤ m) (hne : belowS size marks ≠ []) : (1 ≤ minL (belowS size marks) ∧ minL (belowS size marks) < size) ∧
    (∀ m ∈ lessS (minL (belowS size marks)) (belowS size marks), 1 ≤ m) ∧ (lessS (minL (belowS size marks)) (belowS size marks)).length ≤ marks.length + 1 := by
  have hs := below_facts hm _ (minL_mem hne)
  refine ⟨hs, fun m h => ?_, ?_⟩
  · unfold lessS at h
    rcases List.mem_append.mp h with h | h
    · simp at h; omega
    · simp at h
      obtain ⟨y, ⟨_, h2⟩, rfl⟩ := h
      omega
  · unfold lessS
    have h1 := List.length_filter_le (fun m => decide (minL (belowS size marks) < m)) (belowS size marks)
    have h2 : (belowS size marks).length ≤ marks.length := by unfold belowS; rw [List.length_map]; exact List.length_filter_le _ _
    simp only [List.length_append, List.length_map, List.length_cons, List.length_nil]; omega

theorem euclid_ok : ∀ (f : Nat) (size : Int) (marks : List Int), size ≤ f → 1 ≤ size → (∀ m ∈ marks, 1 ≤ m) → EuOk size (euclidN f size marks).2
  | 0, size, marks, h, h1, _ => by omega
  | f + 1, size, marks, h, h1, hm => by
    unfold euclidN
    by_cases hb : belowS size marks = []
    · rw [if_pos hb]
      exact ⟨by simp; omega, by simp, by simp⟩
    · rw [if_neg hb]
      dsimp only
      obtain ⟨hs, hl, _⟩ := less_facts hm hb
      generalize hst : minL (belowS size marks) = step at *
      have ih := euclid_ok f (size - step) (lessS step (belowS size marks)) (by omega) (by omega) hl
      generalize euclidN f (size - step) (lessS step (belowS size marks)) = r at *
      split
      · rename_i hc
        have hz := ih.pos _ (idx_zero_mem ih.ne)
        have hmod : step.fmod (idx r.2 0) = 0 := by have := (Bool.and_eq_true_iff.mp hc).2; simpa using this
        have hdiv : step = (step.fdiv (idx r.2 0)) * idx r.2 0 := by
          have := Int.mul_fdiv_add_fmod step (idx r.2 0)
          rw [hmod] at this
          rw [Int.mul_comm]; omega
        have hq : 0 ≤ step.fdiv (idx r.2 0) := Int.fdiv_nonneg (by omega) (by omega)
        rw [sl_one ih.ne]
        refine ⟨fun x hx => ?_, ?_, ?_⟩
        · rcases List.mem_append.mp hx with hx | hx
          · have : x = idx r.2 0 := by
              simp [List.mem_flatten] at hx
              exact hx.2
            omega
          · exact ih.pos x hx
        · intro e; exact ih.ne (List.append_eq_nil_iff.mp e).2
        · rw [List.sum_append, rep_sum, ih.sum]
          have : ((step.fdiv (idx r.2 0)).toNat : Int) = step.fdiv (idx r.2 0) := by omega
          rw [this, ← hdiv]; omega
      · refine ⟨fun x hx => ?_, by simp, ?_⟩
        · rcases List.mem_append.mp hx with hx | hx
          · simp at hx; omega
          · exact ih.pos x hx
        · rw [List.sum_append, ih.sum]; simp; omega

theorem EuOk.le {size : Int} {r : List Int} (h : EuOk size r) : ∀ x ∈ r, x ≤ size := by
  rw [← h.sum]
  have := h.pos
  clear h
  induction r with
  | nil => intro x hx; cases hx
  | cons a r ih =>
    have h1 := this a (by simp)
    have h2 := ih fun x hx => this x (.tail _ hx)
    have h3 : 0 ≤ r.sum := by
      have h4 : ∀ x ∈ r, 1 ≤ x := fun x hx => this x (.tail _ hx)
      clear h2 ih this
      induction r with
      | nil => simp
      | cons b r ih =>
        have := h4 b (by simp)
        have := ih fun x hx => h4 x (.tail _ hx)
        rw [List.sum_cons]; omega
    intro x hx
    rw [List.sum_cons]
    rcases List.mem_cons.mp hx with rfl | hx
    · omega
    · have := h2 x hx; omega

theorem body_euclid {a : Addr} {f : Nat} (s₀ : Shared) (L : Addr) (cd : Value) (size : Int) (marks : List Int) {o : Obj} {fd : FuncData} (ho : h₀.get? a = some o) (hd : o.data = .func fd)
    (hsz : size ≤ (f + 1 : Nat)) (h1 : 1 ≤ size) (hm : ∀ m ∈ marks, 1 ≤ m) (hl : marks.length + (f + 1) ≤ 500) (R : Room A 3)
    (IH : ∀ (size : Int) (marks : List Int), size ≤ f → 1 ≤ size → (∀ m ∈ marks, 1 ≤ m) → marks.length + f ≤ 500 → OpN PP w A h₀ (.ref a) [.int size, .ints marks] (.pair (euclidN f size marks).1 (euclidN f size marks).2)) :
    Exs PP w A h₀ s₀ false false (envAt 12 L a cd) [(Str.ofString "size", .int size), (Str.ofString "marks", .ints marks), (Str.ofString "min", .fn (.builtin "min")), (Str.ofString "_law_euclid", .fn (.ref a)), (Str.ofString "max", .fn (.builtin "max"))] (bodyOf (stmtAt 12))
      fun fl _ => fl = .ret (.pair (euclidN (f + 1) size marks).1 (euclidN (f + 1) size marks).2) := by
  refine x_cons (x_assign_comp (d := .ints marks) (ns := marks) [(Str.ofString "below", .ints (belowS size marks)), (Str.ofString "size", .int size), (Str.ofString "min", .fn (.builtin "min")), (Str.ofString "_law_euclid", .fn (.ref a)), (Str.ofString "max", .fn (.builtin "max"))]
    (by walk_at "ev") (src_ints R.hh) (by omega) [(Str.ofString "size", .int size)] rfl rfl (by decide +kernel) (by decide +kernel) (by decide +kernel) rfl (by walk_at "pass") ?_ ?_ rfl rfl (by decide +kernel) (by unfold belowS; walk_at "upd") ?_)
  · intro m _ C
    refine TsE.eq ?_ rfl
    walk_at "ts"
  · intro m _ _ C
    walk_at "ev"
  refine x_cons (x_if (c := decide (belowS size marks = [])) ?_ (fun hc => ?_) (fun hc => ?_))
  · walk_at "ts"
    have := R.units; omega
  · have hb : belowS size marks = [] := by simpa using hc
    refine x_cons (x_ret (d := .pair size [size]) (e_pair (a_cons (by walk_at "ev") (a_cons (by walk_at "ev") a_nil))) ?_)
    show _ = _
    unfold euclidN
    rw [if_pos hb]
  · have hb : ¬ belowS size marks = [] := by simpa using hc
    obtain ⟨hs, hlm, hll⟩ := less_facts hm hb
    have hlb : (belowS size marks).length ≤ 500 := by
      unfold belowS; rw [List.length_map]; exact Nat.le_trans (List.length_filter_le _ _) (by omega)
    have he : euclidN (f + 1) size marks = ((euclidN f (size - minL (belowS size marks)) (lessS (minL (belowS size marks)) (belowS size marks))).1 + (if 2 * minL (belowS size marks) - size > 0 then 2 * minL (belowS size marks) - size else 0),
        if (decide (2 * minL (belowS size marks) ≤ size) && ((minL (belowS size marks)).fmod (idx (euclidN f (size - minL (belowS size marks)) (lessS (minL (belowS size marks)) (belowS size marks))).2 0) == 0)) = true then
          (List.replicate ((minL (belowS size marks)).fdiv (idx (euclidN f (size - minL (belowS size marks)) (lessS (minL (belowS size marks)) (belowS size marks))).2 0)).toNat (sl (euclidN f (size - minL (belowS size marks)) (lessS (minL (belowS size marks)) (belowS size marks))).2 none (some 1))).flatten ++ (euclidN f (size - minL (belowS size marks)) (lessS (minL (belowS size marks)) (belowS size marks))).2
        else [minL (belowS size marks)] ++ (euclidN f (size - minL (belowS size marks)) (lessS (minL (belowS size marks)) (belowS size marks))).2) := by
      conv => lhs; unfold euclidN
      rw [if_neg hb]
    rw [he]
    clear he
    generalize hbl : belowS size marks = below at *
    refine x_nil ?_
    refine x_cons (x_assign (d := .int (minL below)) [(Str.ofString "step", .int (minL below)), (Str.ofString "below", .ints below), (Str.ofString "size", .int size), (Str.ofString "_law_euclid", .fn (.ref a)), (Str.ofString "max", .fn (.builtin "max"))] ?_ (by walk_at "own") (by walk_at "upd") ?_)
    · walk_at "ev"
      · exact R.hh
      · exact hb
    generalize minL below = step at *
    have ok := euclid_ok f (size - step) (lessS step below) (by omega) (by omega) hlm
    have hr := IH (size - step) (lessS step below) (by omega) (by omega) hlm (by omega)
    generalize euclidN f (size - step) (lessS step below) = r at *
    refine x_cons (x_unpack (i := r.1) (l := r.2) [(Str.ofString "signs", .int r.1), (Str.ofString "step", .int step), (Str.ofString "size", .int size), (Str.ofString "max", .fn (.builtin "max"))]
      [(Str.ofString "falls", .ints r.2), (Str.ofString "signs", .int r.1), (Str.ofString "step", .int step), (Str.ofString "size", .int size), (Str.ofString "max", .fn (.builtin "max"))] R.hh ?_ (by walk_at "own") (by walk_at "own") (by walk_at "upd") (by walk_at "upd") ?_)
    · refine e_call_fn (by walk_at "mem") ho hd (a_cons (by walk_at "ev") (a_cons ?_ a_nil)) hr
      unfold lessS
      refine e_bin (by walk_at "ev") (e_comp (d := .ints below) (by walk_at "ev") (src_ints R.hh) (by omega) [(Str.ofString "step", .int step)] rfl rfl (by decide +kernel) (by decide +kernel) (by decide +kernel) rfl (by walk_at "pass") ?_ ?_) (o_addl ?_)
      · intro m _ C
        refine TsE.eq ?_ rfl
        walk_at "ts"
      · intro m _ _ C
        walk_at "ev"
      · have := List.length_filter_le (fun m => decide (step < m)) below
        simp only [List.length_map, List.length_cons, List.length_nil]; omega
    have hz := ok.pos _ (idx_zero_mem ok.ne)
    have hzl := ok.le _ (idx_zero_mem ok.ne)
    have hrl := ok.length
    have hpos : 0 < r.2.length := List.length_pos_iff.mpr ok.ne
    refine x_cons (x_assign (d := .int (r.1 + (if 2 * step - size > 0 then 2 * step - size else 0))) [(Str.ofString "signs", .int (r.1 + (if 2 * step - size > 0 then 2 * step - size else 0))), (Str.ofString "falls", .ints r.2), (Str.ofString "step", .int step), (Str.ofString "size", .int size)] ?_ (by walk_at "own") (by walk_at "upd") ?_)
    · walk_at "ev"
      · omega
      · exact R.hh
    refine x_cons (x_if (c := decide (2 * step ≤ size) && (step.fmod (idx r.2 0) == 0)) (t_and ?_ (fun hc => ?_)) (fun hc => ?_) (fun hc => ?_))
    · walk_at "ts"
      omega
    · walk_at "ts"
      · omega
      · omega
    · refine x_cons (x_ret (d := .pair (r.1 + (if 2 * step - size > 0 then 2 * step - size else 0)) ((List.replicate (step.fdiv (idx r.2 0)).toNat (sl r.2 none (some 1))).flatten ++ r.2)) (e_pair (a_cons (by walk_at "ev") (a_cons ?_ a_nil))) ?_)
      · have hq : 0 ≤ step.fdiv (idx r.2 0) := Int.fdiv_nonneg (by omega) (by omega)
        have hq2 : step.fdiv (idx r.2 0) ≤ step := by
          rw [Int.fdiv_eq_ediv_of_nonneg _ (by omega)]
          exact Int.ediv_le_self _ (by omega)
        have hsl := sl_length r.2 none (some 1)
        rw [sl_one ok.ne]
        have e1 : sl r.2 none (some 1) = [idx r.2 0] := sl_one ok.ne
        refine e_bin (e_bin (d1 := .ints [idx r.2 0]) (d2 := .int (step.fdiv (idx r.2 0))) (EvE.eq (by walk_at "ev") (congrArg D.ints e1)) ?_ (o_mull ?_ ?_)) (by walk_at "ev") (o_addl ?_)
        · walk_at "ev"
          · omega
          · omega
          · exact PyProof.noPylong_small (by omega)
        · simp only [List.length_cons, List.length_nil]; omega
        · omega
        · simp only [List.length_flatten, List.map_replicate, List.sum_replicate_nat, List.length_cons, List.length_nil]; omega
      · show _ = _
        rw [if_pos (c := (decide (2 * step ≤ size) && (step.fmod (idx r.2 0) == 0)) = true) hc]
    · refine x_nil (x_cons (x_ret (d := .pair (r.1 + (if 2 * step - size > 0 then 2 * step - size else 0)) ([step] ++ r.2)) (e_pair (a_cons (by walk_at "ev") (a_cons ?_ a_nil))) ?_))
      · walk_at "ev"
        simp only [List.length_cons, List.length_nil]; omega
      · show _ = _
        rw [if_neg (c := (decide (2 * step ≤ size) && (step.fmod (idx r.2 0) == 0)) = true) (by rw [hc]; simp)]

theorem call_euclid {a : Addr} (FA : TextFn h₀ a 12) (B : Base h₀) (hE : GHas h₀ (Str.ofString "_law_euclid", .fn (.ref a))) (hN : GHas h₀ (Str.ofString "min", .fn (.builtin "min"))) (hM : GHas h₀ (Str.ofString "max", .fn (.builtin "max"))) :
    ∀ (f : Nat) {A : Around}, Room A (f + 4) → ∀ (size : Int) (marks : List Int), size ≤ f → 1 ≤ size → (∀ m ∈ marks, 1 ≤ m) → marks.length + f ≤ 500 →
      OpN PP w A h₀ (.ref a) [.int size, .ints marks] (.pair (euclidN f size marks).1 (euclidN f size marks).2)
  | 0, A, R, size, marks, h, h1, _, _ => by omega
  | f + 1, A, R, size, marks, hsz, h1, hm, hl => by
    refine c_fn (k := f + 4) (ps := [Str.ofString "size", Str.ofString "marks"]) (μ := false) [(Str.ofString "min", .fn (.builtin "min")), (Str.ofString "_law_euclid", .fn (.ref a)), (Str.ofString "max", .fn (.builtin "max"))]
      [(Str.ofString "size", .int size), (Str.ofString "marks", .ints marks), (Str.ofString "min", .fn (.builtin "min")), (Str.ofString "_law_euclid", .fn (.ref a)), (Str.ofString "max", .fn (.builtin "max"))] FA B (R.le (by omega)) rfl (by decide +kernel) (by decide +kernel) ?_ rfl ?_ ?_ ?_ ?_ rfl rfl
    · intro pm cd doc vals h
      match vals, h with
      | [v, u], _ => rfl
    · exact gk_cons hN (gk_cons hE (gk_cons hM gk_nil))
    · exact gk_cons (by decide +kernel) (gk_cons (show List.lookup (Str.ofString "_law_euclid") (scopeOf (stmtAt 12)).names = some NameKind.globalImplicit ∧ (Str.ofString "_law_euclid" == Str.ofString "__debug__") = false from ⟨by decide +kernel, by decide +kernel⟩) (gk_cons (by decide +kernel) gk_nil))
    · intro p hp; simpa [or_assoc] using hp
    · intro A' L cd s₀ R' hb
      obtain ⟨o, pm, cd', doc, ho, hd, _⟩ := id FA
      exact body_euclid s₀ L cd size marks ho hd hsz h1 hm hl (R'.le (by omega)) fun size marks q1 q2 q3 q4 => call_euclid FA B hE hN hM f R' size marks q1 q2 q3 q4
end
section
variable {prog : Program} {w : World} {A : Around} {h₀ : Heap} {s₀ : Shared} {b μ : Bool} {env : Env} {ρ ρ' ρ'' : List (Str × D)} {K : Fl → List (Str × D) → Prop}

/-- an expression that makes a list anew -/
def EvN (prog : Program) (w : World) (A : Around) (h₀ : Heap) (env : Env) (ρ : List (Str × D)) (e : Expr) (l : List Int) : Prop :=
  ∀ (s : Shared) (Q : Value → Shared → Prop) (E : Value → Shared → Prop), Kept h₀ s.heap → Vals env s.heap ρ → (∀ a s', Keeps s s' → s.heap.get? a = none → IsInts s'.heap (.ref a) l → Q (.ref a) s') → wpAny (model prog w) A (eval e env) Q E s

theorem none_back {h h' : Heap} {a : Addr} (k : Kept h h') (e : h'.get? a = none) : h.get? a = none := by
  cases q : h.get? a with
  | none => rfl
  | some o => rw [k _ _ q] at e; cases e
theorem get_size_none (h : Heap) : h.get? h.objs.size = none := by
  cases q : h.get? h.objs.size with
  | none => rfl
  | some o => exact absurd (Heap.lt_size q) (Nat.lt_irrefl _)

theorem e_mul_new {l r : Expr} {pos : Pos} {ns : List Int} {x : Int} (h1 : EvE prog w A h₀ env ρ l (.ints ns)) (h2 : EvE prog w A h₀ env ρ r (.int x)) (hz : ns.length * x.toNat ≤ 1000) (hx : -1000 ≤ x ∧ x ≤ 1000) :
    EvN prog w A h₀ env ρ (.BinOp l .Mult r pos) (List.replicate x.toNat ns).flatten := fun s Q E hb V hQ =>
  wpAny_BinOp (h1 s _ _ hb V fun v s1 k1 r1 => h2 s1 _ _ (hb.trans (keeps_kept k1)) (V.kept (keeps_kept k1)) fun u s2 k2 r2 => by
    obtain ⟨z1, a, vs, e1, ⟨n1, g1⟩, i1⟩ := IsInts.keptD (keeps_kept k2).d r1
    obtain ⟨t, e2⟩ := r2
    subst e1 e2
    have hl := i1.length
    have hsz : vs.toArray.size * x.toNat ≤ 1000 := by rw [List.size_toArray, hl]; exact hz
    have hT : s2.TypeIs (.ref a) "list" := ⟨_, g1, rfl⟩
    refine wpAny_binaryOp_repeat_ref (T := "list") (U := "int") (by decide) hT (fun s' => typeIs_int s' x t) noFill_list_mul F.fills_int_mul F.slot_int_rmul repeat_list F.slot_int_index.lookup
      (call_meets F.slot_int_rmul (typeIs_int s2 x t) F.entry_int_rmul (F.args_int_rmul_2 _ _) (int___rmul___int_list x t a vs.toArray n1)
        ⟨g1, rfl, hT, call_meets F.slot_list_mul hT F.entry_list_mul (F.args_list_mul_2 _ _)
          (AutoListH.list___mul___list_int_3 a vs.toArray n1 x t (by simp [Builtin.List.listFitsIndex]; omega) (by omega) (by simp [Builtin.List.listTooLong, sizeLine]; simp at hsz; omega)) ⟨g1, ?_⟩⟩)
    refine hQ _ _ (keeps_trans (keeps_trans k1 k2) (keeps_push _ _)) (none_back (keeps_kept (keeps_trans k1 k2)) (get_size_none _)) ⟨?_, _, (List.replicate x.toNat vs).flatten, rfl, ⟨0, ?_⟩, ints_rep i1 _⟩
    · simp only [List.length_flatten, List.map_replicate, List.sum_replicate_nat]; rw [Nat.mul_comm]; exact hz
    · rw [Heap.get?_push_size _ rfl]
      have : (List.foldl (fun x1 x2 => x1 ++ x2) #[] (List.replicate (if vs.toArray.isEmpty = true then 0 else x.toNat) vs.toArray)) = ((List.replicate x.toNat vs).flatten).toArray := by
        apply Array.ext'
        rw [foldl_rep]
        cases vs with
        | nil => simp
        | cons v r => simp
      rw [this])

theorem x_assign_new {x : Str} {p pos : Pos} {e : Expr} {l : List Int} (ρ' : Addr → List (Str × D)) (he : EvN prog w A h₀ env ρ e l) (hx : Own env x) (hρ : ∀ a, Upd x (.mut s₀.heap a l) ρ (ρ' a))
    (k : ∀ a, K .next (ρ' a)) (hxd : (x == ("__debug__" : Str)) = false := by decide) (hs : swapsWith e (some (.Name x p)) pos.line env = pure false := by rfl) :
    Ex1 prog w A h₀ s₀ b μ env ρ (.Assign [.Name x p] e pos) K := fun s Q E F hQ =>
  wpAny_Assign_Name (he s _ _ F.hb F.vals fun a s1 k1 hn r1 => (F.keeps k1).store (d := .mut s₀.heap a l) hx hxd ⟨rfl, none_back F.kb.kept hn, r1⟩ (hρ a) fun s' F' kd => hQ _ .next _ _ rfl (k a) F' ((kd_keeps (s₀ := s₀) (μ := μ) k1).trans kd.x)) hs

theorem EvE.unmut {e : Expr} {g : Heap} {a : Addr} {l : List Int} (h : EvE prog w A h₀ env ρ e (.mut g a l)) : EvE prog w A h₀ env ρ e (.ints l) := fun s Q E hb V hQ =>
  h s Q E hb V fun v s' k r => hQ v s' k r.2.2
theorem EvE.ofFn {e : Expr} {v : Value} {l : List Int} (hv : IsInts h₀ v l) (h : EvE prog w A h₀ env ρ e (.fn v)) : EvE prog w A h₀ env ρ e (.ints l) := fun s Q E hb V hQ =>
  h s Q E hb V fun v' s' k r => hQ v' s' k (by have r : v' = v := r; subst r; exact IsInts.keptD (hb.trans (keeps_kept k)).d hv)

/-- what no list's turn touches -/
def scalar : D → Bool
  | .int _ => true
  | .bool _ => true
  | .str _ => true
  | .fn _ => true
  | _ => false
theorem Rep.scalar {h h' : Heap} {v : Value} : ∀ {d : D}, scalar d = true → Rep h v d → Rep h' v d
  | .int _, _, x => x
  | .bool _, _, x => x
  | .str _, _, x => x
  | .fn _, _, x => x
  | .ints _, e, _ => by cases e
  | .argl _, e, _ => by cases e
  | .rng _ _, e, _ => by cases e
  | .pair _ _, e, _ => by cases e
  | .intss _, e, _ => by cases e
  | .set _, e, _ => by cases e
  | .mut _ _ _, e, _ => by cases e

def KeptT (h h' : Heap) : Prop := ∀ b o, h.get? b = some o → framey o.data = true → h'.get? b = some o
theorem ns_keptT {h h' : Heap} (k : KeptT h h') {a m} (n : h.Ns a m) : h'.Ns a m :=
  let ⟨o, es, ep, x, d, r⟩ := n; ⟨o, es, ep, k _ _ x (by rw [d]; rfl), d, r⟩
theorem cell_keptT {h h' : Heap} (k : KeptT h h') {c v} (n : h.IsCell c v) : h'.IsCell c v :=
  let ⟨o, x, d⟩ := n; ⟨o, k _ _ x (by rw [d]; rfl), d⟩
theorem Sees.keptT {env : Env} {h h' : Heap} {x : Str} {v : Value} (k : KeptT h h') (s : Sees env h x v) : Sees env h' x v := by
  cases s with
  | loc a b c d e => exact .loc a b c (ns_keptT k d) e
  | cell a b c d e => exact .cell a b c d (cell_keptT k e)
  | free a b b' c d e => exact .free a b b' c d (cell_keptT k e)
  | glob a b c d e => exact .glob a b c (ns_keptT k d) e
  | blt a b c d e f g => exact .blt a b c (ns_keptT k d) e (ns_keptT k f) g

theorem x_setitem {x : Str} {px spos pos : Pos} {i e : Expr} {l : List Int} {a : Addr} {c k : Int} (ρ' : List (Str × D)) (hm : (x, .mut s₀.heap a l) ∈ ρ) (he : EvE prog w A h₀ env ρ e (.int c)) (hi : EvE prog w A h₀ env ρ i (.int k))
    (hk : 0 ≤ k ∧ k < l.length) (hρ : ∀ q ∈ ρ', q = (x, .mut s₀.heap a (l.set k.toNat c)) ∨ (q ∈ ρ ∧ scalar q.2 = true)) (kk : K .next ρ')
    (hs : swapsWith e (some (.Subscript (.Name x px) i spos)) pos.line env = pure false := by rfl) :
    Ex1 prog w A h₀ s₀ b true env ρ (.Assign [.Subscript (.Name x px) i spos] e pos) K := fun s Q E F hQ => by
  refine wpAny_Assign_Subscript (he s _ _ F.hb F.vals fun v s1 k1 r1 => ?_) hs
  have F1 := F.keeps k1
  obtain ⟨u, S, R⟩ := F1.vals _ hm
  refine S.name (hi s1 _ _ F1.hb F1.vals fun iv s2 k2 r2 => ?_)
  have F2 := F1.keeps k2
  obtain ⟨hu, hn, hI⟩ := Rep.kept (d := .mut s₀.heap a l) (keeps_kept k2) R
  subst hu
  obtain ⟨z, a', vs, ea, ⟨n, g⟩, j⟩ := hI
  cases ea
  obtain ⟨t1, rfl⟩ := r1
  obtain ⟨t2, rfl⟩ := r2
  have hl := j.length
  refine ki_setAt (n := n) g hk.1 (by omega) (by rw [List.size_toArray]; omega) ?_
  have sb := Heap.SameBut.update s2.heap a (Obj.mapSeq (·.setIfInBounds k.toNat (.int c t1)))
  have gn := IsL.update (n := n) g (·.setIfInBounds k.toNat (.int c t1))
  generalize s2.heap.update a (Obj.mapSeq (·.setIfInBounds k.toNat (.int c t1))) = h' at *
  have kT : KeptT s2.heap h' := fun q o e f => (sb.2 q (fun r => by rw [r, g] at e; cases e; cases f)).trans e
  have hI' : IsInts h' (.ref a) (l.set k.toNat c) := ⟨by rw [List.length_set]; exact z, a, vs.set k.toNat (.int c t1), rfl, ⟨_, by have q := gn; simp only [List.setIfInBounds_toArray] at q; exact q⟩, ints_set j _⟩
  have k12 := keeps_kept (keeps_trans k1 k2)
  refine hQ _ .next ρ' _ rfl kk ?_ ?_
  · obtain ⟨hh, tt, gg, es, k0, eg, ab⟩ := id F2.kb
    refine ⟨F2.base, ⟨h', tt, gg, by rw [es], fun q o e => (sb.2 q (fun r => by rw [r, hn] at e; cases e)).trans (F2.kb.kept q o e), eg, ab⟩, let ⟨m, n⟩ := F2.ns; ⟨m, ns_keptT kT n⟩, F2.newL,
      fun y q hq => ⟨let ⟨v, i⟩ := (F2.cell y q hq).1; ⟨v, cell_keptT kT i⟩, (F2.cell y q hq).2⟩, F2.apart, F2.neG, F2.neB, F2.fn, fun q hq => ?_⟩
    rcases hρ q hq with rfl | ⟨hq', hsc⟩
    · exact ⟨_, (S.kept (keeps_kept k2)).keptT kT, rfl, hn, hI'⟩
    · obtain ⟨v, S', R'⟩ := F2.vals q hq'
      exact ⟨v, S'.keptT kT, R'.scalar hsc⟩
  · intro q o e f m
    refine (sb.2 q (fun r => ?_)).trans (k12 _ _ e)
    rw [r] at e m
    have := k12 _ _ e
    rw [g] at this; cases this
    have := m rfl ⟨_, _, rfl⟩
    rw [hn] at this; cases this
end
section
variable {w : World} {A : Around} {h₀ : Heap}

/-- the overlap table, as the program reckons it -/
def ovFind (t T : List Int) (i : Nat) : Nat → Nat → Int
  | 0, _ => 0
  | f + 1, j => if t.getD i 0 = t.getD j 0 then (j : Int) + 1 else if j = 0 then 0 else ovFind t T i f (T.getD (j - 1) 0).toNat
def ovStep (t T : List Int) (i : Nat) : List Int := T.set i (ovFind t T i i (T.getD (i - 1) 0).toNat)
def ovAt (t : List Int) : Nat → List Int
  | 0 => List.replicate t.length 0
  | k + 1 => ovStep t (ovAt t k) (k + 1)
def ovS (t : List Int) : List Int := ovAt t (t.length - 1)

theorem ovFind_le {t T : List Int} {i : Nat} (hT : ∀ j, 0 ≤ T.getD j 0 ∧ T.getD j 0 ≤ j) : ∀ (f j : Nat), 0 ≤ ovFind t T i f j ∧ ovFind t T i f j ≤ j + 1
  | 0, j => by simp [ovFind]; omega
  | f + 1, j => by
    unfold ovFind
    split
    · omega
    · split
      · omega
      · have h := hT (j - 1)
        have := ovFind_le hT (i := i) (t := t) f (T.getD (j - 1) 0).toNat
        omega
theorem ovAt_length (t : List Int) : ∀ k, (ovAt t k).length = t.length
  | 0 => by simp [ovAt]
  | k + 1 => by simp [ovAt, ovStep, ovAt_length t k]
theorem getD_set_self {T : List Int} {i : Nat} {x : Int} {j : Nat} : (T.set i x).getD j 0 = if i = j ∧ i < T.length then x else T.getD j 0 := by
  simp only [List.getD_eq_getElem?_getD, List.getElem?_set]
  by_cases h : i = j
  · subst h
    by_cases hl : i < T.length
    · simp [hl]
    · simp [hl]
  · simp [h]
theorem ovAt_good (t : List Int) : ∀ k j, 0 ≤ (ovAt t k).getD j 0 ∧ (ovAt t k).getD j 0 ≤ j
  | 0, j => by
    simp only [ovAt, List.getD_eq_getElem?_getD, List.getElem?_replicate]
    split <;> simp
  | k + 1, j => by
    have ih := ovAt_good t k
    rw [ovAt, ovStep, getD_set_self]
    split
    · rename_i h
      have q := ovFind_le (t := t) (i := k + 1) ih (k + 1) ((ovAt t k).getD (k + 1 - 1) 0).toNat
      have := ih (k + 1 - 1)
      omega
    · exact ih j
theorem ovS_good (t : List Int) : GoodT (ovS t) := fun i _ => ovAt_good t _ i
theorem ovS_length (t : List Int) : (ovS t).length = t.length := ovAt_length t _

theorem body_overlap (s₀ : Shared) (L fa : Addr) (cd v : Value) (t : List Int) (ht : t.length ≤ 500) (hv : IsInts h₀ v t) (R : Room A 2) :
    Exs PP w A h₀ s₀ false true (envAt 1 L fa cd) [(Str.ofString "prefix", .fn v), (Str.ofString "range", .fn (.type "range")), (Str.ofString "len", .fn (.builtin "len"))] (bodyOf (stmtAt 1)) fun fl _ => fl = .ret (.ints (ovS t)) := by
  refine x_cons (x_assign_new (l := List.replicate t.length 0) (fun a => [(Str.ofString "table", .mut s₀.heap a (List.replicate t.length 0)), (Str.ofString "prefix", .fn v), (Str.ofString "range", .fn (.type "range")), (Str.ofString "len", .fn (.builtin "len"))]) ?_ (by walk_at "own") (fun a => by walk_at "upd") (fun a => ?_))
  · have e : (List.replicate ((t.length : Int)).toNat [(0 : Int)]).flatten = List.replicate t.length 0 := by simp
    rw [← e]
    refine e_mul_new (ns := [0]) (x := t.length) (by walk_at "ev") (e_call_builtin (by walk_at "mem") (a_cons ((e_name (by walk_at "mem")).ofFn hv) a_nil) c_len) (by simp; omega) (by omega)
  have hrl := rangeL_length 1 t.length
  refine x_cons (x_for (d := .rng 1 t.length) (ns := rangeL 1 t.length) ?_ (src_rng R.hh (by omega) (by omega)) (by walk_at "own") (.inr rfl)
    (fun i ρ => ∃ r, ρ = (Str.ofString "table", .mut s₀.heap a (ovAt t i)) :: (Str.ofString "prefix", .fn v) :: r) ?_ ?_ ⟨_, rfl⟩)
  · refine e_call_type (by walk_at "mem") (a_cons (by walk_at "ev") (a_cons (e_call_builtin (by walk_at "mem") (a_cons ((e_name (by walk_at "mem")).ofFn hv) a_nil) c_len) a_nil)) c_range2
  · rintro i hi ρ ⟨r, rfl⟩
    have hv' := getD_rangeL hi
    have hT := ovAt_good t i
    have hTl := ovAt_length t i
    have hstep : ovAt t (i + 1) = (ovAt t i).set (i + 1) (ovFind t (ovAt t i) (i + 1) (i + 1) ((ovAt t i).getD i 0).toNat) := rfl
    generalize ovAt t i = T at *
    refine ⟨[(Str.ofString "i", .int ((rangeL 1 t.length).getD i 0)), (Str.ofString "table", .mut s₀.heap a T), (Str.ofString "prefix", .fn v)], ?_, ?_⟩
    · refine upd_here (upd_skip ?_ (by walk_at "ne") (upd_skip ?_ (by walk_at "ne") upd_nil))
      · simp
      · simp
    rw [hv']
    have hie : (1 : Int) + (i : Nat) = ((i + 1 : Nat) : Int) := by omega
    rw [hie]
    have hTi := hT i
    have hii : idx T (((i + 1 : Nat) : Int) - 1) = (((T.getD i 0).toNat : Nat) : Int) := by
      unfold idx; rw [if_neg (by omega)]
      have : (((i + 1 : Nat) : Int) - 1).toNat = i := by omega
      rw [this]; omega
    refine x_cons (x_assign (d := .int ((T.getD i 0).toNat : Nat)) [(Str.ofString "idx", .int ((T.getD i 0).toNat : Nat)), (Str.ofString "i", .int ((i + 1 : Nat) : Int)), (Str.ofString "table", .mut s₀.heap a T), (Str.ofString "prefix", .fn v)] ?_ (by walk_at "own") (by walk_at "upd") ?_)
    · rw [← hii]
      refine e_item (EvE.unmut (e_name (by walk_at "mem"))) (by walk_at "ev") (by omega)
    have hpi : ∀ {k : Nat}, idx t (k : Int) = t.getD k 0 := fun {k} => by unfold idx; rw [if_neg (by omega)]; simp
    refine x_cons (x_while (fun n ρ => ∃ f, n < f ∧ n ≤ i ∧ ovFind t T (i + 1) f n = ovFind t T (i + 1) (i + 1) (T.getD i 0).toNat ∧ ρ = [(Str.ofString "idx", .int (n : Nat)), (Str.ofString "i", .int ((i + 1 : Nat) : Int)), (Str.ofString "table", .mut s₀.heap a T), (Str.ofString "prefix", .fn v)]) ?_ (T.getD i 0).toNat
      ⟨i + 1, by omega, by omega, rfl, rfl⟩)
    rintro n ρ ⟨f, hf, hn, hfind, rfl⟩
    obtain ⟨f, rfl⟩ : ∃ g, f = g + 1 := ⟨f - 1, by omega⟩
    refine ⟨t.getD (i + 1) 0 != t.getD n 0, ?_, fun hc => ?_, fun hc => ?_⟩
    · rw [← hpi, ← hpi]
      refine t_cmp (e_item ((e_name (by walk_at "mem")).ofFn hv) (by walk_at "ev") (by omega)) (e_item ((e_name (by walk_at "mem")).ofFn hv) (by walk_at "ev") (by omega)) o_ne
    · have hc : ¬ t.getD (i + 1) 0 = t.getD n 0 := by simpa using hc
      rw [ovFind, if_neg hc] at hfind
      refine x_cons (x_if (c := ((n : Nat) : Int) == 0) (by walk_at "ts") (fun q => ?_) (fun q => ?_))
      · have q : n = 0 := by simpa using q
        rw [if_pos q] at hfind
        refine x_cons (x_setitem (a := a) (l := T) (c := 0) (k := ((i + 1 : Nat) : Int)) [(Str.ofString "table", .mut s₀.heap a (T.set (i + 1) 0)), (Str.ofString "prefix", .fn v)] (by walk_at "mem") (by walk_at "ev") (by walk_at "ev") (by omega) ?_ (x_cons (x_break ?_)))
        · intro q hq
          rcases List.mem_cons.mp hq with rfl | hq
          · exact .inl rfl
          · rcases List.mem_cons.mp hq with rfl | hq
            · exact .inr ⟨by simp, rfl⟩
            · cases hq
        · refine x_nil ⟨[], ?_⟩
          rw [hstep, ← hfind]
      · have q : n ≠ 0 := by simpa using q
        rw [if_neg q] at hfind
        have hTn := hT (n - 1)
        have hin : idx T ((n : Int) - 1) = (((T.getD (n - 1) 0).toNat : Nat) : Int) := by
          unfold idx; rw [if_neg (by omega)]
          have : ((n : Int) - 1).toNat = n - 1 := by omega
          rw [this]; omega
        refine x_nil (x_cons (x_assign (d := .int ((T.getD (n - 1) 0).toNat : Nat)) [(Str.ofString "idx", .int ((T.getD (n - 1) 0).toNat : Nat)), (Str.ofString "i", .int ((i + 1 : Nat) : Int)), (Str.ofString "table", .mut s₀.heap a T), (Str.ofString "prefix", .fn v)] ?_ (by walk_at "own") (by walk_at "upd") (x_nil ?_)))
        · rw [← hin]
          refine e_item (EvE.unmut (e_name (by walk_at "mem"))) (by walk_at "ev") (by omega)
        · exact ⟨(T.getD (n - 1) 0).toNat, by omega, f, by omega, by omega, hfind, rfl⟩
    · have hc : t.getD (i + 1) 0 = t.getD n 0 := by simpa using hc
      rw [ovFind, if_pos hc] at hfind
      refine x_cons (x_setitem (a := a) (l := T) (c := (n : Int) + 1) (k := ((i + 1 : Nat) : Int)) [(Str.ofString "table", .mut s₀.heap a (T.set (i + 1) ((n : Int) + 1))), (Str.ofString "prefix", .fn v)] (by walk_at "mem") (by walk_at "ev") (by walk_at "ev") (by omega) ?_ (x_nil (x_nil ⟨[], ?_⟩)))
      · intro q hq
        rcases List.mem_cons.mp hq with rfl | hq
        · exact .inl rfl
        · rcases List.mem_cons.mp hq with rfl | hq
          · exact .inr ⟨by simp, rfl⟩
          · cases hq
      · rw [hstep, ← hfind]
  · rintro ρ ⟨r, rfl⟩
    refine x_nil (x_cons (x_ret (d := .ints (ovS t)) (EvE.unmut (g := s₀.heap) (a := a) (e_name ?_)) rfl))
    have : (rangeL 1 (t.length : Int)).length = t.length - 1 := by omega
    rw [this]
    exact List.mem_cons_self

theorem FnAt.kept {h h' : Heap} {a : Addr} {name : Str} {params : Arguments} {body : List Stmt} {scope : Scope} (k : Kept h h') (F : FnAt h a name params body scope) : FnAt h' a name params body scope :=
  let ⟨o, pm, cd, doc, g, d, c⟩ := F; ⟨o, pm, cd, doc, k _ _ g, d, c.keeps k⟩
theorem Base.kept {h h' : Heap} (k : Kept h h') (B : Base h) : Base h' := ⟨B.nolimit.keeps k, let ⟨m, n⟩ := B.g; ⟨m, n.keeps k⟩, let ⟨m, n⟩ := B.b; ⟨m, n.keeps k⟩⟩
theorem GHas.kept {h h' : Heap} (k : Kept h h') {p : Str × D} (G : GHas h p) : GHas h' p := by
  obtain ⟨mg, v, n, hm, r⟩ := G
  refine ⟨mg, v, n.keeps k, ?_, r.kept k⟩
  rcases hm with hm | ⟨hm, mb, nb, hb⟩
  · exact .inl hm
  · exact .inr ⟨hm, mb, nb.keeps k, hb⟩

theorem call_overlap {a : Addr} {k : Nat} (FA : TextFn h₀ a 1) (B : Base h₀) (R : Room A (k + 3)) (hL : GHas h₀ (Str.ofString "len", .fn (.builtin "len"))) (hR : GHas h₀ (Str.ofString "range", .fn (.type "range"))) {t : List Int} (ht : t.length ≤ 500) :
    OpN PP w A h₀ (.ref a) [.ints t] (.ints (ovS t)) := fun s vals Q E hb hr hQ => by
  obtain ⟨v, rfl, hv⟩ := hr.one
  have := c_fn (h₀ := s.heap) (prog := PP) (w := w) (A := A) (ps := [Str.ofString "prefix"]) (ds := [.fn v]) (d := .ints (ovS t)) (k := k + 2) (μ := true) [(Str.ofString "range", .fn (.type "range")), (Str.ofString "len", .fn (.builtin "len"))]
    [(Str.ofString "prefix", .fn v), (Str.ofString "range", .fn (.type "range")), (Str.ofString "len", .fn (.builtin "len"))] (FA.kept hb) (B.kept hb) R rfl (by decide +kernel) (by decide +kernel) ?_ rfl ?_ ?_ ?_ ?_ rfl rfl
  · exact this s [v] Q E (Kept.refl _) (.cons rfl .nil) hQ
  · intro pm cd doc vals h
    match vals, h with
    | [v], _ => rfl
  · exact gk_cons (hR.kept hb) (gk_cons (hL.kept hb) gk_nil)
  · exact gk_cons (by decide +kernel) (gk_cons (by decide +kernel) gk_nil)
  · intro p hp; simpa using hp
  · intro A' L cd s₀ R' hb'
    exact body_overlap s₀ L a cd v t ht hv (R'.le (by omega))
end
section
variable {M : Model} {A : Around} {R : GenEnd} {Y : Protocol} {n : Nat} {s₀ : Shared} {c : Code} {fs : List Frame} {s : Shared} {env : Env}
  {K : Flow → Sem Fin} {H : Value → Sem Fin} {gd : Bool → Bool} {lv : List Value → List Value}

theorem seg_If {t : Expr} {body orelse : List Stmt} {pos : Pos}
    (h : wpAny M (A.over c fs) (isTrue t env (eval t env)) (fun b s' => if b = true then Seg M A R Y n s₀ c ((execs body env).wrap K H gd lv) fs s' else Seg M A R Y n s₀ c ((execs orelse env).wrap K H gd lv) fs s') (fun x s' => Seg M A R Y n s₀ c (H x) fs s') s) :
    Seg M A R Y n s₀ c ((exec (.If t body orelse pos) env).wrap K H gd lv) fs s := by
  rw [arm_exec_If]
  refine seg_bind_wrap (wpAny_standAt ?_)
  refine seg_bind_wrap (wpAny_mono h (fun b s' hb => ?_) fun _ _ x => x)
  cases b with
  | true => rw [if_pos rfl] at hb; exact hb
  | false => rw [if_neg Bool.false_ne_true] at hb; exact hb

theorem seg_For {target iter : Expr} {body orelse : List Stmt} {pos : Pos}
    (h : wpAny M (A.over c fs) (eval iter env) (fun xv s₁ => wpAny M (A.over c fs) (pyIter xv) (fun it s₂ => ∀ p, Seg M A R Y n s₀ (.forLoop target it body orelse env) (M.den (.forLoop target it body orelse env))
      (.ret (fun r => ((match r with | .ok f => (.pure f : Sem Flow) | .error e => .raise e).onRaise fun (x : Value) => do
        if (← field x 1) == Value.none then unsupported "frame.own-activation:exception-without-traceback"
        setFlight x env.frame).wrap K H gd lv) none (gd false) (lv []) c p [] :: fs) s₂) (fun x s' => Seg M A R Y n s₀ c (H x) fs s') s₁) (fun x s' => Seg M A R Y n s₀ c (H x) fs s') s)
    (hs : ∀ x, foldedSetIterable iter env x = pure x := by intro _; rfl) :
    Seg M A R Y n s₀ c ((exec (.For target iter body orelse pos) env).wrap K H gd lv) fs s := by
  rw [arm_exec_For]
  refine seg_bind_wrap (wpAny_standAt ?_)
  refine seg_bind_wrap (wpAny_mono h (fun xv s₁ h₁ => ?_) fun _ _ x => x)
  refine seg_bind_wrap (wpAny_of_eq (hs xv) ?_)
  refine seg_bind_wrap (wpAny_standAt ?_)
  refine seg_bind_wrap (wpAny_holding (wpAny_mono h₁ (fun it s₂ h₂ => ?_) fun _ _ x => x))
  exact seg_call h₂
end

section
variable {prog : Program} {w : World} {A : Around} {R : GenEnd} {Y : Protocol} {n : Nat} {s₀ : Shared} {fs : List Frame} {s : Shared} {env : Env}

def forK (target : Expr) (it : Value) (body : List Stmt) (env : Env) : Flow → Sem Fin := fun f => match f with
  | .next | .cont => .pure (.again (.forLoop target it body [] env))
  | .brk => .pure (.done .next)
  | .ret v => .pure (.done (.ret v))
def loopH (env : Env) : Value → Sem Fin := fun e => (do noteFrame e env; theTreesLotGoes e : Sem Unit).wrap (fun _ => .raise e) .raise id id

theorem seg_forLoop {x : Str} {p : Pos} {it : Value} {body : List Stmt}
    (h : wpAny (model prog w) (A.over (.forLoop (.Name x p) it body [] env) fs) (pyNext it) (fun r s' => match r with
      | none => Seg (model prog w) A R Y n s₀ (.block [] env) (.pure (.done .next)) fs s'
      | some v => wpAny (model prog w) (A.over (.forLoop (.Name x p) it body [] env) fs) (assign (.Name x p) env v) (fun _ s'' =>
          Seg (model prog w) A R Y n s₀ (.forLoop (.Name x p) it body [] env) ((execs body env).wrap (forK (.Name x p) it body env) (loopH env) id id) fs s'') (fun _ _ => False) s') (fun _ _ => False) s) :
    Seg (model prog w) A R Y n s₀ (.forLoop (.Name x p) it body [] env) ((model prog w).den (.forLoop (.Name x p) it body [] env)) fs s := by
  show Seg _ A R Y n s₀ _ ((forTurn (.Name x p) it body [] env).onRaise (fun x => do noteFrame x env; theTreesLotGoes x)) fs s
  unfold forTurn
  rw [Sem.onRaise_eq_wrap]
  refine seg_bind_wrap (wpAny_standAt ?_)
  refine seg_bind_wrap (wpAny_onRaise (wpAny_mono h (fun r s' h' => ?_) fun _ _ x => x.elim))
  cases r with
  | none => exact seg_again rfl h'
  | some v =>
    refine seg_bind_wrap (wpAny_of_eq (rfl : letOwnedTupleGo (.Name x p) it v = pure ()) ?_)
    refine seg_bind_wrap (wpAny_mono h' (fun _ s'' h'' => ?_) fun _ _ x => x.elim)
    rw [Sem.bind_eq_wrap', Sem.wrap_wrap]
    rw [Sem.wrap_congr (execs body env) _ _ (K' := forK (.Name x p) it body env) (H' := loopH env)
        (fun f => by cases f <;> rfl)
        (fun e => by show (do noteFrame e env; theTreesLotGoes e : Sem Unit).bind (fun _ => .raise e) = _; rw [Sem.bind_eq_wrap]; rfl)]
    exact h''
end
/-- where the generator stands, and what a pull gives -/
inductive GS where
  | at (j : Nat) | rep (v : Int)
inductive GOut where
  | stop | raise | item (v : Int) (st : GS)
def gnext (l : List Int) : GS → GOut
  | .rep v => .item v (.rep v)
  | .at j => if j < l.length then
      (if l.getD j 0 = 127 then .stop else if l.getD j 0 = 0 then (if j = 0 then .raise else .item (l.getD (j - 1) 0) (.rep (l.getD (j - 1) 0))) else .item (l.getD j 0) (.at (j + 1)))
    else .stop
def gstep (l : List Int) (st : GS) : GS := match gnext l st with
  | .item _ st' => st'
  | _ => st
def stAt (l : List Int) : Nat → GS
  | 0 => .at 0
  | k + 1 => gstep l (stAt l k)

/-- a turn of the generator: its frame's table and its own iterator -/
def GT (hc : Heap) (L : Addr) (h h' : Heap) : Prop := ∀ b o, h.get? b = some o → b ≠ L → ((hc.get? b).isSome = true ∨ ¬ iterish o) → h'.get? b = some o
theorem GT.refl (hc : Heap) (L : Addr) (h : Heap) : GT hc L h h := fun _ _ e _ _ => e
theorem GT.trans {hc : Heap} {L : Addr} {x y z : Heap} (p : GT hc L x y) (q : GT hc L y z) : GT hc L x z := fun b o e n i => q b o (p b o e n i) n i
theorem GT.of {hc : Heap} {L : Addr} {x y : Heap} (p : Kept x y) : GT hc L x y := fun b o e _ _ => p b o e
def Sn (hc : Heap) (L : Addr) (s s' : Shared) : Prop := ∃ h t, s' = { s with heap := h, toks := t } ∧ GT hc L s.heap h
theorem Sn.refl (hc : Heap) (L : Addr) (s : Shared) : Sn hc L s s := ⟨_, _, rfl, GT.refl _ _ _⟩
theorem Sn.step {hc : Heap} {L : Addr} {s₀ s : Shared} (x : Sn hc L s₀ s) {h : Heap} {t : Nat} (k : GT hc L s.heap h) : Sn hc L s₀ { s with heap := h, toks := t } := by
  obtain ⟨h', t', rfl, k'⟩ := x
  exact ⟨h, t, rfl, k'.trans k⟩
theorem Sn.keeps {hc : Heap} {L : Addr} {s₀ s s' : Shared} (x : Sn hc L s₀ s) (k : Keeps s s') : Sn hc L s₀ s' := by
  obtain ⟨h, t, rfl, k⟩ := k
  exact x.step (GT.of k)

def gR (hc : Heap) (L : Addr) (l : List Int) (N : Nat) : GenEnd := fun n s₀ r s => r = .ok (.ret .none) ∧ gnext l (stAt l (N - n)) = .stop ∧ Sn hc L s₀ s
def gY (h₀ hc : Heap) (L : Addr) (l : List Int) (N : Nat) : Protocol := fun m s₀ v s kap => ∃ x st, gnext l (stAt l (N - 1 - m)) = .item x st ∧ (∃ t, v = .int x t) ∧ Sn hc L s₀ s ∧ (∃ f, s.heap.Ns L f) ∧
  (m = 0 ∨ ∀ s'' : Shared, Kept h₀ s''.heap → s''.heap.get? L = s.heap.get? L → KeptD s.heap s''.heap → kap (.send .none) s'')

theorem GHas.has {h₀ h : Heap} {p : Str × D} {env : Env} (G : GHas h₀ p) (k : Kept h₀ h) (hk : env.scope.kind = .function) (hx : env.kindOf p.1 = some .globalImplicit) (hd : (p.1 == ("__debug__" : Str)) = false)
    (hg : env.globals = mainGlobals) (hb : env.builtins = builtinsNs) : Has env h p := by
  obtain ⟨mg, v, n, hm, rv⟩ := G
  refine ⟨v, ?_, rv.kept k⟩
  rcases hm with hm | ⟨hm, mb, nb, hmb⟩
  · exact .glob hk hd hx (hg ▸ n.keeps k) hm
  · exact .blt hk hd hx (hg ▸ n.keeps k) hm (hb ▸ nb.keeps k) hmb

def forT : Stmt → Expr
  | .For t _ _ _ _ => t
  | _ => .Constant .none 0 ⟨0, 0, 0, 0⟩
def forB : Stmt → List Stmt
  | .For _ _ b _ _ => b
  | _ => []
def ifB : Stmt → List Stmt
  | .If _ b _ _ => b
  | _ => []
def whileT : Stmt → Expr
  | .While t _ _ _ => t
  | _ => .Constant .none 0 ⟨0, 0, 0, 0⟩
def whileB : Stmt → List Stmt
  | .While _ b _ _ => b
  | _ => []
def gFor : Stmt := (bodyOf (stmtAt 4)).getD 1 (.Pass ⟨0, 0, 0, 0⟩)
def gWhile : Stmt := (ifB ((forB gFor).getD 1 (.Pass ⟨0, 0, 0, 0⟩))).getD 1 (.Pass ⟨0, 0, 0, 0⟩)

section
variable {w : World} {A : Around} {h₀ hc : Heap} {L a : Addr} {cd : Value} {l : List Int} {N : Nat}

theorem iterish_list {h : Heap} {It G : Addr} {j : Nat} (x : h.IsListIter It G j) : ∃ o, h.get? It = some o ∧ iterish o := by
  obtain ⟨o, e, c, d⟩ := x
  exact ⟨o, e, ⟨_, d⟩, .inl c⟩

/-- while True: yield last_interval -/
theorem seg_gen_while {fs : List Frame} (hfs : splitAtGen fs = none) (hfg : fs.any Frame.guarded = false) (v : Int) :
    ∀ (n k : Nat) (s₀ s : Shared), gnext l (stAt l k) = .item v (.rep v) → k + n + 1 = N → Kept h₀ s.heap → (∃ m t, s.heap.Ns L m ∧ m (Str.ofString "last_interval") = some (.int v t)) → Sn hc L s₀ s →
      Seg (model PP w) A (gR hc L l N) (gY h₀ hc L l N) (n + 1) s₀ (.whileLoop (whileT gWhile) (whileB gWhile) [] (envAt 4 L a cd)) ((model PP w).den (.whileLoop (whileT gWhile) (whileB gWhile) [] (envAt 4 L a cd))) fs s := by
  intro n
  induction n with
  | zero =>
    intro k s₀ s hk hn hb ⟨m, t, hns, hm⟩ hS
    refine seg_whileLoop ((t_plain (h₀ := h₀) (ρ := []) (prog := PP) (w := w) (e_bool (b := true))) s _ _ hb (fun _ h => by cases h) fun s1 k1 => ?_)
    rw [if_pos rfl]
    refine seg_execs_cons (seg_Expr_Yield hfs rfl hfg ((e_name (d := .int v) (ρ := [(Str.ofString "last_interval", .int v)]) (by walk_at "mem")) s1 _ _ (hb.trans (keeps_kept k1)) ?_ fun u s2 k2 r2 => ?_))
    · exact gk_cons ⟨_, .loc rfl (show (Str.ofString "last_interval" == Str.ofString "__debug__") = false by decide +kernel) rfl (hns.keeps (keeps_kept k1)) hm, ⟨t, rfl⟩⟩ gk_nil
    · intro kap hkap
      refine ⟨v, .rep v, ?_, r2, (hS.keeps k1).keeps k2, ⟨_, (hns.keeps (keeps_kept k1)).keeps (keeps_kept k2)⟩, .inl rfl⟩
      have : N - 1 - 0 = k := by omega
      rw [this, hk]
  | succ n ih =>
    intro k s₀ s hk hn hb ⟨m, t, hns, hm⟩ hS
    refine seg_whileLoop ((t_plain (h₀ := h₀) (ρ := []) (prog := PP) (w := w) (e_bool (b := true))) s _ _ hb (fun _ h => by cases h) fun s1 k1 => ?_)
    rw [if_pos rfl]
    refine seg_execs_cons (seg_Expr_Yield hfs rfl hfg ((e_name (d := .int v) (ρ := [(Str.ofString "last_interval", .int v)]) (by walk_at "mem")) s1 _ _ (hb.trans (keeps_kept k1)) ?_ fun u s2 k2 r2 => ?_))
    · exact gk_cons ⟨_, .loc rfl (show (Str.ofString "last_interval" == Str.ofString "__debug__") = false by decide +kernel) rfl (hns.keeps (keeps_kept k1)) hm, ⟨t, rfl⟩⟩ gk_nil
    · intro kap hkap
      have hnx := hk
      refine ⟨v, .rep v, ?_, r2, (hS.keeps k1).keeps k2, ⟨_, (hns.keeps (keeps_kept k1)).keeps (keeps_kept k2)⟩, .inr fun s'' hb'' hL hD => hkap .none s'' ?_⟩
      · have : N - 1 - (n + 1) = k := by omega
        rw [this, hnx]
      refine seg_execs_nil (seg_again rfl (ih (k + 1) s'' s'' ?_ (by omega) hb'' ⟨m, t, ?_, hm⟩ (Sn.refl _ _ _)))
      · show gnext l (gstep l (stAt l k)) = _
        unfold gstep; rw [hnx]; rfl
      · exact (hns.keeps (keeps_kept (keeps_trans k1 k2))).at' fun o e => hL.trans e

/-- the turns of the generator's for -/
theorem seg_gen_for {fs : List Frame} (hfs : splitAtGen fs = none) (hfg : fs.any Frame.guarded = false) {It G : Addr} {vs : List Value} (hh : (A.over (.forLoop (forT gFor) (.ref It) (forB gFor) [] (envAt 4 L a cd)) fs).handled = none)
    (hl0 : 0 < l.length → l.getD 0 0 ≠ 0) (hIt : hc.get? It = none) (hItL : It ≠ L) (hGL : G ≠ L) (hGI : G ≠ It) (hi : IntsAre vs l) (hC : GHas h₀ (Str.ofString "CHAR_MAX", .int 127)) (hL0 : h₀.get? L = none) (hI0 : h₀.get? It = none)
    (hstop : ∀ n s₀ s c f, (f = .next ∨ f = .ret .none) → gnext l (stAt l (N - n)) = .stop → Sn hc L s₀ s → Seg (model PP w) A (gR hc L l N) (gY h₀ hc L l N) n s₀ c (.pure (.done f)) fs s) :
    ∀ (n k : Nat) (s₀ s : Shared), stAt l k = .at k → k + n + 1 = N → Kept h₀ s.heap → s.heap.IsListIter It G k → s.heap.IsList G vs.toArray → (∃ m, s.heap.Ns L m ∧ (0 < k → ∃ t, m (Str.ofString "last_interval") = some (.int (l.getD (k - 1) 0) t))) → Sn hc L s₀ s →
      Seg (model PP w) A (gR hc L l N) (gY h₀ hc L l N) (n + 1) s₀ (.forLoop (forT gFor) (.ref It) (forB gFor) [] (envAt 4 L a cd)) ((model PP w).den (.forLoop (forT gFor) (.ref It) (forB gFor) [] (envAt 4 L a cd))) fs s := by
  intro n
  induction n using Nat.strongRecOn with
  | ind n ih =>
    intro k s₀ s hk hn hb hit hG ⟨m, hns, hm⟩ hS
    have hlen := hi.length
    refine seg_forLoop ?_
    by_cases hlt : k < l.length
    · obtain ⟨t, ht⟩ := ints_get hi hlt
      refine wpAny_pyNext_list_item hit hG (x := .int (l.getD k 0) t) (by rw [List.getElem?_toArray]; exact ht) fun h1 hit1 hs1 => ?_
      have hns1 : h1.Ns L m := hns.sameBut hs1 (Ne.symm hItL)
      refine wpAny_assign_Name (wpAny_storeName_local (env := envAt 4 L a cd) rfl hns1 (fun h2 hns2 hs2 => ?_) rfl)
      have hb1 : Kept h₀ h1 := fun b o e => (hs1.2 b fun q => by rw [q, hI0] at e; cases e).trans (hb b o e)
      have hb2 : Kept h₀ h2 := fun b o e => (hs2.2 b fun q => by rw [q] at e; exact absurd (hL0.symm.trans e) (by simp)).trans (hb1 b o e)
      have hit2 : h2.IsListIter It G (k + 1) := let ⟨o, e, r⟩ := hit1; ⟨o, (hs2.2 It hItL).trans e, r⟩
      have hG1 : h1.IsList G vs.toArray := let ⟨o, e, r⟩ := hG; ⟨o, (hs1.2 G hGI).trans e, r⟩
      have hG2 : h2.IsList G vs.toArray := let ⟨o, e, r⟩ := hG1; ⟨o, (hs2.2 G hGL).trans e, r⟩
      have hS2 : Sn hc L s₀ { s with heap := h2, toks := s.toks + 1 } := hS.step fun b o e n i => by
        have hbI : b ≠ It := fun q => by
          obtain ⟨o', e', q'⟩ := iterish_list hit
          rw [q] at e i
          rw [e'] at e; cases e
          rcases i with i | i
          · rw [hIt] at i; cases i
          · exact i q'
        exact (hs2.2 b n).trans ((hs1.2 b hbI).trans e)
      have V2 : ∀ {h : Heap}, Kept h₀ h → h.Ns L (fun y => if y = Str.ofString "interval" then some (.int (l.getD k 0) t) else m y) → Vals (envAt 4 L a cd) h [(Str.ofString "interval", .int (l.getD k 0)), (Str.ofString "CHAR_MAX", .int 127)] := fun hb hn =>
        gk_cons ⟨_, .loc rfl (show (Str.ofString "interval" == Str.ofString "__debug__") = false by decide +kernel) rfl hn (by simp), ⟨t, rfl⟩⟩ (gk_cons (hC.has hb rfl rfl (show (Str.ofString "CHAR_MAX" == Str.ofString "__debug__") = false by decide +kernel) rfl rfl) gk_nil)
      -- the first if
      refine seg_execs_cons (seg_wrap (wpAny_If ((t_cmp (e_name (d := .int (l.getD k 0)) (ρ := [(Str.ofString "interval", .int (l.getD k 0)), (Str.ofString "CHAR_MAX", .int 127)]) (by walk_at "mem")) (e_name (d := .int 127) (by walk_at "mem")) o_eq) _ _ _ hb2 (V2 hb2 hns2) fun s3 k3 => ?_)))
      have hS3 := hS2.keeps k3
      have hb3 := hb2.trans (keeps_kept k3)
      have hns3 := hns2.keeps (keeps_kept k3)
      have hNn : N - (n + 1) = k := by omega
      have hNm : N - 1 - n = k := by omega
      by_cases c1 : l.getD k 0 = 127
      · rw [show (l.getD k 0 == 127) = true by simpa using c1]
        refine wpAny_execs_cons ?_
        rw [exec_Return_none]
        refine wpAny_bind (wpAny_standAt (wpAny_pure ?_))
        refine hstop _ _ _ _ _ (.inr rfl) ?_ hS3
        rw [hNn, hk, gnext, if_pos hlt, if_pos c1]
      rw [show (l.getD k 0 == 127) = false by simpa using c1]
      refine wpAny_execs_nil ?_
      -- the second if
      refine seg_execs_cons (seg_If ((t_cmp (e_name (d := .int (l.getD k 0)) (ρ := [(Str.ofString "interval", .int (l.getD k 0)), (Str.ofString "CHAR_MAX", .int 127)]) (by walk_at "mem")) (e_int (i := 0)) o_eq) _ _ _ hb3 (V2 hb3 hns3) fun s4 k4 => ?_))
      have hS4 := hS3.keeps k4
      have hb4 := hb3.trans (keeps_kept k4)
      have hns4 := hns3.keeps (keeps_kept k4)
      by_cases c2 : l.getD k 0 = 0
      · rw [show (l.getD k 0 == 0) = true by simpa using c2, if_pos rfl]
        have hk0 : 0 < k := by
          rcases Nat.eq_zero_or_pos k with q | q
          · subst q; exact absurd c2 (hl0 hlt)
          · exact q
        obtain ⟨t', hm'⟩ := hm hk0
        have hlast : (fun y => if y = Str.ofString "interval" then some (Value.int (l.getD k 0) t) else m y) (Str.ofString "last_interval") = some (.int (l.getD (k - 1) 0) t') := by
          show (if Str.ofString "last_interval" = Str.ofString "interval" then _ else _) = _
          rw [if_neg (show ¬ Str.ofString "last_interval" = Str.ofString "interval" by decide +kernel)]; exact hm'
        refine seg_execs_cons (seg_wrap (wpAny_If ((t_cmp (b := false) (e_name (d := .int (l.getD (k - 1) 0)) (ρ := [(Str.ofString "last_interval", .int (l.getD (k - 1) 0))]) (by walk_at "mem")) (d2 := .fn .none) ?_ ?_) s4 _ _ hb4 ?_ fun s5 k5 => ?_)))
        · exact fun s Q E _ _ hQ => Constant_none (hQ _ _ (keeps_refl _) rfl)
        · exact fun s v u Q E ⟨_, e1⟩ e2 hQ => by
            have e2 : u = .none := e2
            subst e1 e2; exact is_none_ne (by intro q; cases q) (hQ _ _ (keeps_refl _) rfl)
        · exact gk_cons ⟨_, .loc rfl (show (Str.ofString "last_interval" == Str.ofString "__debug__") = false by decide +kernel) rfl hns4 hlast, ⟨t', rfl⟩⟩ gk_nil
        refine wpAny_execs_nil ?_
        refine seg_execs_cons (seg_While fun p => seg_gen_while (by simp [splitAtGen, hfs]) (by simp [Frame.guarded, hfg]) (l.getD (k - 1) 0) n k s₀ s5 ?_ hn (hb4.trans (keeps_kept k5)) ⟨_, t', hns4.keeps (keeps_kept k5), hlast⟩ (hS4.keeps k5))
        rw [hk, gnext, if_pos hlt, if_neg c1, if_pos c2, if_neg (by omega)]
      · rw [show (l.getD k 0 == 0) = false by simpa using c2, if_neg Bool.false_ne_true]
        refine seg_execs_nil ?_
        refine seg_execs_cons (seg_Expr_Yield hfs rfl hfg ((e_name (d := .int (l.getD k 0)) (ρ := [(Str.ofString "interval", .int (l.getD k 0)), (Str.ofString "CHAR_MAX", .int 127)]) (by walk_at "mem")) s4 _ _ hb4 (V2 hb4 hns4) fun u s5 k5 r5 => ?_))
        intro kap hkap
        have hnx : gnext l (stAt l k) = .item (l.getD k 0) (.at (k + 1)) := by rw [hk, gnext, if_pos hlt, if_neg c1, if_neg c2]
        refine ⟨_, _, by rw [hNm]; exact hnx, r5, hS4.keeps k5, ⟨_, hns4.keeps (keeps_kept k5)⟩, ?_⟩
        match n, ih, hn with
        | 0, _, _ => exact .inl rfl
        | n + 1, ih, hn =>
          refine .inr fun s'' hb'' hL hD => hkap .none s'' ?_
          have hns5 := hns4.keeps (keeps_kept k5)
          have hns'' := hns5.at' (h' := s''.heap) fun o e => hL.trans e
          refine seg_execs_cons (seg_wrap (wpAny_Assign_Name ((e_name (d := .int (l.getD k 0)) (ρ := [(Str.ofString "interval", .int (l.getD k 0)), (Str.ofString "CHAR_MAX", .int 127)]) (by walk_at "mem")) s'' _ _ hb'' (V2 hb'' hns'') fun v s6 k6 ⟨t6, e6⟩ => ?_) rfl))
          subst e6
          refine wpAny_storeName_local (env := envAt 4 L a cd) rfl (hns''.keeps (keeps_kept k6)) (fun h7 hns7 hs7 => ?_) rfl
          have hb6 := hb''.trans (keeps_kept k6)
          have kk : Kept h2 s5.heap := (keeps_kept k3).trans ((keeps_kept k4).trans (keeps_kept k5))
          have hit6 : s6.heap.IsListIter It G (k + 1) := let ⟨o, e, c, d⟩ := hit2; ⟨o, keeps_kept k6 _ _ (hD _ _ (kk _ _ e) (by rw [d]; rfl)), c, d⟩
          have hG6 : s6.heap.IsList G vs.toArray := let ⟨o, e, c, n, d⟩ := hG2; ⟨o, keeps_kept k6 _ _ (hD _ _ (kk _ _ e) (by rw [d]; rfl)), c, n, d⟩
          refine seg_execs_nil (seg_again rfl (ih n (Nat.lt_succ_self n) (k + 1) s'' _ ?_ (by omega) ?_ ?_ ?_ ⟨_, hns7, fun _ => ⟨t6, by simp⟩⟩ ?_))
          · show gstep l (stAt l k) = _
            unfold gstep; rw [hnx]
          · exact fun b o e => (hs7.2 b fun q => by rw [q] at e; exact absurd (hL0.symm.trans e) (by simp)).trans (hb6 b o e)
          · exact let ⟨o, e, r⟩ := hit6; ⟨o, (hs7.2 It hItL).trans e, r⟩
          · exact let ⟨o, e, r⟩ := hG6; ⟨o, (hs7.2 G hGL).trans e, r⟩
          · exact ((Sn.refl hc L s'').keeps k6).step fun b o e n _ => (hs7.2 b n).trans e
    · refine wpAny_pyNext_list_end hh hit hG (by rw [List.getElem?_toArray]; exact List.getElem?_eq_none (by omega)) fun h1 hs1 => ?_
      refine hstop _ _ _ _ _ (.inl rfl) ?_ (hS.step fun b o e n i => ?_)
      · have : N - (n + 1) = k := by omega
        rw [this, hk, gnext, if_neg hlt]
      · refine hs1 b o (fun q => ?_) e
        obtain ⟨o', e', q'⟩ := iterish_list hit
        rw [q] at e i
        rw [e'] at e; cases e
        rcases i with i | i
        · rw [hIt] at i; cases i
        · exact i q'

/-- the generator's own call, from its start -/
theorem seg_gen_top {G : Addr} {vs : List Value} {m : Str → Option Value} {g : Value} (hh : A.handled = none) (hl0 : 0 < l.length → l.getD 0 0 ≠ 0) (hcL : hc.get? L = none) (hi : IntsAre vs l) (hC : GHas h₀ (Str.ofString "CHAR_MAX", .int 127)) (hL0 : h₀.get? L = none)
    (hN : 0 < N) {s : Shared} (hb : Kept h₀ s.heap) (hcs : ∀ b o, hc.get? b = some o → ∃ o', s.heap.get? b = some o')
    (hns : s.heap.Ns L m) (hm : m (Str.ofString "grouping") = some (.ref G)) (hG : s.heap.IsList G vs.toArray) :
    Seg (model PP w) A (gR hc L l N) (gY h₀ hc L l N) N s (.func (bodyOf (stmtAt 4)) (envAt 4 L a cd)) ((model PP w).den (.func (bodyOf (stmtAt 4)) (envAt 4 L a cd))) [] s := by
  obtain ⟨n, rfl⟩ : ∃ n, N = n + 1 := ⟨N - 1, by omega⟩
  refine seg_func ?_
  refine seg_execs_cons (seg_wrap (wpAny_Assign_Name (Constant_none (wpAny_storeName_local (env := envAt 4 L a cd) rfl hns (fun h1 hns1 hs1 => ?_) rfl)) rfl))
  have hLG : G ≠ L := fun q => by
    obtain ⟨o, e, c, k, d⟩ := hG
    obtain ⟨o', es, ep, e', d', _⟩ := hns
    rw [q, e'] at e; cases e; rw [d'] at d; cases d
  have hb1 : Kept h₀ h1 := fun b o e => (hs1.2 b fun q => by rw [q] at e; exact absurd (hL0.symm.trans e) (by simp)).trans (hb b o e)
  have hG1 : h1.IsList G vs.toArray := let ⟨o, e, r⟩ := hG; ⟨o, (hs1.2 G hLG).trans e, r⟩
  have hg1 : (fun y => if y = Str.ofString "last_interval" then some Value.none else m y) (Str.ofString "grouping") = some (.ref G) := by
    show (if Str.ofString "grouping" = Str.ofString "last_interval" then _ else _) = _
    rw [if_neg (show ¬ Str.ofString "grouping" = Str.ofString "last_interval" by decide +kernel)]; exact hm
  refine seg_execs_cons (seg_For ((e_name (d := .fn (.ref G)) (ρ := [(Str.ofString "grouping", .fn (.ref G))]) (by walk_at "mem")) _ _ _ hb1 ?_ fun v s2 k2 r2 => ?_))
  · exact gk_cons ⟨_, .loc rfl (show (Str.ofString "grouping" == Str.ofString "__debug__") = false by decide +kernel) rfl hns1 hg1, rfl⟩ gk_nil
  have r2 : v = .ref G := r2
  subst r2
  have hG2 : s2.heap.IsList G vs.toArray := let ⟨o, e, r⟩ := hG1; ⟨o, keeps_kept k2 _ _ e, r⟩
  refine wpAny_pyIter_list hG2 fun p => ?_
  have hp : Kept s2.heap (s2.heap.push { cls := .type "list_iterator", data := .fields #[.ref G, .int 0 0] }) := Kept.push _ _
  have fresh : ∀ {h : Heap}, (∀ b o, h.get? b = some o → ∃ o', s2.heap.get? b = some o') → h.get? s2.heap.objs.size = none := fun {h} hx => by
    cases q : h.get? s2.heap.objs.size with
    | none => rfl
    | some o => obtain ⟨o', e⟩ := hx _ _ q; exact absurd (Heap.lt_size e) (Nat.lt_irrefl _)
  have lives : ∀ b o, s.heap.get? b = some o → ∃ o', s2.heap.get? b = some o' := fun b o e => by
    by_cases q : b = L
    · subst q
      obtain ⟨o', es, ep, e', r⟩ := hns1
      exact ⟨o', keeps_kept k2 _ _ e'⟩
    · exact ⟨o, keeps_kept k2 _ _ ((hs1.2 b q).trans e)⟩
  refine seg_gen_for (It := s2.heap.objs.size) (G := G) (vs := vs) rfl rfl ?_ hl0 ?_ ?_ hLG ?_ hi hC hL0 ?_ ?_ n 0 s _ rfl (by omega) ((hb1.trans (keeps_kept k2)).trans hp) ⟨_, Heap.get?_push_size _ rfl, rfl, rfl⟩ (let ⟨o, e, r⟩ := hG2; ⟨o, hp _ _ e, r⟩)
    ⟨_, (hns1.keeps (keeps_kept k2)).keeps hp, fun q => absurd q (Nat.lt_irrefl 0)⟩ ?_
  · exact hh
  · exact fresh fun b o e => let ⟨o', e'⟩ := hcs b o e; lives b o' e'
  · intro q
    obtain ⟨o', es, ep, e', r⟩ := hns1.keeps (keeps_kept k2)
    rw [← q] at e'
    exact absurd (Heap.lt_size e') (Nat.lt_irrefl _)
  · intro q
    obtain ⟨o, e, r⟩ := hG2
    rw [q] at e
    exact absurd (Heap.lt_size e) (Nat.lt_irrefl _)
  · exact fresh fun b o e => ⟨o, hb1.trans (keeps_kept k2) b o e⟩
  · intro n' s₀' s' c' f hf hst hS
    refine seg_leaf (.ok f) ?_
    rcases hf with rfl | rfl <;> exact seg_end (.ok (.ret .none)) ⟨rfl, hst, hS⟩
  · exact (((Sn.refl hc L s).step (h := h1) (t := s.toks + 1) fun b o e n _ => (hs1.2 b n).trans e).keeps k2).keeps (keeps_push _ _)
end
section
variable {prog : Program} {w : World} {A : Around} {E : Value → Shared → Prop} {s : Shared} {h₀ : Heap} {env : Env} {ρ : List (Str × D)}

/-- one pull at a generator, with all that can come of it -/
theorem next_genX {a : Addr} {g n : Nat} {gs : GenState} {R : GenEnd} {Y : Protocol} {Q : Option Value → Shared → Prop} (hh : A.handled = none) (hl : s.heap.NoLimit) (hroom : A.depth < recursionLimit)
    (hg : s.heap.IsGen a g) (hgs : s.gens[g]? = some gs) (hgo : gs.Goes (model prog w) A.in1 R Y n (.send .none) (s.setGen g .running))
    (hY : ∀ v s₁ gs', gs'.bare = true → Y (n - 1) (s.setGen g .running) v s₁ (fun r' s'' => match n with
        | 0 => False
        | m + 1 => gs'.Goes (model prog w) A.in1 R Y m r' s'') → Q (some v) (s₁.setGen g gs'))
    (hR : ∀ x s₁, R n (s.setGen g .running) x s₁ → (x = .ok (.ret .none) ∧ ∀ h', Kept s₁.heap h' → Q none { s₁.setGen g .finished with heap := h' }) ∨
      (∃ e, x = .error (.ref e) ∧ s₁.heap.IsGen a g ∧ s₁.TypeIs (.ref e) "ValueError" ∧ E (.ref e) (s₁.setGen g .finished))) :
    wpAny (model prog w) A (pyNext (.ref a)) Q E s := by
  unfold pyNext
  refine wpAny_bind (wpAny_attempt (wpAny_callSpecial?_slot (name := Str.ofString "__next__") hg.typeIs slot_gen_next
    (wpAny_call_entry slot_gen_next hg.typeIs entry_gen_next ?_ (args_gen_next _))))
  show wpAny _ A.in1 (Builtin.Generator.genWake (.ref a) (.send .none)) _ _ s
  unfold Builtin.Generator.genWake
  refine wpAny_bind (wpAny_holding (wpAny_genNumber hg (wpAny_bind (wpAny_genState hgs ?_))))
  cases gs with
  | running => exact hgo.elim
  | finished => exact hgo.elim
  | _ =>
    refine wpAny_bind (wpAny_roomToWake hl hroom ?_)
    show wpAny _ A.in1 (.resume g (.send .none) [] _) _ _ s
    refine wpAny_resumeQ hgs hgo (fun x s₁ hx => ?_) (fun v s₁ gs' hb hv => ?_)
    · rcases hR x s₁ hx with ⟨rfl, hp⟩ | ⟨e, rfl, hgen, hty, hE⟩
      · show wpAny _ A.in1 (newExc (.type "StopIteration") [] >>= _) _ _ _
        refine wpAny_bind ?_
        simp only [newExc, newTuple]
        refine wpAny_bind (wpAny_newObj_type ?_ (by size_fits))
        refine wpAny_bind (m := firstArgMember _ _) (wpAny_of_eq (a := Value.none) (by first | rfl | (simp only [firstArgMember]; rfl)) ?_)
        refine wpAny_newObj_type ?_ (by size_fits)
        simp only [raiseNew]
        refine wpAny_bind (wpAny_bind (wpAny_handled ?_))
        first | rw [show A.in1.handled = none from hh] | rw [hh]
        refine wpAny_throw ?_
        refine wpAny_bind (wpAny_isInstance (T := "StopIteration") (b := true) ⟨_, Heap.get?_push_size _ rfl, rfl⟩ isSubtype_stop ?_)
        exact wpAny_pure (hp _ fun b o hb => Heap.get?_push_of_some _ (Heap.get?_push_of_some _ hb))
      · have hty' : (s₁.setGen g .finished).TypeIs (.ref e) "ValueError" := hty
        have hsub : isSubtype (.type "ValueError") (.type "StopIteration") = pure false := isSubtype_of_subB (by decide +kernel)
        show wpAny _ A.in1 (Builtin.Generator.genLeft (.ref a) (.ref e)) _ _ _
        unfold Builtin.Generator.genLeft Builtin.Generator.madeByALambda
        obtain ⟨o, nm, qn, ho, hcls, hd, hsl⟩ := hgen
        refine wpAny_bind (wpAny_bind (wpAny_load (s := s₁.setGen g .finished) ho ?_))
        rw [hd]
        refine wpAny_pure ?_
        refine wpAny_bind (wpAny_isInstance hty' hsub ?_)
        simp only [Bool.and_false, Bool.false_eq_true, if_false]
        unfold Builtin.Generator.genEscaped
        refine wpAny_bind (wpAny_isInstance hty' hsub ?_)
        simp only [Bool.not_false, if_true]
        refine wpAny_throw ?_
        refine wpAny_bind (wpAny_isInstance hty' hsub ?_)
        simp only [Bool.false_eq_true, if_false]
        exact wpAny_throw hE
    · exact wpAny_pure ⟨v, rfl, wpAny_pure (hY v s₁ gs' hb hv)⟩

theorem eval_call_fn {x : Str} {p pos : Pos} {a : Addr} {o : Obj} {fd : FuncData} {e : Expr} {es : List Expr} {ds : List D} {Q : Value → Shared → Prop} (hf : (x, D.fn (.ref a)) ∈ ρ) (hg : h₀.get? a = some o) (hd : o.data = .func fd)
    (ha : EvA prog w A h₀ env ρ pos (e :: es) ds) (hb : Kept h₀ s.heap) (V : Vals env s.heap ρ) (h : ∀ vs s1, Keeps s s1 → RepAll s1.heap vs ds → wpAny (model prog w) A (call (.ref a) vs) Q E s1)
    (he : ∀ env, starEach (e :: es) env = (false, eval e env) :: starEach es env := by intro _; rfl) :
    wpAny (model prog w) A (eval (.Call (.Name x p) (e :: es) [] pos) env) Q E s := by
  rw [eval_call (by intro _ _ _ h; cases h)]
  obtain ⟨v, S, R⟩ := V _ hf
  have R : v = .ref a := R
  subst R
  refine wpAny_bind (S.name ?_)
  exact callWith_def hd (ha s _ _ hb V fun vs s1 k1 r1 => ⟨(hb.trans (keeps_kept k1)) _ _ hg, h vs s1 k1 r1⟩) (he env)

/-- a call at which generators may come and turn -/
def OpNB (prog : Program) (w : World) (A : Around) (h₀ : Heap) (f : Value) (ds : List D) (d : D) : Prop :=
  ∀ (s : Shared) (vs : List Value) (Q : Value → Shared → Prop) (E : Value → Shared → Prop), Kept h₀ s.heap → RepAll s.heap vs ds → (∀ r s', KB true s s' → Rep s'.heap r d → Q r s') → wpAny (model prog w) A (call f vs) Q E s

theorem c_fnB {a : Addr} {name : Str} {params : Arguments} {body : List Stmt} {scope : Scope} {ps : List Str} {ds : List D} {d : D} {k : Nat} {μ : Bool} (γ ρ : List (Str × D)) (FA : FnAt h₀ a name params body scope) (B : Base h₀) (R : Room A (k + 1))
    (hk : scope.kind = .function) (hnd : ps.Nodup) (hps : (ps.all fun p => (scope.names.lookup p == some .local || scope.names.lookup p == some .cell) && !(p == ("__debug__" : Str))) = true)
    (hbind : ∀ pm cd doc (vals : List Value), vals.length = ds.length → bindArgs (Calls.docDef name params body scope pm cd doc) ⟨vals, []⟩ = pure (ps.zip vals)) (hlen : ps.length = ds.length)
    (hγ : ∀ p ∈ γ, GHas h₀ p) (hγk : ∀ p ∈ γ, scope.names.lookup p.1 = some .globalImplicit ∧ (p.1 == ("__debug__" : Str)) = false) (hρ : ∀ p ∈ ρ, p ∈ ps.zip ds ∨ p ∈ γ)
    (hbody : ∀ A' L cd s₀, Room A' k → Kept h₀ s₀.heap → Exs prog w A' h₀ s₀ true μ (envOfC name scope L a cd) ρ body fun fl _ => fl = .ret d)
    (hco : scope.isCoroutine = false) (hgen : scope.isGenerator = false) : OpNB prog w A h₀ (.ref a) ds d := fun s vals Q E hb hr hQ => by
  obtain ⟨o, pm, cd, doc, ho, hd, hcd⟩ := FA
  have hl := repAll_len hr
  refine wpAny_call (codeAny_call_cells (by have := R.depth; omega) (hb _ _ ho) hd (B.nolimit.keeps hb) (hcd.keeps hb) rfl (hbind pm cd doc vals hl) rfl (fun x hx => ?_) (fun s₁ X => ?_) hco hgen hk)
  · have hx' : x.1 ∈ ps := (List.of_mem_zip (show (x.1, x.2) ∈ ps.zip vals from hx)).1
    have hq := List.all_eq_true.mp hps x.1 hx'
    rw [Bool.and_eq_true] at hq
    rcases Bool.or_eq_true_iff.mp hq.1 with q | q
    · exact .inl (show scope.names.lookup x.1 = some .local by simpa using q)
    · have q' : scope.names.lookup x.1 = some .cell := by simpa using q
      exact .inr ⟨q', cells_isSome (.inl q')⟩
  · have F := fm_start (b := true) (name := name) (a := a) (cd := cd) (L := s.heap.objs.size) B hb hk rfl hnd (by omega) hps hr hγ hγk hρ X
    refine hbody _ _ _ s (R.deeper _) hb s₁ _ _ F fun f fl ρ' s' r q F' _ => ?_
    subst q
    obtain ⟨v, rfl, rv⟩ := r
    exact hQ v s' F'.kb rv
end

section
variable {w : World} {A : Around} {E : Value → Shared → Prop} {s : Shared} {h₀ hc : Heap} {L ga a : Addr} {g : Nat} {l : List Int} {N k : Nat}

/-- the generator's call -/
theorem call_gen {v : Value} {Q : Value → Shared → Prop} (FA : TextFn h₀ a 4) (B : Base h₀) (R : Room A 2) (hb : Kept h₀ s.heap)
    (hQ : ∀ h' t cd m ga, Kept s.heap h' → s.heap.get? ga = none → ga ≠ s.heap.objs.size → h'.IsGen ga s.gens.size → h'.Ns s.heap.objs.size m → m (Str.ofString "grouping") = some v →
      Q (.ref ga) { s with heap := h', toks := t, gens := s.gens.push (.fresh (.func (bodyOf (stmtAt 4)) (envAt 4 s.heap.objs.size a cd))) }) :
    wpAny (model PP w) A (call (.ref a) [v]) Q E s := by
  obtain ⟨o, pm, cd, doc, ho, hd, hcd⟩ := FA
  have hbind : bindArgs (Calls.docDef (nameOf (stmtAt 4)) (paramsOf (stmtAt 4)) (bodyOf (stmtAt 4)) (scopeOf (stmtAt 4)) pm cd doc) ⟨[v], []⟩ = pure [(Str.ofString "grouping", v)] := rfl
  refine wpAny_call (codeAny_call_generator (by have := R.depth; omega) (hb _ _ ho) hd rfl rfl rfl (hcd.keeps hb) ?_)
  rw [hbind]
  refine wpAny_pure (wpAny_newFunctionEnv_cells rfl (fun x hx => .inl ?_) fun env he s' X => ?_)
  · simp at hx; subst hx; rfl
  subst he
  obtain ⟨h', t, e⟩ := X.toInCall.same
  have keep : Kept s.heap s'.heap := X.toInCall.keep
  refine ⟨(B.nolimit.keeps hb).keeps keep, ?_⟩
  have hn := X.toInCall.ns
  subst e
  refine hQ _ _ cd _ h'.objs.size (keep.trans (Kept.push _ _)) (none_back keep (get_size_none _)) ?_ ⟨_, _, _, Heap.get?_push_size _ rfl, rfl, rfl, rfl⟩ (hn.keeps (Kept.push _ _)) (bindL_mem rfl (by simp) (by simp))
  intro q
  obtain ⟨o', es, ep, e', r⟩ := hn
  have := Heap.lt_size e'
  rw [q] at this
  exact absurd this (Nat.lt_irrefl _)

def Lives (h h' : Heap) : Prop := ∀ b o, h.get? b = some o → ∃ o', h'.get? b = some o'
theorem Lives.of {h h' : Heap} (k : Kept h h') : Lives h h' := fun b o e => ⟨o, k b o e⟩
theorem Lives.trans {x y z : Heap} (p : Lives x y) (q : Lives y z) : Lives x z := fun b o e => let ⟨o', e'⟩ := p b o e; q b o' e'

/-- the generator stands at its k-th pull -/
def GenSt (w : World) (A : Around) (h₀ hc : Heap) (L ga : Addr) (g : Nat) (l : List Int) (N k : Nat) (s : Shared) : Prop :=
  s.heap.IsGen ga g ∧ k < N ∧ (∃ f, s.heap.Ns L f) ∧ ∃ gs, s.gens[g]? = some gs ∧ ∀ s'' : Shared, Kept h₀ s''.heap → s''.heap.get? L = s.heap.get? L → KeptD s.heap s''.heap → Lives s.heap s''.heap →
    gs.Goes (model PP w) A.in1 (gR hc L l N) (gY h₀ hc L l N) (N - k) (.send .none) s''
theorem GenSt.step (x : GenSt w A h₀ hc L ga g l N k s) {h : Heap} {t : Nat} (hL : h.get? L = s.heap.get? L) (hD : KeptD s.heap h) (hl : Lives s.heap h) : GenSt w A h₀ hc L ga g l N k { s with heap := h, toks := t } := by
  obtain ⟨⟨o, nm, qn, e, c, d, sl⟩, hk, ⟨f, hf⟩, gs, hgs, hgo⟩ := x
  exact ⟨⟨o, nm, qn, hD _ _ e (by rw [d]; rfl), c, d, sl⟩, hk, ⟨f, hf.at' fun o e => hL.trans e⟩, gs, hgs, fun s'' b1 b2 b3 b4 => hgo s'' b1 (b2.trans hL) (hD.trans b3) (hl.trans b4)⟩

/-- what a pull leaves -/
def Turn (hc : Heap) (L : Addr) (s s' : Shared) : Prop := ∃ h t g, s' = { s with heap := h, toks := t, gens := g } ∧ GT hc L s.heap h ∧ (AllBare s.gens → AllBare g)

theorem bare_setGen {s : Shared} {g : Nat} {x : GenState} (hx : x.bare = true) (h : AllBare s.gens) : AllBare (s.setGen g x).gens := by
  intro y hy
  simp only [Shared.setGen] at hy
  rcases Array.mem_or_eq_of_mem_setIfInBounds hy with q | q
  · exact h y q
  · subst q; exact hx

theorem pull {Q : Option Value → Shared → Prop} (hh : A.handled = none) (hlim : s.heap.NoLimit) (hroom : A.depth < recursionLimit) (hgaL : ga ≠ L) (st : GenSt w A h₀ hc L ga g l N k s) (hb : Kept h₀ s.heap) (hL0 : h₀.get? L = none)
    (hstop : ∀ s', gnext l (stAt l k) = .stop → Turn hc L s s' → Q none s')
    (hitem : ∀ x st' v s', gnext l (stAt l k) = .item x st' → (∃ t, v = .int x t) → Turn hc L s s' → (k + 1 < N → GenSt w A h₀ hc L ga g l N (k + 1) s') → Q (some v) s') :
    wpAny (model PP w) A (pyNext (.ref ga)) Q E s := by
  obtain ⟨hg, hk, hLf, gs, hgs, hgo⟩ := id st
  obtain ⟨n, hn⟩ : ∃ n, N - k = n + 1 := ⟨N - k - 1, by omega⟩
  rw [hn] at hgo
  refine next_genX hh hlim hroom hg hgs (hgo _ hb rfl (KeptD.refl _) (Lives.of (Kept.refl _))) (fun v s₁ gs' hbare hY => ?_) (fun x s₁ hR => ?_)
  · obtain ⟨x, st', hx, ht, ⟨h, t, e, hgt⟩, hLf', hkap⟩ := hY
    have hkk : N - 1 - (n + 1 - 1) = k := by omega
    rw [hkk] at hx
    subst e
    refine hitem x st' v _ hx ht ⟨h, t, _, rfl, hgt, fun hB => bare_setGen (s := { (s.setGen g .running) with heap := h, toks := t }) hbare (bare_setGen (s := s) rfl hB)⟩ fun hk1 => ?_
    refine ⟨?_, hk1, hLf', gs', setGen_self (gs := .running) (setGen_self hgs), fun s'' b1 b2 b3 b4 => ?_⟩
    · obtain ⟨o, nm, qn, e, c, d, sl⟩ := hg
      refine ⟨o, nm, qn, hgt _ _ e hgaL (.inr ?_), c, d, sl⟩
      rintro ⟨_, q | q⟩
      · rw [c] at q; exact absurd (Value.type.inj q) (by decide)
      · rw [c] at q; exact absurd (Value.type.inj q) (by decide)
    · rcases hkap with q | hkap
      · omega
      · obtain ⟨m, rfl⟩ : ∃ m, n = m + 1 := ⟨n - 1, by omega⟩
        have := hkap s'' b1 b2 b3
        have e2 : N - (k + 1) = m + 1 := by omega
        rw [e2]; exact this
  · obtain ⟨rfl, hst, ⟨h, t, e, hgt⟩⟩ := hR
    have hkk : N - (n + 1) = k := by omega
    rw [hkk] at hst
    refine .inl ⟨rfl, fun h' kh => ?_⟩
    subst e
    exact hstop _ hst ⟨h', t, _, rfl, hgt.trans (GT.of kh), fun hB => bare_setGen (s := { (s.setGen g .running) with heap := h, toks := t }) rfl (bare_setGen (s := s) rfl hB)⟩
end
/-- the marks that a ruler tells -/
def marksN (l : List Int) (room : Int) : Nat → GS → Int → List Int → Option (List Int)
  | 0, _, _, _ => none
  | f + 1, st, at', ms => match gnext l st with
    | .stop => some ms
    | .raise => none
    | .item x st' => if room < at' + x then some (ms ++ [at' + x]) else marksN l room f st' (at' + x) (ms ++ [at' + x])
def marksS (l : List Int) (room : Int) (N : Nat) : Option (List Int) := marksN l room N (.at 0) 0 []

section
variable {w : World} {A : Around} {h₀ hc : Heap} {s₀ s s' : Shared} {env : Env} {ρ ρ' : List (Str × D)} {L : Addr}

/-- the generator's turn, seen from another frame -/
theorem Fm.turnG (F : Fm h₀ s₀ true env ρ s) (T : Turn hc L s s') (h0 : Kept s₀.heap hc) (hL : hc.get? L = none) (hLf : ∃ f, s.heap.Ns L f)
    (h1 : (hc.get? env.locals).isSome = true) (h2 : ∀ x c, env.cells.lookup x = some c → (hc.get? c).isSome = true) (h3 : (hc.get? env.globals).isSome = true) (h4 : (hc.get? env.builtins).isSome = true) : Fm h₀ s₀ true env ρ s' := by
  obtain ⟨h, t, g, rfl, gt, hB⟩ := T
  have inhc : ∀ {b o}, (hc.get? b).isSome = true → s.heap.get? b = some o → h.get? b = some o := fun {b o} q e => gt b o e (fun r => by rw [r, hL] at q; cases q) (.inl q)
  have nsK : ∀ {b m}, (hc.get? b).isSome = true → s.heap.Ns b m → h.Ns b m := fun q n => n.at' fun o e => inhc q e
  have cellK : ∀ {c v}, (hc.get? c).isSome = true → s.heap.IsCell c v → h.IsCell c v := fun q i => let ⟨o, e, d⟩ := i; ⟨o, inhc q e, d⟩
  have kS : KeptS s.heap h := fun b o e f i => gt b o e (fun r => by
    obtain ⟨f', o', es, ep, e', d', _⟩ := hLf
    rw [r, e'] at e; cases e; rw [d'] at f; cases f) (.inr i)
  obtain ⟨hh, tt, gg, es, k0, eg, ab⟩ := id F.kb
  refine ⟨F.base, ⟨h, t, g, by rw [es], fun b o e => inhc (by rw [h0 b o e]; rfl) (F.kb.kept b o e), (fun q => by cases q), fun q => hB (F.kb.bare q)⟩, let ⟨m, n⟩ := F.ns; ⟨m, nsK h1 n⟩, F.newL,
    fun x c q => ⟨let ⟨v, i⟩ := (F.cell x c q).1; ⟨v, cellK (h2 x c q) i⟩, (F.cell x c q).2⟩, F.apart, F.neG, F.neB, F.fn, fun p hp => ?_⟩
  obtain ⟨v, S, r⟩ := F.vals p hp
  refine ⟨v, ?_, r.keptS kS⟩
  cases S with
  | loc a b c d e => exact .loc a b c (nsK h1 d) e
  | cell a b c d e => exact .cell a b c d (cellK (h2 _ _ d) e)
  | free a b b' c d e => exact .free a b b' c d (cellK (h2 _ _ d) e)
  | glob a b c d e => exact .glob a b c (nsK h3 d) e
  | blt a b c d e f g => exact .blt a b c (nsK h3 d) e (nsK h4 f) g

/-- a store into a local name, and what it leaves -/
theorem Fm.storeL {b : Bool} (F : Fm h₀ s₀ b env ρ s) {M : Model} {E : Value → Shared → Prop} {x : Str} {v : Value} {d : D} {Q : Unit → Shared → Prop}
    (hl : env.kindOf x = some .local) (r : Rep s.heap v d) (hρ : Upd x d ρ ρ')
    (hQ : ∀ h', Fm h₀ s₀ b env ρ' { s with heap := h', toks := s.toks + 1 } → Heap.SameBut env.locals s.heap h' → Lives s.heap h' → KeptD s.heap h' → Q () { s with heap := h', toks := s.toks + 1 }) (hxd : (x == ("__debug__" : Str)) = false := by decide) :
    wpAny M A (storeName env x v) Q E s := by
  obtain ⟨m, hn⟩ := F.ns
  obtain ⟨oL, el, ep, hoL, hdL, _⟩ := id hn
  refine wpAny_storeName_local hl hn (fun h' hn' hs' => ?_) (by rw [F.fn]; rfl)
  have kd := sameBut_keptD hs' hoL (by rw [hdL]; rfl)
  have q := F.putLocal (t := s.toks + 1) hn hl hxd hn' (fun c o hc e => (hs'.2 c hc).trans e) (r.keptD kd) hρ
  refine hQ h' q.1 hs' (fun c o e => ?_) kd
  by_cases hc : c = env.locals
  · subst hc; obtain ⟨o', _, _, e', _⟩ := hn'; exact ⟨o', e'⟩
  · exact ⟨o, (hs'.2 c hc).trans e⟩

theorem x_marks_for {a ag : Addr} {cd : Value} {l r : List Int} {room : Int} {N : Nat} {b' : Addr} (FA : TextFn h₀ ag 4) (B : Base h₀) (hC : GHas h₀ (Str.ofString "CHAR_MAX", .int 127)) (R : Room A 3) (hl0 : 0 < l.length → l.getD 0 0 ≠ 0) (hN : N ≤ 500)
    (hr : marksS l room N = some r) (st : Stmt) (hst : st = (bodyOf (stmtAt 6)).getD 2 (.Pass ⟨0, 0, 0, 0⟩)) {K : Fl → List (Str × D) → Prop} (hK : K .next [(Str.ofString "marks", .ints r)]) :
    Ex1 PP w A h₀ s₀ true false (envAt 6 b' a cd) [(Str.ofString "at", .int 0), (Str.ofString "marks", .ints []), (Str.ofString "ruler", .ints l), (Str.ofString "room", .int room), (Str.ofString "_grouping_intervals", .fn (.ref ag))] st K := by
  subst hst
  intro s Q E F hQ
  obtain ⟨og, pmg, cdg, docg, hog, hdg, hcdg⟩ := id FA
  refine wpAny_For (eval_call_fn (by walk_at "mem") hog hdg (a_cons (d := .ints l) (e_name (by walk_at "mem")) a_nil) F.hb F.vals fun vs s1 k1 r1 => ?_) fun _ => rfl
  obtain ⟨v, rfl, rv⟩ := r1.one
  have F1 := F.keeps k1
  have hN0 : 0 < N := by
    rcases Nat.eq_zero_or_pos N with q | q
    · subst q; cases hr
    · exact q
  refine call_gen FA B (R.le (by omega)) F1.hb fun h2 t2 cd2 m2 ga kh2 hga hgaL hgen hns2 hm2 => ?_
  obtain ⟨hz, G, us, rfl, ⟨pn, pG⟩, hi⟩ := id rv
  generalize hLe : s1.heap.objs.size = L at *
  have hL1 : s1.heap.get? L = none := hLe ▸ get_size_none _
  have h0L : h₀.get? L = none := none_back F1.hb hL1
  refine wpAny_pyIter_gen hgen ?_
  -- the frame at the loop's start
  have F2 : Fm h₀ s₀ true (envAt 6 b' a cd) [(Str.ofString "at", .int 0), (Str.ofString "marks", .ints []), (Str.ofString "ruler", .ints l), (Str.ofString "room", .int room), (Str.ofString "_grouping_intervals", .fn (.ref ag))]
      { s1 with heap := h2, toks := t2, gens := s1.gens.push (.fresh (.func (bodyOf (stmtAt 4)) (envAt 4 L ag cd2))) } :=
    F1.step ⟨h2, t2, _, rfl, kh2, fun q => (by cases q), fun q => AllBare.push q rfl⟩
  have i1 : (s1.heap.get? (envAt 6 b' a cd).locals).isSome = true := let ⟨m, o, _, _, e, _⟩ := F1.ns; by rw [e]; rfl
  have i3 : (s1.heap.get? (envAt 6 b' a cd).globals).isSome = true := let ⟨mg, o, _, _, e, _⟩ := B.g; by rw [show s1.heap.get? (envAt 6 b' a cd).globals = some o from F1.hb _ _ e]; rfl
  have i4 : (s1.heap.get? (envAt 6 b' a cd).builtins).isSome = true := let ⟨mb, o, _, _, e, _⟩ := B.b; by rw [show s1.heap.get? (envAt 6 b' a cd).builtins = some o from F1.hb _ _ e]; rfl
  have i2 : ∀ x c, (envAt 6 b' a cd).cells.lookup x = some c → (s1.heap.get? c).isSome = true := fun x c q => let ⟨⟨v, o, e, _⟩, _⟩ := F1.cell x c q; by rw [e]; rfl
  have hLl : (envAt 6 b' a cd).locals ≠ L := fun q => by rw [q, hL1] at i1; cases i1
  have G0 : GenSt w A h₀ s1.heap L ga s1.gens.size l N 0 { s1 with heap := h2, toks := t2, gens := s1.gens.push (.fresh (.func (bodyOf (stmtAt 4)) (envAt 4 L ag cd2))) } := by
    refine ⟨hgen, hN0, ⟨m2, hns2⟩, _, Array.getElem?_push_size .., fun s'' b1 b2 b3 b4 => ⟨rfl, ?_⟩⟩
    refine seg_gen_top (A := A.in1) (m := m2) (g := .none) R.hh hl0 hL1 hi hC h0L hN0 b1 (fun b o e => ?_) (hns2.at' fun o e => b2.trans e) hm2 ?_
    · exact b4 b o (kh2 b o e)
    · exact ⟨_, b3 _ _ (kh2 _ _ pG) rfl, rfl, _, rfl⟩
  refine codeAny_forLoop (fun n s => ∃ k atv ms, n + k = N ∧ GenSt w A h₀ s1.heap L ga s1.gens.size l N k s ∧ Fm h₀ s₀ true (envAt 6 b' a cd) [(Str.ofString "at", .int atv), (Str.ofString "marks", .ints ms), (Str.ofString "room", .int room)] s ∧ ms.length ≤ k ∧
      marksN l room n (stAt l k) atv ms = some r ∧ KeptD s1.heap s.heap) ?_ N ⟨0, 0, [], by omega, G0, F2.sub (by walk_at "sub"), Nat.le_refl 0, hr, kh2.d⟩
  rintro n s ⟨k, atv, ms, hnk, gst, F, hms, hm, kd⟩
  have hLf := gst.2.2.1
  have kdT : ∀ {s'}, Turn s1.heap L s s' → KeptD s1.heap s'.heap := fun T b o e f => by
    obtain ⟨h, t, g, rfl, gt, _⟩ := T
    exact gt b o (kd b o e f) (fun q => by rw [q, hL1] at e; cases e) (.inl (by rw [e]; rfl))
  refine pull R.hh (B.nolimit.keeps F.hb) (by have := R.depth; omega) (fun q => hgaL q) gst F.hb h0L (fun s' hstop T => ?_) (fun x st' v s' hitem hv T hnext => ?_)
  · obtain ⟨n, rfl⟩ : ∃ m, n = m + 1 := ⟨n - 1, by have := gst.2.1; omega⟩
    have F' := F.turnG T F1.kb.kept hL1 hLf i1 i2 i3 i4
    rw [marksN, hstop] at hm
    injection hm with hm
    subst hm
    refine wpAny_execs_nil (hQ _ .next _ _ rfl hK (F'.sub (by walk_at "sub")) ?_)
    exact fun b o e f _ => kdT T b o (keeps_kept k1 b o e) f
  · obtain ⟨n, rfl⟩ : ∃ m, n = m + 1 := ⟨n - 1, by have := gst.2.1; omega⟩
    have F' := F.turnG T F1.kb.kept hL1 hLf i1 i2 i3 i4
    have kd' := kdT T
    rw [marksN, hitem] at hm
    dsimp only at hm
    obtain ⟨tv, rfl⟩ := hv
    refine wpAny_assign_Name (F'.storeL (d := .int x) (ρ' := [(Str.ofString "size", .int x), (Str.ofString "at", .int atv), (Str.ofString "marks", .ints ms), (Str.ofString "room", .int room)]) rfl ⟨tv, rfl⟩ (by walk_at "upd") fun h3 F3 hs3 hl3 hd3 => ?_)
    refine wpAny_execs_cons (wpAny_Assign_Name (e_bin (d1 := .int atv) (d2 := .int x) (ρ := [(Str.ofString "size", .int x), (Str.ofString "at", .int atv), (Str.ofString "marks", .ints ms), (Str.ofString "room", .int room)]) (e_name (by walk_at "mem")) (e_name (by walk_at "mem")) o_add _ _ _ F3.hb F3.vals fun v4 s4 k4 r4 => ?_) rfl)
    have F4 := F3.keeps k4
    refine F4.storeL (d := .int (atv + x)) (ρ' := [(Str.ofString "at", .int (atv + x)), (Str.ofString "marks", .ints ms), (Str.ofString "room", .int room)]) rfl r4 (by walk_at "upd") fun h5 F5 hs5 hl5 hd5 => ?_
    refine wpAny_execs_cons (wpAny_Assign_Name (e_bin (d1 := .ints ms) (d2 := .ints [atv + x]) (ρ := [(Str.ofString "at", .int (atv + x)), (Str.ofString "marks", .ints ms), (Str.ofString "room", .int room)]) (e_name (by walk_at "mem")) (e_list1 (e_name (by walk_at "mem")) fun _ => rfl) (o_addl (by
      have := gst.2.1
      simp only [List.length_cons, List.length_nil]; omega)) _ _ _ F5.hb F5.vals fun v6 s6 k6 r6 => ?_) rfl)
    have F6 := F5.keeps k6
    refine F6.storeL (d := .ints (ms ++ [atv + x])) (ρ' := [(Str.ofString "at", .int (atv + x)), (Str.ofString "marks", .ints (ms ++ [atv + x])), (Str.ofString "room", .int room)]) rfl r6 (by walk_at "upd") fun h7 F7 hs7 hl7 hd7 => ?_
    -- what stands through the body
    have kD : KeptD s'.heap h7 := (hd3.trans ((keeps_kept k4).d.trans (hd5.trans ((keeps_kept k6).d.trans hd7))))
    have kV : Lives s'.heap h7 := hl3.trans ((Lives.of (keeps_kept k4)).trans (hl5.trans ((Lives.of (keeps_kept k6)).trans hl7)))
    refine wpAny_execs_cons (wpAny_If ((t_cmp (d1 := .int (atv + x)) (d2 := .int room) (ρ := [(Str.ofString "at", .int (atv + x)), (Str.ofString "marks", .ints (ms ++ [atv + x])), (Str.ofString "room", .int room)]) (e_name (by walk_at "mem")) (e_name (by walk_at "mem")) o_gt) _ _ _ F7.hb F7.vals fun s8 k8 => ?_))
    have F8 := F7.keeps k8
    by_cases hc : room < atv + x
    · rw [show decide (room < atv + x) = true by simpa using hc]
      rw [if_pos hc] at hm
      injection hm with hm
      subst hm
      refine wpAny_execs_cons fun _ _ _ => ?_
      refine hQ _ .next _ _ rfl hK (F8.sub (by walk_at "sub")) ?_
      exact fun b o e f _ => keeps_kept k8 _ _ (kD b o (kd' b o (keeps_kept k1 b o e) f) f)
    · rw [show decide (room < atv + x) = false by simpa using hc]
      rw [if_neg hc] at hm
      refine wpAny_execs_nil (wpAny_execs_nil ?_)
      have hk1 : k + 1 < N := by
        rcases Nat.lt_or_ge (k + 1) N with q | q
        · exact q
        · have : n = 0 := by omega
          subst this; cases hm
      have st' := hnext hk1
      obtain ⟨f, oL, es, ep, eL, _⟩ := id st'.2.2.1
      have e3 := (hs3.2 L (Ne.symm hLl)).trans eL
      have e5 := (hs5.2 L (Ne.symm hLl)).trans (keeps_kept k4 _ _ e3)
      have e7 := (hs7.2 L (Ne.symm hLl)).trans (keeps_kept k6 _ _ e5)
      have e8 := keeps_kept k8 _ _ e7
      have hst : stAt l (k + 1) = _ := show gstep l (stAt l k) = _ by unfold gstep; rw [hitem]
      obtain ⟨g8, t8, es8, _⟩ := id k8
      obtain ⟨g6, t6, es6, _⟩ := id k6
      obtain ⟨g4, t4, es4, _⟩ := id k4
      have hs' : s8 = { s' with heap := s8.heap, toks := s8.toks } := by rw [es8, es6, es4]
      refine ⟨n, Nat.lt_succ_self n, k + 1, atv + x, ms ++ [atv + x], by omega, ?_, F8, by simp; omega, by rw [hst]; exact hm, fun b o e f => keeps_kept k8 _ _ (kD b o (kd' b o e f) f)⟩
      rw [hs']
      exact st'.step (e8.trans eL.symm) (kD.trans (keeps_kept k8).d) (kV.trans (Lives.of (keeps_kept k8)))

theorem call_marks {a ag : Addr} {k : Nat} {l r : List Int} {room : Int} {N : Nat} (FA : TextFn h₀ a 6) (FG : TextFn h₀ ag 4) (B : Base h₀) (R : Room A (k + 4)) (hC : GHas h₀ (Str.ofString "CHAR_MAX", .int 127)) (hG : GHas h₀ (Str.ofString "_grouping_intervals", .fn (.ref ag)))
    (hl0 : 0 < l.length → l.getD 0 0 ≠ 0) (hN : N ≤ 500) (hr : marksS l room N = some r) : OpNB PP w A h₀ (.ref a) [.ints l, .int room] (.ints r) := by
  refine c_fnB (ps := [Str.ofString "ruler", Str.ofString "room"]) (μ := false) [(Str.ofString "_grouping_intervals", .fn (.ref ag))] [(Str.ofString "ruler", .ints l), (Str.ofString "room", .int room), (Str.ofString "_grouping_intervals", .fn (.ref ag))] FA B R rfl (by decide +kernel) (by decide +kernel) ?_ rfl ?_ ?_ ?_ ?_ rfl rfl
  · intro pm cd doc vals h
    match vals, h with
    | [v, u], _ => rfl
  · exact gk_cons hG gk_nil
  · exact gk_cons (show List.lookup (Str.ofString "_grouping_intervals") (scopeOf (stmtAt 6)).names = some NameKind.globalImplicit ∧ (Str.ofString "_grouping_intervals" == Str.ofString "__debug__") = false from ⟨by decide +kernel, by decide +kernel⟩) gk_nil
  · intro p hp; simpa [or_assoc] using hp
  · intro A' L cd s₀ R' hb
    refine x_cons (x_assign (d := .ints []) [(Str.ofString "marks", .ints []), (Str.ofString "ruler", .ints l), (Str.ofString "room", .int room), (Str.ofString "_grouping_intervals", .fn (.ref ag))] (by walk_at "ev") (by walk_at "own") (by walk_at "upd") ?_)
    refine x_cons (x_assign (d := .int 0) [(Str.ofString "at", .int 0), (Str.ofString "marks", .ints []), (Str.ofString "ruler", .ints l), (Str.ofString "room", .int room), (Str.ofString "_grouping_intervals", .fn (.ref ag))] (by walk_at "ev") (by walk_at "own") (by walk_at "upd") ?_)
    refine x_cons (x_marks_for FG B hC (R'.le (by omega)) hl0 hN hr _ rfl ?_)
    exact x_cons (x_ret (d := .ints r) (by walk_at "ev") rfl)
end
/-- a heap less one place -/
def del (h : Heap) (a : Addr) : Heap := h.update a fun o => { o with data := .freed }
theorem del_self (h : Heap) (a : Addr) : (del h a).get? a = none := by
  cases q : (del h a).get? a with
  | none => rfl
  | some o =>
    obtain ⟨q1, q2⟩ := Heap.get?_some_iff.mp q
    obtain ⟨objs⟩ := h
    simp only [del, Heap.update, Array.getElem?_modify, if_true] at q1
    cases r : objs[a]? with
    | none => rw [r] at q1; cases q1
    | some x => rw [r] at q1; cases q1; cases q2
theorem del_other {h : Heap} {a b : Addr} (hab : b ≠ a) : (del h a).get? b = h.get? b := Heap.get?_update_other _ _ (Ne.symm hab)
def delAll (h : Heap) : List Addr → Heap
  | [] => h
  | a :: r => del (delAll h r) a
theorem delAll_mem {h : Heap} {a : Addr} : ∀ {l : List Addr}, a ∈ l → (delAll h l).get? a = none
  | b :: r, hm => by
    by_cases q : a = b
    · subst q; exact del_self _ _
    · rw [delAll, del_other q]
      exact delAll_mem ((List.mem_cons.mp hm).resolve_left q)
theorem delAll_not {h : Heap} {a : Addr} : ∀ {l : List Addr}, a ∉ l → (delAll h l).get? a = h.get? a
  | [], _ => rfl
  | b :: r, hm => by
    rw [delAll, del_other (fun q => hm (by rw [q]; exact List.mem_cons_self)), delAll_not fun q => hm (List.mem_cons_of_mem _ q)]
theorem delAll_kept (h : Heap) (l : List Addr) : (delAll h l).StaysIn h := fun b o e => by
  by_cases q : b ∈ l
  · rw [delAll_mem q] at e; cases e
  · rw [← delAll_not q]; exact e

/-- the frames below -/
def FF (h : Heap) (l : List Env) : Prop := ∀ env ∈ l, env.scope.kind ≠ .module ∧ ∃ L m, env.frame = some L ∧ h.Ns L m
def frs (l : List Env) : List Addr := l.filterMap (·.frame)
theorem FF.fun {h base : Heap} : ∀ {l : List Env}, FF h l → (∀ a ∈ frs l, base.get? a = none) → h.FunFrames base l
  | [], _, _ => trivial
  | env :: r, hl, hb => by
    obtain ⟨h1, L, m, hf, o, es, ep, e, d, _⟩ := hl env List.mem_cons_self
    refine ⟨h1, ⟨L, o, hf, hb L ?_, e, fun vs q => by rw [d] at q; cases q⟩, FF.fun (fun x hx => hl x (List.mem_cons_of_mem _ hx)) fun a ha => hb a ?_⟩
    · unfold frs; rw [List.filterMap_cons, hf]; exact List.mem_cons_self
    · unfold frs; rw [List.filterMap_cons, hf]; exact List.mem_cons_of_mem _ ha
theorem FF.step {h h' : Heap} {l : List Env} (x : FF h l) (k : ∀ a ∈ frs l, ∀ m, h.Ns a m → ∃ m', h'.Ns a m') : FF h' l := fun env he => by
  obtain ⟨h1, L, m, hf, hn⟩ := x env he
  obtain ⟨m', hn'⟩ := k L (List.mem_filterMap.mpr ⟨env, he, hf⟩) m hn
  exact ⟨h1, L, m', hf, hn'⟩
theorem FF.keeps {h h' : Heap} {l : List Env} (x : FF h l) (k : Kept h h') : FF h' l := x.step fun a _ m n => ⟨m, n.keeps k⟩

def VE : Value := .type "ValueError"
/-- in flight, seen from a heap that stood before -/
def Fly (X : List Addr) (l : List Env) (e : Addr) (h h' : Heap) : Prop :=
  ∃ base tup u, Heap.FlyingW base l e VE (.ref tup) h' ∧ h'.TupAt tup [.str (Str.ofString "invalid grouping") u] ∧ base.get? tup = none ∧ (∀ b o, h.get? b = some o → b ∉ X → base.get? b = some o) ∧
    ∀ b ∈ frs l, ∀ o, h.get? b = some o → (∀ vs, o.data ≠ .fields vs) → ∃ sl, h'.get? b = some { o with slots := sl }

section
variable {M : Model} {A : Around} {E : Value → Shared → Prop} {s : Shared}
theorem looks_made {base h : Heap} {env : Env} {outer : List Env} {L e : Addr} {args : List Value} {Q : Unit → Shared → Prop}
    (hfr : A.frames = some (env :: outer)) (hf : env.frame = some L) (hkb : base.StaysIn h) (hl : h.FunFrames base (env :: outer)) (hx : Heap.MadeExc h s.heap e "ValueError" args)
    (hQ : ∀ h' t, Heap.HeldW base (env :: outer) e VE (.ref t) L h' → h'.TupAt t args → base.get? t = none → h.UpToSlots h' → Q () { s with heap := h' }) : wpAny M A (noteFrame (.ref e) env) Q E s := by
  obtain ⟨t, he, htn, ht⟩ := hx.there
  have fresh : ∀ b, h.get? b = none → base.get? b = none := fun b hb => by
    cases hq : base.get? b with
    | none => rfl
    | some o' => have := hkb b o' hq; rw [hb] at this; cases this
  unfold noteFrame
  simp only [hf]
  refine wpAny_bind (wpAny_field he rfl (x := .none) rfl ?_)
  rw [if_neg (by decide)]
  refine wpAny_entryW (a0 := .ref t) hfr (hl.of_keeps fun b o hb _ => ⟨o, hx.keeps b o hb, rfl⟩) hf he (fun b o hb => hx.keeps b o (hkb b o hb)) (fresh e hx.new) rfl (by simp) rfl fun h' hN => ?_
  obtain ⟨k1, k2, k3, k4⟩ := hN
  exact hQ h' t ⟨k1, fresh e hx.new, k2, k3⟩ (Heap.TupAt.of_slots ⟨_, _, ht, rfl, rfl⟩ k4) (fresh t htn) ((Heap.UpToSlots.of_keeps hx.keeps).trans k4)
theorem leaves_heldU {base : Heap} {env : Env} {outer : List Env} {L e : Addr} {cls a0 : Value} {Q : Unit → Shared → Prop} (hf : env.frame = some L)
    (hh : Heap.HeldW base (env :: outer) e cls a0 L s.heap) (hQ : ∀ h', Heap.FlyingW base outer e cls a0 h' → s.heap.UpToSlots h' → Q () { s with heap := h' }) : wpAny M A (leaving env (.ref e)) Q E s := by
  unfold leaving
  refine wpAny_bind (wpAny_noteFrame_againW hf hh.2.2.2 ?_)
  refine wpAny_landsW hh fun h' hfl hu => ?_
  obtain ⟨k1, k2, ⟨_, _, k3⟩, k4⟩ := hfl
  exact hQ h' ⟨k1, k2, k3, k4⟩ hu
/-- held again at the frame that it is held at -/
theorem came_held {base : Heap} {l : List Env} {e L : Addr} {cls a0 : Value} {w : String} {Q : Unit → Shared → Prop} (hh : Heap.HeldW base l e cls a0 L s.heap)
    (hQ : ∀ h', Heap.HeldW base l e cls a0 L h' → s.heap.UpToSlots h' → Q () { s with heap := h' }) :
    wpAny M A (do
      if (← field (.ref e) 1) == Value.none then unsupported w
      setFlight (.ref e) (some L)) Q E s := by
  obtain ⟨hkb, hen, hl, oe, vs, T, oT, ts, he, hcls, hd, h1, hnT, hTe, hT, hdT, h3⟩ := hh
  have hsz3 : 3 < ts.size := (Array.getElem?_eq_some_iff.mp h3).1
  refine wpAny_bind (wpAny_field he hd h1 ?_)
  rw [if_neg (show ¬ ((Value.ref T == Value.none) = true) from by simp)]
  have other : ∀ b, b ≠ T → (s.heap.update T (Obj.mapFields (·.setIfInBounds 3 ((some L).elim Value.none fun f => rawInt f)))).get? b = s.heap.get? b :=
    fun b hb => Heap.get?_update_other _ _ (Ne.symm hb)
  have noRecord : ∀ b o, s.heap.get? b = some o → (∀ vs, o.data ≠ .fields vs) → b ≠ T := fun b o hb hnf q => by
    rw [q, hT] at hb; injection hb with hb; subst hb; exact hnf ts hdT
  have main : wpAny M A (setFlight (.ref e) (some L)) Q E s := by
    unfold setFlight
    refine wpAny_bind (wpAny_field he hd h1 ?_)
    rw [if_pos (show (Value.ref T != Value.none) = true from by simp)]
    refine wpAny_setField hT hdT hsz3 (hQ _ ⟨fun b o hbo => (other b fun q => by rw [q, hnT] at hbo; cases hbo).trans (hkb b o hbo), hen,
      hl.of_keeps fun b o hb hnf => ⟨o, (other b (noRecord b o hb hnf)).trans hb, rfl⟩, ?_⟩ fun b o hb hnf => ⟨o.slots, (other b (noRecord b o hb hnf)).trans hb⟩)
    exact ⟨oe, vs, T, _, _, (other e (Ne.symm hTe)).trans he, hcls, hd, h1, hnT, hTe, Heap.get?_update_self _ hT (Obj.isFreed_of_fields (Obj.data_mapFields hdT _)), Obj.data_mapFields hdT _, by simp [hsz3]⟩
  first
  | exact wpAny_bind (wpAny_pure main)
  | exact main
end
def rR (L : Addr) (outer : List Env) : GenEnd := fun _ s₀ r s => ∃ e h t, r = .error (.ref e) ∧ s = { s₀ with heap := h, toks := t } ∧ Fly (L :: frs outer) outer e s₀.heap h

theorem seg_reraise {M : Model} {A : Around} {R : GenEnd} {Y : Protocol} {n : Nat} {s₀ : Shared} {c : Code} {fs : List Frame} {s : Shared} {e : Value} {h : Value → Sem Unit} {K : Flow → Sem Fin} {H : Value → Sem Fin} {gd : Bool → Bool} {lv : List Value → List Value}
    (hw : wpAny M (A.over c fs) (h e) (fun _ s' => Seg M A R Y n s₀ c (H e) fs s') (fun x s' => Seg M A R Y n s₀ c (H x) fs s') s) : Seg M A R Y n s₀ c (((.raise e : Sem Flow).onRaise h).wrap K H gd lv) fs s := by
  show Seg _ _ _ _ _ _ _ (((h e).bind fun _ => .raise e).wrap K H gd lv) fs s
  rw [Sem.bind_eq_wrap, Sem.wrap_wrap]; exact seg_wrap hw

section
variable {w : World} {A : Around} {h₀ : Heap} {L a : Addr} {cd : Value} {l : List Int} {n : Nat} {Y : Protocol} {outer : List Env}

theorem seg_raise {G : Addr} {vs : List Value} {m : Str → Option Value} (hh : A.handled = none) (hfr : A.frames = some outer) (hlt : 0 < l.length) (hx0 : l.getD 0 0 = 0) (hi : IntsAre vs l) (hC : GHas h₀ (Str.ofString "CHAR_MAX", .int 127))
    (hV : GHas h₀ (Str.ofString "ValueError", .fn VE)) (hL0 : h₀.get? L = none) {s : Shared} (hb : Kept h₀ s.heap) (hF : FF s.heap outer) (hLo : L ∉ frs outer) (hns : s.heap.Ns L m) (hm : m (Str.ofString "grouping") = some (.ref G)) (hG : s.heap.IsList G vs.toArray) :
    Seg (model PP w) A (rR L outer) Y n s (.func (bodyOf (stmtAt 4)) (envAt 4 L a cd)) ((model PP w).den (.func (bodyOf (stmtAt 4)) (envAt 4 L a cd))) [] s := by
  refine seg_func ?_
  refine seg_execs_cons (seg_wrap (wpAny_Assign_Name (Constant_none (wpAny_storeName_local (env := envAt 4 L a cd) rfl hns (fun h1 hns1 hs1 => ?_) rfl)) rfl))
  have hLG : G ≠ L := fun q => by
    obtain ⟨o, e, c, k, d⟩ := hG
    obtain ⟨o', es, ep, e', d', _⟩ := hns
    rw [q, e'] at e; cases e; rw [d'] at d; cases d
  have hb1 : Kept h₀ h1 := fun b o e => (hs1.2 b fun q => by rw [q] at e; exact absurd (hL0.symm.trans e) (by simp)).trans (hb b o e)
  have hG1 : h1.IsList G vs.toArray := let ⟨o, e, r⟩ := hG; ⟨o, (hs1.2 G hLG).trans e, r⟩
  have hg1 : (fun y => if y = Str.ofString "last_interval" then some Value.none else m y) (Str.ofString "grouping") = some (.ref G) := by
    show (if Str.ofString "grouping" = Str.ofString "last_interval" then _ else _) = _
    rw [if_neg (show ¬ Str.ofString "grouping" = Str.ofString "last_interval" by decide +kernel)]; exact hm
  refine seg_execs_cons (seg_For ((e_name (d := .fn (.ref G)) (ρ := [(Str.ofString "grouping", .fn (.ref G))]) (by walk_at "mem")) _ _ _ hb1 ?_ fun v s2 k2 r2 => ?_))
  · exact gk_cons ⟨_, .loc rfl (show (Str.ofString "grouping" == Str.ofString "__debug__") = false by decide +kernel) rfl hns1 hg1, rfl⟩ gk_nil
  have r2 : v = .ref G := r2
  subst r2
  have hG2 : s2.heap.IsList G vs.toArray := let ⟨o, e, r⟩ := hG1; ⟨o, keeps_kept k2 _ _ e, r⟩
  refine wpAny_pyIter_list hG2 fun p => ?_
  have hp : Kept s2.heap (s2.heap.push { cls := .type "list_iterator", data := .fields #[.ref G, .int 0 0] }) := Kept.push _ _
  have k13 : Kept h1 (s2.heap.push { cls := .type "list_iterator", data := .fields #[.ref G, .int 0 0] }) := (keeps_kept k2).trans hp
  have lt2 : ∀ {b : Addr} {o}, s2.heap.get? b = some o → b ≠ s2.heap.objs.size := fun e => Nat.ne_of_lt (Heap.lt_size e)
  have hit : (s2.heap.push { cls := .type "list_iterator", data := .fields #[.ref G, .int 0 0] }).IsListIter s2.heap.objs.size G 0 := ⟨_, Heap.get?_push_size _ rfl, rfl, rfl⟩
  have hItL : L ≠ s2.heap.objs.size := let ⟨o, _, _, e, _⟩ := hns1.keeps (keeps_kept k2); lt2 e
  have hGI : G ≠ s2.heap.objs.size := let ⟨o, e, _⟩ := hG2; lt2 e
  have hG3 : (s2.heap.push { cls := .type "list_iterator", data := .fields #[.ref G, .int 0 0] }).IsList G vs.toArray := let ⟨o, e, r⟩ := hG2; ⟨o, hp _ _ e, r⟩
  have hns3 := hns1.keeps k13
  -- what stood at the start, but the frame's table
  have old : ∀ b o, s.heap.get? b = some o → b ≠ L → s2.heap.get? b = some o := fun b o e q => keeps_kept k2 _ _ ((hs1.2 b q).trans e)
  generalize hIt : s2.heap.objs.size = It at *
  generalize hH3 : s2.heap.push { cls := .type "list_iterator", data := .fields #[.ref G, .int 0 0] } = H3 at *
  obtain ⟨hp2, t2, e2, _⟩ := id k2
  obtain ⟨t, ht⟩ := ints_get hi hlt
  refine seg_forLoop ?_
  refine wpAny_pyNext_list_item hit hG3 (x := .int (l.getD 0 0) t) (by rw [List.getElem?_toArray]; exact ht) fun h4 hit4 hs4 => ?_
  have hns4 := hns3.sameBut hs4 hItL
  refine wpAny_assign_Name (wpAny_storeName_local (env := envAt 4 L a cd) rfl hns4 (fun h5 hns5 hs5 => ?_) rfl)
  have hb3 : Kept h₀ H3 := hb1.trans k13
  have hI0 : h₀.get? It = none := none_back (hb1.trans (keeps_kept k2)) (hIt ▸ get_size_none _)
  have hb5 : Kept h₀ h5 := fun b o e => (hs5.2 b fun q => by rw [q] at e; exact absurd (hL0.symm.trans e) (by simp)).trans ((hs4.2 b fun q => by rw [q, hI0] at e; cases e).trans (hb3 b o e))
  have old5 : ∀ b o, s.heap.get? b = some o → b ≠ L → h5.get? b = some o := fun b o e q => (hs5.2 b q).trans ((hs4.2 b fun r => by
    have := old b o e q
    exact lt2 this r).trans (hp _ _ (old b o e q)))
  have V5 : ∀ {h : Heap}, Kept h₀ h → h.Ns L (fun y => if y = Str.ofString "interval" then some (.int (l.getD 0 0) t) else (fun y => if y = Str.ofString "last_interval" then some Value.none else m y) y) → Vals (envAt 4 L a cd) h [(Str.ofString "interval", .int (l.getD 0 0)), (Str.ofString "last_interval", .fn .none), (Str.ofString "CHAR_MAX", .int 127), (Str.ofString "ValueError", .fn VE)] := fun hb hn =>
    gk_cons ⟨_, .loc rfl (show (Str.ofString "interval" == Str.ofString "__debug__") = false by decide +kernel) rfl hn (by simp), ⟨t, rfl⟩⟩
      (gk_cons ⟨_, .loc rfl (show (Str.ofString "last_interval" == Str.ofString "__debug__") = false by decide +kernel) rfl hn (by
        show (if Str.ofString "last_interval" = Str.ofString "interval" then _ else if Str.ofString "last_interval" = Str.ofString "last_interval" then _ else _) = _
        rw [if_neg (show ¬ Str.ofString "last_interval" = Str.ofString "interval" by decide +kernel), if_pos rfl]), rfl⟩
        (gk_cons (hC.has hb rfl rfl (show (Str.ofString "CHAR_MAX" == Str.ofString "__debug__") = false by decide +kernel) rfl rfl)
          (gk_cons (hV.has hb rfl rfl (show (Str.ofString "ValueError" == Str.ofString "__debug__") = false by decide +kernel) rfl rfl) gk_nil)))
  generalize hρ : [(Str.ofString "interval", D.int (l.getD 0 0)), (Str.ofString "last_interval", .fn .none), (Str.ofString "CHAR_MAX", .int 127), (Str.ofString "ValueError", .fn VE)] = ρ at *
  have m1 : (Str.ofString "interval", D.int (l.getD 0 0)) ∈ ρ := by rw [← hρ]; walk_at "mem"
  have m2 : (Str.ofString "last_interval", D.fn .none) ∈ ρ := by rw [← hρ]; walk_at "mem"
  have m3 : (Str.ofString "CHAR_MAX", D.int 127) ∈ ρ := by rw [← hρ]; walk_at "mem"
  have m4 : (Str.ofString "ValueError", D.fn VE) ∈ ρ := by rw [← hρ]; walk_at "mem"
  clear hρ
  refine seg_execs_cons (seg_wrap (wpAny_If ((t_cmp (e_name m1) (e_name m3) o_eq) _ _ _ hb5 (V5 hb5 hns5) fun s6 k6 => ?_)))
  rw [show (l.getD 0 0 == 127) = false by rw [hx0]; rfl]
  refine wpAny_execs_nil ?_
  have hb6 := hb5.trans (keeps_kept k6)
  have hns6 := hns5.keeps (keeps_kept k6)
  refine seg_execs_cons (seg_If ((t_cmp (e_name m1) (e_int (i := 0)) o_eq) _ _ _ hb6 (V5 hb6 hns6) fun s7 k7 => ?_))
  rw [show (l.getD 0 0 == 0) = true by rw [hx0]; rfl, if_pos rfl]
  have hb7 := hb6.trans (keeps_kept k7)
  have hns7 := hns6.keeps (keeps_kept k7)
  refine seg_execs_cons (seg_wrap (wpAny_If ((t_cmp (b := true) (e_name m2) (d2 := .fn .none) ?_ ?_) s7 _ _ hb7 (V5 hb7 hns7) fun s8 k8 => ?_)))
  · exact fun s Q E _ _ hQ => Constant_none (hQ _ _ (keeps_refl _) rfl)
  · exact fun s v u Q E e1 e2 hQ => by
      have e1 : v = .none := e1
      have e2 : u = .none := e2
      subst e1 e2; exact is_none_none (hQ _ _ (keeps_refl _) rfl)
  have hb8 := hb7.trans (keeps_kept k8)
  have hns8 := hns7.keeps (keeps_kept k8)
  refine wpAny_execs_cons (Raise_madeB PySem.F.excCall_ValueError PySem.F.excRaise_ValueError hh ((e_name m4) s8 _ _ hb8 (V5 hb8 hns8) fun v s9 k9 r9 => ⟨r9, ?_⟩))
  have hb9 := hb8.trans (keeps_kept k9)
  have hns9 := hns8.keeps (keeps_kept k9)
  refine (a_cons (d := .str (Str.ofString "invalid grouping")) e_str a_nil) s9 _ _ hb9 (V5 hb9 hns9) fun vs' s10 k10 r10 => ⟨?_, fun h11 e hmade => ?_⟩
  · rw [repAll_len r10, sizeLine_eq]; decide
  obtain ⟨u, rfl, ⟨tu, rfl⟩⟩ := r10.one
  have k510 := keeps_trans (keeps_trans (keeps_trans (keeps_trans k6 k7) k8) k9) k10
  have old10 : ∀ b o, s.heap.get? b = some o → b ≠ L → s10.heap.get? b = some o := fun b o e q => keeps_kept k510 _ _ (old5 b o e q)
  have hns10 := hns9.keeps (keeps_kept k10)
  have hFF : FF s10.heap (envAt 4 L a cd :: outer) := fun env he => by
    rcases List.mem_cons.mp he with rfl | he
    · exact ⟨by show ScopeKind.function ≠ _; decide, L, _, rfl, hns10⟩
    · obtain ⟨q1, L', m', q2, o', es, ep, q3, q4⟩ := hF env he
      have hne : L' ≠ L := fun q => hLo (q ▸ List.mem_filterMap.mpr ⟨env, he, q2⟩)
      exact ⟨q1, L', m', q2, o', es, ep, old10 _ _ q3 hne, q4⟩
  have hbase : ∀ x ∈ frs (envAt 4 L a cd :: outer), (delAll s10.heap (L :: frs outer)).get? x = none := fun x hx => delAll_mem hx
  show Seg _ _ _ _ _ _ _ ((do noteFrame (.ref e) (envAt 4 L a cd); theTreesLotGoes (.ref e) : Sem Unit).wrap (fun _ => .raise (.ref e)) .raise id id) _ _
  refine seg_bind_wrap (looks_made (outer := outer) (L := L) ?_ rfl (delAll_kept s10.heap (L :: frs outer)) (hFF.fun hbase) hmade fun h12 tup hheld htup hnt hu12 => ?_)
  · show pushEnvs [] (pushEnvs [envAt 4 L a cd] A.frames) = _
    rw [hfr]; rfl
  refine seg_wrap (wpAny_theTreesLotGoes ?_)
  refine seg_leaf (.error (.ref e)) ?_
  refine seg_reraise (came_held hheld fun h13 hheld' hu13 => ?_)
  refine seg_wrap (leaves_heldU rfl hheld' fun h14 hfl hu14 => ?_)
  refine seg_end (.error (.ref e)) ⟨e, h14, s10.toks, rfl, ?_, ?_⟩
  · obtain ⟨h10', t10', e10, _⟩ := id k510
    rw [e10, e2]
  · refine ⟨_, tup, tu, hfl, (htup.of_slots hu13).of_slots hu14, hnt, fun b o q hm => ?_, fun b hb' o q hnf => ?_⟩
    · rw [delAll_not hm]
      exact old10 b o q fun r => hm (r ▸ List.mem_cons_self)
    · have hne : b ≠ L := fun r => hLo (r ▸ hb')
      exact ((hu12.trans hu13).trans hu14) b o (old10 b o q hne) hnf
end
section
variable {w : World} {A : Around} {E : Value → Shared → Prop} {h₀ : Heap} {s : Shared} {a ag : Addr} {l : List Int} {outer : List Env}

theorem fly_type {X : List Addr} {lv : List Env} {e : Addr} {h h' : Heap} (f : Fly X lv e h h') : ∃ o, h'.get? e = some o ∧ o.cls = .type "ValueError" := by
  obtain ⟨base, tup, u, hf, _⟩ := f
  exact hf.there

theorem raise_marks {v : Value} {z : Int} {t : Tok} {Q : Value → Shared → Prop} (FA : TextFn h₀ a 6) (FG : TextFn h₀ ag 4) (B : Base h₀) (R : Room A 5) (hC : GHas h₀ (Str.ofString "CHAR_MAX", .int 127)) (hV : GHas h₀ (Str.ofString "ValueError", .fn VE)) (hG : GHas h₀ (Str.ofString "_grouping_intervals", .fn (.ref ag)))
    (hfr : A.frames = some outer) (hF : FF s.heap outer) (hb : Kept h₀ s.heap) (hv : IsInts s.heap v l) (hlt : 0 < l.length) (hx0 : l.getD 0 0 = 0)
    (hE : ∀ e h t g, (AllBare s.gens → AllBare g) → Fly (frs outer) outer e s.heap h → E (.ref e) { s with heap := h, toks := t, gens := g }) :
    wpAny (model PP w) A (call (.ref a) [v, .int z t]) Q E s := by
  obtain ⟨o, pm, cd, doc, ho, hd, hcd⟩ := FA
  refine wpAny_call (codeAny_call_cells (binds := [(Str.ofString "ruler", v), (Str.ofString "room", .int z t)]) (by have := R.depth; omega) (hb _ _ ho) hd (B.nolimit.keeps hb) (hcd.keeps hb) rfl rfl rfl (fun x hx => .inl ?_) (fun s₁ X => ?_) rfl rfl rfl)
  · simp at hx
    rcases hx with rfl | rfl <;> rfl
  have R1 : Room (A.deeper (envAt 6 s.heap.objs.size a cd)) 4 := R.deeper _
  have F := fm_start (b := true) (name := nameOf (stmtAt 6)) (scope := scopeOf (stmtAt 6)) (a := a) (cd := cd) (L := s.heap.objs.size) (ps := [Str.ofString "ruler", Str.ofString "room"]) (vals := [v, .int z t]) (ds := [.ints l, .int z])
    (γ := [(Str.ofString "_grouping_intervals", .fn (.ref ag))]) (ρ := [(Str.ofString "ruler", .ints l), (Str.ofString "room", .int z), (Str.ofString "_grouping_intervals", .fn (.ref ag))]) B hb rfl rfl (by decide +kernel) rfl (by decide +kernel) (.cons hv (.cons ⟨t, rfl⟩ .nil))
    (gk_cons hG gk_nil) (gk_cons (show List.lookup (Str.ofString "_grouping_intervals") (scopeOf (stmtAt 6)).names = some NameKind.globalImplicit ∧ (Str.ofString "_grouping_intervals" == Str.ofString "__debug__") = false from ⟨by decide +kernel, by decide +kernel⟩) gk_nil)
    (fun p hp => by simpa [or_assoc] using hp) X
  have hsL : s.heap.get? s.heap.objs.size = none := get_size_none _
  have old1 : ∀ {b o}, s.heap.get? b = some o → b ≠ s.heap.objs.size := fun e => Nat.ne_of_lt (Heap.lt_size e)
  generalize hL2 : s.heap.objs.size = L2 at *
  have fr2 : (A.deeper (envAt 6 L2 a cd)).frames = some (envAt 6 L2 a cd :: outer) := Around.frames_deeper hfr
  refine wpAny_execs_cons ((x_assign (μ := false) (K := fun fl ρ => fl = .next ∧ ρ = [(Str.ofString "marks", .ints []), (Str.ofString "ruler", .ints l), (Str.ofString "room", .int z), (Str.ofString "_grouping_intervals", .fn (.ref ag))]) (d := .ints []) [(Str.ofString "marks", .ints []), (Str.ofString "ruler", .ints l), (Str.ofString "room", .int z), (Str.ofString "_grouping_intervals", .fn (.ref ag))] (by walk_at "ev") (by walk_at "own") (by walk_at "upd") ⟨rfl, rfl⟩) s₁ _ _ F fun f fl ρ' s2 r k F2 _ => ?_)
  obtain ⟨rfl, rfl⟩ := k
  have r : f = .next := r
  subst r
  refine wpAny_execs_cons ((x_assign (μ := false) (K := fun fl ρ => fl = .next ∧ ρ = [(Str.ofString "ruler", .ints l), (Str.ofString "_grouping_intervals", .fn (.ref ag))]) (d := .int 0) [(Str.ofString "ruler", .ints l), (Str.ofString "_grouping_intervals", .fn (.ref ag))] (by walk_at "ev") (by walk_at "own") (by walk_at "upd") ⟨rfl, rfl⟩) s2 _ _ F2 fun f fl ρ' s3 r k F3 _ => ?_)
  obtain ⟨rfl, rfl⟩ := k
  have r : f = .next := r
  subst r
  obtain ⟨og, pmg, cdg, docg, hog, hdg, hcdg⟩ := id FG
  refine wpAny_execs_cons (wpAny_For (eval_call_fn (by walk_at "mem") hog hdg (a_cons (d := .ints l) (e_name (by walk_at "mem")) a_nil) F3.hb F3.vals fun vs s4 k4 r4 => ?_) fun _ => rfl)
  obtain ⟨v4, rfl, rv⟩ := r4.one
  have F4 := F3.keeps k4
  refine call_gen FG B (R1.le (by omega)) F4.hb fun h5 t5 cd5 m5 ga kh5 hga hgaL hgen hns5 hm5 => ?_
  obtain ⟨hz, G, us, rfl, ⟨pn, pG⟩, hi⟩ := id rv
  have hL4 : s4.heap.get? s4.heap.objs.size = none := get_size_none _
  have old4 : ∀ {b o}, s4.heap.get? b = some o → b ≠ s4.heap.objs.size := fun e => Nat.ne_of_lt (Heap.lt_size e)
  generalize hL3 : s4.heap.objs.size = L3 at *
  refine wpAny_pyIter_gen hgen ?_
  -- what stood before the call
  have k45 : Kept s.heap h5 := F4.kb.kept.trans kh5
  have fr5 : FF h5 (envAt 6 L2 a cd :: outer) := fun env he => by
    rcases List.mem_cons.mp he with rfl | he
    · obtain ⟨m, n⟩ := F4.ns
      exact ⟨by show ScopeKind.function ≠ _; decide, L2, m, rfl, n.keeps kh5⟩
    · exact (hF.keeps k45) env he
  have hfrs : ∀ b ∈ frs outer, ∃ o, s.heap.get? b = some o := fun b hb' => by
    obtain ⟨env, he, hf⟩ := List.mem_filterMap.mp hb'
    obtain ⟨_, L', m, hf', o, _, _, e, _⟩ := hF env he
    rw [hf] at hf'; cases hf'; exact ⟨o, e⟩
  have hL2in : ∃ o, s4.heap.get? L2 = some o := let ⟨m, o, _, _, e, _⟩ := F4.ns; ⟨o, e⟩
  have hL3o : L3 ∉ frs (envAt 6 L2 a cd :: outer) := fun hm => by
    rcases List.mem_cons.mp (show L3 ∈ L2 :: frs outer from hm) with q | q
    · obtain ⟨o, e⟩ := hL2in
      exact old4 e q.symm
    · obtain ⟨o, e⟩ := hfrs L3 q
      exact old4 (F4.kb.kept _ _ e) rfl
  refine codeAny_forLoop (fun n s' => s' = { s4 with heap := h5, toks := t5, gens := s4.gens.push (.fresh (.func (bodyOf (stmtAt 4)) (envAt 4 L3 ag cd5))) }) ?_ 0 rfl
  rintro n s' rfl
  refine next_genX (n := 0) (R := rR L3 (envAt 6 L2 a cd :: outer)) (Y := fun _ _ _ _ _ => False) R1.hh ((B.nolimit.keeps F4.hb).keeps kh5) (show (A.deeper (envAt 6 L2 a cd)).depth < recursionLimit by have := R1.depth; omega) hgen (Array.getElem?_push_size ..) ⟨rfl, ?_⟩ (fun v s₁ gs' _ hY => hY.elim) (fun x s₁ hR => .inr ?_)
  · exact seg_raise (A := (A.deeper (envAt 6 L2 a cd)).in1) R1.hh fr2 hlt hx0 hi hC hV (none_back F4.hb hL4) (F4.hb.trans kh5) fr5 hL3o hns5 hm5 ⟨_, kh5 _ _ pG, rfl, _, rfl⟩
  · obtain ⟨e, h6, t6, rfl, es, fly⟩ := hR
    have hty := fly_type fly
    obtain ⟨base, tup, u, hfl, htup, hnt, hbase, hup⟩ := fly
    have hgaF : ga ∉ L3 :: frs (envAt 6 L2 a cd :: outer) := fun hm => by
      rcases List.mem_cons.mp hm with q | q
      · exact hgaL q
      · rcases List.mem_cons.mp (show ga ∈ L2 :: frs outer from q) with q | q
        · obtain ⟨o, e⟩ := hL2in
          rw [← q, hga] at e; cases e
        · obtain ⟨o, e⟩ := hfrs ga q
          have := F4.kb.kept _ _ e
          rw [hga] at this; cases this
    subst es
    refine ⟨e, rfl, ?_, hty, ?_⟩
    · obtain ⟨og', nm, qn, eg, cg, dg, sg⟩ := hgen
      exact ⟨og', nm, qn, hfl.1 _ _ (hbase _ _ eg hgaF), cg, dg, sg⟩
    · refine wpAny_looks_onW fr2 rfl hfl fun h7 hheld hu7 => ?_
      refine came_held hheld fun h8 hheld8 hu8 => ?_
      refine leaves_heldU rfl hheld8 fun h9 hfl9 hu9 => ?_
      have hsame : ∃ g, (AllBare s.gens → AllBare g) ∧ ({ ((({ (({ s4 with heap := h5, toks := t5, gens := s4.gens.push (.fresh (.func (bodyOf (stmtAt 4)) (envAt 4 L3 ag cd5))) } : Shared).setGen s4.gens.size .running) with heap := h6, toks := t6 } : Shared).setGen s4.gens.size .finished)) with heap := h9 } : Shared) = { s with heap := h9, toks := t6, gens := g } := by
        obtain ⟨h4, t4, g4, e4, _, _, ab⟩ := id F4.kb
        refine ⟨_, fun hB => bare_setGen (g := s4.gens.size) (x := .finished) (s := (({ (({ s4 with heap := h5, toks := t5, gens := s4.gens.push (.fresh (.func (bodyOf (stmtAt 4)) (envAt 4 L3 ag cd5))) } : Shared).setGen s4.gens.size .running) with heap := h6, toks := t6 } : Shared))) rfl (bare_setGen (g := s4.gens.size) (x := .running) (s := ({ s4 with heap := h5, toks := t5, gens := s4.gens.push (.fresh (.func (bodyOf (stmtAt 4)) (envAt 4 L3 ag cd5))) } : Shared)) rfl (AllBare.push (F4.kb.bare hB) rfl)), ?_⟩
        rw [e4]; rfl
      obtain ⟨g, hbare, esame⟩ := hsame
      refine Eq.mpr (congrArg (E (.ref e)) esame) (hE e h9 t6 g hbare ⟨base, tup, u, hfl9, ((htup.of_slots hu7).of_slots hu8).of_slots hu9, hnt, fun b o q hm => ?_, fun b hb' o q hnf => ?_⟩)
      · refine hbase b o (k45 b o q) fun hm' => ?_
        rcases List.mem_cons.mp hm' with r | r
        · subst r; exact old4 (F4.kb.kept _ _ q) rfl
        · rcases List.mem_cons.mp (show b ∈ L2 :: frs outer from r) with r | r
          · subst r; rw [hsL] at q; cases q
          · exact hm r
      · obtain ⟨sl, e6⟩ := hup b (List.mem_cons_of_mem _ hb') o (k45 b o q) hnf
        obtain ⟨sl', e9⟩ := ((hu7.trans hu8).trans hu9) b _ e6 hnf
        exact ⟨sl', e9⟩
end
section
variable {w : World} {A : Around} {E : Value → Shared → Prop} {h₀ : Heap} {s : Shared} {a am ag : Addr} {l : List Int} {outer : List Env}

theorem o_eqs {prog : Program} {x y : Str} : Op2 prog w A (compareOp .Eq) (.str x) (.str y) (.bool (x == y)) := fun s _ _ _ _ ⟨_, e1⟩ ⟨_, e2⟩ hQ => by
  subst e1 e2; exact PyProof.Rows.eq_str (hQ _ _ (keeps_refl _) rfl)
theorem o_str_exc {prog : Program} {h : Heap} {e tup : Addr} {m : Str} {u : Tok} (hu : A.units + 2 < cLine) (x : h.ExcAt e "ValueError" (.ref tup)) (y : h.TupAt tup [.str m u]) : OpN prog w A h (.type "str") [.fn (.ref e)] (.str m) := fun s vs Q E hb r hQ => by
  obtain ⟨v, rfl, rv⟩ := r.one
  have rv : v = .ref e := rv
  subst rv
  obtain ⟨o, ws, e1, e2⟩ := x
  exact P.str_of_exc_one PySem.F.excStr_ValueError hu ⟨o, ws, hb _ _ e1, e2⟩ (y.keeps hb) (hQ _ _ (keeps_refl _) ⟨u, rfl⟩)

theorem call_refused {v : Value} {Q : Value → Shared → Prop} (FA : TextFn h₀ a 7) (FM : TextFn h₀ am 6) (FG : TextFn h₀ ag 4) (B : Base h₀) (R : Room A 8) (hC : GHas h₀ (Str.ofString "CHAR_MAX", .int 127)) (hV : GHas h₀ (Str.ofString "ValueError", .fn VE))
    (hG : GHas h₀ (Str.ofString "_grouping_intervals", .fn (.ref ag))) (hM : GHas h₀ (Str.ofString "_law_marks", .fn (.ref am))) (hS : GHas h₀ (Str.ofString "str", .fn (.type "str")))
    (hfr : A.frames = some outer) (hF : FF s.heap outer) (hFo : ∀ b ∈ frs outer, h₀.get? b = none) (hb : Kept h₀ s.heap) (hv : IsInts s.heap v l) (hlt : 0 < l.length) (hx0 : l.getD 0 0 = 0)
    (hQ : ∀ h t g, (AllBare s.gens → AllBare g) → (∀ b o, s.heap.get? b = some o → b ∉ frs outer → h.get? b = some o) → (∀ b ∈ frs outer, ∀ o, s.heap.get? b = some o → (∀ vs, o.data ≠ .fields vs) → ∃ sl, h.get? b = some { o with slots := sl }) →
      Q (.bool true) { s with heap := h, toks := t, gens := g }) :
    wpAny (model PP w) A (call (.ref a) [v]) Q E s := by
  obtain ⟨o, pm, cd, doc, ho, hd, hcd⟩ := FA
  refine wpAny_call (codeAny_call_cells (binds := [(Str.ofString "ruler", v)]) (by have := R.depth; omega) (hb _ _ ho) hd (B.nolimit.keeps hb) (hcd.keeps hb) rfl rfl rfl (fun x hx => .inl ?_) (fun s₁ X => ?_) rfl rfl rfl)
  · simp at hx
    subst hx; rfl
  have R1 : Room (A.deeper (envAt 7 s.heap.objs.size a cd)) 7 := R.deeper _
  have F := fm_start (b := true) (name := nameOf (stmtAt 7)) (scope := scopeOf (stmtAt 7)) (a := a) (cd := cd) (L := s.heap.objs.size) (ps := [Str.ofString "ruler"]) (vals := [v]) (ds := [.ints l])
    (γ := [(Str.ofString "_law_marks", .fn (.ref am))]) (ρ := [(Str.ofString "ruler", .ints l), (Str.ofString "_law_marks", .fn (.ref am))]) B hb rfl rfl (by decide +kernel) rfl (by decide +kernel) (.cons hv .nil)
    (gk_cons hM gk_nil) (gk_cons (show List.lookup (Str.ofString "_law_marks") (scopeOf (stmtAt 7)).names = some NameKind.globalImplicit ∧ (Str.ofString "_law_marks" == Str.ofString "__debug__") = false from ⟨by decide +kernel, by decide +kernel⟩) gk_nil)
    (fun p hp => by simpa [or_assoc] using hp) X
  have hsL : s.heap.get? s.heap.objs.size = none := get_size_none _
  generalize hL1 : s.heap.objs.size = L1 at *
  have fr1 : (A.deeper (envAt 7 L1 a cd)).frames = some (envAt 7 L1 a cd :: outer) := Around.frames_deeper hfr
  have h0L : h₀.get? L1 = none := none_back hb hsL
  obtain ⟨om, pmm, cdm, docm, hom, hdm, hcdm⟩ := id FM
  refine wpAny_execs_cons (wpAny_Try_except (wpAny_execs_cons (wpAny_Expr_any (eval_call_fn (ds := [.ints l, .int 0]) (ρ := [(Str.ofString "ruler", .ints l), (Str.ofString "_law_marks", .fn (.ref am))]) (by walk_at "mem") hom hdm (a_cons (e_name (by walk_at "mem")) (a_cons e_int a_nil)) F.hb F.vals fun vs s2 k2 r2 => ?_))))
  obtain ⟨v2, u2, rfl, rv, ⟨tz, rfl⟩⟩ := r2.two
  have F2 := F.keeps k2
  have kk2 : Kept s.heap s2.heap := F2.kb.kept
  have hF2 : FF s2.heap (envAt 7 L1 a cd :: outer) := fun env he => by
    rcases List.mem_cons.mp he with rfl | he
    · obtain ⟨m, n⟩ := F2.ns
      exact ⟨by show ScopeKind.function ≠ _; decide, L1, m, rfl, n⟩
    · exact (hF.keeps kk2) env he
  refine raise_marks FM FG B (R1.le (by omega)) hC hV hG fr1 hF2 F2.hb rv hlt hx0 fun e h3 t3 g3 hg3 fly => ?_
  obtain ⟨base, tup, u, hfl, htup, hnt, hbase, hup⟩ := fly
  refine wpAny_looks_onW fr1 rfl hfl fun h4 hheld hu4 => ?_
  refine wpAny_landsW hheld fun h5 hfl5 hu5 => ?_
  -- the text's own things
  have hb0 : Kept h₀ base := fun b o q => hbase b o (F2.hb b o q) fun hm => by
    rcases List.mem_cons.mp (show b ∈ L1 :: frs outer from hm) with r | r
    · rw [r, h0L] at q; cases q
    · rw [hFo b r] at q; cases q
  have hb5 : Kept h₀ h5 := fun b o q => hfl5.1 _ _ (hb0 b o q)
  obtain ⟨m2, hn2⟩ := F2.ns
  have mem1 : L1 ∈ frs (envAt 7 L1 a cd :: outer) := List.mem_cons_self
  have ns5 : h5.Ns L1 m2 := by
    obtain ⟨o', es, ep, e1, d1, r1⟩ := hn2
    have nf : ∀ vs, o'.data ≠ .fields vs := fun vs q => by rw [d1] at q; cases q
    obtain ⟨sl, e3⟩ := hup L1 mem1 o' e1 nf
    obtain ⟨sl', e5⟩ := (hu4.trans hu5) L1 _ e3 nf
    exact ⟨_, es, ep, e5, d1, r1⟩
  have htup5 := (htup.of_slots hu4).of_slots hu5
  refine wpAny_handleBy_builtin_as (X := "ValueError") (T := "ValueError") (b := true) (isSubtype_of_subB (by decide +kernel)) (isSubtype_of_subB (by decide +kernel)) (isSubtype_of_subB (by decide +kernel)) ?_
  refine (e_name (prog := PP) (h₀ := h₀) (d := .fn VE) (ρ := [(Str.ofString "ValueError", .fn VE)]) (by walk_at "mem")) _ _ _ hb5 (gk_cons (hV.has hb5 rfl rfl (show (Str.ofString "ValueError" == Str.ofString "__debug__") = false by decide +kernel) rfl rfl) gk_nil) fun c s6 k6 r6 => ?_
  obtain ⟨h6, t6, rfl, kk6⟩ := k6
  refine ⟨r6, let ⟨ob, q1, q2⟩ := hfl5.there; ⟨ob, kk6 _ _ q1, q2⟩, ?_⟩
  simp only [if_true]
  have hfl6 : Heap.FlyingW base (envAt 7 L1 a cd :: outer) e VE (.ref tup) h6 := by
    obtain ⟨f1, f2, f3, oe, vs, T, oT, ts, he, hc, hd', h1, hnT, hTe, hT, hdT, h3'⟩ := hfl5
    exact ⟨fun b o q => kk6 b o (f1 b o q), f2, f3.of_keeps fun b o q _ => ⟨o, kk6 b o q, rfl⟩, oe, vs, T, oT, ts, kk6 _ _ he, hc, hd', h1, hnT, hTe, kk6 _ _ hT, hdT, h3'⟩
  refine lands_againW hfl6 fun h7 hfl7 hu7 => ?_
  have u37 : h3.UpToSlots h7 := (hu4.trans hu5).trans ((Heap.UpToSlots.of_keeps kk6).trans hu7)
  have ns7 : h7.Ns L1 m2 := hu7.ns (ns5.keeps kk6)
  have htup7 : h7.TupAt tup _ := (htup5.keeps kk6).of_slots hu7
  refine wpAny_storeName_local (env := envAt 7 L1 a cd) rfl ns7 (fun h8 ns8 hs8 => ?_) rfl
  have hb8 : Kept h₀ h8 := fun b o q => (hs8.2 b fun r => by rw [r] at q; exact absurd (h0L.symm.trans q) (by simp)).trans (hfl7.1 _ _ (hb0 b o q))
  have hLe : L1 ≠ e := fun q => by
    obtain ⟨ob, ws, q1, q2, q3, _⟩ := hfl7.first
    obtain ⟨o', es, ep, e1, d1, _⟩ := ns7
    rw [← q, e1] at q1; cases q1; rw [d1] at q3; cases q3
  have hLt : L1 ≠ tup := fun q => by
    obtain ⟨ot, nt, q1, q2, q3⟩ := htup7
    obtain ⟨o', es, ep, e1, d1, _⟩ := ns7
    rw [← q, e1] at q1; cases q1; rw [d1] at q3; cases q3
  have exc8 : h8.ExcAt e "ValueError" (.ref tup) := by
    obtain ⟨ob, ws, q1, q2, q3, q4⟩ := hfl7.first
    exact ⟨ob, ws, (hs8.2 e (Ne.symm hLe)).trans q1, q2, q3, q4⟩
  have tup8 : h8.TupAt tup [.str (Str.ofString "invalid grouping") u] := let ⟨ot, nt, q1, q2, q3⟩ := htup7; ⟨ot, nt, (hs8.2 tup (Ne.symm hLt)).trans q1, q2, q3⟩
  have V8 : Vals (envAt 7 L1 a cd) h8 [(Str.ofString "refusal", .fn (.ref e)), (Str.ofString "str", .fn (.type "str"))] :=
    gk_cons ⟨.ref e, .loc rfl (show (Str.ofString "refusal" == Str.ofString "__debug__") = false by decide +kernel) rfl ns8 (by simp), rfl⟩
      (gk_cons (hS.has hb8 rfl rfl (show (Str.ofString "str" == Str.ofString "__debug__") = false by decide +kernel) rfl rfl) gk_nil)
  have hu : ((A.deeper (envAt 7 L1 a cd)).mark (some (.ref e))).units + 2 < cLine := show (A.deeper (envAt 7 L1 a cd)).units + 2 < cLine by have := R1.units; omega
  refine wpAny_execs_cons (wpAny_Return_some ((e_cmp (prog := PP) (w := w) (A := (A.deeper (envAt 7 L1 a cd)).mark (some (.ref e))) (h₀ := h8) (ρ := [(Str.ofString "refusal", .fn (.ref e)), (Str.ofString "str", .fn (.type "str"))]) (d1 := .str (Str.ofString "invalid grouping")) (d2 := .str (Str.ofString "invalid grouping"))
    (e_call_type (by walk_at "mem") (a_cons (e_name (by walk_at "mem")) a_nil) (o_str_exc hu exc8 tup8)) e_str o_eqs) _ _ _ (Kept.refl _) V8 fun vr s9 k9 r9 => ?_))
  have r9 : vr = .bool (Str.ofString "invalid grouping" == Str.ofString "invalid grouping") := r9
  have r9 : vr = .bool true := by rw [r9, beq_self_eq_true]
  subst r9
  obtain ⟨h9, t9, rfl, kk9⟩ := k9
  refine wpAny_nameGoes (env := envAt 7 L1 a cd) rfl (ns8.keeps kk9) rfl fun h10 m10 ns10 hs10 => ?_
  have hsame : ∃ t g, (AllBare s.gens → AllBare g) ∧ ∀ h : Heap, ({ s2 with heap := h, toks := t9 + 1, gens := g3 } : Shared) = { s with heap := h, toks := t, gens := g } := by
    obtain ⟨h2, t2, g2, e2, _, _, ab⟩ := id F2.kb
    refine ⟨t9 + 1, g3, fun hB => hg3 (F2.kb.bare hB), fun h => ?_⟩
    rw [e2]
  obtain ⟨tf, gf, hbf, esf⟩ := hsame
  refine Eq.mpr (congrArg (Q (.bool true)) (esf h10)) (hQ h10 tf gf hbf (fun b o q hm => ?_) fun b hm o q hnf => ?_)
  · have hbL : b ≠ L1 := fun r => by rw [r, hsL] at q; cases q
    have : base.get? b = some o := hbase b o (kk2 b o q) fun hm' => by
      rcases List.mem_cons.mp (show b ∈ L1 :: frs outer from hm') with r | r
      · exact hbL r
      · exact hm r
    exact (hs10.2 b hbL).trans (kk9 _ _ ((hs8.2 b hbL).trans (hfl7.1 _ _ this)))
  · have hbL : b ≠ L1 := fun r => by rw [r, hsL] at q; cases q
    obtain ⟨sl, e3⟩ := hup b (List.mem_cons_of_mem _ hm) o (kk2 b o q) hnf
    obtain ⟨sl', e7⟩ := u37 b _ e3 hnf
    exact ⟨sl', (hs10.2 b hbL).trans (kk9 _ _ ((hs8.2 b hbL).trans e7))⟩
end
section
variable {prog : Program} {w : World} {A : Around} {h₀ : Heap} {s₀ s s' : Shared} {μ : Bool} {env : Env} {ρ ρ' : List (Str × D)} {K : Fl → List (Str × D) → Prop}

/-- an expression at which generators may come and turn -/
def EvB (prog : Program) (w : World) (A : Around) (h₀ : Heap) (env : Env) (ρ : List (Str × D)) (e : Expr) (d : D) : Prop :=
  ∀ (s : Shared) (Q : Value → Shared → Prop) (E : Value → Shared → Prop), Kept h₀ s.heap → Vals env s.heap ρ → (∀ v s', KB true s s' → Rep s'.heap v d → Q v s') → wpAny (model prog w) A (eval e env) Q E s
def TsB (prog : Program) (w : World) (A : Around) (h₀ : Heap) (env : Env) (ρ : List (Str × D)) (e : Expr) (b : Bool) : Prop :=
  ∀ (s : Shared) (Q : Bool → Shared → Prop) (E : Value → Shared → Prop), Kept h₀ s.heap → Vals env s.heap ρ → (∀ s', KB true s s' → Q b s') → wpAny (model prog w) A (isTrue e env (eval e env)) Q E s

theorem TsB.eq {e : Expr} {d d' : Bool} (x : TsB prog w A h₀ env ρ e d) (h : d = d') : TsB prog w A h₀ env ρ e d' := h ▸ x
theorem eb_call_fn {x : Str} {p pos : Pos} {a : Addr} {o : Obj} {fd : FuncData} {e : Expr} {es : List Expr} {ds : List D} {d : D} (hf : (x, D.fn (.ref a)) ∈ ρ) (hg : h₀.get? a = some o) (hd : o.data = .func fd)
    (ha : EvA prog w A h₀ env ρ pos (e :: es) ds) (ho : OpNB prog w A h₀ (.ref a) ds d)
    (he : ∀ env, starEach (e :: es) env = (false, eval e env) :: starEach es env := by intro _; rfl) :
    EvB prog w A h₀ env ρ (.Call (.Name x p) (e :: es) [] pos) d := fun s Q E hb V hQ =>
  eval_call_fn hf hg hd ha hb V (fun vs s1 k1 r1 => ho s1 vs _ _ (hb.trans (keeps_kept k1)) r1 fun r s2 k2 r2 => hQ r s2 ((KB.of k1).trans k2) r2) he
theorem tb_cmp {op : CmpOp} {l r : Expr} {pos : Pos} {d1 d2 : D} {b : Bool} (h1 : EvB prog w A h₀ env ρ l d1) (h2 : EvE prog w A h₀ env ρ r d2) (ho : Op2 prog w A (compareOp op) d1 d2 (.bool b)) (hm : behindInMarks op r = false := by rfl) :
    TsB prog w A h₀ env ρ (.Compare l [op] [r] pos) b := fun s _ _ hb V hQ =>
  wpAny_isTrue_Compare1 (h1 s _ _ hb V fun v s1 k1 r1 => h2 s1 _ _ (hb.trans k1.kept) (V.kept k1.kept) fun u s2 k2 r2 =>
    ho s2 v u _ _ (r1.kept (keeps_kept k2)) r2 fun r s3 k3 r3 => by
      have r3 : r = .bool b := r3
      subst r3; exact wpAny_truthy_bool (hQ _ ((k1.trans (.of k2)).trans (.of k3)))) hm
theorem x_assignB {x : Str} {p pos : Pos} {e : Expr} {d : D} (ρ' : List (Str × D)) (he : EvB prog w A h₀ env ρ e d) (hx : Own env x) (hρ : Upd x d ρ ρ')
    (k : K .next ρ') (hxd : (x == ("__debug__" : Str)) = false := by decide) (hs : swapsWith e (some (.Name x p)) pos.line env = pure false := by rfl) :
    Ex1 prog w A h₀ s₀ true μ env ρ (.Assign [.Name x p] e pos) K := fun s Q E F hQ =>
  wpAny_Assign_Name (he s _ _ F.hb F.vals fun v s1 k1 r1 => (F.step k1).store hx hxd r1 hρ fun s' F' kd => hQ _ .next _ _ rfl k F' ((k1.kept.d.x (μ := μ) (g := s₀.heap)).trans kd.x)) hs
theorem x_ifB {t : Expr} {body orelse : List Stmt} {pos : Pos} {c : Bool} (ht : TsB prog w A h₀ env ρ t c) (h1 : c = true → Exs prog w A h₀ s₀ true μ env ρ body K) (h2 : c = false → Exs prog w A h₀ s₀ true μ env ρ orelse K) :
    Ex1 prog w A h₀ s₀ true μ env ρ (.If t body orelse pos) K := fun s Q E F hQ =>
  wpAny_If (ht s _ _ F.hb F.vals fun s1 k1 => by
    cases c with
    | true => exact h1 rfl s1 _ _ (F.step k1) fun f fl ρ' s' r k F' kd => hQ f fl ρ' s' r k F' ((k1.kept.d.x (μ := μ) (g := s₀.heap)).trans kd)
    | false => exact h2 rfl s1 _ _ (F.step k1) fun f fl ρ' s' r k F' kd => hQ f fl ρ' s' r k F' ((k1.kept.d.x (μ := μ) (g := s₀.heap)).trans kd))

/-- the frame after an exception that came and was caught below -/
theorem Fm.caught (F : Fm h₀ s₀ true env ρ s) {h : Heap} {t : Nat} {g : Array GenState} (hB : AllBare s.gens → AllBare g)
    (hk : ∀ b o, s.heap.get? b = some o → b ≠ env.locals → h.get? b = some o) (hl : ∀ o, s.heap.get? env.locals = some o → (∀ vs, o.data ≠ .fields vs) → ∃ sl, h.get? env.locals = some { o with slots := sl }) :
    Fm h₀ s₀ true env ρ { s with heap := h, toks := t, gens := g } := by
  obtain ⟨hh, tt, gg, es, k0, eg, ab⟩ := id F.kb
  obtain ⟨mL, nL⟩ := id F.ns
  have nsL : ∀ {m}, s.heap.Ns env.locals m → h.Ns env.locals m := fun n => by
    obtain ⟨o, es, ep, e, d, r⟩ := n
    obtain ⟨sl, e'⟩ := hl o e fun vs q => by rw [d] at q; cases q
    exact ⟨_, es, ep, e', d, r⟩
  have nsK : ∀ {a m}, s.heap.Ns a m → h.Ns a m := fun {a m} n => by
    by_cases q : a = env.locals
    · subst q; exact nsL n
    · exact n.at' fun o e => hk _ o e q
  have cellK : ∀ {c v}, s.heap.IsCell c v → h.IsCell c v := fun {c v} i => let ⟨o, e, d⟩ := i; ⟨o, hk c o e (Ne.symm (ns_at_ne nL i)), d⟩
  have kD : KeptD s.heap h := fun b o e f => hk b o e fun q => by
    obtain ⟨o', es, ep, e', d, r⟩ := nL
    rw [q, e'] at e; cases e; rw [d] at f; cases f
  refine ⟨F.base, ⟨h, t, g, by rw [es], fun b o e => hk b o (F.kb.kept b o e) (fun q => by rw [q, F.newL] at e; cases e), (fun q => by cases q), fun q => hB (F.kb.bare q)⟩, ⟨mL, nsL nL⟩, F.newL,
    fun x c q => ⟨let ⟨v, i⟩ := (F.cell x c q).1; ⟨v, cellK i⟩, (F.cell x c q).2⟩, F.apart, F.neG, F.neB, F.fn, fun p hp => ?_⟩
  obtain ⟨v, S, r⟩ := F.vals p hp
  refine ⟨v, ?_, r.keptD kD⟩
  cases S with
  | loc a b c d e => exact .loc a b c (nsK d) e
  | cell a b c d e => exact .cell a b c d (cellK e)
  | free a b b' c d e => exact .free a b b' c d (cellK e)
  | glob a b c d e => exact .glob a b c (nsK d) e
  | blt a b c d e f g => exact .blt a b c (nsK d) e (nsK f) g
end
/-- what the law's text reaches -/
structure Txt (h₀ : Heap) (f : Nat → Addr) : Prop where
  base : Base h₀
  f1 : TextFn h₀ (f 1) 1
  f4 : TextFn h₀ (f 4) 4
  f6 : TextFn h₀ (f 6) 6
  f7 : TextFn h₀ (f 7) 7
  f8 : TextFn h₀ (f 8) 8
  f9 : TextFn h₀ (f 9) 9
  f10 : TextFn h₀ (f 10) 10
  f11 : TextFn h₀ (f 11) 11
  f12 : TextFn h₀ (f 12) 12
  f13 : TextFn h₀ (f 13) 13
  g1 : GHas h₀ (Str.ofString "_generate_overlap_table", .fn (.ref (f 1)))
  g4 : GHas h₀ (Str.ofString "_grouping_intervals", .fn (.ref (f 4)))
  g6 : GHas h₀ (Str.ofString "_law_marks", .fn (.ref (f 6)))
  g7 : GHas h₀ (Str.ofString "_law_refused", .fn (.ref (f 7)))
  g8 : GHas h₀ (Str.ofString "_law_due", .fn (.ref (f 8)))
  g9 : GHas h₀ (Str.ofString "_law_grown", .fn (.ref (f 9)))
  g10 : GHas h₀ (Str.ofString "_law_table", .fn (.ref (f 10)))
  g11 : GHas h₀ (Str.ofString "_law_falls", .fn (.ref (f 11)))
  g12 : GHas h₀ (Str.ofString "_law_euclid", .fn (.ref (f 12)))
  g13 : GHas h₀ (Str.ofString "_law_own", .fn (.ref (f 13)))
  cm : GHas h₀ (Str.ofString "CHAR_MAX", .int 127)
  ve : GHas h₀ (Str.ofString "ValueError", .fn VE)
  str : GHas h₀ (Str.ofString "str", .fn (.type "str"))
  len : GHas h₀ (Str.ofString "len", .fn (.builtin "len"))
  min : GHas h₀ (Str.ofString "min", .fn (.builtin "min"))
  max : GHas h₀ (Str.ofString "max", .fn (.builtin "max"))
  sum : GHas h₀ (Str.ofString "sum", .fn (.builtin "sum"))
  range : GHas h₀ (Str.ofString "range", .fn (.type "range"))
  set : GHas h₀ (Str.ofString "set", .fn (.type "set"))

def movesS (t : List Int) (size : Int) : List Int := ((rangeL 1 (size + 1)).filter fun mv => decide (sl t (some mv) none = sl t none (some (size - mv)))).map fun mv => mv
def rowS (draws : List Int) : List Int := ((draws.filter fun _ => true).map fun x => 1 + (x + 3).fmod 7) ++ sl [5, 2] (some (draws.length : Nat)) none
def sumsS (row : List Int) : List Int := ((rangeL 0 row.length).filter fun _ => true).map fun k => (sl row none (some (k + 1))).sum
def rulerS (row : List Int) (e : Int) : List Int := row ++ ([[0, 1], [], [127, 1]] : List (List Int)).getD e.toNat []
def stepS (row : List Int) (e : Int) : Int := if (e == 0) = true then idx row (-1) else 0

/-- what the law asks at one length -/
structure TurnOk (marks sums : List Int) (size : Nat) (t t' : List Int) : Prop where
  grown : t' = grownS t marks
  table : ovS t' = tableS t'
  pair : ((uniq t' : Nat) : Int) = (euclidN size size sums).1 ∧ fallsS (ovS t') = (euclidN size size sums).2
  own : marksS (ownS (fallsS (ovS t'))) size 40 = some (movesS t' size ++ (List.replicate ((ownS (fallsS (ovS t'))).countP (· == 0)) [(size : Int) + idx (fallsS (ovS t')) (-1)]).flatten)
  own0 : 0 < (ownS (fallsS (ovS t'))).length → (ownS (fallsS (ovS t'))).getD 0 0 ≠ 0

section
variable {w : World} {A : Around} {h₀ : Heap} {f : Nat → Addr} {s₀ : Shared} {L a : Addr} {cd : Value}

/-- the names of the text, at the law's loop -/
def γL (f : Nat → Addr) : List (Str × D) := [(Str.ofString "_law_grown", .fn (.ref (f 9))), (Str.ofString "_generate_overlap_table", .fn (.ref (f 1))), (Str.ofString "_law_table", .fn (.ref (f 10))), (Str.ofString "_law_falls", .fn (.ref (f 11))),
  (Str.ofString "_law_euclid", .fn (.ref (f 12))), (Str.ofString "_law_own", .fn (.ref (f 13))), (Str.ofString "_law_marks", .fn (.ref (f 6))), (Str.ofString "len", .fn (.builtin "len")), (Str.ofString "set", .fn (.type "set")), (Str.ofString "range", .fn (.type "range"))]

theorem body_turn (X : Txt h₀ f) (R : Room A 40) {marks sums : List Int} {size : Nat} {t t' : List Int} (hs : 1 ≤ size ∧ size ≤ 12) (ht : t.length + 1 = size) (T : TurnOk marks sums size t t') (hm : ∀ m ∈ marks, 0 ≤ m) (hsu : ∀ m ∈ sums, 1 ≤ m) (hsl : sums.length ≤ 100) {K : Fl → List (Str × D) → Prop}
    (st : Stmt) (hst : st = (bodyOf (stmtAt 14)).getD 8 (.Pass ⟨0, 0, 0, 0⟩)) (hK : K .next ((Str.ofString "text", .ints t') :: (Str.ofString "marks", .ints marks) :: (Str.ofString "sums", .ints sums) :: γL f)) :
    Exs PP w A h₀ s₀ true false (envAt 14 L a cd) ((Str.ofString "size", .int size) :: (Str.ofString "text", .ints t) :: (Str.ofString "marks", .ints marks) :: (Str.ofString "sums", .ints sums) :: γL f) (forB st) K := by
  subst hst
  unfold γL at *
  obtain ⟨o9, _, _, _, ho9, hd9, _⟩ := id X.f9
  obtain ⟨o1, _, _, _, ho1, hd1, _⟩ := id X.f1
  obtain ⟨o10, _, _, _, ho10, hd10, _⟩ := id X.f10
  obtain ⟨o11, _, _, _, ho11, hd11, _⟩ := id X.f11
  obtain ⟨o12, _, _, _, ho12, hd12, _⟩ := id X.f12
  obtain ⟨o13, _, _, _, ho13, hd13, _⟩ := id X.f13
  obtain ⟨o6, _, _, _, ho6, hd6, _⟩ := id X.f6
  have ht' : t'.length = size := by
    rw [T.grown]; unfold grownS; rw [foldl_melt_length]; simp; omega
  have hov := ovS_length t'
  have hog := ovS_good t'
  have hu : A.units + 100 < cLine := by have := R.units; omega
  refine x_cons (x_assign (d := .ints t') [(Str.ofString "text", .ints t'), (Str.ofString "size", .int size), (Str.ofString "marks", .ints marks), (Str.ofString "sums", .ints sums), (Str.ofString "_law_grown", .fn (.ref (f 9))), (Str.ofString "_generate_overlap_table", .fn (.ref (f 1))), (Str.ofString "_law_table", .fn (.ref (f 10))), (Str.ofString "_law_falls", .fn (.ref (f 11))),
    (Str.ofString "_law_euclid", .fn (.ref (f 12))), (Str.ofString "_law_own", .fn (.ref (f 13))), (Str.ofString "_law_marks", .fn (.ref (f 6))), (Str.ofString "len", .fn (.builtin "len")), (Str.ofString "set", .fn (.type "set")), (Str.ofString "range", .fn (.type "range"))] ?_ (by walk_at "own") (by walk_at "upd") ?_)
  · rw [T.grown]
    exact e_call_fn (by walk_at "mem") ho9 hd9 (a_cons (by walk_at "ev") (a_cons (by walk_at "ev") a_nil)) (call_grown X.f9 X.base (R.le (k := 40) (j := 3) (by omega)) X.len X.min X.max (by omega) hm)
  refine x_cons (x_assign (d := .ints (ovS t')) [(Str.ofString "table", .ints (ovS t')), (Str.ofString "text", .ints t'), (Str.ofString "size", .int size), (Str.ofString "marks", .ints marks), (Str.ofString "sums", .ints sums), (Str.ofString "_law_grown", .fn (.ref (f 9))), (Str.ofString "_generate_overlap_table", .fn (.ref (f 1))), (Str.ofString "_law_table", .fn (.ref (f 10))), (Str.ofString "_law_falls", .fn (.ref (f 11))),
    (Str.ofString "_law_euclid", .fn (.ref (f 12))), (Str.ofString "_law_own", .fn (.ref (f 13))), (Str.ofString "_law_marks", .fn (.ref (f 6))), (Str.ofString "len", .fn (.builtin "len")), (Str.ofString "set", .fn (.type "set")), (Str.ofString "range", .fn (.type "range"))] ?_ (by walk_at "own") (by walk_at "upd") ?_)
  · exact e_call_fn (by walk_at "mem") ho1 hd1 (a_cons (by walk_at "ev") a_nil) (call_overlap X.f1 X.base (R.le (k := 40) (j := 3) (by omega)) X.len X.range (by omega))
  refine x_cons (x_if (c := false) ?_ (fun q => by cases q) (fun _ => x_nil ?_))
  · refine TsE.eq (t_cmp (by walk_at "ev") (e_call_fn (by walk_at "mem") ho10 hd10 (a_cons (by walk_at "ev") a_nil) (call_table X.f10 X.base (R.le (k := 40) (j := 3) (by omega)) X.len X.range X.max (by omega))) (o_nel hu)) ?_
    simp [T.table]
  refine x_cons (x_assign (d := .ints (fallsS (ovS t'))) [(Str.ofString "falls", .ints (fallsS (ovS t'))), (Str.ofString "text", .ints t'), (Str.ofString "size", .int size), (Str.ofString "marks", .ints marks), (Str.ofString "sums", .ints sums), (Str.ofString "_law_grown", .fn (.ref (f 9))), (Str.ofString "_generate_overlap_table", .fn (.ref (f 1))), (Str.ofString "_law_table", .fn (.ref (f 10))), (Str.ofString "_law_falls", .fn (.ref (f 11))),
    (Str.ofString "_law_euclid", .fn (.ref (f 12))), (Str.ofString "_law_own", .fn (.ref (f 13))), (Str.ofString "_law_marks", .fn (.ref (f 6))), (Str.ofString "len", .fn (.builtin "len")), (Str.ofString "set", .fn (.type "set")), (Str.ofString "range", .fn (.type "range"))] ?_ (by walk_at "own") (by walk_at "upd") ?_)
  · exact e_call_fn (by walk_at "mem") ho11 hd11 (a_cons (by walk_at "ev") a_nil) (call_falls X.f11 X.base (R.le (k := 40) (j := 1) (by omega)) X.len (by omega) hog)
  have ok := euclid_ok size size sums (by omega) (by omega) hsu
  have hfl : fallsS (ovS t') = (euclidN size size sums).2 := T.pair.2
  rw [← hfl] at ok
  have hfn := ok.length
  have hfne := ok.ne
  refine x_cons (x_if (c := false) ?_ (fun q => by cases q) (fun _ => x_nil ?_))
  · refine TsE.eq (t_cmp (d1 := .pair (uniq t' : Nat) (fallsS (ovS t'))) (d2 := .pair (euclidN size size sums).1 (euclidN size size sums).2) (e_pair (a_cons (e_call_builtin (by walk_at "mem") (a_cons (e_call_type (by walk_at "mem") (a_cons (by walk_at "ev") a_nil) (c_set R.hh)) a_nil) c_lenset) (a_cons (by walk_at "ev") a_nil)))
      (e_call_fn (by walk_at "mem") ho12 hd12 (a_cons (by walk_at "ev") (a_cons (by walk_at "ev") a_nil)) (call_euclid X.f12 X.base X.g12 X.min X.max size (R.le (k := 40) (j := size + 4) (by omega)) size sums (by omega) (by omega) hsu (by omega))) (o_nep hu)) ?_
    rw [← T.pair.1, ← T.pair.2]; simp
  refine x_cons (x_assign (d := .ints (ownS (fallsS (ovS t')))) [(Str.ofString "own", .ints (ownS (fallsS (ovS t')))), (Str.ofString "falls", .ints (fallsS (ovS t'))), (Str.ofString "text", .ints t'), (Str.ofString "size", .int size), (Str.ofString "marks", .ints marks), (Str.ofString "sums", .ints sums), (Str.ofString "_law_grown", .fn (.ref (f 9))), (Str.ofString "_generate_overlap_table", .fn (.ref (f 1))), (Str.ofString "_law_table", .fn (.ref (f 10))), (Str.ofString "_law_falls", .fn (.ref (f 11))),
    (Str.ofString "_law_euclid", .fn (.ref (f 12))), (Str.ofString "_law_own", .fn (.ref (f 13))), (Str.ofString "_law_marks", .fn (.ref (f 6))), (Str.ofString "len", .fn (.builtin "len")), (Str.ofString "set", .fn (.type "set")), (Str.ofString "range", .fn (.type "range"))] ?_ (by walk_at "own") (by walk_at "upd") ?_)
  · exact e_call_fn (by walk_at "mem") ho13 hd13 (a_cons (by walk_at "ev") a_nil) (call_own X.f13 X.base (R.le (k := 40) (j := 2) (by omega)) X.len (by omega))
  have hmvl : (movesS t' size).length ≤ 500 := by
    unfold movesS
    rw [List.length_map]
    refine Nat.le_trans (List.length_filter_le _ _) ?_
    rw [rangeL_length]; omega
  have hrl := rangeL_length 1 ((size : Int) + 1)
  refine x_cons (x_assign_comp (d := .rng 1 ((size : Int) + 1)) (ns := rangeL 1 ((size : Int) + 1)) [(Str.ofString "moves", .ints (movesS t' size)), (Str.ofString "own", .ints (ownS (fallsS (ovS t')))), (Str.ofString "falls", .ints (fallsS (ovS t'))), (Str.ofString "text", .ints t'), (Str.ofString "size", .int size), (Str.ofString "marks", .ints marks), (Str.ofString "sums", .ints sums), (Str.ofString "_law_grown", .fn (.ref (f 9))), (Str.ofString "_generate_overlap_table", .fn (.ref (f 1))), (Str.ofString "_law_table", .fn (.ref (f 10))), (Str.ofString "_law_falls", .fn (.ref (f 11))),
    (Str.ofString "_law_euclid", .fn (.ref (f 12))), (Str.ofString "_law_own", .fn (.ref (f 13))), (Str.ofString "_law_marks", .fn (.ref (f 6))), (Str.ofString "len", .fn (.builtin "len")), (Str.ofString "set", .fn (.type "set")), (Str.ofString "range", .fn (.type "range"))]
    (by walk_at "ev") (src_rng R.hh (by omega) (by omega)) (by omega) [(Str.ofString "text", .ints t'), (Str.ofString "size", .int size)] rfl rfl (by decide +kernel) (by decide +kernel) (by decide +kernel) rfl (by walk_at "pass") ?_ ?_ rfl rfl (by decide +kernel) (by unfold movesS; walk_at "upd") ?_)
  · intro mv _ C
    refine TsE.eq ?_ rfl
    exact t_cmp (by walk_at "ev") (by walk_at "ev") (o_eql hu)
  · intro mv _ _ C
    walk_at "ev"
  have hol : (ownS (fallsS (ovS t'))).length ≤ 20 := by
    unfold ownS
    have := sl_length (fallsS (ovS t')) none (some (keptN (fallsS (ovS t')) (fallsS (ovS t')).length : Nat))
    rw [List.length_append]
    split <;> simp only [List.length_cons, List.length_nil] <;> omega
  have hcl := List.countP_le_length (p := fun x : Int => x == 0) (l := ownS (fallsS (ovS t')))
  have hfp : 0 < (fallsS (ovS t')).length := List.length_pos_iff.mpr hfne
  refine x_cons (x_ifB (c := false) ?_ (fun q => by cases q) (fun _ => x_nil ?_))
  · refine TsB.eq (tb_cmp (d1 := .ints (movesS t' size ++ (List.replicate ((ownS (fallsS (ovS t'))).countP (· == 0)) [(size : Int) + idx (fallsS (ovS t')) (-1)]).flatten)) (eb_call_fn (by walk_at "mem") ho6 hd6 (a_cons (by walk_at "ev") (a_cons (by walk_at "ev") a_nil)) (call_marks (N := 40) X.f6 X.f4 X.base (R.le (k := 40) (j := 4) (by omega)) X.cm X.g4 T.own0 (by omega) T.own))
      (e_bin (by walk_at "ev") (e_bin (e_list1 (e_bin (d2 := .int (idx (fallsS (ovS t')) (-1))) (by walk_at "ev") ?_ o_add)) (e_count (by walk_at "ev") (by walk_at "ev")) (o_mull ?_ ?_)) (o_addl ?_)) (o_nel hu)) ?_
    · walk_at "ev"
      omega
    · simp only [List.length_cons, List.length_nil]; omega
    · omega
    · simp only [List.length_flatten, List.map_replicate, List.sum_replicate_nat, List.length_cons, List.length_nil]; omega
    · rw [Int.toNat_natCast]; simp only [decide_true, Bool.not_true]
  · exact (x_nil hK).sub (by walk_at "sub")
end
set_option maxHeartbeats 4000000

/-- what the law asks -/
structure LawOk (row : List Int) (e : Int) (marks : List Int) (T : Nat → List Int) : Prop where
  len : 1 ≤ row.length ∧ row.length ≤ 6
  pos : ∀ x ∈ row, 1 ≤ x
  mks : marksS (rulerS row e) 11 40 = some marks
  due : marks = dueS (sumsS row) (stepS row e) 11
  mpos : ∀ m ∈ marks, 0 ≤ m
  spos : ∀ m ∈ sumsS row, 1 ≤ m
  t0 : T 0 = []
  tl : ∀ i, i ≤ 12 → (T i).length = i
  turn : ∀ i, i < 12 → TurnOk marks (sumsS row) (i + 1) (T i) (T (i + 1))

section
variable {w : World} {A : Around} {h₀ : Heap} {f : Nat → Addr} {s₀ : Shared} {L a : Addr} {cd : Value}

theorem x_refused_if (X : Txt h₀ f) (R : Room A 40) (hfr : A.frames = some [envAt 14 L a cd]) {marks sums ruler : List Int} {ρ : List (Str × D)} (hsl : 0 < sums.length) (hlt : ruler.length + 1 ≤ 100)
    (m1 : (Str.ofString "marks", D.ints marks) ∈ ρ) (m2 : (Str.ofString "ruler", D.ints ruler) ∈ ρ) (m3 : (Str.ofString "_law_due", D.fn (.ref (f 8))) ∈ ρ) (m4 : (Str.ofString "_law_refused", D.fn (.ref (f 7))) ∈ ρ) (m5 : (Str.ofString "sums", D.ints sums) ∈ ρ)
    (st : Stmt) (hst : st = (bodyOf (stmtAt 14)).getD 6 (.Pass ⟨0, 0, 0, 0⟩))
    {row : List Int} {e : Int} (m6 : (Str.ofString "row", D.ints row) ∈ ρ) (m7 : (Str.ofString "end", D.int e) ∈ ρ) (hrow : 0 < row.length) (hdue : marks = dueS sums (stepS row e) 11) {K : Fl → List (Str × D) → Prop} (hK : K .next ρ) :
    Ex1 PP w A h₀ s₀ true false (envAt 14 L a cd) ρ st K := by
  subst hst
  intro s Q E F hQ
  obtain ⟨o8, _, _, _, ho8, hd8, _⟩ := id X.f8
  obtain ⟨o7, _, _, _, ho7, hd7, _⟩ := id X.f7
  have hu : A.units + 100 < cLine := by have := R.units; omega
  refine wpAny_If (isTrue_or ((t_cmp (d1 := .ints marks) (d2 := .ints (dueS sums (stepS row e) 11)) (e_name m1) (e_call_fn m3 ho8 hd8 (a_cons (e_name m5) (a_cons (d := .int (stepS row e)) (e_if (c := e == 0) (t_cmp (e_name m7) e_int o_eq) ?_ ?_) (a_cons e_int a_nil))) (call_due X.f8 X.base (R.le (k := 40) (j := 3) (by omega)) X.range hsl (by omega))) (o_nel hu)) s _ _ F.hb F.vals fun s1 k1 => ?_))
  · intro q
    unfold stepS; rw [if_pos q]; exact e_item (e_name m6) (e_un e_int o_neg) (by omega)
  · intro q
    unfold stepS; rw [if_neg (by rw [q]; simp)]; exact e_int
  rw [show (!decide (marks = dueS sums (stepS row e) 11)) = false by simp [← hdue]]
  have F1 := F.keeps k1
  refine isTrue_or (isTrue_not (isTrue_plain (eval_call_fn m4 ho7 hd7 (a_cons (d := .ints ([0] ++ ruler)) (e_bin (e_list1 e_int) (e_name m2) (o_addl (by simp; omega))) a_nil) F1.hb F1.vals fun vs s2 k2 r2 => ?_) rfl))
  obtain ⟨v, rfl, rv⟩ := r2.one
  have F2 := F1.keeps k2
  have fr : ∀ b, b ∈ frs [envAt 14 L a cd] ↔ b = L := fun b => by
    show b ∈ [L] ↔ _
    simp
  refine call_refused X.f7 X.f6 X.f4 X.base (R.le (by omega)) X.cm X.ve X.g4 X.g6 X.str hfr (fun env he => ?_) (fun b hb => ?_) F2.hb rv (by simp) rfl fun h t g hB hk hl => ?_
  · simp at he; subst he
    obtain ⟨m, n⟩ := F2.ns
    exact ⟨by show ScopeKind.function ≠ _; decide, L, m, rfl, n⟩
  · rw [fr] at hb; subst hb
    exact none_back F2.base F2.newL
  have F3 := F2.caught (t := t) hB (fun b o e q => hk b o e (by rw [fr]; exact q)) (fun o e nf => hl L (by rw [fr]) o e nf)
  refine wpAny_truthy_bool ?_
  refine isTrue_or_nil ?_
  refine wpAny_execs_nil (hQ _ .next _ _ rfl hK F3 ?_)
  intro b o e fy _
  have e2 := keeps_kept (keeps_trans k1 k2) b o e
  refine hk b o e2 fun hm => ?_
  rw [fr] at hm
  obtain ⟨m, o', es, ep, e', d', _⟩ := F2.ns
  rw [hm, show s2.heap.get? L = some o' from e'] at e2; cases e2; rw [d'] at fy; cases fy

theorem e_slice_any {prog : Program} {env : Env} {ρ : List (Str × D)} {l : Expr} {lo hi : Option Expr} {p pos : Pos} {ns : List Int} {i j : Option Int} (h1 : EvE prog w A h₀ env ρ l (.ints ns)) (h2 : EvP prog w A h₀ env ρ lo i) (h3 : EvP prog w A h₀ env ρ hi j) :
    EvE prog w A h₀ env ρ (.Subscript l (.Slice lo hi none p) pos) (.ints (sl ns i j)) := fun s Q E hb V hQ =>
  Subscript_ (h1 s _ _ hb V fun v s1 k1 r1 => wpAny_Slice (h2.run (hb.trans (keeps_kept k1)) (V.kept (keeps_kept k1)) fun a s2 k2 pa =>
    h3.run (hb.trans (keeps_kept (keeps_trans k1 k2))) (V.kept (keeps_kept (keeps_trans k1 k2))) fun b s3 k3 pb => by
      obtain ⟨z, x, vs, rfl, q, ii⟩ := IsInts.keptD (keeps_kept (keeps_trans k2 k3)).d r1
      obtain ⟨us, e, uu⟩ := sl_ints ii i j
      have hl := ii.length
      rw [evalPart_none]
      refine wpAny_pure ?_
      have hq := q.isList
      refine tail_any (hq.push _).typeIs slot_list_getitem.lookup (wpAny_getItem_list_slice (hq.push _) (Heap.IsSliceOf.new ..) pa pb .none (by simp) ?_ (by rw [List.size_toArray, sizeLine_eq]; omega)) rfl
      rw [Heap.size_push]
      refine hQ _ _ (keeps_trans (keeps_trans (keeps_trans k1 k2) k3) (keeps_mk' (Kept.trans (Kept.push _ _) (Kept.push _ _)))) ?_
      refine ⟨Nat.le_trans (sl_length _ _ _) z, _, us, rfl, ⟨0, ?_⟩, uu⟩
      have g := Heap.get?_push_size (s3.heap.push { cls := .type "slice", data := .fields #[a, b, .none] }) (o := { cls := .type "list", data := .seq (slicePick vs.toArray i j none) }) rfl
      rw [Heap.size_push] at g
      rw [g, e]))

def drawsS (script : List Int) : List Int := sl script none (some 4)
def endS (draws : List Int) : Int := draws.sum.fmod 3

def γB : List (Str × D) := [(Str.ofString "len", .fn (.builtin "len")), (Str.ofString "set", .fn (.type "set")), (Str.ofString "range", .fn (.type "range")), (Str.ofString "sum", .fn (.builtin "sum"))]
def γF (f : Nat → Addr) : List (Str × D) := [(Str.ofString "_law_grown", .fn (.ref (f 9))), (Str.ofString "_generate_overlap_table", .fn (.ref (f 1))), (Str.ofString "_law_table", .fn (.ref (f 10))), (Str.ofString "_law_falls", .fn (.ref (f 11))),
  (Str.ofString "_law_euclid", .fn (.ref (f 12))), (Str.ofString "_law_own", .fn (.ref (f 13))), (Str.ofString "_law_marks", .fn (.ref (f 6))), (Str.ofString "_law_due", .fn (.ref (f 8))), (Str.ofString "_law_refused", .fn (.ref (f 7)))]

theorem drawsS_len (script : List Int) : (drawsS script).length ≤ 4 := by
  unfold drawsS sl
  simp only [Option.elim, List.length_take, List.drop_zero]
  have : clipAt script.length 4 ≤ 4 := by have := clipAt_nat script.length 4; simp at this; omega
  omega

theorem body_law (X : Txt h₀ f) (R : Room A 40) (hfr : A.frames = some [envAt 14 L a cd]) {script : List Int} {marks : List Int} {T : Nat → List Int} (O : LawOk (rowS (drawsS script)) (endS (drawsS script)) marks T) :
    Exs PP w A h₀ s₀ true false (envAt 14 L a cd) ((Str.ofString "script", .argl script) :: (γF f ++ γB)) (bodyOf (stmtAt 14)) fun fl _ => fl = .ret (.bool true) := by
  have hdl := drawsS_len script
  have hu : A.units + 100 < cLine := by have := R.units; omega
  obtain ⟨o6, _, _, _, ho6, hd6, _⟩ := id X.f6
  unfold γF γB
  simp only [List.cons_append, List.nil_append]
  generalize hdr : drawsS script = draws at *
  generalize hrw : rowS draws = row at *
  generalize hen : endS draws = e at *
  have hrl := O.len
  have hru : (rulerS row e).length ≤ 50 := by
    unfold rulerS
    have : (([[0, 1], [], [127, 1]] : List (List Int)).getD e.toNat []).length ≤ 2 := by
      match e.toNat with
      | 0 => decide
      | 1 => decide
      | 2 => decide
      | n + 3 => simp
    rw [List.length_append]; omega
  have he : 0 ≤ e ∧ e < 3 := by
    rw [← hen]; unfold endS
    rw [Int.fmod_eq_emod_of_nonneg _ (by omega)]
    omega
  have hsl : (sumsS row).length = row.length := by
    unfold sumsS; rw [List.length_map, List.filter_eq_self.mpr (by simp), rangeL_length]; omega
  refine x_cons (x_assign (d := .ints draws) [(Str.ofString "draws", .ints draws), (Str.ofString "_law_grown", .fn (.ref (f 9))), (Str.ofString "_generate_overlap_table", .fn (.ref (f 1))), (Str.ofString "_law_table", .fn (.ref (f 10))), (Str.ofString "_law_falls", .fn (.ref (f 11))),
    (Str.ofString "_law_euclid", .fn (.ref (f 12))), (Str.ofString "_law_own", .fn (.ref (f 13))), (Str.ofString "_law_marks", .fn (.ref (f 6))), (Str.ofString "_law_due", .fn (.ref (f 8))), (Str.ofString "_law_refused", .fn (.ref (f 7))), (Str.ofString "len", .fn (.builtin "len")), (Str.ofString "set", .fn (.type "set")), (Str.ofString "range", .fn (.type "range")), (Str.ofString "sum", .fn (.builtin "sum"))] ?_ (by walk_at "own") (by walk_at "upd") ?_)
  · rw [← hdr]
    exact e_slice_arg (e_name (by walk_at "mem")) .none (.some e_int)
  refine x_cons (x_assign (d := .ints row) [(Str.ofString "row", .ints row), (Str.ofString "draws", .ints draws), (Str.ofString "_law_grown", .fn (.ref (f 9))), (Str.ofString "_generate_overlap_table", .fn (.ref (f 1))), (Str.ofString "_law_table", .fn (.ref (f 10))), (Str.ofString "_law_falls", .fn (.ref (f 11))),
    (Str.ofString "_law_euclid", .fn (.ref (f 12))), (Str.ofString "_law_own", .fn (.ref (f 13))), (Str.ofString "_law_marks", .fn (.ref (f 6))), (Str.ofString "_law_due", .fn (.ref (f 8))), (Str.ofString "_law_refused", .fn (.ref (f 7))), (Str.ofString "len", .fn (.builtin "len")), (Str.ofString "set", .fn (.type "set")), (Str.ofString "range", .fn (.type "range")), (Str.ofString "sum", .fn (.builtin "sum"))] ?_ (by walk_at "own") (by walk_at "upd") ?_)
  · rw [← hrw]
    unfold rowS
    refine e_bin (e_comp (d := .ints draws) (by walk_at "ev") (src_ints R.hh) (by omega) [] rfl rfl (by decide +kernel) (by decide +kernel) (by decide +kernel) rfl gk_nil ?_ ?_) (e_slice_any (e_list2 e_int e_int) (.some (by walk_at "ev")) .none) (o_addl ?_)
    · intro x _ C; rfl
    · intro x _ _ C
      walk_at "ev"
      decide
    · have := sl_length [5, 2] (some (draws.length : Nat)) none
      have := List.length_filter_le (fun _ : Int => true) draws
      simp only [List.length_map, List.length_cons, List.length_nil] at *; omega
  refine x_cons (x_assign_comp (d := .rng 0 (row.length : Nat)) (ns := rangeL 0 (row.length : Nat)) [(Str.ofString "sums", .ints (sumsS row)), (Str.ofString "row", .ints row), (Str.ofString "draws", .ints draws), (Str.ofString "_law_grown", .fn (.ref (f 9))), (Str.ofString "_generate_overlap_table", .fn (.ref (f 1))), (Str.ofString "_law_table", .fn (.ref (f 10))), (Str.ofString "_law_falls", .fn (.ref (f 11))),
    (Str.ofString "_law_euclid", .fn (.ref (f 12))), (Str.ofString "_law_own", .fn (.ref (f 13))), (Str.ofString "_law_marks", .fn (.ref (f 6))), (Str.ofString "_law_due", .fn (.ref (f 8))), (Str.ofString "_law_refused", .fn (.ref (f 7))), (Str.ofString "len", .fn (.builtin "len")), (Str.ofString "set", .fn (.type "set")), (Str.ofString "range", .fn (.type "range")), (Str.ofString "sum", .fn (.builtin "sum"))]
    (by walk_at "ev") (src_rng R.hh (by omega) (by omega)) (by rw [rangeL_length]; omega) [(Str.ofString "row", .ints row), (Str.ofString "sum", .fn (.builtin "sum"))] rfl rfl (by decide +kernel) (by decide +kernel) (by decide +kernel) rfl (by walk_at "pass") ?_ ?_ rfl rfl (by decide +kernel) (by unfold sumsS; walk_at "upd") ?_)
  · intro k _ C; rfl
  · intro k _ _ C
    walk_at "ev"
    exact R.hh
  refine x_cons (x_assign (d := .int e) [(Str.ofString "end", .int e), (Str.ofString "sums", .ints (sumsS row)), (Str.ofString "row", .ints row), (Str.ofString "_law_grown", .fn (.ref (f 9))), (Str.ofString "_generate_overlap_table", .fn (.ref (f 1))), (Str.ofString "_law_table", .fn (.ref (f 10))), (Str.ofString "_law_falls", .fn (.ref (f 11))),
    (Str.ofString "_law_euclid", .fn (.ref (f 12))), (Str.ofString "_law_own", .fn (.ref (f 13))), (Str.ofString "_law_marks", .fn (.ref (f 6))), (Str.ofString "_law_due", .fn (.ref (f 8))), (Str.ofString "_law_refused", .fn (.ref (f 7))), (Str.ofString "len", .fn (.builtin "len")), (Str.ofString "set", .fn (.type "set")), (Str.ofString "range", .fn (.type "range"))] ?_ (by walk_at "own") (by walk_at "upd") ?_)
  · rw [← hen]
    unfold endS
    walk_at "ev"
    · exact R.hh
    · decide
  refine x_cons (x_assign (d := .ints (rulerS row e)) [(Str.ofString "ruler", .ints (rulerS row e)), (Str.ofString "end", .int e), (Str.ofString "sums", .ints (sumsS row)), (Str.ofString "row", .ints row), (Str.ofString "_law_grown", .fn (.ref (f 9))), (Str.ofString "_generate_overlap_table", .fn (.ref (f 1))), (Str.ofString "_law_table", .fn (.ref (f 10))), (Str.ofString "_law_falls", .fn (.ref (f 11))),
    (Str.ofString "_law_euclid", .fn (.ref (f 12))), (Str.ofString "_law_own", .fn (.ref (f 13))), (Str.ofString "_law_marks", .fn (.ref (f 6))), (Str.ofString "_law_due", .fn (.ref (f 8))), (Str.ofString "_law_refused", .fn (.ref (f 7))), (Str.ofString "len", .fn (.builtin "len")), (Str.ofString "set", .fn (.type "set")), (Str.ofString "range", .fn (.type "range"))] ?_ (by walk_at "own") (by walk_at "upd") ?_)
  · have hq : (rulerS row e).length = row.length + (([[0, 1], [], [127, 1]] : List (List Int)).getD e.toNat []).length := by unfold rulerS; rw [List.length_append]
    unfold rulerS
    refine e_bin (by walk_at "ev") (e_itemss (nss := [[0, 1], [], [127, 1]]) (e_listl (a_cons (e_list2 e_int e_int) (a_cons e_list0 (a_cons (e_list2 e_int e_int) a_nil)))) (by walk_at "ev") (by simp; omega)) (o_addl ?_)
    omega
  refine x_cons (x_assignB (d := .ints marks) [(Str.ofString "marks", .ints marks), (Str.ofString "ruler", .ints (rulerS row e)), (Str.ofString "end", .int e), (Str.ofString "sums", .ints (sumsS row)), (Str.ofString "row", .ints row), (Str.ofString "_law_grown", .fn (.ref (f 9))), (Str.ofString "_generate_overlap_table", .fn (.ref (f 1))), (Str.ofString "_law_table", .fn (.ref (f 10))), (Str.ofString "_law_falls", .fn (.ref (f 11))),
    (Str.ofString "_law_euclid", .fn (.ref (f 12))), (Str.ofString "_law_own", .fn (.ref (f 13))), (Str.ofString "_law_marks", .fn (.ref (f 6))), (Str.ofString "_law_due", .fn (.ref (f 8))), (Str.ofString "_law_refused", .fn (.ref (f 7))), (Str.ofString "len", .fn (.builtin "len")), (Str.ofString "set", .fn (.type "set")), (Str.ofString "range", .fn (.type "range"))] ?_ (by walk_at "own") (by walk_at "upd") ?_)
  · refine eb_call_fn (by walk_at "mem") ho6 hd6 (a_cons (by walk_at "ev") (a_cons (by walk_at "ev") a_nil)) (call_marks (N := 40) X.f6 X.f4 X.base (R.le (k := 40) (j := 4) (by omega)) X.cm X.g4 (fun _ => ?_) (by omega) O.mks)
    have : 1 ≤ row.getD 0 0 := by
      cases row with
      | nil => simp at hrl
      | cons x r => exact O.pos x List.mem_cons_self
    unfold rulerS
    cases row with
    | nil => simp at hrl
    | cons x r => simp at this ⊢; omega
  refine x_cons (x_refused_if (row := row) (e := e) (sums := sumsS row) (marks := marks) (ruler := rulerS row e) X R hfr (by omega) (by omega) (by walk_at "mem") (by walk_at "mem") (by walk_at "mem") (by walk_at "mem") (by walk_at "mem") _ rfl (by walk_at "mem") (by walk_at "mem") (by omega) O.due ?_)
  refine x_cons (x_assign (d := .ints []) ((Str.ofString "text", .ints []) :: (Str.ofString "marks", .ints marks) :: (Str.ofString "sums", .ints (sumsS row)) :: γL f) (by walk_at "ev") (by walk_at "own") (by unfold γL; walk_at "upd") ?_)
  refine x_cons (x_for (d := .rng 1 13) (ns := rangeL 1 13) (by unfold γL; walk_at "ev") (src_rng R.hh (by omega) (by omega)) (by walk_at "own") (.inl rfl)
    (fun i ρ => ρ = (Str.ofString "text", .ints (T i)) :: (Str.ofString "marks", .ints marks) :: (Str.ofString "sums", .ints (sumsS row)) :: γL f) ?_ ?_ (by rw [O.t0]))
  · intro i hi ρ hρ
    subst hρ
    have hil : i < 12 := by rw [rangeL_length] at hi; omega
    have hv := getD_rangeL hi
    have hvi : (rangeL 1 13).getD i 0 = ((i + 1 : Nat) : Int) := by rw [hv]; omega
    refine ⟨(Str.ofString "size", .int ((i + 1 : Nat) : Int)) :: (Str.ofString "text", .ints (T i)) :: (Str.ofString "marks", .ints marks) :: (Str.ofString "sums", .ints (sumsS row)) :: γL f, by rw [hvi]; unfold γL; walk_at "upd", ?_⟩
    refine body_turn X R (by omega) (by rw [O.tl i (by omega)]) (O.turn i hil) O.mpos O.spos (by omega) _ rfl ?_
    rfl
  · intro ρ hρ
    subst hρ
    exact x_nil (x_cons (x_ret (d := .bool true) (by walk_at "ev") rfl))
end
def posOf : Stmt → Pos
  | .FunctionDef _ _ _ _ _ _ _ _ _ pos => pos
  | _ => ⟨0, 0, 0, 0⟩
def recAt (i : Nat) : DefRec := ⟨nameOf (stmtAt i), paramsOf (stmtAt i), bodyOf (stmtAt i), scopeOf (stmtAt i), posOf (stmtAt i)⟩

theorem ghas_fn {p : Program} {loose : List Str} {mean : ExcName → Option Value} {mg mb : Str → Option Value} {h : Heap} (T : Top p loose mean mg mb h) {i k : Nat} {x : Str} (hr : (recsOf p)[k]? = some (recAt i)) (hx : nameOf (stmtAt i) = x) :
    ∃ a, TextFn h a i ∧ GHas h (x, .fn (.ref a)) ∧ mg x = some (.ref a) := by
  obtain ⟨a, o, pm, code, doc, h1, h2, h3, h4⟩ := T.fn (recAt i) (List.mem_of_getElem? hr)
  have h1' : mg x = some (.ref a) := hx ▸ h1
  exact ⟨a, ⟨o, pm, code, doc, h2, h3, h4⟩, ⟨mg, .ref a, T.g, .inl h1', rfl⟩, h1'⟩

/-- a name that is no global's -/
def freeOf (p : Program) (loose : List Str) (x : Str) : Bool :=
  !(startupNames.contains x || loose.contains x || ((recsOf p).map (·.name)).contains x || ((litsOf p).map (·.1)).contains x || ((clssOf p loose).map (·.name)).contains x)
theorem ghas_blt {p : Program} {loose : List Str} {mean : ExcName → Option Value} {mg mb : Str → Option Value} {h : Heap} (T : Top p loose mean mg mb h) {x : Str} {v : Value} (hf : freeOf p loose x = true) (hx : x ≠ ("__name__" : Str)) (hb : bootBuiltins x = some v) :
    GHas h (x, .fn v) := by
  unfold freeOf at hf
  simp only [Bool.not_eq_true', Bool.or_eq_false_iff] at hf
  obtain ⟨⟨⟨⟨f1, f2⟩, f3⟩, f4⟩, f5⟩ := hf
  have nc : ∀ {l : List Str}, l.contains x = false → x ∉ l := fun e hm => by
    rw [List.contains_iff_mem.mpr hm] at e; cases e
  exact ⟨mg, v, T.g, .inr ⟨T.free x (nc f1) (nc f2) (nc f3) (nc f4) (nc f5), mb, T.b, (T.builtins x hx).trans hb⟩, rfl⟩

theorem txt_of_top {p : Program} {loose : List Str} {mean : ExcName → Option Value} {mg mb : Str → Option Value} {h : Heap} (T : Top p loose mean mg mb h)
    (r1 : (recsOf p)[0]? = some (recAt 1)) (r4 : (recsOf p)[1]? = some (recAt 4)) (r6 : (recsOf p)[2]? = some (recAt 6)) (r7 : (recsOf p)[3]? = some (recAt 7)) (r8 : (recsOf p)[4]? = some (recAt 8)) (r9 : (recsOf p)[5]? = some (recAt 9))
    (r10 : (recsOf p)[6]? = some (recAt 10)) (r11 : (recsOf p)[7]? = some (recAt 11)) (r12 : (recsOf p)[8]? = some (recAt 12)) (r13 : (recsOf p)[9]? = some (recAt 13)) (hc : valOf p (Str.ofString "CHAR_MAX") = some (.int 127))
    (hf : ([Str.ofString "ValueError", Str.ofString "str", Str.ofString "len", Str.ofString "min", Str.ofString "max", Str.ofString "sum", Str.ofString "range", Str.ofString "set"].all (freeOf p loose)) = true) : ∃ f, Txt h f := by
  obtain ⟨a1, b1, c1, _⟩ := ghas_fn T r1 (x := Str.ofString "_generate_overlap_table") (by decide +kernel)
  obtain ⟨a4, b4, c4, _⟩ := ghas_fn T r4 (x := Str.ofString "_grouping_intervals") (by decide +kernel)
  obtain ⟨a6, b6, c6, _⟩ := ghas_fn T r6 (x := Str.ofString "_law_marks") (by decide +kernel)
  obtain ⟨a7, b7, c7, _⟩ := ghas_fn T r7 (x := Str.ofString "_law_refused") (by decide +kernel)
  obtain ⟨a8, b8, c8, _⟩ := ghas_fn T r8 (x := Str.ofString "_law_due") (by decide +kernel)
  obtain ⟨a9, b9, c9, _⟩ := ghas_fn T r9 (x := Str.ofString "_law_grown") (by decide +kernel)
  obtain ⟨a10, b10, c10, _⟩ := ghas_fn T r10 (x := Str.ofString "_law_table") (by decide +kernel)
  obtain ⟨a11, b11, c11, _⟩ := ghas_fn T r11 (x := Str.ofString "_law_falls") (by decide +kernel)
  obtain ⟨a12, b12, c12, _⟩ := ghas_fn T r12 (x := Str.ofString "_law_euclid") (by decide +kernel)
  obtain ⟨a13, b13, c13, _⟩ := ghas_fn T r13 (x := Str.ofString "_law_own") (by decide +kernel)
  have fr := List.all_eq_true.mp hf
  obtain ⟨v, hv, hr⟩ := T.const _ _ hc
  have hcm : GHas h (Str.ofString "CHAR_MAX", .int 127) := by
    have r := hr h
    cases r with
    | int i t => exact ⟨mg, _, T.g, .inl hv, ⟨t, rfl⟩⟩
  refine ⟨fun i => if i = 1 then a1 else if i = 4 then a4 else if i = 6 then a6 else if i = 7 then a7 else if i = 8 then a8 else if i = 9 then a9 else if i = 10 then a10 else if i = 11 then a11 else if i = 12 then a12 else a13,
    { base := ⟨T.nolimit, ⟨mg, T.g⟩, ⟨mb, T.b⟩⟩, f1 := b1, f4 := b4, f6 := b6, f7 := b7, f8 := b8, f9 := b9, f10 := b10, f11 := b11, f12 := b12, f13 := b13, g1 := c1, g4 := c4, g6 := c6, g7 := c7, g8 := c8, g9 := c9, g10 := c10, g11 := c11, g12 := c12, g13 := c13, cm := hcm,
      ve := ghas_blt T (fr _ (by walk_at "mem")) (by decide +kernel) (by decide +kernel), str := ghas_blt T (fr _ (by walk_at "mem")) (by decide +kernel) (by decide +kernel), len := ghas_blt T (fr _ (by walk_at "mem")) (by decide +kernel) (by decide +kernel),
      min := ghas_blt T (fr _ (by walk_at "mem")) (by decide +kernel) (by decide +kernel), max := ghas_blt T (fr _ (by walk_at "mem")) (by decide +kernel) (by decide +kernel), sum := ghas_blt T (fr _ (by walk_at "mem")) (by decide +kernel) (by decide +kernel),
      range := ghas_blt T (fr _ (by walk_at "mem")) (by decide +kernel) (by decide +kernel), set := ghas_blt T (fr _ (by walk_at "mem")) (by decide +kernel) (by decide +kernel) }⟩

theorem law_call {w : World} {s : Shared} {f : Nat → Addr} {fa : Addr} {v : Value} {script marks : List Int} {T : Nat → List Int} (X : Txt s.heap f) (FA : TextFn s.heap fa 14) (r : Rep s.heap v (.argl script)) (O : LawOk (rowS (drawsS script)) (endS (drawsS script)) marks T) :
    codeAny (model PP w) callerA (.call (.ref fa) ⟨[v], []⟩) (fun r s' => r = .ok (.ret (.bool true)) ∧ KB true s s') s := by
  obtain ⟨o, pm, cd, doc, ho, hd, hcd⟩ := FA
  refine codeAny_call_cells (binds := [(Str.ofString "script", v)]) (by decide) ho hd X.base.nolimit hcd rfl rfl rfl (fun x hx => .inl ?_) (fun s₁ Y => ?_) rfl rfl rfl
  · simp at hx
    subst hx; rfl
  · have F := fm_start (b := true) (name := nameOf (stmtAt 14)) (scope := scopeOf (stmtAt 14)) (a := fa) (cd := cd) (L := s.heap.objs.size) (ps := [Str.ofString "script"]) (vals := [v]) (ds := [.argl script])
      (γ := γF f ++ γB) (ρ := (Str.ofString "script", .argl script) :: (γF f ++ γB)) X.base (Kept.refl _) rfl rfl (by decide +kernel) rfl (by decide +kernel) (.cons r .nil) ?_ ?_ ?_ Y
    · refine body_law X ?_ rfl O s₁ _ _ F fun fl fl' ρ' s' r k F' _ => ?_
      · exact (show Room callerA 41 from ⟨rfl, by decide, by decide⟩).deeper _
      · subst k
        obtain ⟨u, rfl, hu⟩ := r
        have hu : u = .bool true := hu
        subst hu
        exact ⟨rfl, F'.kb⟩
    · unfold γF γB
      exact gk_cons X.g9 (gk_cons X.g1 (gk_cons X.g10 (gk_cons X.g11 (gk_cons X.g12 (gk_cons X.g13 (gk_cons X.g6 (gk_cons X.g8 (gk_cons X.g7 (gk_cons X.len (gk_cons X.set (gk_cons X.range (gk_cons X.sum gk_nil))))))))))))
    · have q : ∀ x ∈ (γF f ++ γB).map (·.1), (scopeOf (stmtAt 14)).names.lookup x = some .globalImplicit ∧ (x == ("__debug__" : Str)) = false := by
        show ∀ x ∈ [Str.ofString "_law_grown", Str.ofString "_generate_overlap_table", Str.ofString "_law_table", Str.ofString "_law_falls", Str.ofString "_law_euclid", Str.ofString "_law_own", Str.ofString "_law_marks", Str.ofString "_law_due", Str.ofString "_law_refused", Str.ofString "len", Str.ofString "set", Str.ofString "range", Str.ofString "sum"], _
        decide +kernel
      exact fun p hp => q p.1 (List.mem_map.mpr ⟨p, hp, rfl⟩)
    · intro p hp
      rcases List.mem_cons.mp hp with e | hp
      · exact .inl (by rw [e]; simp)
      · exact .inr hp
/-- what the law asks of a text alone -/
def okText (size : Nat) (t : List Int) (u : Int) (fl : List Int) : Bool :=
  decide (ovS t = tableS t) && (decide (((uniq t : Nat) : Int) = u) && (decide (fallsS (ovS t) = fl) && (decide (marksS (ownS fl) size 40 = some (movesS t size ++ (List.replicate ((ownS fl).countP (· == 0)) [(size : Int) + idx fl (-1)]).flatten)) && decide ((ownS fl).getD 0 0 ≠ 0))))
structure TX where
  t : List Int
  u : Int
  fl : List Int
  ok : okText t.length t u fl = true
inductive Tr where
  | nil | node (x : TX) (a b c : Tr)
def chkT : Tr → Nat → List Int → List Int → List Int → Bool
  | .nil, _, _, _, _ => true
  | .node x a b c, n, t, mk, su => decide (grownS t mk = x.t) && (decide (euclidN n n su = (x.u, x.fl)) && (chkT a (n + 1) x.t mk su && (chkT b (n + 1) x.t (mk ++ [(n : Int)]) su && chkT c (n + 1) x.t (mk ++ [(n : Int)]) (su ++ [(n : Int)]))))
theorem chk_node {x : TX} {a b c : Tr} {n : Nat} {t mk su : List Int} (h1 : grownS t mk = x.t) (h2 : euclidN n n su = (x.u, x.fl)) (ha : chkT a (n + 1) x.t mk su = true) (hb : chkT b (n + 1) x.t (mk ++ [(n : Int)]) su = true) (hc : chkT c (n + 1) x.t (mk ++ [(n : Int)]) (su ++ [(n : Int)]) = true) :
    chkT (.node x a b c) n t mk su = true := by
  unfold chkT
  rw [ha, hb, hc]
  simp [h1, h2]
def inT : Tr → Nat → Nat → (Nat → Bool) → (Nat → Bool) → Bool
  | .nil, _, _, _, _ => false
  | .node _ _ _ _, _, 0, _, _ => true
  | .node _ a b c, n, k + 1, M, S => if S n then (M n && inT c (n + 1) k M S) else if M n then inT b (n + 1) k M S else inT a (n + 1) k M S

/-- the texts, one after the other -/
def textN (M t : List Int) : Nat → List Int
  | 0 => t
  | i + 1 => grownS (textN M t i) M
theorem textN_succ (M t : List Int) : ∀ i, textN M (grownS t M) i = textN M t (i + 1)
  | 0 => rfl
  | i + 1 => by rw [textN, textN_succ M t i]; rfl
theorem grownS_length (t M : List Int) : (grownS t M).length = t.length + 1 := by
  unfold grownS; rw [foldl_melt_length]; simp

theorem foldl_melt_filter (size : Int) : ∀ (M t : List Int), M.foldl (meltS size) t = (M.filter fun m => decide (m ≤ size)).foldl (meltS size) t
  | [], t => rfl
  | m :: r, t => by
    by_cases h : m ≤ size
    · rw [List.filter_cons_of_pos (by simpa using h), List.foldl_cons, List.foldl_cons, foldl_melt_filter size r]
    · rw [List.filter_cons_of_neg (by simpa using h), List.foldl_cons, foldl_melt_filter size r]
      have : meltS size t m = t := by unfold meltS; rw [if_neg (by simp [h])]
      rw [this]
theorem grownS_filter {t M : List Int} {n : Nat} (h : t.length + 1 = n) : grownS t M = grownS t (M.filter fun m => decide (m < (n : Int))) := by
  unfold grownS
  rw [foldl_melt_filter]
  have e : (fun m : Int => decide (m ≤ (t.length : Int))) = fun m => decide (m < (n : Int)) := by
    funext m
    rw [decide_eq_decide]; omega
  rw [e]
theorem euclidN_filter {n : Nat} {S : List Int} : euclidN n n S = euclidN n n (S.filter fun m => decide (m < (n : Int))) := by
  cases n with
  | zero => rfl
  | succ n =>
    have e : belowS ((n + 1 : Nat) : Int) S = belowS ((n + 1 : Nat) : Int) (S.filter fun m => decide (m < ((n + 1 : Nat) : Int))) := by
      unfold belowS; rw [List.filter_filter]; simp
    unfold euclidN
    rw [← e]
theorem filter_succ : ∀ {l : List Int} {n : Nat}, l.Pairwise (· < ·) → l.filter (fun m => decide (m < ((n + 1 : Nat) : Int))) = l.filter (fun m => decide (m < (n : Int))) ++ (if (n : Int) ∈ l then [(n : Int)] else [])
  | [], _, _ => rfl
  | a :: r, n, h => by
    rw [List.pairwise_cons] at h
    have ih := filter_succ (n := n) h.2
    rcases Int.lt_trichotomy a n with q | q | q
    · rw [List.filter_cons_of_pos (by simp; omega), List.filter_cons_of_pos (by simp; omega), ih]
      have : (n : Int) ∈ a :: r ↔ (n : Int) ∈ r := by simp; omega
      simp only [this, List.cons_append]
    · subst q
      have hr : ∀ k : Int, k ≤ (n : Int) + 1 → r.filter (fun m => decide (m < k)) = [] := fun k hk => by
        rw [List.filter_eq_nil_iff]
        intro m hm
        have := h.1 m hm
        simp; omega
      rw [List.filter_cons_of_pos (by simp; omega), List.filter_cons_of_neg (by simp), hr _ (by omega), hr _ (by omega)]
      simp
    · have hr : ∀ k : Int, k ≤ (n : Int) + 1 → (a :: r).filter (fun m => decide (m < k)) = [] := fun k hk => by
        rw [List.filter_eq_nil_iff]
        intro m hm
        rcases List.mem_cons.mp hm with rfl | hm
        · simp; omega
        · have := h.1 m hm
          simp; omega
      rw [hr _ (by omega), hr _ (by omega), if_neg]
      · rfl
      · intro hm
        rcases List.mem_cons.mp hm with e | hm
        · omega
        · have := h.1 _ hm; omega

theorem turn_of {x : TX} {M S t : List Int} {n : Nat} (ht : t.length + 1 = n) (h1 : grownS t (M.filter fun m => decide (m < (n : Int))) = x.t) (h2 : euclidN n n (S.filter fun m => decide (m < (n : Int))) = (x.u, x.fl)) :
    TurnOk M S n t (grownS t M) := by
  have hg : grownS t M = x.t := by rw [grownS_filter ht]; exact h1
  have he : euclidN n n S = (x.u, x.fl) := by rw [euclidN_filter]; exact h2
  have hl : x.t.length = n := by rw [← hg, grownS_length]; omega
  have ok := x.ok
  unfold okText at ok
  simp only [Bool.and_eq_true, decide_eq_true_eq] at ok
  obtain ⟨o1, o2, o3, o4, o5⟩ := ok
  rw [hl] at o4
  refine ⟨rfl, ?_, ?_, ?_, ?_⟩
  · rw [hg]; exact o1
  · rw [hg, he]; exact ⟨o2, o3⟩
  · rw [hg, o3]; exact o4
  · rw [hg, o3]; exact fun _ => o5

theorem walkT {fM fS : Nat → Bool} {M S : List Int} (hM : M.Pairwise (· < ·)) (hS : S.Pairwise (· < ·)) :
    ∀ (k : Nat) (tr : Tr) (n : Nat) (t : List Int), (∀ i, n ≤ i → i < n + k → (fM i = true ↔ (i : Int) ∈ M) ∧ (fS i = true ↔ (i : Int) ∈ S)) → t.length + 1 = n →
      chkT tr n t (M.filter fun m => decide (m < (n : Int))) (S.filter fun m => decide (m < (n : Int))) = true → inT tr n k fM fS = true →
      ∀ i, i ≤ k → TurnOk M S (n + i) (textN M t i) (textN M t (i + 1)) := by
  intro k
  induction k with
  | zero =>
    intro tr n t hf ht hc hi i hik
    cases tr with
    | nil => cases hi
    | node x a b c =>
      unfold chkT at hc
      simp only [Bool.and_eq_true, decide_eq_true_eq] at hc
      have : i = 0 := by omega
      subst this
      exact turn_of ht hc.1 hc.2.1
  | succ k ih =>
    intro tr n t hf ht hc hi i hik
    cases tr with
    | nil => cases hi
    | node x a b c =>
      unfold chkT at hc
      simp only [Bool.and_eq_true, decide_eq_true_eq] at hc
      obtain ⟨h1, h2, ca, cb, cc⟩ := hc
      cases i with
      | zero => exact turn_of ht h1 h2
      | succ i =>
        have hg : grownS t M = x.t := by rw [grownS_filter ht]; exact h1
        have hl : x.t.length + 1 = n + 1 := by rw [← hg, grownS_length]; omega
        have hf' : ∀ i, n + 1 ≤ i → i < n + 1 + k → (fM i = true ↔ (i : Int) ∈ M) ∧ (fS i = true ↔ (i : Int) ∈ S) := fun i q1 q2 => hf i (by omega) (by omega)
        obtain ⟨fm, fs⟩ := hf n (Nat.le_refl _) (by omega)
        have eM := filter_succ (n := n) hM
        have eS := filter_succ (n := n) hS
        have go : ∀ tr', chkT tr' (n + 1) x.t (M.filter fun m => decide (m < ((n + 1 : Nat) : Int))) (S.filter fun m => decide (m < ((n + 1 : Nat) : Int))) = true → inT tr' (n + 1) k fM fS = true →
            TurnOk M S (n + (i + 1)) (textN M t (i + 1)) (textN M t (i + 1 + 1)) := fun tr' q1 q2 => by
          have := ih tr' (n + 1) x.t hf' hl q1 q2 i (by omega)
          rw [← hg, textN_succ, textN_succ] at this
          rw [show n + (i + 1) = n + 1 + i by omega]; exact this
        unfold inT at hi
        by_cases hs : fS n = true
        · rw [if_pos hs, Bool.and_eq_true] at hi
          refine go c ?_ hi.2
          rw [eM, eS, if_pos (fm.mp hi.1), if_pos (fs.mp hs)]; exact cc
        · rw [if_neg hs] at hi
          have hs' : ¬ (n : Int) ∈ S := fun q => hs (fs.mpr q)
          by_cases hm : fM n = true
          · rw [if_pos hm] at hi
            refine go b ?_ hi
            rw [eM, eS, if_pos (fm.mp hm), if_neg hs', List.append_nil]; exact cb
          · rw [if_neg hm] at hi
            have hm' : ¬ (n : Int) ∈ M := fun q => hm (fm.mpr q)
            refine go a ?_ hi
            rw [eM, eS, if_neg hm', if_neg hs', List.append_nil, List.append_nil]; exact ca
set_option maxRecDepth 100000

def x0 : TX := ⟨[0], 1, [1], by decide +kernel⟩
def x1 : TX := ⟨[0, 1], 2, [2], by decide +kernel⟩
def x2 : TX := ⟨[0, 1, 2], 3, [3], by decide +kernel⟩
def x3 : TX := ⟨[0, 1, 2, 3], 4, [4], by decide +kernel⟩
def x4 : TX := ⟨[0, 1, 2, 3, 4], 5, [5], by decide +kernel⟩
def x5 : TX := ⟨[0, 1, 2, 3, 4, 5], 6, [6], by decide +kernel⟩
def x6 : TX := ⟨[0, 1, 2, 3, 4, 5, 6], 7, [7], by decide +kernel⟩
def x7 : TX := ⟨[0, 1, 2, 3, 4, 5, 6, 0], 7, [7, 1], by decide +kernel⟩
def x8 : TX := ⟨[0, 1, 2, 3, 4, 5, 6, 0, 1], 7, [7, 2], by decide +kernel⟩
def x9 : TX := ⟨[0, 1, 2, 3, 4, 5, 6, 0, 1, 2], 7, [7, 3], by decide +kernel⟩
def x10 : TX := ⟨[0, 1, 2, 3, 4, 5, 6, 0, 1, 2, 3], 7, [7, 4], by decide +kernel⟩
def x11 : TX := ⟨[0, 1, 2, 3, 4, 5, 6, 0, 1, 2, 3, 4], 7, [7, 5], by decide +kernel⟩
def x12 : TX := ⟨[0, 1, 2, 3, 0, 5, 6, 0, 1, 2, 3, 0], 6, [7, 4, 1], by decide +kernel⟩
def x13 : TX := ⟨[0, 1, 2, 0, 4, 5, 6, 0, 1, 2, 0], 6, [7, 3, 1], by decide +kernel⟩
def x14 : TX := ⟨[0, 1, 2, 0, 1, 5, 6, 0, 1, 2, 0, 1], 5, [7, 3, 2], by decide +kernel⟩
def x15 : TX := ⟨[0, 0, 2, 0, 0, 5, 6, 0, 0, 2, 0, 0], 4, [7, 3, 1, 1], by decide +kernel⟩
def x16 : TX := ⟨[0, 1, 0, 3, 4, 5, 6, 0, 1, 0], 6, [7, 2, 1], by decide +kernel⟩
def x17 : TX := ⟨[0, 1, 0, 1, 4, 5, 6, 0, 1, 0, 1], 5, [7, 2, 2], by decide +kernel⟩
def x18 : TX := ⟨[0, 1, 0, 1, 0, 5, 6, 0, 1, 0, 1, 0], 4, [7, 2, 2, 1], by decide +kernel⟩
def x19 : TX := ⟨[0, 0, 0, 0, 4, 5, 6, 0, 0, 0, 0], 4, [7, 1, 1, 1, 1], by decide +kernel⟩
def x20 : TX := ⟨[0, 0, 0, 0, 0, 5, 6, 0, 0, 0, 0, 0], 3, [7, 1, 1, 1, 1, 1], by decide +kernel⟩
def x21 : TX := ⟨[0, 0, 2, 3, 4, 5, 6, 0, 0], 6, [7, 1, 1], by decide +kernel⟩
def x22 : TX := ⟨[0, 0, 0, 3, 4, 5, 6, 0, 0, 0], 5, [7, 1, 1, 1], by decide +kernel⟩
def x23 : TX := ⟨[0, 1, 2, 3, 4, 5, 0], 6, [6, 1], by decide +kernel⟩
def x24 : TX := ⟨[0, 1, 2, 3, 4, 5, 0, 1], 6, [6, 2], by decide +kernel⟩
def x25 : TX := ⟨[0, 1, 2, 3, 4, 5, 0, 1, 2], 6, [6, 3], by decide +kernel⟩
def x26 : TX := ⟨[0, 1, 2, 3, 4, 5, 0, 1, 2, 3], 6, [6, 4], by decide +kernel⟩
def x27 : TX := ⟨[0, 1, 2, 3, 4, 5, 0, 1, 2, 3, 4], 6, [6, 5], by decide +kernel⟩
def x28 : TX := ⟨[0, 1, 2, 3, 4, 5, 0, 1, 2, 3, 4, 5], 6, [6, 6], by decide +kernel⟩
def x29 : TX := ⟨[0, 1, 2, 3, 4, 0, 0, 1, 2, 3, 4, 0], 5, [6, 5, 1], by decide +kernel⟩
def x30 : TX := ⟨[0, 1, 2, 3, 0, 5, 0, 1, 2, 3, 0], 5, [6, 4, 1], by decide +kernel⟩
def x31 : TX := ⟨[0, 1, 2, 3, 0, 1, 0, 1, 2, 3, 0, 1], 4, [6, 4, 2], by decide +kernel⟩
def x32 : TX := ⟨[0, 0, 2, 3, 0, 0, 0, 0, 2, 3, 0, 0], 3, [6, 4, 1, 1], by decide +kernel⟩
def x33 : TX := ⟨[0, 1, 2, 0, 4, 5, 0, 1, 2, 0], 5, [6, 3, 1], by decide +kernel⟩
def x34 : TX := ⟨[0, 1, 2, 0, 1, 5, 0, 1, 2, 0, 1], 4, [6, 3, 2], by decide +kernel⟩
def x35 : TX := ⟨[0, 1, 2, 0, 1, 2, 0, 1, 2, 0, 1, 2], 3, [3, 3, 3, 3], by decide +kernel⟩
def x36 : TX := ⟨[0, 1, 0, 0, 1, 0, 0, 1, 0, 0, 1, 0], 2, [3, 3, 3, 2, 1], by decide +kernel⟩
def x37 : TX := ⟨[0, 0, 2, 0, 0, 5, 0, 0, 2, 0, 0], 3, [6, 3, 1, 1], by decide +kernel⟩
def x38 : TX := ⟨[0, 0, 0, 0, 0, 0, 0, 0, 0, 0, 0, 0], 1, [1, 1, 1, 1, 1, 1, 1, 1, 1, 1, 1, 1], by decide +kernel⟩
def x39 : TX := ⟨[0, 1, 0, 3, 4, 5, 0, 1, 0], 5, [6, 2, 1], by decide +kernel⟩
def x40 : TX := ⟨[0, 1, 0, 1, 4, 5, 0, 1, 0, 1], 4, [6, 2, 2], by decide +kernel⟩
def x41 : TX := ⟨[0, 1, 0, 1, 0, 5, 0, 1, 0, 1, 0], 3, [6, 2, 2, 1], by decide +kernel⟩
def x42 : TX := ⟨[0, 1, 0, 1, 0, 1, 0, 1, 0, 1, 0, 1], 2, [2, 2, 2, 2, 2, 2], by decide +kernel⟩
def x43 : TX := ⟨[0, 0, 0, 0, 4, 5, 0, 0, 0, 0], 3, [6, 1, 1, 1, 1], by decide +kernel⟩
def x44 : TX := ⟨[0, 0, 0, 0, 0, 5, 0, 0, 0, 0, 0], 2, [6, 1, 1, 1, 1, 1], by decide +kernel⟩
def x45 : TX := ⟨[0, 0, 2, 3, 4, 5, 0, 0], 5, [6, 1, 1], by decide +kernel⟩
def x46 : TX := ⟨[0, 0, 0, 3, 4, 5, 0, 0, 0], 4, [6, 1, 1, 1], by decide +kernel⟩
def x47 : TX := ⟨[0, 1, 2, 3, 4, 0], 5, [5, 1], by decide +kernel⟩
def x48 : TX := ⟨[0, 1, 2, 3, 4, 0, 1], 5, [5, 2], by decide +kernel⟩
def x49 : TX := ⟨[0, 1, 2, 3, 4, 0, 1, 2], 5, [5, 3], by decide +kernel⟩
def x50 : TX := ⟨[0, 1, 2, 3, 4, 0, 1, 2, 3], 5, [5, 4], by decide +kernel⟩
def x51 : TX := ⟨[0, 1, 2, 3, 4, 0, 1, 2, 3, 4], 5, [5, 5], by decide +kernel⟩
def x52 : TX := ⟨[0, 1, 2, 3, 4, 0, 1, 2, 3, 4, 0], 5, [5, 5, 1], by decide +kernel⟩
def x53 : TX := ⟨[0, 1, 2, 3, 4, 0, 1, 2, 3, 4, 0, 1], 5, [5, 5, 2], by decide +kernel⟩
def x54 : TX := ⟨[0, 0, 2, 3, 4, 0, 0, 2, 3, 4, 0, 0], 4, [5, 5, 1, 1], by decide +kernel⟩
def x55 : TX := ⟨[0, 1, 2, 3, 0, 0, 1, 2, 3, 0], 4, [5, 4, 1], by decide +kernel⟩
def x56 : TX := ⟨[0, 0, 2, 3, 0, 0, 0, 2, 3, 0, 0], 3, [5, 4, 1, 1], by decide +kernel⟩
def x57 : TX := ⟨[0, 0, 0, 3, 0, 0, 0, 0, 3, 0, 0, 0], 2, [5, 4, 1, 1, 1], by decide +kernel⟩
def x58 : TX := ⟨[0, 1, 2, 0, 4, 0, 1, 2, 0], 4, [5, 3, 1], by decide +kernel⟩
def x59 : TX := ⟨[0, 1, 2, 0, 1, 0, 1, 2, 0, 1], 3, [5, 3, 2], by decide +kernel⟩
def x60 : TX := ⟨[0, 1, 0, 0, 1, 0, 1, 0, 0, 1, 0], 2, [5, 3, 2, 1], by decide +kernel⟩
def x61 : TX := ⟨[0, 0, 2, 0, 0, 0, 0, 2, 0, 0], 2, [5, 3, 1, 1], by decide +kernel⟩
def x62 : TX := ⟨[0, 0, 0, 0, 0, 0, 0, 0, 0, 0, 0], 1, [1, 1, 1, 1, 1, 1, 1, 1, 1, 1, 1], by decide +kernel⟩
def x63 : TX := ⟨[0, 1, 0, 3, 4, 0, 1, 0], 4, [5, 2, 1], by decide +kernel⟩
def x64 : TX := ⟨[0, 1, 0, 1, 4, 0, 1, 0, 1], 3, [5, 2, 2], by decide +kernel⟩
def x65 : TX := ⟨[0, 1, 0, 1, 0, 0, 1, 0, 1, 0], 2, [5, 2, 2, 1], by decide +kernel⟩
def x66 : TX := ⟨[0, 0, 0, 0, 4, 0, 0, 0, 0], 2, [5, 1, 1, 1, 1], by decide +kernel⟩
def x67 : TX := ⟨[0, 0, 0, 0, 0, 0, 0, 0, 0, 0], 1, [1, 1, 1, 1, 1, 1, 1, 1, 1, 1], by decide +kernel⟩
def x68 : TX := ⟨[0, 0, 2, 3, 4, 0, 0], 4, [5, 1, 1], by decide +kernel⟩
def x69 : TX := ⟨[0, 0, 0, 3, 4, 0, 0, 0], 3, [5, 1, 1, 1], by decide +kernel⟩
def x70 : TX := ⟨[0, 1, 2, 3, 0], 4, [4, 1], by decide +kernel⟩
def x71 : TX := ⟨[0, 1, 2, 3, 0, 1], 4, [4, 2], by decide +kernel⟩
def x72 : TX := ⟨[0, 1, 2, 3, 0, 1, 2], 4, [4, 3], by decide +kernel⟩
def x73 : TX := ⟨[0, 1, 2, 3, 0, 1, 2, 3], 4, [4, 4], by decide +kernel⟩
def x74 : TX := ⟨[0, 1, 2, 3, 0, 1, 2, 3, 0], 4, [4, 4, 1], by decide +kernel⟩
def x75 : TX := ⟨[0, 1, 2, 3, 0, 1, 2, 3, 0, 1], 4, [4, 4, 2], by decide +kernel⟩
def x76 : TX := ⟨[0, 1, 2, 3, 0, 1, 2, 3, 0, 1, 2], 4, [4, 4, 3], by decide +kernel⟩
def x77 : TX := ⟨[0, 1, 2, 3, 0, 1, 2, 3, 0, 1, 2, 3], 4, [4, 4, 4], by decide +kernel⟩
def x78 : TX := ⟨[0, 1, 2, 0, 0, 1, 2, 0, 0, 1, 2, 0], 3, [4, 4, 3, 1], by decide +kernel⟩
def x79 : TX := ⟨[0, 1, 0, 3, 0, 1, 0, 3, 0, 1, 0], 3, [4, 4, 2, 1], by decide +kernel⟩
def x80 : TX := ⟨[0, 0, 2, 3, 0, 0, 2, 3, 0, 0], 3, [4, 4, 1, 1], by decide +kernel⟩
def x81 : TX := ⟨[0, 0, 0, 3, 0, 0, 0, 3, 0, 0, 0], 2, [4, 4, 1, 1, 1], by decide +kernel⟩
def x82 : TX := ⟨[0, 1, 2, 0, 0, 1, 2, 0], 3, [4, 3, 1], by decide +kernel⟩
def x83 : TX := ⟨[0, 0, 2, 0, 0, 0, 2, 0, 0], 2, [4, 3, 1, 1], by decide +kernel⟩
def x84 : TX := ⟨[0, 1, 0, 3, 0, 1, 0], 3, [4, 2, 1], by decide +kernel⟩
def x85 : TX := ⟨[0, 1, 0, 1, 0, 1, 0, 1], 2, [2, 2, 2, 2], by decide +kernel⟩
def x86 : TX := ⟨[0, 1, 0, 1, 0, 1, 0, 1, 0], 2, [2, 2, 2, 2, 1], by decide +kernel⟩
def x87 : TX := ⟨[0, 1, 0, 1, 0, 1, 0, 1, 0, 1], 2, [2, 2, 2, 2, 2], by decide +kernel⟩
def x88 : TX := ⟨[0, 1, 0, 1, 0, 1, 0, 1, 0, 1, 0], 2, [2, 2, 2, 2, 2, 1], by decide +kernel⟩
def x89 : TX := ⟨[0, 0, 0, 0, 0, 0, 0, 0], 1, [1, 1, 1, 1, 1, 1, 1, 1], by decide +kernel⟩
def x90 : TX := ⟨[0, 0, 0, 0, 0, 0, 0, 0, 0], 1, [1, 1, 1, 1, 1, 1, 1, 1, 1], by decide +kernel⟩
def x91 : TX := ⟨[0, 0, 2, 3, 0, 0], 3, [4, 1, 1], by decide +kernel⟩
def x92 : TX := ⟨[0, 0, 0, 3, 0, 0, 0], 2, [4, 1, 1, 1], by decide +kernel⟩
def x93 : TX := ⟨[0, 1, 2, 0], 3, [3, 1], by decide +kernel⟩
def x94 : TX := ⟨[0, 1, 2, 0, 1], 3, [3, 2], by decide +kernel⟩
def x95 : TX := ⟨[0, 1, 2, 0, 1, 2], 3, [3, 3], by decide +kernel⟩
def x96 : TX := ⟨[0, 1, 2, 0, 1, 2, 0], 3, [3, 3, 1], by decide +kernel⟩
def x97 : TX := ⟨[0, 1, 2, 0, 1, 2, 0, 1], 3, [3, 3, 2], by decide +kernel⟩
def x98 : TX := ⟨[0, 1, 2, 0, 1, 2, 0, 1, 2], 3, [3, 3, 3], by decide +kernel⟩
def x99 : TX := ⟨[0, 1, 2, 0, 1, 2, 0, 1, 2, 0], 3, [3, 3, 3, 1], by decide +kernel⟩
def x100 : TX := ⟨[0, 1, 2, 0, 1, 2, 0, 1, 2, 0, 1], 3, [3, 3, 3, 2], by decide +kernel⟩
def x101 : TX := ⟨[0, 0, 2, 0, 0, 2, 0, 0, 2, 0, 0], 2, [3, 3, 3, 1, 1], by decide +kernel⟩
def x102 : TX := ⟨[0, 1, 0, 0, 1, 0, 0, 1, 0], 2, [3, 3, 2, 1], by decide +kernel⟩
def x103 : TX := ⟨[0, 0, 2, 0, 0, 2, 0, 0], 2, [3, 3, 1, 1], by decide +kernel⟩
def x104 : TX := ⟨[0, 1, 0, 0, 1, 0], 2, [3, 2, 1], by decide +kernel⟩
def x105 : TX := ⟨[0, 0, 0, 0, 0, 0, 0], 1, [1, 1, 1, 1, 1, 1, 1], by decide +kernel⟩
def x106 : TX := ⟨[0, 0, 2, 0, 0], 2, [3, 1, 1], by decide +kernel⟩
def x107 : TX := ⟨[0, 0, 0, 0, 0, 0], 1, [1, 1, 1, 1, 1, 1], by decide +kernel⟩
def x108 : TX := ⟨[0, 1, 0], 2, [2, 1], by decide +kernel⟩
def x109 : TX := ⟨[0, 1, 0, 1], 2, [2, 2], by decide +kernel⟩
def x110 : TX := ⟨[0, 1, 0, 1, 0], 2, [2, 2, 1], by decide +kernel⟩
def x111 : TX := ⟨[0, 1, 0, 1, 0, 1], 2, [2, 2, 2], by decide +kernel⟩
def x112 : TX := ⟨[0, 1, 0, 1, 0, 1, 0], 2, [2, 2, 2, 1], by decide +kernel⟩
def x113 : TX := ⟨[0, 0, 0, 0], 1, [1, 1, 1, 1], by decide +kernel⟩
def x114 : TX := ⟨[0, 0, 0, 0, 0], 1, [1, 1, 1, 1, 1], by decide +kernel⟩
def x115 : TX := ⟨[0, 0], 1, [1, 1], by decide +kernel⟩
def x116 : TX := ⟨[0, 0, 0], 1, [1, 1, 1], by decide +kernel⟩
def s0 : Tr := .node x5 (.node x6 .nil .nil (.node x7 (.node x8 (.node x9 (.node x10 (.node x11 .nil .nil .nil) .nil (.node x12 .nil .nil .nil)) .nil (.node x13 (.node x14 .nil .nil .nil) .nil (.node x15 .nil .nil .nil))) .nil (.node x16 (.node x17 (.node x18 .nil .nil .nil) (.node x18 .nil .nil .nil) (.node x18 .nil .nil .nil)) .nil (.node x19 (.node x20 .nil .nil .nil) (.node x20 .nil .nil .nil) (.node x20 .nil .nil .nil)))) .nil (.node x21 (.node x22 (.node x19 (.node x20 .nil .nil .nil) .nil (.node x20 .nil .nil .nil)) .nil (.node x19 (.node x20 .nil .nil .nil) .nil (.node x20 .nil .nil .nil))) (.node x22 .nil (.node x19 .nil (.node x20 .nil .nil .nil) .nil) .nil) (.node x22 (.node x19 (.node x20 .nil .nil .nil) .nil (.node x20 .nil .nil .nil)) (.node x19 .nil (.node x20 .nil .nil .nil) .nil) (.node x19 (.node x20 .nil .nil .nil) (.node x20 .nil .nil .nil) .nil))))) .nil (.node x23 (.node x24 (.node x25 (.node x26 (.node x27 (.node x28 .nil .nil .nil) .nil (.node x29 .nil .nil .nil)) .nil (.node x30 (.node x31 .nil .nil .nil) .nil (.node x32 .nil .nil .nil))) .nil (.node x33 (.node x34 (.node x35 .nil .nil .nil) .nil (.node x36 .nil .nil .nil)) .nil (.node x37 (.node x38 .nil .nil .nil) (.node x38 .nil .nil .nil) (.node x38 .nil .nil .nil)))) .nil (.node x39 (.node x40 (.node x41 (.node x42 .nil .nil .nil) .nil (.node x38 .nil .nil .nil)) (.node x41 (.node x42 .nil .nil .nil) .nil .nil) (.node x41 (.node x42 .nil .nil .nil) .nil (.node x38 .nil .nil .nil))) .nil (.node x43 (.node x44 (.node x38 .nil .nil .nil) .nil (.node x38 .nil .nil .nil)) (.node x44 .nil (.node x38 .nil .nil .nil) .nil) (.node x44 (.node x38 .nil .nil .nil) (.node x38 .nil .nil .nil) .nil)))) .nil (.node x45 (.node x46 (.node x43 (.node x44 (.node x38 .nil .nil .nil) .nil (.node x38 .nil .nil .nil)) .nil (.node x44 (.node x38 .nil .nil .nil) .nil (.node x38 .nil .nil .nil))) .nil (.node x43 (.node x44 (.node x38 .nil .nil .nil) (.node x38 .nil .nil .nil) (.node x38 .nil .nil .nil)) .nil (.node x44 (.node x38 .nil .nil .nil) (.node x38 .nil .nil .nil) .nil))) (.node x46 .nil (.node x43 .nil (.node x44 .nil (.node x38 .nil .nil .nil) .nil) .nil) .nil) (.node x46 (.node x43 (.node x44 (.node x38 .nil .nil .nil) .nil (.node x38 .nil .nil .nil)) .nil (.node x44 (.node x38 .nil .nil .nil) .nil .nil)) (.node x43 .nil (.node x44 .nil (.node x38 .nil .nil .nil) .nil) .nil) (.node x43 (.node x44 (.node x38 .nil .nil .nil) .nil .nil) (.node x44 .nil (.node x38 .nil .nil .nil) .nil) .nil))))
theorem c0 : chkT s0 6 [0, 1, 2, 3, 4] [] [] = true := by decide +kernel
def s1 : Tr := .node x47 (.node x48 (.node x49 (.node x50 (.node x51 (.node x52 (.node x53 .nil .nil .nil) .nil (.node x54 .nil .nil .nil)) (.node x52 (.node x53 .nil .nil .nil) .nil .nil) (.node x52 (.node x53 .nil .nil .nil) .nil (.node x54 .nil .nil .nil))) .nil (.node x55 (.node x56 (.node x57 .nil .nil .nil) .nil (.node x57 .nil .nil .nil)) .nil (.node x56 (.node x57 .nil .nil .nil) (.node x57 .nil .nil .nil) (.node x57 .nil .nil .nil)))) .nil (.node x58 (.node x59 (.node x60 (.node x38 .nil .nil .nil) (.node x38 .nil .nil .nil) (.node x38 .nil .nil .nil)) .nil (.node x60 (.node x38 .nil .nil .nil) .nil (.node x38 .nil .nil .nil))) .nil (.node x61 (.node x62 (.node x38 .nil .nil .nil) .nil (.node x38 .nil .nil .nil)) (.node x62 .nil (.node x38 .nil .nil .nil) .nil) (.node x62 (.node x38 .nil .nil .nil) (.node x38 .nil .nil .nil) .nil)))) .nil (.node x63 (.node x64 (.node x65 (.node x62 (.node x38 .nil .nil .nil) .nil (.node x38 .nil .nil .nil)) .nil (.node x62 (.node x38 .nil .nil .nil) .nil (.node x38 .nil .nil .nil))) (.node x65 (.node x62 .nil (.node x38 .nil .nil .nil) .nil) .nil .nil) (.node x65 (.node x62 (.node x38 .nil .nil .nil) (.node x38 .nil .nil .nil) (.node x38 .nil .nil .nil)) .nil (.node x62 (.node x38 .nil .nil .nil) (.node x38 .nil .nil .nil) .nil))) .nil (.node x66 (.node x67 (.node x62 (.node x38 .nil .nil .nil) .nil (.node x38 .nil .nil .nil)) .nil (.node x62 (.node x38 .nil .nil .nil) .nil .nil)) (.node x67 .nil (.node x62 .nil (.node x38 .nil .nil .nil) .nil) .nil) (.node x67 (.node x62 (.node x38 .nil .nil .nil) .nil .nil) (.node x62 .nil (.node x38 .nil .nil .nil) .nil) .nil)))) .nil (.node x68 (.node x69 (.node x66 (.node x67 (.node x62 (.node x38 .nil .nil .nil) .nil (.node x38 .nil .nil .nil)) .nil (.node x62 (.node x38 .nil .nil .nil) .nil (.node x38 .nil .nil .nil))) .nil (.node x67 (.node x62 (.node x38 .nil .nil .nil) .nil (.node x38 .nil .nil .nil)) .nil (.node x62 (.node x38 .nil .nil .nil) (.node x38 .nil .nil .nil) .nil))) .nil (.node x66 (.node x67 (.node x62 (.node x38 .nil .nil .nil) .nil (.node x38 .nil .nil .nil)) (.node x62 (.node x38 .nil .nil .nil) .nil .nil) (.node x62 (.node x38 .nil .nil .nil) .nil .nil)) .nil (.node x67 (.node x62 (.node x38 .nil .nil .nil) .nil .nil) (.node x62 .nil (.node x38 .nil .nil .nil) .nil) .nil))) (.node x69 .nil (.node x66 .nil (.node x67 .nil (.node x62 .nil (.node x38 .nil .nil .nil) .nil) .nil) .nil) .nil) (.node x69 (.node x66 (.node x67 (.node x62 (.node x38 .nil .nil .nil) .nil (.node x38 .nil .nil .nil)) .nil (.node x62 (.node x38 .nil .nil .nil) .nil .nil)) .nil (.node x67 (.node x62 (.node x38 .nil .nil .nil) (.node x38 .nil .nil .nil) .nil) .nil .nil)) (.node x66 .nil (.node x67 .nil (.node x62 .nil (.node x38 .nil .nil .nil) .nil) .nil) .nil) (.node x66 (.node x67 (.node x62 (.node x38 .nil .nil .nil) .nil .nil) .nil .nil) (.node x67 .nil (.node x62 .nil (.node x38 .nil .nil .nil) .nil) .nil) .nil)))
theorem c1 : chkT s1 6 [0, 1, 2, 3, 4] [5] [5] = true := by decide +kernel
def s2 : Tr := .node x4 s0 .nil s1
theorem c2 : chkT s2 5 [0, 1, 2, 3] [] [] = true := chk_node (by decide +kernel) (by decide +kernel) c0 rfl c1
def s3 : Tr := .node x71 (.node x72 (.node x73 (.node x74 (.node x75 (.node x76 (.node x77 .nil .nil .nil) .nil (.node x78 .nil .nil .nil)) .nil (.node x79 (.node x42 .nil .nil .nil) .nil (.node x38 .nil .nil .nil))) .nil (.node x80 (.node x81 (.node x38 .nil .nil .nil) .nil (.node x38 .nil .nil .nil)) .nil (.node x81 (.node x38 .nil .nil .nil) (.node x38 .nil .nil .nil) (.node x38 .nil .nil .nil)))) (.node x74 (.node x75 (.node x76 (.node x77 .nil .nil .nil) .nil .nil) .nil .nil) .nil .nil) (.node x74 (.node x75 (.node x76 (.node x77 .nil .nil .nil) .nil (.node x78 .nil .nil .nil)) .nil (.node x79 (.node x42 .nil .nil .nil) .nil (.node x38 .nil .nil .nil))) .nil (.node x80 (.node x81 (.node x38 .nil .nil .nil) .nil (.node x38 .nil .nil .nil)) (.node x81 .nil (.node x38 .nil .nil .nil) .nil) (.node x81 (.node x38 .nil .nil .nil) (.node x38 .nil .nil .nil) .nil)))) .nil (.node x82 (.node x83 (.node x67 (.node x62 (.node x38 .nil .nil .nil) .nil (.node x38 .nil .nil .nil)) (.node x62 (.node x38 .nil .nil .nil) .nil .nil) (.node x62 (.node x38 .nil .nil .nil) .nil (.node x38 .nil .nil .nil))) .nil (.node x67 (.node x62 (.node x38 .nil .nil .nil) (.node x38 .nil .nil .nil) (.node x38 .nil .nil .nil)) .nil (.node x62 (.node x38 .nil .nil .nil) (.node x38 .nil .nil .nil) .nil))) .nil (.node x83 (.node x67 (.node x62 (.node x38 .nil .nil .nil) .nil (.node x38 .nil .nil .nil)) .nil (.node x62 (.node x38 .nil .nil .nil) .nil .nil)) (.node x67 .nil (.node x62 .nil (.node x38 .nil .nil .nil) .nil) .nil) (.node x67 (.node x62 (.node x38 .nil .nil .nil) .nil .nil) (.node x62 .nil (.node x38 .nil .nil .nil) .nil) .nil)))) .nil (.node x84 (.node x85 (.node x86 (.node x87 (.node x88 (.node x42 .nil .nil .nil) .nil (.node x38 .nil .nil .nil)) .nil (.node x88 (.node x42 .nil .nil .nil) .nil (.node x38 .nil .nil .nil))) .nil (.node x67 (.node x62 (.node x38 .nil .nil .nil) .nil (.node x38 .nil .nil .nil)) .nil (.node x62 (.node x38 .nil .nil .nil) (.node x38 .nil .nil .nil) .nil))) (.node x86 (.node x87 .nil (.node x88 (.node x42 .nil .nil .nil) .nil .nil) .nil) .nil .nil) (.node x86 (.node x87 (.node x88 (.node x42 .nil .nil .nil) .nil (.node x38 .nil .nil .nil)) (.node x88 (.node x42 .nil .nil .nil) .nil .nil) (.node x88 (.node x42 .nil .nil .nil) .nil .nil)) .nil (.node x67 (.node x62 (.node x38 .nil .nil .nil) .nil .nil) (.node x62 .nil (.node x38 .nil .nil .nil) .nil) .nil))) .nil (.node x89 (.node x90 (.node x67 (.node x62 (.node x38 .nil .nil .nil) .nil (.node x38 .nil .nil .nil)) .nil (.node x62 (.node x38 .nil .nil .nil) .nil .nil)) .nil (.node x67 (.node x62 (.node x38 .nil .nil .nil) (.node x38 .nil .nil .nil) .nil) .nil .nil)) (.node x90 .nil (.node x67 .nil (.node x62 .nil (.node x38 .nil .nil .nil) .nil) .nil) .nil) (.node x90 (.node x67 (.node x62 (.node x38 .nil .nil .nil) .nil .nil) .nil .nil) (.node x67 .nil (.node x62 .nil (.node x38 .nil .nil .nil) .nil) .nil) .nil)))
theorem c3 : chkT s3 6 [0, 1, 2, 3, 0] [4] [4] = true := by decide +kernel
def s4 : Tr := .node x91 (.node x92 (.node x89 (.node x90 (.node x67 (.node x62 (.node x38 .nil .nil .nil) .nil (.node x38 .nil .nil .nil)) .nil (.node x62 (.node x38 .nil .nil .nil) .nil (.node x38 .nil .nil .nil))) .nil (.node x67 (.node x62 (.node x38 .nil .nil .nil) .nil (.node x38 .nil .nil .nil)) .nil (.node x62 (.node x38 .nil .nil .nil) (.node x38 .nil .nil .nil) .nil))) .nil (.node x90 (.node x67 (.node x62 (.node x38 .nil .nil .nil) (.node x38 .nil .nil .nil) (.node x38 .nil .nil .nil)) .nil (.node x62 (.node x38 .nil .nil .nil) .nil .nil)) .nil (.node x67 (.node x62 (.node x38 .nil .nil .nil) .nil .nil) (.node x62 .nil (.node x38 .nil .nil .nil) .nil) .nil))) .nil (.node x89 (.node x90 (.node x67 (.node x62 (.node x38 .nil .nil .nil) .nil (.node x38 .nil .nil .nil)) .nil (.node x62 (.node x38 .nil .nil .nil) .nil .nil)) (.node x67 (.node x62 .nil (.node x38 .nil .nil .nil) .nil) .nil .nil) (.node x67 (.node x62 (.node x38 .nil .nil .nil) (.node x38 .nil .nil .nil) .nil) .nil .nil)) .nil (.node x90 (.node x67 (.node x62 (.node x38 .nil .nil .nil) .nil .nil) .nil .nil) (.node x67 .nil (.node x62 .nil (.node x38 .nil .nil .nil) .nil) .nil) .nil))) (.node x92 .nil (.node x89 .nil (.node x90 .nil (.node x67 .nil (.node x62 .nil (.node x38 .nil .nil .nil) .nil) .nil) .nil) .nil) .nil) (.node x92 (.node x89 (.node x90 (.node x67 (.node x62 (.node x38 .nil .nil .nil) .nil (.node x38 .nil .nil .nil)) .nil (.node x62 (.node x38 .nil .nil .nil) .nil .nil)) .nil (.node x67 (.node x62 (.node x38 .nil .nil .nil) .nil .nil) .nil .nil)) .nil (.node x90 (.node x67 (.node x62 (.node x38 .nil .nil .nil) .nil .nil) (.node x62 (.node x38 .nil .nil .nil) .nil .nil) .nil) .nil .nil)) (.node x89 .nil (.node x90 .nil (.node x67 .nil (.node x62 .nil (.node x38 .nil .nil .nil) .nil) .nil) .nil) .nil) (.node x89 (.node x90 (.node x67 (.node x62 (.node x38 .nil .nil .nil) .nil .nil) .nil .nil) .nil .nil) (.node x90 .nil (.node x67 .nil (.node x62 .nil (.node x38 .nil .nil .nil) .nil) .nil) .nil) .nil))
theorem c4 : chkT s4 6 [0, 1, 2, 3, 0] [4, 5] [4, 5] = true := by decide +kernel
def s5 : Tr := .node x70 s3 .nil s4
theorem c5 : chkT s5 5 [0, 1, 2, 3] [4] [4] = true := chk_node (by decide +kernel) (by decide +kernel) c3 rfl c4
def s6 : Tr := .node x3 s2 .nil s5
theorem c6 : chkT s6 4 [0, 1, 2] [] [] = true := chk_node (by decide +kernel) (by decide +kernel) c2 rfl c5
def s7 : Tr := .node x95 (.node x96 (.node x97 (.node x98 (.node x99 (.node x100 (.node x35 .nil .nil .nil) .nil .nil) .nil (.node x101 (.node x38 .nil .nil .nil) .nil (.node x38 .nil .nil .nil))) .nil (.node x99 (.node x100 (.node x35 .nil .nil .nil) .nil (.node x36 .nil .nil .nil)) .nil (.node x101 (.node x38 .nil .nil .nil) (.node x38 .nil .nil .nil) (.node x38 .nil .nil .nil)))) .nil (.node x102 (.node x67 (.node x62 (.node x38 .nil .nil .nil) .nil (.node x38 .nil .nil .nil)) .nil (.node x62 (.node x38 .nil .nil .nil) .nil (.node x38 .nil .nil .nil))) .nil (.node x67 (.node x62 (.node x38 .nil .nil .nil) .nil (.node x38 .nil .nil .nil)) (.node x62 .nil (.node x38 .nil .nil .nil) .nil) (.node x62 (.node x38 .nil .nil .nil) (.node x38 .nil .nil .nil) .nil)))) .nil (.node x103 (.node x90 (.node x67 (.node x62 (.node x38 .nil .nil .nil) (.node x38 .nil .nil .nil) (.node x38 .nil .nil .nil)) .nil (.node x62 (.node x38 .nil .nil .nil) .nil (.node x38 .nil .nil .nil))) .nil (.node x67 (.node x62 (.node x38 .nil .nil .nil) (.node x38 .nil .nil .nil) (.node x38 .nil .nil .nil)) .nil (.node x62 (.node x38 .nil .nil .nil) (.node x38 .nil .nil .nil) .nil))) .nil (.node x90 (.node x67 (.node x62 (.node x38 .nil .nil .nil) .nil (.node x38 .nil .nil .nil)) .nil (.node x62 (.node x38 .nil .nil .nil) .nil .nil)) (.node x67 .nil (.node x62 .nil (.node x38 .nil .nil .nil) .nil) .nil) (.node x67 (.node x62 (.node x38 .nil .nil .nil) .nil .nil) (.node x62 .nil (.node x38 .nil .nil .nil) .nil) .nil)))) (.node x96 (.node x97 (.node x98 .nil (.node x99 (.node x100 (.node x35 .nil .nil .nil) .nil .nil) .nil .nil) .nil) .nil .nil) .nil .nil) (.node x96 (.node x97 (.node x98 (.node x99 (.node x100 (.node x35 .nil .nil .nil) .nil (.node x36 .nil .nil .nil)) .nil (.node x101 (.node x38 .nil .nil .nil) .nil (.node x38 .nil .nil .nil))) (.node x99 (.node x100 (.node x35 .nil .nil .nil) .nil .nil) .nil .nil) (.node x99 (.node x100 (.node x35 .nil .nil .nil) .nil (.node x36 .nil .nil .nil)) .nil (.node x101 (.node x38 .nil .nil .nil) (.node x38 .nil .nil .nil) .nil))) .nil (.node x102 (.node x67 (.node x62 (.node x38 .nil .nil .nil) .nil (.node x38 .nil .nil .nil)) (.node x62 (.node x38 .nil .nil .nil) .nil .nil) (.node x62 (.node x38 .nil .nil .nil) .nil .nil)) .nil (.node x67 (.node x62 (.node x38 .nil .nil .nil) .nil .nil) (.node x62 .nil (.node x38 .nil .nil .nil) .nil) .nil))) .nil (.node x103 (.node x90 (.node x67 (.node x62 (.node x38 .nil .nil .nil) .nil (.node x38 .nil .nil .nil)) .nil (.node x62 (.node x38 .nil .nil .nil) .nil .nil)) .nil (.node x67 (.node x62 (.node x38 .nil .nil .nil) (.node x38 .nil .nil .nil) .nil) .nil .nil)) (.node x90 .nil (.node x67 .nil (.node x62 .nil (.node x38 .nil .nil .nil) .nil) .nil) .nil) (.node x90 (.node x67 (.node x62 (.node x38 .nil .nil .nil) .nil .nil) .nil .nil) (.node x67 .nil (.node x62 .nil (.node x38 .nil .nil .nil) .nil) .nil) .nil)))
theorem c7 : chkT s7 6 [0, 1, 2, 0, 1] [3] [3] = true := by decide +kernel
def s8 : Tr := .node x104 (.node x105 (.node x89 (.node x90 (.node x67 (.node x62 (.node x38 .nil .nil .nil) .nil (.node x38 .nil .nil .nil)) .nil (.node x62 (.node x38 .nil .nil .nil) .nil (.node x38 .nil .nil .nil))) .nil (.node x67 (.node x62 (.node x38 .nil .nil .nil) .nil (.node x38 .nil .nil .nil)) .nil (.node x62 (.node x38 .nil .nil .nil) (.node x38 .nil .nil .nil) .nil))) .nil (.node x90 (.node x67 (.node x62 (.node x38 .nil .nil .nil) (.node x38 .nil .nil .nil) (.node x38 .nil .nil .nil)) .nil (.node x62 (.node x38 .nil .nil .nil) .nil .nil)) .nil (.node x67 (.node x62 (.node x38 .nil .nil .nil) .nil .nil) (.node x62 .nil (.node x38 .nil .nil .nil) .nil) .nil))) (.node x89 (.node x90 .nil (.node x67 (.node x62 .nil (.node x38 .nil .nil .nil) .nil) .nil .nil) .nil) .nil .nil) (.node x89 (.node x90 (.node x67 (.node x62 (.node x38 .nil .nil .nil) .nil (.node x38 .nil .nil .nil)) .nil (.node x62 (.node x38 .nil .nil .nil) .nil .nil)) (.node x67 (.node x62 .nil (.node x38 .nil .nil .nil) .nil) .nil .nil) (.node x67 (.node x62 (.node x38 .nil .nil .nil) (.node x38 .nil .nil .nil) .nil) .nil .nil)) .nil (.node x90 (.node x67 (.node x62 (.node x38 .nil .nil .nil) .nil .nil) .nil .nil) (.node x67 .nil (.node x62 .nil (.node x38 .nil .nil .nil) .nil) .nil) .nil))) .nil (.node x105 (.node x89 (.node x90 (.node x67 (.node x62 (.node x38 .nil .nil .nil) .nil (.node x38 .nil .nil .nil)) .nil (.node x62 (.node x38 .nil .nil .nil) .nil .nil)) .nil (.node x67 (.node x62 (.node x38 .nil .nil .nil) .nil .nil) .nil .nil)) .nil (.node x90 (.node x67 (.node x62 (.node x38 .nil .nil .nil) .nil .nil) (.node x62 (.node x38 .nil .nil .nil) .nil .nil) .nil) .nil .nil)) (.node x89 .nil (.node x90 .nil (.node x67 .nil (.node x62 .nil (.node x38 .nil .nil .nil) .nil) .nil) .nil) .nil) (.node x89 (.node x90 (.node x67 (.node x62 (.node x38 .nil .nil .nil) .nil .nil) .nil .nil) .nil .nil) (.node x90 .nil (.node x67 .nil (.node x62 .nil (.node x38 .nil .nil .nil) .nil) .nil) .nil) .nil))
theorem c8 : chkT s8 6 [0, 1, 2, 0, 1] [3, 5] [3, 5] = true := by decide +kernel
def s9 : Tr := .node x94 s7 .nil s8
theorem c9 : chkT s9 5 [0, 1, 2, 0] [3] [3] = true := chk_node (by decide +kernel) (by decide +kernel) c7 rfl c8
def s10 : Tr := .node x107 (.node x105 (.node x89 (.node x90 (.node x67 (.node x62 (.node x38 .nil .nil .nil) .nil (.node x38 .nil .nil .nil)) .nil (.node x62 (.node x38 .nil .nil .nil) .nil (.node x38 .nil .nil .nil))) .nil (.node x67 (.node x62 (.node x38 .nil .nil .nil) .nil (.node x38 .nil .nil .nil)) .nil (.node x62 (.node x38 .nil .nil .nil) (.node x38 .nil .nil .nil) .nil))) .nil (.node x90 (.node x67 (.node x62 (.node x38 .nil .nil .nil) .nil (.node x38 .nil .nil .nil)) .nil (.node x62 (.node x38 .nil .nil .nil) .nil .nil)) .nil (.node x67 (.node x62 (.node x38 .nil .nil .nil) .nil .nil) (.node x62 .nil (.node x38 .nil .nil .nil) .nil) .nil))) .nil (.node x89 (.node x90 (.node x67 (.node x62 (.node x38 .nil .nil .nil) .nil (.node x38 .nil .nil .nil)) (.node x62 (.node x38 .nil .nil .nil) .nil .nil) (.node x62 (.node x38 .nil .nil .nil) .nil .nil)) .nil (.node x67 (.node x62 (.node x38 .nil .nil .nil) (.node x38 .nil .nil .nil) .nil) .nil .nil)) .nil (.node x90 (.node x67 (.node x62 (.node x38 .nil .nil .nil) .nil .nil) .nil .nil) (.node x67 .nil (.node x62 .nil (.node x38 .nil .nil .nil) .nil) .nil) .nil))) .nil (.node x105 (.node x89 (.node x90 (.node x67 (.node x62 (.node x38 .nil .nil .nil) .nil (.node x38 .nil .nil .nil)) .nil (.node x62 (.node x38 .nil .nil .nil) .nil .nil)) .nil (.node x67 (.node x62 (.node x38 .nil .nil .nil) .nil .nil) .nil .nil)) (.node x90 (.node x67 .nil (.node x62 (.node x38 .nil .nil .nil) .nil .nil) .nil) .nil .nil) (.node x90 (.node x67 (.node x62 (.node x38 .nil .nil .nil) .nil .nil) (.node x62 (.node x38 .nil .nil .nil) .nil .nil) .nil) .nil .nil)) .nil (.node x89 (.node x90 (.node x67 (.node x62 (.node x38 .nil .nil .nil) .nil .nil) .nil .nil) .nil .nil) (.node x90 .nil (.node x67 .nil (.node x62 .nil (.node x38 .nil .nil .nil) .nil) .nil) .nil) .nil))
theorem c10 : chkT s10 6 [0, 0, 2, 0, 0] [3, 4] [3, 4] = true := by decide +kernel
def s11 : Tr := .node x107 .nil (.node x105 .nil (.node x89 .nil (.node x90 .nil (.node x67 .nil (.node x62 .nil (.node x38 .nil .nil .nil) .nil) .nil) .nil) .nil) .nil) .nil
theorem c11 : chkT s11 6 [0, 0, 2, 0, 0] [3, 4, 5] [3, 4] = true := by decide +kernel
def s12 : Tr := .node x107 (.node x105 (.node x89 (.node x90 (.node x67 (.node x62 (.node x38 .nil .nil .nil) .nil (.node x38 .nil .nil .nil)) .nil (.node x62 (.node x38 .nil .nil .nil) .nil .nil)) .nil (.node x67 (.node x62 (.node x38 .nil .nil .nil) .nil .nil) .nil .nil)) .nil (.node x90 (.node x67 (.node x62 (.node x38 .nil .nil .nil) (.node x38 .nil .nil .nil) .nil) .nil .nil) .nil .nil)) .nil (.node x89 (.node x90 (.node x67 (.node x62 (.node x38 .nil .nil .nil) .nil .nil) .nil .nil) (.node x67 (.node x62 .nil (.node x38 .nil .nil .nil) .nil) .nil .nil) .nil) .nil .nil)) (.node x105 .nil (.node x89 .nil (.node x90 .nil (.node x67 .nil (.node x62 .nil (.node x38 .nil .nil .nil) .nil) .nil) .nil) .nil) .nil) (.node x105 (.node x89 (.node x90 (.node x67 (.node x62 (.node x38 .nil .nil .nil) .nil .nil) .nil .nil) .nil .nil) .nil .nil) (.node x89 .nil (.node x90 .nil (.node x67 .nil (.node x62 .nil (.node x38 .nil .nil .nil) .nil) .nil) .nil) .nil) .nil)
theorem c12 : chkT s12 6 [0, 0, 2, 0, 0] [3, 4, 5] [3, 4, 5] = true := by decide +kernel
def s13 : Tr := .node x106 s10 s11 s12
theorem c13 : chkT s13 5 [0, 1, 2, 0] [3, 4] [3, 4] = true := chk_node (by decide +kernel) (by decide +kernel) c10 c11 c12
def s14 : Tr := .node x93 s9 .nil s13
theorem c14 : chkT s14 4 [0, 1, 2] [3] [3] = true := chk_node (by decide +kernel) (by decide +kernel) c9 rfl c13
def s15 : Tr := .node x2 s6 .nil s14
theorem c15 : chkT s15 3 [0, 1] [] [] = true := chk_node (by decide +kernel) (by decide +kernel) c6 rfl c14
def s16 : Tr := .node x111 (.node x112 (.node x85 (.node x86 (.node x87 (.node x88 (.node x42 .nil .nil .nil) .nil .nil) .nil .nil) .nil (.node x67 (.node x62 (.node x38 .nil .nil .nil) .nil (.node x38 .nil .nil .nil)) .nil (.node x62 (.node x38 .nil .nil .nil) (.node x38 .nil .nil .nil) (.node x38 .nil .nil .nil)))) .nil (.node x86 (.node x87 (.node x88 (.node x42 .nil .nil .nil) .nil (.node x38 .nil .nil .nil)) .nil (.node x88 (.node x42 .nil .nil .nil) .nil (.node x38 .nil .nil .nil))) .nil (.node x67 (.node x62 (.node x38 .nil .nil .nil) .nil (.node x38 .nil .nil .nil)) (.node x62 .nil (.node x38 .nil .nil .nil) .nil) (.node x62 (.node x38 .nil .nil .nil) (.node x38 .nil .nil .nil) .nil)))) .nil (.node x89 (.node x90 (.node x67 (.node x62 (.node x38 .nil .nil .nil) .nil (.node x38 .nil .nil .nil)) .nil (.node x62 (.node x38 .nil .nil .nil) .nil (.node x38 .nil .nil .nil))) .nil (.node x67 (.node x62 (.node x38 .nil .nil .nil) (.node x38 .nil .nil .nil) (.node x38 .nil .nil .nil)) .nil (.node x62 (.node x38 .nil .nil .nil) (.node x38 .nil .nil .nil) .nil))) .nil (.node x90 (.node x67 (.node x62 (.node x38 .nil .nil .nil) .nil (.node x38 .nil .nil .nil)) .nil (.node x62 (.node x38 .nil .nil .nil) .nil .nil)) (.node x67 .nil (.node x62 .nil (.node x38 .nil .nil .nil) .nil) .nil) (.node x67 (.node x62 (.node x38 .nil .nil .nil) .nil .nil) (.node x62 .nil (.node x38 .nil .nil .nil) .nil) .nil)))) .nil (.node x112 (.node x85 (.node x86 (.node x87 (.node x88 (.node x42 .nil .nil .nil) .nil (.node x38 .nil .nil .nil)) (.node x88 (.node x42 .nil .nil .nil) .nil .nil) (.node x88 (.node x42 .nil .nil .nil) .nil (.node x38 .nil .nil .nil))) .nil (.node x67 (.node x62 (.node x38 .nil .nil .nil) .nil (.node x38 .nil .nil .nil)) .nil (.node x62 (.node x38 .nil .nil .nil) (.node x38 .nil .nil .nil) .nil))) .nil (.node x86 (.node x87 (.node x88 (.node x42 .nil .nil .nil) .nil (.node x38 .nil .nil .nil)) (.node x88 (.node x42 .nil .nil .nil) .nil .nil) (.node x88 (.node x42 .nil .nil .nil) .nil .nil)) .nil (.node x67 (.node x62 (.node x38 .nil .nil .nil) .nil .nil) (.node x62 .nil (.node x38 .nil .nil .nil) .nil) .nil))) .nil (.node x89 (.node x90 (.node x67 (.node x62 (.node x38 .nil .nil .nil) .nil (.node x38 .nil .nil .nil)) .nil (.node x62 (.node x38 .nil .nil .nil) .nil .nil)) .nil (.node x67 (.node x62 (.node x38 .nil .nil .nil) (.node x38 .nil .nil .nil) .nil) .nil .nil)) (.node x90 .nil (.node x67 .nil (.node x62 .nil (.node x38 .nil .nil .nil) .nil) .nil) .nil) (.node x90 (.node x67 (.node x62 (.node x38 .nil .nil .nil) .nil .nil) .nil .nil) (.node x67 .nil (.node x62 .nil (.node x38 .nil .nil .nil) .nil) .nil) .nil)))
theorem c16 : chkT s16 6 [0, 1, 0, 1, 0] [2] [2] = true := by decide +kernel
def s17 : Tr := .node x107 (.node x105 (.node x89 (.node x90 (.node x67 (.node x62 (.node x38 .nil .nil .nil) .nil (.node x38 .nil .nil .nil)) .nil (.node x62 (.node x38 .nil .nil .nil) .nil (.node x38 .nil .nil .nil))) .nil (.node x67 (.node x62 (.node x38 .nil .nil .nil) .nil (.node x38 .nil .nil .nil)) .nil (.node x62 (.node x38 .nil .nil .nil) (.node x38 .nil .nil .nil) .nil))) (.node x90 (.node x67 (.node x62 .nil (.node x38 .nil .nil .nil) .nil) .nil .nil) .nil .nil) (.node x90 (.node x67 (.node x62 (.node x38 .nil .nil .nil) (.node x38 .nil .nil .nil) (.node x38 .nil .nil .nil)) .nil (.node x62 (.node x38 .nil .nil .nil) .nil .nil)) .nil (.node x67 (.node x62 (.node x38 .nil .nil .nil) .nil .nil) (.node x62 .nil (.node x38 .nil .nil .nil) .nil) .nil))) .nil (.node x89 (.node x90 (.node x67 (.node x62 (.node x38 .nil .nil .nil) .nil (.node x38 .nil .nil .nil)) .nil (.node x62 (.node x38 .nil .nil .nil) .nil .nil)) (.node x67 (.node x62 .nil (.node x38 .nil .nil .nil) .nil) .nil .nil) (.node x67 (.node x62 (.node x38 .nil .nil .nil) (.node x38 .nil .nil .nil) .nil) .nil .nil)) .nil (.node x90 (.node x67 (.node x62 (.node x38 .nil .nil .nil) .nil .nil) .nil .nil) (.node x67 .nil (.node x62 .nil (.node x38 .nil .nil .nil) .nil) .nil) .nil))) .nil (.node x105 (.node x89 (.node x90 (.node x67 (.node x62 (.node x38 .nil .nil .nil) .nil (.node x38 .nil .nil .nil)) .nil (.node x62 (.node x38 .nil .nil .nil) .nil .nil)) .nil (.node x67 (.node x62 (.node x38 .nil .nil .nil) .nil .nil) .nil .nil)) .nil (.node x90 (.node x67 (.node x62 (.node x38 .nil .nil .nil) .nil .nil) (.node x62 (.node x38 .nil .nil .nil) .nil .nil) .nil) .nil .nil)) (.node x89 .nil (.node x90 .nil (.node x67 .nil (.node x62 .nil (.node x38 .nil .nil .nil) .nil) .nil) .nil) .nil) (.node x89 (.node x90 (.node x67 (.node x62 (.node x38 .nil .nil .nil) .nil .nil) .nil .nil) .nil .nil) (.node x90 .nil (.node x67 .nil (.node x62 .nil (.node x38 .nil .nil .nil) .nil) .nil) .nil) .nil))
theorem c17 : chkT s17 6 [0, 1, 0, 1, 0] [2, 5] [2, 5] = true := by decide +kernel
def s18 : Tr := .node x110 s16 .nil s17
theorem c18 : chkT s18 5 [0, 1, 0, 1] [2] [2] = true := chk_node (by decide +kernel) (by decide +kernel) c16 rfl c17
def s19 : Tr := .node x111 .nil (.node x112 (.node x85 .nil (.node x86 (.node x87 .nil (.node x88 (.node x42 .nil .nil .nil) .nil .nil) .nil) .nil .nil) .nil) .nil .nil) .nil
theorem c19 : chkT s19 6 [0, 1, 0, 1, 0] [2, 4] [2] = true := by decide +kernel
def s20 : Tr := .node x110 s19 .nil .nil
theorem c20 : chkT s20 5 [0, 1, 0, 1] [2, 4] [2] = true := chk_node (by decide +kernel) (by decide +kernel) c19 rfl rfl
def s21 : Tr := .node x111 (.node x112 (.node x85 (.node x86 (.node x87 (.node x88 (.node x42 .nil .nil .nil) .nil (.node x38 .nil .nil .nil)) .nil (.node x88 (.node x42 .nil .nil .nil) .nil (.node x38 .nil .nil .nil))) .nil (.node x67 (.node x62 (.node x38 .nil .nil .nil) .nil (.node x38 .nil .nil .nil)) .nil (.node x62 (.node x38 .nil .nil .nil) (.node x38 .nil .nil .nil) .nil))) .nil (.node x86 (.node x87 (.node x88 (.node x42 .nil .nil .nil) .nil (.node x38 .nil .nil .nil)) .nil (.node x88 (.node x42 .nil .nil .nil) .nil .nil)) .nil (.node x67 (.node x62 (.node x38 .nil .nil .nil) .nil .nil) (.node x62 .nil (.node x38 .nil .nil .nil) .nil) .nil))) .nil (.node x89 (.node x90 (.node x67 (.node x62 (.node x38 .nil .nil .nil) .nil (.node x38 .nil .nil .nil)) (.node x62 (.node x38 .nil .nil .nil) .nil .nil) (.node x62 (.node x38 .nil .nil .nil) .nil .nil)) .nil (.node x67 (.node x62 (.node x38 .nil .nil .nil) (.node x38 .nil .nil .nil) .nil) .nil .nil)) .nil (.node x90 (.node x67 (.node x62 (.node x38 .nil .nil .nil) .nil .nil) .nil .nil) (.node x67 .nil (.node x62 .nil (.node x38 .nil .nil .nil) .nil) .nil) .nil))) (.node x112 (.node x85 .nil (.node x86 (.node x87 .nil (.node x88 (.node x42 .nil .nil .nil) .nil .nil) .nil) .nil .nil) .nil) .nil .nil) (.node x112 (.node x85 (.node x86 (.node x87 (.node x88 (.node x42 .nil .nil .nil) .nil (.node x38 .nil .nil .nil)) .nil (.node x88 (.node x42 .nil .nil .nil) .nil .nil)) .nil (.node x67 (.node x62 (.node x38 .nil .nil .nil) .nil .nil) .nil .nil)) (.node x86 (.node x87 .nil (.node x88 (.node x42 .nil .nil .nil) .nil .nil) .nil) .nil .nil) (.node x86 (.node x87 (.node x88 (.node x42 .nil .nil .nil) .nil .nil) (.node x88 (.node x42 .nil .nil .nil) .nil .nil) .nil) .nil .nil)) .nil (.node x89 (.node x90 (.node x67 (.node x62 (.node x38 .nil .nil .nil) .nil .nil) .nil .nil) .nil .nil) (.node x90 .nil (.node x67 .nil (.node x62 .nil (.node x38 .nil .nil .nil) .nil) .nil) .nil) .nil))
theorem c21 : chkT s21 6 [0, 1, 0, 1, 0] [2, 4] [2, 4] = true := by decide +kernel
def s22 : Tr := .node x107 (.node x105 (.node x89 (.node x90 (.node x67 (.node x62 (.node x38 .nil .nil .nil) .nil (.node x38 .nil .nil .nil)) .nil (.node x62 (.node x38 .nil .nil .nil) .nil .nil)) .nil (.node x67 (.node x62 (.node x38 .nil .nil .nil) .nil .nil) .nil .nil)) .nil (.node x90 (.node x67 (.node x62 (.node x38 .nil .nil .nil) (.node x38 .nil .nil .nil) .nil) .nil .nil) .nil .nil)) .nil (.node x89 (.node x90 (.node x67 (.node x62 (.node x38 .nil .nil .nil) .nil .nil) .nil .nil) (.node x67 (.node x62 .nil (.node x38 .nil .nil .nil) .nil) .nil .nil) .nil) .nil .nil)) (.node x105 .nil (.node x89 .nil (.node x90 .nil (.node x67 .nil (.node x62 .nil (.node x38 .nil .nil .nil) .nil) .nil) .nil) .nil) .nil) (.node x105 (.node x89 (.node x90 (.node x67 (.node x62 (.node x38 .nil .nil .nil) .nil .nil) .nil .nil) .nil .nil) .nil .nil) (.node x89 .nil (.node x90 .nil (.node x67 .nil (.node x62 .nil (.node x38 .nil .nil .nil) .nil) .nil) .nil) .nil) .nil)
theorem c22 : chkT s22 6 [0, 1, 0, 1, 0] [2, 4, 5] [2, 4, 5] = true := by decide +kernel
def s23 : Tr := .node x110 s21 .nil s22
theorem c23 : chkT s23 5 [0, 1, 0, 1] [2, 4] [2, 4] = true := chk_node (by decide +kernel) (by decide +kernel) c21 rfl c22
def s24 : Tr := .node x109 s18 s20 s23
theorem c24 : chkT s24 4 [0, 1, 0] [2] [2] = true := chk_node (by decide +kernel) (by decide +kernel) c18 c20 c23
def s25 : Tr := .node x107 (.node x105 (.node x89 (.node x90 (.node x67 (.node x62 (.node x38 .nil .nil .nil) .nil .nil) .nil (.node x62 (.node x38 .nil .nil .nil) .nil (.node x38 .nil .nil .nil))) .nil (.node x67 (.node x62 (.node x38 .nil .nil .nil) .nil (.node x38 .nil .nil .nil)) .nil (.node x62 (.node x38 .nil .nil .nil) (.node x38 .nil .nil .nil) .nil))) .nil (.node x90 (.node x67 (.node x62 (.node x38 .nil .nil .nil) .nil (.node x38 .nil .nil .nil)) .nil (.node x62 (.node x38 .nil .nil .nil) .nil .nil)) .nil (.node x67 (.node x62 (.node x38 .nil .nil .nil) .nil .nil) (.node x62 .nil (.node x38 .nil .nil .nil) .nil) .nil))) .nil (.node x89 (.node x90 (.node x67 (.node x62 (.node x38 .nil .nil .nil) (.node x38 .nil .nil .nil) (.node x38 .nil .nil .nil)) .nil (.node x62 (.node x38 .nil .nil .nil) .nil .nil)) .nil (.node x67 (.node x62 (.node x38 .nil .nil .nil) (.node x38 .nil .nil .nil) .nil) .nil .nil)) .nil (.node x90 (.node x67 (.node x62 (.node x38 .nil .nil .nil) .nil .nil) .nil .nil) (.node x67 .nil (.node x62 .nil (.node x38 .nil .nil .nil) .nil) .nil) .nil))) .nil (.node x105 (.node x89 (.node x90 (.node x67 (.node x62 (.node x38 .nil .nil .nil) .nil (.node x38 .nil .nil .nil)) .nil (.node x62 (.node x38 .nil .nil .nil) .nil .nil)) (.node x67 (.node x62 (.node x38 .nil .nil .nil) .nil .nil) .nil .nil) (.node x67 (.node x62 (.node x38 .nil .nil .nil) .nil .nil) .nil .nil)) .nil (.node x90 (.node x67 (.node x62 (.node x38 .nil .nil .nil) .nil .nil) (.node x62 (.node x38 .nil .nil .nil) .nil .nil) .nil) .nil .nil)) .nil (.node x89 (.node x90 (.node x67 (.node x62 (.node x38 .nil .nil .nil) .nil .nil) .nil .nil) .nil .nil) (.node x90 .nil (.node x67 .nil (.node x62 .nil (.node x38 .nil .nil .nil) .nil) .nil) .nil) .nil))
theorem c25 : chkT s25 6 [0, 0, 0, 0, 0] [2, 3] [2, 3] = true := by decide +kernel
def s26 : Tr := .node x107 (.node x105 (.node x89 (.node x90 (.node x67 (.node x62 (.node x38 .nil .nil .nil) .nil (.node x38 .nil .nil .nil)) .nil (.node x62 (.node x38 .nil .nil .nil) .nil .nil)) .nil (.node x67 (.node x62 (.node x38 .nil .nil .nil) .nil .nil) .nil .nil)) .nil (.node x90 (.node x67 (.node x62 (.node x38 .nil .nil .nil) (.node x38 .nil .nil .nil) .nil) .nil .nil) .nil .nil)) (.node x89 (.node x90 .nil (.node x67 (.node x62 .nil (.node x38 .nil .nil .nil) .nil) .nil .nil) .nil) .nil .nil) (.node x89 (.node x90 (.node x67 (.node x62 (.node x38 .nil .nil .nil) .nil .nil) .nil .nil) (.node x67 (.node x62 .nil (.node x38 .nil .nil .nil) .nil) .nil .nil) .nil) .nil .nil)) .nil (.node x105 (.node x89 (.node x90 (.node x67 (.node x62 (.node x38 .nil .nil .nil) .nil .nil) .nil .nil) .nil .nil) .nil .nil) (.node x89 .nil (.node x90 .nil (.node x67 .nil (.node x62 .nil (.node x38 .nil .nil .nil) .nil) .nil) .nil) .nil) .nil)
theorem c26 : chkT s26 6 [0, 0, 0, 0, 0] [2, 3, 5] [2, 3, 5] = true := by decide +kernel
def s27 : Tr := .node x114 s25 .nil s26
theorem c27 : chkT s27 5 [0, 0, 0, 0] [2, 3] [2, 3] = true := chk_node (by decide +kernel) (by decide +kernel) c25 rfl c26
def s28 : Tr := .node x107 .nil (.node x105 .nil (.node x89 .nil (.node x90 .nil (.node x67 .nil (.node x62 .nil (.node x38 .nil .nil .nil) .nil) .nil) .nil) .nil) .nil) .nil
theorem c28 : chkT s28 6 [0, 0, 0, 0, 0] [2, 3, 4, 5] [2, 3] = true := by decide +kernel
def s29 : Tr := .node x114 .nil s28 .nil
theorem c29 : chkT s29 5 [0, 0, 0, 0] [2, 3, 4] [2, 3] = true := chk_node (by decide +kernel) (by decide +kernel) rfl c28 rfl
def s30 : Tr := .node x107 (.node x105 (.node x89 (.node x90 (.node x67 (.node x62 (.node x38 .nil .nil .nil) .nil (.node x38 .nil .nil .nil)) .nil (.node x62 (.node x38 .nil .nil .nil) .nil .nil)) .nil (.node x67 (.node x62 (.node x38 .nil .nil .nil) .nil .nil) .nil .nil)) .nil (.node x90 (.node x67 (.node x62 (.node x38 .nil .nil .nil) .nil .nil) .nil .nil) .nil .nil)) .nil (.node x89 (.node x90 (.node x67 (.node x62 (.node x38 .nil .nil .nil) .nil .nil) (.node x62 (.node x38 .nil .nil .nil) .nil .nil) .nil) .nil .nil) .nil .nil)) .nil (.node x105 (.node x89 (.node x90 (.node x67 (.node x62 (.node x38 .nil .nil .nil) .nil .nil) .nil .nil) .nil .nil) (.node x90 (.node x67 .nil (.node x62 (.node x38 .nil .nil .nil) .nil .nil) .nil) .nil .nil) .nil) .nil .nil)
theorem c30 : chkT s30 6 [0, 0, 0, 0, 0] [2, 3, 4] [2, 3, 4] = true := by decide +kernel
def s31 : Tr := .node x107 .nil (.node x105 .nil (.node x89 .nil (.node x90 .nil (.node x67 .nil (.node x62 .nil (.node x38 .nil .nil .nil) .nil) .nil) .nil) .nil) .nil) .nil
theorem c31 : chkT s31 6 [0, 0, 0, 0, 0] [2, 3, 4, 5] [2, 3, 4] = true := by decide +kernel
def s32 : Tr := .node x107 (.node x105 (.node x89 (.node x90 (.node x67 (.node x62 (.node x38 .nil .nil .nil) .nil .nil) .nil .nil) .nil .nil) .nil .nil) .nil .nil) (.node x105 .nil (.node x89 .nil (.node x90 .nil (.node x67 .nil (.node x62 .nil (.node x38 .nil .nil .nil) .nil) .nil) .nil) .nil) .nil) .nil
theorem c32 : chkT s32 6 [0, 0, 0, 0, 0] [2, 3, 4, 5] [2, 3, 4, 5] = true := by decide +kernel
def s33 : Tr := .node x114 s30 s31 s32
theorem c33 : chkT s33 5 [0, 0, 0, 0] [2, 3, 4] [2, 3, 4] = true := chk_node (by decide +kernel) (by decide +kernel) c30 c31 c32
def s34 : Tr := .node x113 s27 s29 s33
theorem c34 : chkT s34 4 [0, 1, 0] [2, 3] [2, 3] = true := chk_node (by decide +kernel) (by decide +kernel) c27 c29 c33
def s35 : Tr := .node x108 s24 .nil s34
theorem c35 : chkT s35 3 [0, 1] [2] [2] = true := chk_node (by decide +kernel) (by decide +kernel) c24 rfl c34
def s36 : Tr := .node x1 s15 .nil s35
theorem c36 : chkT s36 2 [0] [] [] = true := chk_node (by decide +kernel) (by decide +kernel) c15 rfl c35
def s37 : Tr := .node x107 (.node x105 (.node x89 (.node x90 (.node x67 (.node x62 (.node x38 .nil .nil .nil) .nil .nil) .nil .nil) .nil .nil) .nil (.node x90 (.node x67 (.node x62 (.node x38 .nil .nil .nil) .nil (.node x38 .nil .nil .nil)) .nil (.node x62 (.node x38 .nil .nil .nil) .nil (.node x38 .nil .nil .nil))) .nil (.node x67 (.node x62 (.node x38 .nil .nil .nil) .nil (.node x38 .nil .nil .nil)) (.node x62 .nil (.node x38 .nil .nil .nil) .nil) (.node x62 (.node x38 .nil .nil .nil) (.node x38 .nil .nil .nil) .nil)))) .nil (.node x89 (.node x90 (.node x67 (.node x62 (.node x38 .nil .nil .nil) .nil (.node x38 .nil .nil .nil)) .nil (.node x62 (.node x38 .nil .nil .nil) .nil (.node x38 .nil .nil .nil))) .nil (.node x67 (.node x62 (.node x38 .nil .nil .nil) (.node x38 .nil .nil .nil) (.node x38 .nil .nil .nil)) .nil (.node x62 (.node x38 .nil .nil .nil) (.node x38 .nil .nil .nil) .nil))) .nil (.node x90 (.node x67 (.node x62 (.node x38 .nil .nil .nil) .nil (.node x38 .nil .nil .nil)) .nil (.node x62 (.node x38 .nil .nil .nil) .nil .nil)) (.node x67 .nil (.node x62 .nil (.node x38 .nil .nil .nil) .nil) .nil) (.node x67 (.node x62 (.node x38 .nil .nil .nil) .nil .nil) (.node x62 .nil (.node x38 .nil .nil .nil) .nil) .nil)))) .nil (.node x105 (.node x89 (.node x90 (.node x67 (.node x62 (.node x38 .nil .nil .nil) (.node x38 .nil .nil .nil) (.node x38 .nil .nil .nil)) .nil (.node x62 (.node x38 .nil .nil .nil) .nil (.node x38 .nil .nil .nil))) .nil (.node x67 (.node x62 (.node x38 .nil .nil .nil) .nil (.node x38 .nil .nil .nil)) .nil (.node x62 (.node x38 .nil .nil .nil) (.node x38 .nil .nil .nil) .nil))) .nil (.node x90 (.node x67 (.node x62 (.node x38 .nil .nil .nil) .nil (.node x38 .nil .nil .nil)) (.node x62 (.node x38 .nil .nil .nil) .nil .nil) (.node x62 (.node x38 .nil .nil .nil) .nil .nil)) .nil (.node x67 (.node x62 (.node x38 .nil .nil .nil) .nil .nil) (.node x62 .nil (.node x38 .nil .nil .nil) .nil) .nil))) .nil (.node x89 (.node x90 (.node x67 (.node x62 (.node x38 .nil .nil .nil) .nil (.node x38 .nil .nil .nil)) .nil (.node x62 (.node x38 .nil .nil .nil) .nil .nil)) .nil (.node x67 (.node x62 (.node x38 .nil .nil .nil) (.node x38 .nil .nil .nil) .nil) .nil .nil)) (.node x90 .nil (.node x67 .nil (.node x62 .nil (.node x38 .nil .nil .nil) .nil) .nil) .nil) (.node x90 (.node x67 (.node x62 (.node x38 .nil .nil .nil) .nil .nil) .nil .nil) (.node x67 .nil (.node x62 .nil (.node x38 .nil .nil .nil) .nil) .nil) .nil)))
theorem c37 : chkT s37 6 [0, 0, 0, 0, 0] [1] [1] = true := by decide +kernel
def s38 : Tr := .node x107 (.node x105 (.node x89 (.node x90 (.node x67 (.node x62 (.node x38 .nil .nil .nil) .nil (.node x38 .nil .nil .nil)) .nil (.node x62 (.node x38 .nil .nil .nil) .nil (.node x38 .nil .nil .nil))) (.node x67 (.node x62 (.node x38 .nil .nil .nil) .nil .nil) .nil .nil) (.node x67 (.node x62 (.node x38 .nil .nil .nil) .nil (.node x38 .nil .nil .nil)) .nil (.node x62 (.node x38 .nil .nil .nil) (.node x38 .nil .nil .nil) .nil))) .nil (.node x90 (.node x67 (.node x62 (.node x38 .nil .nil .nil) (.node x38 .nil .nil .nil) (.node x38 .nil .nil .nil)) .nil (.node x62 (.node x38 .nil .nil .nil) .nil .nil)) .nil (.node x67 (.node x62 (.node x38 .nil .nil .nil) .nil .nil) (.node x62 .nil (.node x38 .nil .nil .nil) .nil) .nil))) .nil (.node x89 (.node x90 (.node x67 (.node x62 (.node x38 .nil .nil .nil) .nil (.node x38 .nil .nil .nil)) .nil (.node x62 (.node x38 .nil .nil .nil) .nil .nil)) (.node x67 (.node x62 .nil (.node x38 .nil .nil .nil) .nil) .nil .nil) (.node x67 (.node x62 (.node x38 .nil .nil .nil) (.node x38 .nil .nil .nil) .nil) .nil .nil)) .nil (.node x90 (.node x67 (.node x62 (.node x38 .nil .nil .nil) .nil .nil) .nil .nil) (.node x67 .nil (.node x62 .nil (.node x38 .nil .nil .nil) .nil) .nil) .nil))) .nil (.node x105 (.node x89 (.node x90 (.node x67 (.node x62 (.node x38 .nil .nil .nil) .nil (.node x38 .nil .nil .nil)) .nil (.node x62 (.node x38 .nil .nil .nil) .nil .nil)) .nil (.node x67 (.node x62 (.node x38 .nil .nil .nil) .nil .nil) .nil .nil)) .nil (.node x90 (.node x67 (.node x62 (.node x38 .nil .nil .nil) .nil .nil) (.node x62 (.node x38 .nil .nil .nil) .nil .nil) .nil) .nil .nil)) (.node x89 .nil (.node x90 .nil (.node x67 .nil (.node x62 .nil (.node x38 .nil .nil .nil) .nil) .nil) .nil) .nil) (.node x89 (.node x90 (.node x67 (.node x62 (.node x38 .nil .nil .nil) .nil .nil) .nil .nil) .nil .nil) (.node x90 .nil (.node x67 .nil (.node x62 .nil (.node x38 .nil .nil .nil) .nil) .nil) .nil) .nil))
theorem c38 : chkT s38 6 [0, 0, 0, 0, 0] [1, 5] [1, 5] = true := by decide +kernel
def s39 : Tr := .node x114 s37 .nil s38
theorem c39 : chkT s39 5 [0, 0, 0, 0] [1] [1] = true := chk_node (by decide +kernel) (by decide +kernel) c37 rfl c38
def s40 : Tr := .node x107 (.node x105 (.node x89 (.node x90 (.node x67 (.node x62 (.node x38 .nil .nil .nil) .nil (.node x38 .nil .nil .nil)) .nil (.node x62 (.node x38 .nil .nil .nil) .nil (.node x38 .nil .nil .nil))) .nil (.node x67 (.node x62 (.node x38 .nil .nil .nil) .nil (.node x38 .nil .nil .nil)) .nil (.node x62 (.node x38 .nil .nil .nil) (.node x38 .nil .nil .nil) .nil))) .nil (.node x90 (.node x67 (.node x62 (.node x38 .nil .nil .nil) .nil (.node x38 .nil .nil .nil)) .nil (.node x62 (.node x38 .nil .nil .nil) .nil .nil)) .nil (.node x67 (.node x62 (.node x38 .nil .nil .nil) .nil .nil) (.node x62 .nil (.node x38 .nil .nil .nil) .nil) .nil))) (.node x89 (.node x90 (.node x67 .nil (.node x62 (.node x38 .nil .nil .nil) .nil .nil) .nil) .nil .nil) .nil .nil) (.node x89 (.node x90 (.node x67 (.node x62 (.node x38 .nil .nil .nil) .nil (.node x38 .nil .nil .nil)) (.node x62 (.node x38 .nil .nil .nil) .nil .nil) (.node x62 (.node x38 .nil .nil .nil) .nil .nil)) .nil (.node x67 (.node x62 (.node x38 .nil .nil .nil) (.node x38 .nil .nil .nil) .nil) .nil .nil)) .nil (.node x90 (.node x67 (.node x62 (.node x38 .nil .nil .nil) .nil .nil) .nil .nil) (.node x67 .nil (.node x62 .nil (.node x38 .nil .nil .nil) .nil) .nil) .nil))) .nil (.node x105 (.node x89 (.node x90 (.node x67 (.node x62 (.node x38 .nil .nil .nil) .nil (.node x38 .nil .nil .nil)) .nil (.node x62 (.node x38 .nil .nil .nil) .nil .nil)) .nil (.node x67 (.node x62 (.node x38 .nil .nil .nil) .nil .nil) .nil .nil)) (.node x90 (.node x67 .nil (.node x62 (.node x38 .nil .nil .nil) .nil .nil) .nil) .nil .nil) (.node x90 (.node x67 (.node x62 (.node x38 .nil .nil .nil) .nil .nil) (.node x62 (.node x38 .nil .nil .nil) .nil .nil) .nil) .nil .nil)) .nil (.node x89 (.node x90 (.node x67 (.node x62 (.node x38 .nil .nil .nil) .nil .nil) .nil .nil) .nil .nil) (.node x90 .nil (.node x67 .nil (.node x62 .nil (.node x38 .nil .nil .nil) .nil) .nil) .nil) .nil))
theorem c40 : chkT s40 6 [0, 0, 0, 0, 0] [1, 4] [1, 4] = true := by decide +kernel
def s41 : Tr := .node x107 (.node x105 (.node x89 (.node x90 (.node x67 (.node x62 (.node x38 .nil .nil .nil) .nil (.node x38 .nil .nil .nil)) .nil (.node x62 (.node x38 .nil .nil .nil) .nil .nil)) .nil (.node x67 (.node x62 (.node x38 .nil .nil .nil) .nil .nil) .nil .nil)) .nil (.node x90 (.node x67 (.node x62 (.node x38 .nil .nil .nil) (.node x38 .nil .nil .nil) .nil) .nil .nil) .nil .nil)) .nil (.node x89 (.node x90 (.node x67 (.node x62 (.node x38 .nil .nil .nil) .nil .nil) .nil .nil) (.node x67 (.node x62 .nil (.node x38 .nil .nil .nil) .nil) .nil .nil) .nil) .nil .nil)) (.node x105 .nil (.node x89 .nil (.node x90 .nil (.node x67 .nil (.node x62 .nil (.node x38 .nil .nil .nil) .nil) .nil) .nil) .nil) .nil) (.node x105 (.node x89 (.node x90 (.node x67 (.node x62 (.node x38 .nil .nil .nil) .nil .nil) .nil .nil) .nil .nil) .nil .nil) (.node x89 .nil (.node x90 .nil (.node x67 .nil (.node x62 .nil (.node x38 .nil .nil .nil) .nil) .nil) .nil) .nil) .nil)
theorem c41 : chkT s41 6 [0, 0, 0, 0, 0] [1, 4, 5] [1, 4, 5] = true := by decide +kernel
def s42 : Tr := .node x114 s40 .nil s41
theorem c42 : chkT s42 5 [0, 0, 0, 0] [1, 4] [1, 4] = true := chk_node (by decide +kernel) (by decide +kernel) c40 rfl c41
def s43 : Tr := .node x113 s39 .nil s42
theorem c43 : chkT s43 4 [0, 0, 0] [1] [1] = true := chk_node (by decide +kernel) (by decide +kernel) c39 rfl c42
def s44 : Tr := .node x107 (.node x105 (.node x89 (.node x90 (.node x67 (.node x62 (.node x38 .nil .nil .nil) .nil .nil) .nil (.node x62 (.node x38 .nil .nil .nil) .nil (.node x38 .nil .nil .nil))) .nil (.node x67 (.node x62 (.node x38 .nil .nil .nil) .nil (.node x38 .nil .nil .nil)) .nil (.node x62 (.node x38 .nil .nil .nil) (.node x38 .nil .nil .nil) .nil))) .nil (.node x90 (.node x67 (.node x62 (.node x38 .nil .nil .nil) .nil (.node x38 .nil .nil .nil)) .nil (.node x62 (.node x38 .nil .nil .nil) .nil .nil)) .nil (.node x67 (.node x62 (.node x38 .nil .nil .nil) .nil .nil) (.node x62 .nil (.node x38 .nil .nil .nil) .nil) .nil))) .nil (.node x89 (.node x90 (.node x67 (.node x62 (.node x38 .nil .nil .nil) (.node x38 .nil .nil .nil) (.node x38 .nil .nil .nil)) .nil (.node x62 (.node x38 .nil .nil .nil) .nil .nil)) .nil (.node x67 (.node x62 (.node x38 .nil .nil .nil) (.node x38 .nil .nil .nil) .nil) .nil .nil)) .nil (.node x90 (.node x67 (.node x62 (.node x38 .nil .nil .nil) .nil .nil) .nil .nil) (.node x67 .nil (.node x62 .nil (.node x38 .nil .nil .nil) .nil) .nil) .nil))) .nil (.node x105 (.node x89 (.node x90 (.node x67 (.node x62 (.node x38 .nil .nil .nil) .nil (.node x38 .nil .nil .nil)) .nil (.node x62 (.node x38 .nil .nil .nil) .nil .nil)) (.node x67 (.node x62 (.node x38 .nil .nil .nil) .nil .nil) .nil .nil) (.node x67 (.node x62 (.node x38 .nil .nil .nil) .nil .nil) .nil .nil)) .nil (.node x90 (.node x67 (.node x62 (.node x38 .nil .nil .nil) .nil .nil) (.node x62 (.node x38 .nil .nil .nil) .nil .nil) .nil) .nil .nil)) .nil (.node x89 (.node x90 (.node x67 (.node x62 (.node x38 .nil .nil .nil) .nil .nil) .nil .nil) .nil .nil) (.node x90 .nil (.node x67 .nil (.node x62 .nil (.node x38 .nil .nil .nil) .nil) .nil) .nil) .nil))
theorem c44 : chkT s44 6 [0, 0, 0, 0, 0] [1, 3] [1, 3] = true := by decide +kernel
def s45 : Tr := .node x107 (.node x105 .nil (.node x89 (.node x90 .nil (.node x67 (.node x62 .nil (.node x38 .nil .nil .nil) .nil) .nil .nil) .nil) .nil .nil) .nil) .nil .nil
theorem c45 : chkT s45 6 [0, 0, 0, 0, 0] [1, 3, 5] [1, 3] = true := by decide +kernel
def s46 : Tr := .node x107 (.node x105 (.node x89 (.node x90 (.node x67 (.node x62 (.node x38 .nil .nil .nil) .nil (.node x38 .nil .nil .nil)) .nil (.node x62 (.node x38 .nil .nil .nil) .nil .nil)) .nil (.node x67 (.node x62 (.node x38 .nil .nil .nil) .nil .nil) .nil .nil)) .nil (.node x90 (.node x67 (.node x62 (.node x38 .nil .nil .nil) (.node x38 .nil .nil .nil) .nil) .nil .nil) .nil .nil)) (.node x89 (.node x90 .nil (.node x67 (.node x62 .nil (.node x38 .nil .nil .nil) .nil) .nil .nil) .nil) .nil .nil) (.node x89 (.node x90 (.node x67 (.node x62 (.node x38 .nil .nil .nil) .nil .nil) .nil .nil) (.node x67 (.node x62 .nil (.node x38 .nil .nil .nil) .nil) .nil .nil) .nil) .nil .nil)) .nil (.node x105 (.node x89 (.node x90 (.node x67 (.node x62 (.node x38 .nil .nil .nil) .nil .nil) .nil .nil) .nil .nil) .nil .nil) (.node x89 .nil (.node x90 .nil (.node x67 .nil (.node x62 .nil (.node x38 .nil .nil .nil) .nil) .nil) .nil) .nil) .nil)
theorem c46 : chkT s46 6 [0, 0, 0, 0, 0] [1, 3, 5] [1, 3, 5] = true := by decide +kernel
def s47 : Tr := .node x114 s44 s45 s46
theorem c47 : chkT s47 5 [0, 0, 0, 0] [1, 3] [1, 3] = true := chk_node (by decide +kernel) (by decide +kernel) c44 c45 c46
def s48 : Tr := .node x107 (.node x105 (.node x89 (.node x90 (.node x67 (.node x62 (.node x38 .nil .nil .nil) .nil (.node x38 .nil .nil .nil)) .nil (.node x62 (.node x38 .nil .nil .nil) .nil .nil)) .nil (.node x67 (.node x62 (.node x38 .nil .nil .nil) .nil .nil) .nil .nil)) .nil (.node x90 (.node x67 (.node x62 (.node x38 .nil .nil .nil) .nil .nil) .nil .nil) .nil .nil)) .nil (.node x89 (.node x90 (.node x67 (.node x62 (.node x38 .nil .nil .nil) .nil .nil) (.node x62 (.node x38 .nil .nil .nil) .nil .nil) .nil) .nil .nil) .nil .nil)) .nil (.node x105 (.node x89 (.node x90 (.node x67 (.node x62 (.node x38 .nil .nil .nil) .nil .nil) .nil .nil) .nil .nil) (.node x90 (.node x67 .nil (.node x62 (.node x38 .nil .nil .nil) .nil .nil) .nil) .nil .nil) .nil) .nil .nil)
theorem c48 : chkT s48 6 [0, 0, 0, 0, 0] [1, 3, 4] [1, 3, 4] = true := by decide +kernel
def s49 : Tr := .node x107 .nil (.node x105 .nil (.node x89 .nil (.node x90 .nil (.node x67 .nil (.node x62 .nil (.node x38 .nil .nil .nil) .nil) .nil) .nil) .nil) .nil) .nil
theorem c49 : chkT s49 6 [0, 0, 0, 0, 0] [1, 3, 4, 5] [1, 3, 4] = true := by decide +kernel
def s50 : Tr := .node x107 (.node x105 (.node x89 (.node x90 (.node x67 (.node x62 (.node x38 .nil .nil .nil) .nil .nil) .nil .nil) .nil .nil) .nil .nil) .nil .nil) (.node x105 .nil (.node x89 .nil (.node x90 .nil (.node x67 .nil (.node x62 .nil (.node x38 .nil .nil .nil) .nil) .nil) .nil) .nil) .nil) .nil
theorem c50 : chkT s50 6 [0, 0, 0, 0, 0] [1, 3, 4, 5] [1, 3, 4, 5] = true := by decide +kernel
def s51 : Tr := .node x114 s48 s49 s50
theorem c51 : chkT s51 5 [0, 0, 0, 0] [1, 3, 4] [1, 3, 4] = true := chk_node (by decide +kernel) (by decide +kernel) c48 c49 c50
def s52 : Tr := .node x113 s47 .nil s51
theorem c52 : chkT s52 4 [0, 0, 0] [1, 3] [1, 3] = true := chk_node (by decide +kernel) (by decide +kernel) c47 rfl c51
def s53 : Tr := .node x116 s43 .nil s52
theorem c53 : chkT s53 3 [0, 0] [1] [1] = true := chk_node (by decide +kernel) (by decide +kernel) c43 rfl c52
def s54 : Tr := .node x107 .nil (.node x105 .nil (.node x89 .nil (.node x90 .nil (.node x67 .nil (.node x62 .nil (.node x38 .nil .nil .nil) .nil) .nil) .nil) .nil) .nil) .nil
theorem c54 : chkT s54 6 [0, 0, 0, 0, 0] [1, 2, 3, 4, 5] [1] = true := by decide +kernel
def s55 : Tr := .node x114 .nil s54 .nil
theorem c55 : chkT s55 5 [0, 0, 0, 0] [1, 2, 3, 4] [1] = true := chk_node (by decide +kernel) (by decide +kernel) rfl c54 rfl
def s56 : Tr := .node x113 .nil s55 .nil
theorem c56 : chkT s56 4 [0, 0, 0] [1, 2, 3] [1] = true := chk_node (by decide +kernel) (by decide +kernel) rfl c55 rfl
def s57 : Tr := .node x116 .nil s56 .nil
theorem c57 : chkT s57 3 [0, 0] [1, 2] [1] = true := chk_node (by decide +kernel) (by decide +kernel) rfl c56 rfl
def s58 : Tr := .node x107 (.node x105 (.node x89 (.node x90 (.node x67 (.node x62 (.node x38 .nil .nil .nil) .nil .nil) .nil .nil) .nil (.node x67 (.node x62 (.node x38 .nil .nil .nil) .nil (.node x38 .nil .nil .nil)) .nil (.node x62 (.node x38 .nil .nil .nil) (.node x38 .nil .nil .nil) .nil))) .nil (.node x90 (.node x67 (.node x62 (.node x38 .nil .nil .nil) .nil (.node x38 .nil .nil .nil)) .nil (.node x62 (.node x38 .nil .nil .nil) .nil .nil)) .nil (.node x67 (.node x62 (.node x38 .nil .nil .nil) .nil .nil) (.node x62 .nil (.node x38 .nil .nil .nil) .nil) .nil))) .nil (.node x89 (.node x90 (.node x67 (.node x62 (.node x38 .nil .nil .nil) .nil (.node x38 .nil .nil .nil)) .nil (.node x62 (.node x38 .nil .nil .nil) .nil .nil)) .nil (.node x67 (.node x62 (.node x38 .nil .nil .nil) (.node x38 .nil .nil .nil) .nil) .nil .nil)) .nil (.node x90 (.node x67 (.node x62 (.node x38 .nil .nil .nil) .nil .nil) .nil .nil) (.node x67 .nil (.node x62 .nil (.node x38 .nil .nil .nil) .nil) .nil) .nil))) .nil (.node x105 (.node x89 (.node x90 (.node x67 (.node x62 (.node x38 .nil .nil .nil) .nil (.node x38 .nil .nil .nil)) (.node x62 (.node x38 .nil .nil .nil) .nil .nil) (.node x62 (.node x38 .nil .nil .nil) .nil .nil)) .nil (.node x67 (.node x62 (.node x38 .nil .nil .nil) .nil .nil) .nil .nil)) .nil (.node x90 (.node x67 (.node x62 (.node x38 .nil .nil .nil) .nil .nil) (.node x62 (.node x38 .nil .nil .nil) .nil .nil) .nil) .nil .nil)) .nil (.node x89 (.node x90 (.node x67 (.node x62 (.node x38 .nil .nil .nil) .nil .nil) .nil .nil) .nil .nil) (.node x90 .nil (.node x67 .nil (.node x62 .nil (.node x38 .nil .nil .nil) .nil) .nil) .nil) .nil))
theorem c58 : chkT s58 6 [0, 0, 0, 0, 0] [1, 2] [1, 2] = true := by decide +kernel
def s59 : Tr := .node x107 (.node x105 (.node x89 (.node x90 (.node x67 (.node x62 (.node x38 .nil .nil .nil) .nil (.node x38 .nil .nil .nil)) .nil (.node x62 (.node x38 .nil .nil .nil) .nil .nil)) .nil (.node x67 (.node x62 (.node x38 .nil .nil .nil) .nil .nil) .nil .nil)) (.node x90 (.node x67 (.node x62 .nil (.node x38 .nil .nil .nil) .nil) .nil .nil) .nil .nil) (.node x90 (.node x67 (.node x62 (.node x38 .nil .nil .nil) (.node x38 .nil .nil .nil) .nil) .nil .nil) .nil .nil)) .nil (.node x89 (.node x90 (.node x67 (.node x62 (.node x38 .nil .nil .nil) .nil .nil) .nil .nil) (.node x67 (.node x62 .nil (.node x38 .nil .nil .nil) .nil) .nil .nil) .nil) .nil .nil)) .nil (.node x105 (.node x89 (.node x90 (.node x67 (.node x62 (.node x38 .nil .nil .nil) .nil .nil) .nil .nil) .nil .nil) .nil .nil) (.node x89 .nil (.node x90 .nil (.node x67 .nil (.node x62 .nil (.node x38 .nil .nil .nil) .nil) .nil) .nil) .nil) .nil)
theorem c59 : chkT s59 6 [0, 0, 0, 0, 0] [1, 2, 5] [1, 2, 5] = true := by decide +kernel
def s60 : Tr := .node x114 s58 .nil s59
theorem c60 : chkT s60 5 [0, 0, 0, 0] [1, 2] [1, 2] = true := chk_node (by decide +kernel) (by decide +kernel) c58 rfl c59
def s61 : Tr := .node x107 (.node x105 (.node x89 (.node x90 (.node x67 (.node x62 (.node x38 .nil .nil .nil) .nil (.node x38 .nil .nil .nil)) .nil (.node x62 (.node x38 .nil .nil .nil) .nil .nil)) .nil (.node x67 (.node x62 (.node x38 .nil .nil .nil) .nil .nil) .nil .nil)) .nil (.node x90 (.node x67 (.node x62 (.node x38 .nil .nil .nil) .nil .nil) .nil .nil) .nil .nil)) .nil (.node x89 (.node x90 (.node x67 (.node x62 (.node x38 .nil .nil .nil) .nil .nil) (.node x62 (.node x38 .nil .nil .nil) .nil .nil) .nil) .nil .nil) .nil .nil)) (.node x105 (.node x89 .nil (.node x90 (.node x67 .nil (.node x62 (.node x38 .nil .nil .nil) .nil .nil) .nil) .nil .nil) .nil) .nil .nil) (.node x105 (.node x89 (.node x90 (.node x67 (.node x62 (.node x38 .nil .nil .nil) .nil .nil) .nil .nil) .nil .nil) (.node x90 (.node x67 .nil (.node x62 (.node x38 .nil .nil .nil) .nil .nil) .nil) .nil .nil) .nil) .nil .nil)
theorem c61 : chkT s61 6 [0, 0, 0, 0, 0] [1, 2, 4] [1, 2, 4] = true := by decide +kernel
def s62 : Tr := .node x107 (.node x105 (.node x89 (.node x90 (.node x67 (.node x62 (.node x38 .nil .nil .nil) .nil .nil) .nil .nil) .nil .nil) .nil .nil) .nil .nil) (.node x105 .nil (.node x89 .nil (.node x90 .nil (.node x67 .nil (.node x62 .nil (.node x38 .nil .nil .nil) .nil) .nil) .nil) .nil) .nil) .nil
theorem c62 : chkT s62 6 [0, 0, 0, 0, 0] [1, 2, 4, 5] [1, 2, 4, 5] = true := by decide +kernel
def s63 : Tr := .node x114 s61 .nil s62
theorem c63 : chkT s63 5 [0, 0, 0, 0] [1, 2, 4] [1, 2, 4] = true := chk_node (by decide +kernel) (by decide +kernel) c61 rfl c62
def s64 : Tr := .node x113 s60 .nil s63
theorem c64 : chkT s64 4 [0, 0, 0] [1, 2] [1, 2] = true := chk_node (by decide +kernel) (by decide +kernel) c60 rfl c63
def s65 : Tr := .node x107 .nil (.node x105 .nil (.node x89 .nil (.node x90 .nil (.node x67 .nil (.node x62 .nil (.node x38 .nil .nil .nil) .nil) .nil) .nil) .nil) .nil) .nil
theorem c65 : chkT s65 6 [0, 0, 0, 0, 0] [1, 2, 3, 4, 5] [1, 2] = true := by decide +kernel
def s66 : Tr := .node x114 .nil s65 .nil
theorem c66 : chkT s66 5 [0, 0, 0, 0] [1, 2, 3, 4] [1, 2] = true := chk_node (by decide +kernel) (by decide +kernel) rfl c65 rfl
def s67 : Tr := .node x113 .nil s66 .nil
theorem c67 : chkT s67 4 [0, 0, 0] [1, 2, 3] [1, 2] = true := chk_node (by decide +kernel) (by decide +kernel) rfl c66 rfl
def s68 : Tr := .node x107 (.node x105 (.node x89 (.node x90 (.node x67 (.node x62 (.node x38 .nil .nil .nil) .nil .nil) .nil (.node x62 (.node x38 .nil .nil .nil) .nil .nil)) .nil (.node x67 (.node x62 (.node x38 .nil .nil .nil) .nil .nil) .nil .nil)) .nil (.node x90 (.node x67 (.node x62 (.node x38 .nil .nil .nil) .nil .nil) .nil .nil) .nil .nil)) .nil (.node x89 (.node x90 (.node x67 (.node x62 (.node x38 .nil .nil .nil) (.node x38 .nil .nil .nil) .nil) .nil .nil) .nil .nil) .nil .nil)) .nil (.node x105 (.node x89 (.node x90 (.node x67 (.node x62 (.node x38 .nil .nil .nil) .nil .nil) .nil .nil) (.node x67 (.node x62 (.node x38 .nil .nil .nil) .nil .nil) .nil .nil) .nil) .nil .nil) .nil .nil)
theorem c68 : chkT s68 6 [0, 0, 0, 0, 0] [1, 2, 3] [1, 2, 3] = true := by decide +kernel
def s69 : Tr := .node x107 (.node x105 (.node x89 (.node x90 (.node x67 (.node x62 (.node x38 .nil .nil .nil) .nil .nil) .nil .nil) .nil .nil) .nil .nil) (.node x89 (.node x90 .nil (.node x67 (.node x62 .nil (.node x38 .nil .nil .nil) .nil) .nil .nil) .nil) .nil .nil) .nil) .nil .nil
theorem c69 : chkT s69 6 [0, 0, 0, 0, 0] [1, 2, 3, 5] [1, 2, 3, 5] = true := by decide +kernel
def s70 : Tr := .node x114 s68 .nil s69
theorem c70 : chkT s70 5 [0, 0, 0, 0] [1, 2, 3] [1, 2, 3] = true := chk_node (by decide +kernel) (by decide +kernel) c68 rfl c69
def s71 : Tr := .node x107 .nil (.node x105 .nil (.node x89 .nil (.node x90 .nil (.node x67 .nil (.node x62 .nil (.node x38 .nil .nil .nil) .nil) .nil) .nil) .nil) .nil) .nil
theorem c71 : chkT s71 6 [0, 0, 0, 0, 0] [1, 2, 3, 4, 5] [1, 2, 3] = true := by decide +kernel
def s72 : Tr := .node x114 .nil s71 .nil
theorem c72 : chkT s72 5 [0, 0, 0, 0] [1, 2, 3, 4] [1, 2, 3] = true := chk_node (by decide +kernel) (by decide +kernel) rfl c71 rfl
def s73 : Tr := .node x107 (.node x105 (.node x89 (.node x90 (.node x67 (.node x62 (.node x38 .nil .nil .nil) .nil .nil) .nil .nil) .nil .nil) .nil .nil) .nil .nil) .nil .nil
theorem c73 : chkT s73 6 [0, 0, 0, 0, 0] [1, 2, 3, 4] [1, 2, 3, 4] = true := by decide +kernel
def s74 : Tr := .node x107 .nil (.node x105 .nil (.node x89 .nil (.node x90 .nil (.node x67 .nil (.node x62 .nil (.node x38 .nil .nil .nil) .nil) .nil) .nil) .nil) .nil) .nil
theorem c74 : chkT s74 6 [0, 0, 0, 0, 0] [1, 2, 3, 4, 5] [1, 2, 3, 4] = true := by decide +kernel
def s75 : Tr := .node x114 s73 s74 .nil
theorem c75 : chkT s75 5 [0, 0, 0, 0] [1, 2, 3, 4] [1, 2, 3, 4] = true := chk_node (by decide +kernel) (by decide +kernel) c73 c74 rfl
def s76 : Tr := .node x113 s70 s72 s75
theorem c76 : chkT s76 4 [0, 0, 0] [1, 2, 3] [1, 2, 3] = true := chk_node (by decide +kernel) (by decide +kernel) c70 c72 c75
def s77 : Tr := .node x116 s64 s67 s76
theorem c77 : chkT s77 3 [0, 0] [1, 2] [1, 2] = true := chk_node (by decide +kernel) (by decide +kernel) c64 c67 c76
def s78 : Tr := .node x115 s53 s57 s77
theorem c78 : chkT s78 2 [0] [1] [1] = true := chk_node (by decide +kernel) (by decide +kernel) c53 c57 c77
def s79 : Tr := .node x0 s36 .nil s78
theorem c79 : chkT s79 1 [] [] [] = true := chk_node (by decide +kernel) (by decide +kernel) c36 rfl c78
def tree : Tr := s79
theorem tree_ok : chkT tree 1 [] [] [] = true := c79

/-- all rulers, number by number -/
def goR : Nat → List Nat → Nat → Nat → Bool
  | c, su, at', d => inT tree 1 11 (fun n => su.contains n) (fun n => su.contains n) && (inT tree 1 11 (fun n => su.contains n || (decide (at' < n) && (n - at') % d == 0)) (fun n => su.contains n) &&
    match c with
    | 0 => true
    | c + 1 => (List.range 7).all fun a => if 11 < at' + (a + 1) then true else goR c (su ++ [at' + (a + 1)]) (at' + (a + 1)) (a + 1))
theorem goR_1 : goR 3 [1] 1 1 = true := by decide +kernel
theorem goR_2 : goR 3 [2] 2 2 = true := by decide +kernel
theorem goR_3 : goR 3 [3] 3 3 = true := by decide +kernel
theorem goR_4 : goR 3 [4] 4 4 = true := by decide +kernel
theorem goR_5 : goR 3 [5] 5 5 = true := by decide +kernel
theorem goR_6 : goR 3 [6] 6 6 = true := by decide +kernel
theorem goR_7 : goR 3 [7] 7 7 = true := by decide +kernel
/-- sums, from a start -/
def psum : Int → List Int → List Int
  | _, [] => []
  | at', g :: r => (at' + g) :: psum (at' + g) r
/-- up to the first above eleven -/
def upTo : List Int → List Int
  | [] => []
  | x :: r => if 11 < x then [x] else x :: upTo r

theorem psum_length : ∀ (at' : Int) (g : List Int), (psum at' g).length = g.length
  | _, [] => rfl
  | at', a :: r => by simp [psum, psum_length]
theorem psum_append : ∀ (at' : Int) (g r : List Int), psum at' (g ++ r) = psum at' g ++ psum (at' + g.sum) r
  | at', [], r => by simp [psum]
  | at', a :: g, r => by simp [psum, psum_append (at' + a) g r, Int.add_assoc]
theorem psum_gt {g : List Int} (h : ∀ x ∈ g, 1 ≤ x) : ∀ {at' : Int}, ∀ y ∈ psum at' g, at' < y := by
  induction g with
  | nil => intro at' y hy; cases hy
  | cons a r ih =>
    intro at' y hy
    have ha := h a List.mem_cons_self
    rcases List.mem_cons.mp hy with rfl | hy
    · omega
    · have := ih (fun x hx => h x (List.mem_cons_of_mem _ hx)) y hy
      omega
theorem psum_sorted {g : List Int} (h : ∀ x ∈ g, 1 ≤ x) : ∀ (at' : Int), (psum at' g).Pairwise (· < ·) := by
  induction g with
  | nil => intro _; exact .nil
  | cons a r ih =>
    intro at'
    have hr : ∀ x ∈ r, 1 ≤ x := fun x hx => h x (List.mem_cons_of_mem _ hx)
    exact List.pairwise_cons.mpr ⟨fun y hy => psum_gt hr y hy, ih hr _⟩
theorem upTo_sub : ∀ {l : List Int} {x : Int}, x ∈ upTo l → x ∈ l
  | a :: r, x, h => by
    unfold upTo at h
    split at h
    · simp at h; subst h; exact List.mem_cons_self
    · rcases List.mem_cons.mp h with rfl | h
      · exact List.mem_cons_self
      · exact List.mem_cons_of_mem _ (upTo_sub h)
theorem upTo_sorted : ∀ {l : List Int}, l.Pairwise (· < ·) → (upTo l).Pairwise (· < ·)
  | [], _ => .nil
  | a :: r, h => by
    rw [List.pairwise_cons] at h
    unfold upTo
    split
    · exact List.pairwise_cons.mpr ⟨(fun _ h => by cases h), List.Pairwise.nil⟩
    · exact List.pairwise_cons.mpr ⟨fun y hy => h.1 y (upTo_sub hy), upTo_sorted h.2⟩
/-- who is told -/
theorem mem_upTo : ∀ {l : List Int}, l.Pairwise (· < ·) → ∀ {x : Int}, x ∈ upTo l ↔ x ∈ l ∧ ∀ y ∈ l, 11 < y → x ≤ y
  | [], _, x => by simp [upTo]
  | a :: r, h, x => by
    rw [List.pairwise_cons] at h
    have ih := mem_upTo h.2 (x := x)
    unfold upTo
    split
    · rename_i q
      constructor
      · intro hx
        simp at hx; subst hx
        refine ⟨List.mem_cons_self, fun y hy _ => ?_⟩
        rcases List.mem_cons.mp hy with rfl | hy
        · omega
        · have := h.1 y hy; omega
      · rintro ⟨hx, hy⟩
        have := hy a List.mem_cons_self q
        rcases List.mem_cons.mp hx with rfl | hx
        · simp
        · have := h.1 x hx; omega
    · rename_i q
      constructor
      · intro hx
        rcases List.mem_cons.mp hx with rfl | hx
        · refine ⟨List.mem_cons_self, fun y hy q' => ?_⟩
          omega
        · obtain ⟨h1, h2⟩ := ih.mp hx
          refine ⟨List.mem_cons_of_mem _ h1, fun y hy q' => ?_⟩
          rcases List.mem_cons.mp hy with rfl | hy
          · omega
          · exact h2 y hy q'
      · rintro ⟨hx, hy⟩
        rcases List.mem_cons.mp hx with rfl | hx
        · exact List.mem_cons_self
        · exact List.mem_cons_of_mem _ (ih.mpr ⟨hx, fun y hy' => hy y (List.mem_cons_of_mem _ hy')⟩)
theorem upTo_le {g : List Int} (h : ∀ x ∈ g, 1 ≤ x ∧ x ≤ 7) : ∀ {at' : Int}, at' ≤ 11 → ∀ y ∈ upTo (psum at' g), y ≤ 18 := by
  induction g with
  | nil => intro at' _ y hy; cases hy
  | cons a r ih =>
    intro at' hat y hy
    have ha := h a List.mem_cons_self
    unfold psum upTo at hy
    split at hy
    · simp at hy; omega
    · rcases List.mem_cons.mp hy with rfl | hy
      · omega
      · exact ih (fun x hx => h x (List.mem_cons_of_mem _ hx)) (by omega) y hy

/-- a growing list is what a span keeps of it -/
theorem sorted_span : ∀ (n : Nat) (a : Int) (l : List Int), l.Pairwise (· < ·) → (∀ x ∈ l, a ≤ x ∧ x < a + n) → ((List.range n).map fun i => a + (i : Nat)).filter (fun x => l.contains x) = l
  | 0, a, l, _, h => by
    cases l with
    | nil => rfl
    | cons b r => have := h b List.mem_cons_self; omega
  | n + 1, a, l, hs, h => by
    rw [List.range_succ_eq_map, List.map_cons, List.map_map]
    have e : ((fun i : Nat => a + (i : Int)) ∘ Nat.succ) = fun i : Nat => (a + 1) + (i : Int) := by
      funext i; simp only [Function.comp]; omega
    rw [e]
    cases l with
    | nil => rw [List.filter_eq_nil_iff]; intro x _; simp
    | cons b r =>
      rw [List.pairwise_cons] at hs
      have hb := h b List.mem_cons_self
      by_cases q : b = a
      · subst q
        have ih := sorted_span n (b + 1) r hs.2 fun x hx => by
          have := h x (List.mem_cons_of_mem _ hx)
          have := hs.1 x hx
          omega
        have e0 : b + ((0 : Nat) : Int) = b := by omega
        rw [e0, List.filter_cons_of_pos (by simp)]
        congr 1
        refine Eq.trans ?_ ih
        apply List.filter_congr
        intro x hx
        obtain ⟨i, _, rfl⟩ := List.mem_map.mp hx
        rw [List.contains_cons]
        have : (b + 1 + (i : Int) == b) = false := by rw [beq_eq_false_iff_ne]; omega
        rw [this, Bool.false_or]
      · have ih := sorted_span n (a + 1) (b :: r) (List.pairwise_cons.mpr hs) fun x hx => by
          have := h x hx
          rcases List.mem_cons.mp hx with rfl | hx
          · omega
          · have := hs.1 x hx; omega
        have e0 : a + ((0 : Nat) : Int) = a := by omega
        rw [e0, List.filter_cons_of_neg ?_]
        · exact ih
        · rw [List.contains_iff_mem]
          intro hm
          rcases List.mem_cons.mp hm with e | hm
          · omega
          · have := hs.1 _ hm; omega
def extS (row : List Int) (e : Int) : List Int := if e = 0 then List.replicate 20 (idx row (-1)) else []

theorem gnext_at {l : List Int} {j : Nat} : gnext l (.at j) = if j < l.length then (if l.getD j 0 = 127 then .stop else if l.getD j 0 = 0 then (if j = 0 then .raise else .item (l.getD (j - 1) 0) (.rep (l.getD (j - 1) 0))) else .item (l.getD j 0) (.at (j + 1))) else .stop := rfl
theorem marksN_congr {l : List Int} {r : Int} {st st' : GS} (h : gnext l st = gnext l st') : ∀ f at' acc, marksN l r f st at' acc = marksN l r f st' at' acc
  | 0, _, _ => rfl
  | f + 1, _, _ => by rw [marksN, marksN, h]
theorem marks_rep {l : List Int} {d : Int} (hd : 1 ≤ d) : ∀ (n f : Nat) (at' : Int) (acc : List Int), at' ≤ 11 → 11 < at' + n * d → n ≤ f → marksN l 11 f (.rep d) at' acc = some (acc ++ upTo (psum at' (List.replicate n d)))
  | 0, f, at', acc, h1, h2, _ => by simp at h2; omega
  | n + 1, 0, at', acc, _, _, h => by omega
  | n + 1, f + 1, at', acc, h1, h2, h3 => by
    have e : ((n + 1 : Nat) : Int) * d = n * d + d := by rw [Int.natCast_succ, Int.add_mul, Int.one_mul]
    rw [e] at h2
    rw [marksN, List.replicate_succ, psum, upTo]
    simp only [gnext]
    split
    · rfl
    · rename_i q
      rw [marks_rep hd n f (at' + d) (acc ++ [at' + d]) (by omega) (by omega) (by omega)]
      simp
theorem getD_mid {pre s tl : List Int} {g : Int} : (pre ++ g :: s ++ tl).getD pre.length 0 = g := by
  simp [List.getD_eq_getElem?_getD]
theorem marks_row {row : List Int} {e : Int} (he : e = 0 ∨ e = 1 ∨ e = 2) (hr : ∀ x ∈ row, 1 ≤ x ∧ x ≤ 7) (hne : row ≠ []) (hd : 1 ≤ idx row (-1)) : ∀ (suf pre : List Int) (at' : Int) (acc : List Int) (f : Nat), row = pre ++ suf → 0 ≤ at' → at' ≤ 11 → suf.length + 30 ≤ f →
    marksN (rulerS row e) 11 f (.at pre.length) at' acc = some (acc ++ upTo (psum at' (suf ++ extS row e)))
  | [], pre, at', acc, f, hrow, h0, h1, hf => by
    rw [List.append_nil] at hrow
    subst hrow
    have hpos : 0 < row.length := List.length_pos_iff.mpr hne
    obtain ⟨f, rfl⟩ : ∃ k, f = k + 1 := ⟨f - 1, by omega⟩
    rcases he with rfl | rfl | rfl
    · have hl : rulerS row 0 = row ++ [0, 1] := rfl
      have g0 : (row ++ [0, 1]).getD row.length 0 = 0 := by simp [List.getD_eq_getElem?_getD]
      have g1 : (row ++ [0, 1]).getD (row.length - 1) 0 = idx row (-1) := by
        have : (-1 + (row.length : Int)).toNat = row.length - 1 := by omega
        unfold idx
        rw [if_pos (by omega), this]
        simp only [List.getD_eq_getElem?_getD]
        rw [List.getElem?_append_left (by omega)]
      have hg : gnext (rulerS row 0) (.at row.length) = gnext (rulerS row 0) (.rep (idx row (-1))) := by
        rw [hl, gnext_at, if_pos (by simp), g0, if_neg (by decide), if_pos rfl, if_neg (by omega), g1]
        rfl
      rw [marksN_congr hg, marks_rep hd 20 (f + 1) at' acc h1 (by omega) (by omega)]
      rfl
    · have hl : rulerS row 1 = row ++ [] := rfl
      rw [marksN, hl, gnext_at, List.append_nil, if_neg (Nat.lt_irrefl _)]
      simp [extS, psum, upTo]
    · have hl : rulerS row 2 = row ++ [127, 1] := rfl
      have g0 : (row ++ [127, 1]).getD row.length 0 = 127 := by simp [List.getD_eq_getElem?_getD]
      rw [marksN, hl, gnext_at, if_pos (by simp), if_pos g0]
      simp [extS, psum, upTo]
  | g :: s, pre, at', acc, f, hrow, h0, h1, hf => by
    obtain ⟨f, rfl⟩ : ∃ k, f = k + 1 := ⟨f - 1, by simp at hf; omega⟩
    have hgr := hr g (by rw [hrow]; simp)
    have gj : (rulerS row e).getD pre.length 0 = g := by unfold rulerS; rw [hrow]; exact getD_mid
    have hlt : pre.length < (rulerS row e).length := by unfold rulerS; rw [hrow]; simp
    have hg : gnext (rulerS row e) (.at pre.length) = .item g (.at (pre.length + 1)) := by
      rw [gnext_at, if_pos hlt, gj, if_neg (by omega), if_neg (by omega)]
    rw [marksN, hg, List.cons_append, psum, upTo]
    dsimp only
    split
    · rfl
    · rename_i q
      have ih := marks_row he hr hne hd s (pre ++ [g]) (at' + g) (acc ++ [at' + g]) f (by rw [hrow]; simp) (by omega) (by omega) (by simp at hf; omega)
      rw [List.length_append] at ih
      rw [show pre.length + 1 = pre.length + [g].length from rfl, ih]
      simp

theorem take_sums : ∀ (r : List Int) (at' : Int), (List.range r.length).map (fun i => at' + (r.take (i + 1)).sum) = psum at' r
  | [], _ => rfl
  | a :: r, at' => by
    rw [List.length_cons, List.range_succ_eq_map, List.map_cons, List.map_map, psum, ← take_sums r (at' + a)]
    congr 1
    · simp
    · apply List.map_congr_left
      intro i _
      simp only [Function.comp, Nat.succ_eq_add_one, List.take_succ_cons, List.sum_cons]; omega
theorem sl_take (row : List Int) (k : Nat) (h : k ≤ row.length) : sl row none (some (k : Int)) = row.take k := by
  unfold sl
  simp only [Option.elim, List.drop_zero, Nat.sub_zero]
  congr 1
  have := clipAt_nat row.length k
  omega
theorem sumsS_eq (row : List Int) : sumsS row = psum 0 row := by
  rw [← take_sums row 0]
  unfold sumsS
  rw [List.filter_eq_self.mpr (by simp)]
  unfold rangeL
  rw [List.map_map, show (((row.length : Nat) : Int) - 0).toNat = row.length by omega]
  apply List.map_congr_left
  intro i hi
  rw [List.mem_range] at hi
  simp only [Function.comp]
  rw [show (0 : Int) + (i : Int) + 1 = ((i + 1 : Nat) : Int) by omega, sl_take row (i + 1) (by omega)]; omega

theorem idx_last_mem {row : List Int} (hne : row ≠ []) : idx row (-1) ∈ row := by
  have hpos : 0 < row.length := List.length_pos_iff.mpr hne
  have : (-1 + (row.length : Int)).toNat = row.length - 1 := by omega
  unfold idx
  rw [if_pos (by omega), this]
  exact getD_mem (by omega)
theorem psum_rep {d : Int} : ∀ (n : Nat) (at' x : Int), x ∈ psum at' (List.replicate n d) ↔ ∃ k : Nat, k < n ∧ x = at' + (k + 1 : Nat) * d
  | 0, at', x => by simp [psum]
  | n + 1, at', x => by
    rw [List.replicate_succ, psum, List.mem_cons, psum_rep n (at' + d) x]
    constructor
    · rintro (rfl | ⟨k, hk, rfl⟩)
      · exact ⟨0, by omega, by simp⟩
      · refine ⟨k + 1, by omega, ?_⟩
        have e : ((k + 1 + 1 : Nat) : Int) * d = ((k + 1 : Nat) : Int) * d + d := by rw [Int.natCast_succ, Int.add_mul, Int.one_mul]
        rw [e]; omega
    · rintro ⟨k, hk, rfl⟩
      cases k with
      | zero => left; simp
      | succ k =>
        right
        refine ⟨k, by omega, ?_⟩
        have e : ((k + 1 + 1 : Nat) : Int) * d = ((k + 1 : Nat) : Int) * d + d := by rw [Int.natCast_succ, Int.add_mul, Int.one_mul]
        rw [e]; omega
theorem sums_last {row : List Int} (hne : row ≠ []) : idx (sumsS row) (-1) = row.sum := by
  have hpos : 0 < row.length := List.length_pos_iff.mpr hne
  rw [sumsS_eq]
  have hl := psum_length 0 row
  have e : (-1 + ((psum 0 row).length : Int)).toNat = row.length - 1 := by omega
  unfold idx
  rw [if_pos (by omega), e, ← take_sums row 0, List.getD_eq_getElem?_getD, List.getElem?_map, List.getElem?_range (by omega)]
  simp only [Option.map_some, Option.getD_some]
  rw [show row.length - 1 + 1 = row.length by omega, List.take_length]; omega

theorem told_iff {row : List Int} {e : Int} (he : e = 0 ∨ e = 1 ∨ e = 2) (hr : ∀ x ∈ row, 1 ≤ x ∧ x ≤ 7) (hne : row ≠ []) {x : Int} (hx : x ≤ 18) :
    ((sumsS row).contains x || (decide (0 < stepS row e) && (decide (idx (sumsS row) (-1) < x) && ((x - idx (sumsS row) (-1)).fmod (stepS row e) == 0)))) = true ↔ x ∈ psum 0 (row ++ extS row e) := by
  have hd := hr _ (idx_last_mem hne)
  rw [psum_append, List.mem_append, sums_last hne, sumsS_eq, Int.zero_add, Bool.or_eq_true, List.contains_iff_mem]
  refine or_congr Iff.rfl ?_
  have hS : 0 < row.sum := by
    cases row with
    | nil => exact absurd rfl hne
    | cons a r =>
      have h1 := hr a List.mem_cons_self
      have h2 : 0 ≤ r.sum := by
        have : ∀ l : List Int, (∀ x ∈ l, 1 ≤ x) → 0 ≤ l.sum := by
          intro l
          induction l with
          | nil => intro _; simp
          | cons b l ih => intro h; rw [List.sum_cons]; have := h b List.mem_cons_self; have := ih fun x hx => h x (List.mem_cons_of_mem _ hx); omega
        exact this r fun x hx => (hr x (List.mem_cons_of_mem _ hx)).1
      rw [List.sum_cons]; omega
  have z : ∀ e, e = 1 ∨ e = 2 → ((decide (0 < stepS row e) && (decide (row.sum < x) && ((x - row.sum).fmod (stepS row e) == 0))) = true ↔ x ∈ psum row.sum (extS row e)) := by
    rintro e (rfl | rfl) <;> simp [stepS, extS, psum]
  rcases he with rfl | he
  · have e1 : stepS row 0 = idx row (-1) := rfl
    have e2 : extS row 0 = List.replicate 20 (idx row (-1)) := rfl
    rw [e1, e2, psum_rep]
    generalize idx row (-1) = d at *
    generalize row.sum = S at *
    simp only [Bool.and_eq_true, decide_eq_true_eq, beq_iff_eq]
    constructor
    · rintro ⟨h1, h2, h3⟩
      rw [Int.fmod_eq_emod_of_nonneg _ (by omega)] at h3
      obtain ⟨c, hc⟩ := Int.dvd_of_emod_eq_zero h3
      have hc0 : 0 < c := by
        rcases Int.lt_or_le 0 c with q | q
        · exact q
        · have := Int.mul_nonpos_of_nonneg_of_nonpos (show (0 : Int) ≤ d by omega) q
          omega
      have hcle : c ≤ d * c := by
        have := Int.mul_le_mul_of_nonneg_right (show (1 : Int) ≤ d by omega) (show (0 : Int) ≤ c by omega)
        omega
      refine ⟨(c - 1).toNat, by omega, ?_⟩
      have : (((c - 1).toNat + 1 : Nat) : Int) = c := by omega
      rw [this, Int.mul_comm c d]; omega
    · rintro ⟨k, hk, rfl⟩
      have h1 : 0 < ((k + 1 : Nat) : Int) * d := Int.mul_pos (by omega) (by omega)
      refine ⟨by omega, by omega, ?_⟩
      rw [Int.fmod_eq_emod_of_nonneg _ (by omega), show S + ((k + 1 : Nat) : Int) * d - S = ((k + 1 : Nat) : Int) * d by omega, Int.mul_emod_left]
  · exact z e he

theorem ext_le {row : List Int} {e : Int} (hr : ∀ x ∈ row, 1 ≤ x ∧ x ≤ 7) (hne : row ≠ []) : ∀ x ∈ row ++ extS row e, 1 ≤ x ∧ x ≤ 7 := by
  intro x hx
  rcases List.mem_append.mp hx with hx | hx
  · exact hr x hx
  · unfold extS at hx
    split at hx
    · rw [List.eq_of_mem_replicate hx]; exact hr _ (idx_last_mem hne)
    · cases hx

theorem due_eq {row : List Int} {e : Int} (he : e = 0 ∨ e = 1 ∨ e = 2) (hr : ∀ x ∈ row, 1 ≤ x ∧ x ≤ 7) (hne : row ≠ []) :
    dueS (sumsS row) (stepS row e) 11 = upTo (psum 0 (row ++ extS row e)) := by
  have hg := ext_le (e := e) hr hne
  have hg1 : ∀ x ∈ row ++ extS row e, 1 ≤ x := fun x hx => (hg x hx).1
  have hF := psum_sorted hg1 0
  have hQ := upTo_sorted hF
  have hlo : ∀ x ∈ psum 0 (row ++ extS row e), 1 ≤ x := fun x hx => by have := psum_gt hg1 x hx; omega
  have hhi := upTo_le hg (show (0 : Int) ≤ 11 by omega)
  have htold : ∀ x ∈ rangeL 1 (11 + 8), 1 ≤ x ∧ x ≤ 18 := fun x hx => by
    unfold rangeL at hx
    obtain ⟨i, hi, rfl⟩ := List.mem_map.mp hx
    rw [List.mem_range] at hi
    omega
  have hin : ∀ x : Int, 1 ≤ x ∧ x ≤ 18 → x ∈ rangeL 1 (11 + 8) := fun x hx => by
    unfold rangeL
    exact List.mem_map.mpr ⟨(x - 1).toNat, by rw [List.mem_range]; omega, by omega⟩
  have ht : toldS (sumsS row) (stepS row e) 11 = (rangeL 1 (11 + 8)).filter fun x => (psum 0 (row ++ extS row e)).contains x := by
    unfold toldS
    rw [List.map_id']
    apply List.filter_congr
    intro x hx
    have := told_iff (e := e) he hr hne (htold x hx).2
    rw [Bool.eq_iff_iff, this, List.contains_iff_mem]
  have hs := sorted_span 18 1 (upTo (psum 0 (row ++ extS row e))) hQ fun x hx => by
    have := hlo x (upTo_sub hx)
    have := hhi x hx
    omega
  unfold dueS
  rw [ht, List.map_id', List.filter_filter]
  refine Eq.trans ?_ hs
  show List.filter _ ((List.range ((11 + 8 - 1 : Int)).toNat).map fun i : Nat => (1 : Int) + (i : Nat)) = _
  apply List.filter_congr
  intro x hx
  have hx18 := htold x hx
  rw [Bool.eq_iff_iff, Bool.and_eq_true, List.contains_iff_mem, List.contains_iff_mem, mem_upTo hF, decide_eq_true_eq, List.map_id', List.filter_eq_nil_iff]
  constructor
  · rintro ⟨h1, h2⟩
    refine ⟨h2, fun y hy hy11 => ?_⟩
    by_cases q : y ≤ 18
    · have := h1 y (List.mem_filter.mpr ⟨hin y ⟨hlo y hy, q⟩, by rw [List.contains_iff_mem]; exact hy⟩)
      simp at this
      omega
    · omega
  · rintro ⟨h1, h2⟩
    refine ⟨fun y hy => ?_, h1⟩
    obtain ⟨q1, q2⟩ := List.mem_filter.mp hy
    rw [List.contains_iff_mem] at q2
    simp only [Bool.and_eq_true, decide_eq_true_eq, not_and]
    intro q3
    have := h2 y q2 q3
    omega
theorem inT_congr : ∀ {tr : Tr} {n k : Nat} {M S M' S' : Nat → Bool}, (∀ i, n ≤ i → i < n + k → M i = M' i ∧ S i = S' i) → inT tr n k M S = inT tr n k M' S'
  | .nil, _, _, _, _, _, _, _ => rfl
  | .node x a b c, n, 0, _, _, _, _, _ => rfl
  | .node x a b c, n, k + 1, M, S, M', S', h => by
    obtain ⟨h1, h2⟩ := h n (Nat.le_refl _) (by omega)
    have h' : ∀ i, n + 1 ≤ i → i < n + 1 + k → M i = M' i ∧ S i = S' i := fun i q1 q2 => h i (by omega) (by omega)
    unfold inT
    rw [h1, h2, inT_congr (tr := a) h', inT_congr (tr := b) h', inT_congr (tr := c) h']

theorem rep_iff {at' d n : Nat} (hd : 1 ≤ d) (hn : n ≤ 11) : (n : Int) ∈ psum at' (List.replicate 20 (d : Int)) ↔ at' < n ∧ (n - at') % d = 0 := by
  rw [psum_rep]
  constructor
  · rintro ⟨k, hk, e⟩
    have h1 : 0 < ((k + 1 : Nat) : Int) * (d : Int) := Int.mul_pos (by omega) (by omega)
    refine ⟨by omega, ?_⟩
    have e2 : n - at' = (k + 1) * d := by
      have : (((k + 1) * d : Nat) : Int) = ((k + 1 : Nat) : Int) * (d : Int) := Int.natCast_mul _ _
      omega
    rw [e2]; exact Nat.mul_mod_left _ _
  · rintro ⟨h1, h2⟩
    obtain ⟨c, hc⟩ := Nat.dvd_of_mod_eq_zero h2
    have hc0 : 0 < c := by
      rcases Nat.eq_zero_or_pos c with q | q
      · subst q; simp at hc; omega
      · exact q
    have hcle : c ≤ d * c := Nat.le_mul_of_pos_left c (by omega)
    refine ⟨c - 1, by omega, ?_⟩
    have : ((c - 1 + 1 : Nat) : Int) * (d : Int) = ((d * c : Nat) : Int) := by
      rw [show c - 1 + 1 = c by omega, Int.natCast_mul, Int.mul_comm]
    rw [this]; omega

theorem mem_cast {n : Nat} {su : List Nat} : (n : Int) ∈ su.map (fun k : Nat => (k : Int)) ↔ n ∈ su := by
  rw [List.mem_map]
  constructor
  · rintro ⟨k, hk, e⟩
    have : k = n := by omega
    exact this ▸ hk
  · exact fun h => ⟨n, h, rfl⟩

theorem goR_path (e : Int) : ∀ (rest : List Int) (c : Nat) (su : List Nat) (at' d : Nat), goR c su at' d = true → rest.length ≤ c → (∀ x ∈ rest, 1 ≤ x ∧ x ≤ 7) → at' ≤ 11 → 1 ≤ d →
    inT tree 1 11 (fun n => decide ((n : Int) ∈ su.map (fun k : Nat => (k : Int)) ++ psum at' (rest ++ (if e = 0 then List.replicate 20 (rest.getLastD (d : Int)) else [])))) (fun n => decide ((n : Int) ∈ su.map (fun k : Nat => (k : Int)) ++ psum at' rest)) = true
  | [], c, su, at', d, h, _, _, ha, hd => by
    unfold goR at h
    rw [Bool.and_eq_true, Bool.and_eq_true] at h
    by_cases he : e = 0
    · rw [if_pos he]
      refine Eq.trans (inT_congr fun n q1 q2 => ⟨?_, ?_⟩) h.2.1
      · rw [Bool.eq_iff_iff, decide_eq_true_eq, List.mem_append, mem_cast, Bool.or_eq_true, List.contains_iff_mem, Bool.and_eq_true, decide_eq_true_eq, beq_iff_eq]
        exact or_congr Iff.rfl (rep_iff hd (by omega))
      · rw [Bool.eq_iff_iff, decide_eq_true_eq, psum, List.append_nil, mem_cast, List.contains_iff_mem]
    · rw [if_neg he]
      refine Eq.trans (inT_congr fun n q1 q2 => ⟨?_, ?_⟩) h.1
      · rw [Bool.eq_iff_iff, decide_eq_true_eq, List.append_nil, psum, List.append_nil, mem_cast, List.contains_iff_mem]
      · rw [Bool.eq_iff_iff, decide_eq_true_eq, psum, List.append_nil, mem_cast, List.contains_iff_mem]
  | g :: rest, c, su, at', d, h, hl, hr, ha, hd => by
    have hg := hr g List.mem_cons_self
    have hrest : ∀ x ∈ rest, 1 ≤ x ∧ x ≤ 7 := fun x hx => hr x (List.mem_cons_of_mem _ hx)
    obtain ⟨c, rfl⟩ : ∃ k, c = k + 1 := ⟨c - 1, by simp at hl; omega⟩
    have hl : rest.length ≤ c := by simpa using hl
    have hlast : (g :: rest).getLastD (d : Int) = rest.getLastD g := List.getLastD_cons
    have hat : (at' : Int) + g = ((at' + g.toNat : Nat) : Int) := by omega
    unfold goR at h
    rw [Bool.and_eq_true, Bool.and_eq_true] at h
    by_cases hgt : 11 < at' + g.toNat
    · have big : ∀ (r : List Int) (n : Nat), (∀ x ∈ r, 1 ≤ x) → n < 1 + 11 → ¬ (n : Int) ∈ psum at' (g :: r) := fun r n hr' hn hm => by
        rw [psum] at hm
        rcases List.mem_cons.mp hm with q | q
        · omega
        · have := psum_gt hr' _ q; omega
      refine Eq.trans (inT_congr fun n q1 q2 => ⟨?_, ?_⟩) h.1
      · have b := big (rest ++ (if e = 0 then List.replicate 20 ((g :: rest).getLastD (d : Int)) else [])) n (fun x hx => by
          rcases List.mem_append.mp hx with hx | hx
          · exact (hrest x hx).1
          · split at hx
            · rw [List.eq_of_mem_replicate hx, hlast]
              cases rest with
              | nil => exact hg.1
              | cons b r =>
                rw [List.getLastD_cons]
                have : ∀ (r : List Int) (b : Int), 1 ≤ b → (∀ x ∈ r, 1 ≤ x) → 1 ≤ r.getLastD b := by
                  intro r
                  induction r with
                  | nil => intro b hb _; exact hb
                  | cons c r ih => intro b _ h; rw [List.getLastD_cons]; exact ih c (h c List.mem_cons_self) fun x hx => h x (List.mem_cons_of_mem _ hx)
                exact this r b (hrest b List.mem_cons_self).1 fun x hx => (hrest x (List.mem_cons_of_mem _ hx)).1
            · cases hx) q2
        rw [Bool.eq_iff_iff, decide_eq_true_eq, List.mem_append, mem_cast, List.contains_iff_mem]
        exact ⟨fun q => q.resolve_right b, Or.inl⟩
      · have b := big rest n (fun x hx => (hrest x hx).1) q2
        rw [Bool.eq_iff_iff, decide_eq_true_eq, List.mem_append, mem_cast, List.contains_iff_mem]
        exact ⟨fun q => q.resolve_right b, Or.inl⟩
    · have hall := List.all_eq_true.mp h.2.2 (g.toNat - 1) (List.mem_range.mpr (by omega))
      have e1 : g.toNat - 1 + 1 = g.toNat := by omega
      rw [e1, if_neg hgt] at hall
      have ih := goR_path e rest c (su ++ [at' + g.toNat]) (at' + g.toNat) g.toNat hall hl hrest (by omega) (by omega)
      have hgg : ((g.toNat : Nat) : Int) = g := by omega
      rw [hgg] at ih
      rw [hlast]
      refine Eq.trans (inT_congr fun n q1 q2 => ⟨?_, ?_⟩) ih
      · rw [List.cons_append, psum, hat, List.map_append, List.map_cons, List.map_nil, List.append_assoc]; rfl
      · rw [psum, hat, List.map_append, List.map_cons, List.map_nil, List.append_assoc]; rfl

theorem idx_last : ∀ (g : Int) (rest : List Int), idx (g :: rest) (-1) = rest.getLastD g
  | g, [] => rfl
  | g, a :: r => by
    rw [List.getLastD_cons, ← idx_last a r]
    unfold idx
    rw [if_pos (by omega), if_pos (by omega)]
    simp only [List.length_cons]
    rw [show (-1 + ((r.length + 1 + 1 : Nat) : Int)).toNat = r.length + 1 by omega, show (-1 + ((r.length + 1 : Nat) : Int)).toNat = r.length by omega]
    simp [List.getD_eq_getElem?_getD]

theorem path_of {row : List Int} {e : Int} (hr : ∀ x ∈ row, 1 ≤ x ∧ x ≤ 7) (hne : row ≠ []) (hl : row.length ≤ 4) :
    inT tree 1 11 (fun n => decide ((n : Int) ∈ psum 0 (row ++ extS row e))) (fun n => decide ((n : Int) ∈ psum 0 row)) = true := by
  cases row with
  | nil => exact absurd rfl hne
  | cons g rest =>
    have hg := hr g List.mem_cons_self
    have hgo : goR 3 [g.toNat] g.toNat g.toNat = true := by
      have : g = 1 ∨ g = 2 ∨ g = 3 ∨ g = 4 ∨ g = 5 ∨ g = 6 ∨ g = 7 := by omega
      rcases this with rfl | rfl | rfl | rfl | rfl | rfl | rfl
      · exact goR_1
      · exact goR_2
      · exact goR_3
      · exact goR_4
      · exact goR_5
      · exact goR_6
      · exact goR_7
    have := goR_path e rest 3 [g.toNat] g.toNat g.toNat hgo (by simp at hl; omega) (fun x hx => hr x (List.mem_cons_of_mem _ hx)) (by omega) (by omega)
    have hgg : ((g.toNat : Nat) : Int) = g := by omega
    rw [hgg] at this
    refine Eq.trans (inT_congr fun n q1 q2 => ⟨?_, ?_⟩) this
    · unfold extS
      rw [idx_last, List.cons_append, psum, Int.zero_add, List.map_cons, List.map_nil, hgg]; rfl
    · rw [psum, Int.zero_add, List.map_cons, List.map_nil, hgg]; rfl

theorem row_facts {draws : List Int} (h : draws.length ≤ 4) : (∀ x ∈ rowS draws, 1 ≤ x ∧ x ≤ 7) ∧ 1 ≤ (rowS draws).length ∧ (rowS draws).length ≤ 4 := by
  have hs : sl [5, 2] (some (draws.length : Int)) none = ([5, 2] : List Int).drop draws.length := by
    match draws.length, h with
    | 0, _ => decide
    | 1, _ => decide
    | 2, _ => decide
    | 3, _ => decide
    | 4, _ => decide
    | n + 5, h => omega
  have hf : draws.filter (fun _ => true) = draws := List.filter_eq_self.mpr (by simp)
  unfold rowS
  rw [hs, hf]
  refine ⟨fun x hx => ?_, ?_, ?_⟩
  · rcases List.mem_append.mp hx with hx | hx
    · obtain ⟨y, _, rfl⟩ := List.mem_map.mp hx
      rw [Int.fmod_eq_emod_of_nonneg _ (by omega)]
      omega
    · have := List.mem_of_mem_drop hx
      simp at this
      omega
  · simp; omega
  · simp; omega

theorem textN_length (M : List Int) : ∀ i, (textN M [] i).length = i
  | 0 => rfl
  | i + 1 => by rw [textN, grownS_length, textN_length M i]

theorem law_ok (script : List Int) : ∃ marks T, LawOk (rowS (drawsS script)) (endS (drawsS script)) marks T := by
  obtain ⟨hr, hl1, hl4⟩ := row_facts (drawsS_len script)
  have he : endS (drawsS script) = 0 ∨ endS (drawsS script) = 1 ∨ endS (drawsS script) = 2 := by
    unfold endS
    rw [Int.fmod_eq_emod_of_nonneg _ (by omega)]
    omega
  generalize rowS (drawsS script) = row at *
  generalize endS (drawsS script) = e at *
  have hne : row ≠ [] := List.length_pos_iff.mp (by omega)
  have hg := ext_le (e := e) hr hne
  have hg1 : ∀ x ∈ row ++ extS row e, 1 ≤ x := fun x hx => (hg x hx).1
  have hF := psum_sorted hg1 0
  have hQ := upTo_sorted hF
  have hlo : ∀ x ∈ psum 0 (row ++ extS row e), 1 ≤ x := fun x hx => by have := psum_gt hg1 x hx; omega
  have hS := psum_sorted (fun x hx => (hr x hx).1) 0
  have hSlo : ∀ x ∈ psum 0 row, 1 ≤ x := fun x hx => by have := psum_gt (fun x hx => (hr x hx).1) x hx; omega
  have f0 : ∀ {l : List Int}, (∀ x ∈ l, 1 ≤ x) → l.filter (fun m => decide (m < ((1 : Nat) : Int))) = [] := fun h => by
    rw [List.filter_eq_nil_iff]
    intro x hx
    have := h x hx
    simp; omega
  have W := walkT (fM := fun n => decide ((n : Int) ∈ psum 0 (row ++ extS row e))) (fS := fun n => decide ((n : Int) ∈ psum 0 row)) hQ hS 11 tree 1 [] (fun i q1 q2 => ⟨?_, ?_⟩) rfl ?_ (path_of hr hne hl4)
  · refine ⟨upTo (psum 0 (row ++ extS row e)), textN (upTo (psum 0 (row ++ extS row e))) [], ⟨hl1, by omega⟩, fun x hx => (hr x hx).1, ?_, ?_, fun m hm => ?_, fun m hm => ?_, rfl, fun i _ => textN_length _ i, fun i hi => ?_⟩
    · have := marks_row he hr hne (hr _ (idx_last_mem hne)).1 row [] 0 [] 40 rfl (by omega) (by omega) (by omega)
      unfold marksS; simpa using this
    · exact (due_eq he hr hne).symm
    · have := hlo m (upTo_sub hm); omega
    · rw [sumsS_eq] at hm; exact hSlo m hm
    · have := W i (by omega)
      rw [sumsS_eq]; rw [Nat.add_comm 1 i] at this; exact this
  · rw [decide_eq_true_eq, mem_upTo hF]
    exact ⟨fun h => ⟨h, fun y _ hy => by omega⟩, fun h => h.1⟩
  · rw [decide_eq_true_eq]
  · rw [f0 fun x hx => hlo x (upTo_sub hx), f0 hSlo]; exact tree_ok
theorem good_end {c : ClaimW} {cl : Str → Option Addr} {mean : ExcName → Option Value} {args : List WData} {s₁ s' : Shared} {r : Result} (hr : ∀ cls, c.raises args cls = false) (hp : c.post args (.bool true) args = true) (hb : AllBare s₁.gens)
    (h : r = .ok (.ret (.bool true)) ∧ KB true s₁ s') : GoodWG c cl mean args s₁ r s' := by
  obtain ⟨rfl, h, t, g, rfl, kept, _, bare⟩ := h
  exact ⟨.inl ⟨.bool true, .bool true, [], rfl, hr, .bool true, hp, fun _ => ⟨List.nodup_nil, fun _ h => by cases h⟩⟩, .of_keep kept, rfl, bare hb⟩
theorem law_call' {w : World} {s : Shared} {f : Nat → Addr} {fa l : Addr} {vs : List Value} {script : List Int} (X : Txt s.heap f) (FA : TextFn s.heap fa 14) (hL : s.heap.IsList l vs.toArray) (hI : IntsAre vs script) (hn : script.length ≤ 1000) :
    codeAny (model PP w) callerA (.call (.ref fa) ⟨[.ref l], []⟩) (fun r s' => r = .ok (.ret (.bool true)) ∧ KB true s s') s := by
  obtain ⟨marks, T, O⟩ := law_ok script
  exact law_call X FA ⟨hn, l, vs, rfl, hL, hI⟩ O
end Mine
set_option maxRecDepth 100000 in
set_option maxHeartbeats 8000000 in
theorem PySem.Challenge.cw_sw0002_01_holds : PySem.Challenge.rw_sw0002_01.Holds := by
  w_on; o_law; k_head; (case hw => w_witness2)
  w_strict (
    k_fill
    intro w s₀ s₁ mg mb G Y fa o pm cd doc dV kV ho hd hcd hD hmg hg args vals as hpre hlay hrd hwl hlo
    have XX := (Ground.X G).1
    have VV := (Ground.X G).2
    refine Ground.open G ?_
    intro TT BB D TE TW
    try (refine guard_noD D (by decide +kernel) ?_; clear D)
    wrow_args hpre hlay hrd hwl hlo
    all_goals (
      refine enter_call ?_
      obtain ⟨f, hX⟩ := Mine.txt_of_top TT (by kernel_rfl) (by kernel_rfl) (by kernel_rfl) (by kernel_rfl) (by kernel_rfl) (by kernel_rfl) (by kernel_rfl) (by kernel_rfl) (by kernel_rfl) (by kernel_rfl) (by kernel_rfl) (by kernel_rfl)
      obtain ⟨a14, b14, _, m14⟩ := Mine.ghas_fn TT (i := 14) (k := 10) (x := Str.ofString "law") (by kernel_rfl) (by decide +kernel)
      have hfa : mg (Str.ofString "law") = some (.ref fa) := hmg
      rw [m14] at hfa
      cases hfa
      refine codeAny_mono (Mine.law_call' hX b14 ‹s₁.heap.IsList _ _› ‹IntsAre _ _› (by omega)) (fun r s' h => Mine.good_end ?_ ?_ (AllBare.of_eq hg) h)
      · exact fun _ => rfl
      · first | wrow_post | kernel_rfl))
