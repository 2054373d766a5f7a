import PyProof.Rows.All
import Wide.All
import OpenK.AllK
import Wide.FinOn
import PySem.Challenge.RW_mq0495_01
open PySem PySem.W PyProof.Rows
set_option Elab.async false
set_option maxRecDepth 100000
set_option maxHeartbeats 8000000

/- Hd -/
namespace Mine
open_top hd for PySem.Challenge.rw_mq0495_01
end Mine

/- M0 -/
namespace Mine

abbrev Prg : Program := PySem.Challenge.rw_mq0495_01.row.prog
abbrev Mo (w : World) : Model := model Prg w
noncomputable abbrev KK (w : World) : Frag := hd.heap_39 w.params

/-- plain data -/
inductive D where
  | none
  | bool (b : Bool)
  | int (i : Int)
  | str (x : Str)
  | tup (ds : List D)
  | list (ds : List D)
  | mgr

/-- an object of the class C with a dict of its own -/
def IsInst (h : Heap) (ok : Addr → Prop) (x : Addr) : Prop :=
  ∃ dx es n sl, ok x ∧ ok dx ∧ h.get? x = some (⟨.ref 67, some dx, .plain, sl⟩ : Obj) ∧ h.get? dx = some (dictOf es n) ∧ getL "is_suburi" es = some none

mutual
inductive Is (h : Heap) (ok : Addr → Prop) : Value → D → Prop
  | none : Is h ok Value.none D.none
  | bool (b : Bool) : Is h ok (Value.bool b) (D.bool b)
  | int (i : Int) (t : Tok) : Is h ok (Value.int i t) (D.int i)
  | str (x : Str) (t : Tok) : Is h ok (Value.str x t) (D.str x)
  | tup {a : Addr} {vs : List Value} {ds : List D} : ok a → h.IsTuple a vs.toArray → Are h ok vs ds → Is h ok (Value.ref a) (D.tup ds)
  | list {a : Addr} {vs : List Value} {ds : List D} : ok a → h.IsList a vs.toArray → Are h ok vs ds → Is h ok (Value.ref a) (D.list ds)
  | mgr {a : Addr} : IsInst h ok a → Is h ok (Value.ref a) D.mgr
inductive Are (h : Heap) (ok : Addr → Prop) : List Value → List D → Prop
  | nil : Are h ok [] []
  | cons {v : Value} {vs : List Value} {d : D} {ds : List D} : Is h ok v d → Are h ok vs ds → Are h ok (v :: vs) (d :: ds)
end

theorem isList_mono {h h' : Heap} {a : Addr} {xs : Array Value} (hk : ∀ o, h.get? a = some o → h'.get? a = some o) (x : h.IsList a xs) : h'.IsList a xs :=
  let ⟨o, ho, r⟩ := x; ⟨o, hk o ho, r⟩
theorem isTuple_mono {h h' : Heap} {a : Addr} {xs : Array Value} (hk : ∀ o, h.get? a = some o → h'.get? a = some o) (x : h.IsTuple a xs) : h'.IsTuple a xs :=
  let ⟨o, ho, r⟩ := x; ⟨o, hk o ho, r⟩

mutual
theorem Is.mono {h h' : Heap} {ok ok' : Addr → Prop} (hk : ∀ a o, ok a → h.get? a = some o → ok' a ∧ h'.get? a = some o) : ∀ {v : Value} {d : D}, Is h ok v d → Is h' ok' v d
  | _, _, .none => .none
  | _, _, .bool b => .bool b
  | _, _, .int i t => .int i t
  | _, _, .str x t => .str x t
  | _, _, .tup a b c => by
    obtain ⟨o, ho, r⟩ := b
    exact .tup (hk _ _ a ho).1 ⟨o, (hk _ _ a ho).2, r⟩ (Are.mono hk c)
  | _, _, .list a b c => by
    obtain ⟨o, ho, r⟩ := b
    exact .list (hk _ _ a ho).1 ⟨o, (hk _ _ a ho).2, r⟩ (Are.mono hk c)
  | _, _, .mgr b => by
    obtain ⟨dx, es, n, sl, h1, h2, h3, h4, h5⟩ := b
    exact .mgr ⟨dx, es, n, sl, (hk _ _ h1 h3).1, (hk _ _ h2 h4).1, (hk _ _ h1 h3).2, (hk _ _ h2 h4).2, h5⟩
theorem Are.mono {h h' : Heap} {ok ok' : Addr → Prop} (hk : ∀ a o, ok a → h.get? a = some o → ok' a ∧ h'.get? a = some o) : ∀ {vs : List Value} {ds : List D}, Are h ok vs ds → Are h' ok' vs ds
  | _, _, .nil => .nil
  | _, _, .cons a b => .cons (Is.mono hk a) (Are.mono hk b)
end

def Any : Addr → Prop := fun _ => True

section
variable {h h' : Heap} {ok ok' : Addr → Prop} {v : Value} {d : D} {vs ws : List Value} {ds es : List D}
theorem Is.keep (x : Is h ok v d) (hk : ∀ a o, h.get? a = some o → h'.get? a = some o) : Is h' ok v d := x.mono fun a o p q => ⟨p, hk a o q⟩
theorem Are.keep (x : Are h ok vs ds) (hk : ∀ a o, h.get? a = some o → h'.get? a = some o) : Are h' ok vs ds := x.mono fun a o p q => ⟨p, hk a o q⟩
theorem Is.weak (x : Is h ok v d) (hk : ∀ a, ok a → ok' a) : Is h ok' v d := x.mono fun a _ p q => ⟨hk a p, q⟩
theorem Are.weak (x : Are h ok vs ds) (hk : ∀ a, ok a → ok' a) : Are h ok' vs ds := x.mono fun a _ p q => ⟨hk a p, q⟩
theorem Is.any (x : Is h ok v d) : Is h Any v d := x.weak fun _ _ => trivial
theorem Are.any (x : Are h ok vs ds) : Are h Any vs ds := x.weak fun _ _ => trivial
theorem Are.length (x : Are h ok vs ds) : vs.length = ds.length := by
  induction vs generalizing ds with
  | nil => cases x; rfl
  | cons v vs ih =>
    cases x with
    | cons _ r => simp [ih r]
theorem Are.append (x : Are h ok vs ds) (y : Are h ok ws es) : Are h ok (vs ++ ws) (ds ++ es) := by
  induction vs generalizing ds with
  | nil => cases x; exact y
  | cons v vs ih =>
    cases x with
    | cons p r => exact .cons p (ih r)
theorem Are.get {k : Nat} (x : Are h ok vs ds) (hd : ds[k]? = some d) : ∃ v, vs[k]? = some v ∧ Is h ok v d := by
  induction vs generalizing ds k with
  | nil => cases x; simp at hd
  | cons v vs ih =>
    cases x with
    | cons p r =>
      cases k with
      | zero => simp at hd; subst hd; exact ⟨v, rfl, p⟩
      | succ k => exact ih r (by simpa using hd)
theorem Are.getv {k : Nat} (x : Are h ok vs ds) (hv : vs[k]? = some v) : ∃ d, ds[k]? = some d ∧ Is h ok v d := by
  induction vs generalizing ds k with
  | nil => simp at hv
  | cons u vs ih =>
    cases x with
    | cons p r =>
      cases k with
      | zero => simp at hv; subst hv; exact ⟨_, rfl, p⟩
      | succ k =>
        obtain ⟨d, a, b⟩ := ih r (k := k) (by simpa using hv)
        exact ⟨d, by simpa using a, b⟩
theorem Are.take (x : Are h ok vs ds) (k : Nat) : Are h ok (vs.take k) (ds.take k) := by
  induction vs generalizing ds k with
  | nil => cases x; simp; exact .nil
  | cons v vs ih =>
    cases x with
    | cons p r =>
      cases k with
      | zero => exact .nil
      | succ k => exact .cons p (ih r k)
theorem Are.set (x : Are h ok vs ds) (k : Nat) (y : Is h ok v d) : Are h ok (vs.set k v) (ds.set k d) := by
  induction vs generalizing ds k with
  | nil => cases x; exact .nil
  | cons u vs ih =>
    cases x with
    | cons p r =>
      cases k with
      | zero => exact .cons y r
      | succ k => exact .cons p (ih r k)
theorem Are.one (y : Is h ok v d) : Are h ok [v] [d] := .cons y .nil
theorem Are.two {v' : Value} {d' : D} (y : Is h ok v d) (z : Is h ok v' d') : Are h ok [v, v'] [d, d'] := .cons y (.one z)
end

/-- all that stands in s stands in s' (and the tokens' count stays above nought) -/
def Kp (s s' : Shared) : Prop := PySem.Keeps s s' ∧ (1 ≤ s.toks → 1 ≤ s'.toks)
theorem Kp.refl (s : Shared) : Kp s s := ⟨⟨s.heap, s.toks, rfl, fun _ _ e => e⟩, id⟩
theorem Kp.trans {s₁ s₂ s₃ : Shared} (a : Kp s₁ s₂) (b : Kp s₂ s₃) : Kp s₁ s₃ := by
  refine ⟨?_, fun h => b.2 (a.2 h)⟩
  obtain ⟨h, t, rfl, k⟩ := a.1
  obtain ⟨h', t', rfl, k'⟩ := b.1
  exact ⟨h', t', rfl, fun x o e => k' x o (k x o e)⟩
theorem Kp.kp {s₁ s₂ : Shared} (a : Kp s₁ s₂) : ∀ b o, s₁.heap.get? b = some o → s₂.heap.get? b = some o := by
  obtain ⟨h, t, rfl, k⟩ := a.1
  exact k
theorem Kp.toks (s : Shared) (tk : Nat) (h : s.toks ≤ tk := by (show _ ≤ _; omega)) : Kp s { s with toks := tk } := ⟨⟨s.heap, tk, rfl, fun _ _ e => e⟩, fun q => Nat.le_trans q h⟩
theorem Kp.heap (s : Shared) {h : Heap} (k : ∀ b o, s.heap.get? b = some o → h.get? b = some o) : Kp s { s with heap := h } := ⟨⟨h, s.toks, rfl, k⟩, id⟩
theorem Kp.both (s : Shared) {h : Heap} {tk : Nat} (k : ∀ b o, s.heap.get? b = some o → h.get? b = some o) (hq : s.toks ≤ tk := by (show _ ≤ _; omega)) : Kp s { s with heap := h, toks := tk } := ⟨⟨_, tk, rfl, k⟩, fun q => Nat.le_trans q hq⟩
theorem Kp.push (s : Shared) (o : Obj) : Kp s { s with heap := s.heap.push o } := Kp.heap s fun _ _ e => Heap.get?_push_of_some _ e

/-- what stands at the heap from the top on -/
structure Gr (w : World) (h : Heap) : Prop where
  kin : (KK w).In h
  g : ∃ mg, h.Ns mainGlobals mg
  b : ∃ mb, h.Ns builtinsNs mb ∧ ∀ x : Str, x ≠ "__name__" → mb x = bootBuiltins x
  lim : h.NoLimit
theorem Gr.keep {w : World} {h h' : Heap} (x : Gr w h) (hk : ∀ b o, h.get? b = some o → h'.get? b = some o) : Gr w h' :=
  ⟨x.kin.keeps hk, let ⟨mg, e⟩ := x.g; ⟨mg, e.keeps hk⟩, let ⟨mb, e, f⟩ := x.b; ⟨mb, e.keeps hk, f⟩, x.lim.keeps hk⟩

/-- room for k calls within each other -/
structure Lv (A : Around) (k : Nat) : Prop where
  hh : A.handled = none
  dp : A.depth + k < 900
  un : A.units + 8 * k < 9000
theorem Lv.deeper {A : Around} {k : Nat} (x : Lv A (k + 1)) (e : Env) : Lv (A.deeper e) k := by
  obtain ⟨a, b, c⟩ := x
  exact ⟨a, by show A.depth + 1 + k < 900; omega, by show A.units + 3 + 8 * k < 9000; omega⟩
theorem Lv.less {A : Around} {k j : Nat} (x : Lv A k) (h : j ≤ k) : Lv A j := by
  obtain ⟨a, b, c⟩ := x
  exact ⟨a, by omega, by omega⟩
theorem Lv.room {A : Around} {k : Nat} (x : Lv A k) : A.depth < recursionLimit := by
  have := x.dp; unfold recursionLimit; omega
theorem Lv.units {A : Around} {k : Nat} (x : Lv A k) : A.units < cLine := by
  have := x.un; unfold cLine; omega

structure Cx where
  w : World
  A : Around
  env : Env

def NoE : Value → Shared → Prop := fun _ _ => False

theorem wkp {α : Type} {M : Model} {A : Around} {t : Sem α} {P : α → Shared → Prop} {E : Value → Shared → Prop} {s : Shared} (h : wpAny M A t (fun v s' => PySem.Keeps s s' ∧ P v s') E s) : wpAny M A t (fun v s' => Kp s s' ∧ P v s') E s := by
  by_cases h1 : 1 ≤ s.toks
  · exact wpAny_mono (wpAny_toks_of h1 h) (fun v s' q => ⟨⟨q.2.1, fun _ => q.1⟩, q.2.2⟩) fun _ _ q => q.2
  · exact wpAny_mono h (fun v s' q => ⟨⟨q.1, fun h => absurd h h1⟩, q.2⟩) fun _ _ q => q

/-- from s and any state that keeps it, e evaluates to d; nothing that stands is changed -/
def Ev (c : Cx) (s : Shared) (e : Expr) (ok : Addr → Prop) (d : D) : Prop :=
  ∀ s', Kp s s' → wpAny (Mo c.w) c.A (eval e c.env) (fun v s'' => Kp s' s'' ∧ Is s''.heap ok v d) NoE s'
def Evs (c : Cx) (s : Shared) (pos : Pos) (es : List Expr) (ok : Addr → Prop) (ds : List D) : Prop :=
  ∀ s', Kp s s' → wpAny (Mo c.w) c.A (spliced (backTo pos (starEach es c.env))) (fun vs s'' => Kp s' s'' ∧ Are s''.heap ok vs ds) NoE s'
def Tr (c : Cx) (s : Shared) (e : Expr) (b : Bool) : Prop :=
  ∀ s', Kp s s' → wpAny (Mo c.w) c.A (isTrue e c.env (eval e c.env)) (fun r s'' => Kp s' s'' ∧ r = b) NoE s'

section
variable {c : Cx} {s : Shared} {ok : Addr → Prop} {d d' : D} {e e₁ e₂ : Expr}
theorem Ev.up {s' : Shared} (x : Ev c s e ok d) (k : Kp s s') : Ev c s' e ok d := fun s'' k' => x s'' (Kp.trans k k')
theorem Ev.any (x : Ev c s e ok d) : Ev c s e Any d := fun s' k => wpAny_mono (x s' k) (fun _ _ h => ⟨h.1, h.2.any⟩) fun _ _ h => h
theorem Evs.nil {pos : Pos} : Evs c s pos [] ok [] := fun s' _ => Calls.spliced_nil ⟨Kp.refl s', .nil⟩
theorem Evs.cons {pos : Pos} {es : List Expr} {ds : List D} (x : Ev c s e ok d) (y : Evs c s pos es ok ds)
    (he : starEach (e :: es) c.env = (false, eval e c.env) :: starEach es c.env := by rfl) : Evs c s pos (e :: es) ok (d :: ds) := fun s' k =>
  spliced_more (wpAny_mono (x s' k) (fun v s₁ h₁ => wpAny_mono (y s₁ (Kp.trans k h₁.1)) (fun vs s₂ h₂ => ⟨Kp.trans h₁.1 h₂.1, .cons (h₁.2.keep h₂.1.kp) h₂.2⟩) fun _ _ h => h) fun _ _ h => h) he

theorem ev_str {x : Str} {k : Nat} {pos : Pos} : Ev c s (.Constant (.str x) k pos) ok (.str x) := fun s' _ => wpAny_mkText ⟨Kp.toks _ _, .str _ _⟩
theorem ev_int {x : Int} {k : Nat} {pos : Pos} : Ev c s (.Constant (.int x) k pos) ok (.int x) := fun s' _ => wpAny_Constant_int ⟨Kp.toks _ _, .int _ _⟩
theorem ev_bool {b : Bool} {k : Nat} {pos : Pos} : Ev c s (.Constant (.bool b) k pos) ok (.bool b) := fun s' _ => wpAny_pure ⟨Kp.refl _, .bool _⟩
theorem ev_none {k : Nat} {pos : Pos} : Ev c s (.Constant .none k pos) ok .none := fun s' _ => wpAny_pure ⟨Kp.refl _, .none⟩

end
end Mine

/- M1 -/
namespace Mine

/-- an object that the frame itself changes -/
inductive Own where
  | list (ds : List D)
  | dict (ps : List (Str × Str))
/-- what a name of the frame holds: data; data made since the frame began; an object that the frame changes -/
inductive Ent where
  | val (d : D)
  | new (d : D)
  | own (r : Addr) (o : Own)
def Ent.isOwn : Ent → Bool
  | .own _ _ => true
  | _ => false

structure Fx extends Cx where
  base : Shared
  mu : List Addr
  it : List Addr
  pin : Addr → Obj → Prop
  tp : Bool

/-- stands apart from what the frame changes -/
def Fx.ok (f : Fx) (a : Addr) : Prop := a ∉ f.mu ∧ a ∉ f.it
/-- and is made since the frame began -/
def Fx.okN (f : Fx) (a : Addr) : Prop := f.ok a ∧ f.base.heap.get? a = none

/-- the same pairs -/
inductive DP : List (Str × Value) → List (Str × Str) → Prop
  | nil : DP [] []
  | cons {k v : Str} {u : Tok} {kvs : List (Str × Value)} {ps : List (Str × Str)} : DP kvs ps → DP ((k, .str v u) :: kvs) ((k, v) :: ps)
/-- the dict object with these str keys and str values, in this order -/
def IsDict (w : World) (h : Heap) (r : Addr) (ps : List (Str × Str)) : Prop :=
  (r == sysModules) = false ∧ ∃ kvs, h.DictOf (PySem.strKind Prg w) r kvs ∧ DP kvs ps

def OwnIs (f : Fx) (h : Heap) (r : Addr) : Own → Prop
  | .list ds => ∃ vs : List Value, h.PlainList r vs.toArray ∧ Are h f.okN vs ds
  | .dict ps => IsDict f.w h r ps

inductive VarIs (c : Cx) (h : Heap) (m : Str → Option Value) (x : Str) (v : Value) : Prop
  | loc : c.env.kindOf x = some .local → m x = some v → VarIs c h m x v
  | cell {a : Addr} : c.env.kindOf x = some .cell → c.env.cells.lookup x = some a → h.IsCell a (some v) → VarIs c h m x v

def EntIs (f : Fx) (h : Heap) (m : Str → Option Value) (x : Str) : Ent → Prop
  | .val d => ∃ v, VarIs f.toCx h m x v ∧ Is h f.ok v d
  | .new d => ∃ v, VarIs f.toCx h m x v ∧ Is h f.okN v d
  | .own r o => VarIs f.toCx h m x (.ref r) ∧ (r ∈ f.mu ∧ r ≠ f.env.locals ∧ ∀ y, f.env.cells.lookup y ≠ some r) ∧ OwnIs f h r o

structure Env1 (c : Cx) : Prop where
  fn : c.env.scope.kind = .function
  gl : c.env.globals = mainGlobals
  bi : c.env.builtins = builtinsNs

structure St (f : Fx) (Γ : List (Str × Ent)) (s : Shared) : Prop where
  en : Env1 f.toCx
  gr : Gr f.w f.base.heap
  kp : Kp f.base s
  lo : f.env.locals ∈ f.mu
  ce : ∀ x a, f.env.cells.lookup x = some a → (a ∈ f.mu ∨ ∃ o, f.pin a o) ∧ a ≠ f.env.locals
  ci : ∀ x y a, f.env.cells.lookup x = some a → f.env.cells.lookup y = some a → x = y
  cs : ∀ x a, f.env.cells.lookup x = some a → ∃ v, s.heap.IsCell a v
  al : ∀ a ∈ f.mu, ∃ o, s.heap.get? a = some o
  nb : ∀ a ∈ f.mu, f.base.heap.get? a = none
  pn : ∀ a o, f.pin a o → s.heap.get? a = some o ∧ a ∉ f.mu
  ip : ∀ a ∈ f.it, ∃ o, f.pin a o
  tk : f.tp = true → 1 ≤ s.toks
  ns : ∃ m, s.heap.Ns f.env.locals m ∧ ∀ x e, Γ.lookup x = some e → EntIs f s.heap m x e

theorem mem_of_lookup {α β : Type} [BEq α] [LawfulBEq α] {x : α} {e : β} : ∀ {l : List (α × β)}, l.lookup x = some e → (x, e) ∈ l
  | (y, b) :: r, h => by
    rw [List.lookup_cons] at h
    split at h
    · rename_i q
      cases h
      rw [beq_iff_eq.mp q]
      exact List.mem_cons_self
    · exact List.mem_cons_of_mem _ (mem_of_lookup h)

section
variable {f : Fx} {Γ Δ : List (Str × Ent)} {s s' : Shared}

theorem St.weak (S : St f Γ s) (h : ∀ p ∈ Δ, Γ.lookup p.1 = some p.2) : St f Δ s := by
  obtain ⟨a, b, c, d, e, e', cs, g, i, j, j', tk, m, hm, hl⟩ := S
  exact ⟨a, b, c, d, e, e', cs, g, i, j, j', tk, m, hm, fun x en hx => hl x en (h _ (mem_of_lookup hx))⟩

def Sub (Γ : List (Str × Ent)) : List (Str × Ent) → Prop
  | [] => True
  | p :: r => Γ.lookup p.1 = some p.2 ∧ Sub Γ r
theorem Sub.all : ∀ {Δ : List (Str × Ent)}, Sub Γ Δ → ∀ p ∈ Δ, Γ.lookup p.1 = some p.2
  | _ :: _, h, _, .head _ => h.1
  | _ :: _, h, p, .tail _ m => Sub.all h.2 p m
theorem St.sub (S : St f Γ s) (h : Sub Γ Δ) : St f Δ s := S.weak h.all

theorem VarIs.keep {c : Cx} {h h' : Heap} {m : Str → Option Value} {x : Str} {v : Value} (V : VarIs c h m x v) (hk : ∀ a o, h.get? a = some o → h'.get? a = some o) : VarIs c h' m x v := by
  cases V with
  | loc a b => exact .loc a b
  | cell a b d =>
    obtain ⟨o, ho, hd⟩ := d
    exact .cell a b ⟨o, hk _ _ ho, hd⟩
theorem IsDict.mono {w : World} {h h' : Heap} {r : Addr} {ps : List (Str × Str)} (x : IsDict w h r ps) (hk : ∀ o, h.get? r = some o → h'.get? r = some o) : IsDict w h' r ps :=
  let ⟨n, kvs, ⟨o, es, ep, ho, q⟩, b⟩ := x; ⟨n, kvs, ⟨o, es, ep, hk _ ho, q⟩, b⟩
theorem EntIs.keep {h h' : Heap} {m : Str → Option Value} {x : Str} {e : Ent} (E : EntIs f h m x e) (hk : ∀ a o, h.get? a = some o → h'.get? a = some o) : EntIs f h' m x e := by
  cases e with
  | val d => obtain ⟨v, a, b⟩ := E; exact ⟨v, a.keep hk, b.keep hk⟩
  | new d => obtain ⟨v, a, b⟩ := E; exact ⟨v, a.keep hk, b.keep hk⟩
  | own r o =>
    obtain ⟨a, b, c⟩ := E
    refine ⟨a.keep hk, b, ?_⟩
    cases o with
    | list ds => obtain ⟨vs, p, q⟩ := c; exact ⟨vs, p.at (hk r), q.keep hk⟩
    | dict ps => exact IsDict.mono c (hk r)
theorem St.keep (S : St f Γ s) (k : Kp s s') : St f Γ s' := by
  obtain ⟨a, b, c, d, e, e', cs, g, i, j, j', tk, m, hm, hl⟩ := S
  exact ⟨a, b, c.trans k, d, e, e', fun x a hx => (let ⟨v, o, ho, hd⟩ := cs x a hx; ⟨v, o, k.kp _ _ ho, hd⟩), fun x hx => (let ⟨o, ho⟩ := g x hx; ⟨o, k.kp _ _ ho⟩), i, fun a o hp => ⟨k.kp _ _ (j a o hp).1, (j a o hp).2⟩, j', fun q => k.2 (tk q), m, hm.keeps k.kp, fun x en hx => (hl x en hx).keep k.kp⟩

theorem St.gr' (S : St f Γ s) : Gr f.w s.heap := S.gr.keep S.kp.kp

/-- what is new at s stands apart -/
theorem St.fresh (S : St f Γ s) {a : Addr} (h : s.heap.get? a = none) : f.okN a := by
  refine ⟨⟨fun hm => ?_, fun hm => ?_⟩, ?_⟩
  · obtain ⟨o, ho⟩ := S.al a hm
    rw [h] at ho; cases ho
  · obtain ⟨o, ho⟩ := S.ip a hm
    have := (S.pn a o ho).1
    rw [h] at this; cases this
  · cases hb : f.base.heap.get? a with
    | none => rfl
    | some o => rw [S.kp.kp _ _ hb] at h; cases h
/-- what stood when the frame began stands apart -/
theorem St.old (S : St f Γ s) {a : Addr} {o : Obj} (hp : f.it = []) (h : f.base.heap.get? a = some o) : f.ok a :=
  ⟨fun hm => by (rw [S.nb a hm] at h; cases h), by rw [hp]; exact fun x => (nomatch x)⟩

def Ent.d : Ent → D
  | .val d => d
  | .new d => d
  | .own _ (.list ds) => .list ds
  | .own _ (.dict _) => .none

theorem var_load {M : Model} {A : Around} {E : Value → Shared → Prop} {c : Cx} {m : Str → Option Value} {x : Str} {v : Value} {Q : Value → Shared → Prop} (en : Env1 c) (hn : s.heap.Ns c.env.locals m) (V : VarIs c s.heap m x v) (h : Q v s) : wpAny M A (loadName c.env x) Q E s := by
  cases V with
  | loc a b => exact wpAny_loadName_local en.fn a hn b h
  | cell a b d => exact wpAny_loadName_cell en.fn a b d h

theorem ev_var_val {x : Str} {pos : Pos} {d : D} (S : St f Γ s) (h : Γ.lookup x = some (.val d)) (hd : (x == ("__debug__" : Str)) = false := by decide) : Ev f.toCx s (.Name x pos) f.ok d := fun s₁ k => by
  obtain ⟨m, hn, hl⟩ := (S.keep k).ns
  obtain ⟨v, V, i⟩ := hl x _ h
  exact wpAny_Name (var_load S.en hn V ⟨Kp.refl _, i⟩) hd
theorem ev_var_new {x : Str} {pos : Pos} {d : D} (S : St f Γ s) (h : Γ.lookup x = some (.new d)) (hd : (x == ("__debug__" : Str)) = false := by decide) : Ev f.toCx s (.Name x pos) f.okN d := fun s₁ k => by
  obtain ⟨m, hn, hl⟩ := (S.keep k).ns
  obtain ⟨v, V, i⟩ := hl x _ h
  exact wpAny_Name (var_load S.en hn V ⟨Kp.refl _, i⟩) hd
theorem ev_var_own {x : Str} {pos : Pos} {r : Addr} {ds : List D} (S : St f Γ s) (h : Γ.lookup x = some (.own r (.list ds))) (hd : (x == ("__debug__" : Str)) = false := by decide) : Ev f.toCx s (.Name x pos) Any (.list ds) := fun s₁ k => by
  obtain ⟨m, hn, hl⟩ := (S.keep k).ns
  obtain ⟨V, _, vs, i, j⟩ := hl x _ h
  exact wpAny_Name (var_load S.en hn V ⟨Kp.refl _, .list trivial i.isList j.any⟩) hd

theorem ev_v {x : Str} {pos : Pos} {d : D} (S : St f Γ s) (h : Γ.lookup x = some (.val d)) (hd : (x == ("__debug__" : Str)) = false := by decide) : Ev f.toCx s (.Name x pos) Any d := (ev_var_val S h hd).any
theorem ev_vn {x : Str} {pos : Pos} {d : D} (S : St f Γ s) (h : Γ.lookup x = some (.new d)) (hd : (x == ("__debug__" : Str)) = false := by decide) : Ev f.toCx s (.Name x pos) Any d := (ev_var_new S h hd).any
theorem okN_ok {a : Addr} (h : f.okN a) : f.ok a := h.1
end
end Mine

/- M2 -/
namespace Mine

section
variable {f : Fx} {Γ Δ : List (Str × Ent)} {s s' : Shared}

/-- a name that can be stored -/
def Storable (f : Fx) (x : Str) : Prop := f.env.kindOf x = some .local ∨ (f.env.kindOf x = some .cell ∧ ∃ a, f.env.cells.lookup x = some a ∧ a ∈ f.mu)

theorem EntIs.stored {h h' : Heap} {m m' : Str → Option Value} {a : Addr} {y : Str} {e : Ent} (E : EntIs f h m y e) (ha : a ∈ f.mu) (hs : ∀ b o, b ≠ a → h.get? b = some o → h'.get? b = some o)
    (hV : ∀ v, VarIs f.toCx h m y v → VarIs f.toCx h' m' y v) (hr : a = f.env.locals ∨ ∃ z, f.env.cells.lookup z = some a) : EntIs f h' m' y e := by
  have up : ∀ {ok : Addr → Prop}, (∀ b, ok b → f.ok b) → ∀ b o, ok b → h.get? b = some o → ok b ∧ h'.get? b = some o := fun hw b o hb ho => ⟨hb, hs b o (fun e => (hw b hb).1 (e ▸ ha)) ho⟩
  cases e with
  | val d => obtain ⟨v, a, b⟩ := E; exact ⟨v, hV v a, b.mono (up fun _ x => x)⟩
  | new d => obtain ⟨v, a, b⟩ := E; exact ⟨v, hV v a, b.mono (up fun _ x => x.1)⟩
  | own r o =>
    obtain ⟨p, q, c⟩ := E
    have hne : r ≠ a := by
      rintro rfl
      rcases hr with hr | ⟨z, hz⟩
      · exact q.2.1 hr
      · exact q.2.2 z hz
    refine ⟨hV _ p, q, ?_⟩
    cases o with
    | list ds => obtain ⟨vs, p, q⟩ := c; exact ⟨vs, p.at (fun o => hs r o hne), q.mono (up fun _ x => x.1)⟩
    | dict ps => exact IsDict.mono c fun o => hs r o hne

/-- one object of the frame's own turned to another, the rest as it was -/
theorem St.turn {h' : Heap} {tk : Nat} (htk : s.toks ≤ tk) {m' : Str → Option Value} {a : Addr} {o' : Obj} (S : St f Γ s) (ha : a ∈ f.mu) (hs : ∀ b o, b ≠ a → s.heap.get? b = some o → h'.get? b = some o) (ho : h'.get? a = some o') (hn : h'.Ns f.env.locals m')
    (hcs : ∀ x b, f.env.cells.lookup x = some b → ∃ v, h'.IsCell b v) (hΔ : ∀ x e, Δ.lookup x = some e → EntIs f h' m' x e) : St f Δ { s with heap := h', toks := tk } := by
  obtain ⟨en, gr, kp, lo, ce, ci, _, al, nb, pn, ip, tp, _⟩ := S
  refine ⟨en, gr, ?_, lo, ce, ci, hcs, ?_, nb, ?_, ip, fun q => Nat.le_trans (tp q) htk, m', hn, hΔ⟩
  · refine ⟨?_, fun q => Nat.le_trans (kp.2 q) htk⟩
    obtain ⟨hb, tb, e, k⟩ := kp.1
    subst e
    refine ⟨h', tk, rfl, fun b o e => hs b o (fun q => ?_) (k b o e)⟩
    subst q
    rw [nb b ha] at e; cases e
  · intro b hb
    by_cases e : b = a
    · subst e; exact ⟨o', ho⟩
    · obtain ⟨o, hb'⟩ := al b hb; exact ⟨o, hs b o e hb'⟩
  · intro b o hp
    exact ⟨hs _ _ (fun e => (pn b o hp).2 (e ▸ ha)) (pn b o hp).1, (pn b o hp).2⟩

def EntOf (f : Fx) (h : Heap) (v : Value) : Ent → Prop
  | .val d => Is h f.ok v d
  | .new d => Is h f.okN v d
  | .own r o => v = .ref r ∧ (r ∈ f.mu ∧ r ≠ f.env.locals ∧ ∀ y, f.env.cells.lookup y ≠ some r) ∧ OwnIs f h r o

theorem EntOf.is {h : Heap} {m : Str → Option Value} {x : Str} {v : Value} {e : Ent} (E : EntOf f h v e) (V : VarIs f.toCx h m x v) : EntIs f h m x e := by
  cases e with
  | val d => exact ⟨v, V, E⟩
  | new d => exact ⟨v, V, E⟩
  | own r o => obtain ⟨rfl, b, c⟩ := E; exact ⟨V, b, c⟩

theorem lookup_put {x y : Str} {e e' : Ent} (h : ((x, e) :: Γ).lookup y = some e') : (y = x ∧ e' = e) ∨ (y ≠ x ∧ Γ.lookup y = some e') := by
  rw [List.lookup_cons] at h
  split at h
  · rename_i q
    exact .inl ⟨beq_iff_eq.mp q, by cases h; rfl⟩
  · rename_i q
    exact .inr ⟨fun e => by simp [e] at q, h⟩

theorem wp_store' {M : Model} {A : Around} {E : Value → Shared → Prop} {x : Str} {v : Value} {e : Ent} {Q : Unit → Shared → Prop} (S : St f Γ s) (hx : Storable f x) (he : EntOf f s.heap v e) (h : ∀ s', St f ((x, e) :: Γ) s' → (∀ a o, a ∉ f.mu → s.heap.get? a = some o → s'.heap.get? a = some o) → s.toks ≤ s'.toks → Q () s') :
    wpAny M A (storeName f.env x v) Q E s := by
  obtain ⟨m, hn, hl⟩ := S.ns
  rcases hx with hx | ⟨hx, hc⟩
  · refine wpAny_storeName_local hx hn (fun h' hn' hs => h _ ?_ (fun a o ha e => hs.extBut a o (fun q => ha (q ▸ S.lo)) e) (Nat.le_succ _)) (by rw [S.en.fn]; rfl)
    obtain ⟨o', _, _, ho', _⟩ := id hn'
    refine S.turn (Nat.le_succ _) S.lo (fun b o => hs.extBut b o) ho' hn' (fun z b hb => (let ⟨v, o, ho, hd⟩ := S.cs z b hb; ⟨v, o, hs.extBut _ _ (S.ce z b hb).2 ho, hd⟩)) fun y e' hy => ?_
    rcases lookup_put hy with ⟨rfl, rfl⟩ | ⟨hne, hy⟩
    · refine EntIs.stored (a := f.env.locals) (m := fun z => if z = y then some v else m z) (EntOf.is he (.loc hx (by simp))) S.lo (fun b o => hs.extBut b o) (fun u V => ?_) (.inl rfl)
      cases V with
      | loc a b => exact .loc a b
      | cell a b d => rw [hx] at a; cases a
    · refine EntIs.stored (a := f.env.locals) (hl y e' hy) S.lo (fun b o => hs.extBut b o) (fun u V => ?_) (.inl rfl)
      cases V with
      | loc a b => exact .loc a (by simp [hne, b])
      | cell a b d =>
        obtain ⟨o, ho, hd⟩ := d
        exact .cell a b ⟨o, hs.extBut _ _ (S.ce _ _ b).2 ho, hd⟩
  · obtain ⟨a, ha, hamu⟩ := hc
    obtain ⟨v₀, hv₀⟩ := S.cs _ _ ha
    refine wpAny_storeName_cell S.en.fn hx ha hv₀ fun h' hc' hs => h _ ?_ (fun b o hb e => hs.extBut b o (fun q => hb (q ▸ hamu)) e) (Nat.le_refl _)
    obtain ⟨o', ho', hd'⟩ := id hc'
    have hL : f.env.locals ≠ a := fun e => (S.ce _ _ ha).2 e.symm
    refine S.turn (tk := s.toks) (Nat.le_refl _) hamu (fun b o => hs.extBut b o) ho' (hn.extBut hs.extBut hL) (fun z b hb => ?_) fun y e' hy => ?_
    · by_cases q : b = a
      · subst q; exact ⟨_, hc'⟩
      · obtain ⟨v, o, ho, hd⟩ := S.cs z b hb
        exact ⟨v, o, hs.extBut _ _ q ho, hd⟩
    · rcases lookup_put hy with ⟨rfl, rfl⟩ | ⟨hne, hy⟩
      · have key : EntIs f h' m y e' := by
          have up : ∀ {ok : Addr → Prop}, (∀ b, ok b → f.ok b) → ∀ b o, ok b → s.heap.get? b = some o → ok b ∧ h'.get? b = some o := fun hw b o hb ho => ⟨hb, hs.extBut b o (fun e => (hw b hb).1 (e ▸ hamu)) ho⟩
          have V : VarIs f.toCx h' m y v := .cell hx ha hc'
          cases e' with
          | val d => exact ⟨v, V, Is.mono (up fun _ x => x) he⟩
          | new d => exact ⟨v, V, Is.mono (up fun _ x => x.1) he⟩
          | own r o =>
            obtain ⟨rfl, b, c⟩ := he
            have hne : r ≠ a := fun e => b.2.2 y (e ▸ ha)
            refine ⟨V, b, ?_⟩
            cases o with
            | list ds => obtain ⟨vs, p, q⟩ := c; exact ⟨vs, p.at (fun o => hs.extBut r o hne), q.mono (up fun _ x => x.1)⟩
            | dict ps => exact IsDict.mono c fun o => hs.extBut r o hne
        exact key
      · refine EntIs.stored (a := a) (hl y e' hy) hamu (fun b o => hs.extBut b o) (fun u V => ?_) (.inr ⟨x, ha⟩)
        cases V with
        | loc p q => exact .loc p q
        | cell p q d =>
          obtain ⟨o, ho, hd⟩ := d
          exact .cell p q ⟨o, hs.extBut _ _ (fun e => hne (S.ci _ _ _ q (e ▸ ha))) ho, hd⟩

theorem wp_store {M : Model} {A : Around} {E : Value → Shared → Prop} {x : Str} {v : Value} {e : Ent} {Q : Unit → Shared → Prop} (S : St f Γ s) (hx : Storable f x) (he : EntOf f s.heap v e) (h : ∀ s', St f ((x, e) :: Γ) s' → Q () s') :
    wpAny M A (storeName f.env x v) Q E s := wp_store' S hx he fun s' S' _ _ => h s' S'
end
end Mine

/- M3 -/
namespace Mine

abbrev Wx (f : Fx) (b : List Stmt) (Q : Flow → Shared → Prop) (s : Shared) : Prop := wpAny (Mo f.w) f.A (execs b f.env) Q NoE s
/-- behind a statement: go on with the rest -/
def Sq (f : Fx) (rest : List Stmt) (Q : Flow → Shared → Prop) : Flow → Shared → Prop := fun fl s' => match fl with
  | .next => Wx f rest Q s'
  | fl => Q fl s'

theorem noE {α : Type} {M : Model} {A : Around} {t : Sem α} {Q : α → Shared → Prop} {E : Value → Shared → Prop} {s : Shared} (h : wpAny M A t Q NoE s) : wpAny M A t Q E s :=
  wpAny_mono h (fun _ _ x => x) fun _ _ x => x.elim

section
variable {f : Fx} {Γ Δ : List (Str × Ent)} {s s' : Shared} {Q : Flow → Shared → Prop} {rest : List Stmt} {e : Expr} {ok : Addr → Prop} {d : D}

theorem w_nil (h : Q .next s) : Wx f [] Q s := wpAny_execs_nil h
theorem w_nilSq (h : Wx f rest Q s) : Wx f [] (Sq f rest Q) s := wpAny_execs_nil h
theorem w_of {st : Stmt} (h : wpAny (Mo f.w) f.A (exec st f.env) (Sq f rest Q) NoE s) : Wx f (st :: rest) Q s := by
  refine wpAny_execs_cons (wpAny_mono h (fun fl s' h' => ?_) fun _ _ x => x)
  cases fl <;> exact h'

theorem w_assign {x : Str} {p pos : Pos} (S : St f Γ s) (hx : Storable f x) (he : Ev f.toCx s e f.ok d) (h : ∀ s', St f ((x, .val d) :: Γ) s' → Wx f rest Q s')
    (hs : swapsWith e (some (.Name x p)) pos.line f.env = pure false := by rfl) : Wx f (.Assign [.Name x p] e pos :: rest) Q s :=
  w_of (wpAny_Assign_Name (wpAny_mono (he s (Kp.refl _)) (fun v s₁ h₁ => wp_store (S.keep h₁.1) hx (e := .val d) h₁.2 fun s' S' => h s' S') fun _ _ x => x) hs)
theorem w_assignN {x : Str} {p pos : Pos} (S : St f Γ s) (hx : Storable f x) (he : Ev f.toCx s e f.okN d) (h : ∀ s', St f ((x, .new d) :: Γ) s' → Wx f rest Q s')
    (hs : swapsWith e (some (.Name x p)) pos.line f.env = pure false := by rfl) : Wx f (.Assign [.Name x p] e pos :: rest) Q s :=
  w_of (wpAny_Assign_Name (wpAny_mono (he s (Kp.refl _)) (fun v s₁ h₁ => wp_store (S.keep h₁.1) hx (e := .new d) h₁.2 fun s' S' => h s' S') fun _ _ x => x) hs)

theorem w_if {test : Expr} {body orelse : List Stmt} {pos : Pos} {b : Bool} (S : St f Γ s) (ht : Tr f.toCx s test b) (hT : b = true → ∀ s', St f Γ s' → Wx f body (Sq f rest Q) s') (hF : b = false → ∀ s', St f Γ s' → Wx f orelse (Sq f rest Q) s') :
    Wx f (.If test body orelse pos :: rest) Q s := by
  refine w_of (wpAny_If (wpAny_mono (ht s (Kp.refl _)) (fun r s₁ h₁ => ?_) fun _ _ x => x))
  obtain ⟨k, rfl⟩ := h₁
  cases r with
  | true => exact hT rfl _ (S.keep k)
  | false => exact hF rfl _ (S.keep k)

/-- both ways meet again -/
def Jn (f : Fx) (Δ : List (Str × Ent)) (Q : Flow → Shared → Prop) : Flow → Shared → Prop := fun fl s' => match fl with
  | .next => St f Δ s'
  | fl => Q fl s'
theorem w_nilJ (h : St f Δ s) : Wx f [] (Jn f Δ Q) s := wpAny_execs_nil h
theorem w_ifJ {test : Expr} {body orelse : List Stmt} {pos : Pos} {b : Bool} (Δ : List (Str × Ent)) (S : St f Γ s) (ht : Tr f.toCx s test b) (hT : b = true → ∀ s', St f Γ s' → Wx f body (Jn f Δ Q) s') (hF : b = false → ∀ s', St f Γ s' → Wx f orelse (Jn f Δ Q) s')
    (h : ∀ s', St f Δ s' → Wx f rest Q s') : Wx f (.If test body orelse pos :: rest) Q s := by
  have go : ∀ {st : List Stmt} {s' : Shared}, Wx f st (Jn f Δ Q) s' → Wx f st (Sq f rest Q) s' := fun hw => wpAny_mono hw (fun fl s₂ h₂ => by
    cases fl with
    | next => exact h s₂ h₂
    | _ => exact h₂) fun _ _ x => x
  exact w_if S ht (fun hb s' S' => go (hT hb s' S')) fun hb s' S' => go (hF hb s' S')

theorem w_return {pos : Pos} (he : Ev f.toCx s e ok d) (h : ∀ v s', Kp s s' → Is s'.heap ok v d → Q (.ret v) s') : Wx f (.Return (some e) pos :: rest) Q s :=
  w_of (wpAny_Return_some (wpAny_mono (he s (Kp.refl _)) (fun v s₁ h₁ => h v s₁ h₁.1 h₁.2) fun _ _ x => x))
theorem w_continue {pos : Pos} (h : Q .cont s) : Wx f (.Continue pos :: rest) Q s := w_of (wpAny_bind (wpAny_standAt (wpAny_pure h)))

theorem w_while {σ : Type} {test : Expr} {body : List Stmt} {pos : Pos} (Gm : σ → List (Str × Ent)) (P : σ → Prop) (mes : σ → Nat) (b : σ → Bool) (a₀ : σ) (S : St f (Gm a₀) s) (h0 : P a₀)
    (ht : ∀ a s, P a → St f (Gm a) s → Tr f.toCx s test (b a))
    (turn : ∀ a s, P a → b a = true → St f (Gm a) s → Wx f body (fun fl s' => match fl with
      | .next | .cont => ∃ a', P a' ∧ mes a' < mes a ∧ St f (Gm a') s'
      | .brk => Wx f rest Q s'
      | .ret v => Q (.ret v) s') s)
    (done : ∀ a s, P a → b a = false → St f (Gm a) s → Wx f rest Q s) : Wx f (.While test body [] pos :: rest) Q s := by
  refine w_of (wpAny_While (codeAny_whileLoop (fun n s => ∃ a, n = mes a ∧ P a ∧ St f (Gm a) s) ?_ (mes a₀) ⟨a₀, rfl, h0, S⟩))
  rintro n s ⟨a, rfl, hP, S⟩
  refine noE (wpAny_mono (ht a s hP S s (Kp.refl _)) (fun r s₁ h₁ => ?_) fun _ _ x => x)
  obtain ⟨k, rfl⟩ := h₁
  cases hb : b a with
  | true =>
    simp only [if_true]
    refine noE (wpAny_mono (turn a s₁ hP hb (S.keep k)) (fun fl s₂ h₂ => ?_) fun _ _ x => x)
    cases fl with
    | next => obtain ⟨a', p, q, r⟩ := h₂; exact ⟨mes a', q, a', rfl, p, r⟩
    | cont => obtain ⟨a', p, q, r⟩ := h₂; exact ⟨mes a', q, a', rfl, p, r⟩
    | brk => exact h₂
    | ret v => exact h₂
  | false =>
    simp only [Bool.false_eq_true, if_false]
    exact wpAny_execs_nil (done a s₁ hP hb (S.keep k))
end

/- the expressions -/
section
variable {c : Cx} {s : Shared} {ok ok₁ ok₂ : Addr → Prop} {d d' : D} {e e₁ e₂ : Expr} {pos : Pos} {i j : Int} {x y : Str}

theorem Ev.cast (a : Ev c s e ok d) (h : d = d') : Ev c s e ok d' := h ▸ a

/-- plain values are no objects -/
theorem Ev.str (a : Ev c s e ok₁ (.str x)) : Ev c s e ok (.str x) := fun s' k => wpAny_mono (a s' k) (fun v s₁ h => ⟨h.1, by cases h.2; exact .str _ _⟩) fun _ _ h => h
theorem Ev.int (a : Ev c s e ok₁ (.int i)) : Ev c s e ok (.int i) := fun s' k => wpAny_mono (a s' k) (fun v s₁ h => ⟨h.1, by cases h.2; exact .int _ _⟩) fun _ _ h => h
theorem Ev.bool {b : Bool} (a : Ev c s e ok₁ (.bool b)) : Ev c s e ok (.bool b) := fun s' k => wpAny_mono (a s' k) (fun v s₁ h => ⟨h.1, by cases h.2; exact .bool _⟩) fun _ _ h => h

theorem ev_bin {op : Operator} {d₁ d₂ : D} (a : Ev c s e₁ ok₁ d₁) (b : Ev c s e₂ ok₂ d₂)
    (h : ∀ s₁ v₁ v₂, Is s₁.heap ok₁ v₁ d₁ → Is s₁.heap ok₂ v₂ d₂ → Kp s s₁ → wpAny (Mo c.w) c.A (binaryOp op v₁ v₂) (fun v s₂ => Kp s₁ s₂ ∧ Is s₂.heap ok v d) NoE s₁) : Ev c s (.BinOp e₁ op e₂ pos) ok d := fun s' k =>
  wpAny_BinOp (wpAny_mono (a s' k) (fun v s₁ h₁ => wpAny_mono (b s₁ (k.trans h₁.1)) (fun u s₂ h₂ => wpAny_mono (h s₂ v u (h₁.2.keep h₂.1.kp) h₂.2 (k.trans (h₁.1.trans h₂.1))) (fun r s₃ h₃ => ⟨(h₁.1.trans h₂.1).trans h₃.1, h₃.2⟩) fun _ _ h => h) fun _ _ h => h) fun _ _ h => h)

theorem ev_add (a : Ev c s e₁ Any (.str x)) (b : Ev c s e₂ Any (.str y)) (hz : x.length + y.length ≤ 16777216) : Ev c s (.BinOp e₁ .Add e₂ pos) ok (.str (x ++ y)) :=
  ev_bin a b fun s₁ v₁ v₂ h₁ h₂ _ => by
    cases h₁; cases h₂
    exact wkp (add_str (fun t' tk => ⟨⟨_, tk, rfl, fun _ _ e => e⟩, .str _ _⟩) (by rw [sizeLine_eq]; exact hz))
theorem ev_iadd (a : Ev c s e₁ Any (.int i)) (b : Ev c s e₂ Any (.int j)) : Ev c s (.BinOp e₁ .Add e₂ pos) ok (.int (i + j)) :=
  ev_bin a b fun s₁ v₁ v₂ h₁ h₂ _ => by cases h₁; cases h₂; exact add_int ⟨Kp.toks _ _, .int _ _⟩
theorem ev_isub (a : Ev c s e₁ Any (.int i)) (b : Ev c s e₂ Any (.int j)) : Ev c s (.BinOp e₁ .Sub e₂ pos) ok (.int (i - j)) :=
  ev_bin a b fun s₁ v₁ v₂ h₁ h₂ _ => by cases h₁; cases h₂; exact sub_int ⟨Kp.toks _ _, .int _ _⟩
theorem ev_imod (a : Ev c s e₁ Any (.int i)) (b : Ev c s e₂ Any (.int j)) (hj : 0 < j) : Ev c s (.BinOp e₁ .Mod e₂ pos) ok (.int (i % j)) :=
  ev_bin a b fun s₁ v₁ v₂ h₁ h₂ _ => by
    cases h₁; cases h₂
    exact mod_int (by omega) ⟨Kp.toks _ _, by rw [Int.fmod_eq_emod_of_nonneg _ (by omega)]; exact .int _ _⟩
theorem noPy {i j : Int} (h0 : 0 < j) (h1 : j < 1000) : Builtin.divisionGoesByPylong i j = false := by
  unfold Builtin.divisionGoesByPylong
  have : j.natAbs.log2 < 10 := by
    refine (Nat.log2_lt (by omega)).mpr ?_
    omega
  have h2 : (j == 0) = false := by simp; omega
  simp only [h2]
  simp
  intro h
  omega
theorem ev_idiv (a : Ev c s e₁ Any (.int i)) (b : Ev c s e₂ Any (.int j)) (h0 : 0 < j) (h1 : j < 1000) : Ev c s (.BinOp e₁ .FloorDiv e₂ pos) ok (.int (i / j)) :=
  ev_bin a b fun s₁ v₁ v₂ h₁ h₂ _ => by
    cases h₁; cases h₂
    exact floordiv_int (by omega) ⟨Kp.toks _ _, by rw [Int.fdiv_eq_ediv_of_nonneg _ (by omega)]; exact .int _ _⟩ (Or.inl (noPy h0 h1))
theorem ev_imul (a : Ev c s e₁ Any (.int i)) (b : Ev c s e₂ Any (.int j)) (h0 : IntMulOk i j) : Ev c s (.BinOp e₁ .Mult e₂ pos) ok (.int (i * j)) :=
  ev_bin a b fun s₁ v₁ v₂ h₁ h₂ _ => by
    cases h₁; cases h₂
    exact mul_int ⟨Kp.toks _ _, .int _ _⟩ h0

theorem ev_cmp {op : CmpOp} {d₁ d₂ : D} {b : Bool} (a : Ev c s e₁ ok₁ d₁) (a' : Ev c s e₂ ok₂ d₂)
    (h : ∀ s₁ v₁ v₂, Is s₁.heap ok₁ v₁ d₁ → Is s₁.heap ok₂ v₂ d₂ → Kp s s₁ → wpAny (Mo c.w) c.A (compareOp op v₁ v₂) (fun v s₂ => Kp s₁ s₂ ∧ v = .bool b) NoE s₁) (hm : behindInMarks op e₂ = false) : Tr c s (.Compare e₁ [op] [e₂] pos) b := fun s' k =>
  wpAny_isTrue_Compare1 (wpAny_mono (a s' k) (fun v s₁ h₁ => wpAny_mono (a' s₁ (k.trans h₁.1)) (fun u s₂ h₂ => wpAny_mono (h s₂ v u (h₁.2.keep h₂.1.kp) h₂.2 (k.trans (h₁.1.trans h₂.1))) (fun r s₃ h₃ => by
    obtain ⟨h3, rfl⟩ := h₃
    exact wpAny_truthy_bool ⟨(h₁.1.trans h₂.1).trans h3, rfl⟩) fun _ _ h => h) fun _ _ h => h) fun _ _ h => h) hm

theorem tr_igt (a : Ev c s e₁ Any (.int i)) (b : Ev c s e₂ Any (.int j)) (hm : behindInMarks .Gt e₂ = false := by rfl) : Tr c s (.Compare e₁ [.Gt] [e₂] pos) (decide (j < i)) :=
  ev_cmp a b (fun s₁ v₁ v₂ h₁ h₂ _ => by cases h₁; cases h₂; exact gt_int ⟨Kp.refl _, rfl⟩) hm
theorem tr_ieq (a : Ev c s e₁ Any (.int i)) (b : Ev c s e₂ Any (.int j)) (hm : behindInMarks .Eq e₂ = false := by rfl) : Tr c s (.Compare e₁ [.Eq] [e₂] pos) (i == j) :=
  ev_cmp a b (fun s₁ v₁ v₂ h₁ h₂ _ => by cases h₁; cases h₂; exact eq_int ⟨Kp.refl _, rfl⟩) hm
theorem tr_ine (a : Ev c s e₁ Any (.int i)) (b : Ev c s e₂ Any (.int j)) (hm : behindInMarks .NotEq e₂ = false := by rfl) : Tr c s (.Compare e₁ [.NotEq] [e₂] pos) (i != j) :=
  ev_cmp a b (fun s₁ v₁ v₂ h₁ h₂ _ => by cases h₁; cases h₂; exact ne_int ⟨Kp.refl _, rfl⟩) hm
theorem tr_seq (a : Ev c s e₁ Any (.str x)) (b : Ev c s e₂ Any (.str y)) (hm : behindInMarks .Eq e₂ = false := by rfl) : Tr c s (.Compare e₁ [.Eq] [e₂] pos) (x == y) :=
  ev_cmp a b (fun s₁ v₁ v₂ h₁ h₂ _ => by cases h₁; cases h₂; exact eq_str ⟨Kp.refl _, rfl⟩) hm
theorem tr_sne (a : Ev c s e₁ Any (.str x)) (b : Ev c s e₂ Any (.str y)) (hm : behindInMarks .NotEq e₂ = false := by rfl) : Tr c s (.Compare e₁ [.NotEq] [e₂] pos) (x != y) :=
  ev_cmp a b (fun s₁ v₁ v₂ h₁ h₂ _ => by cases h₁; cases h₂; exact ne_str ⟨Kp.refl _, rfl⟩) hm
def D.isNone : D → Bool
  | .none => true
  | _ => false
theorem tr_isnone {k : Nat} {p : Pos} (a : Ev c s e₁ Any d) : Tr c s (.Compare e₁ [.Is] [.Constant .none k p] pos) d.isNone :=
  ev_cmp a (ev_none (ok := Any)) (fun s₁ v₁ v₂ h₁ h₂ _ => by
    cases h₂
    cases h₁ with
    | none => exact is_none_none ⟨Kp.refl _, rfl⟩
    | _ => exact is_none_ne (by intro x; cases x) ⟨Kp.refl _, rfl⟩) rfl
theorem tr_bool {b : Bool} (a : Ev c s e Any (.bool b)) (he : ∀ whole, isTrue e c.env whole = (do let v ← whole; standAt e.pos; holding [v] (truthy v)) := by intro _; rfl) : Tr c s e b := fun s' k =>
  isTrue_plain (wpAny_mono (a s' k) (fun v s₁ h₁ => by
    obtain ⟨h, i⟩ := h₁
    cases i
    exact wpAny_truthy_bool ⟨h, rfl⟩) fun _ _ h => h) (he _)
theorem tr_and {b₁ b₂ : Bool} (a : Tr c s e₁ b₁) (b : b₁ = true → Tr c s e₂ b₂) : Tr c s (.BoolOp .And [e₁, e₂] pos) (b₁ && b₂) := fun s' k =>
  isTrue_and (wpAny_mono (a s' k) (fun r s₁ h₁ => by
    obtain ⟨h, rfl⟩ := h₁
    cases r with
    | true => exact isTrue_and (wpAny_mono (b rfl s₁ (k.trans h)) (fun r s₂ h₂ => by
        obtain ⟨h', rfl⟩ := h₂
        cases r with
        | true => exact isTrue_and_nil ⟨h.trans h', rfl⟩
        | false => exact ⟨h.trans h', rfl⟩) fun _ _ h => h)
    | false => exact ⟨h, rfl⟩) fun _ _ h => h)
theorem tr_or {b₁ b₂ : Bool} (a : Tr c s e₁ b₁) (b : b₁ = false → Tr c s e₂ b₂) : Tr c s (.BoolOp .Or [e₁, e₂] pos) (b₁ || b₂) := fun s' k =>
  isTrue_or (wpAny_mono (a s' k) (fun r s₁ h₁ => by
    obtain ⟨h, rfl⟩ := h₁
    cases r with
    | false => exact isTrue_or (wpAny_mono (b rfl s₁ (k.trans h)) (fun r s₂ h₂ => by
        obtain ⟨h', rfl⟩ := h₂
        cases r with
        | false => exact isTrue_or_nil ⟨h.trans h', rfl⟩
        | true => exact ⟨h.trans h', rfl⟩) fun _ _ h => h)
    | true => exact ⟨h, rfl⟩) fun _ _ h => h)

/-- displays -/
theorem ev_list {es : List Expr} {ds : List D} (a : Evs c s pos es ok ds) (hf : ∀ a, s.heap.get? a = none → ok a) (hz : ds.length ≤ 1000) : Ev c s (.List es pos) ok (.list ds) := fun s' k =>
  List_ (wpAny_mono (a s' k) (fun vs s₁ h₁ => by
    have hl := h₁.2.length
    refine wpAny_newObj_type ⟨h₁.1.trans (Kp.push _ _), .list (hf _ ?_) ⟨_, Heap.get?_push_size _ rfl, rfl, 0, rfl⟩ (h₁.2.keep (Kp.push _ _).kp)⟩ (by show vs.toArray.size ≤ sizeLine; rw [List.size_toArray, sizeLine_eq]; omega)
    cases hq : s.heap.get? s₁.heap.objs.size with
    | none => rfl
    | some o => exact absurd (Heap.lt_size ((k.trans h₁.1).kp _ _ hq)) (Nat.lt_irrefl _)) fun _ _ h => h)
theorem ev_tuple {es : List Expr} {ds : List D} {n : Nat} (a : Evs c s pos es ok ds) (hf : ∀ a, s.heap.get? a = none → ok a) (hz : ds.length ≤ 1000) : Ev c s (.Tuple es n pos) ok (.tup ds) := fun s' k =>
  Tuple_ (wpAny_mono (a s' k) (fun vs s₁ h₁ => by
    have hl := h₁.2.length
    refine wpAny_newObj_type ⟨h₁.1.trans (Kp.push _ _), .tup (hf _ ?_) ⟨_, Heap.get?_push_size _ rfl, rfl, 0, rfl⟩ (h₁.2.keep (Kp.push _ _).kp)⟩ (by show vs.toArray.size ≤ sizeLine; rw [List.size_toArray, sizeLine_eq]; omega)
    cases hq : s.heap.get? s₁.heap.objs.size with
    | none => rfl
    | some o => exact absurd (Heap.lt_size ((k.trans h₁.1).kp _ _ hq)) (Nat.lt_irrefl _)) fun _ _ h => h)

/-- an item -/
theorem ev_item {ds : List D} (a : Ev c s e₁ ok (.list ds)) (b : Ev c s e₂ Any (.int i)) (h0 : 0 ≤ i) (h1 : i < 1000000) (hd : ds[i.toNat]? = some d)
    (hs : ∀ l t, subscripted e₂ false (.ref l) (.int i t) = operate [.ref l, .int i t] (getItem (.ref l) (.int i t)) := by intro _ _; with_unfolding_all rfl) : Ev c s (.Subscript e₁ e₂ pos) ok d := fun s' k =>
  Subscript_ (wpAny_mono (a s' k) (fun v s₁ h₁ => wpAny_mono (b s₁ (k.trans h₁.1)) (fun u s₂ h₂ => by
    obtain ⟨h₁, i₁⟩ := h₁
    obtain ⟨h₂, i₂⟩ := h₂
    cases i₂
    cases i₁ with
    | list p q r =>
      obtain ⟨v, hv, hi⟩ := r.get hd
      have q' := isList_mono (h₂.kp _) q
      exact tail_any q'.typeIs slot_list_getitem.lookup (wpAny_getItem_list q' h0 (by omega) (by simpa using hv) ⟨h₁.trans h₂, hi.keep h₂.kp⟩) (hs _ _)) fun _ _ h => h) fun _ _ h => h)
end
end Mine

/- M4 -/
namespace Mine

/-- what a call of the def at f gives: upon such arguments a result of its own making; nothing that stands is changed -/
def Spec (w : World) (k : Nat) (f : Addr) (ds : List D) (r : D) : Prop :=
  ∀ A s vs, Gr w s.heap → Lv A k → Are s.heap Any vs ds → wpAny (Mo w) A (call (.ref f) vs) (fun v s' => Kp s s' ∧ Is s'.heap (fun a => s.heap.get? a = none) v r) NoE s

def RetIs (fx : Fx) (r : D) : Flow → Shared → Prop := fun fl s' => Kp fx.base s' ∧ Is s'.heap (fun a => fx.base.heap.get? a = none) (match fl with | .ret v => v | _ => .none) r

abbrev fx0 (w : World) (A : Around) (fd : FuncData) (f L : Addr) (base : Shared) : Fx := ⟨⟨w, A, callEnv fd L f⟩, base, [L], [], (fun _ _ => False), true⟩

theorem lookup_zip {h : Heap} {ok : Addr → Prop} {x : Str} {e : Ent} : ∀ {xs : List Str} {vs : List Value} {ds : List D}, xs.length = ds.length → Are h ok vs ds → (xs.zip (ds.map Ent.val)).lookup x = some e → ∃ v d, e = .val d ∧ (xs.zip vs).lookup x = some v ∧ Is h ok v d
  | [], _, _, _, _, hl => by simp at hl
  | y :: xs, _, [], hn, _, hl => by simp at hn
  | y :: xs, _, d :: ds, hn, .cons p r, hl => by
    simp only [List.map_cons, List.zip_cons_cons, List.lookup_cons] at hl ⊢
    split at hl
    · cases hl; exact ⟨_, _, rfl, rfl, p⟩
    · exact lookup_zip (by simpa using hn) r hl

theorem lookup_reverse {α : Type} {x : Str} : ∀ {l : List (Str × α)}, (l.map (·.1)).Nodup → l.reverse.lookup x = l.lookup x
  | [], _ => rfl
  | (y, b) :: r, h => by
    obtain ⟨h1, h2⟩ := List.nodup_cons.mp h
    rw [List.reverse_cons, List.lookup_append, lookup_reverse h2, List.lookup_cons]
    cases hq : x == y with
    | true =>
      have e := beq_iff_eq.mp hq
      subst e
      have : r.lookup x = none := by
        cases hz : r.lookup x with
        | none => rfl
        | some z => exact absurd (List.mem_map.mpr ⟨_, mem_of_lookup hz, rfl⟩) h1
      simp [this]
    | false => simp [List.lookup_cons, hq]

theorem spec_gen {w : World} {k : Nat} {f : Addr} {o : Obj} {fd : FuncData} {body : List Stmt} (xs : List Str) {ds : List D} {post : Shared → Value → Shared → Prop}
    (ho : (KK w).lookup f = some o) (hdata : o.data = .func fd) (hcd : codeIn (KK w) fd.code fd.qualname = true) (hbody : fd.body = .stmts body)
    (hbind : ∀ vs : List Value, vs.length = xs.length → bindArgs fd ⟨vs, []⟩ = pure (xs.zip vs)) (hlen : xs.length = ds.length) (hne : xs ≠ [])
    (hcell : ∀ x ∈ fd.scope.names, x.2 ≠ .cell) (hloc : ∀ x ∈ xs, fd.scope.names.lookup x = some .local) (hnd : xs.Nodup)
    (hco : fd.scope.isCoroutine = false) (hgen : fd.scope.isGenerator = false) (hk : fd.scope.kind = .function) (hgl : fd.globals = mainGlobals) (hbi : fd.builtins = builtinsNs) (hcl : fd.closure = [])
    (h : ∀ (fx : Fx) s, fx.w = w → fx.env.scope = fd.scope → fx.env.cells = [] → fx.it = [] → fx.tp = true → Lv fx.A k → St fx (xs.zip (ds.map Ent.val)) s → Wx fx body (fun fl s' => post fx.base (match fl with | .ret v => v | _ => .none) s') s) {A : Around} {s : Shared} {vs : List Value} (G : Gr w s.heap) (hA : Lv A (k + 1)) (ha : Are s.heap Any vs ds) :
    wpAny (Mo w) A (call (.ref f) vs) (post s) NoE s := by
  have hvl : vs.length = xs.length := by rw [ha.length, hlen]
  have hz : (xs.zip vs).map (·.1) = xs := by rw [List.map_fst_zip]; omega
  refine wpAny_call (codeAny_call_def hA.room (G.kin _ _ ho) hdata G.lim (codeRec_of G.kin hcd) hbody (BindsTo.of_eq (hbind vs hvl)) hcell ?_ (fun h₀ hn hk₀ => ?_) hco hgen hk)
  · intro x hx
    refine hloc _ ?_
    rw [← hz]
    exact List.mem_map.mpr ⟨_, hx, rfl⟩
  · have hLn : s.heap.get? s.heap.objs.size = none := by
      cases hq : s.heap.get? s.heap.objs.size with
      | none => rfl
      | some o => exact absurd (Heap.lt_size hq) (Nat.lt_irrefl _)
    refine noE (wpAny_mono (h (fx0 w (A.deeper (callEnv fd s.heap.objs.size f)) fd f s.heap.objs.size s) { s with heap := h₀, toks := s.toks + (xs.zip vs).length } rfl rfl hcl rfl rfl (hA.deeper _) ?_) (fun fl s' hq => ?_) fun _ _ x => x)
    · obtain ⟨oL, _, _, hoL, _⟩ := id hn
      refine ⟨⟨hk, hgl, hbi⟩, G, Kp.both s hk₀, List.mem_singleton.mpr rfl, ?_, ?_, ?_, ?_, ?_, ?_, ?_, ?_, ?_⟩
      · intro x a hx
        have : fd.closure.lookup x = some a := hx
        rw [hcl] at this; cases this
      · intro x y a hx
        have : fd.closure.lookup x = some a := hx
        rw [hcl] at this; cases this
      · intro x a hx
        have : fd.closure.lookup x = some a := hx
        rw [hcl] at this; cases this
      · intro a hm
        rw [List.mem_singleton.mp hm]
        exact ⟨oL, hoL⟩
      · intro a hm
        rw [List.mem_singleton.mp hm]
        exact hLn
      · intro a o hp; cases hp
      · intro a hp; cases hp
      · intro _
        show 1 ≤ s.toks + (xs.zip vs).length
        have : (xs.zip vs).length = xs.length := by rw [List.length_zip]; omega
        have := List.length_pos_iff.mpr hne
        omega
      · refine ⟨_, hn, fun x e hx => ?_⟩
        obtain ⟨v, d, rfl, hv, i⟩ := lookup_zip hlen ha hx
        refine ⟨v, .loc (hloc x ?_) ?_, (i.mono fun a o _ ho => ⟨⟨fun hm => ?_, fun hm => (nomatch hm)⟩, hk₀ _ _ ho⟩)⟩
        · rw [← hz]
          exact List.mem_map.mpr ⟨_, mem_of_lookup hv, rfl⟩
        · rw [lookup_reverse (by rw [hz]; exact hnd)]; exact hv
        · rw [List.mem_singleton.mp hm, hLn] at ho; cases ho
    · exact hq

theorem spec_of {w : World} {k : Nat} {f : Addr} {o : Obj} {fd : FuncData} {body : List Stmt} (xs : List Str) {ds : List D} {r : D}
    (ho : (KK w).lookup f = some o) (hdata : o.data = .func fd) (hcd : codeIn (KK w) fd.code fd.qualname = true) (hbody : fd.body = .stmts body)
    (hbind : ∀ vs : List Value, vs.length = xs.length → bindArgs fd ⟨vs, []⟩ = pure (xs.zip vs)) (hlen : xs.length = ds.length) (hne : xs ≠ [])
    (hcell : ∀ x ∈ fd.scope.names, x.2 ≠ .cell) (hloc : ∀ x ∈ xs, fd.scope.names.lookup x = some .local) (hnd : xs.Nodup)
    (hco : fd.scope.isCoroutine = false) (hgen : fd.scope.isGenerator = false) (hk : fd.scope.kind = .function) (hgl : fd.globals = mainGlobals) (hbi : fd.builtins = builtinsNs) (hcl : fd.closure = [])
    (h : ∀ (fx : Fx) s, fx.w = w → fx.env.scope = fd.scope → fx.env.cells = [] → fx.it = [] → fx.tp = true → Lv fx.A k → St fx (xs.zip (ds.map Ent.val)) s → Wx fx body (RetIs fx r) s) : Spec w (k + 1) f ds r :=
  fun _ _ _ G hA ha => spec_gen (post := fun s v s' => Kp s s' ∧ Is s'.heap (fun a => s.heap.get? a = none) v r) xs ho hdata hcd hbody hbind hlen hne hcell hloc hnd hco hgen hk hgl hbi hcl h G hA ha

theorem stor {f : Fx} {sc : Scope} {x : Str} (h : f.env.scope = sc) (h' : sc.names.lookup x = some .local) : Storable f x := .inl (by show f.env.scope.names.lookup x = _; rw [h]; exact h')
/-- a result that is no object -/
theorem ret_atom {fx : Fx} {Γ : List (Str × Ent)} {s s' : Shared} {v : Value} {d : D} {ok : Addr → Prop} (S : St fx Γ s) (k : Kp s s') (i : Is s'.heap ok v d) (hd : match d with | .tup _ | .list _ | .mgr => False | _ => True) : RetIs fx d (.ret v) s' := by
  refine ⟨S.kp.trans k, ?_⟩
  cases i <;> first | exact hd.elim | constructor
end Mine

/- M5 -/
namespace Mine

/-- within a loop: its iterator is one more thing to stand apart from -/
abbrev Fx.inl (f : Fx) (I : Addr) (p : Addr → Obj → Prop) : Fx := { f with it := I :: f.it, pin := p }

theorem with_tok {α : Type} {M : Model} {A : Around} {t : Sem α} {Q : α → Shared → Prop} {E : Value → Shared → Prop} {s : Shared}
    (h' : wpAny M A t (fun a s' => (1 ≤ s.toks → 1 ≤ s'.toks) → Q a s') E s) : wpAny M A t Q E s := by
  by_cases h1 : 1 ≤ s.toks
  · exact wpAny_mono (wpAny_toks_of h1 h') (fun _ _ q => q.2 fun _ => q.1) fun _ _ q => q.2
  · exact wpAny_mono h' (fun _ _ q => q fun x => absurd x h1) fun _ _ q => q

section
variable {f : Fx} {Γ Δ : List (Str × Ent)} {s s' : Shared} {Q : Flow → Shared → Prop} {rest : List Stmt}

theorem EntIs.into {g : Fx} {h h' : Heap} {m : Str → Option Value} {x : Str} {e : Ent} (E : EntIs f h m x e) (hc : g.toCx = f.toCx) (hmu : g.mu = f.mu) (hb : g.base = f.base)
    (hk : ∀ a o, f.ok a → h.get? a = some o → g.ok a ∧ h'.get? a = some o) (hm : ∀ a ∈ f.mu, ∀ o, h.get? a = some o → h'.get? a = some o) (hce : ∀ x a, f.env.cells.lookup x = some a → ∀ o, h.get? a = some o → h'.get? a = some o) : EntIs g h' m x e := by
  have hV : ∀ v, VarIs f.toCx h m x v → VarIs g.toCx h' m x v := fun v V => by
    rw [hc]
    cases V with
    | loc a b => exact .loc a b
    | cell a b d => obtain ⟨o, ho, hd⟩ := d; exact .cell a b ⟨o, hce _ _ b _ ho, hd⟩
  have he : g.env = f.env := congrArg Cx.env hc
  have hN : ∀ a o, f.okN a → h.get? a = some o → g.okN a ∧ h'.get? a = some o := fun a o p q => ⟨⟨(hk a o p.1 q).1, by rw [hb]; exact p.2⟩, (hk a o p.1 q).2⟩
  cases e with
  | val d => obtain ⟨v, a, b⟩ := E; exact ⟨v, hV v a, b.mono hk⟩
  | new d => obtain ⟨v, a, b⟩ := E; exact ⟨v, hV v a, b.mono hN⟩
  | own r o =>
    obtain ⟨p, q, c⟩ := E
    refine ⟨hV _ p, by rw [hmu, he]; exact q, ?_⟩
    cases o with
    | list ds => obtain ⟨vs, p', q'⟩ := c; exact ⟨vs, p'.at (fun o => hm r q.1 o), q'.mono hN⟩
    | dict ps =>
      have hw : g.w = f.w := congrArg Cx.w hc
      show IsDict g.w h' r ps
      rw [hw]
      exact IsDict.mono c fun o => hm r q.1 o

/-- a step that changes one object that is no variable's (an iterator) -/
theorem St.inner {g : Fx} {h' : Heap} {tk : Nat} {I : Addr} (S : St f Γ s) (htk : 1 ≤ s.toks → 1 ≤ tk) (htp : g.tp = f.tp) (hc : g.toCx = f.toCx) (hmu : g.mu = f.mu) (hb : g.base = f.base) (hip : ∀ a ∈ g.it, ∃ o, g.pin a o)
    (hcg : ∀ x a, f.env.cells.lookup x = some a → (a ∈ f.mu ∨ ∃ o, g.pin a o) ∧ a ≠ I) (hI : I ∉ f.mu) (hIb : f.base.heap.get? I = none)
    (hk : ∀ b o, b ≠ I → s.heap.get? b = some o → h'.get? b = some o) (hok : ∀ a o, f.ok a → s.heap.get? a = some o → g.ok a ∧ a ≠ I) (hpin : ∀ a o, g.pin a o → h'.get? a = some o ∧ a ∉ f.mu) : St g Γ { s with heap := h', toks := tk } := by
  obtain ⟨en, gr, kp, lo, ce, ci, cs, al, nb, pn, ip, tp, m, hm, hl⟩ := S
  have he : g.env = f.env := congrArg Cx.env hc
  have hw : g.w = f.w := congrArg Cx.w hc
  have hmm : ∀ a ∈ f.mu, ∀ o, s.heap.get? a = some o → h'.get? a = some o := fun a ha o => hk a o fun e => hI (e ▸ ha)
  refine ⟨by rw [hc]; exact en, by rw [hb, hw]; exact gr, ?_, by rw [he, hmu]; exact lo, by rw [he, hmu]; exact fun x a hx => ⟨(hcg x a hx).1, (ce x a hx).2⟩, by rw [he]; exact ci, ?_, ?_, by rw [hmu, hb]; exact nb, by rw [hmu]; exact hpin, hip, fun q => htk (tp (htp ▸ q)), m, ?_, ?_⟩
  · rw [hb]
    refine ⟨?_, fun q => htk (kp.2 q)⟩
    obtain ⟨hb', tb, e, k⟩ := kp.1
    subst e
    refine ⟨h', tk, rfl, fun b o e => hk b o (fun q => ?_) (k b o e)⟩
    subst q
    rw [hIb] at e; cases e
  · rw [he]
    intro x a hx
    obtain ⟨v, o, ho, hd⟩ := cs x a hx
    exact ⟨v, o, hk a o (hcg x a hx).2 ho, hd⟩
  · rw [hmu]
    intro a ha
    obtain ⟨o, ho⟩ := al a ha
    exact ⟨o, hmm a ha o ho⟩
  · rw [he]
    obtain ⟨o, es, ep, ho, r⟩ := hm
    exact ⟨o, es, ep, hmm _ lo o ho, r⟩
  · intro x e hx
    exact (hl x e hx).into hc hmu hb (fun a o p q => ⟨(hok a o p q).1, hk a o (hok a o p q).2 q⟩) hmm fun x a hx o => hk a o (hcg x a hx).2

theorem St.sub' (S : St f Γ s) (h : Sub Γ Δ) : St f Δ s := S.sub h

theorem for_core {σ : Type} {target : Expr} {body : List Stmt} {I : Addr} {fp : List Addr} {n : Nat} {P : Nat → Value → Prop} {StI : Nat → Heap → Prop} {s₂ : Shared} (Gm : σ → List (Str × Ent)) (Gb : Nat → σ → List (Str × Ent)) (R : Nat → σ → Prop) (a₀ : σ)
    (W : Walks Prg f.w f.A I fp [I] n P StI) (hst : StI 0 s₂.heap) (hI₁ : ∀ i (h : Heap), StI (i + 1) h → ∃ o, h.get? I = some o) (hImu : I ∉ f.mu) (hIit : I ∉ f.it) (hIb : f.base.heap.get? I = none)
    (hip : ∀ a ∈ f.it, ∃ o, f.pin a o) (hfp : ∀ b ∈ fp, b ≠ I → b ∉ f.mu ∧ ∃ o, s₂.heap.get? b = some o) (hpI : ∀ o, ¬ f.pin I o) (hcf : ∀ x a, f.env.cells.lookup x = some a → a ∈ f.mu ∨ ∃ o, f.pin a o)
    (S : St (f.inl I fun a o => f.pin a o ∨ (a ∉ f.mu ∧ s₂.heap.get? a = some o)) (Gm a₀) s₂) (hR : R 0 a₀)
    (hgo : ∀ i v (s : Shared) (Q : Unit → Shared → Prop) (E : Value → Shared → Prop), StI (i + 1) s.heap → P i v → Q () s → wpAny (Mo f.w) f.A (letOwnedTupleGo target (.ref I) v) Q E s)
    (asg : ∀ i a v p s', i < n → P i v → St (f.inl I p) (Gm a) s' → (∀ b o, b ∉ f.mu → b ≠ I → s₂.heap.get? b = some o → s'.heap.get? b = some o) → ∀ Q' : Unit → Shared → Prop, (∀ s'', St (f.inl I p) (Gb i a) s'' → Q' () s'') → wpAny (Mo f.w) f.A (assign target f.env v) Q' NoE s')
    (turn : ∀ i a p s', i < n → R i a → St (f.inl I p) (Gb i a) s' → Wx (f.inl I p) body (fun fl s'' => match fl with
      | .next | .cont => ∃ a', R (i + 1) a' ∧ St (f.inl I p) (Gm a') s''
      | .brk => False
      | .ret v => Q (.ret v) s'') s')
    (done : ∀ a s', R n a → St f (Gm a) s' → Wx f rest Q s') :
    codeAny (Mo f.w) f.A (.forLoop target (.ref I) body [] f.env) (fun r s' => match r with | .ok fl => Sq f rest Q fl s' | .error e => cameBackBy (Mo f.w) f.A f.env NoE e s') s₂ := by
  refine codeAny_forLoop_any (fun k s' => ∃ i a p, k = n + 1 - i ∧ i ≤ n ∧ R i a ∧ St (f.inl I p) (Gm a) s' ∧ StI i s'.heap ∧ (∀ a o, f.pin a o → p a o) ∧ (∀ a o, a ∉ f.mu → a ≠ I → s₂.heap.get? a = some o → p a o)) ?_ (n + 1)
    ⟨0, a₀, _, rfl, Nat.zero_le _, hR, S, hst, fun a o h => .inl h, fun a o h1 _ h2 => .inr ⟨h1, h2⟩⟩
  rintro k s' ⟨i, a, p, rfl, hi, hRa, S', hst', hp1, hp2⟩
  by_cases hlt : i < n
  · refine with_tok (W.item i _ _ _ hlt hst' fun v h₁ tk₁ hPv hst₁ hk₁ htk => ?_)
    have hk₁' : ∀ b o, b ≠ I → s'.heap.get? b = some o → h₁.get? b = some o := fun b o hb => hk₁ b o (by simp [hb])
    refine hgo i v _ _ _ hst₁ hPv ?_
    obtain ⟨oI, hoI⟩ := hI₁ i _ hst₁
    have hcI : ∀ x a, f.env.cells.lookup x = some a → a ≠ I := fun x a hx e => (hcf x a hx).elim (fun h => hImu (e ▸ h)) fun ⟨o, h⟩ => hpI o (e ▸ h)
    -- the pins of this turn
    have S₁ : St (f.inl I fun a o => (a ≠ I ∧ p a o) ∨ (a = I ∧ o = oI)) (Gm a) { s' with heap := h₁, toks := tk₁ } := by
      refine S'.inner (f := f.inl I p) (I := I) htk rfl rfl rfl rfl ?_ ?_ hImu hIb hk₁' ?_ ?_
      · intro a ha
        rcases List.mem_cons.mp ha with rfl | ha
        · exact ⟨oI, .inr ⟨rfl, rfl⟩⟩
        · obtain ⟨o, ho⟩ := hip a ha
          exact ⟨o, .inl ⟨fun e => hpI o (e ▸ ho), hp1 a o ho⟩⟩
      · intro x a hx
        exact ⟨(hcf x a hx).imp id fun ⟨o, h⟩ => ⟨o, .inl ⟨hcI x a hx, hp1 a o h⟩⟩, hcI x a hx⟩
      · intro a o h1 h2
        exact ⟨h1, fun e => h1.2 (e ▸ List.mem_cons_self)⟩
      · rintro a o (⟨h1, h2⟩ | ⟨rfl, rfl⟩)
        · exact ⟨hk₁' a o h1 (S'.pn a o h2).1, (S'.pn a o h2).2⟩
        · exact ⟨hoI, hImu⟩
    have up : ∀ a o, a ∉ f.mu → a ≠ I → s₂.heap.get? a = some o → h₁.get? a = some o := fun a o h1 h2 h3 => hk₁' a o h2 (S'.pn a o (hp2 a o h1 h2 h3)).1
    refine noE (asg i a v _ _ hlt hPv S₁ up _ fun s₃ S₃ => noE (wpAny_mono (turn i a _ s₃ hlt hRa S₃) (fun fl s₄ h₄ => ?_) fun _ _ x => x))
    have fin : (∃ a', R (i + 1) a' ∧ St (f.inl I fun a o => (a ≠ I ∧ p a o) ∨ (a = I ∧ o = oI)) (Gm a') s₄) → ∃ m, m < n + 1 - i ∧ ∃ j b q, m = n + 1 - j ∧ j ≤ n ∧ R j b ∧ St (f.inl I q) (Gm b) s₄ ∧ StI j s₄.heap ∧ (∀ a o, f.pin a o → q a o) ∧ (∀ a o, a ∉ f.mu → a ≠ I → s₂.heap.get? a = some o → q a o) := by
      rintro ⟨a', hR', S₄⟩
      refine ⟨n + 1 - (i + 1), by omega, i + 1, a', _, rfl, hlt, hR', S₄, ?_, fun a o h => .inl ⟨fun e => hpI o (e ▸ h), hp1 a o h⟩, fun a o h1 h2 h3 => .inl ⟨h2, hp2 a o h1 h2 h3⟩⟩
      refine W.frame _ _ _ hst₁ fun b hb o e => ?_
      by_cases hbI : b = I
      · subst hbI
        rw [hoI] at e
        cases e
        exact (S₄.pn _ _ (.inr ⟨rfl, rfl⟩)).1
      · obtain ⟨h1, o', h2⟩ := hfp b hb hbI
        have := (S₄.pn b o' (.inl ⟨hbI, hp2 b o' h1 hbI h2⟩)).1
        rw [up b o' h1 hbI h2] at e
        cases e
        exact this
    cases fl with
    | next => exact fin h₄
    | cont => exact fin h₄
    | brk => exact h₄.elim
    | ret v => exact h₄
  · have hin : i = n := by omega
    subst hin
    refine with_tok (W.done _ _ _ hst' fun h₁ tk₁ hk₁ htk => ?_)
    have hk₁' : ∀ b o, b ≠ I → s'.heap.get? b = some o → h₁.get? b = some o := fun b o hb => hk₁ b o (by simp [hb])
    refine wpAny_execs_nil (done a _ hRa ?_)
    have hcI : ∀ x a, f.env.cells.lookup x = some a → a ≠ I := fun x a hx e => (hcf x a hx).elim (fun h => hImu (e ▸ h)) fun ⟨o, h⟩ => hpI o (e ▸ h)
    refine S'.inner (f := f.inl I p) (g := f) (I := I) htk rfl rfl rfl rfl hip (fun x a hx => ⟨hcf x a hx, hcI x a hx⟩) hImu hIb hk₁' ?_ ?_
    · intro a o h1 h2
      exact ⟨⟨h1.1, fun h => h1.2 (List.mem_cons_of_mem _ h)⟩, fun e => h1.2 (e ▸ List.mem_cons_self)⟩
    · intro a o h
      exact ⟨hk₁' a o (fun e => hpI o (e ▸ h)) (S'.pn a o (hp1 a o h)).1, (S'.pn a o (hp1 a o h)).2⟩

theorem St.start {I : Addr} {o : Obj} (S : St f Γ s) (hI : I = s.heap.objs.size) (ho : o.isFreed = false) :
    St (f.inl I fun a o' => f.pin a o' ∨ (a ∉ f.mu ∧ (s.heap.push o).get? a = some o')) Γ { s with heap := s.heap.push o } ∧ I ∉ f.mu ∧ I ∉ f.it ∧ f.base.heap.get? I = none ∧ (∀ o', ¬ f.pin I o') ∧ s.heap.get? I = none := by
  subst hI
  have hn : s.heap.get? s.heap.objs.size = none := by
    cases hq : s.heap.get? s.heap.objs.size with
    | none => rfl
    | some o => exact absurd (Heap.lt_size hq) (Nat.lt_irrefl _)
  have hf := S.fresh hn
  have hp : ∀ o', ¬ f.pin s.heap.objs.size o' := fun o' h => by
    have := (S.pn _ _ h).1
    rw [hn] at this; cases this
  refine ⟨?_, hf.1.1, hf.1.2, hf.2, hp, hn⟩
  refine S.inner (tk := s.toks) (I := s.heap.objs.size) id rfl rfl rfl rfl ?_ ?_ hf.1.1 hf.2 (fun b o' _ e => Heap.get?_push_of_some _ e) ?_ ?_
  · intro a ha
    rcases List.mem_cons.mp ha with rfl | ha
    · exact ⟨o, .inr ⟨hf.1.1, Heap.get?_push_size _ ho⟩⟩
    · obtain ⟨o', h'⟩ := S.ip a ha
      exact ⟨o', .inl h'⟩
  · intro x a hx
    refine ⟨(S.ce x a hx).1.imp id fun ⟨o, h⟩ => ⟨o, .inl h⟩, fun e => ?_⟩
    rcases (S.ce x a hx).1 with h | ⟨o, h⟩
    · exact hf.1.1 (e ▸ h)
    · exact hp o (e ▸ h)
  · intro a o' h1 h2
    have hne : a ≠ s.heap.objs.size := Nat.ne_of_lt (Heap.lt_size h2)
    refine ⟨⟨h1.1, fun h => ?_⟩, hne⟩
    rcases List.mem_cons.mp h with h | h
    · exact hne h
    · exact h1.2 h
  · rintro a o' (h | h)
    · exact ⟨Heap.get?_push_of_some _ (S.pn a o' h).1, (S.pn a o' h).2⟩
    · exact ⟨h.2, h.1⟩

/-- a datum that stood before the loop, within the loop -/
theorem inl_is {I : Addr} {p : Addr → Obj → Prop} {s₁ s₂ s₃ : Shared} {v : Value} {d : D} (i : Is s₁.heap f.ok v d) (hn : s₁.heap.get? I = none) (k : ∀ a o, s₁.heap.get? a = some o → s₂.heap.get? a = some o)
    (up : ∀ a o, a ∉ f.mu → a ≠ I → s₂.heap.get? a = some o → s₃.heap.get? a = some o) : Is s₃.heap (f.inl I p).ok v d := by
  refine i.mono fun a o h1 h2 => ?_
  have hne : a ≠ I := fun e => by rw [e, hn] at h2; cases h2
  exact ⟨⟨h1.1, fun h => (List.mem_cons.mp h).elim hne h1.2⟩, up a o h1.1 hne (k a o h2)⟩

theorem w_for1 {σ : Type} {x : Str} {px pos : Pos} {iter : Expr} {body : List Stmt} {ds : List D} (S : St f Γ s) (hA : f.A.handled = none) (hi : Ev f.toCx s iter f.ok (.list ds)) (hx : Storable f x) (Gm : σ → List (Str × Ent)) (R : Nat → σ → Prop) (a₀ : σ) (h0 : Sub Γ (Gm a₀)) (hR : R 0 a₀)
    (turn : ∀ i a d I p s', ds[i]? = some d → R i a → St (f.inl I p) ((x, .val d) :: Gm a) s' → Wx (f.inl I p) body (fun fl s'' => match fl with
      | .next | .cont => ∃ a', R (i + 1) a' ∧ St (f.inl I p) (Gm a') s''
      | .brk => False
      | .ret v => Q (.ret v) s'') s')
    (done : ∀ a s', R ds.length a → St f (Gm a) s' → Wx f rest Q s') (hs : ∀ x, foldedSetIterable iter f.env x = pure x := by intro _; rfl) : Wx f (.For (.Name x px) iter body [] pos :: rest) Q s := by
  refine w_of (wpAny_For (wpAny_mono (hi s (Kp.refl _)) (fun v s₁ h₁ => ?_) fun _ _ h => h) hs)
  obtain ⟨k, iv⟩ := h₁
  cases iv with
  | list hok hl ha =>
    rename_i ax vs
    have S₁ := S.keep k
    obtain ⟨S₂, i1, i2, i3, i4, i5⟩ := S₁.start (o := { cls := .type "list_iterator", data := .fields #[.ref ax, .int 0 0] }) rfl rfl
    obtain ⟨ol, hol, hol'⟩ := id hl
    have hax : ax ≠ s₁.heap.objs.size := Nat.ne_of_lt (Heap.lt_size hol)
    refine wpAny_pyIter_list hl ?_
    have W := Walks.list (prog := Prg) (w := f.w) (A := f.A) hA s₁.heap.objs.size ax hax vs.toArray
    have hn : vs.toArray.size = ds.length := by rw [List.size_toArray, ha.length]
    refine for_core Gm (fun i a => match ds[i]? with | some d => (x, .val d) :: Gm a | none => []) R a₀ W ⟨⟨_, Heap.get?_push_size _ rfl, rfl, rfl⟩, isList_mono (fun o e => Heap.get?_push_of_some _ e) hl⟩ (fun i h st => let ⟨o, ho, _⟩ := st.1; ⟨o, ho⟩) i1 i2 i3 S.ip ?_ i4 (fun x a hx => (S.ce x a hx).1) (S₂.sub' h0) hR ?_ ?_ ?_ ?_
    · intro b hb hbI
      rcases List.mem_cons.mp hb with h | h
      · exact absurd h hbI
      · rw [List.mem_singleton.mp h]
        exact ⟨hok.1, ol, Heap.get?_push_of_some _ hol⟩
    · intro i v s Q E _ _ hq
      exact wpAny_pure hq
    · intro i a v p s' hlt hP S' up Q' hQ
      have hv : vs[i]? = some v := by simpa using hP
      obtain ⟨d, hd, id⟩ := ha.getv hv
      refine wpAny_assign_Name (wp_store (f := f.inl s₁.heap.objs.size p) S' hx (e := .val d) (inl_is id i5 (fun a o e => Heap.get?_push_of_some _ e) up) fun s'' S'' => hQ s'' ?_)
      simp only [hd]
      exact S''
    · intro i a p s' hlt hRa S'
      rw [hn] at hlt
      have hd : ds[i]? = some ds[i] := List.getElem?_eq_getElem hlt
      simp only [hd] at S'
      exact turn i a _ _ p s' hd hRa S'
    · rw [hn]; exact done

theorem w_for2 {σ : Type} {x y : Str} {px py pt pos : Pos} {tk : Nat} {iter : Expr} {body : List Stmt} {ds : List (D × D)} (S : St f Γ s) (hA : f.A.handled = none) (hi : Ev f.toCx s iter f.ok (.list (ds.map fun q => .tup [q.1, q.2]))) (hx : Storable f x) (hy : Storable f y) (Gm : σ → List (Str × Ent)) (R : Nat → σ → Prop) (a₀ : σ) (h0 : Sub Γ (Gm a₀)) (hR : R 0 a₀)
    (turn : ∀ i a d I p s', ds[i]? = some d → R i a → St (f.inl I p) ((y, .val d.2) :: (x, .val d.1) :: Gm a) s' → Wx (f.inl I p) body (fun fl s'' => match fl with
      | .next | .cont => ∃ a', R (i + 1) a' ∧ St (f.inl I p) (Gm a') s''
      | .brk => False
      | .ret v => Q (.ret v) s'') s')
    (done : ∀ a s', R ds.length a → St f (Gm a) s' → Wx f rest Q s') (hs : ∀ x, foldedSetIterable iter f.env x = pure x := by intro _; rfl) : Wx f (.For (.Tuple [.Name x px, .Name y py] tk pt) iter body [] pos :: rest) Q s := by
  refine w_of (wpAny_For (wpAny_mono (hi s (Kp.refl _)) (fun v s₁ h₁ => ?_) fun _ _ h => h) hs)
  obtain ⟨k, iv⟩ := h₁
  cases iv with
  | list hok hl ha =>
    rename_i ax vs
    have S₁ := S.keep k
    obtain ⟨S₂, i1, i2, i3, i4, i5⟩ := S₁.start (o := { cls := .type "list_iterator", data := .fields #[.ref ax, .int 0 0] }) rfl rfl
    obtain ⟨ol, hol, hol'⟩ := id hl
    have hax : ax ≠ s₁.heap.objs.size := Nat.ne_of_lt (Heap.lt_size hol)
    refine wpAny_pyIter_list hl ?_
    have W := Walks.list (prog := Prg) (w := f.w) (A := f.A) hA s₁.heap.objs.size ax hax vs.toArray
    have hn : vs.toArray.size = ds.length := by rw [List.size_toArray, ha.length, List.length_map]
    have item : ∀ {i : Nat} {v : Value}, vs[i]? = some v → ∃ q, ds[i]? = some q ∧ Is s₁.heap f.ok v (.tup [q.1, q.2]) := fun {i v} hv => by
      obtain ⟨d, hd, id⟩ := ha.getv hv
      rw [List.getElem?_map] at hd
      cases hq : ds[i]? with
      | none => rw [hq] at hd; cases hd
      | some q => rw [hq] at hd; cases hd; exact ⟨q, rfl, id⟩
    refine for_core Gm (fun i a => match ds[i]? with | some d => (y, .val d.2) :: (x, .val d.1) :: Gm a | none => []) R a₀ W ⟨⟨_, Heap.get?_push_size _ rfl, rfl, rfl⟩, isList_mono (fun o e => Heap.get?_push_of_some _ e) hl⟩ (fun i h st => let ⟨o, ho, _⟩ := st.1; ⟨o, ho⟩) i1 i2 i3 S.ip ?_ i4 (fun x a hx => (S.ce x a hx).1) (S₂.sub' h0) hR ?_ ?_ ?_ ?_
    · intro b hb hbI
      rcases List.mem_cons.mp hb with h | h
      · exact absurd h hbI
      · rw [List.mem_singleton.mp h]
        exact ⟨hok.1, ol, Heap.get?_push_of_some _ hol⟩
    · intro i v s Q E hst hP hq
      have hv : vs[i]? = some v := by simpa using hP
      obtain ⟨q, _, iq⟩ := item hv
      cases iq with
      | tup _ _ _ => exact wpAny_letOwnedTupleGo_listiter hst.1 hq
    · intro i a v p s' hlt hP S' up Q' hQ
      have hv : vs[i]? = some v := by simpa using hP
      obtain ⟨q, hq, iq⟩ := item hv
      have iq' : Is s'.heap (f.inl s₁.heap.objs.size p).ok v (.tup [q.1, q.2]) := inl_is iq i5 (fun a o e => Heap.get?_push_of_some _ e) up
      cases iq' with
      | tup hok' ht ha' =>
        rename_i t us
        cases ha' with
        | cons ia r =>
          cases r with
          | cons ib r =>
            cases r
            rename_i va vb
            refine wpAny_assign_Tuple hA ht rfl rfl fun h' he => ?_
            have kk : Kp s' { s' with heap := h' } := Kp.heap s' fun b o e => he b o (Nat.ne_of_lt (Heap.lt_size e)) e
            have S'' := S'.keep kk
            refine wpAny_bind (wpAny_holding (wpAny_assign_Name (wp_store' (f := f.inl s₁.heap.objs.size p) S'' hx (e := .val q.1) (ia.keep kk.kp) fun s₃ S₃ up₃ _ => ?_)))
            refine wpAny_bind (wpAny_holding (wpAny_assign_Name (wp_store (f := f.inl s₁.heap.objs.size p) S₃ hy (e := .val q.2) ?_ fun s₄ S₄ => wpAny_pure (hQ s₄ ?_))))
            · exact (ib.keep kk.kp).mono fun a o h1 h2 => ⟨h1, up₃ a o h1.1 h2⟩
            · simp only [hq]
              exact S₄
    · intro i a p s' hlt hRa S'
      rw [hn] at hlt
      have hd : ds[i]? = some ds[i] := List.getElem?_eq_getElem hlt
      simp only [hd] at S'
      exact turn i a _ _ p s' hd hRa S'
    · rw [hn]; exact done
end
end Mine

/- M6 -/
namespace Mine

theorem glo {c : Cx} {sc : Scope} {x : Str} (h : c.env.scope = sc) (h' : sc.names.lookup x = some .globalImplicit) : c.env.kindOf x = some .globalImplicit := by show c.env.scope.names.lookup x = _; rw [h]; exact h'

section
variable {f : Fx} {Γ Δ : List (Str × Ent)} {s s' : Shared} {pos p : Pos} {args : List Expr} {ds : List D} {r : D}

theorem ld_glob {x : Str} {v : Value} {Q : Value → Shared → Prop} (S : St f Γ s) (hx : f.env.kindOf x = some .globalImplicit) (hg : nsIn (KK f.w) mainGlobals x = some (some v)) (h : Q v s) (hd : (x == ("__debug__" : Str)) = false := by decide) :
    wpAny (Mo f.w) f.A (eval (.Name x p) f.env) Q NoE s := by
  obtain ⟨mg, hn⟩ := S.gr'.g
  refine Calls.Name_function_global S.en.fn hx (Calls.loadGlobal_global (env := f.env) (mg := mg) ?_ (mg_of S.gr'.kin hn hg) h) hd
  rw [S.en.gl]; exact hn
theorem ld_built {x : Str} {v : Value} {Q : Value → Shared → Prop} (S : St f Γ s) (hx : f.env.kindOf x = some .globalImplicit) (hg : nsIn (KK f.w) mainGlobals x = some none) (hb : bootBuiltins x = some v) (h : Q v s) (hn' : x ≠ "__name__" := by decide) (hd : (x == ("__debug__" : Str)) = false := by decide) :
    wpAny (Mo f.w) f.A (eval (.Name x p) f.env) Q NoE s := by
  obtain ⟨mg, hn⟩ := S.gr'.g
  obtain ⟨mb, hmb, hmb'⟩ := S.gr'.b
  refine Calls.Name_function_global S.en.fn hx (Calls.loadGlobal_builtin (env := f.env) (mg := mg) (mb := mb) ?_ (mg_none_of S.gr'.kin hn hg) ?_ ((hmb' x hn').trans hb) h) hd
  · rw [S.en.gl]; exact hn
  · rw [S.en.bi]; exact hmb

/-- a call of a def of the text by its name -/
theorem ev_call {g : Str} {a : Addr} {k : Nat} {e : Expr} (S : St f Γ s) (hx : f.env.kindOf g = some .globalImplicit) (hg : nsIn (KK f.w) mainGlobals g = some (some (.ref a))) (hf : keepIn (KK f.w) (.ref a) = true) (hA : Lv f.A k) (hs : Spec f.w k a ds r)
    (ha : Evs f.toCx s pos (e :: args) Any ds) (he : starEach (e :: args) f.env = (false, eval e f.env) :: starEach args f.env := by rfl) (hp : (backTo pos (starEach args f.env)).any (·.1) = false := by rfl) (hd : (g == ("__debug__" : Str)) = false := by decide)
    (hev : eval (.Call (.Name g p) (e :: args) [] pos) f.env = (do callWith pos (← eval (.Name g p) f.env) [] (backTo pos (starEach (e :: args) f.env)) (backToKw pos (keywordEach [] f.env))) := by rfl) :
    Ev f.toCx s (.Call (.Name g p) (e :: args) [] pos) f.okN r := fun s₁ k₁ => by
  refine Call_ (ld_glob (S.keep k₁) hx hg ?_ hd) hev
  refine callWith_K (K := KK f.w) (env := f.env) (S.keep k₁).gr'.kin hf (wpAny_mono (ha s₁ k₁) (fun vs s₂ h₂ => ?_) fun _ _ h => h) he hp
  have S₂ := S.keep (k₁.trans h₂.1)
  refine ⟨S₂.gr'.kin, wpAny_mono (hs f.A s₂ vs S₂.gr' hA h₂.2) (fun v s₃ h₃ => ⟨h₂.1.trans h₃.1, h₃.2.weak fun a ha => S₂.fresh ha⟩) fun _ _ h => h⟩
end
end Mine

/- M7 -/
namespace Mine

theorem letTemp_str (e : Expr) (x : Str) (t : Tok) (r : Value) : letTemporaryGo e (.str x t) r = pure () := by cases e <;> rfl

section
variable {c : Cx} {s : Shared} {ok ok₁ ok₂ : Addr → Prop} {d d' : D} {e e₁ e₂ e₃ : Expr} {pos p : Pos} {i j : Int} {x y : Str}

theorem ev_titem {ds : List D} (a : Ev c s e₁ ok (.tup ds)) (b : Ev c s e₂ Any (.int i)) (h0 : 0 ≤ i) (h1 : i < 1000000) (hd : ds[i.toNat]? = some d)
    (hs : ∀ l t, subscripted e₂ false (.ref l) (.int i t) = operate [.ref l, .int i t] (getItem (.ref l) (.int i t)) := by intro _ _; with_unfolding_all rfl) : Ev c s (.Subscript e₁ e₂ pos) ok d := fun s' k =>
  Subscript_ (wpAny_mono (a s' k) (fun v s₁ h₁ => wpAny_mono (b s₁ (k.trans h₁.1)) (fun u s₂ h₂ => by
    obtain ⟨h₁, i₁⟩ := h₁
    obtain ⟨h₂, i₂⟩ := h₂
    cases i₂
    cases i₁ with
    | tup p q r =>
      rename_i l vs
      obtain ⟨v, hv, hi⟩ := r.get hd
      have q' := isTuple_mono (h₂.kp _) q
      have hlt := (List.getElem?_eq_some_iff.mp hv).1
      refine item_tupleT q' (by omega) (by omega) (j := i.toNat) ?_ hv ⟨h₁.trans h₂, hi.keep h₂.kp⟩ (hs _ _)
      have hn : ¬ i < 0 := by omega
      have hl : i < (vs.length : Int) := by omega
      simp only [seqIndex?, hn, if_false, h0, hl, decide_true, Bool.and_self, if_true]) fun _ _ h => h) fun _ _ h => h)

theorem ev_neg (a : Ev c s e Any (.int i)) : Ev c s (.UnaryOp .USub e pos) ok (.int (-i)) := fun s' k =>
  UnaryOp_ (wpAny_mono (a s' k) (fun v s₁ h₁ => by
    obtain ⟨h₁, i₁⟩ := h₁
    cases i₁
    exact neg_int ⟨h₁.trans (Kp.toks _ _), .int _ _⟩) fun _ _ h => h)

theorem ev_sitem (a : Ev c s e₁ Any (.str x)) (b : Ev c s e₂ Any (.int i)) (h0 : -(x.length : Int) ≤ i) (h1 : i < x.length) (h2 : -1000000 ≤ i) (h3 : i < 1000000)
    (hs : ∀ t u, subscripted e₂ false (.str x t) (.int i u) = operate [.str x t, .int i u] (getItem (.str x t) (.int i u)) := by intro _ _; with_unfolding_all rfl) : Ev c s (.Subscript e₁ e₂ pos) ok (.str (Txt.item x i)) := fun s' k =>
  Subscript_ (wpAny_mono (a s' k) (fun v s₁ h₁ => wpAny_mono (b s₁ (k.trans h₁.1)) (fun u s₂ h₂ => by
    obtain ⟨h₁, i₁⟩ := h₁
    obtain ⟨h₂, i₂⟩ := h₂
    cases i₁
    cases i₂
    exact item_str (fitsSsize_of (N := 9223372036854775808) (by omega) (by omega) (Int.le_refl _)) h0 h1 (fun _ => ⟨(h₁.trans h₂).trans (Kp.toks _ _), .str _ _⟩) (hs _ _) (letTemp_str _ _ _)) fun _ _ h => h) fun _ _ h => h)

theorem keptPush (h₀ : Heap) : KeptH (fun h => ∀ b o, h₀.get? b = some o → h.get? b = some o) := fun h ob k b o e => Heap.get?_push_of_some _ (k b o e)

theorem ev_slice_ns (a : Ev c s e₁ Any (.str x)) (b : Ev c s e₂ Any (.int j)) (hz : x.length ≤ 16777216) : Ev c s (.Subscript e₁ (.Slice none (some e₂) none p) pos) ok (.str (Txt.slice x none (some j))) := fun s' k =>
  Subscript_ (wpAny_mono (a s' k) (fun v s₁ h₁ => wpAny_Slice (wpAny_pure (wpAny_mono (b s₁ (k.trans h₁.1)) (fun u s₂ h₂ => wpAny_pure (by
    obtain ⟨h₁, i₁⟩ := h₁
    obtain ⟨h₂, i₂⟩ := h₂
    cases i₁
    cases i₂
    have hk := h₁.trans h₂
    refine with_tok (tail_of_ItemOn (SBH.sliceItem_ns (keptPush s₂.heap) (fun _ _ e => e) (fun h' t' tk hp ht => ⟨hk.trans ⟨⟨h', tk, rfl, hp⟩, ht⟩, .str _ _⟩) (by rw [sizeLine_eq]; exact hz)) rfl (letTemp_str _ _ _)))) fun _ _ h => h))) fun _ _ h => h)
theorem ev_slice_sn (a : Ev c s e₁ Any (.str x)) (b : Ev c s e₂ Any (.int j)) (hz : x.length ≤ 16777216) : Ev c s (.Subscript e₁ (.Slice (some e₂) none none p) pos) ok (.str (Txt.slice x (some j) none)) := fun s' k =>
  Subscript_ (wpAny_mono (a s' k) (fun v s₁ h₁ => wpAny_Slice (wpAny_mono (b s₁ (k.trans h₁.1)) (fun u s₂ h₂ => wpAny_pure (wpAny_pure (by
    obtain ⟨h₁, i₁⟩ := h₁
    obtain ⟨h₂, i₂⟩ := h₂
    cases i₁
    cases i₂
    have hk := h₁.trans h₂
    refine with_tok (tail_of_ItemOn (SBH.sliceItem_sn (keptPush s₂.heap) (fun _ _ e => e) (fun h' t' tk hp ht => ⟨hk.trans ⟨⟨h', tk, rfl, hp⟩, ht⟩, .str _ _⟩) (by rw [sizeLine_eq]; exact hz)) rfl (letTemp_str _ _ _))))) fun _ _ h => h)) fun _ _ h => h)
theorem ev_slice_ss (a : Ev c s e₁ Any (.str x)) (b : Ev c s e₂ Any (.int i)) (b' : Ev c s e₃ Any (.int j)) (hz : x.length ≤ 16777216) : Ev c s (.Subscript e₁ (.Slice (some e₂) (some e₃) none p) pos) ok (.str (Txt.slice x (some i) (some j))) := fun s' k =>
  Subscript_ (wpAny_mono (a s' k) (fun v s₁ h₁ => wpAny_Slice (wpAny_mono (b s₁ (k.trans h₁.1)) (fun u s₂ h₂ => wpAny_mono (b' s₂ (k.trans (h₁.1.trans h₂.1))) (fun u' s₃ h₃ => wpAny_pure (by
    obtain ⟨h₁, i₁⟩ := h₁
    obtain ⟨h₂, i₂⟩ := h₂
    obtain ⟨h₃, i₃⟩ := h₃
    cases i₁
    cases i₂
    cases i₃
    have hk := (h₁.trans h₂).trans h₃
    refine with_tok (tail_of_ItemOn (SBH.sliceItem_ss (keptPush s₃.heap) (fun _ _ e => e) (fun h' t' tk hp ht => ⟨hk.trans ⟨⟨h', tk, rfl, hp⟩, ht⟩, .str _ _⟩) (by rw [sizeLine_eq]; exact hz)) rfl (letTemp_str _ _ _)))) fun _ _ h => h) fun _ _ h => h)) fun _ _ h => h)

theorem ev_lslice {ds : List D} (a : Ev c s e₁ ok (.list ds)) (b : Ev c s e₂ Any (.int j)) (hf : ∀ a, s.heap.get? a = none → ok a) (h0 : 0 ≤ j) (hz : ds.length ≤ 16777216) : Ev c s (.Subscript e₁ (.Slice none (some e₂) none p) pos) ok (.list (ds.take j.toNat)) := fun s' k =>
  Subscript_ (wpAny_mono (a s' k) (fun v s₁ h₁ => wpAny_Slice (wpAny_pure (wpAny_mono (b s₁ (k.trans h₁.1)) (fun u s₂ h₂ => wpAny_pure (by
    obtain ⟨h₁, i₁⟩ := h₁
    obtain ⟨h₂, i₂⟩ := h₂
    cases i₂ with
    | int _ tj =>
    cases i₁ with
    | list q1 q2 q3 =>
      rename_i l vs
      have hk := h₁.trans h₂
      have q2' := isList_mono (h₂.kp _) q2
      have q2'' : (s₂.heap.push { cls := .type "slice", data := .fields #[.none, .int j tj, .none] }).IsList l vs.toArray := isList_mono (fun o e => Heap.get?_push_of_some _ e) q2'
      have hlen : vs.toArray.size ≤ 16777216 := by rw [List.size_toArray, q3.length]; exact hz
      refine tail_any (Heap.IsList.typeIs (s := { s₂ with heap := _ }) q2'') slot_list_getitem.lookup (wpAny_getItem_list_slice (lo := none) (hi := some j) (st := none) q2'' ⟨_, Heap.get?_push_size _ rfl, rfl, rfl⟩ .none (.int _ _) .none (by simp) ?_ (by rw [sizeLine_eq]; exact hlen)) rfl
      have e : slicePick vs.toArray none (some j) none = (vs.take j.toNat).toArray := by
        have e : sliceBounds none (some j) none vs.toArray.size = (((0 : Nat) : Int), ((min j.toNat vs.toArray.size : Nat) : Int), 1) := by
          simp only [sliceBounds, Option.getD_none, show (1 : Int) > 0 by decide, if_true, if_neg (show ¬ (j < 0) by omega)]
          congr 2
          omega
        rw [kmk_pick_nat _ e]
        simp only [List.drop_zero, Nat.sub_zero]
        congr 1
        rw [List.size_toArray, ← List.take_eq_take_min]
      rw [e]
      have kk : Kp s₂ { s₂ with heap := (s₂.heap.push { cls := .type "slice", data := .fields #[.none, .int j tj, .none] }).push { cls := .type "list", data := .seq (vs.take j.toNat).toArray } } := Kp.heap _ fun b o e => Heap.get?_push_of_some _ (Heap.get?_push_of_some _ e)
      refine ⟨hk.trans kk, .list (hf _ ?_) ⟨_, Heap.get?_push_size _ rfl, rfl, 0, rfl⟩ (((q3.keep h₂.kp).keep kk.kp).take _)⟩
      cases hq : s.heap.get? (s₂.heap.push { cls := .type "slice", data := .fields #[.none, .int j tj, .none] }).objs.size with
      | none => rfl
      | some o =>
        have := Heap.lt_size ((k.trans hk).kp _ _ hq)
        rw [Heap.size_push] at this
        exact absurd (Nat.lt_of_succ_lt this) (Nat.lt_irrefl _))) fun _ _ h => h))) fun _ _ h => h)
end
end Mine

/- M8 -/
namespace Mine

mutual
def D.py : D → PyData
  | .none => .none
  | .bool b => .bool b
  | .int i => .int i
  | .str x => .str x
  | .tup ds => .tuple (D.pys ds)
  | .list ds => .list (D.pys ds)
  | .mgr => .none
def D.pys : List D → List PyData
  | [] => []
  | d :: ds => d.py :: D.pys ds
end
mutual
def D.noMgr : D → Bool
  | .mgr => false
  | .tup ds => D.noMgrs ds
  | .list ds => D.noMgrs ds
  | _ => true
def D.noMgrs : List D → Bool
  | [] => true
  | d :: ds => d.noMgr && D.noMgrs ds
end
mutual
theorem Is.reads {h : Heap} {ok : Addr → Prop} : ∀ {v : Value} {d : D}, Is h ok v d → d.noMgr = true → ∃ as, Reads h v d.py as
  | _, _, .none, _ => ⟨_, Reads.none⟩
  | _, _, .bool b, _ => ⟨_, Reads.bool b⟩
  | _, _, .int i t, _ => ⟨_, Reads.int i t⟩
  | _, _, .str x t, _ => ⟨_, Reads.str x t⟩
  | _, _, .tup _ b c, hm => by
    obtain ⟨o, ho, hc, n, hd⟩ := b
    obtain ⟨as, q⟩ := Are.reads c (by simpa [D.noMgr] using hm)
    rw [D.py]
    exact ⟨as, reads_tuple_at ho hc hd (by simpa using q)⟩
  | _, _, .list _ b c, hm => by
    obtain ⟨o, ho, hc, n, hd⟩ := b
    obtain ⟨as, q⟩ := Are.reads c (by simpa [D.noMgr] using hm)
    rw [D.py]
    exact ⟨_, reads_list_at ho hc hd (by simpa using q)⟩
  | _, _, .mgr _, hm => by simp [D.noMgr] at hm
theorem Are.reads {h : Heap} {ok : Addr → Prop} : ∀ {vs : List Value} {ds : List D}, Are h ok vs ds → D.noMgrs ds = true → ∃ as, ReadsAll h vs (D.pys ds) as
  | _, _, .nil, _ => ⟨_, ReadsAll.nil⟩
  | _, _, .cons a b, hm => by
    rw [D.noMgrs, Bool.and_eq_true] at hm
    have hm' := hm
    obtain ⟨as, q⟩ := Is.reads a hm'.1
    obtain ⟨bs, p⟩ := Are.reads b hm'.2
    rw [D.pys]
    exact ⟨_, ReadsAll.cons q p⟩
end

/-- can be compared -/
structure Fit (d : D) : Prop where
  m : d.noMgr = true
  f : SeqAt.shaped d.py = true

section
variable {c : Cx} {s : Shared} {ok ok₁ ok₂ : Addr → Prop} {d d' : D} {e e₁ e₂ e₃ : Expr} {pos p : Pos} {i j : Int} {x y : Str}

theorem tr_deq {k : Nat} (hA : Lv c.A k) (a : Ev c s e₁ Any d) (b : Ev c s e₂ Any d') (h1 : Fit d) (h2 : Fit d') (hm : behindInMarks .Eq e₂ = false := by rfl) : Tr c s (.Compare e₁ [.Eq] [e₂] pos) (PyData.eqv d.py d'.py) :=
  ev_cmp a b (fun s₁ v₁ v₂ i₁ i₂ _ => by
    obtain ⟨as, r1⟩ := i₁.reads h1.m
    obtain ⟨bs, r2⟩ := i₂.reads h2.m
    exact eq_dataH r1 r2 h1.f h2.f (by have := hA.un; rw [cLine_is]; omega) ⟨Kp.refl _, rfl⟩) hm
theorem tr_dne {k : Nat} (hA : Lv c.A k) (a : Ev c s e₁ Any d) (b : Ev c s e₂ Any d') (h1 : Fit d) (h2 : Fit d') (hm : behindInMarks .NotEq e₂ = false := by rfl) : Tr c s (.Compare e₁ [.NotEq] [e₂] pos) (!PyData.eqv d.py d'.py) :=
  ev_cmp a b (fun s₁ v₁ v₂ i₁ i₂ _ => by
    obtain ⟨as, r1⟩ := i₁.reads h1.m
    obtain ⟨bs, r2⟩ := i₂.reads h2.m
    exact ne_dataH r1 r2 h1.f h2.f (by have := hA.un; rw [cLine_is]; omega) ⟨Kp.refl _, rfl⟩) hm

/-- methods of texts -/
theorem ev_meth {name : Str} {id : String} {apos : Pos} {pl : Sem Bool} {args : List Expr} (o : Ev c s e Any (.str x))
    (hg : ∀ (s' : Shared) t (Q : Value × List Value → Shared → Prop), Q (.builtin id, [.str x t]) s' → wpAny (Mo c.w) c.A (getMethod (.str x t) name pl) Q NoE s')
    (h : ∀ s' t, Kp s s' → wpAny (Mo c.w) c.A (callWith pos (.builtin id) [.str x t] (backTo pos (starEach args c.env)) []) (fun v s'' => Kp s' s'' ∧ Is s''.heap ok v d) NoE s')
    (he : eval (.Call (.Attribute e name apos) args [] pos) c.env = (do let ov ← eval e c.env; standAt apos.atName; let (f, first) ← holding [ov] (getMethod ov name pl); callWith pos f first (backTo pos (starEach args c.env)) [])) :
    Ev c s (.Call (.Attribute e name apos) args [] pos) ok d := fun s' k =>
  MethodCall_ (wpAny_mono (o s' k) (fun v s₁ h₁ => by
    obtain ⟨h₁, i₁⟩ := h₁
    cases i₁
    exact hg _ _ _ (wpAny_mono (h s₁ _ (k.trans h₁)) (fun r s₂ h₂ => ⟨h₁.trans h₂.1, h₂.2⟩) fun _ _ h => h)) fun _ _ h => h) he

theorem ev_startswith {apos : Pos} {pl : Sem Bool} (o : Ev c s e Any (.str x)) (a : Ev c s e₁ Any (.str y))
    (he : eval (.Call (.Attribute e "startswith" apos) [e₁] [] pos) c.env = (do let ov ← eval e c.env; standAt apos.atName; let (f, first) ← holding [ov] (getMethod ov "startswith" pl); callWith pos f first (backTo pos (starEach [e₁] c.env)) []))
    (hs : starEach [e₁] c.env = [(false, eval e₁ c.env)] := by rfl) : Ev c s (.Call (.Attribute e "startswith" apos) [e₁] [] pos) ok (.bool (Txt.startswith x y)) :=
  ev_meth o (fun s' t Q h => GM.startswith h) (fun s' t k => by
    rw [hs]
    refine Calls.callWith_builtin rfl (Calls.evalArgs_plain (Calls.spliced_cons (wpAny_mono (a s' k) (fun v s₁ h₁ => Calls.spliced_nil ?_) fun _ _ h => h)))
    obtain ⟨h₁, i₁⟩ := h₁
    cases i₁
    exact SC.startswith ⟨h₁, .bool _⟩) he

theorem ev_strip {apos : Pos} {pl : Sem Bool} (o : Ev c s e Any (.str x)) (hz : x.length ≤ 16777216)
    (he : eval (.Call (.Attribute e "strip" apos) [] [] pos) c.env = (do let ov ← eval e c.env; standAt apos.atName; let (f, first) ← holding [ov] (getMethod ov "strip" pl); callWith pos f first (backTo pos (starEach [] c.env)) [])) : Ev c s (.Call (.Attribute e "strip" apos) [] [] pos) ok (.str (Txt.strip x)) :=
  ev_meth o (fun s' t Q h => GM.strip h) (fun s' t k => by
    refine Calls.callWith_builtin rfl (evalArgs_nil3 ?_)
    exact wkp (SC.strip (fun t' tk => ⟨⟨_, tk, rfl, fun _ _ e => e⟩, .str _ _⟩) (by rw [sizeLine_eq]; exact hz))) he

/-- replace by two written texts -/
theorem ev_replace {f : Fx} {Γ : List (Str × Ent)} {apos p₁ p₂ : Pos} {k₁ k₂ : Nat} {pl : Sem Bool} {y z : Str} (S : St f Γ s) (htp : f.tp = true) (o : Ev f.toCx s e Any (.str x)) (hyz : (y == z) = false) (hz : z.length ≤ 14) (hx : x.length ≤ 1048576)
    (he : eval (.Call (.Attribute e "replace" apos) [.Constant (.str y) k₁ p₁, .Constant (.str z) k₂ p₂] [] pos) f.env = (do let ov ← eval e f.env; standAt apos.atName; let (f', first) ← holding [ov] (getMethod ov "replace" pl); callWith pos f' first (backTo pos (starEach [.Constant (.str y) k₁ p₁, .Constant (.str z) k₂ p₂] f.env)) [])) :
    Ev f.toCx s (.Call (.Attribute e "replace" apos) [.Constant (.str y) k₁ p₁, .Constant (.str z) k₂ p₂] [] pos) ok (.str (Txt.replace x y z)) :=
  ev_meth o (fun s' t Q h => GM.replace h) (fun s' t k => by
    have ht : 1 ≤ s'.toks := k.2 (S.tk htp)
    refine Calls.callWith_builtin rfl (Calls.evalArgs_plain (Calls.spliced_cons (wpAny_mkText (Calls.spliced_cons (wpAny_mkText (Calls.spliced_nil ?_))))))
    refine with_tok (SC.replaceW (u := s'.toks) (v := s'.toks + 1) (Nat.ne_of_gt ht) (Nat.succ_ne_zero _) (Nat.ne_of_lt (Nat.lt_succ_self _)) hyz hx hz fun t' tk htk => ⟨⟨⟨_, tk, rfl, fun _ _ e => e⟩, fun h => htk (by show 1 ≤ s'.toks + 1 + 1; omega)⟩, .str _ _⟩)) he
end

section
variable {f : Fx} {Γ Δ : List (Str × Ent)} {s s' : Shared} {Q : Flow → Shared → Prop} {rest : List Stmt} {e : Expr}
theorem w_augS {x : Str} {p pos : Pos} {X Y : Str} (S : St f Γ s) (hx : Storable f x) (hX : Γ.lookup x = some (.val (.str X))) (he : Ev f.toCx s e Any (.str Y)) (hz : X.length + Y.length ≤ 16777216) (h : ∀ s', St f ((x, .val (.str (X ++ Y))) :: Γ) s' → Wx f rest Q s') :
    Wx f (.AugAssign (.Name x p) .Add e pos :: rest) Q s := by
  obtain ⟨m, hn, hl⟩ := S.ns
  obtain ⟨v, V, i⟩ := hl x _ hX
  refine w_of (wpAny_AugAssign_Name (var_load S.en hn V (wpAny_mono (he s (Kp.refl _)) (fun u s₁ h₁ => ?_) fun _ _ h => h)))
  obtain ⟨h₁, i₁⟩ := h₁
  cases i
  cases i₁
  exact with_tok (SB.iadd (fun t' tk htk => wp_store (S.keep (h₁.trans ⟨⟨_, tk, rfl, fun _ _ e => e⟩, htk⟩)) hx (e := .val (.str (X ++ Y))) (.str _ _) fun s' S' => h s' S') (by rw [sizeLine_eq]; exact hz))

/-- of two texts -/
theorem fit_str {x : Str} (h : PyData.strOk x = true) : Fit (.str x) := ⟨rfl, by simp [SeqAt.shaped, D.py, PyData.canLay0, PyData.depth, h]⟩
theorem fit_pair {x y : Str} (h : PyData.strOk x = true) (h' : PyData.strOk y = true) : Fit (.tup [.str x, .str y]) := ⟨rfl, by simp [SeqAt.shaped, D.py, D.pys, PyData.canLay0, PyData.canLayAll0, PyData.depth, PyData.depthAll, h, h']⟩
theorem eqv_pair (x y x' y' : Str) : PyData.eqv (D.tup [.str x, .str y]).py (D.tup [.str x', .str y']).py = (x == x' && y == y') := by simp [D.py, D.pys, PyData.eqv, PyData.eqvAll]
end
end Mine

/- M9 -/
namespace Mine
section
variable {f : Fx} {Γ Δ : List (Str × Ent)} {s s' : Shared} {pos p : Pos} {args : List Expr} {ds : List D} {r : D} {e e₁ : Expr}

/-- manager.is_suburi(..) -/
theorem ev_suburi {k : Nat} {apos : Pos} {pl : Sem Bool} (S : St f Γ s) (hA : Lv f.A k) (o : Ev f.toCx s e Any .mgr) (hs : Spec f.w k 64 (.mgr :: ds) r) (ha : Evs f.toCx s pos (e₁ :: args) Any ds)
    (hev : eval (.Call (.Attribute e "is_suburi" apos) (e₁ :: args) [] pos) f.env = (do let ov ← eval e f.env; standAt apos.atName; let (f', first) ← holding [ov] (getMethod ov "is_suburi" pl); callWith pos f' first (backTo pos (starEach (e₁ :: args) f.env)) []))
    (he : starEach (e₁ :: args) f.env = (false, eval e₁ f.env) :: starEach args f.env := by rfl) (hp : (backTo pos (starEach args f.env)).any (·.1) = false := by rfl) :
    Ev f.toCx s (.Call (.Attribute e "is_suburi" apos) (e₁ :: args) [] pos) f.okN r := fun s₁ k₁ => by
  refine MethodCall_ (wpAny_mono (o s₁ k₁) (fun v s₂ h₂ => ?_) fun _ _ h => h) hev
  obtain ⟨k₂, i₂⟩ := h₂
  cases i₂ with
  | mgr I =>
    have S₂ := S.keep (k₁.trans k₂)
    obtain ⟨dx, es, n, sl, h1, h2, h3, h4, h5⟩ := id I
    have X := S₂.gr'.kin
    refine method_fn (K := KK f.w) (C := 67) (f := 64) (od := some (dictOf es n)) X (⟨h3, rfl, rfl, h4⟩ : InstAt s₂.heap _ _ 67 (some (dictOf es n))) rfl rfl rfl rfl ?_ ?_
    · show (lookIn "is_suburi" (dictOf es n)).map _ = _
      rw [lookIn_dict, h5]; rfl
    · refine callWith_K (K := KK f.w) (env := f.env) X rfl (wpAny_mono (ha s₂ (k₁.trans k₂)) (fun vs s₃ h₃ => ?_) fun _ _ h => h) he hp
      have S₃ := S₂.keep h₃.1
      refine ⟨S₃.gr'.kin, wpAny_mono (hs f.A s₃ _ S₃.gr' hA (.cons (Is.keep (.mgr I) h₃.1.kp) h₃.2)) (fun v s₄ h₄ => ⟨(k₂.trans h₃.1).trans h₄.1, h₄.2.weak fun a ha => S₃.fresh ha⟩) fun _ _ h => h⟩
end

/-- the frame with one more object that it changes -/
abbrev Fx.plus (f : Fx) (r : Addr) : Fx := { f with mu := r :: f.mu }

section
variable {f : Fx} {Γ Δ : List (Str × Ent)} {s s' : Shared} {Q : Flow → Shared → Prop} {rest : List Stmt} {e : Expr} {d : D}

theorem EntIs.plus {r : Addr} {h h' : Heap} {m : Str → Option Value} {x : Str} {en : Ent} (E : EntIs f h m x en) (hk : ∀ a o, h.get? a = some o → a ≠ r ∧ h'.get? a = some o) : EntIs (f.plus r) h' m x en := by
  have h1 : ∀ a o, f.ok a → h.get? a = some o → (f.plus r).ok a ∧ h'.get? a = some o := fun a o p q => ⟨⟨fun hm => (List.mem_cons.mp hm).elim (hk a o q).1 p.1, p.2⟩, (hk a o q).2⟩
  have h2 : ∀ a o, f.okN a → h.get? a = some o → (f.plus r).okN a ∧ h'.get? a = some o := fun a o p q => ⟨⟨(h1 a o p.1 q).1, p.2⟩, (hk a o q).2⟩
  have hV : ∀ v, VarIs f.toCx h m x v → VarIs f.toCx h' m x v := fun v V => V.keep fun a o q => (hk a o q).2
  cases en with
  | val d => obtain ⟨v, a, b⟩ := E; exact ⟨v, hV v a, b.mono h1⟩
  | new d => obtain ⟨v, a, b⟩ := E; exact ⟨v, hV v a, b.mono h2⟩
  | own q o =>
    obtain ⟨a, b, c⟩ := E
    refine ⟨hV _ a, ⟨List.mem_cons_of_mem _ b.1, b.2⟩, ?_⟩
    cases o with
    | list ds => obtain ⟨vs, p, q⟩ := c; exact ⟨vs, p.at (fun o e => (hk _ o e).2), q.mono h2⟩
    | dict ps => exact IsDict.mono c fun o e => (hk _ o e).2

theorem St.plus {o : Obj} (S : St f Γ s) (ho : o.isFreed = false) : St (f.plus s.heap.objs.size) Γ { s with heap := s.heap.push o } := by
  have hn : s.heap.get? s.heap.objs.size = none := by
    cases hq : s.heap.get? s.heap.objs.size with
    | none => rfl
    | some o => exact absurd (Heap.lt_size hq) (Nat.lt_irrefl _)
  have hf := S.fresh hn
  have hk : ∀ a o', s.heap.get? a = some o' → a ≠ s.heap.objs.size ∧ (s.heap.push o).get? a = some o' := fun a o' q => ⟨Nat.ne_of_lt (Heap.lt_size q), Heap.get?_push_of_some _ q⟩
  obtain ⟨en, gr, kp, lo, ce, ci, cs, al, nb, pn, ip, tk, m, hm, hl⟩ := S
  refine ⟨en, gr, kp.trans (Kp.push _ _), List.mem_cons_of_mem _ lo, fun x a hx => ⟨(ce x a hx).1.imp (List.mem_cons_of_mem _) id, (ce x a hx).2⟩, ci, fun x a hx => (let ⟨v, o', h1, h2⟩ := cs x a hx; ⟨v, o', (hk _ _ h1).2, h2⟩), ?_, ?_, ?_, ip, tk, m, hm.push _, fun x e hx => (hl x e hx).plus hk⟩
  · intro a ha
    rcases List.mem_cons.mp ha with rfl | ha
    · exact ⟨o, Heap.get?_push_size _ ho⟩
    · obtain ⟨o', h'⟩ := al a ha
      exact ⟨o', (hk _ _ h').2⟩
  · intro a ha
    rcases List.mem_cons.mp ha with rfl | ha
    · exact hf.2
    · exact nb a ha
  · intro a o' hp
    exact ⟨(hk _ _ (pn a o' hp).1).2, fun hm => (List.mem_cons.mp hm).elim (hk _ _ (pn a o' hp).1).1 (pn a o' hp).2⟩

theorem St.apart (S : St f Γ s) : s.heap.objs.size ≠ f.env.locals ∧ ∀ y, f.env.cells.lookup y ≠ some s.heap.objs.size := by
  refine ⟨fun h => ?_, fun y hy => ?_⟩
  · obtain ⟨o, ho⟩ := S.al _ S.lo
    exact absurd (Heap.lt_size ho) (h ▸ Nat.lt_irrefl _)
  · rcases (S.ce y _ hy).1 with h | ⟨o, h⟩
    · obtain ⟨o, ho⟩ := S.al _ h
      exact absurd (Heap.lt_size ho) (Nat.lt_irrefl _)
    · exact absurd (Heap.lt_size (S.pn _ _ h).1) (Nat.lt_irrefl _)

theorem Storable.plus {r : Addr} {x : Str} (h : Storable f x) : Storable (f.plus r) x := h.imp id fun ⟨a, b, c, e⟩ => ⟨a, b, c, List.mem_cons_of_mem _ e⟩

/-- x = [] -/
theorem w_newlist {x : Str} {p p' pos : Pos} (S : St f Γ s) (hx : Storable f x) (h : ∀ r s', St (f.plus r) ((x, .own r (.list [])) :: Γ) s' → Wx (f.plus r) rest Q s') : Wx f (.Assign [.Name x p] (.List [] p') pos :: rest) Q s := by
  refine w_of (wpAny_Assign_Name (List_ (spliced_none (wpAny_newObj_type ?_ (by show (0 : Nat) ≤ sizeLine; exact Nat.zero_le _)))) rfl)
  refine wp_store (f := f.plus s.heap.objs.size) (S.plus (o := { cls := .type "list", data := .seq #[] }) rfl) hx.plus (e := .own s.heap.objs.size (.list [])) ⟨rfl, ⟨List.mem_cons_self, S.apart⟩, [], ⟨0, Heap.get?_push_size _ rfl⟩, .nil⟩ fun s' S' => h _ s' S'

/-- one of the frame's own objects turned: no name is stored -/
theorem own_turn {x : Str} {r : Addr} {o o' : Own} {h' : Heap} {ob : Obj} (S : St f Γ s) (hx : Γ.lookup x = some (.own r o)) (hon : ∀ y e, Γ.lookup y = some e → y ≠ x → e.isOwn = false) (hs : ∀ b q, b ≠ r → s.heap.get? b = some q → h'.get? b = some q) (hob : h'.get? r = some ob) (ho' : OwnIs f h' r o') :
    St f ((x, .own r o') :: Γ) { s with heap := h' } := by
  obtain ⟨m, hn, hl⟩ := S.ns
  have X := hl x _ hx
  obtain ⟨V, hr, _⟩ := X
  have hV : ∀ y v, VarIs f.toCx s.heap m y v → VarIs f.toCx h' m y v := fun y v V => by
    cases V with
    | loc a b => exact .loc a b
    | cell a b d =>
      obtain ⟨q, hq, hd⟩ := d
      exact .cell a b ⟨q, hs _ _ (fun e => hr.2.2 y (e ▸ b)) hq, hd⟩
  have up : ∀ {ok : Addr → Prop}, (∀ b, ok b → f.ok b) → ∀ b q, ok b → s.heap.get? b = some q → ok b ∧ h'.get? b = some q := fun hw b q hb hq => ⟨hb, hs b q (fun e => (hw b hb).1 (e ▸ hr.1)) hq⟩
  refine S.turn (tk := s.toks) (Nat.le_refl _) hr.1 hs hob (m' := m) ?_ ?_ ?_
  · obtain ⟨oL, es, ep, h1, h2⟩ := hn
    exact ⟨oL, es, ep, hs _ _ (fun e => hr.2.1 e.symm) h1, h2⟩
  · intro z b hb
    obtain ⟨v, q, h1, h2⟩ := S.cs z b hb
    exact ⟨v, q, hs _ _ (fun e => hr.2.2 z (e ▸ hb)) h1, h2⟩
  · intro y e hy
    rcases lookup_put hy with ⟨rfl, rfl⟩ | ⟨hne, hy⟩
    · exact ⟨hV _ _ V, hr, ho'⟩
    · have hno := hon y e hy hne
      have Y := hl y e hy
      cases e with
      | val d => obtain ⟨v, a, b⟩ := Y; exact ⟨v, hV _ v a, b.mono (up fun _ x => x)⟩
      | new d => obtain ⟨v, a, b⟩ := Y; exact ⟨v, hV _ v a, b.mono (up fun _ x => x.1)⟩
      | own _ _ => cases hno

/-- no other name owns -/
def OneOwn (x : Str) : List (Str × Ent) → Bool
  | [] => true
  | (y, e) :: r => (y == x || !e.isOwn) && OneOwn x r
theorem OneOwn.all {x : Str} : ∀ {Γ : List (Str × Ent)}, OneOwn x Γ = true → ∀ y e, Γ.lookup y = some e → y ≠ x → e.isOwn = false
  | (z, e') :: r, h, y, e, hy, hne => by
    rw [OneOwn, Bool.and_eq_true] at h
    rw [List.lookup_cons] at hy
    split at hy
    · rename_i q
      cases hy
      have := beq_iff_eq.mp q
      subst this
      have h1 := h.1
      have : (y == x) = false := beq_eq_false_iff_ne.mpr hne
      rw [this, Bool.false_or] at h1
      simpa using h1
    · exact OneOwn.all h.2 y e hy hne

/-- x.append(e) -/
theorem w_append {x : Str} {p p' pos pos' : Pos} {pl : Sem Bool} {r : Addr} {ds : List D} (S : St f Γ s) (hx : Γ.lookup x = some (.own r (.list ds))) (hon : OneOwn x Γ = true) (he : Ev f.toCx s e f.okN d) (hz : ds.length ≤ 1000000)
    (h : ∀ s', St f ((x, .own r (.list (ds ++ [d]))) :: Γ) s' → Wx f rest Q s')
    (hev : eval (.Call (.Attribute (.Name x p) "append" p') [e] [] pos') f.env = (do let ov ← eval (.Name x p) f.env; standAt p'.atName; let (f', first) ← holding [ov] (getMethod ov "append" pl); callWith pos' f' first (backTo pos' (starEach [e] f.env)) []))
    (hs : starEach [e] f.env = [(false, eval e f.env)] := by rfl) (hd : (x == ("__debug__" : Str)) = false := by decide) : Wx f (.Expr (.Call (.Attribute (.Name x p) "append" p') [e] [] pos') pos :: rest) Q s := by
  refine w_of (wpAny_Expr ?_ (by unfold interactive; rw [S.en.fn]; rfl) rfl)
  obtain ⟨m, hn, hl⟩ := S.ns
  obtain ⟨V, hr, vs, ⟨n, hp⟩, ha⟩ := hl x _ hx
  refine MethodCall_ (wpAny_Name (var_load S.en hn V ?_) hd) hev
  refine Calls.getMethod_list_append hp rfl rfl ?_
  rw [hs]
  refine Calls.callWith_builtin rfl (Calls.evalArgs_plain (Calls.spliced_cons (wpAny_mono (he s (Kp.refl _)) (fun v s₁ h₁ => Calls.spliced_nil ?_) fun _ _ h => h)))
  obtain ⟨k, i⟩ := h₁
  have hlen : vs.toArray.size ≤ sizeLine := by rw [List.size_toArray, ha.length, sizeLine_eq]; omega
  refine wpAny_list_append_plain (l := r) (items := vs.toArray) ⟨n, k.kp _ _ hp⟩ (fun h' hl' hs' => h _ ?_) hlen
  obtain ⟨n', hp'⟩ := id hl'
  have S₁ := S.keep k
  have up : ∀ a o, f.okN a → s₁.heap.get? a = some o → f.okN a ∧ h'.get? a = some o := fun a o ha ho => ⟨ha, hs'.extBut a o (fun e => ha.1.1 (e ▸ hr.1)) ho⟩
  refine own_turn S₁ hx (OneOwn.all hon) (fun b q hb => hs'.extBut b q hb) hp' ⟨vs ++ [v], ?_, ((ha.keep k.kp).mono up).append (.one (i.mono up))⟩
  rw [List.push_toArray] at hl'
  exact hl'

theorem ev_ret_own {x : Str} {pos : Pos} {r : Addr} {ds : List D} (S : St f Γ s) (h : Γ.lookup x = some (.own r (.list ds))) (hd : (x == ("__debug__" : Str)) = false := by decide) : Ev f.toCx s (.Name x pos) (fun a => f.base.heap.get? a = none) (.list ds) := fun s₁ k => by
  obtain ⟨m, hn, hl⟩ := (S.keep k).ns
  obtain ⟨V, hr, vs, i, j⟩ := hl x _ h
  exact wpAny_Name (var_load S.en hn V ⟨Kp.refl _, .list (S.nb r hr.1) i.isList (j.weak fun a q => q.2)⟩) hd
end
end Mine

/- M10 -/
namespace Mine

abbrev Fx.pins (g : Fx) (p : Addr → Obj → Prop) : Fx := { g with pin := p }

abbrev testsOf (ifs : List Expr) (env : Env) : Sem Bool := forIn ifs true fun c r => if r = true then do let ok ← isTrue c env (eval c env); pure (ForInStep.yield ok) else pure (ForInStep.yield r)

theorem same_state {b s s' : Shared} (k : Kp b s) (k' : Kp b s') : s' = { s with heap := s'.heap, toks := s'.toks } := by
  obtain ⟨h, t, rfl, _⟩ := k.1
  obtain ⟨h', t', rfl, _⟩ := k'.1
  rfl

theorem lookup_nodup {α : Type} {q : Str × α} : ∀ {l : List (Str × α)}, (l.map (·.1)).Nodup → q ∈ l → l.lookup q.1 = some q.2
  | (y, b) :: r, h, hm => by
    obtain ⟨h1, h2⟩ := List.nodup_cons.mp h
    rw [List.lookup_cons]
    rcases List.mem_cons.mp hm with rfl | hm
    · simp
    · have : (q.1 == y) = false := beq_eq_false_iff_ne.mpr fun e => h1 (List.mem_map.mpr ⟨q, hm, e⟩)
      rw [this]
      exact lookup_nodup h2 hm

theorem comp_core {g : Fx} {elt iter : Expr} {x : Str} {px : Pos} {ifs : List Expr} {scope : Scope} {pos : Pos} {I Dd : Addr} {fp : List Addr} {n : Nat} {P : Nat → Value → Prop} {StI : Nat → Heap → Prop} {s₃ : Shared} {R : Result → Shared → Prop}
    (Γc : List (Str × Ent)) (items : Nat → D) (out : Nat → List D) (okX : Addr → Prop)
    (W : Walks Prg g.w g.A I fp [I] n P StI) (hst : StI 0 s₃.heap) (hI₁ : ∀ i (h : Heap), StI (i + 1) h → ∃ o, h.get? I = some o) (hfp : ∀ b ∈ fp, b ≠ I → b ∉ g.mu ∧ b ≠ Dd ∧ ∃ o, s₃.heap.get? b = some o)
    (hImu : I ∉ g.mu) (hDmu : Dd ∉ g.mu) (hID : I ≠ Dd) (hIb : g.base.heap.get? I = none) (hDb : g.base.heap.get? Dd = none) (hit : g.it = [I, Dd]) (hacc : s₃.heap.PlainList Dd #[]) (hout0 : out 0 = [])
    (hcf : ∀ x a, g.env.cells.lookup x = some a → a ∈ g.mu ∨ (a ≠ I ∧ a ≠ Dd ∧ ∃ o, s₃.heap.get? a = some o))
    (S : St (g.pins fun a o => a ∉ g.mu ∧ s₃.heap.get? a = some o) Γc s₃) (hx : Storable g x) (hxc : ∀ q ∈ Γc, q.1 ≠ x) (hnd : (Γc.map (·.1)).Nodup)
    (hP : ∀ i v (s' : Shared), i < n → P i v → (∀ b o, b ∉ g.mu → b ≠ I → b ≠ Dd → s₃.heap.get? b = some o → s'.heap.get? b = some o) → Is s'.heap g.ok v (items i))
    (turn : ∀ i p s', i < n → St (g.pins p) ((x, .val (items i)) :: Γc) s' → (∀ b o, b ∉ g.mu → b ≠ I → b ≠ Dd → s₃.heap.get? b = some o → s'.heap.get? b = some o) →
      wpAny (Mo g.w) g.A (testsOf ifs g.env) (fun ok s₄ => Kp s' s₄ ∧ (if ok = true then ∃ d, out (i + 1) = out i ++ [d] ∧ Ev g.toCx s₄ elt (fun a => g.ok a ∧ okX a) d else out (i + 1) = out i)) NoE s')
    (hlen : ∀ i, i ≤ n → (out i).length ≤ 1000000)
    (done : ∀ (s' : Shared) (ys : List Value) (m' : Str → Option Value), Kp g.base s' → (1 ≤ s₃.toks → 1 ≤ s'.toks) → s'.heap.Ns g.env.locals m' → s'.heap.PlainList Dd ys.toArray → Are s'.heap (fun a => g.ok a ∧ okX a) ys (out n) → (∀ b o, b ∉ g.mu → b ≠ I → b ≠ Dd → s₃.heap.get? b = some o → s'.heap.get? b = some o) → R (.ok .next) s') :
    codeAny (Mo g.w) g.A (.compLoop (.ListComp elt [⟨.Name x px, iter, ifs, 0⟩] scope pos) 0 (.ref I) (.ref Dd) g.env) R s₃ := by
  have hokI : ∀ a, g.ok a → a ≠ I := fun a h e => h.2 (by rw [hit, e]; simp)
  have hokD : ∀ a, g.ok a → a ≠ Dd := fun a h e => h.2 (by rw [hit, e]; simp)
  refine codeAny_compLoop_tests (fun k s' => ∃ i p ys, k = n + 1 - i ∧ i ≤ n ∧ St (g.pins p) Γc s' ∧ StI i s'.heap ∧ s'.heap.PlainList Dd (List.toArray ys) ∧ Are s'.heap (fun a => g.ok a ∧ okX a) ys (out i) ∧ (1 ≤ s₃.toks → 1 ≤ s'.toks) ∧
      (∀ a o, a ∉ g.mu → a ≠ I → a ≠ Dd → s₃.heap.get? a = some o → p a o)) ?_ (n + 1) ⟨0, _, [], rfl, Nat.zero_le _, S, hst, hacc, by rw [hout0]; exact .nil, id, fun a o h1 _ _ h2 => ⟨h1, h2⟩⟩
  rintro k s' ⟨i, p, ys, rfl, hi, S', hst', hD', hA', htk', hp⟩
  have hcl : ∀ {q : Addr → Obj → Prop}, (∀ a o, a ∉ g.mu → a ≠ I → a ≠ Dd → s₃.heap.get? a = some o → q a o) → ∀ x a, g.env.cells.lookup x = some a → a ∈ g.mu ∨ ∃ o, q a o := fun hq x a hx => by
    by_cases hm : a ∈ g.mu
    · exact .inl hm
    · rcases hcf x a hx with h | ⟨h1, h2, o, h3⟩
      · exact absurd h hm
      · exact .inr ⟨o, hq a o hm h1 h2 h3⟩
  have hcI : ∀ x a, g.env.cells.lookup x = some a → a ≠ I := fun x a hx e => (hcf x a hx).elim (fun h => hImu (e ▸ h)) fun h => h.1 e
  have hcD : ∀ x a, g.env.cells.lookup x = some a → a ≠ Dd := fun x a hx e => (hcf x a hx).elim (fun h => hDmu (e ▸ h)) fun h => h.2.1 e
  by_cases hlt : i < n
  · refine with_tok (W.item i _ _ _ hlt hst' fun v h₁ tk₁ hPv hst₁ hk₁ htk => ?_)
    have hk₁' : ∀ b o, b ≠ I → s'.heap.get? b = some o → h₁.get? b = some o := fun b o hb => hk₁ b o (by simp [hb])
    obtain ⟨oI, hoI⟩ := hI₁ i _ hst₁
    -- the pins behind the step of the iterator
    have S₁ : St (g.pins fun a o => (a ≠ I ∧ p a o) ∨ (a = I ∧ o = oI)) Γc { s' with heap := h₁, toks := tk₁ } := by
      refine S'.inner (f := g.pins p) (g := g.pins _) (I := I) htk rfl rfl rfl rfl ?_ (fun x a hx => ⟨(hcl hp x a hx).imp id fun ⟨o, h⟩ => ⟨o, .inl ⟨hcI x a hx, h⟩⟩, hcI x a hx⟩) hImu hIb hk₁' (fun a o h1 _ => ⟨h1, hokI a h1⟩) ?_
      · intro a ha
        have ha' : a ∈ g.it := ha
        by_cases haI : a = I
        · exact ⟨oI, .inr ⟨haI, rfl⟩⟩
        · obtain ⟨o, ho⟩ := S'.ip a ha
          exact ⟨o, .inl ⟨haI, ho⟩⟩
      · rintro a o (⟨h1, h2⟩ | ⟨rfl, rfl⟩)
        · exact ⟨hk₁' a o h1 (S'.pn a o h2).1, (S'.pn a o h2).2⟩
        · exact ⟨hoI, hImu⟩
    have up₁ : ∀ b o, b ∉ g.mu → b ≠ I → b ≠ Dd → s₃.heap.get? b = some o → h₁.get? b = some o := fun b o h1 h2 h3 h4 => hk₁' b o h2 (S'.pn b o (hp b o h1 h2 h3 h4)).1
    have hD₁ : h₁.PlainList Dd ys.toArray := hD'.at fun o => hk₁' Dd o fun e => hID e.symm
    have hA₁ : Are h₁ (fun a => g.ok a ∧ okX a) ys (out i) := hA'.mono fun a o h1 h2 => ⟨h1, hk₁' a o (hokI a h1.1) h2⟩
    refine noE (wpAny_assign_Name (wp_store' (f := g.pins fun a o => (a ≠ I ∧ p a o) ∨ (a = I ∧ o = oI)) S₁ hx (e := .val (items i)) (hP i v _ hlt hPv up₁) fun s₂ S₂ up₂ tl₂ => ?_))
    have hmuD : ∀ o, h₁.get? Dd = some o → s₂.heap.get? Dd = some o := fun o => up₂ Dd o hDmu
    have up₂' : ∀ b o, b ∉ g.mu → b ≠ I → b ≠ Dd → s₃.heap.get? b = some o → s₂.heap.get? b = some o := fun b o h1 h2 h3 h4 => up₂ b o h1 (up₁ b o h1 h2 h3 h4)
    have hD₂ : s₂.heap.PlainList Dd ys.toArray := hD₁.at hmuD
    have hA₂ : Are s₂.heap (fun a => g.ok a ∧ okX a) ys (out i) := hA₁.mono fun a o h1 h2 => ⟨h1, up₂ a o h1.1.1 h2⟩
    have hst₂ : StI (i + 1) s₂.heap := W.frame _ _ _ hst₁ fun b hb o e => by
      by_cases hbI : b = I
      · subst hbI; exact up₂ _ o hImu e
      · exact up₂ b o (hfp b hb hbI).1 e
    have tk₂ : 1 ≤ s₃.toks → 1 ≤ s₂.toks := fun q => Nat.le_trans (htk (htk' q)) tl₂
    refine noE (wpAny_mono (turn i _ s₂ hlt S₂ up₂') (fun ok s₄ h₄ => ?_) fun _ _ h => h)
    obtain ⟨k₄, h₄⟩ := h₄
    have S₄ := S₂.keep k₄
    have hst₄ : StI (i + 1) s₄.heap := W.frame _ _ _ hst₂ fun b _ o e => k₄.kp b o e
    have hD₄ := hD₂.at (k₄.kp Dd)
    have hA₄ := hA₂.keep k₄.kp
    have hsub : ∀ {q : Addr → Obj → Prop} {s : Shared}, St (g.pins q) ((x, .val (items i)) :: Γc) s → St (g.pins q) Γc s := fun S => by
      refine S.weak fun q hq => ?_
      rw [List.lookup_cons, beq_eq_false_iff_ne.mpr (hxc q hq)]
      exact lookup_nodup hnd hq
    cases ok with
    | false =>
      simp only [Bool.false_eq_true, if_false] at h₄ ⊢
      refine ⟨n + 1 - (i + 1), by omega, i + 1, _, ys, rfl, hlt, hsub S₄, hst₄, hD₄, by rw [h₄]; exact hA₄, fun q => k₄.2 (tk₂ q), fun a o h1 h2 h3 h4 => .inl ⟨h2, hp a o h1 h2 h3 h4⟩⟩
    | true =>
      simp only [if_true] at h₄ ⊢
      obtain ⟨d, hd, he⟩ := h₄
      refine noE (wpAny_mono (he s₄ (Kp.refl _)) (fun y s₅ h₅ => ?_) fun _ _ h => h)
      obtain ⟨k₅, iy⟩ := h₅
      have S₅ := (hsub S₄).keep k₅
      have hD₅ := hD₄.at (k₅.kp Dd)
      have hA₅ := hA₄.keep k₅.kp
      have hst₅ : StI (i + 1) s₅.heap := W.frame _ _ _ hst₄ fun b _ o e => k₅.kp b o e
      have hl := hlen i (by omega)
      refine wpAny_list_append_plain (l := Dd) (items := ys.toArray) hD₅ (fun h₆ hD₆ hs₆ => ?_) (by rw [List.size_toArray, hA₅.length, sizeLine_eq]; omega)
      obtain ⟨n₆, ho₆⟩ := id hD₆
      have up₆ : ∀ a o, g.ok a ∧ okX a → s₅.heap.get? a = some o → (g.ok a ∧ okX a) ∧ h₆.get? a = some o := fun a o h1 h2 => ⟨h1, hs₆.extBut a o (hokD a h1.1) h2⟩
      have hpin : ∀ a o, a ∉ g.mu → a ≠ I → a ≠ Dd → s₃.heap.get? a = some o → ((a ≠ I ∧ p a o) ∨ (a = I ∧ o = oI)) := fun a o h1 h2 h3 h4 => .inl ⟨h2, hp a o h1 h2 h3 h4⟩
      refine ⟨n + 1 - (i + 1), by omega, i + 1, fun a o => (a ≠ Dd ∧ ((a ≠ I ∧ p a o) ∨ (a = I ∧ o = oI))) ∨ (a = Dd ∧ o = { cls := .type "list", data := .seq (ys.toArray.push y) n₆ }), ys ++ [y], rfl, hlt, ?_, ?_, ?_, ?_, fun q => k₅.2 (k₄.2 (tk₂ q)), fun a o h1 h2 h3 h4 => .inl ⟨h3, hpin a o h1 h2 h3 h4⟩⟩
      · refine S₅.inner (tk := s₅.toks) (f := g.pins fun a o => (a ≠ I ∧ p a o) ∨ (a = I ∧ o = oI)) (g := g.pins _) (I := Dd) id rfl rfl rfl rfl ?_ (fun x a hx => ⟨(hcl hpin x a hx).imp id fun ⟨o, h⟩ => ⟨o, .inl ⟨hcD x a hx, h⟩⟩, hcD x a hx⟩) hDmu hDb (fun b o hb => hs₆.extBut b o hb) (fun a o h1 _ => ⟨h1, hokD a h1⟩) ?_
        · intro a ha
          by_cases haD : a = Dd
          · exact ⟨_, .inr ⟨haD, rfl⟩⟩
          · obtain ⟨o, ho⟩ := S₅.ip a ha
            exact ⟨o, .inl ⟨haD, ho⟩⟩
        · rintro a o (⟨h1, h2⟩ | ⟨rfl, rfl⟩)
          · exact ⟨hs₆.extBut a o h1 (S₅.pn a o h2).1, (S₅.pn a o h2).2⟩
          · exact ⟨ho₆, hDmu⟩
      · exact W.frame _ _ _ hst₅ fun b hb o e => hs₆.extBut b o (fun q => by
          by_cases hbI : b = I
          · exact hID (hbI ▸ q)
          · exact (hfp b hb hbI).2.1 q) e
      · rw [List.push_toArray] at hD₆
        exact hD₆
      · rw [hd]
        exact (hA₅.mono up₆).append (.one (iy.mono up₆))
  · have hin : i = n := by omega
    subst hin
    refine with_tok (W.done _ _ _ hst' fun h₁ tk₁ hk₁ htk => ?_)
    have hk₁' : ∀ b o, b ≠ I → s'.heap.get? b = some o → h₁.get? b = some o := fun b o hb => hk₁ b o (by simp [hb])
    obtain ⟨m', hm', _⟩ := S'.ns
    refine done _ ys m' ?_ (fun q => htk (htk' q)) ?_ (hD'.at fun o => hk₁' Dd o fun e => hID e.symm) (hA'.mono fun a o h1 h2 => ⟨h1, hk₁' a o (hokI a h1.1) h2⟩) fun b o h1 h2 h3 h4 => hk₁' b o h2 (S'.pn b o (hp b o h1 h2 h3 h4)).1
    · refine ⟨?_, fun q => htk (S'.kp.2 q)⟩
      obtain ⟨hb, tb, e, kk⟩ := S'.kp.1
      subst e
      exact ⟨h₁, tk₁, rfl, fun b o e => hk₁' b o (fun q => by subst q; have : g.base.heap.get? b = some o := e; rw [hIb] at this; cases this) (kk b o e)⟩
    · obtain ⟨o, es, ep, h1, h2⟩ := hm'
      exact ⟨o, es, ep, hk₁' _ _ (fun e => hImu (e ▸ S'.lo)) h1, h2⟩
end Mine

/- M11 -/
namespace Mine

/-- an iterator over n items, these data -/
def IsSrc (w : World) (A : Around) (s₁ s₂ : Shared) (it : Value) (n : Nat) (items : Nat → D) : Prop :=
  ∃ I fp P StI, it = .ref I ∧ Kp s₁ s₂ ∧ s₁.heap.get? I = none ∧ (∃ o, s₂.heap.get? I = some o) ∧ Walks Prg w A I fp [I] n P StI ∧ StI 0 s₂.heap ∧ (∀ i (h : Heap), StI (i + 1) h → ∃ o, h.get? I = some o) ∧
    (∀ b ∈ fp, b ≠ I → ∃ o, s₁.heap.get? b = some o) ∧ ∀ i v, i < n → P i v → Is s₁.heap Any v (items i)

def Src (c : Cx) (s : Shared) (iter : Expr) (n : Nat) (items : Nat → D) : Prop :=
  ∀ s', Kp s s' → wpAny (Mo c.w) c.A (eval iter c.env) (fun v s₁ => wpAny (Mo c.w) c.A (pyIter v) (fun it s₂ => Kp s' s₁ ∧ IsSrc c.w c.A s₁ s₂ it n items) NoE s₁) NoE s'

theorem src_list {c : Cx} {s : Shared} {iter : Expr} {ok : Addr → Prop} {ds : List D} (hh : c.A.handled = none) (a : Ev c s iter ok (.list ds)) : Src c s iter ds.length (fun i => ds.getD i .none) := fun s' k =>
  wpAny_mono (a s' k) (fun v s₁ h₁ => by
    obtain ⟨k₁, i₁⟩ := h₁
    cases i₁ with
    | list hok hl ha =>
      rename_i ax vs
      obtain ⟨ol, hol, hol'⟩ := id hl
      have hax : ax ≠ s₁.heap.objs.size := Nat.ne_of_lt (Heap.lt_size hol)
      have hn : s₁.heap.get? s₁.heap.objs.size = none := by
        cases hq : s₁.heap.get? s₁.heap.objs.size with
        | none => rfl
        | some o => exact absurd (Heap.lt_size hq) (Nat.lt_irrefl _)
      have W := Walks.list (prog := Prg) (w := c.w) (A := c.A) hh s₁.heap.objs.size ax hax vs.toArray
      have hsz : vs.toArray.size = ds.length := by rw [List.size_toArray, ha.length]
      rw [hsz] at W
      refine wpAny_pyIter_list hl ⟨k₁, _, _, _, _, rfl, Kp.push _ _, hn, ⟨_, Heap.get?_push_size _ rfl⟩, W, ⟨⟨_, Heap.get?_push_size _ rfl, rfl, rfl⟩, isList_mono (fun o e => Heap.get?_push_of_some _ e) hl⟩, (fun i h st => let ⟨o, ho, _⟩ := st.1; ⟨o, ho⟩), ?_, ?_⟩
      · intro b hb hbI
        rcases List.mem_cons.mp hb with h | h
        · exact absurd h hbI
        · rw [List.mem_singleton.mp h]
          exact ⟨ol, hol⟩
      · intro i v hi hP
        have hv : vs[i]? = some v := by simpa using hP
        obtain ⟨d, hd, id⟩ := ha.getv hv
        show Is s₁.heap Any v (ds.getD i .none)
        rw [List.getD_eq_getElem?_getD, hd]
        exact id.any) fun _ _ h => h

section
variable {f : Fx} {Γ Δ : List (Str × Ent)} {s s' : Shared} {Q : Flow → Shared → Prop} {rest : List Stmt} {e : Expr} {d : D}

/-- what a turn of a comprehension may use -/
structure InComp (f g : Fx) (scope : Scope) (cl : List (Str × Addr)) (okX : Addr → Prop) (s s' : Shared) : Prop where
  w : g.w = f.w
  A : g.A = f.A
  base : g.base = f.base
  tp : g.tp = f.tp
  sc : g.env.scope = relabel scope f.env
  cl : g.env.cells = cl
  keep : ∀ b o, s.heap.get? b = some o → s'.heap.get? b = some o
  ok : ∀ a o, s.heap.get? a = some o → g.ok a
  fr : ∀ a, s'.heap.get? a = none → g.ok a ∧ okX a

theorem comp_block {elt iter : Expr} {x : Str} {px pos : Pos} {ifs : List Expr} {scope : Scope} {cl : List (Str × Addr)} {n : Nat} {items : Nat → D} {RR : Value → Addr → Result → Shared → Prop} {it : Value} {s₀ s₁ s₂ : Shared} (out : Nat → List D) (okX : Addr → Prop)
    (S : St f Γ s₀) (k₀ : Kp s₀ s₁) (src : IsSrc f.w f.A s₁ s₂ it n items) (hcl : ∀ x a, cl.lookup x = some a → f.env.cells.lookup x = some a) (hcell : ∀ y ∈ scope.names, y.2 ≠ .cell) (hkind : scope.kind = .function) (hx : scope.names.lookup x = some .local)
    (hX : ∀ a, s₀.heap.get? a = none → okX a) (hout0 : out 0 = []) (hlen : ∀ i, i ≤ n → (out i).length ≤ 1000000)
    (turn : ∀ i g s', i < n → InComp f g scope cl okX s₀ s' → St g [(x, .val (items i))] s' →
      wpAny (Mo f.w) f.A (testsOf ifs g.env) (fun ok s₄ => Kp s' s₄ ∧ (if ok = true then ∃ d, out (i + 1) = out i ++ [d] ∧ Ev g.toCx s₄ elt (fun a => g.ok a ∧ okX a) d else out (i + 1) = out i)) NoE s')
    (hRR : ∀ D C s' m', s₀.heap.get? D = none → s₀.heap.get? C = none → D ≠ C → Kp s₀ s' → s'.heap.Ns C m' → Is s'.heap (fun a => a ≠ C ∧ okX a) (.ref D) (.list (out n)) → RR (.ref D) C (.ok .next) s') :
    wpAny (Mo f.w) f.A (newList []) (fun acc s₃ => wpAny (Mo f.w) f.A (newFunctionEnv scope f.env.globals cl [] f.env.qual none .none (some f.env)) (fun cenv s₄ =>
      codeAny (Mo f.w) f.A (.compStart (.ListComp elt [⟨.Name x px, iter, ifs, 0⟩] scope pos) 0 it acc { cenv with scope := relabel scope f.env }) (RR acc cenv.locals) s₄) NoE s₃) NoE s₂ := by
  obtain ⟨I, fp, P, StI, rfl, k₂, hI0, ⟨oI, hoI⟩, W, hst, hI₁, hfp, hP⟩ := src
  refine wpAny_newObj_type (wpAny_newFunctionEnv hcell (by intro y hy; simp at hy) (fun h₁ hns₁ hsb₁ => ?_) hkind) (by show (0 : Nat) ≤ sizeLine; exact Nat.zero_le _)
  dsimp only at hns₁ hsb₁ ⊢
  generalize hH2 : s₂.heap.push { cls := .type "list", dict := none, data := .seq ([] : List Value).toArray } = H2 at hns₁ hsb₁ ⊢
  obtain ⟨Dd, hDd⟩ : ∃ q : Nat, q = s₂.heap.objs.size := ⟨_, rfl⟩
  obtain ⟨C, hCC⟩ : ∃ q : Nat, q = H2.objs.size := ⟨_, rfl⟩
  rw [← hDd, ← hCC]
  rw [← hCC] at hns₁ hsb₁
  have hC : C = Dd + 1 := by rw [hCC, ← hH2, Heap.size_push, hDd]
  have hDC : Dd ≠ C := by omega
  have alive2 : ∀ b o, s₂.heap.get? b = some o → b ≠ Dd ∧ b ≠ C := fun b o e => by
    have : b < Dd := by rw [hDd]; exact Heap.lt_size e
    exact ⟨Nat.ne_of_lt this, by rw [hC]; exact Nat.ne_of_lt (Nat.lt_succ_of_lt this)⟩
  have old : ∀ b o, s₂.heap.get? b = some o → h₁.get? b = some o := fun b o e => hsb₁.extBut b o (alive2 b o e).2 (Heap.get?_push_of_some _ (hH2 ▸ Heap.get?_push_of_some _ e))
  have hacc : h₁.PlainList Dd #[] := ⟨0, hsb₁.extBut _ _ hDC (Heap.get?_push_of_some _ (by rw [← hH2, hDd]; exact Heap.get?_push_size _ rfl))⟩
  have noneD : s₂.heap.get? Dd = none := by
    cases hq : s₂.heap.get? Dd with
    | none => rfl
    | some o => exact absurd rfl (alive2 _ _ hq).1
  have noneC : s₂.heap.get? C = none := by
    cases hq : s₂.heap.get? C with
    | none => rfl
    | some o => exact absurd rfl (alive2 _ _ hq).2
  have S₁ := S.keep k₀
  have S₂ := S₁.keep k₂
  have none_of : ∀ {a : Addr} {sa sb : Shared}, Kp sa sb → sb.heap.get? a = none → sa.heap.get? a = none := fun {a sa sb} k h => by
    cases hq : sa.heap.get? a with
    | none => rfl
    | some o => rw [k.kp _ _ hq] at h; cases h
  have hID : I ≠ Dd := (alive2 _ _ hoI).1
  have hIC : I ≠ C := (alive2 _ _ hoI).2
  have hst₁ : StI 0 h₁ := W.frame _ _ _ hst fun b _ o e => old b o e
  obtain ⟨oC, hoC⟩ : ∃ o, h₁.get? C = some o := let ⟨o, _, _, ho, _⟩ := hns₁; ⟨o, ho⟩
  obtain ⟨oD, hoD⟩ : ∃ o, h₁.get? Dd = some o := let ⟨n, ho⟩ := hacc; ⟨_, ho⟩
  have k₃ : Kp s₂ { s₂ with heap := h₁, toks := s₂.toks + ([] : List (Str × Value)).length } := Kp.both s₂ old (by simp)
  have loop : ∀ s₃ : Shared, s₃ = { s₂ with heap := h₁, toks := s₂.toks + ([] : List (Str × Value)).length } →
      codeAny (Mo f.w) f.A (.compLoop (.ListComp elt [⟨.Name x px, iter, ifs, 0⟩] scope pos) 0 (.ref I) (.ref Dd) (compEnvC scope cl C f.env)) (RR (.ref Dd) C) s₃ := by
    intro s₃ hs₃
    have hh₃ : s₃.heap = h₁ := by rw [hs₃]
    have k₃' : Kp s₂ s₃ := by rw [hs₃]; exact k₃
    have kAll : Kp s₀ s₃ := (k₀.trans k₂).trans k₃'
    let g : Fx := ⟨⟨f.w, f.A, compEnvC scope cl C f.env⟩, f.base, [C], [I, Dd], fun _ _ => False, f.tp⟩
    have gok : ∀ a o, s₁.heap.get? a = some o → g.ok a := fun a o e => by
      have e2 := k₂.kp _ _ e
      refine ⟨fun hm => (alive2 _ _ e2).2 (List.mem_singleton.mp hm), fun hm => ?_⟩
      rcases List.mem_cons.mp hm with h | h
      · rw [h, hI0] at e; cases e
      · exact (alive2 _ _ e2).1 (List.mem_singleton.mp h)
    have hb : f.base.heap.get? C = none := none_of (S₂.kp) noneC
    refine comp_core (g := g) [] items out okX W (by rw [hh₃]; exact hst₁) hI₁ ?_ (fun hm => hIC (List.mem_singleton.mp hm)) (fun hm => hDC (List.mem_singleton.mp hm)) hID (none_of (S₁.kp) hI0) (none_of (S₂.kp) noneD) rfl (by rw [hh₃]; exact hacc) hout0 ?_ ?_ (.inl (lookup_relabel_local hx)) (fun q hq => (nomatch hq)) .nil ?_ ?_ hlen ?_
    · intro b hb hbI
      obtain ⟨o, ho⟩ := hfp b hb hbI
      have e2 := k₂.kp _ _ ho
      exact ⟨fun hm => (alive2 _ _ e2).2 (List.mem_singleton.mp hm), (alive2 _ _ e2).1, o, by rw [hh₃]; exact old _ _ e2⟩
    · intro x a hx
      have ha := hcl x a hx
      have : ∃ o, s₁.heap.get? a = some o := by
        rcases (S₁.ce x a ha).1 with h | ⟨o, h⟩
        · exact S₁.al a h
        · exact ⟨o, (S₁.pn a o h).1⟩
      obtain ⟨o, ho⟩ := this
      have e2 := k₂.kp _ _ ho
      exact .inr ⟨fun e => (by rw [e, hI0] at ho; cases ho), (alive2 _ _ e2).1, o, (by rw [hh₃]; exact old _ _ e2)⟩
    · have aliveC : ∀ x a, cl.lookup x = some a → ∃ o, s₁.heap.get? a = some o ∧ s₃.heap.get? a = some o ∧ a ≠ C := fun x a hx => by
        have ha := hcl x a hx
        have : ∃ o, s₁.heap.get? a = some o := by
          rcases (S₁.ce x a ha).1 with h | ⟨o, h⟩
          · exact S₁.al a h
          · exact ⟨o, (S₁.pn a o h).1⟩
        obtain ⟨o, ho⟩ := this
        have e2 := k₂.kp _ _ ho
        exact ⟨o, ho, (by rw [hh₃]; exact old _ _ e2), (alive2 _ _ e2).2⟩
      refine ⟨⟨hkind, S.en.gl, S.en.bi⟩, S.gr, S.kp.trans kAll, List.mem_cons_self, fun x a hx => ?_, fun x y a hx hy => S.ci x y a (hcl x a hx) (hcl y a hy), fun x a hx => ?_, fun a ha => ?_, fun a ha => ?_, fun a o h => ⟨h.2, h.1⟩, fun a ha => ?_, fun q => kAll.2 (S.tk q), _, by rw [hh₃]; exact hns₁, fun x e hx => (nomatch hx)⟩
      · obtain ⟨o, _, h2, h3⟩ := aliveC x a hx
        exact ⟨.inr ⟨o, fun hm => h3 (List.mem_singleton.mp hm), h2⟩, h3⟩
      · obtain ⟨v, o, h1, h2⟩ := S₁.cs x a (hcl x a hx)
        exact ⟨v, o, by rw [hh₃]; exact old _ _ (k₂.kp _ _ h1), h2⟩
      · rw [List.mem_singleton.mp ha, hh₃]; exact ⟨oC, hoC⟩
      · rw [List.mem_singleton.mp ha]; exact hb
      · rcases List.mem_cons.mp ha with h | h
        · exact ⟨oI, fun hm => hIC (h ▸ List.mem_singleton.mp hm), by rw [hh₃, h]; exact old _ _ hoI⟩
        · exact ⟨oD, fun hm => hDC (List.mem_singleton.mp h ▸ List.mem_singleton.mp hm), by rw [hh₃, List.mem_singleton.mp h]; exact hoD⟩
    · intro i v s' hi hPv up
      refine (hP i v hi hPv).mono fun a o _ ho => ?_
      have e2 := k₂.kp _ _ ho
      have hok := gok a o ho
      exact ⟨hok, up a o hok.1 (fun e => hok.2 (by rw [e]; exact List.mem_cons_self)) (alive2 _ _ e2).1 (by rw [hh₃]; exact old _ _ e2)⟩
    · intro i p s' hi S' up
      have kp' : ∀ b o, s₀.heap.get? b = some o → s'.heap.get? b = some o := fun b o e => by
        have e1 := k₀.kp _ _ e
        have hok := gok b o e1
        have e2 := k₂.kp _ _ e1
        exact up b o hok.1 (fun q => hok.2 (by rw [q]; exact List.mem_cons_self)) (alive2 _ _ e2).1 (by rw [hh₃]; exact old _ _ e2)
      refine turn i (g.pins p) s' hi ⟨rfl, rfl, rfl, rfl, rfl, rfl, kp', fun a o e => gok a o (k₀.kp _ _ e), fun a e => ⟨(S'.fresh e).1, hX a ?_⟩⟩ S'
      cases hq : s₀.heap.get? a with
      | none => rfl
      | some o => rw [kp' _ _ hq] at e; cases e
    · intro s' ys m' kb tb hns hD hA up
      have k₀' : Kp s₀ s' := by
        refine ⟨?_, fun q => tb (kAll.2 q)⟩
        have e := same_state S.kp kb
        rw [e]
        refine ⟨s'.heap, s'.toks, rfl, fun b o e => ?_⟩
        have e1 := k₀.kp _ _ e
        have hok := gok b o e1
        have e2 := k₂.kp _ _ e1
        exact up b o hok.1 (fun q => hok.2 (by rw [q]; exact List.mem_cons_self)) (alive2 _ _ e2).1 (by rw [hh₃]; exact old _ _ e2)
      refine hRR Dd C s' m' (none_of (k₀.trans k₂) noneD) (none_of (k₀.trans k₂) noneC) hDC k₀' hns (.list ⟨hDC, hX _ (none_of (k₀.trans k₂) noneD)⟩ hD.isList (hA.weak fun a h => ⟨fun e => h.1.1 (by rw [e]; exact List.mem_cons_self), h.2⟩))
  exact codeAny_compStart_list (loop _ rfl) (W.self 0 _ _ _ hst₁ (loop _ rfl))

theorem none_of {a : Addr} {sa sb : Shared} (k : Kp sa sb) (h : sb.heap.get? a = none) : sa.heap.get? a = none := by
  cases hq : sa.heap.get? a with
  | none => rfl
  | some o => rw [k.kp _ _ hq] at h; cases h

/-- stand apart from one more object, made since -/
theorem St.guard {C : Addr} {o : Obj} (S : St f Γ s) (k : Kp s s') (hC : s.heap.get? C = none) (ho : s'.heap.get? C = some o) :
    St (f.inl C fun a o' => f.pin a o' ∨ (a = C ∧ o' = o)) Γ s' ∧ C ∉ f.mu ∧ (∀ x a, f.env.cells.lookup x = some a → a ≠ C) ∧ f.base.heap.get? C = none ∧ ∀ o', ¬ f.pin C o' := by
  have hf := S.fresh hC
  have hp : ∀ o', ¬ f.pin C o' := fun o' h => by
    have := (S.pn _ _ h).1
    rw [hC] at this; cases this
  have hc : ∀ x a, f.env.cells.lookup x = some a → a ≠ C := fun x a hx e => by
    rcases (S.ce x a hx).1 with h | ⟨q, h⟩
    · exact hf.1.1 (e ▸ h)
    · exact hp q (e ▸ h)
  refine ⟨?_, hf.1.1, hc, hf.2, hp⟩
  have e := same_state S.kp (S.kp.trans k)
  rw [e]
  refine S.inner (tk := s'.toks) (I := C) k.2 rfl rfl rfl rfl ?_ (fun x a hx => ⟨(S.ce x a hx).1.imp id fun ⟨q, h⟩ => ⟨q, .inl h⟩, hc x a hx⟩) hf.1.1 hf.2 (fun b o' _ => k.kp b o') ?_ ?_
  · intro a ha
    rcases List.mem_cons.mp ha with rfl | ha
    · exact ⟨o, .inr ⟨rfl, rfl⟩⟩
    · obtain ⟨q, h⟩ := S.ip a ha
      exact ⟨q, .inl h⟩
  · intro a o' h1 h2
    have hne : a ≠ C := fun e => by rw [e, hC] at h2; cases h2
    exact ⟨⟨h1.1, fun hm => (List.mem_cons.mp hm).elim hne h1.2⟩, hne⟩
  · rintro a o' (h | ⟨rfl, rfl⟩)
    · exact ⟨k.kp _ _ (S.pn a o' h).1, (S.pn a o' h).2⟩
    · exact ⟨ho, hf.1.1⟩

/-- a comprehension as an expression -/
theorem ev_comp {elt iter : Expr} {x : Str} {px pos : Pos} {ifs : List Expr} {scope : Scope} {cl : List (Str × Addr)} {n : Nat} {items : Nat → D} (out : Nat → List D) (okX : Addr → Prop) (S : St f Γ s) (src : Src f.toCx s iter n items)
    (hclos : closureFor scope f.env = pure cl) (hcl : ∀ x a, cl.lookup x = some a → f.env.cells.lookup x = some a) (hcell : ∀ y ∈ scope.names, y.2 ≠ .cell) (hkind : scope.kind = .function) (hnames : ∀ y ∈ scope.names, y.2 = .local → scope.names.lookup y.1 = some .local) (hx : scope.names.lookup x = some .local)
    (hX : ∀ a, s.heap.get? a = none → okX a) (hout0 : out 0 = []) (hlen : ∀ i, i ≤ n → (out i).length ≤ 1000000)
    (turn : ∀ i g s₀ s', Kp s s₀ → i < n → InComp f g scope cl okX s₀ s' → St g [(x, .val (items i))] s' →
      wpAny (Mo f.w) f.A (testsOf ifs g.env) (fun ok s₄ => Kp s' s₄ ∧ (if ok = true then ∃ d, out (i + 1) = out i ++ [d] ∧ Ev g.toCx s₄ elt (fun a => g.ok a ∧ okX a) d else out (i + 1) = out i)) NoE s')
    (hs : ∀ x, foldedSetIterable iter f.env x = pure x := by intro _; rfl) : Ev f.toCx s (.ListComp elt [⟨.Name x px, iter, ifs, 0⟩] scope pos) okX (.list (out n)) := fun s₀ k => by
  rw [eval_ListComp]
  refine wpAny_comprehension_free (use := none) rfl hs hclos hkind hnames (wpAny_mono (src s₀ k) (fun v s₁ h₁ => wpAny_mono h₁ (fun it s₂ h₂ => ?_) fun _ _ h => h) fun _ _ h => h)
  refine comp_block (RR := fun acc C => compPost (Mo f.w) f.A NoE none _ acc C) out okX (S.keep k) h₂.1 h₂.2 hcl hcell hkind hx (fun a h => hX a (none_of k h)) hout0 hlen (fun i g s' => turn i g s₀ s' k) ?_
  intro Dd C s' m' hD hC hDC k' hn hi
  refine ⟨m', hn, fun h' hs' => ⟨?_, ?_⟩⟩
  · have : Kp s' { s' with heap := h' } ∨ True := .inr trivial
    refine ⟨?_, fun q => k'.2 q⟩
    obtain ⟨hh, tt, e, kk⟩ := k'.1
    subst e
    exact ⟨h', tt, rfl, fun b o e => hs'.extBut b o (fun q => by rw [q, hC] at e; cases e) (kk b o e)⟩
  · exact hi.mono fun a o h1 h2 => ⟨h1.2, hs'.extBut a o h1.1 h2⟩

/-- a comprehension kept under a name -/
theorem w_comp {elt iter : Expr} {x y : Str} {px py pos spos : Pos} {ifs : List Expr} {scope : Scope} {cl : List (Str × Addr)} {n : Nat} {items : Nat → D} (out : Nat → List D) (S : St f Γ s) (hy : Storable f y) (src : Src f.toCx s iter n items)
    (hsw : swapsWith (.ListComp elt [⟨.Name x px, iter, ifs, 0⟩] scope pos) (some (.Name y py)) spos.line f.env = pure true)
    (hclos : closureFor scope f.env = pure cl) (hcl : ∀ x a, cl.lookup x = some a → f.env.cells.lookup x = some a) (hcell : ∀ y ∈ scope.names, y.2 ≠ .cell) (hkind : scope.kind = .function) (hnames : ∀ y ∈ scope.names, y.2 = .local → scope.names.lookup y.1 = some .local) (hx : scope.names.lookup x = some .local)
    (hout0 : out 0 = []) (hlen : ∀ i, i ≤ n → (out i).length ≤ 1000000)
    (turn : ∀ i g s', i < n → InComp f g scope cl f.okN s s' → St g [(x, .val (items i))] s' →
      wpAny (Mo f.w) f.A (testsOf ifs g.env) (fun ok s₄ => Kp s' s₄ ∧ (if ok = true then ∃ d, out (i + 1) = out i ++ [d] ∧ Ev g.toCx s₄ elt (fun a => g.ok a ∧ f.okN a) d else out (i + 1) = out i)) NoE s')
    (h : ∀ s', St f ((y, .new (.list (out n))) :: Γ) s' → Wx f rest Q s')
    (hs : ∀ x, foldedSetIterable iter f.env x = pure x := by intro _; rfl) : Wx f (.Assign [.Name y py] (.ListComp elt [⟨.Name x px, iter, ifs, 0⟩] scope pos) spos :: rest) Q s := by
  refine w_of ?_
  rw [exec_Assign_Name_used _ _ _ _ hsw]
  refine wpAny_bind (wpAny_standAt (wpAny_bind ?_))
  show wpAny _ f.A (do let _ ← comprehension (.ListComp elt [⟨.Name x px, iter, ifs, 0⟩] scope pos) scope f.env _ (newList []) false (eval iter f.env) (some (assign (.Name y py) f.env))) _ _ s
  refine wpAny_bind (wpAny_mono (wpAny_comprehension_free (use := some (assign (.Name y py) f.env)) (Q := fun _ s' => Sq f rest Q .next s') rfl hs hclos hkind hnames
    (wpAny_mono (src s (Kp.refl _)) (fun v s₁ h₁ => wpAny_mono h₁ (fun it s₂ h₂ => ?_) fun _ _ h => h) fun _ _ h => h)) (fun _ s' hq => wpAny_pure (wpAny_pure hq)) fun _ _ e => e)
  refine comp_block (RR := fun acc C => compPost (Mo f.w) f.A NoE (some (assign (.Name y py) f.env)) _ acc C) out f.okN S h₂.1 h₂.2 hcl hcell hkind hx (fun a h => S.fresh h) hout0 hlen turn ?_
  intro Dd C s' m' hD hC hDC k' hn hi
  obtain ⟨oC, es, ep, hoC, r⟩ := hn
  obtain ⟨S', hCf, hCc, hCb, hCp⟩ := S.guard k' hC hoC
  show wpAny _ f.A (assign (.Name y py) f.env (.ref Dd)) _ _ _
  refine wpAny_assign_Name (wp_store' (f := f.inl C _) S' hy (e := .new (.list (out n))) (hi.weak fun a h => ⟨⟨h.2.1.1, fun hm => (List.mem_cons.mp hm).elim h.1 h.2.1.2⟩, h.2.2⟩) fun s'' S'' up tl => ?_)
  refine ⟨m', ⟨oC, es, ep, up _ _ hCf hoC, r⟩, fun h' hs' => h _ ?_⟩
  refine S''.inner (tk := s''.toks) (f := f.inl C _) (g := f) (I := C) id rfl rfl rfl rfl S.ip (fun x a hx => ⟨(S.ce x a hx).1, hCc x a hx⟩) hCf hCb (fun b o hb => hs'.extBut b o hb) (fun a o h1 _ => ⟨⟨h1.1, fun hm => h1.2 (List.mem_cons_of_mem _ hm)⟩, fun e => h1.2 (by rw [e]; exact List.mem_cons_self)⟩) ?_
  intro a o hp
  have := S''.pn a o (.inl hp)
  exact ⟨hs'.extBut a o (fun e => hCp o (e ▸ hp)) this.1, this.2⟩
end
end Mine

/- M12 -/
namespace Mine
section
variable {f : Fx} {Γ Δ : List (Str × Ent)} {s s' : Shared} {Q : Flow → Shared → Prop} {rest : List Stmt} {e : Expr} {d : D}

theorem w_fors {σ : Type} {x : Str} {px pos : Pos} {iter : Expr} {body : List Stmt} {X : Str} (S : St f Γ s) (hA : f.A.handled = none) (hi : Ev f.toCx s iter Any (.str X)) (hx : Storable f x) (Gm : σ → List (Str × Ent)) (R : Nat → σ → Prop) (a₀ : σ) (h0 : Sub Γ (Gm a₀)) (hR : R 0 a₀)
    (turn : ∀ i a c I p s', X.cps[i]? = some c → R i a → St (f.inl I p) ((x, .val (.str ⟨#[c]⟩)) :: Gm a) s' → Wx (f.inl I p) body (fun fl s'' => match fl with
      | .next | .cont => ∃ a', R (i + 1) a' ∧ St (f.inl I p) (Gm a') s''
      | .brk => False
      | .ret v => Q (.ret v) s'') s')
    (done : ∀ a s', R X.cps.size a → St f (Gm a) s' → Wx f rest Q s') (hs : ∀ x, foldedSetIterable iter f.env x = pure x := by intro _; rfl) : Wx f (.For (.Name x px) iter body [] pos :: rest) Q s := by
  refine w_of (wpAny_For (wpAny_mono (hi s (Kp.refl _)) (fun v s₁ h₁ => ?_) fun _ _ h => h) hs)
  obtain ⟨k, iv⟩ := h₁
  cases iv with
  | str _ t =>
    have S₁ := S.keep k
    have go : ∀ (T : String) (W : Walks Prg f.w f.A s₁.heap.objs.size [s₁.heap.objs.size] [s₁.heap.objs.size] X.cps.size (SignAt X) (fun i h => h.IsStrIter s₁.heap.objs.size T X t i)),
        codeAny (Mo f.w) f.A (.forLoop (.Name x px) (.ref s₁.heap.objs.size) body [] f.env) (fun r s' => match r with | .ok fl => Sq f rest Q fl s' | .error e => cameBackBy (Mo f.w) f.A f.env NoE e s') { s₁ with heap := s₁.heap.push { cls := .type T, data := .fields #[.str X t, .int 0 0] } } := by
      intro T W
      obtain ⟨S₂, i1, i2, i3, i4, i5⟩ := S₁.start (o := { cls := .type T, data := .fields #[.str X t, .int 0 0] }) rfl rfl
      refine for_core Gm (fun i a => match X.cps[i]? with | some c => (x, .val (.str ⟨#[c]⟩)) :: Gm a | none => []) R a₀ W ⟨_, Heap.get?_push_size _ rfl, rfl, rfl⟩ (fun i h st => let ⟨o, ho, _⟩ := st; ⟨o, ho⟩) i1 i2 i3 S.ip ?_ i4 (fun x a hx => (S.ce x a hx).1) (S₂.sub' h0) hR ?_ ?_ ?_ ?_
      · intro b hb hbI
        exact absurd (List.mem_singleton.mp hb) hbI
      · intro i v s Q E _ _ hq
        exact wpAny_pure hq
      · intro i a v p s' hlt hP S' up Q' hQ
        obtain ⟨c, u, hc, rfl⟩ := hP
        refine wpAny_assign_Name (wp_store (f := f.inl s₁.heap.objs.size p) S' hx (e := .val (.str ⟨#[c]⟩)) (.str _ _) fun s'' S'' => hQ s'' ?_)
        simp only [hc]
        exact S''
      · intro i a p s' hlt hRa S'
        have hd : X.cps[i]? = some X.cps[i] := by simp [hlt]
        simp only [hd] at S'
        exact turn i a _ _ p s' hd hRa S'
      · exact done
    cases ha : X.cps.all (· < 128)
    · exact wpAny_pyIter_wide ha (go "str_iterator" (Walks.strWide hA _ X t))
    · exact wpAny_pyIter_ascii ha (go "str_ascii_iterator" (Walks.strAscii hA _ X t))

theorem w_assign2 {x y : Str} {p q pos : Pos} (S : St f Γ s) (hx : Storable f x) (hy : Storable f y) {b : Bool} (he : Ev f.toCx s e Any (.bool b)) (h : ∀ s', St f ((y, .val (.bool b)) :: (x, .val (.bool b)) :: Γ) s' → Wx f rest Q s')
    (hw : swappedStores [.Name x p, .Name y q] e f.env = pure none := by rfl) : Wx f (.Assign [.Name x p, .Name y q] e pos :: rest) Q s :=
  w_of (wpAny_Assign_two (wpAny_mono (he s (Kp.refl _)) (fun v s₁ h₁ => by
    obtain ⟨k, i⟩ := h₁
    cases i
    exact wpAny_assign_Name (wp_store (S.keep k) hx (e := .val (.bool b)) (.bool _) fun s₂ S₂ => wpAny_assign_Name (wp_store S₂ hy (e := .val (.bool b)) (.bool _) fun s₃ S₃ => h s₃ S₃))) fun _ _ h => h) rfl hw)
end
section
variable {c : Cx} {s : Shared} {e : Expr} {x : Str}
theorem tr_str (a : Ev c s e Any (.str x)) (hz : x.length ≤ 16777216) (he : ∀ whole, isTrue e c.env whole = (do let v ← whole; standAt e.pos; holding [v] (truthy v)) := by intro _; rfl) : Tr c s e (x.length != 0) := fun s' k =>
  isTrue_plain (wpAny_mono (a s' k) (fun v s₁ h₁ => by
    obtain ⟨h, i⟩ := h₁
    cases i
    refine P.truthy_str (by omega) ⟨h.trans (Kp.toks _ _), ?_⟩
    cases hx : x.length <;> rfl) fun _ _ h => h) (he _)
end
end Mine

/- M13 -/
namespace Mine

/-- a pair stored: in its place, or at the end -/
def putP (ps : List (Str × Str)) (k v : Str) : List (Str × Str) := if ps.any (fun p => p.1 = k) then ps.map (fun p => if p.1 = k then (p.1, v) else p) else ps ++ [(k, v)]

theorem DP.any {kvs : List (Str × Value)} {ps : List (Str × Str)} (h : DP kvs ps) (k : Str) : kvs.any (fun p => p.1 = k) = ps.any (fun p => p.1 = k) := by
  induction h with
  | nil => rfl
  | cons _ ih => simp only [List.any_cons, ih]
theorem DP.map {kvs : List (Str × Value)} {ps : List (Str × Str)} (h : DP kvs ps) (k v : Str) (u : Tok) : DP (kvs.map fun p => if p.1 = k then (p.1, .str v u) else p) (ps.map fun p => if p.1 = k then (p.1, v) else p) := by
  induction h with
  | nil => exact .nil
  | @cons k' v' u' kvs ps _ ih =>
    simp only [List.map_cons]
    by_cases e : k' = k
    · simp only [e, if_true] at ih ⊢; exact .cons ih
    · simp only [e, if_false] at ih ⊢; exact .cons ih
theorem DP.snoc {kvs : List (Str × Value)} {ps : List (Str × Str)} (h : DP kvs ps) (k v : Str) (u : Tok) : DP (kvs ++ [(k, .str v u)]) (ps ++ [(k, v)]) := by
  induction h with
  | nil => exact .cons .nil
  | cons _ ih => exact .cons ih
theorem DP.stored {kvs : List (Str × Value)} {ps : List (Str × Str)} (h : DP kvs ps) (k v : Str) (u : Tok) : DP (stored kvs k (.str v u)) (putP ps k v) := by
  unfold PySem.stored putP
  rw [h.any]
  split
  · exact h.map k v u
  · exact h.snoc k v u
theorem DP.length {kvs : List (Str × Value)} {ps : List (Str × Str)} (h : DP kvs ps) : kvs.length = ps.length := by
  induction h with
  | nil => rfl
  | cons _ ih => simp [ih]
theorem DP.get {kvs : List (Str × Value)} {ps : List (Str × Str)} (h : DP kvs ps) {i : Nat} {p : Str × Str} (hp : ps[i]? = some p) : ∃ u, kvs[i]? = some (p.1, .str p.2 u) := by
  induction h generalizing i with
  | nil => simp at hp
  | cons _ ih =>
    cases i with
    | zero => simp at hp; subst hp; exact ⟨_, rfl⟩
    | succ i => exact ih (by simpa using hp)

section
variable {f : Fx} {Γ Δ : List (Str × Ent)} {s s' : Shared} {Q : Flow → Shared → Prop} {rest : List Stmt} {e : Expr} {d : D}

/-- x = {} -/
theorem w_newdict {x : Str} {p p' pos : Pos} (S : St f Γ s) (hx : Storable f x) (h : ∀ r s', St (f.plus r) ((x, .own r (.dict [])) :: Γ) s' → Wx (f.plus r) rest Q s') : Wx f (.Assign [.Name x p] (.Dict [] [] p') pos :: rest) Q s := by
  refine w_of (wpAny_Assign_Name (wpAny_Dict_empty ?_) rfl)
  have hlo : (s.heap.objs.size == sysModules) = false := beq_eq_false_iff_ne.mpr (Nat.ne_of_gt (modules_low S.gr'.lim))
  exact wp_store (f := f.plus s.heap.objs.size) (S.plus (o := { cls := .type "dict", data := .dict #[] }) rfl) hx.plus (e := .own s.heap.objs.size (.dict [])) ⟨rfl, ⟨List.mem_cons_self, S.apart⟩, hlo, [], Heap.DictOf.new s.heap, .nil⟩ fun s' S' => h _ s' S'

/-- x[k] = v -/
theorem w_dictput {x k v : Str} {p p' p'' pk pos : Pos} {r : Addr} {ps : List (Str × Str)} {K V : Str} (S : St f Γ s) (hx : Γ.lookup x = some (.own r (.dict ps))) (hk : Γ.lookup k = some (.val (.str K))) (hv : Γ.lookup v = some (.val (.str V))) (hon : OneOwn x Γ = true) (hz : ps.length ≤ 1000000)
    (h : ∀ s', St f ((x, .own r (.dict (putP ps K V))) :: Γ) s' → Wx f rest Q s') (hd : (x == ("__debug__" : Str)) = false := by decide) (hd' : (k == ("__debug__" : Str)) = false := by decide) (hd'' : (v == ("__debug__" : Str)) = false := by decide) :
    Wx f (.Assign [.Subscript (.Name x p) (.Name k pk) p'] (.Name v p'') pos :: rest) Q s := by
  obtain ⟨m, hn, hl⟩ := S.ns
  obtain ⟨V₁, hr, hlo, kvs, hD, hP⟩ := hl x _ hx
  obtain ⟨v₂, V₂, i₂⟩ := hl k _ hk
  obtain ⟨v₃, V₃, i₃⟩ := hl v _ hv
  cases i₂
  cases i₃ with
  | str _ u =>
    refine w_of (wpAny_Assign_Subscript (wpAny_Name (var_load S.en hn V₃ (wpAny_Name (var_load S.en hn V₁ (wpAny_Name (var_load S.en hn V₂ ?_) hd')) hd)) hd'') rfl)
    refine wpAny_setItem_pairs (knd := PySem.strKind Prg f.w) (k := K) (by simp [PySem.strKind, Value.isStrOf]) hD (fun h' hD' hs' => ?_) (by rw [hP.length, sizeLine_eq]; omega)
    obtain ⟨o, es, ep, ho, hq⟩ := id hD'
    have S₁ : St f Γ { s with toks := s.toks + 1 } := S.keep (Kp.toks _ _)
    exact h _ (own_turn S₁ hx (OneOwn.all hon) (fun b q hb => hs'.extBut b q hb) ho ⟨hlo, _, hD', hP.stored K V u⟩)

theorem unpackL {env : Env} {A : Around} {w : World} {E : Value → Shared → Prop} {elts : List Expr} {k : Nat} {pos : Pos} {l : Addr} {items : Array Value} {Q : Unit → Shared → Prop} (hl : s.heap.IsList l items) (hh : A.handled = none) (hn : (assignEach elts env).length = items.size)
    (hstar : (assignEach elts env).findIdx? (·.1) = none) (h : ∀ h', Heap.ExtBut s.heap.objs.size s.heap h' → wpAny (Mo w) A (assignInOrder ((assignEach elts env).map (·.2)) items.toList) Q E { s with heap := h' }) :
    wpAny (Mo w) A (assign (.Tuple elts k pos) env (.ref l)) Q E s := by
  rw [assign_Tuple]
  refine wpAny_bind (wpAny_standAt ?_)
  unfold unpack
  rw [hn, hstar]
  exact wpAny_bind (wpAny_holding (kun_itemsOf hh hl h))

/-- k, v = a list of two texts -/
theorem w_unpackL {x y : Str} {px py pt pos : Pos} {tk : Nat} {X Y : Str} {ok : Addr → Prop} (S : St f Γ s) (hA : f.A.handled = none) (hx : Storable f x) (hy : Storable f y) (he : Ev f.toCx s e ok (.list [.str X, .str Y])) (h : ∀ s', St f ((y, .val (.str Y)) :: (x, .val (.str X)) :: Γ) s' → Wx f rest Q s')
    (hs : swapsWithSole [.Tuple [.Name x px, .Name y py] tk pt] e pos.line f.env = pure false := by rfl) (hw : swappedStores [.Tuple [.Name x px, .Name y py] tk pt] e f.env = pure none := by rfl) : Wx f (.Assign [.Tuple [.Name x px, .Name y py] tk pt] e pos :: rest) Q s := by
  refine w_of (Assign_Tuple (wpAny_mono (he s (Kp.refl _)) (fun v s₁ h₁ => ?_) fun _ _ h => h) hs hw)
  obtain ⟨k, i⟩ := h₁
  cases i with
  | list _ hl ha =>
    cases ha with
    | cons ia r =>
      cases r with
      | cons ib r =>
        cases r
        cases ia
        cases ib
        refine unpackL hl hA rfl rfl fun h' hk' => ?_
        have S₁ := S.keep (k.trans (Kp.heap s₁ fun b o e => hk' b o (Nat.ne_of_lt (Heap.lt_size e)) e))
        refine wpAny_bind (wpAny_holding (wpAny_assign_Name (wp_store S₁ hx (e := .val (.str X)) (.str _ _) fun s₃ S₃ => ?_)))
        exact wpAny_bind (wpAny_holding (wpAny_assign_Name (wp_store S₃ hy (e := .val (.str Y)) (.str _ _) fun s₄ S₄ => wpAny_pure (h s₄ S₄))))
theorem w_unpackT {x y : Str} {px py pt pos : Pos} {tk : Nat} {X Y : Str} {ok : Addr → Prop} (S : St f Γ s) (hA : f.A.handled = none) (hx : Storable f x) (hy : Storable f y) (he : Ev f.toCx s e ok (.tup [.str X, .str Y])) (h : ∀ s', St f ((y, .val (.str Y)) :: (x, .val (.str X)) :: Γ) s' → Wx f rest Q s')
    (hs : swapsWithSole [.Tuple [.Name x px, .Name y py] tk pt] e pos.line f.env = pure false := by rfl) (hw : swappedStores [.Tuple [.Name x px, .Name y py] tk pt] e f.env = pure none := by rfl) : Wx f (.Assign [.Tuple [.Name x px, .Name y py] tk pt] e pos :: rest) Q s := by
  refine w_of (Assign_Tuple (wpAny_mono (he s (Kp.refl _)) (fun v s₁ h₁ => ?_) fun _ _ h => h) hs hw)
  obtain ⟨k, i⟩ := h₁
  cases i with
  | tup _ ht ha =>
    cases ha with
    | cons ia r =>
      cases r with
      | cons ib r =>
        cases r
        cases ia
        cases ib
        refine wpAny_assign_Tuple hA ht rfl rfl fun h' hk' => ?_
        have S₁ := S.keep (k.trans (Kp.heap s₁ fun b o e => hk' b o (Nat.ne_of_lt (Heap.lt_size e)) e))
        refine wpAny_bind (wpAny_holding (wpAny_assign_Name (wp_store S₁ hx (e := .val (.str X)) (.str _ _) fun s₃ S₃ => ?_)))
        exact wpAny_bind (wpAny_holding (wpAny_assign_Name (wp_store S₃ hy (e := .val (.str Y)) (.str _ _) fun s₄ S₄ => wpAny_pure (h s₄ S₄))))
end

section
variable {c : Cx} {s : Shared} {e e₁ e₂ : Expr} {x y : Str} {pos : Pos} {ok : Addr → Prop}
theorem are_strs {h : Heap} : ∀ (l : List (Str × Tok)), Are h ok (strValues l) ((l.map (·.1)).map D.str)
  | [] => .nil
  | (x, t) :: r => .cons (.str _ _) (are_strs r)

/-- split with a bound -/
theorem ev_split {apos : Pos} {pl : Sem Bool} {n : Int} (o : Ev c s e Any (.str x)) (a : Ev c s e₁ Any (.str y)) (b : Ev c s e₂ Any (.int n)) (hy : (y.length == 0) = false) (hn : 0 ≤ n ∧ n < 1000000) (hz : x.length ≤ 1000000) (hf : ∀ a, s.heap.get? a = none → ok a)
    (he : eval (.Call (.Attribute e "split" apos) [e₁, e₂] [] pos) c.env = (do let ov ← eval e c.env; standAt apos.atName; let (f, first) ← holding [ov] (getMethod ov "split" pl); callWith pos f first (backTo pos (starEach [e₁, e₂] c.env)) []))
    (hs : starEach [e₁, e₂] c.env = [(false, eval e₁ c.env), (false, eval e₂ c.env)] := by rfl) : Ev c s (.Call (.Attribute e "split" apos) [e₁, e₂] [] pos) ok (.list ((Txt.splitMax x y n).map D.str)) :=
  ev_meth o (fun s' t Q h => GM.split h) (fun s' t k => by
    rw [hs]
    refine Calls.callWith_builtin rfl (Calls.evalArgs_plain (Calls.spliced_cons (wpAny_mono (a s' k) (fun v s₁ h₁ => Calls.spliced_cons (wpAny_mono (b s₁ (k.trans h₁.1)) (fun u s₂ h₂ => Calls.spliced_nil ?_) fun _ _ h => h)) fun _ _ h => h)))
    obtain ⟨h₁, i₁⟩ := h₁
    obtain ⟨h₂, i₂⟩ := h₂
    cases i₁
    cases i₂
    have hk := h₁.trans h₂
    have fr : s.heap.get? s₂.heap.objs.size = none := by
      cases hq : s.heap.get? s₂.heap.objs.size with
      | none => rfl
      | some o => exact absurd (Heap.lt_size ((k.trans hk).kp _ _ hq)) (Nat.lt_irrefl _)
    have hkk : (decide (n < -(2 ^ 63 : Int)) || decide (n ≥ 2 ^ 63)) = false := by simp; omega
    have fin : ∀ (l : List (Str × Tok)) (tk : Nat), (1 ≤ s₂.toks → 1 ≤ tk) → l.map (·.1) = Txt.splitMax x y n → Kp s' { s₂ with heap := s₂.heap.push { cls := .type "list", data := .seq (strValues l).toArray }, toks := tk } ∧ Is (s₂.heap.push { cls := .type "list", data := .seq (strValues l).toArray }) ok (.ref s₂.heap.objs.size) (.list ((Txt.splitMax x y n).map D.str)) := fun l tk ht e =>
      ⟨hk.trans ⟨⟨_, tk, rfl, fun _ _ e => Heap.get?_push_of_some _ e⟩, ht⟩, .list (hf _ fr) ⟨_, Heap.get?_push_size _ rfl, rfl, 0, rfl⟩ (e ▸ are_strs l)⟩
    have hnn : (Builtin.Str.partsBetween x (Builtin.Str.occurrences x y 0 x.length (limitOf x n)) y.length).length ≤ sizeLine := by
      have e1 := StrLaws.occ_length_le_len x y 0 x.length (limitOf x n)
      rw [length_partsBetween, sizeLine_eq]; omega
    cases h1 : (decide (x.length < y.length) || decide (Builtin.Str.strKind x < Builtin.Str.strKind y))
    · cases hf : (Builtin.Str.occurrences x y 0 x.length (limitOf x n)).isEmpty
      · refine call_meets F.slot_str_split (typeIs_str _ _ _) F.entry_str_split (F.args_str_split_3 _ _ _) (meets_str_split_sep_max x y n _ _ _ hkk h1 hy hf (by rw [sizeLine_eq]; omega) hnn) ?_
        show _ ∧ Is (s₂.heap.push { cls := .type "list", data := .seq (strsFrom s₂.toks (Builtin.Str.partsBetween x (Builtin.Str.occurrences x y 0 x.length (limitOf x n)) y.length)).toArray }) _ _ _
        rw [strsFrom_eq]
        exact fin (numbered s₂.toks _) _ (by omega) ((numbered_texts _ _).trans ((if_neg (ne_true_of_eq_false h1)).trans (if_neg (ne_true_of_eq_false hf))).symm)
      · exact call_meets F.slot_str_split (typeIs_str _ _ _) F.entry_str_split (F.args_str_split_3 _ _ _) (meets_str_split_max_not_found x y n _ _ _ hkk h1 hy hf)
          (fin [(x, _)] s₂.toks id ((if_neg (ne_true_of_eq_false h1)).trans (if_pos hf)).symm)
    · exact call_meets F.slot_str_split (typeIs_str _ _ _) F.entry_str_split (F.args_str_split_3 _ _ _) (meets_str_split_max_cannot_occur x y n _ _ _ hkk h1)
        (fin [(x, _)] s₂.toks id (if_pos h1).symm)) he
end
end Mine

/- F1 -/
namespace Mine

def segN (k : Nat) : Str := match k % 3 with
  | 0 => "a"
  | 1 => "ab"
  | _ => ""
/-- the path of a node -/
def pathN : Nat → Str
  | 0 => ""
  | n + 1 => pathN (n / 3) ++ (("/" : Str) ++ segN n)
termination_by n => n
decreasing_by omega

theorem pathN_len : ∀ n, (pathN n).length ≤ 3 * n
  | 0 => by rw [pathN]; decide
  | n + 1 => by
    rw [pathN]
    have ih := pathN_len (n / 3)
    have h1 : (segN n).length ≤ 2 := by unfold segN; split <;> decide
    have h2 : ("/" : Str).length = 1 := by decide
    simp only [Str.length_append, h2]
    omega
termination_by n => n
decreasing_by omega

theorem sp_path (w : World) (n : Nat) (hn : n < 1000) : Spec w 1 90 [.int n] (.str (pathN n)) := by
  refine spec_of ["node"] rfl rfl (by rfl) rfl ?_ rfl (by simp) (by decide) (by decide) (by decide) rfl rfl rfl rfl rfl rfl ?_
  · rintro (_ | ⟨a, _ | ⟨b, vs⟩⟩) h
    · cases h
    · rfl
    · simp at h
  · intro fx s hw hsc hce hpi htp hA S
    dsimp only at hsc
    refine w_assign S (stor hsc rfl) ev_str fun s S => ?_
    refine w_while (σ := Nat × Str) (fun a => [("path", .val (.str a.2)), ("node", .val (.int a.1))]) (fun a => pathN a.1 ++ a.2 = pathN n ∧ a.1 ≤ n) (fun a => a.1) (fun a => decide ((0 : Int) < a.1)) (n, "") (S.sub ⟨rfl, rfl, trivial⟩) ⟨Str.append_empty _, Nat.le_refl _⟩ ?_ ?_ ?_
    · intro a s h S
      exact tr_igt (ev_v S rfl) ev_int
    · intro ⟨k, acc⟩ s ⟨h1, h2⟩ hb S
      have hk : 0 < k := by simpa using hb
      obtain ⟨k, rfl⟩ : ∃ j, k = j + 1 := ⟨k - 1, by omega⟩
      have hl := pathN_len n
      have hl2 : (pathN n).length = (pathN (k + 1)).length + acc.length := by rw [← h1, Str.length_append]
      have hs : (segN k).length ≤ 2 := by unfold segN; split <;> decide
      have h9 : ("/" : Str).length = 1 := by decide
      dsimp only at h1 h2
      refine w_assign S (stor hsc rfl) (ev_add (ev_add ev_str (y := segN k) (ev_item (i := (k % 3 : Nat)) (ev_list (.cons ev_str (.cons ev_str (.cons ev_str .nil))) (fun _ _ => trivial) (by decide)) (Ev.cast (ev_imod (ev_isub (ev_v S rfl) ev_int) ev_int (by decide)) (by congr 1; omega)) (by omega) (by omega) ?_) ?_) (ev_v S rfl) ?_) fun s S => ?_
      · unfold segN
        have : k % 3 < 3 := Nat.mod_lt _ (by decide)
        rcases (by omega : k % 3 = 0 ∨ k % 3 = 1 ∨ k % 3 = 2) with h | h | h <;> simp [h]
      · omega
      · rw [Str.length_append]; dsimp only; omega
      · refine w_assign S (stor hsc rfl) (Ev.cast (d' := .int (k / 3 : Nat)) (ev_idiv (ev_isub (ev_v S rfl) ev_int) ev_int (by decide) (by decide)) (by congr 1; omega)) fun s S => ?_
        refine w_nil ⟨(k / 3, ("/" : Str) ++ segN k ++ acc), ⟨?_, ?_⟩, ?_, S.sub ⟨rfl, rfl, trivial⟩⟩
        · rw [← h1, pathN]; simp only [Str.append_assoc]
        · dsimp only; omega
        · dsimp only; omega
    · intro ⟨k, acc⟩ s ⟨h1, h2⟩ hb S
      have : k = 0 := by simpa using hb
      subst this
      refine w_return (ev_v S rfl) fun v s' k i => ?_
      rw [pathN] at h1
      have e : acc = pathN n := by rw [← h1]; exact (Str.empty_append _).symm
      subst e
      exact ret_atom S k i trivial
end Mine

/- F2 -/
namespace Mine

structure Row where
  host : Bool
  node : Nat
  user : Str
def hostS (h : Bool) : Str := if h then "1" else "0"
def signS (k : Nat) : Str := match k with
  | 0 => "u"
  | 1 => ","
  | 2 => "\""
  | 3 => "\\"
  | 4 => "="
  | 5 => " "
  | _ => ""
def toldR (n : Int) : Row := ⟨n / 4 % 2 == 1, (n / 4 / 2 % 40).toNat, signS (n / 4 / 80 % 7).toNat ++ signS (n / 4 / 560 % 7).toNat⟩
def Row.d (r : Row) : D := .list [.str (hostS r.host), .int r.node, .str r.user]

theorem signS_len (k : Nat) : (signS k).length ≤ 1 := by unfold signS; split <;> decide
theorem sign_at (k : Nat) (h : k < 7) : ([.str "u", .str ",", .str "\"", .str "\\", .str "=", .str " ", .str ""] : List D)[k]? = some (.str (signS k)) := by
  match k, h with
  | 0, _ => rfl
  | 1, _ => rfl
  | 2, _ => rfl
  | 3, _ => rfl
  | 4, _ => rfl
  | 5, _ => rfl
  | 6, _ => rfl

theorem sp_told (w : World) (n : Int) : Spec w 1 97 [.int n] (toldR n).d := by
  refine spec_of ["n"] rfl rfl (by rfl) rfl ?_ rfl (by simp) (by decide) (by decide) (by decide) rfl rfl rfl rfl rfl rfl ?_
  · rintro (_ | ⟨a, _ | ⟨b, vs⟩⟩) h
    · cases h
    · rfl
    · simp at h
  · intro fx s hw hsc hce hpi htp hA S
    dsimp only at hsc
    refine w_assign S (stor hsc rfl) (ev_idiv (ev_v S rfl) ev_int (by decide) (by decide)) fun s S => ?_
    refine w_assignN S (stor hsc rfl) (ev_list (.cons ev_str (.cons ev_str (.cons ev_str (.cons ev_str (.cons ev_str (.cons ev_str (.cons ev_str .nil))))))) (fun _ h => S.fresh h) (by decide)) fun s S => ?_
    have h1 : 0 ≤ n / 4 / 80 % 7 ∧ n / 4 / 80 % 7 < 7 := ⟨Int.emod_nonneg _ (by decide), Int.emod_lt_of_pos _ (by decide)⟩
    have h2 : 0 ≤ n / 4 / 560 % 7 ∧ n / 4 / 560 % 7 < 7 := ⟨Int.emod_nonneg _ (by decide), Int.emod_lt_of_pos _ (by decide)⟩
    have h3 : 0 ≤ n / 4 % 2 ∧ n / 4 % 2 < 2 := ⟨Int.emod_nonneg _ (by decide), Int.emod_lt_of_pos _ (by decide)⟩
    have h4 : 0 ≤ n / 4 / 2 % 40 ∧ n / 4 / 2 % 40 < 40 := ⟨Int.emod_nonneg _ (by decide), Int.emod_lt_of_pos _ (by decide)⟩
    have l1 := signS_len (n / 4 / 80 % 7).toNat
    have l2 := signS_len (n / 4 / 560 % 7).toNat
    refine w_return (ok := fx.okN) (d := (toldR n).d) (ev_list (.cons (ev_item (i := n / 4 % 2) (ev_list (.cons ev_str (.cons ev_str .nil)) (fun _ h => S.fresh h) (by decide)) (ev_imod (ev_v S rfl) ev_int (by decide)) h3.1 (by omega) ?_)
      (.cons (Ev.cast (ev_imod (ev_idiv (ev_v S rfl) ev_int (by decide) (by decide)) ev_int (by decide)) ?_)
      (.cons (ev_add (ev_item (i := n / 4 / 80 % 7) (ev_vn S rfl) (ev_imod (ev_idiv (ev_v S rfl) ev_int (by decide) (by decide)) ev_int (by decide)) h1.1 (by omega) (sign_at _ (by omega))) (ev_item (i := n / 4 / 560 % 7) (ev_vn S rfl) (ev_imod (ev_idiv (ev_v S rfl) ev_int (by decide) (by decide)) ev_int (by decide)) h2.1 (by omega) (sign_at _ (by omega))) (by omega)) .nil))) (fun _ h => S.fresh h) (Nat.le_of_ble_eq_true rfl)) fun v s' k i => ?_
    · rcases (by omega : n / 4 % 2 = 0 ∨ n / 4 % 2 = 1) with h | h <;> simp [toldR, hostS, h]
    · show D.int (n / 4 / 2 % 40) = D.int ((toldR n).node)
      congr 1
      simp only [toldR]
      omega
    · exact ⟨S.kp.trans k, i.weak fun a h => h.2⟩
end Mine

/- F3 -/
namespace Mine

/-- above a node whose name is empty: the node above it -/
def topN (a : Nat) : Nat := if 0 < a ∧ a % 3 = 0 then (a - 1) / 3 else a
def climbs (top : Nat) : Nat → Bool
  | 0 => false
  | n + 1 => n / 3 == top || climbs top (n / 3)
termination_by n => n
decreasing_by omega
def coversN (a b : Nat) : Bool := a == b || climbs (topN a) b
def coversR (r : Row) (h : Bool) (n : Nat) : Bool := r.host == h && coversN r.node n

theorem hostS_beq (a b : Bool) : (hostS a == hostS b) = (a == b) := by cases a <;> cases b <;> decide
theorem hostS_bne (a b : Bool) : (hostS a != hostS b) = (a != b) := by cases a <;> cases b <;> decide

theorem sp_covers (w : World) (r : Row) (h : Bool) (n : Nat) (rs : List D) : Spec w 1 149 [r.d, .list (.str (hostS h) :: .int n :: rs)] (.bool (coversR r h n)) := by
  refine spec_of ["row", "place"] rfl rfl (by rfl) rfl ?_ rfl (by simp) (by decide) (by decide) (by decide) rfl rfl rfl rfl rfl rfl ?_
  · rintro (_ | ⟨a, _ | ⟨b, _ | ⟨c, vs⟩⟩⟩) h <;> first | rfl | (simp at h; done)
  · intro fx s hw hsc hce hpi htp hA S
    dsimp only at hsc
    refine w_if S (tr_sne (ev_item (i := 0) (ev_v S rfl) ev_int (by decide) (by decide) rfl) (ev_item (i := 0) (ev_v S rfl) ev_int (by decide) (by decide) rfl)) (fun hb s S => ?_) fun hb s S => ?_
    · refine w_return (ok := Any) ev_bool fun v s' k i => ?_
      rw [hostS_bne] at hb
      have : coversR r h n = false := by unfold coversR; cases hr : r.host <;> cases h <;> simp_all
      rw [this]
      exact ret_atom S k i trivial
    rw [hostS_bne] at hb
    have hh : coversR r h n = coversN r.node n := by unfold coversR; cases hr : r.host <;> cases h <;> simp_all
    rw [hh]
    refine w_nilSq (w_if S (tr_ieq (ev_item (i := 1) (ev_v S rfl) ev_int (by decide) (by decide) rfl) (ev_item (i := 1) (ev_v S rfl) ev_int (by decide) (by decide) rfl)) (fun hb s S => ?_) fun hb s S => ?_)
    · refine w_return (ok := Any) ev_bool fun v s' k i => ?_
      have e : r.node = n := by have := beq_iff_eq.mp hb; omega
      have : coversN r.node n = true := by unfold coversN; simp [e]
      rw [this]
      exact ret_atom S k i trivial
    have e : r.node ≠ n := by intro q; rw [q] at hb; simp at hb
    have hh : coversN r.node n = climbs (topN r.node) n := by unfold coversN; simp [e]
    rw [hh]
    refine w_nilSq (w_assign S (stor hsc rfl) (ev_item (i := 1) (ev_var_val S rfl) ev_int (by decide) (by decide) rfl) fun s S => ?_)
    refine w_ifJ [("top", .val (.int (topN r.node))), ("row", .val r.d), ("place", .val (.list (.str (hostS h) :: .int n :: rs)))] S (tr_and (tr_igt (ev_v S rfl) ev_int) fun _ => tr_ieq (ev_imod (ev_v S rfl) ev_int (by decide)) ev_int) (fun hb s S => ?_) (fun hb s S => ?_) ?_
    · have hb' : 0 < r.node ∧ r.node % 3 = 0 := by
        simp only [Bool.and_eq_true, decide_eq_true_eq, beq_iff_eq] at hb
        omega
      refine w_assign S (stor hsc rfl) (Ev.cast (d' := .int (topN r.node)) (ev_idiv (ev_isub (ev_v S rfl) ev_int) ev_int (by decide) (by decide)) ?_) fun s S => w_nilJ (S.sub ⟨rfl, rfl, rfl, trivial⟩)
      unfold topN
      rw [if_pos hb']
      congr 1
      omega
    · have hb' : ¬ (0 < r.node ∧ r.node % 3 = 0) := by
        intro q
        simp only [Bool.and_eq_false_iff, decide_eq_false_iff_not, beq_eq_false_iff_ne] at hb
        omega
      have e : topN r.node = r.node := by unfold topN; rw [if_neg hb']
      refine w_nilJ (S.sub ⟨?_, rfl, rfl, trivial⟩)
      rw [e]; rfl
    · intro s S
      refine w_assign S (stor hsc rfl) (ev_item (i := 1) (ev_var_val S rfl) ev_int (by decide) (by decide) rfl) fun s S => ?_
      refine w_while (σ := Nat) (fun k => [("node", .val (.int k)), ("top", .val (.int (topN r.node)))]) (fun k => climbs (topN r.node) k = climbs (topN r.node) n) (fun k => k) (fun k => decide ((0 : Int) < k)) n (S.sub ⟨rfl, rfl, trivial⟩) rfl ?_ ?_ ?_
      · intro k s _ S
        exact tr_igt (ev_v S rfl) ev_int
      · intro k s hP hb S
        have hk : 0 < k := by simpa using hb
        obtain ⟨k, rfl⟩ : ∃ j, k = j + 1 := ⟨k - 1, by omega⟩
        refine w_assign S (stor hsc rfl) (Ev.cast (d' := .int (k / 3 : Nat)) (ev_idiv (ev_isub (ev_v S rfl) ev_int) ev_int (by decide) (by decide)) (by congr 1; omega)) fun s S => ?_
        rw [climbs] at hP
        refine w_if S (tr_ieq (ev_v S rfl) (ev_v S rfl)) (fun hb s S => ?_) fun hb s S => ?_
        · refine w_return (ok := Any) ev_bool fun v s' k' i => ?_
          have e : k / 3 = topN r.node := by
            have := beq_iff_eq.mp hb
            omega
          rw [← hP, e]
          simp only [beq_self_eq_true, Bool.true_or]
          exact ret_atom S k' i trivial
        · have e : k / 3 ≠ topN r.node := by
            intro q
            rw [q] at hb
            simp at hb
          refine w_nilSq (w_nil ⟨k / 3, ?_, by omega, S.sub ⟨rfl, rfl, trivial⟩⟩)
          rw [← hP]
          simp [e]
      · intro k s hP hb S
        have hk : k = 0 := by simpa using hb
        subst hk
        refine w_return (ok := Any) ev_bool fun v s' k' i => ?_
        rw [climbs] at hP
        rw [← hP]
        exact ret_atom S k' i trivial
end Mine

/- F4 -/
namespace Mine

def Row.key (r : Row) : Str := hostS r.host ++ pathN r.node
def pairD (p : Str × Str) : D := .tup [.str p.1, .str p.2]
def optD : Option (Str × Str) → D
  | none => .none
  | some p => pairD p
def dueR (rows : List Row) (h : Bool) (n : Nat) : Option (Str × Str) := (rows.find? fun r => coversR r h n).map fun r => (r.key, r.user)

theorem hostS_len (h : Bool) : (hostS h).length = 1 := by cases h <;> decide

theorem sp_due (w : World) (rows : List Row) (h : Bool) (n : Nat) (rs : List D) (hr : ∀ r ∈ rows, r.node < 1000) : Spec w 2 156 [.list (rows.map Row.d), .list (.str (hostS h) :: .int n :: rs)] (optD (dueR rows h n)) := by
  refine spec_of ["rows", "place"] rfl rfl (by rfl) rfl ?_ rfl (by simp) (by decide) (by decide) (by decide) rfl rfl rfl rfl rfl rfl ?_
  · rintro (_ | ⟨a, _ | ⟨b, _ | ⟨c, vs⟩⟩⟩) h <;> first | rfl | (simp at h; done)
  · intro fx s hw hsc hce hpi htp hA S
    dsimp only at hsc
    subst hw
    refine w_for1 S hA.hh (ev_var_val S rfl) (stor hsc rfl) (fun _ : Unit => [("rows", .val (.list (rows.map Row.d))), ("place", .val (.list (.str (hostS h) :: .int n :: rs)))]) (fun i _ => dueR rows h n = dueR (rows.drop i) h n) () ⟨rfl, rfl, trivial⟩ rfl ?_ ?_
    · intro i _ d I p s hd hR S
      rw [List.getElem?_map] at hd
      cases hr' : rows[i]? with
      | none => rw [hr'] at hd; cases hd
      | some r =>
        rw [hr'] at hd
        cases hd
        have hm : r ∈ rows := List.mem_of_getElem? hr'
        have hn := hr r hm
        have hdr : rows.drop i = r :: rows.drop (i + 1) := List.drop_eq_getElem?_toList_append.trans (by rw [hr']; rfl)
        rw [hdr] at hR
        refine w_if S (tr_bool (ev_call S (glo hsc rfl) rfl rfl (hA.less (by decide)) (sp_covers fx.w r h n rs) (.cons (ev_v S rfl) (.cons (ev_v S rfl) .nil))).any) (fun hb s S => ?_) fun hb s S => ?_
        · have hl := pathN_len r.node
          have h1 := hostS_len r.host
          refine w_return (ok := (fx.inl I p).okN) (d := pairD (r.key, r.user)) (ev_tuple (.cons (ev_add (ev_item (i := 0) (ev_v S rfl) ev_int (by decide) (by decide) rfl) (ev_call S (glo hsc rfl) rfl rfl (hA.less (by decide)) (sp_path fx.w r.node hn) (.cons (ev_item (i := 1) (ev_v S rfl) ev_int (by decide) (by decide) rfl) .nil)).any (by omega)) (.cons (ev_item (i := 2) (ev_v S rfl) ev_int (by decide) (by decide) rfl).str .nil)) (fun _ h => S.fresh h) (Nat.le_of_ble_eq_true rfl)) fun v s' k iv => ?_
          have e : dueR rows h n = some (r.key, r.user) := by
            rw [hR]
            unfold dueR
            rw [List.find?_cons, hb]
            rfl
          rw [e]
          exact ⟨S.kp.trans k, iv.weak fun a h => h.2⟩
        · refine w_nilSq (w_nil ⟨(), ?_, S.sub ⟨rfl, rfl, trivial⟩⟩)
          rw [hR]
          unfold dueR
          rw [List.find?_cons, hb]
    · intro _ s hR S
      have e : dueR rows h n = none := by
        rw [hR, List.length_map, List.drop_length]
        rfl
      rw [e]
      exact w_return (ok := Any) ev_none fun v s' k iv => ret_atom S k iv trivial
end Mine

/- F5 -/
namespace Mine

def slashed (p : Str) : Str := if Txt.slice p (some (-1)) none != "/" then p ++ ("/" : Str) else p
def subUri (a b a' b' : Str) : Bool := (a == a' && b == b') || (a == a' && Txt.startswith b' (slashed b))

theorem sp_suburi (w : World) (a b a' b' : Str) (h1 : PyData.strOk a = true) (h2 : PyData.strOk b = true) (h3 : PyData.strOk a' = true) (h4 : PyData.strOk b' = true) (hz : b.length ≤ 100000) :
    Spec w 1 64 [.mgr, .tup [.str a, .str b], .tup [.str a', .str b']] (.bool (subUri a b a' b')) := by
  refine spec_of ["self", "base", "test"] rfl rfl (by rfl) rfl ?_ rfl (by simp) (by decide) (by decide) (by decide) rfl rfl rfl rfl rfl rfl ?_
  · rintro (_ | ⟨a, _ | ⟨b, _ | ⟨c, _ | ⟨d, vs⟩⟩⟩⟩) h <;> first | rfl | (simp at h; done)
  · intro fx s hw hsc hce hpi htp hA S
    dsimp only at hsc
    refine w_if S (tr_deq hA (ev_v S rfl) (ev_v S rfl) (fit_pair h1 h2) (fit_pair h3 h4)) (fun hb s S => ?_) fun hb s S => ?_
    · rw [eqv_pair] at hb
      refine w_return (ok := Any) ev_bool fun v s' k i => ?_
      have : subUri a b a' b' = true := by unfold subUri; rw [hb]; rfl
      rw [this]
      exact ret_atom S k i trivial
    rw [eqv_pair] at hb
    have e0 : subUri a b a' b' = (a == a' && Txt.startswith b' (slashed b)) := by unfold subUri; rw [hb]; rfl
    rw [e0]
    refine w_nilSq (w_if S (tr_sne (ev_titem (i := 0) (ev_v S rfl) ev_int (by decide) (by decide) rfl) (ev_titem (i := 0) (ev_v S rfl) ev_int (by decide) (by decide) rfl)) (fun hb s S => ?_) fun hb s S => ?_)
    · refine w_return (ok := Any) ev_bool fun v s' k i => ?_
      have : (a == a') = false := by simpa using hb
      rw [this]
      exact ret_atom S k i trivial
    have e1 : (a == a') = true := by simpa using hb
    rw [e1, Bool.true_and]
    refine w_nilSq (w_assign S (stor hsc rfl) (ev_titem (i := 1) (ev_var_val S rfl) ev_int (by decide) (by decide) rfl) fun s S => ?_)
    refine w_ifJ [("prefix", .val (.str (slashed b))), ("test", .val (.tup [.str a', .str b']))] S (tr_sne (ev_slice_sn (ev_v S rfl) (ev_neg ev_int) (by omega)) ev_str) (fun hb s S => ?_) (fun hb s S => ?_) fun s S => ?_
    · have e : slashed b = b ++ ("/" : Str) := by unfold slashed; rw [if_pos hb]
      have : ("/" : Str).length = 1 := by decide
      refine w_augS S (stor hsc rfl) rfl ev_str (by omega) fun s S => w_nilJ (S.sub ⟨?_, rfl, trivial⟩)
      rw [e]; rfl
    · have e : slashed b = b := by unfold slashed; rw [if_neg (by rw [hb]; decide)]
      refine w_nilJ (S.sub ⟨?_, rfl, trivial⟩)
      rw [e]; rfl
    · refine w_return (ok := Any) (ev_startswith (ev_titem (i := 1) (ev_v S rfl) ev_int (by decide) (by decide) rfl) (ev_v S rfl) rfl) fun v s' k i => ?_
      exact ret_atom S k i trivial
end Mine

/- F6 -/
namespace Mine

def hd1 (x : Str) : Str := Txt.slice x none (some 1)
def tl1 (x : Str) : Str := Txt.slice x (some 1) none
/-- does key cover place -/
def keyCovers (key place : Str) : Bool := subUri (hd1 key) (tl1 key) (hd1 place) (tl1 place)
def firstP (pairs : List (Str × Str)) (place : Str) : Option (Str × Str) := pairs.find? fun p => keyCovers p.1 place

theorem strOk_slice (x : Str) (l u : Option Int) (h : PyData.strOk x = true) : PyData.strOk (Txt.slice x l u) = true := by
  unfold Txt.slice
  split
  · exact h
  · unfold PyData.strOk at h ⊢
    simp only [List.all_toArray, List.all_eq_true, Array.all_eq_true', decide_eq_true_eq] at h ⊢
    intro c hc
    obtain ⟨k, _, hk⟩ := List.mem_filterMap.mp hc
    exact h c (Array.mem_of_getElem? hk)

theorem sp_first (w : World) (pairs : List (Str × Str)) (place : Str) (h1 : ∀ p ∈ pairs, PyData.strOk p.1 = true ∧ p.1.length ≤ 100000) (h2 : PyData.strOk place = true) (h3 : place.length ≤ 100000) :
    Spec w 2 123 [.mgr, .list (pairs.map pairD), .str place] (optD (firstP pairs place)) := by
  refine spec_of ["manager", "pairs", "place"] rfl rfl (by rfl) rfl ?_ rfl (by simp) (by decide) (by decide) (by decide) rfl rfl rfl rfl rfl rfl ?_
  · rintro (_ | ⟨a, _ | ⟨b, _ | ⟨c, _ | ⟨d, vs⟩⟩⟩⟩) h <;> first | rfl | (simp at h; done)
  · intro fx s hw hsc hce hpi htp hA S
    dsimp only at hsc
    subst hw
    refine w_for2 (ds := pairs.map fun p => (.str p.1, .str p.2)) S hA.hh (Ev.cast (ev_var_val S rfl) (by rw [List.map_map]; rfl)) (stor hsc rfl) (stor hsc rfl) (fun _ : Unit => [("manager", .val .mgr), ("place", .val (.str place))]) (fun i _ => firstP pairs place = firstP (pairs.drop i) place) () ⟨rfl, rfl, trivial⟩ rfl ?_ ?_
    · intro i _ d I p s hd hR S
      rw [List.getElem?_map] at hd
      cases hr' : pairs[i]? with
      | none => rw [hr'] at hd; cases hd
      | some q =>
        rw [hr'] at hd
        cases hd
        have hm : q ∈ pairs := List.mem_of_getElem? hr'
        obtain ⟨hq1, hq2⟩ := h1 q hm
        have hdr : pairs.drop i = q :: pairs.drop (i + 1) := List.drop_eq_getElem?_toList_append.trans (by rw [hr']; rfl)
        rw [hdr] at hR
        refine w_if S (tr_bool (ev_suburi (ds := [.tup [.str (hd1 q.1), .str (tl1 q.1)], .tup [.str (hd1 place), .str (tl1 place)]]) S (hA.less (Nat.le_refl _)) (ev_v S rfl) (sp_suburi fx.w _ _ _ _ (strOk_slice _ _ _ hq1) (strOk_slice _ _ _ hq1) (strOk_slice _ _ _ h2) (strOk_slice _ _ _ h2) (Nat.le_trans (Txt.slice_le _ _ _) hq2))
          (.cons (ev_tuple (.cons (ev_slice_ns (ev_v S rfl) ev_int (by omega)) (.cons (ev_slice_sn (ev_v S rfl) ev_int (by omega)) .nil)) (fun _ _ => trivial) (Nat.le_of_ble_eq_true rfl)) (.cons (ev_tuple (.cons (ev_slice_ns (ev_v S rfl) ev_int (by omega)) (.cons (ev_slice_sn (ev_v S rfl) ev_int (by omega)) .nil)) (fun _ _ => trivial) (Nat.le_of_ble_eq_true rfl)) .nil)) rfl).any) (fun hb s S => ?_) fun hb s S => ?_
        · refine w_return (ok := (fx.inl I p).okN) (d := pairD q) (ev_tuple (.cons (ev_v S rfl).str (.cons (ev_v S rfl).str .nil)) (fun _ h => S.fresh h) (Nat.le_of_ble_eq_true rfl)) fun v s' k iv => ?_
          have e : firstP pairs place = some q := by
            rw [hR]
            unfold firstP
            rw [List.find?_cons]
            have hb' : keyCovers q.1 place = true := hb
            rw [hb']
          rw [e]
          exact ⟨S.kp.trans k, iv.weak fun a h => h.2⟩
        · refine w_nilSq (w_nil ⟨(), ?_, S.sub ⟨rfl, rfl, trivial⟩⟩)
          rw [hR]
          unfold firstP
          rw [List.find?_cons]
          have hb' : keyCovers q.1 place = false := hb
          rw [hb']
    · intro _ s hR S
      have e : firstP pairs place = none := by
        rw [hR, List.length_map, List.drop_length]
        rfl
      rw [e]
      exact w_return (ok := Any) ev_none fun v s' k iv => ret_atom S k iv trivial
end Mine

/- F7 -/
namespace Mine

def thinStep (left : List (Str × Str)) (p : Str × Str) : List (Str × Str) := if (firstP left p.1).isNone then left ++ [p] else left
def thinP (pairs : List (Str × Str)) : List (Str × Str) := pairs.foldl thinStep []

theorem optD_isNone (o : Option (Str × Str)) : (optD o).isNone = o.isNone := by cases o <;> rfl

theorem thin_sub (P : Str × Str → Prop) : ∀ (pairs left : List (Str × Str)), (∀ p ∈ left, P p) → (∀ p ∈ pairs, P p) → ∀ p ∈ pairs.foldl thinStep left, P p
  | [], left, h, _ => h
  | q :: r, left, h, h' => by
    rw [List.foldl_cons]
    refine thin_sub P r _ ?_ fun p hp => h' p (List.mem_cons_of_mem _ hp)
    intro p hp
    unfold thinStep at hp
    split at hp
    · rcases List.mem_append.mp hp with hp | hp
      · exact h p hp
      · rw [List.mem_singleton.mp hp]; exact h' q List.mem_cons_self
    · exact h p hp

theorem sp_thin (w : World) (pairs : List (Str × Str)) (h1 : ∀ p ∈ pairs, PyData.strOk p.1 = true ∧ p.1.length ≤ 100000) (hn : pairs.length ≤ 1000) :
    Spec w 3 130 [.mgr, .list (pairs.map pairD)] (.list ((thinP pairs).map pairD)) := by
  refine spec_of ["manager", "pairs"] rfl rfl (by rfl) rfl ?_ rfl (by simp) (by decide) (by decide) (by decide) rfl rfl rfl rfl rfl rfl ?_
  · rintro (_ | ⟨a, _ | ⟨b, _ | ⟨c, vs⟩⟩⟩) h <;> first | rfl | (simp at h; done)
  · intro fx s hw hsc hce hpi htp hA S
    dsimp only at hsc
    subst hw
    refine w_newlist S (stor hsc rfl) fun r s S => ?_
    refine w_for2 (f := fx.plus r) (ds := pairs.map fun p => (.str p.1, .str p.2)) S hA.hh (Ev.cast (ev_var_val S rfl) (by rw [List.map_map]; rfl)) (stor hsc rfl) (stor hsc rfl) (fun left : List (Str × Str) => [("left", .own r (.list (left.map pairD))), ("manager", .val .mgr)]) (fun i left => left = (pairs.take i).foldl thinStep [] ∧ left.length ≤ i ∧ ∀ p ∈ left, p ∈ pairs) [] ⟨rfl, rfl, trivial⟩ ⟨rfl, Nat.le_refl _, fun p hp => (nomatch hp)⟩ ?_ ?_
    · intro i left d I p s hd hR S
      obtain ⟨hR, hRl, hRm⟩ := hR
      rw [List.getElem?_map] at hd
      cases hr' : pairs[i]? with
      | none => rw [hr'] at hd; cases hd
      | some q =>
        rw [hr'] at hd
        cases hd
        have hm : q ∈ pairs := List.mem_of_getElem? hr'
        have hi : i < pairs.length := (List.getElem?_eq_some_iff.mp hr').1
        obtain ⟨hq1, hq2⟩ := h1 q hm
        have ht : (pairs.take (i + 1)).foldl thinStep [] = thinStep left q := by
          rw [List.take_add_one, hr', List.foldl_append, ← hR]; rfl
        refine w_if S (tr_isnone (ev_call S (glo hsc rfl) rfl rfl (hA.less (Nat.le_refl _)) (sp_first fx.w left q.1 (fun p hp => h1 p (hRm p hp)) hq1 hq2) (.cons (ev_v S rfl) (.cons (ev_var_own S rfl) (.cons (ev_v S rfl) .nil)))).any) (fun hb s S => ?_) fun hb s S => ?_
        · have e : thinStep left q = left ++ [q] := by
            rw [optD_isNone] at hb
            unfold thinStep
            rw [hb]; rfl
          refine w_append S rfl rfl (d := pairD q) (ev_tuple (.cons (ev_v S rfl).str (.cons (ev_v S rfl).str .nil)) (fun _ h => S.fresh h) (Nat.le_of_ble_eq_true rfl)) (by rw [List.length_map]; omega) (fun s S => w_nilSq (w_nil ⟨left ++ [q], ⟨by rw [ht, e], by simp; omega, ?_⟩, S.sub ⟨?_, rfl, trivial⟩⟩)) rfl
          · intro p hp
            rcases List.mem_append.mp hp with hp | hp
            · exact hRm p hp
            · rw [List.mem_singleton.mp hp]; exact hm
          · rw [List.map_append]; rfl
        · have e : thinStep left q = left := by
            rw [optD_isNone] at hb
            unfold thinStep
            rw [hb]; rfl
          exact w_nilSq (w_nil ⟨left, ⟨by rw [ht, e], by omega, hRm⟩, S.sub ⟨rfl, rfl, trivial⟩⟩)
    · intro left s hR S
      refine w_return (ev_ret_own S rfl) fun v s' k iv => ⟨S.kp.trans k, ?_⟩
      have : thinP pairs = left := by rw [hR.1, List.length_map, List.take_length]; rfl
      rw [this]
      exact iv
end Mine

/- F8 -/
namespace Mine

def esc1 (u : Str) : Str := Txt.replace u "\\" "\\\\"
def quoteS (u : Str) : Str := Txt.replace (esc1 u) "\"" "\\\""
def wStep (h : Str) (p : Str × Str) : Str := h ++ (" " : Str) ++ p.1 ++ ("=\"" : Str) ++ quoteS p.2 ++ ("\"," : Str)
def writtenP (pairs : List (Str × Str)) : Str := pairs.foldl wStep ""

structure PairOk (p : Str × Str) : Prop where
  k : p.1.length ≤ 1000
  u : p.2.length ≤ 1000
  e : (esc1 p.2).length ≤ 1000
  q : (quoteS p.2).length ≤ 1000

theorem wStep_len (h : Str) (p : Str × Str) (o : PairOk p) : (wStep h p).length ≤ h.length + 2010 := by
  have h1 := o.k
  have h2 := o.q
  have e1 : (" " : Str).length = 1 := by decide
  have e2 : ("=\"" : Str).length = 2 := by decide
  have e3 : ("\"," : Str).length = 2 := by decide
  simp only [wStep, Str.length_append, e1, e2, e3]
  omega

theorem sp_written (w : World) (pairs : List (Str × Str)) (hp : ∀ p ∈ pairs, PairOk p) (hn : pairs.length ≤ 1000) : Spec w 1 109 [.list (pairs.map pairD)] (.str (writtenP pairs)) := by
  refine spec_of ["pairs"] rfl rfl (by rfl) rfl ?_ rfl (by simp) (by decide) (by decide) (by decide) rfl rfl rfl rfl rfl rfl ?_
  · rintro (_ | ⟨a, _ | ⟨b, vs⟩⟩) h <;> first | rfl | (simp at h; done)
  · intro fx s hw hsc hce hpi htp hA S
    dsimp only at hsc
    subst hw
    refine w_assign S (stor hsc rfl) ev_str fun s S => ?_
    refine w_for2 (ds := pairs.map fun p => (.str p.1, .str p.2)) S hA.hh (Ev.cast (ev_var_val S rfl) (by rw [List.map_map]; rfl)) (stor hsc rfl) (stor hsc rfl) (fun h : Str => [("header", .val (.str h))]) (fun i h => h = (pairs.take i).foldl wStep "" ∧ h.length ≤ 2010 * i) "" ⟨rfl, trivial⟩ ⟨rfl, by decide⟩ ?_ ?_
    · intro i h d I p s hd hR S
      obtain ⟨hR, hRl⟩ := hR
      rw [List.getElem?_map] at hd
      cases hr' : pairs[i]? with
      | none => rw [hr'] at hd; cases hd
      | some q =>
        rw [hr'] at hd
        cases hd
        have hm : q ∈ pairs := List.mem_of_getElem? hr'
        have hi : i < pairs.length := (List.getElem?_eq_some_iff.mp hr').1
        have o := hp q hm
        have ht : (pairs.take (i + 1)).foldl wStep "" = wStep h q := by
          rw [List.take_add_one, hr', List.foldl_append, ← hR]; rfl
        have ok := o.k
        have ou := o.u
        have oe := o.e
        have oq := o.q
        have e1 : (" " : Str).length = 1 := by decide
        have e2 : ("=\"" : Str).length = 2 := by decide
        have e3 : ("\"," : Str).length = 2 := by decide
        refine w_assign S (stor hsc rfl) (d := .str (quoteS q.2)) (ev_replace S htp (ev_replace S htp (ev_v S rfl) (by decide) (by decide) (by omega) rfl) (by decide) (by decide) (show (esc1 q.2).length ≤ _ by omega) rfl) fun s S => ?_
        refine w_assign S (stor hsc rfl) (d := .str (wStep h q)) (ev_add (ev_add (ev_add (ev_add (ev_add (ev_v S rfl) ev_str ?_) (ev_v S rfl) ?_) ev_str ?_) (ev_v S rfl) ?_) ev_str ?_) fun s S => ?_
        · omega
        · simp only [Str.length_append]; omega
        · simp only [Str.length_append]; omega
        · simp only [Str.length_append]; omega
        · simp only [Str.length_append]; omega
        · have := wStep_len h q o
          exact w_nil ⟨wStep h q, ⟨ht.symm, by omega⟩, S.sub ⟨rfl, trivial⟩⟩
    · intro h s hR S
      have : writtenP pairs = h := by rw [hR.1, List.length_map, List.take_length]; rfl
      rw [this]
      exact w_return (ok := Any) (ev_v S rfl) fun v s' k iv => ret_atom S k iv trivial
end Mine

/- F9 -/
namespace Mine

theorem getD_map {α : Type} {f : α → D} {l : List α} {i : Nat} {a : α} (h : l[i]? = some a) : (l.map f).getD i .none = f a := by
  rw [List.getD_eq_getElem?_getD, List.getElem?_map, h]; rfl
theorem take_map_succ {α β : Type} (f : α → β) {l : List α} {i : Nat} {a : α} (h : l[i]? = some a) : (l.take (i + 1)).map f = (l.take i).map f ++ [f a] := by
  rw [List.take_add_one, h, List.map_append]; rfl

theorem sp_pairs (w : World) (rows : List Row) (hr : ∀ r ∈ rows, r.node < 1000) (hn : rows.length ≤ 1000) : Spec w 2 102 [.list (rows.map Row.d)] (.list (rows.map fun r => pairD (r.key, r.user))) := by
  refine spec_of ["rows"] rfl rfl (by rfl) rfl ?_ rfl (by simp) (by decide) (by decide) (by decide) rfl rfl rfl rfl rfl rfl ?_
  · rintro (_ | ⟨a, _ | ⟨b, vs⟩⟩) h <;> first | rfl | (simp at h; done)
  · intro fx s hw hsc hce hpi htp hA S
    dsimp only at hsc
    subst hw
    have hlm : (rows.map Row.d).length = rows.length := List.length_map _
    refine w_return (ok := fx.okN) (ev_comp (fun i => (rows.take i).map fun r => pairD (r.key, r.user)) fx.okN S (src_list hA.hh (ev_v S rfl)) (closureFor_none (by decide)) (fun x a h => (nomatch h)) (by decide) rfl (by decide) rfl (fun a h => S.fresh h) rfl (fun i hi => by rw [List.length_map, List.length_take]; omega) ?_) fun v s' k iv => ?_
    · intro i g s₀ s' k₀ hi hI S'
      rw [hlm] at hi
      have hd : rows[i]? = some rows[i] := List.getElem?_eq_getElem hi
      generalize rows[i] = r at hd
      have hm : r ∈ rows := List.mem_of_getElem? hd
      have hn := hr r hm
      rw [getD_map hd] at S'
      have hl := pathN_len r.node
      have h1 := hostS_len r.host
      have hA' : Lv g.A 1 := by rw [hI.A]; exact hA
      have hsp : Spec g.w 1 90 [.int r.node] (.str (pathN r.node)) := sp_path g.w r.node hn
      refine wpAny_pure ⟨Kp.refl _, pairD (r.key, r.user), take_map_succ _ hd, ?_⟩
      exact ev_tuple (.cons (ev_add (ev_item (i := 0) (ev_v S' rfl) ev_int (by decide) (by decide) rfl) (ev_call S' (glo hI.sc rfl) rfl rfl hA' hsp (.cons (ev_item (i := 1) (ev_v S' rfl) ev_int (by decide) (by decide) rfl) .nil)).any (by omega)) (.cons (ev_item (i := 2) (ev_v S' rfl) ev_int (by decide) (by decide) rfl).str .nil)) hI.fr (Nat.le_of_ble_eq_true rfl)
    · rw [hlm, List.take_length] at iv
      exact ⟨S.kp.trans k, iv.weak fun a h => h.2⟩
end Mine

/- F10 -/
namespace Mine

structure HSt where
  res : List Str
  part : Str
  esc : Bool
  quo : Bool
def chS (c : Nat) : Str := ⟨#[c]⟩
def hStep (h : HSt) (c : Nat) : HSt :=
  if h.esc = true then ⟨h.res, h.part ++ chS c, false, h.quo⟩
  else if h.quo = true then
    (if (chS c == ("\\" : Str)) = true then ⟨h.res, h.part, true, true⟩
    else if (chS c == ("\"" : Str)) = true then ⟨h.res, h.part ++ chS c, false, false⟩
    else ⟨h.res, h.part ++ chS c, false, true⟩)
  else if (chS c == ("," : Str)) = true then ⟨h.res ++ [h.part], "", false, false⟩
  else if (chS c == ("\"" : Str)) = true then ⟨h.res, h.part ++ chS c, false, true⟩
  else ⟨h.res, h.part ++ chS c, false, false⟩
def hEnd (h : HSt) : List Str := if h.part.length != 0 then h.res ++ [h.part] else h.res
def httpP (x : Str) : List Str := (hEnd (x.cps.toList.foldl hStep ⟨[], "", false, false⟩)).map Txt.strip

/-- small as yet -/
structure HSmall (i : Nat) (h : HSt) : Prop where
  a : h.part.length ≤ i
  b : h.res.length ≤ i
  c : ∀ r ∈ h.res, r.length ≤ i

theorem chS_len (c : Nat) : (chS c).length = 1 := rfl
theorem hStep_small {i : Nat} {h : HSt} (c : Nat) (q : HSmall i h) : HSmall (i + 1) (hStep h c) := by
  obtain ⟨a, b, cc⟩ := q
  have l := chS_len c
  have e : ("" : Str).length = 0 := by decide
  unfold hStep
  repeat' split
  all_goals refine ⟨?_, ?_, ?_⟩ <;> simp only [Str.length_append, List.length_append, List.length_singleton, List.mem_append, List.mem_singleton]
  all_goals first | omega | (intro r hr; have := cc r hr; omega) | (rintro r (hr | rfl); (have := cc r hr; omega); omega)

def hG (r : Addr) (h : HSt) : List (Str × Ent) := [("part", .val (.str h.part)), ("escape", .val (.bool h.esc)), ("quote", .val (.bool h.quo)), ("res", .own r (.list (h.res.map D.str)))]

theorem sp_http (w : World) (x : Str) (hz : x.length ≤ 100000) : Spec w 1 83 [.str x] (.list ((httpP x).map D.str)) := by
  refine spec_of ["s"] rfl rfl (by rfl) rfl ?_ rfl (by simp) (by decide) (by decide) (by decide) rfl rfl rfl rfl rfl rfl ?_
  · rintro (_ | ⟨a, _ | ⟨b, vs⟩⟩) h <;> first | rfl | (simp at h; done)
  · intro fx s hw hsc hce hpi htp hA S
    dsimp only at hsc
    subst hw
    refine w_newlist S (stor hsc rfl) fun r s S => ?_
    refine w_assign (f := fx.plus r) S (stor hsc rfl) ev_str fun s S => ?_
    refine w_assign2 (f := fx.plus r) S (stor hsc rfl) (stor hsc rfl) ev_bool fun s S => ?_
    refine w_fors (f := fx.plus r) S hA.hh (ev_v S rfl) (stor hsc rfl) (hG r) (fun i h => h = (x.cps.toList.take i).foldl hStep ⟨[], "", false, false⟩ ∧ HSmall i h) ⟨[], "", false, false⟩ ⟨rfl, rfl, rfl, rfl, trivial⟩ ⟨rfl, by decide, by simp, fun r hr => (nomatch hr)⟩ ?_ ?_
    · intro i h c I p s hc hR S
      obtain ⟨hR, hS⟩ := hR
      have hi : i < x.cps.size := (Array.getElem?_eq_some_iff.mp hc).1
      have hi' : i < 100000 := Nat.lt_of_lt_of_le hi hz
      have ht : (x.cps.toList.take (i + 1)).foldl hStep ⟨[], "", false, false⟩ = hStep h c := by
        rw [List.take_add_one, Array.getElem?_toList, hc, List.foldl_append, ← hR]; rfl
      have l := chS_len c
      have hp := hS.a
      have fin : ∀ {h' : HSt} {s'}, hStep h c = h' → St ((fx.plus r).inl I p) (hG r h') s' → ∃ a', (a' = (x.cps.toList.take (i + 1)).foldl hStep ⟨[], "", false, false⟩ ∧ HSmall (i + 1) a') ∧ St ((fx.plus r).inl I p) (hG r a') s' := fun {h' s'} e S => ⟨h', ⟨by rw [ht, e], e ▸ hStep_small c hS⟩, S⟩
      refine w_if S (tr_bool (ev_v S rfl)) (fun hb s S => ?_) fun hb s S => ?_
      · refine w_augS S (stor hsc rfl) rfl (ev_v S rfl) (show h.part.length + (chS c).length ≤ _ by omega) fun s S => ?_
        refine w_assign S (stor hsc rfl) ev_bool fun s S => w_continue (fin (h' := ⟨h.res, h.part ++ chS c, false, h.quo⟩) ?_ (S.sub ⟨rfl, rfl, rfl, rfl, trivial⟩))
        unfold hStep; rw [if_pos hb]
      refine w_nilSq (w_if S (tr_bool (ev_v S rfl)) (fun hq s S => ?_) fun hq s S => ?_)
      · have e0 : hStep h c = (if (chS c == ("\\" : Str)) = true then ⟨h.res, h.part, true, true⟩
            else if (chS c == ("\"" : Str)) = true then ⟨h.res, h.part ++ chS c, false, false⟩
            else ⟨h.res, h.part ++ chS c, false, true⟩) := by
          unfold hStep; rw [if_neg (by rw [hb]; decide), if_pos hq]
        refine w_if S (tr_seq (ev_v S rfl) ev_str) (fun h1 s S => ?_) fun h1 s S => ?_
        · refine w_assign S (stor hsc rfl) ev_bool fun s S => w_continue (fin (h' := ⟨h.res, h.part, true, true⟩) ?_ (S.sub ⟨rfl, rfl, ?_, rfl, trivial⟩))
          · rw [e0]; exact if_pos h1
          · show some (Ent.val (.bool h.quo)) = _
            rw [hq]
        · refine w_if S (tr_seq (ev_v S rfl) ev_str) (fun h2 s S => ?_) fun h2 s S => ?_
          · refine w_assign S (stor hsc rfl) ev_bool fun s S => w_nilSq (w_nilSq (w_augS S (stor hsc rfl) rfl (ev_v S rfl) (show h.part.length + (chS c).length ≤ _ by omega) fun s S => w_continue (fin (h' := ⟨h.res, h.part ++ chS c, false, false⟩) ?_ (S.sub ⟨rfl, ?_, rfl, rfl, trivial⟩))))
            · rw [e0]; exact (if_neg (by rw [show (chS c == ("\\" : Str)) = false from h1]; decide)).trans (if_pos h2)
            · show some (Ent.val (.bool h.esc)) = _
              rw [hb]
          · refine w_nilSq (w_nilSq (w_augS S (stor hsc rfl) rfl (ev_v S rfl) (show h.part.length + (chS c).length ≤ _ by omega) fun s S => w_continue (fin (h' := ⟨h.res, h.part ++ chS c, false, true⟩) ?_ (S.sub ⟨rfl, ?_, ?_, rfl, trivial⟩))))
            · rw [e0]; exact (if_neg (by rw [show (chS c == ("\\" : Str)) = false from h1]; decide)).trans (if_neg (by rw [show (chS c == ("\"" : Str)) = false from h2]; decide))
            · show some (Ent.val (.bool h.esc)) = _
              rw [hb]
            · show some (Ent.val (.bool h.quo)) = _
              rw [hq]
      · have e0 : hStep h c = (if (chS c == ("," : Str)) = true then ⟨h.res ++ [h.part], "", false, false⟩
            else if (chS c == ("\"" : Str)) = true then ⟨h.res, h.part ++ chS c, false, true⟩
            else ⟨h.res, h.part ++ chS c, false, false⟩) := by
          unfold hStep; rw [if_neg (by rw [hb]; decide), if_neg (by rw [hq]; decide)]
        refine w_nilSq (w_if S (tr_seq (ev_v S rfl) ev_str) (fun h1 s S => ?_) fun h1 s S => ?_)
        · refine w_append S rfl rfl (d := .str h.part) (ev_v S rfl).str (by rw [List.length_map]; have := hS.b; omega) (fun s S => ?_) rfl
          refine w_assign S (stor hsc rfl) ev_str fun s S => w_continue (fin (h' := ⟨h.res ++ [h.part], "", false, false⟩) ?_ (S.sub ⟨rfl, ?_, ?_, ?_, trivial⟩))
          · rw [e0]; exact if_pos h1
          · show some (Ent.val (.bool h.esc)) = _
            rw [hb]
          · show some (Ent.val (.bool h.quo)) = _
            rw [hq]
          · rw [List.map_append]; rfl
        · refine w_nilSq (w_if S (tr_seq (ev_v S rfl) ev_str) (fun h2 s S => ?_) fun h2 s S => ?_)
          · refine w_assign S (stor hsc rfl) ev_bool fun s S => w_nilSq (w_augS S (stor hsc rfl) rfl (ev_v S rfl) (show h.part.length + (chS c).length ≤ _ by omega) fun s S => w_nil (fin (h' := ⟨h.res, h.part ++ chS c, false, true⟩) ?_ (S.sub ⟨rfl, ?_, rfl, rfl, trivial⟩)))
            · rw [e0]; exact (if_neg (by rw [show (chS c == ("," : Str)) = false from h1]; decide)).trans (if_pos h2)
            · show some (Ent.val (.bool h.esc)) = _
              rw [hb]
          · refine w_nilSq (w_augS S (stor hsc rfl) rfl (ev_v S rfl) (show h.part.length + (chS c).length ≤ _ by omega) fun s S => w_nil (fin (h' := ⟨h.res, h.part ++ chS c, false, false⟩) ?_ (S.sub ⟨rfl, ?_, ?_, rfl, trivial⟩)))
            · rw [e0]; exact (if_neg (by rw [show (chS c == ("," : Str)) = false from h1]; decide)).trans (if_neg (by rw [show (chS c == ("\"" : Str)) = false from h2]; decide))
            · show some (Ent.val (.bool h.esc)) = _
              rw [hb]
            · show some (Ent.val (.bool h.quo)) = _
              rw [hq]
    · intro h s hR S
      obtain ⟨hR, hS⟩ := hR
      have hz' : x.cps.size ≤ 100000 := hz
      have hh : x.cps.toList.foldl hStep ⟨[], "", false, false⟩ = h := by
        rw [hR, ← Array.length_toList, List.take_length]
      have hx : httpP x = (hEnd h).map Txt.strip := by unfold httpP; rw [hh]
      have hl : ∀ r ∈ hEnd h, r.length ≤ 100000 := by
        intro r hr
        unfold hEnd at hr
        split at hr
        · rcases List.mem_append.mp hr with hr | hr
          · have := hS.c r hr; omega
          · rw [List.mem_singleton.mp hr]; have := hS.a; omega
        · have := hS.c r hr; omega
      have hn : (hEnd h).length ≤ 100001 := by
        have := hS.b
        unfold hEnd
        split
        · rw [List.length_append, List.length_singleton]; omega
        · omega
      refine w_ifJ [("res", .own r (.list ((hEnd h).map D.str)))] S (tr_str (ev_v S rfl) (by have := hS.a; omega)) (fun hb s S => ?_) (fun hb s S => ?_) fun s S => ?_
      · refine w_append S rfl rfl (d := .str h.part) (ev_v S rfl).str (by rw [List.length_map]; have := hS.b; omega) (fun s S => w_nilJ (S.sub ⟨?_, trivial⟩)) rfl
        unfold hEnd
        rw [if_pos hb, List.map_append]; rfl
      · refine w_nilJ (S.sub ⟨?_, trivial⟩)
        unfold hEnd
        rw [if_neg (by rw [hb]; decide)]; rfl
      · rw [hx]
        have hlm : ((hEnd h).map D.str).length = (hEnd h).length := List.length_map _
        refine w_return (ok := (fx.plus r).okN) (ev_comp (fun i => ((hEnd h).take i).map fun q => .str (Txt.strip q)) (fx.plus r).okN S (src_list hA.hh (ev_var_own S rfl)) (closureFor_none (by decide)) (fun x a h => (nomatch h)) (by decide) rfl (by decide) rfl (fun a h => S.fresh h) rfl (fun i hi => by rw [List.length_map, List.length_take]; omega) ?_) fun v s' k iv => ?_
        · intro i g s₀ s' k₀ hi hI S'
          rw [hlm] at hi
          have hd : (hEnd h)[i]? = some (hEnd h)[i] := List.getElem?_eq_getElem hi
          generalize (hEnd h)[i] = q at hd
          have hm : q ∈ hEnd h := List.mem_of_getElem? hd
          have hq := hl q hm
          rw [getD_map hd] at S'
          exact wpAny_pure ⟨Kp.refl _, .str (Txt.strip q), take_map_succ _ hd, ev_strip (ev_v S' rfl) (by omega) rfl⟩
        · rw [hlm, List.take_length] at iv
          refine ⟨S.kp.trans k, ?_⟩
          rw [List.map_map]
          exact iv.weak fun a h => h.2
end Mine

/- F11 -/
namespace Mine

/-- the quotes taken away -/
def unq (v : Str) : Str := if (Txt.item v 0 == ("\"" : Str) && Txt.item v (-1) == ("\"" : Str)) = true then Txt.slice v (some 1) (some (-1)) else v
def keqvStep (kv : Str → Str × Str) (ps : List (Str × Str)) (e : Str) : List (Str × Str) := putP ps (kv e).1 (unq (kv e).2)
def SpecK (w : World) (k : Nat) (f : Addr) (ds : List D) (ps : List (Str × Str)) : Prop :=
  ∀ A s vs, Gr w s.heap → Lv A k → Are s.heap Any vs ds → wpAny (Mo w) A (call (.ref f) vs) (fun v s' => Kp s s' ∧ ∃ a, v = .ref a ∧ IsDict w s'.heap a ps) NoE s

theorem putP_len (ps : List (Str × Str)) (k v : Str) : (putP ps k v).length ≤ ps.length + 1 := by
  unfold putP
  split <;> simp

theorem sp_keqv (w : World) (els : List Str) (kv : Str → Str × Str) (h : ∀ e ∈ els, Txt.splitMax e "=" 1 = [(kv e).1, (kv e).2] ∧ 1 ≤ (kv e).2.length ∧ e.length ≤ 100000) (hn : els.length ≤ 1000) :
    SpecK w 1 78 [.list (els.map D.str)] (els.foldl (keqvStep kv) []) := by
  intro A s vs G hL ha
  refine spec_gen (post := fun s v s' => Kp s s' ∧ ∃ a, v = .ref a ∧ IsDict w s'.heap a (els.foldl (keqvStep kv) [])) ["l"] rfl rfl (by rfl) rfl ?_ rfl (by simp) (by decide) (by decide) (by decide) rfl rfl rfl rfl rfl rfl ?_ G hL ha
  · rintro (_ | ⟨a, _ | ⟨b, vs⟩⟩) h <;> first | rfl | (simp at h; done)
  · intro fx s hw hsc hce hpi htp hA S
    dsimp only at hsc
    subst hw
    refine w_newdict S (stor hsc rfl) fun r s S => ?_
    refine w_for1 (f := fx.plus r) S hA.hh (ev_var_val S rfl) (stor hsc rfl) (fun ps : List (Str × Str) => [("parsed", .own r (.dict ps))]) (fun i ps => ps = (els.take i).foldl (keqvStep kv) [] ∧ ps.length ≤ i) [] ⟨rfl, trivial⟩ ⟨rfl, Nat.le_refl _⟩ ?_ ?_
    · intro i ps d I p s hd hR S
      obtain ⟨hR, hRl⟩ := hR
      rw [List.getElem?_map] at hd
      cases hr' : els[i]? with
      | none => rw [hr'] at hd; cases hd
      | some e =>
        rw [hr'] at hd
        cases hd
        have hm : e ∈ els := List.mem_of_getElem? hr'
        have hi : i < els.length := (List.getElem?_eq_some_iff.mp hr').1
        obtain ⟨he1, he2, he3⟩ := h e hm
        have hv : (kv e).2.length ≤ 100000 := Nat.le_trans (partMax_short (by rw [he1]; simp)) he3
        have ht : (els.take (i + 1)).foldl (keqvStep kv) [] = keqvStep kv ps e := by
          rw [List.take_add_one, hr', List.foldl_append, ← hR]; rfl
        refine w_unpackL S hA.hh (stor hsc rfl) (stor hsc rfl) (Ev.cast (ev_split (ok := Any) (ev_v S rfl) ev_str ev_int (by decide) (by decide) (by omega) (fun _ _ => trivial) rfl) (by rw [he1]; rfl)) fun s S => ?_
        refine w_ifJ [("v", .val (.str (unq (kv e).2))), ("k", .val (.str (kv e).1)), ("parsed", .own r (.dict ps))] S (tr_and (tr_seq (ev_sitem (ev_v S rfl) ev_int (by omega) (by omega) (by decide) (by decide)) ev_str) fun _ => tr_seq (ev_sitem (ev_v S rfl) (ev_neg ev_int) (by omega) (by omega) (by decide) (by decide)) ev_str) (fun hb s S => ?_) (fun hb s S => ?_) fun s S => ?_
        · refine w_assign S (stor hsc rfl) (ev_slice_ss (ev_v S rfl) ev_int (ev_neg ev_int) (by omega)) fun s S => w_nilJ (S.sub ⟨?_, rfl, rfl, trivial⟩)
          unfold unq
          rw [if_pos hb]
          rfl
        · refine w_nilJ (S.sub ⟨?_, rfl, rfl, trivial⟩)
          unfold unq
          rw [if_neg (by rw [show (Txt.item (kv e).2 0 == ("\"" : Str) && Txt.item (kv e).2 (-1) == ("\"" : Str)) = false from hb]; decide)]
          rfl
        · refine w_dictput S rfl rfl rfl rfl (by omega) fun s S => w_nil ⟨keqvStep kv ps e, ⟨ht.symm, ?_⟩, S.sub ⟨rfl, trivial⟩⟩
          have := putP_len ps (kv e).1 (unq (kv e).2)
          unfold keqvStep
          omega
    · intro ps s hR S
      rw [List.length_map, List.take_length] at hR
      obtain ⟨m, hn', hl⟩ := S.ns
      obtain ⟨V, hr, hd⟩ := hl "parsed" _ rfl
      refine w_of (wpAny_Return_some (wpAny_Name (var_load S.en hn' V ⟨S.kp, r, rfl, hR.1 ▸ hd⟩) (by decide)))
end Mine

/- M14 -/
namespace Mine

/-- an expression that gives a dict of texts -/
def EvK (c : Cx) (s : Shared) (e : Expr) (ps : List (Str × Str)) : Prop :=
  ∀ s', Kp s s' → wpAny (Mo c.w) c.A (eval e c.env) (fun v s₁ => Kp s' s₁ ∧ ∃ a, v = .ref a ∧ IsDict c.w s₁.heap a ps) NoE s'

section
variable {f : Fx} {Γ Δ : List (Str × Ent)} {s s' : Shared} {pos p : Pos} {args : List Expr} {ds : List D} {ps : List (Str × Str)} {e : Expr}

theorem ev_callK {g : Str} {a : Addr} {k : Nat} {e : Expr} (S : St f Γ s) (hx : f.env.kindOf g = some .globalImplicit) (hg : nsIn (KK f.w) mainGlobals g = some (some (.ref a))) (hf : keepIn (KK f.w) (.ref a) = true) (hA : Lv f.A k) (hs : SpecK f.w k a ds ps)
    (ha : Evs f.toCx s pos (e :: args) Any ds) (he : starEach (e :: args) f.env = (false, eval e f.env) :: starEach args f.env := by rfl) (hp : (backTo pos (starEach args f.env)).any (·.1) = false := by rfl) (hd : (g == ("__debug__" : Str)) = false := by decide)
    (hev : eval (.Call (.Name g p) (e :: args) [] pos) f.env = (do callWith pos (← eval (.Name g p) f.env) [] (backTo pos (starEach (e :: args) f.env)) (backToKw pos (keywordEach [] f.env))) := by rfl) :
    EvK f.toCx s (.Call (.Name g p) (e :: args) [] pos) ps := fun s₁ k₁ => by
  refine Call_ (ld_glob (S.keep k₁) hx hg ?_ hd) hev
  refine callWith_K (K := KK f.w) (env := f.env) (S.keep k₁).gr'.kin hf (wpAny_mono (ha s₁ k₁) (fun vs s₂ h₂ => ?_) fun _ _ h => h) he hp
  have S₂ := S.keep (k₁.trans h₂.1)
  refine ⟨S₂.gr'.kin, wpAny_mono (hs f.A s₂ vs S₂.gr' hA h₂.2) (fun v s₃ h₃ => ⟨h₂.1.trans h₃.1, h₃.2⟩) fun _ _ h => h⟩

theorem are_pairs {h : Heap} {ok : Addr → Prop} {w : World} : ∀ {kvs : List (Str × Value)} {ps : List (Str × Str)} {as : List Addr}, DP kvs ps → as.length = kvs.length → (∀ a ∈ as, ok a) →
    (∀ (j : Nat) (a : Addr), as[j]? = some a → ∃ key k x, kvs[j]? = some (k, x) ∧ (PySem.strKind Prg w).is k key = true ∧ h.get? a = some { cls := .type "tuple", data := .seq #[key, x] }) →
    Are h ok (as.map Value.ref) (ps.map fun p => .tup [.str p.1, .str p.2])
  | _, _, [], .nil, _, _, _ => .nil
  | _, _, a :: as, .nil, hl, _, _ => by simp at hl
  | _, _, [], .cons _, hl, _, _ => by simp at hl
  | _, _, a :: as, .cons hp, hl, hok, hj => by
    obtain ⟨key, k, x, e1, e2, e3⟩ := hj 0 a rfl
    simp only [List.getElem?_cons_zero, Option.some.injEq, Prod.mk.injEq] at e1
    obtain ⟨rfl, rfl⟩ := e1
    obtain ⟨t, rfl⟩ := Value.isStrOf_shape e2
    refine .cons (.tup (hok a List.mem_cons_self) ⟨_, e3, rfl, 0, rfl⟩ (.cons (.str _ _) (.cons (.str _ _) .nil))) ?_
    exact are_pairs hp (by simpa using hl) (fun b hb => hok b (List.mem_cons_of_mem _ hb)) fun j b hb => hj (j + 1) b hb

/-- list(d.items()) -/
theorem ev_listitems {ap p2 : Pos} {pl : Sem Bool} (S : St f Γ s) (hA : f.A.handled = none) (hx : f.env.kindOf "list" = some .globalImplicit) (hg : nsIn (KK f.w) mainGlobals "list" = some none) (he : EvK f.toCx s e ps) (hz : ps.length ≤ 1000000)
    (hev : eval (.Call (.Attribute e "items" ap) [] [] p2) f.env = (do let ov ← eval e f.env; standAt ap.atName; let (f', first) ← holding [ov] (getMethod ov "items" pl); callWith p2 f' first (backTo p2 (starEach [] f.env)) [])) :
    Ev f.toCx s (.Call (.Name "list" p) [.Call (.Attribute e "items" ap) [] [] p2] [] pos) f.okN (.list (ps.map fun p => .tup [.str p.1, .str p.2])) := fun s₁ k₁ => by
  refine Call_ (ld_built (S.keep k₁) hx hg rfl ?_) rfl
  refine PyProof.Rows.callWith_type1 (env := f.env) ?_
  refine Calls.spliced_cons (MethodCall_ (pl := pl) (wpAny_mono (he s₁ k₁) (fun v s₂ h₂ => ?_) fun _ _ h => h) hev)
  obtain ⟨k₂, d, rfl, lo, kvs, hD, hP⟩ := h₂
  have S₂ := S.keep (k₁.trans k₂)
  refine getMethod_builtin hD.typeIs PySem.F.plainAttrs_dict PySem.F.slot_dict_items PySem.F.type_dict_items hD.mapOf.noDict ?_
  refine callWith_method0 ?_
  refine call_meetsIn PySem.F.slot_dict_items hD.typeIs PySem.F.entry_dict_items (PySem.F.args_dict_items_1 _) (meets_dict_items (PySem.strKind Prg f.w) d lo) ⟨⟨kvs, hD⟩, ?_⟩
  refine Calls.spliced_nil ?_
  obtain ⟨ep, hat⟩ := hD.dictAt
  refine with_tok (kdx_call (knd := PySem.strKind Prg f.w) (kvs := kvs) (ep := ep) hA ⟨_, Heap.get?_push_size _ rfl, rfl, rfl⟩ (hat.push _) (by rw [hP.length, sizeLine_eq]; omega) fun h' tk acc c as hk hS hl hG hacc ht => ?_)
  have fr : ∀ a, s₂.heap.objs.size ≤ a → s.heap.get? a = none := fun a ha => by
    cases hq : s.heap.get? a with
    | none => rfl
    | some o => exact absurd (Heap.lt_size ((k₁.trans k₂).kp _ _ hq)) (Nat.not_lt.mpr ha)
  have ea : acc = (as.map Value.ref).toArray := by rw [← hacc, Array.toArray_toList]
  have hsz : s₂.heap.objs.size ≤ (s₂.heap.push { cls := .type "dict_items", data := .fields #[.ref d] }).objs.size := by rw [Heap.size_push]; omega
  refine ⟨k₂.trans ⟨⟨h', tk, rfl, fun b o e => hk b o (Heap.get?_push_of_some _ e)⟩, ht⟩, .list (S.fresh (fr _ hsz)) ⟨_, hS, rfl, c, by rw [ea]⟩ (are_pairs (w := f.w) hP hl (fun a ha => S.fresh (fr a (Nat.le_trans hsz (Nat.le_of_lt (hG.above a ha))))) hG.pairs)⟩
end
end Mine

/- F12 -/
namespace Mine

theorem keqv_len (kv : Str → Str × Str) : ∀ (els : List Str) (ps : List (Str × Str)), (els.foldl (keqvStep kv) ps).length ≤ ps.length + els.length
  | [], ps => by simp
  | e :: r, ps => by
    rw [List.foldl_cons, List.length_cons]
    have h1 := keqv_len kv r (keqvStep kv ps e)
    have h2 := putP_len ps (kv e).1 (unq (kv e).2)
    unfold keqvStep at h1 ⊢
    omega

theorem sp_read (w : World) (x : Str) (kv : Str → Str × Str) (hz : x.length ≤ 100000) (h : ∀ e ∈ httpP x, Txt.splitMax e "=" 1 = [(kv e).1, (kv e).2] ∧ 1 ≤ (kv e).2.length ∧ e.length ≤ 100000) (hn : (httpP x).length ≤ 1000) :
    Spec w 2 116 [.str x] (.list (((httpP x).foldl (keqvStep kv) []).map pairD)) := by
  refine spec_of ["header"] rfl rfl (by rfl) rfl ?_ rfl (by simp) (by decide) (by decide) (by decide) rfl rfl rfl rfl rfl rfl ?_
  · rintro (_ | ⟨a, _ | ⟨b, vs⟩⟩) h <;> first | rfl | (simp at h; done)
  · intro fx s hw hsc hce hpi htp hA S
    dsimp only at hsc
    subst hw
    have hl := keqv_len kv (httpP x) []
    simp only [List.length_nil, Nat.zero_add] at hl
    refine w_return (ev_listitems S hA.hh (glo hsc rfl) rfl (ev_callK S (glo hsc rfl) rfl rfl hA (sp_keqv fx.w (httpP x) kv h hn) (.cons (ev_call S (glo hsc rfl) rfl rfl hA (sp_http fx.w x hz) (.cons (ev_v S rfl) .nil)).any .nil)) (by omega) rfl) fun v s' k iv => ⟨S.kp.trans k, iv.weak fun a ha => ha.2⟩
end Mine

/- P1 -/
namespace Mine

abbrev L (x : Str) : List Nat := x.cps.toList
theorem L_ext {x y : Str} (h : L x = L y) : x = y := by
  obtain ⟨a⟩ := x; obtain ⟨b⟩ := y
  exact congrArg Str.mk (Array.toList_inj.mp h)
theorem L_app (x y : Str) : L (x ++ y) = L x ++ L y := by
  show (x.cps ++ y.cps).toList = _
  rw [Array.toList_append]
theorem L_mk (a : Array Nat) : L ⟨a⟩ = a.toList := rfl
theorem L_len (x : Str) : (L x).length = x.length := by simp [Str.length]
theorem app_nil (x : Str) : x ++ ("" : Str) = x := L_ext (by rw [L_app, show L ("" : Str) = [] by decide, List.append_nil])

def userS (a b : Nat) : Str := signS a ++ signS b
def eltS (k u : Str) : Str := k ++ ("=\"" : Str) ++ u ++ ("\"" : Str)
def quoS (u : Str) : Str := ("\"" : Str) ++ u ++ ("\"" : Str)

theorem L_elt (k u : Str) : L (eltS k u) = L k ++ 61 :: 34 :: (L u ++ [34]) := by
  unfold eltS
  rw [L_app, L_app, L_app, show L ("=\"" : Str) = [61, 34] by decide, show L ("\"" : Str) = [34] by decide]
  simp
theorem L_quo (u : Str) : L (quoS u) = 34 :: (L u ++ [34]) := by
  unfold quoS
  rw [L_app, L_app, show L ("\"" : Str) = [34] by decide]
  simp

theorem kind1 {x : Str} (h : ∀ c ∈ L x, c < 256) : Builtin.Str.strKind x = 1 := by
  unfold Builtin.Str.strKind
  rw [if_pos]
  exact Array.all_eq_true_iff_forall_mem.mpr fun c hc => decide_eq_true (h c (Array.mem_toList_iff.mpr hc))

/-- the cut at the first equals sign -/
theorem split_elt (k u : Str) (hk : ∀ c ∈ L k, c ≠ 61) : Txt.splitMax (eltS k u) "=" 1 = [k, quoS u] := by
  have he := L_elt k u
  have hat : ∀ i, StrLaws.At (eltS k u) "=" (eltS k u).length i ↔ (L (eltS k u))[i]? = some 61 := fun i => StrLaws.subAt_one (eltS k u) 61 i
  have hl : (eltS k u).length = (L k).length + (L u).length + 3 := by rw [← L_len, he]; simp; omega
  have hkk : Builtin.Str.strKind ("=" : Str) = 1 := by decide +kernel
  have hks : 1 ≤ Builtin.Str.strKind (eltS k u) := by unfold Builtin.Str.strKind; split <;> (try split) <;> omega
  have h1 : (decide ((eltS k u).length < ("=" : Str).length) || decide (Builtin.Str.strKind (eltS k u) < Builtin.Str.strKind ("=" : Str))) = false := by
    have : ("=" : Str).length = 1 := by decide
    rw [this, hkk]; simp; omega
  unfold Txt.splitMax
  rw [h1, if_neg (by decide), show limitOf (eltS k u) 1 = 1 from rfl]
  have ho : Builtin.Str.occurrences (eltS k u) "=" 0 (eltS k u).length 1 = [(L k).length] := by
    rcases StrLaws.occ_head (eltS k u) "=" 1 (Nat.le_refl 1) with ⟨_, hn⟩ | ⟨i, r, h0, hi, hn⟩
    · refine absurd ((hat (L k).length).mpr ?_) (hn _)
      rw [he, List.getElem?_append_right (Nat.le_refl _)]; simp
    · have hlen := StrLaws.occ_length_le (eltS k u) "=" 0 (eltS k u).length 1
      rw [h0] at hlen
      have hr : r = [] := by cases r with | nil => rfl | cons _ _ => simp at hlen
      subst hr
      have hi' := (hat i).mp hi
      rw [h0]
      rcases Nat.lt_trichotomy i (L k).length with h | h | h
      · rw [he, List.getElem?_append_left h] at hi'
        exact absurd rfl (hk _ (List.mem_of_getElem? hi'))
      · rw [h]
      · refine absurd ((hat (L k).length).mpr ?_) (hn _ h)
        rw [he, List.getElem?_append_right (Nat.le_refl _)]; simp
  rw [ho, if_neg (by simp)]
  show [Builtin.Str.strSub (eltS k u) 0 (L k).length, Builtin.Str.strSub (eltS k u) ((L k).length + 1) (eltS k u).length] = _
  have e1 : Builtin.Str.strSub (eltS k u) 0 (L k).length = k := L_ext (by
    rw [show L (Builtin.Str.strSub (eltS k u) 0 (L k).length) = _ from StrLaws.strSub_toList _ _ _, show (eltS k u).cps.toList = _ from he]; simp)
  have e2 : Builtin.Str.strSub (eltS k u) ((L k).length + 1) (eltS k u).length = quoS u := L_ext (by
    rw [show L (Builtin.Str.strSub (eltS k u) ((L k).length + 1) (eltS k u).length) = _ from StrLaws.strSub_toList _ _ _, show (eltS k u).cps.toList = _ from he, L_quo, hl]
    rw [List.drop_append, List.drop_of_length_le (by omega)]
    rw [show (L k).length + 1 - (L k).length = 1 by omega]
    simp only [List.drop_succ_cons, List.drop_zero, List.nil_append]
    rw [List.take_of_length_le (by simp; omega)])
  rw [e1, e2]

/-- the blank ahead goes -/
theorem strip_elt (k u : Str) (c : Nat) (r : List Nat) (hk : L k = c :: r) (hc : Unicode.isSpace c = false) : Txt.strip ((" " : Str) ++ eltS k u) = eltS k u := by
  have he : L ((" " : Str) ++ eltS k u) = 32 :: c :: (r ++ 61 :: 34 :: (L u ++ [34])) := by
    rw [L_app, L_elt, hk, show L (" " : Str) = [32] by decide]; simp
  have hl : ((" " : Str) ++ eltS k u).length = (L (eltS k u)).length + 1 := by
    rw [← L_len, L_app, show L (" " : Str) = [32] by decide]; simp
  have lo : stripLo Unicode.isSpace true ((" " : Str) ++ eltS k u) = 1 := by
    unfold stripLo
    rw [if_pos rfl, show ((" " : Str) ++ eltS k u).cps.toList = _ from he, List.takeWhile_cons, if_pos (by decide), List.takeWhile_cons, if_neg (by rw [hc]; decide)]; rfl
  have hd : ((" " : Str) ++ eltS k u).cps.toList.drop 1 = L (eltS k u) := by
    rw [show ((" " : Str) ++ eltS k u).cps.toList = _ from L_app _ _, show L (" " : Str) = [32] by decide]; rfl
  have hi : stripHi Unicode.isSpace true ((" " : Str) ++ eltS k u) 1 = ((" " : Str) ++ eltS k u).length := by
    unfold stripHi
    rw [if_pos rfl, hd, L_elt, show L k ++ 61 :: 34 :: (L u ++ [34]) = (L k ++ 61 :: 34 :: L u) ++ [34] by simp, List.reverse_append]
    simp only [List.reverse_singleton, List.singleton_append]
    rw [List.takeWhile_cons, if_neg (by decide)]; rfl
  unfold Txt.strip
  rw [PyProof.Rows.stripBy_eq, lo, hi]
  refine L_ext ?_
  rw [show L (Builtin.Str.strSub ((" " : Str) ++ eltS k u) 1 ((" " : Str) ++ eltS k u).length) = _ from StrLaws.strSub_toList _ _ _, hd, hl]
  exact List.take_of_length_le (by omega)

/-- what the escapes make of a sign -/
def escL (k : Nat) : List Nat := match k with
  | 0 => [117]
  | 1 => [44]
  | 2 => [92, 34]
  | 3 => [92, 92]
  | 4 => [61]
  | 5 => [32]
  | _ => []
theorem quote_all : ∀ a, a < 7 → ∀ b, b < 7 → L (quoteS (userS a b)) = escL a ++ escL b := by decide +kernel
theorem unq_all : ∀ a, a < 7 → ∀ b, b < 7 → unq (quoS (userS a b)) = userS a b := by decide +kernel
theorem user_small : ∀ a, a < 7 → ∀ b, b < 7 → (userS a b).length ≤ 1000 ∧ (esc1 (userS a b)).length ≤ 1000 ∧ (quoteS (userS a b)).length ≤ 1000 ∧ PyData.strOk (userS a b) = true := by decide +kernel

theorem h_esc (res : List Str) (part : Str) : ∀ a, a < 7 → (escL a).foldl hStep ⟨res, part, false, true⟩ = ⟨res, part ++ signS a, false, true⟩
  | 0, _ => rfl
  | 1, _ => rfl
  | 2, _ => rfl
  | 3, _ => rfl
  | 4, _ => rfl
  | 5, _ => rfl
  | 6, _ => by show (⟨res, part, false, true⟩ : HSt) = ⟨res, part ++ ("" : Str), false, true⟩; rw [app_nil]
theorem h_user (res : List Str) (part : Str) (a b : Nat) (ha : a < 7) (hb : b < 7) : (L (quoteS (userS a b))).foldl hStep ⟨res, part, false, true⟩ = ⟨res, part ++ userS a b, false, true⟩ := by
  rw [quote_all a ha b hb, List.foldl_append, h_esc res part a ha, h_esc res _ b hb, Str.append_assoc]; rfl
theorem chS_beq (c : Nat) (d : Nat) : (chS c == chS d) = (c == d) := by
  rw [Bool.eq_iff_iff, beq_iff_eq, beq_iff_eq]
  constructor
  · intro h; simpa [chS] using h
  · rintro rfl; rfl
theorem h_plain (res : List Str) : ∀ (l : List Nat) (part : Str), (∀ c ∈ l, c ≠ 44 ∧ c ≠ 34) → l.foldl hStep ⟨res, part, false, false⟩ = ⟨res, part ++ ⟨l.toArray⟩, false, false⟩
  | [], part, _ => by rw [List.foldl_nil]; exact congrArg (fun p => (⟨res, p, false, false⟩ : HSt)) (app_nil part).symm
  | c :: r, part, h => by
    have hc := h c List.mem_cons_self
    have e1 : (chS c == ("," : Str)) = false := by rw [show ("," : Str) = chS 44 by decide, chS_beq]; simpa using hc.1
    have e2 : (chS c == ("\"" : Str)) = false := by rw [show ("\"" : Str) = chS 34 by decide, chS_beq]; simpa using hc.2
    have e : hStep ⟨res, part, false, false⟩ c = ⟨res, part ++ chS c, false, false⟩ := by
      unfold hStep; simp [e1, e2]
    rw [List.foldl_cons, e, h_plain res r _ fun d hd => h d (List.mem_cons_of_mem _ hd)]
    refine congrArg (fun p => (⟨res, p, false, false⟩ : HSt)) (L_ext ?_)
    rw [L_app, L_app, L_app]
    simp [chS, L_mk]

/-- one pair written is one part read -/
theorem h_pair (res : List Str) (h : Str) (k : Str) (a b : Nat) (ha : a < 7) (hb : b < 7) (hk : ∀ c ∈ L k, c ≠ 44 ∧ c ≠ 34) (init : HSt) (h0 : (L h).foldl hStep init = ⟨res, "", false, false⟩) :
    (L (wStep h (k, userS a b))).foldl hStep init = ⟨res ++ [(" " : Str) ++ eltS k (userS a b)], "", false, false⟩ := by
  have e1 : L (wStep h (k, userS a b)) = L h ++ (32 :: L k ++ [61]) ++ [34] ++ L (quoteS (userS a b)) ++ [34, 44] := by
    unfold wStep
    rw [L_app, L_app, L_app, L_app, L_app, show L (" " : Str) = [32] by decide, show L ("=\"" : Str) = [61, 34] by decide, show L ("\"," : Str) = [34, 44] by decide]
    simp
  rw [e1, List.foldl_append, List.foldl_append, List.foldl_append, List.foldl_append, h0, h_plain]
  · have e2 : ∀ p : Str, [34].foldl hStep ⟨res, p, false, false⟩ = ⟨res, p ++ chS 34, false, true⟩ := fun p => rfl
    rw [e2, h_user _ _ a b ha hb]
    have e3 : ∀ p : Str, [34, 44].foldl hStep ⟨res, p, false, true⟩ = ⟨res ++ [p ++ chS 34], "", false, false⟩ := fun p => rfl
    rw [e3]
    refine congrArg (fun p => (⟨res ++ [p], "", false, false⟩ : HSt)) (L_ext ?_)
    rw [L_app, L_app, L_app, L_app, L_app, L_elt, show L ("" : Str) = [] by decide, show L (" " : Str) = [32] by decide, show L (chS 34) = [34] by decide]
    simp [L_mk]
  · intro c hc
    simp only [List.mem_append, List.mem_cons, List.not_mem_nil, or_false] at hc
    rcases hc with (rfl | hc) | rfl
    · decide
    · exact hk c hc
    · decide

/-- a pair that the law writes -/
structure Good (p : Str × Str) : Prop where
  k : ∀ c ∈ L p.1, c ∈ [48, 49, 47, 97, 98]
  c : ∃ c r, L p.1 = c :: r ∧ (c = 48 ∨ c = 49)
  l : p.1.length ≤ 1000
  u : ∃ a b, a < 7 ∧ b < 7 ∧ p.2 = userS a b

theorem Good.plain {p : Str × Str} (g : Good p) : ∀ c ∈ L p.1, (c ≠ 44 ∧ c ≠ 34) ∧ c ≠ 61 := fun c hc => by
  have := g.k c hc
  simp only [List.mem_cons, List.not_mem_nil, or_false] at this
  omega
theorem Good.ok {p : Str × Str} (g : Good p) : PyData.strOk p.1 = true := by
  refine Array.all_eq_true_iff_forall_mem.mpr fun c hc => decide_eq_true ?_
  have := g.k c (Array.mem_toList_iff.mpr hc)
  simp only [List.mem_cons, List.not_mem_nil, or_false] at this
  omega
theorem Good.pair {p : Str × Str} (g : Good p) : PairOk p := by
  obtain ⟨k, c, l, a, b, ha, hb, hu⟩ := g
  have := user_small a ha b hb
  rw [← hu] at this
  exact ⟨l, this.1, this.2.1, this.2.2.1⟩
theorem Good.uok {p : Str × Str} (g : Good p) : PyData.strOk p.2 = true := by
  obtain ⟨k, c, l, a, b, ha, hb, hu⟩ := g
  rw [hu]; exact (user_small a ha b hb).2.2.2

def kvOf (e : Str) : Str × Str := match Txt.splitMax e "=" 1 with
  | [a, b] => (a, b)
  | _ => ("", "")
theorem kv_elt {p : Str × Str} (g : Good p) : Txt.splitMax (eltS p.1 p.2) "=" 1 = [p.1, quoS p.2] := split_elt _ _ fun c hc => (g.plain c hc).2
theorem kvOf_elt {p : Str × Str} (g : Good p) : kvOf (eltS p.1 p.2) = (p.1, quoS p.2) := by unfold kvOf; rw [kv_elt g]

theorem http_go : ∀ (T : List (Str × Str)) (h : Str) (res : List Str) (init : HSt), (∀ p ∈ T, Good p) → (L h).foldl hStep init = ⟨res, "", false, false⟩ →
    (L (T.foldl wStep h)).foldl hStep init = ⟨res ++ T.map (fun p => (" " : Str) ++ eltS p.1 p.2), "", false, false⟩
  | [], h, res, init, _, h0 => by simpa using h0
  | p :: T, h, res, init, hT, h0 => by
    obtain ⟨a, b, ha, hb, hu⟩ := (hT p List.mem_cons_self).u
    have e := h_pair res h p.1 a b ha hb (fun c hc => ((hT p List.mem_cons_self).plain c hc).1) init h0
    rw [List.foldl_cons, http_go T (wStep h p) (res ++ [(" " : Str) ++ eltS p.1 p.2]) init (fun q hq => hT q (List.mem_cons_of_mem _ hq)) (by rw [← hu] at e; exact e)]
    simp
/-- what is written is read -/
theorem http_written (T : List (Str × Str)) (hT : ∀ p ∈ T, Good p) : httpP (writtenP T) = T.map fun p => eltS p.1 p.2 := by
  unfold httpP writtenP
  rw [http_go T "" [] _ hT rfl]
  show (([] : List Str) ++ T.map fun p : Str × Str => (" " : Str) ++ eltS p.1 p.2).map Txt.strip = _
  rw [List.nil_append, List.map_map]
  refine List.map_congr_left fun p hp => ?_
  obtain ⟨c, r, h1, h2⟩ := (hT p hp).c
  exact strip_elt p.1 p.2 c r h1 (by rcases h2 with rfl | rfl <;> decide)

def mergeStep (ps : List (Str × Str)) (p : Str × Str) : List (Str × Str) := putP ps p.1 p.2
def mergeP (T : List (Str × Str)) : List (Str × Str) := T.foldl mergeStep []

theorem keqv_go : ∀ (T : List (Str × Str)) (ps : List (Str × Str)), (∀ p ∈ T, Good p) → (T.map fun p => eltS p.1 p.2).foldl (keqvStep kvOf) ps = T.foldl mergeStep ps
  | [], ps, _ => rfl
  | p :: T, ps, hT => by
    have g := hT p List.mem_cons_self
    obtain ⟨a, b, ha, hb, hu⟩ := g.u
    have e : keqvStep kvOf ps (eltS p.1 p.2) = mergeStep ps p := by
      unfold keqvStep mergeStep
      rw [kvOf_elt g]
      show putP ps p.1 (unq (quoS p.2)) = _
      rw [hu, unq_all a ha b hb]
    rw [List.map_cons, List.foldl_cons, List.foldl_cons, e, keqv_go T _ fun q hq => hT q (List.mem_cons_of_mem _ hq)]

theorem sp_readW (w : World) (T : List (Str × Str)) (hT : ∀ p ∈ T, Good p) (hn : T.length ≤ 20) (hz : (writtenP T).length ≤ 100000) : Spec w 2 116 [.str (writtenP T)] (.list ((mergeP T).map pairD)) := by
  have h := sp_read w (writtenP T) kvOf hz (by
    intro e he
    rw [http_written T hT] at he
    obtain ⟨p, hp, rfl⟩ := List.mem_map.mp he
    have g := hT p hp
    rw [kvOf_elt g]
    refine ⟨kv_elt g, ?_, ?_⟩
    · show 1 ≤ (quoS p.2).length
      rw [← L_len, L_quo]; simp
    · have := g.pair.k
      have := g.pair.u
      rw [← L_len, L_elt]
      simp only [List.length_append, List.length_cons, L_len, List.length_nil]
      omega) (by rw [http_written T hT, List.length_map]; omega)
  rw [http_written T hT, keqv_go T [] hT] at h
  exact h
theorem written_len (T : List (Str × Str)) (hT : ∀ p ∈ T, Good p) : ∀ h : Str, (T.foldl wStep h).length ≤ h.length + 2010 * T.length := by
  induction T with
  | nil => intro h; simp
  | cons p T ih =>
    intro h
    rw [List.foldl_cons, List.length_cons]
    have h1 := ih (fun q hq => hT q (List.mem_cons_of_mem _ hq)) (wStep h p)
    have h2 := wStep_len h p (hT p List.mem_cons_self).pair
    omega
theorem written_app (T : List (Str × Str)) (p : Str × Str) : writtenP (T ++ [p]) = writtenP T ++ writtenP [p] := by
  unfold writtenP
  rw [List.foldl_append]
  refine L_ext ?_
  simp only [List.foldl_cons, List.foldl_nil, wStep, L_app, show L ("" : Str) = [] by decide, List.nil_append, List.append_assoc]
end Mine

/- F13 -/
namespace Mine

def Row.pr (r : Row) : Str × Str := (r.key, r.user)
def isThin (n : Int) : Bool := n % 4 == 3
def bStep (st : List (Str × Str) × List (Str × Str)) (n : Int) : List (Str × Str) × List (Str × Str) :=
  if isThin n then (st.1, thinP (mergeP st.2)) else (st.1 ++ [(toldR n).pr], st.2 ++ [(toldR n).pr])
def booksP (steps : List Int) : List (Str × Str) × List (Str × Str) := steps.foldl bStep ([], [])

theorem segN_cs (k : Nat) : ∀ c ∈ L (segN k), c ∈ [48, 49, 47, 97, 98] := by
  unfold segN
  split <;> decide
theorem pathN_cs : ∀ (n : Nat), ∀ c ∈ L (pathN n), c ∈ [48, 49, 47, 97, 98]
  | 0 => by rw [pathN]; decide
  | n + 1 => by
    rw [pathN]
    intro c hc
    rw [L_app, L_app, List.mem_append, List.mem_append] at hc
    rcases hc with hc | hc | hc
    · exact pathN_cs (n / 3) c hc
    · revert hc; revert c; decide
    · exact segN_cs n c hc
termination_by n => n
decreasing_by omega

structure RowOk (r : Row) : Prop where
  n : r.node < 40
  u : ∃ a b, a < 7 ∧ b < 7 ∧ r.user = userS a b
theorem RowOk.good {r : Row} (h : RowOk r) : Good r.pr := by
  refine ⟨?_, ?_, ?_, h.u⟩
  · intro c hc
    have hc' : c ∈ L (hostS r.host ++ pathN r.node) := hc
    clear hc
    rw [L_app, List.mem_append] at hc'
    rcases hc' with hc | hc
    · revert hc; revert c
      cases r.host <;> decide
    · exact pathN_cs _ c hc
  · show ∃ c t, L (hostS r.host ++ pathN r.node) = c :: t ∧ _
    rw [L_app]
    cases r.host
    · exact ⟨48, L (pathN r.node), rfl, .inl rfl⟩
    · exact ⟨49, L (pathN r.node), rfl, .inr rfl⟩
  · show (hostS r.host ++ pathN r.node).length ≤ 1000
    have := pathN_len r.node
    have := hostS_len r.host
    have := h.n
    rw [Str.length_append]; omega
theorem told_ok (n : Int) : RowOk (toldR n) := by
  refine ⟨?_, (n / 4 / 80 % 7).toNat, (n / 4 / 560 % 7).toNat, ?_, ?_, rfl⟩
  · show (n / 4 / 2 % 40).toNat < 40
    omega
  · omega
  · omega

theorem put_mem {ps : List (Str × Str)} {k v : Str} {q : Str × Str} (h : q ∈ putP ps k v) : q ∈ ps ∨ q = (k, v) := by
  unfold putP at h
  split at h
  · obtain ⟨p, hp, rfl⟩ := List.mem_map.mp h
    split
    · rename_i e; right; rw [e]
    · left; exact hp
  · rcases List.mem_append.mp h with h | h
    · exact .inl h
    · exact .inr (List.mem_singleton.mp h)
theorem merge_mem : ∀ (T ps : List (Str × Str)) (q : Str × Str), q ∈ T.foldl mergeStep ps → q ∈ ps ∨ q ∈ T
  | [], ps, q, h => .inl h
  | p :: T, ps, q, h => by
    rw [List.foldl_cons] at h
    rcases merge_mem T _ q h with h | h
    · rcases put_mem h with h | h
      · exact .inl h
      · exact .inr (by rw [h]; exact List.mem_cons_self)
    · exact .inr (List.mem_cons_of_mem _ h)
theorem merge_sub {T : List (Str × Str)} {q : Str × Str} (h : q ∈ mergeP T) : q ∈ T := (merge_mem T [] q h).elim (fun h => nomatch h) id
theorem merge_len : ∀ (T ps : List (Str × Str)), (T.foldl mergeStep ps).length ≤ ps.length + T.length
  | [], ps => by simp
  | p :: T, ps => by
    rw [List.foldl_cons, List.length_cons]
    have h1 := merge_len T (mergeStep ps p)
    have h2 := putP_len ps p.1 p.2
    unfold mergeStep at h1 ⊢
    omega
theorem thin_len : ∀ (ps left : List (Str × Str)), (ps.foldl thinStep left).length ≤ left.length + ps.length
  | [], left => by simp
  | p :: r, left => by
    rw [List.foldl_cons, List.length_cons]
    have h1 := thin_len r (thinStep left p)
    have h2 : (thinStep left p).length ≤ left.length + 1 := by unfold thinStep; split <;> simp
    omega

structure BOk (i : Nat) (st : List (Str × Str) × List (Str × Str)) : Prop where
  w : st.1.length ≤ i
  t : st.2.length ≤ i
  gw : ∀ p ∈ st.1, Good p
  gt : ∀ p ∈ st.2, Good p

theorem merge_good {T : List (Str × Str)} (h : ∀ p ∈ T, Good p) : ∀ p ∈ mergeP T, Good p := fun p hp => h p (merge_sub hp)
theorem thin_good {T : List (Str × Str)} (h : ∀ p ∈ T, Good p) : ∀ p ∈ thinP T, Good p := thin_sub Good T [] (fun p hp => nomatch hp) h

theorem BOk.step {i : Nat} {st : List (Str × Str) × List (Str × Str)} (h : BOk i st) (n : Int) : BOk (i + 1) (bStep st n) := by
  unfold bStep
  split
  · refine ⟨Nat.le_succ_of_le h.w, ?_, h.gw, thin_good (merge_good h.gt)⟩
    have h1 := thin_len (mergeP st.2) []
    have h2 := merge_len st.2 []
    have h3 := h.t
    show (thinP (mergeP st.2)).length ≤ i + 1
    unfold thinP
    unfold mergeP at h1 ⊢
    simp only [List.length_nil] at h1 h2
    omega
  · have e : ∀ (X : List (Str × Str)), (∀ p ∈ X, Good p) → ∀ p ∈ X ++ [(toldR n).pr], Good p := fun X hX p hp => by
      rcases List.mem_append.mp hp with hp | hp
      · exact hX p hp
      · rw [List.mem_singleton.mp hp]; exact (told_ok n).good
    refine ⟨?_, ?_, e _ h.gw, e _ h.gt⟩
    · have := h.w; simp; omega
    · have := h.t; simp; omega

theorem sp_books (w : World) (steps : List Int) (hn : steps.length ≤ 8) : Spec w 4 137 [.mgr, .list (steps.map D.int)] (.tup [.str (writtenP (booksP steps).1), .str (writtenP (booksP steps).2)]) := by
  refine spec_of ["manager", "steps"] rfl rfl (by rfl) rfl ?_ rfl (by simp) (by decide) (by decide) (by decide) rfl rfl rfl rfl rfl rfl ?_
  · rintro (_ | ⟨a, _ | ⟨b, _ | ⟨c, vs⟩⟩⟩) h <;> first | rfl | (simp at h; done)
  · intro fx s hw hsc hce hpi htp hA S
    dsimp only at hsc
    subst hw
    refine w_assign S (stor hsc rfl) ev_str fun s S => ?_
    refine w_assign S (stor hsc rfl) ev_str fun s S => ?_
    refine w_for1 S hA.hh (ev_var_val S rfl) (stor hsc rfl) (fun st : List (Str × Str) × List (Str × Str) => [("whole", .val (.str (writtenP st.1))), ("thinned", .val (.str (writtenP st.2))), ("manager", .val .mgr)]) (fun i st => st = (steps.take i).foldl bStep ([], []) ∧ BOk i st) ([], []) ⟨rfl, rfl, rfl, trivial⟩ ⟨rfl, Nat.le_refl _, Nat.le_refl _, fun p hp => (nomatch hp), fun p hp => (nomatch hp)⟩ ?_ ?_
    · intro i st d I p s hd hR S
      obtain ⟨hR, hB⟩ := hR
      rw [List.getElem?_map] at hd
      cases hr' : steps[i]? with
      | none => rw [hr'] at hd; cases hd
      | some n =>
        rw [hr'] at hd
        cases hd
        have hi : i < steps.length := (List.getElem?_eq_some_iff.mp hr').1
        have ht : (steps.take (i + 1)).foldl bStep ([], []) = bStep st n := by
          rw [List.take_add_one, hr', List.foldl_append, ← hR]; rfl
        have hB' := hB.step n
        have l1 := written_len st.1 hB.gw ""
        have l2 := written_len st.2 hB.gt ""
        have e0 : ("" : Str).length = 0 := by decide
        rw [e0] at l1 l2
        have l1' : (writtenP st.1).length ≤ 20000 := by have := hB.w; unfold writtenP; omega
        have l2' : (writtenP st.2).length ≤ 20000 := by have := hB.t; unfold writtenP; omega
        have gm := merge_good hB.gt
        have lm := merge_len st.2 []
        have lt := thin_len (mergeP st.2) []
        simp only [List.length_nil, Nat.zero_add] at lm lt
        have lm' : (mergeP st.2).length ≤ 8 := by have := hB.t; unfold mergeP; omega
        have lt' : (thinP (mergeP st.2)).length ≤ 8 := by unfold thinP; omega
        refine w_if S (tr_ieq (ev_imod (ev_v S rfl) ev_int (by decide)) ev_int) (fun hb s S => ?_) fun hb s S => ?_
        · have e : bStep st n = (st.1, thinP (mergeP st.2)) := by unfold bStep isThin; rw [if_pos hb]
          refine w_assign S (stor hsc rfl) (ev_call S (glo hsc rfl) rfl rfl (hA.less (by decide)) (sp_written fx.w (thinP (mergeP st.2)) (fun p hp => (thin_good gm p hp).pair) (by omega)) (.cons (ev_call S (glo hsc rfl) rfl rfl (hA.less (by decide)) (sp_thin fx.w (mergeP st.2) (fun p hp => ⟨(gm p hp).ok, by have := (gm p hp).l; omega⟩) (by omega)) (.cons (ev_v S rfl) (.cons (ev_call S (glo hsc rfl) rfl rfl (hA.less (by decide)) (sp_readW fx.w st.2 hB.gt (by have := hB.t; omega) (by omega)) (.cons (ev_v S rfl) .nil)).any .nil))).any .nil)).str fun s S => ?_
          exact w_nilSq (w_nil ⟨bStep st n, ⟨ht.symm, hB'⟩, S.sub (by rw [e]; exact ⟨rfl, rfl, rfl, trivial⟩)⟩)
        · have e : bStep st n = (st.1 ++ [(toldR n).pr], st.2 ++ [(toldR n).pr]) := by unfold bStep isThin; rw [if_neg (by rw [show (n % 4 == 3) = false from hb]; decide)]
          have gp := (told_ok n).good
          have lp := written_len [(toldR n).pr] (fun p hp => by rw [List.mem_singleton.mp hp]; exact gp) ""
          rw [e0] at lp
          have lp' : (writtenP [(toldR n).pr]).length ≤ 2010 := by unfold writtenP; simpa using lp
          refine w_assign S (stor hsc rfl) (ev_call S (glo hsc rfl) rfl rfl (hA.less (by decide)) (sp_written fx.w [(toldR n).pr] (fun p hp => by rw [List.mem_singleton.mp hp]; exact gp.pair) (Nat.le_of_ble_eq_true rfl)) (.cons (ev_call S (glo hsc rfl) rfl rfl (hA.less (by decide)) (sp_pairs fx.w [toldR n] (fun r hr => by rw [List.mem_singleton.mp hr]; have := (told_ok n).n; omega) (Nat.le_of_ble_eq_true rfl)) (.cons (ev_list (.cons (ev_call S (glo hsc rfl) rfl rfl (hA.less (by decide)) (sp_told fx.w n) (.cons (ev_v S rfl) .nil)).any .nil) (fun _ _ => trivial) (Nat.le_of_ble_eq_true rfl)) .nil)).any .nil)).str fun s S => ?_
          refine w_assign S (stor hsc rfl) (ev_add (ev_v S rfl) (ev_v S rfl) (by omega)) fun s S => ?_
          refine w_assign S (stor hsc rfl) (ev_add (ev_v S rfl) (ev_v S rfl) (by omega)) fun s S => ?_
          exact w_nilSq (w_nil ⟨bStep st n, ⟨ht.symm, hB'⟩, S.sub (by rw [e]; exact ⟨by rw [written_app]; rfl, by rw [written_app]; rfl, rfl, trivial⟩)⟩)
    · intro st s hR S
      rw [List.length_map, List.take_length] at hR
      have : booksP steps = st := hR.1.symm
      rw [this]
      refine w_return (ev_tuple (ok := fx.okN) (.cons (ev_v S rfl).str (.cons (ev_v S rfl).str .nil)) (fun _ h => S.fresh h) (Nat.le_of_ble_eq_true rfl)) fun v s' k iv => ⟨S.kp.trans k, iv.weak fun a ha => ha.2⟩
end Mine

/- M15 -/
namespace Mine
section
variable {f : Fx} {Γ Δ : List (Str × Ent)} {s s' : Shared} {pos p : Pos} {ds ds' : List D} {e e₁ e₂ : Expr} {ok : Addr → Prop}

/-- len(l) -/
theorem ev_len (S : St f Γ s) (hx : f.env.kindOf "len" = some .globalImplicit) (hg : nsIn (KK f.w) mainGlobals "len" = some none) (a : Ev f.toCx s e Any (.list ds)) (hz : ds.length ≤ 1000000) (hs : starEach [e] f.env = [(false, eval e f.env)] := by rfl) :
    Ev f.toCx s (.Call (.Name "len" p) [e] [] pos) ok (.int ds.length) := fun s₁ k₁ => by
  refine Call_ (ld_built (S.keep k₁) hx hg rfl ?_) rfl
  rw [hs]
  refine Calls.callWith_builtin rfl (Calls.evalArgs_plain (Calls.spliced_cons (wpAny_mono (a s₁ k₁) (fun v s₂ h₂ => Calls.spliced_nil ?_) fun _ _ h => h)))
  obtain ⟨k₂, i₂⟩ := h₂
  cases i₂ with
  | list hok hl ha =>
    rename_i ax vs
    have e : vs.toArray.size = ds.length := by rw [List.size_toArray, ha.length]
    refine Calls.call_len_list hl (by rw [e]; omega) ?_
    rw [e]
    exact ⟨k₂.trans ⟨⟨_, _, rfl, fun _ _ e => e⟩, fun _ => Nat.succ_le_succ (Nat.zero_le _)⟩, .int _ _⟩

/-- max(a, b) -/
theorem ev_max {i j : Int} (S : St f Γ s) (hA : f.A.handled = none) (hx : f.env.kindOf "max" = some .globalImplicit) (hg : nsIn (KK f.w) mainGlobals "max" = some none) (a : Ev f.toCx s e₁ Any (.int i)) (b : Ev f.toCx s e₂ Any (.int j)) (hs : starEach [e₁, e₂] f.env = [(false, eval e₁ f.env), (false, eval e₂ f.env)] := by rfl) :
    Ev f.toCx s (.Call (.Name "max" p) [e₁, e₂] [] pos) ok (.int (if j > i then j else i)) := fun s₁ k₁ => by
  refine Call_ (ld_built (S.keep k₁) hx hg rfl ?_) rfl
  rw [hs]
  refine Calls.callWith_builtin rfl (Calls.evalArgs_plain (Calls.spliced_cons (wpAny_mono (a s₁ k₁) (fun v s₂ h₂ => Calls.spliced_cons (wpAny_mono (b s₂ (k₁.trans h₂.1)) (fun u s₃ h₃ => Calls.spliced_nil ?_) fun _ _ h => h)) fun _ _ h => h)))
  obtain ⟨k₂, i₂⟩ := h₂
  obtain ⟨k₃, i₃⟩ := h₃
  cases i₂
  cases i₃
  refine with_tok (max_two_ints hA fun h' tk hk ht => ⟨(k₂.trans k₃).trans ⟨⟨h', tk, rfl, hk⟩, ht⟩, ?_⟩)
  split <;> exact .int _ _

/-- the iterator of range(n) -/
theorem src_range {n : Nat} (S : St f Γ s) (hA : f.A.handled = none) (hx : f.env.kindOf "range" = some .globalImplicit) (hg : nsIn (KK f.w) mainGlobals "range" = some none) (a : Ev f.toCx s e Any (.int n)) (hz : n ≤ 1000000) (hs : starEach [e] f.env = [(false, eval e f.env)] := by rfl) :
    Src f.toCx s (.Call (.Name "range" p) [e] [] pos) n (fun i => .int i) := fun s₁ k₁ => by
  refine Call_ (ld_built (S.keep k₁) hx hg rfl ?_) rfl
  refine PyProof.Rows.callWith_type1 (env := f.env) ?_ hs
  rw [hs]
  refine Calls.spliced_cons (wpAny_mono (a s₁ k₁) (fun v s₂ h₂ => Calls.spliced_nil ?_) fun _ _ h => h)
  obtain ⟨k₂, i₂⟩ := h₂
  cases i₂ with
  | int _ t =>
    refine call_range_1 ?_
    refine wpAny_pyIter_range (IsRange.new _ _ _ _ _ _ _) (small_one (by decide) (by decide) (by omega) (by omega)) ?_
    have hsz : Builtin.Range.rangeSize 0 (n : Int) 1 = n := by rw [rangeSize_one]; split <;> omega
    rw [hsz]
    generalize hH : s₂.heap.push { cls := .type "range", data := .fields #[.int 0 s₂.toks, .int n t, .int 1 (s₂.toks + 1)] } = H
    have hk2 : Kp s₂ { s₂ with heap := H, toks := s₂.toks + 1 + 1 } := ⟨⟨H, _, rfl, fun b o e => hH ▸ Heap.get?_push_of_some _ e⟩, fun q => by show 1 ≤ s₂.toks + 1 + 1; omega⟩
    have hn : H.get? H.objs.size = none := by
      cases hq : H.get? H.objs.size with
      | none => rfl
      | some o => exact absurd (Heap.lt_size hq) (Nat.lt_irrefl _)
    refine ⟨k₂.trans hk2, H.objs.size, _, _, _, rfl, Kp.push _ _, hn, ⟨_, Heap.get?_push_size _ rfl⟩, Walks.range (prog := Prg) (w := f.w) (A := f.A) hA H.objs.size 0 1 n, ?_, fun i h st => ⟨_, st⟩, ?_, ?_⟩
    · show IsRangeIter _ _ _ _ _
      have : (0 : Int) + ((0 : Nat) : Int) * 1 = 0 := by omega
      rw [this]
      have : (n : Int) - ((0 : Nat) : Int) = n := by omega
      rw [this]
      exact Heap.get?_push_size _ rfl
    · intro b hb hbI
      exact absurd (List.mem_singleton.mp hb) hbI
    · rintro i v hi ⟨u, rfl⟩
      have : (0 : Int) + (i : Int) * 1 = i := by omega
      rw [this]
      exact .int _ _

/-- a name of the frame around, seen in a comprehension -/
theorem ev_cap {g : Fx} {scope : Scope} {cl : List (Str × Addr)} {okX : Addr → Prop} {x : Str} {px : Pos} {en : Ent} {s₀ : Shared} (S : St f Γ s₀) (hI : InComp f g scope cl okX s₀ s') (hgk : g.env.scope.kind = .function) (hx : Γ.lookup x = some en) (hk : f.env.kindOf x = some .cell) (hk' : g.env.kindOf x = some .cell)
    (hc : ∀ a, f.env.cells.lookup x = some a → cl.lookup x = some a) (hdict : ∀ r ps, en ≠ .own r (.dict ps)) (hd : (x == ("__debug__" : Str)) = false := by decide) : Ev g.toCx s' (.Name x px) Any en.d := fun s₁ k => by
  obtain ⟨m, hn, hl⟩ := S.ns
  have E := hl x _ hx
  have key : ∀ v, VarIs f.toCx s₀.heap m x v → Is s₀.heap Any v en.d → wpAny (Mo g.w) g.A (eval (.Name x px) g.env) (fun v s₂ => Kp s₁ s₂ ∧ Is s₂.heap Any v en.d) NoE s₁ := by
    intro v V i
    cases V with
    | loc q _ => rw [hk] at q; cases q
    | cell q1 q2 q3 =>
      refine wpAny_Name (wpAny_loadName_cell hgk hk' (by rw [hI.cl]; exact hc _ q2) (q3.keeps fun b o e => k.kp _ _ (hI.keep b o e)) ⟨Kp.refl _, ?_⟩) hd
      exact i.keep fun b o e => k.kp _ _ (hI.keep b o e)
  cases en with
  | val d => obtain ⟨v, V, i⟩ := E; exact key v V i.any
  | new d => obtain ⟨v, V, i⟩ := E; exact key v V i.any
  | own r o =>
    obtain ⟨V, _, q⟩ := E
    cases o with
    | list ds => obtain ⟨vs, i, j⟩ := q; exact key _ V (.list trivial i.isList j.any)
    | dict ps => exact absurd rfl (hdict r ps)
end
section
variable {c : Cx} {s : Shared} {e₁ e₂ : Expr} {ds ds' : List D} {pos : Pos} {ok : Addr → Prop}
/-- l + l' -/
theorem ev_ladd (a : Ev c s e₁ ok (.list ds)) (b : Ev c s e₂ ok (.list ds')) (hf : ∀ a, s.heap.get? a = none → ok a) (hz : ds.length + ds'.length ≤ 1000000) : Ev c s (.BinOp e₁ .Add e₂ pos) ok (.list (ds ++ ds')) :=
  ev_bin a b fun s₁ v₁ v₂ h₁ h₂ k => by
    cases h₁ with
    | list p1 p2 p3 =>
      cases h₂ with
      | list q1 q2 q3 =>
        rename_i l vs l' vs'
        obtain ⟨⟨cls, dd, data, sl⟩, ho, hc, n, hd⟩ := id p2
        obtain ⟨⟨cls2, dd2, data2, sl2⟩, ho2, hc2, n2, hd2⟩ := id q2
        simp only at hc hd hc2 hd2
        subst hc hd hc2 hd2
        refine concat_meets ⟨_, ho, rfl⟩ ⟨_, ho2, rfl⟩ noFill_list_add seq_list_add PySem.F.slot_list_add PySem.F.entry_list_add (PySem.F.args_list_add_2 _ _) (list_addW l l' vs.toArray vs'.toArray n n2 dd dd2 sl sl2 (by rw [List.size_toArray, List.size_toArray, p3.length, q3.length, sizeLine_eq]; omega)) ⟨ho, ho2, ?_⟩
        refine ⟨Kp.push _ _, .list (hf _ ?_) (vs := vs ++ vs') ?_ ((p3.keep fun b o e => Heap.get?_push_of_some _ e).append (q3.keep fun b o e => Heap.get?_push_of_some _ e))⟩
        · cases hq : s.heap.get? s₁.heap.objs.size with
          | none => rfl
          | some o => exact absurd (Heap.lt_size (k.kp _ _ hq)) (Nat.lt_irrefl _)
        · exact ⟨_, Heap.get?_push_size _ rfl, rfl, 0, by simp⟩
end
section
variable {f : Fx} {Γ Δ : List (Str × Ent)} {s s' : Shared} {Q : Flow → Shared → Prop} {rest : List Stmt} {e ei : Expr} {d : D}
theorem are_set {h : Heap} {ok : Addr → Prop} {v : Value} (i : Is h ok v d) : ∀ {vs : List Value} {ds : List D} (k : Nat), Are h ok vs ds → Are h ok (vs.set k v) (ds.set k d)
  | _, _, _, .nil => .nil
  | _, _, 0, .cons p r => .cons i r
  | _, _, k + 1, .cons p r => .cons p (are_set i k r)
/-- l[i] = v -/
theorem w_setat {x : Str} {p p' pos : Pos} {r : Addr} {ds : List D} {i : Int} (S : St f Γ s) (hx : Γ.lookup x = some (.own r (.list ds))) (hon : OneOwn x Γ = true) (he : Ev f.toCx s e f.okN d) (hi : Ev f.toCx s ei Any (.int i)) (h0 : 0 ≤ i) (h1 : i < ds.length) (hz : ds.length ≤ 1000000)
    (h : ∀ s', St f ((x, .own r (.list (ds.set i.toNat d))) :: Γ) s' → Wx f rest Q s') (hd : (x == ("__debug__" : Str)) = false := by decide)
    (hs : swapsWithSole [.Subscript (.Name x p) ei p'] e pos.line f.env = pure false := by rfl) : Wx f (.Assign [.Subscript (.Name x p) ei p'] e pos :: rest) Q s := by
  refine w_of (wpAny_Assign_Subscript (wpAny_mono (he s (Kp.refl _)) (fun v s₁ h₁ => ?_) fun _ _ h => h) hs)
  obtain ⟨k₁, i₁⟩ := h₁
  have S₁ := S.keep k₁
  obtain ⟨m, hn, hl⟩ := S₁.ns
  obtain ⟨V, hr, vs, ⟨n, hp⟩, ha⟩ := hl x _ hx
  refine wpAny_Name (var_load S.en hn V ?_) hd
  refine wpAny_mono (hi s₁ k₁) (fun u s₂ h₂ => ?_) fun _ _ h => h
  obtain ⟨k₂, i₂⟩ := h₂
  cases i₂
  have S₂ := S₁.keep k₂
  refine ki_setAt (n := n) (items := vs.toArray) (k₂.kp _ _ hp) h0 (by omega) (by rw [List.size_toArray, ha.length]; omega) (h _ ?_)
  have hobj := Heap.get?_update_self (Obj.mapSeq (·.setIfInBounds i.toNat v)) (k₂.kp _ _ hp) rfl
  refine own_turn S₂ hx (OneOwn.all hon) (fun b q hb e => (Heap.get?_update_other _ _ (Ne.symm hb)).trans e) hobj ⟨vs.set i.toNat v, ⟨if (vs.toArray.setIfInBounds i.toNat v).size == vs.toArray.size then n else n + 1, ?_⟩, ?_⟩
  · have e : vs.toArray.setIfInBounds i.toNat v = (vs.set i.toNat v).toArray := by simp
    rw [← e]; exact hobj
  · refine (are_set (i₁.keep k₂.kp) i.toNat (ha.keep k₂.kp)).mono fun a o h1 h2 => ⟨h1, ?_⟩
    exact (Heap.get?_update_other _ _ (fun e : r = a => h1.1.1 (by rw [← e]; exact hr.1))).trans h2
end
end Mine

/- F15 -/
namespace Mine

def placeD (q : Bool × Nat) : D := .list [.str (hostS q.1), .int q.2]
def nameS (q : Bool × Nat) : Str := hostS q.1 ++ pathN q.2
def asked1 (rows : List Row) : List (Bool × Nat) := rows.map fun r => (r.host, 3 * r.node + 2)
def asked2 (rows : List Row) : List (Bool × Nat) := rows.map fun r => (r.host, (r.node - 1) / 3)

theorem fit_opt {o : Option (Str × Str)} (h : ∀ p, o = some p → PyData.strOk p.1 = true ∧ PyData.strOk p.2 = true) : Fit (optD o) := by
  cases o with
  | none => exact ⟨rfl, rfl⟩
  | some p => exact fit_pair (h p rfl).1 (h p rfl).2
theorem eqv_opt_self (o : Option (Str × Str)) : PyData.eqv (optD o).py (optD o).py = true := by
  cases o with
  | none => rfl
  | some p => show PyData.eqv (D.tup [.str p.1, .str p.2]).py (D.tup [.str p.1, .str p.2]).py = true; rw [eqv_pair]; simp
theorem strOk_name (q : Bool × Nat) : PyData.strOk (nameS q) = true := by
  refine Array.all_eq_true_iff_forall_mem.mpr fun c hc => decide_eq_true ?_
  have hc' : c ∈ L (hostS q.1 ++ pathN q.2) := Array.mem_toList_iff.mpr hc
  rw [L_app, List.mem_append] at hc'
  have : c ∈ [48, 49, 47, 97, 98] := by
    rcases hc' with h | h
    · revert h; clear hc; revert c; cases q.1 <;> decide
    · exact pathN_cs _ c h
  simp only [List.mem_cons, List.not_mem_nil, or_false] at this
  omega
theorem find_mem {α : Type} {l : List α} {P : α → Bool} {a : α} (h : l.find? P = some a) : a ∈ l := List.mem_of_find?_eq_some h

theorem Ev.weak {c : Cx} {s : Shared} {e : Expr} {ok ok' : Addr → Prop} {d : D} (x : Ev c s e ok d) (h : ∀ a, ok a → ok' a) : Ev c s e ok' d := fun s' k => wpAny_mono (x s' k) (fun _ _ q => ⟨q.1, q.2.weak h⟩) fun _ _ h => h
theorem swaps_env {env : Env} {sc : Scope} {v : Expr} {t : Option Expr} {n : Nat} (h : env.scope = sc) : swapsWith v t n env = swapsWith v t n { env with scope := sc } := by subst h; rfl
theorem sp_same (w : World) (rows : List Row) (told left : List (Str × Str)) (hr : ∀ r ∈ rows, RowOk r) (ht : ∀ p ∈ told, Good p) (hl : ∀ p ∈ left, Good p) (hn : rows.length ≤ 8)
    (h : ∀ q ∈ asked1 rows ++ asked2 rows, firstP told (nameS q) = dueR rows q.1 q.2 ∧ firstP left (nameS q) = dueR rows q.1 q.2) :
    Spec w 3 161 [.mgr, .list (rows.map Row.d), .list (told.map pairD), .list (left.map pairD)] (.bool true) := by
  refine spec_of ["manager", "rows", "told", "left"] rfl rfl (by rfl) rfl ?_ rfl (by simp) (by decide) (by decide) (by decide) rfl rfl rfl rfl rfl rfl ?_
  · rintro (_ | ⟨a, _ | ⟨b, _ | ⟨c, _ | ⟨d, _ | ⟨e, vs⟩⟩⟩⟩⟩) h <;> first | rfl | (simp at h; done)
  · intro fx s hw hsc hce hpi htp hA S
    dsimp only at hsc
    subst hw
    have hlm : (rows.map Row.d).length = rows.length := List.length_map _
    refine w_comp (fun i => ((asked1 rows).take i).map placeD) S (stor hsc rfl) (src_list hA.hh (ev_v S rfl)) ((swaps_env hsc).trans rfl) (closureFor_none (by decide)) (fun x a h => (nomatch h)) (by decide) rfl (by decide) rfl rfl (fun i hi => by rw [List.length_map, List.length_take]; omega) ?_ fun s S => ?_
    · intro i g s' hi hI S'
      rw [hlm] at hi
      have hd : rows[i]? = some rows[i] := List.getElem?_eq_getElem hi
      generalize rows[i] = r at hd
      have hm : r ∈ rows := List.mem_of_getElem? hd
      have hn := (hr r hm).n
      rw [getD_map hd] at S'
      have hd' : (asked1 rows)[i]? = some (r.host, 3 * r.node + 2) := by unfold asked1; rw [List.getElem?_map, hd]; rfl
      refine wpAny_pure ⟨Kp.refl _, placeD (r.host, 3 * r.node + 2), take_map_succ _ hd', ?_⟩
      exact Ev.cast (ev_list (.cons (ev_item (i := 0) (ev_v S' rfl) ev_int (by decide) (by decide) rfl).str (.cons (ev_iadd (ev_imul (i := 3) (j := r.node) ev_int (ev_item (i := 1) (ev_v S' rfl) ev_int (by decide) (by decide) rfl) (.of_left (by decide))) ev_int) .nil)) hI.fr (Nat.le_of_ble_eq_true rfl)) rfl
    · have hl1 : (asked1 rows).length = rows.length := List.length_map _
      have hl2 : (asked2 rows).length = rows.length := List.length_map _
      rw [hlm, ← hl1, List.take_length] at S
      refine w_assignN S (stor hsc rfl) (d := .list ((asked1 rows ++ asked2 rows).map placeD)) (Ev.cast (ev_ladd (ev_var_new S rfl) (ev_comp (fun i => ((asked2 rows).take i).map placeD) fx.okN S (src_list hA.hh (ev_v S rfl)) (closureFor_none (by decide)) (fun x a h => (nomatch h)) (by decide) rfl (by decide) rfl (fun a h => S.fresh h) rfl (fun i hi => by rw [List.length_map, List.length_take]; omega) ?_) (fun a h => S.fresh h) (by rw [List.length_map, List.length_map, List.length_take]; omega)) (by rw [hlm, ← hl2, List.take_length, List.map_append])) fun s S => ?_
      · intro i g s₀ s' k₀ hi hI S'
        rw [hlm] at hi
        have hd : rows[i]? = some rows[i] := List.getElem?_eq_getElem hi
        generalize rows[i] = r at hd
        have hm : r ∈ rows := List.mem_of_getElem? hd
        have hn := (hr r hm).n
        rw [getD_map hd] at S'
        have hd' : (asked2 rows)[i]? = some (r.host, (r.node - 1) / 3) := by unfold asked2; rw [List.getElem?_map, hd]; rfl
        refine wpAny_pure ⟨Kp.refl _, placeD (r.host, (r.node - 1) / 3), take_map_succ _ hd', ?_⟩
        have hAg : g.A.handled = none := by rw [hI.A]; exact hA.hh
        refine ev_list (.cons (ev_item (i := 0) (ev_v S' rfl) ev_int (by decide) (by decide) rfl).str (.cons (Ev.cast (d := .int ((if 0 > (r.node : Int) - 1 then 0 else (r.node : Int) - 1) / 3)) (ev_idiv (ev_max S' hAg (glo hI.sc rfl) rfl (ev_isub (ev_item (i := 1) (ev_v S' rfl) ev_int (by decide) (by decide) rfl) ev_int) ev_int) ev_int (by decide) (by decide)) ?_) .nil)) hI.fr (Nat.le_of_ble_eq_true rfl)
        congr 1
        split <;> omega
      · refine w_for1 S hA.hh (Ev.weak (ev_var_new S rfl) fun a h => h.1) (stor hsc rfl) (fun _ : Unit => [("manager", .val .mgr), ("rows", .val (.list (rows.map Row.d))), ("told", .val (.list (told.map pairD))), ("left", .val (.list (left.map pairD)))]) (fun _ _ => True) () ⟨rfl, rfl, rfl, rfl, trivial⟩ trivial ?_ ?_
        · intro i _ d I p s hd _ S
          rw [List.getElem?_map] at hd
          cases hr' : (asked1 rows ++ asked2 rows)[i]? with
          | none => rw [hr'] at hd; cases hd
          | some q =>
            rw [hr'] at hd
            cases hd
            have hm : q ∈ asked1 rows ++ asked2 rows := List.mem_of_getElem? hr'
            obtain ⟨e1, e2⟩ := h q hm
            have hq : q.2 < 1000 := by
              rcases List.mem_append.mp hm with hm | hm
              · obtain ⟨r, hr1, rfl⟩ := List.mem_map.mp hm
                have := (hr r hr1).n
                show 3 * r.node + 2 < 1000
                omega
              · obtain ⟨r, hr1, rfl⟩ := List.mem_map.mp hm
                have := (hr r hr1).n
                show (r.node - 1) / 3 < 1000
                omega
            have lp := pathN_len q.2
            have lh := hostS_len q.1
            have ln : (nameS q).length ≤ 100000 := by unfold nameS; rw [Str.length_append]; omega
            have fd : Fit (optD (dueR rows q.1 q.2)) := fit_opt fun p hp => by
              unfold dueR at hp
              rw [Option.map_eq_some_iff] at hp
              obtain ⟨r, h1, rfl⟩ := hp
              exact ⟨(hr r (find_mem h1)).good.ok, (hr r (find_mem h1)).good.uok⟩
            refine w_assign S (stor hsc rfl) (d := .str (nameS q)) (ev_add (ev_item (i := 0) (ev_v S rfl) ev_int (by decide) (by decide) rfl) (ev_call S (glo hsc rfl) rfl rfl (hA.less (by decide)) (sp_path fx.w q.2 hq) (.cons (ev_item (i := 1) (ev_v S rfl) ev_int (by decide) (by decide) rfl) .nil)).any (by omega)) fun s S => ?_
            refine w_assign S (stor hsc rfl) (d := optD (dueR rows q.1 q.2)) (Ev.weak (ev_call S (glo hsc rfl) rfl rfl hA (sp_due fx.w rows q.1 q.2 [] fun r hr1 => by have := (hr r hr1).n; omega) (.cons (ev_v S rfl) (.cons (ev_v S rfl) .nil))) fun a h => h.1) fun s S => ?_
            refine w_if S (tr_or (tr_dne hA (ev_call S (glo hsc rfl) rfl rfl hA (sp_first fx.w told (nameS q) (fun p hp => ⟨(ht p hp).ok, by have := (ht p hp).l; omega⟩) (strOk_name q) ln) (.cons (ev_v S rfl) (.cons (ev_v S rfl) (.cons (ev_v S rfl) .nil)))).any (ev_v S rfl) (by rw [e1]; exact fd) fd) fun _ =>
              tr_dne hA (ev_call S (glo hsc rfl) rfl rfl hA (sp_first fx.w left (nameS q) (fun p hp => ⟨(hl p hp).ok, by have := (hl p hp).l; omega⟩) (strOk_name q) ln) (.cons (ev_v S rfl) (.cons (ev_v S rfl) (.cons (ev_v S rfl) .nil)))).any (ev_v S rfl) (by rw [e2]; exact fd) fd) (fun hb s S => ?_) fun hb s S => ?_
            · rw [e1, e2, eqv_opt_self] at hb
              cases hb
            · exact w_nilSq (w_nil ⟨(), trivial, S.sub ⟨rfl, rfl, rfl, rfl, trivial⟩⟩)
        · intro _ s _ S
          refine w_return (ok := Any) ev_bool fun v s' k iv => ret_atom S k iv trivial
end Mine

/- M16 -/
namespace Mine

theorem bindL_look {kindOf : Str → Option NameKind} {x : Str} : ∀ (binds : List (Str × Value)) (m : Str → Option Value), (∀ p ∈ binds, kindOf p.1 = some .local) → (binds.map (·.1)).Nodup → (∀ v, binds.lookup x = some v → bindL kindOf binds m x = some v) ∧ (binds.lookup x = none → bindL kindOf binds m x = m x)
  | [], m, _, _ => ⟨fun v h => by simp at h, fun _ => rfl⟩
  | (n, v) :: r, m, h, hn => by
    obtain ⟨h1, h2⟩ := List.nodup_cons.mp hn
    have hk : kindOf n = some .local := h (n, v) List.mem_cons_self
    have e : bindL kindOf ((n, v) :: r) m = bindL kindOf r (fun y => if y = n then some v else m y) := by
      show bindL kindOf r (if kindOf n = some .local then _ else _) = _
      rw [if_pos hk]
    obtain ⟨i1, i2⟩ := bindL_look (x := x) r (fun y => if y = n then some v else m y) (fun p hp => h p (List.mem_cons_of_mem _ hp)) h2
    rw [e]
    by_cases q : x = n
    · subst q
      have hr : r.lookup x = none := by
        cases hz : r.lookup x with
        | none => rfl
        | some z => exact absurd (List.mem_map.mpr ⟨_, mem_of_lookup hz, rfl⟩) h1
      have := i2 hr
      rw [if_pos rfl] at this
      refine ⟨fun u hu => ?_, fun hu => ?_⟩
      · rw [List.lookup_cons, beq_self_eq_true] at hu
        rw [this]; exact hu
      · rw [List.lookup_cons, beq_self_eq_true] at hu; cases hu
    · have hb : (x == n) = false := beq_eq_false_iff_ne.mpr q
      refine ⟨fun u hu => ?_, fun hu => ?_⟩
      · rw [List.lookup_cons, hb] at hu; exact i1 u hu
      · rw [List.lookup_cons, hb] at hu
        rw [i2 hu, if_neg q]
theorem bindC_none {kindOf : Str → Option NameKind} : ∀ (binds : List (Str × Value)) (m : Str → Option Value), (∀ p ∈ binds, kindOf p.1 = some .local) → bindC kindOf binds m = m
  | [], m, _ => rfl
  | (n, v) :: r, m, h => by
    have hk : kindOf n = some .local := h (n, v) List.mem_cons_self
    show bindC kindOf r (if kindOf n = some .local then _ else _) = _
    rw [if_pos hk]
    exact bindC_none r m fun p hp => h p (List.mem_cons_of_mem _ hp)

theorem pair_same {cs : List (Str × Addr)} {x y : Str} {a : Addr} (h : cs.Pairwise fun x y => x.2 ≠ y.2) (hx : (x, a) ∈ cs) (hy : (y, a) ∈ cs) : x = y := by
  induction h with
  | nil => cases hx
  | @cons p r h1 _ ih =>
    rcases List.mem_cons.mp hx with e1 | hx
    · rcases List.mem_cons.mp hy with e2 | hy
      · rw [← e1] at e2; exact (congrArg Prod.fst e2).symm
      · exact absurd (congrArg Prod.snd e1).symm (h1 (y, a) hy)
    · rcases List.mem_cons.mp hy with e2 | hy
      · exact absurd (congrArg Prod.snd e2).symm (h1 (x, a) hx)
      · exact ih hx hy

abbrev fxC (w : World) (A : Around) (fd : FuncData) (f L : Addr) (base : Shared) : Fx := ⟨⟨w, A, callEnvC fd L f⟩, { base with toks := 0 }, L :: (cellsFrom (L + 1) fd.scope.names []).map (·.2), [], (fun _ _ => False), false⟩

/-- a def with cells of its own: the parameters are locals -/
theorem spec_cells {w : World} {k : Nat} {f : Addr} {o : Obj} {fd : FuncData} {body : List Stmt} (xs : List Str) {ds : List D} {r : D}
    (ho : (KK w).lookup f = some o) (hdata : o.data = .func fd) (hcd : codeIn (KK w) fd.code fd.qualname = true) (hbody : fd.body = .stmts body)
    (hbind : ∀ vs : List Value, vs.length = xs.length → bindArgs fd ⟨vs, []⟩ = pure (xs.zip vs)) (hlen : xs.length = ds.length)
    (hloc : ∀ x ∈ xs, fd.scope.names.lookup x = some .local) (hnd : xs.Nodup)
    (hco : fd.scope.isCoroutine = false) (hgen : fd.scope.isGenerator = false) (hk : fd.scope.kind = .function) (hgl : fd.globals = mainGlobals) (hbi : fd.builtins = builtinsNs) (hcl : fd.closure = [])
    (hcn : ∀ n, ((cellsFrom n fd.scope.names []).map (·.1)).Nodup)
    (h : ∀ (fx : Fx) n s, fx.w = w → fx.env.scope = fd.scope → fx.env.cells = cellsFrom n fd.scope.names [] → (∀ x a, fx.env.cells.lookup x = some a → a ∈ fx.mu) → fx.it = [] → Lv fx.A k → St fx (xs.zip (ds.map Ent.val)) s → Wx fx body (RetIs fx r) s) : Spec w (k + 1) f ds r := by
  intro A s vs G hA ha
  have hvl : vs.length = xs.length := by rw [ha.length, hlen]
  have hz : (xs.zip vs).map (·.1) = xs := by rw [List.map_fst_zip]; omega
  have hloc' : ∀ x ∈ xs.zip vs, fd.scope.names.lookup x.1 = some .local := fun x hx => hloc _ (by rw [← hz]; exact List.mem_map.mpr ⟨_, hx, rfl⟩)
  refine with_tok (wpAny_call (codeAny_call_cells hA.room (G.kin _ _ ho) hdata G.lim (codeRec_of G.kin hcd) hbody (hbind vs hvl) hcl (fun x hx => .inl (hloc' x hx)) (fun s₁ X => ?_) hco hgen hk))
  have hLn : ∀ a, s.heap.objs.size ≤ a → s.heap.get? a = none := fun a ha => by
    cases hq : s.heap.get? a with
    | none => rfl
    | some o => exact absurd (Heap.lt_size hq) (Nat.not_lt.mpr ha)
  obtain ⟨⟨⟨h₁, tk₁, e₁⟩, hn, hkeep, hfr⟩, hcell, hap, hab⟩ := X
  subst e₁
  refine noE (wpAny_mono (h (fxC w (A.deeper (callEnvC fd s.heap.objs.size f)) fd f s.heap.objs.size s) (s.heap.objs.size + 1) _ rfl rfl rfl ?_ rfl (hA.deeper _) ?_) (fun fl s' hq ht => ?_) fun _ _ x => x)
  · intro x a hx
    exact List.mem_cons_of_mem _ (List.mem_map.mpr ⟨_, mem_of_lookup hx, rfl⟩)
  · have hmu : ∀ a, a ∈ (fxC w (A.deeper (callEnvC fd s.heap.objs.size f)) fd f s.heap.objs.size s).mu → s.heap.objs.size ≤ a := fun a ha => by
      rcases List.mem_cons.mp ha with rfl | ha
      · exact Nat.le_refl _
      · obtain ⟨⟨x, b⟩, hp, rfl⟩ := List.mem_map.mp ha
        exact Nat.le_of_lt (hab x b hp)
    refine ⟨⟨hk, hgl, hbi⟩, G, ⟨⟨h₁, tk₁, rfl, hkeep⟩, fun q => absurd q (Nat.not_succ_le_zero 0)⟩, List.mem_cons_self, fun x a hx => ⟨.inl (List.mem_cons_of_mem _ (List.mem_map.mpr ⟨_, mem_of_lookup hx, rfl⟩)), ?_⟩, fun x y a hx hy => pair_same hap (mem_of_lookup hx) (mem_of_lookup hy), fun x a hx => ⟨_, hcell x a hx⟩, fun a ha => ?_, fun a ha => hLn a (hmu a ha), fun a o hp => (nomatch hp), fun a hp => (nomatch hp), fun q => (nomatch q), _, hn, fun x e hx => ?_⟩
    · exact Nat.ne_of_gt (hab x a (mem_of_lookup hx))
    · rcases List.mem_cons.mp ha with rfl | ha
      · obtain ⟨oL, _, _, hoL, _⟩ := id hn
        exact ⟨oL, hoL⟩
      · obtain ⟨⟨x, b⟩, hp, rfl⟩ := List.mem_map.mp ha
        obtain ⟨o, ho, _⟩ := hcell x b (lookup_nodup (q := (x, b)) (hcn _) hp)
        exact ⟨o, ho⟩
    · obtain ⟨v, d, rfl, hv, i⟩ := lookup_zip hlen ha hx
      refine ⟨v, .loc (hloc x ?_) ((bindL_look (xs.zip vs) _ (fun p hp => hloc' p hp) (by rw [hz]; exact hnd)).1 v hv), (i.mono fun a o _ ho => ⟨⟨fun hm => ?_, fun hm => (nomatch hm)⟩, hkeep _ _ ho⟩)⟩
      · rw [← hz]
        exact List.mem_map.mpr ⟨_, mem_of_lookup hv, rfl⟩
      · rw [hLn a (hmu a hm)] at ho; cases ho
  · obtain ⟨⟨⟨h', tk', e', kk⟩, _⟩, iv⟩ := hq
    subst e'
    exact ⟨⟨⟨h', tk', rfl, kk⟩, ht⟩, iv⟩

theorem storC {f : Fx} {sc : Scope} {x : Str} {a : Addr} (h : f.env.scope = sc) (h' : sc.names.lookup x = some .cell) (hc : f.env.cells.lookup x = some a) (hm : a ∈ f.mu) : Storable f x := .inr ⟨by show f.env.scope.names.lookup x = _; rw [h]; exact h', a, hc, hm⟩

theorem clos_env {env : Env} {cs : List (Str × Addr)} {sc : Scope} (h : env.cells = cs) : closureFor sc env = closureFor sc { env with cells := cs } := by subst h; rfl

theorem tests_one {g : Fx} {s : Shared} {c : Expr} {b : Bool} {Q : Bool → Shared → Prop} (t : Tr g.toCx s c b) (h : ∀ s', Kp s s' → Q b s') : wpAny (Mo g.w) g.A (testsOf [c] g.env) Q NoE s := by
  unfold testsOf
  rw [List.forIn_cons]
  refine wpAny_bind ?_
  rw [if_pos rfl]
  refine wpAny_bind (wpAny_mono (t s (Kp.refl _)) (fun r s₁ h₁ => wpAny_pure ?_) fun _ _ h => h)
  obtain ⟨k, rfl⟩ := h₁
  show wpAny _ _ (forIn ([] : List Expr) r _) _ _ _
  rw [List.forIn_nil]
  exact wpAny_pure (h s₁ k)
end Mine

/- F14 -/
namespace Mine

/-- the same place -/
def Row.at (r t : Row) : Bool := r.host == t.host && r.node == t.node
def atL (rows : List Row) (t : Row) : List Nat := (List.range rows.length).filter fun k => match rows[k]? with | some r => r.at t | none => false
def rStep (rows : List Row) (n : Int) : List Row := if isThin n then rows else match atL rows (toldR n) with
  | [] => rows ++ [toldR n]
  | k :: _ => rows.set k (toldR n)
def rowsR (steps : List Int) : List Row := steps.foldl rStep []

def twoD (r : Row) : D := .list [.str (hostS r.host), .int r.node]
theorem strOk_host (b : Bool) : PyData.strOk (hostS b) = true := by cases b <;> decide +kernel
theorem fit_two (r : Row) : Fit (twoD r) := ⟨rfl, by simp [SeqAt.shaped, twoD, D.py, D.pys, PyData.canLay0, PyData.canLayAll0, PyData.depth, PyData.depthAll, strOk_host]⟩
theorem eqv_two (r t : Row) : PyData.eqv (twoD r).py (twoD t).py = r.at t := by
  have e : ((r.node : Int) == (t.node : Int)) = (r.node == t.node) := by
    rw [Bool.eq_iff_iff, beq_iff_eq, beq_iff_eq]; omega
  simp [twoD, D.py, D.pys, PyData.eqv, PyData.eqvAll, Row.at, hostS_beq, e]

/-- lists of flat things can be compared -/
structure Flt (d : D) : Prop where
  m : d.noMgr = true
  c : d.py.canLay0 = true
  d : d.py.depth ≤ 60
theorem flt_all : ∀ {ds : List D}, (∀ d ∈ ds, Flt d) → D.noMgrs ds = true ∧ PyData.canLayAll0 (D.pys ds) = true ∧ PyData.depthAll (D.pys ds) ≤ 60
  | [], _ => ⟨rfl, rfl, Nat.zero_le _⟩
  | d :: r, h => by
    have a := h d List.mem_cons_self
    have b := flt_all fun x hx => h x (List.mem_cons_of_mem _ hx)
    refine ⟨?_, ?_, ?_⟩
    · rw [D.noMgrs, a.m, b.1]; rfl
    · rw [D.pys, PyData.canLayAll0, a.c, b.2.1]; rfl
    · rw [D.pys, PyData.depthAll]; exact Nat.max_le.mpr ⟨a.d, b.2.2⟩
theorem fit_list {ds : List D} (h : ∀ d ∈ ds, Flt d) : Fit (.list ds) := by
  obtain ⟨a, b, c⟩ := flt_all h
  refine ⟨by rw [D.noMgr]; exact a, ?_⟩
  unfold SeqAt.shaped
  rw [D.py, PyData.canLay0, b, PyData.depth]
  simp; omega

def intsD (l : List Nat) : List D := l.map fun (k : Nat) => D.int (k : Int)
theorem fit_ints (l : List Nat) : Fit (.list (intsD l)) := fit_list fun d hd => by
  obtain ⟨k, _, rfl⟩ := List.mem_map.mp hd
  exact ⟨rfl, rfl, Nat.zero_le _⟩
theorem eqv_nil (l : List Nat) : PyData.eqv (D.list (intsD l)).py (D.list []).py = l.isEmpty := by
  cases l <;> simp [intsD, D.py, D.pys, PyData.eqv, PyData.eqvAll]

theorem rStep_ok {rows : List Row} (n : Int) (h : ∀ r ∈ rows, RowOk r) : ∀ r ∈ rStep rows n, RowOk r := by
  unfold rStep
  split
  · exact h
  · split
    · intro r hr
      rcases List.mem_append.mp hr with hr | hr
      · exact h r hr
      · rw [List.mem_singleton.mp hr]; exact told_ok n
    · intro r hr
      rcases List.mem_or_eq_of_mem_set hr with hr | rfl
      · exact h r hr
      · exact told_ok n
theorem rStep_len (rows : List Row) (n : Int) : (rStep rows n).length ≤ rows.length + 1 := by
  unfold rStep
  split
  · omega
  · split <;> simp

theorem kindS {c : Cx} {sc : Scope} {x : Str} {k : NameKind} (h : c.env.scope = sc) (h' : sc.names.lookup x = some k) : c.env.kindOf x = some k := by show c.env.scope.names.lookup x = _; rw [h]; exact h'
theorem capK {f g : Fx} {scope sc : Scope} {x : Str} {k : NameKind} (h : g.env.scope = relabel scope f.env) (hs : f.env.scope = sc) (hk : (relabel scope { f.env with scope := sc }).names.lookup x = some k) : g.env.kindOf x = some k := by
  show g.env.scope.names.lookup x = _
  rw [h, ← hk]
  subst hs
  rfl

theorem tests_oneI {f g : Fx} {s : Shared} {c : Expr} {b : Bool} {Q : Bool → Shared → Prop} (hw : g.w = f.w) (hA : g.A = f.A) (t : Tr g.toCx s c b) (h : ∀ s', Kp s s' → Q b s') : wpAny (Mo f.w) f.A (testsOf [c] g.env) Q NoE s := by
  rw [← hw, ← hA]; exact tests_one t h

theorem sp_rows (w : World) (steps : List Int) (hn : steps.length ≤ 8) : Spec w 2 142 [.list (steps.map D.int)] (.list ((rowsR steps).map Row.d)) := by
  refine spec_cells ["steps"] rfl rfl (by rfl) rfl ?_ rfl (by decide) (by decide) rfl rfl rfl rfl rfl rfl (fun n => by show (["told", "rows"] : List Str).Nodup; decide) ?_
  · rintro (_ | ⟨a, _ | ⟨b, vs⟩⟩) h <;> first | rfl | (simp at h; done)
  · intro fx cn s hw hsc hce hmu hit hA S
    dsimp only at hsc hce
    subst hw
    have hce' : fx.env.cells = [(("told" : Str), cn + 1), (("rows" : Str), cn)] := hce
    have c1 : fx.env.cells.lookup ("rows" : Str) = some cn := by rw [hce']; rfl
    have c2 : fx.env.cells.lookup ("told" : Str) = some (cn + 1) := by rw [hce']; rfl
    refine w_newlist S (storC hsc rfl c1 (hmu _ _ c1)) fun r s S => ?_
    refine w_for1 (f := fx.plus r) S hA.hh (ev_var_val S rfl) (stor hsc rfl) (fun rows : List Row => [("rows", .own r (.list (rows.map Row.d)))]) (fun i rows => rows = (steps.take i).foldl rStep [] ∧ rows.length ≤ i ∧ ∀ r ∈ rows, RowOk r) [] ⟨rfl, trivial⟩ ⟨rfl, Nat.le_refl _, fun p hp => (nomatch hp)⟩ ?_ ?_
    · intro i rows d I p s hd hR S
      obtain ⟨hR, hRl, hRo⟩ := hR
      rw [List.getElem?_map] at hd
      cases hr' : steps[i]? with
      | none => rw [hr'] at hd; cases hd
      | some n =>
        rw [hr'] at hd
        cases hd
        have hi : i < steps.length := (List.getElem?_eq_some_iff.mp hr').1
        have ht : (steps.take (i + 1)).foldl rStep [] = rStep rows n := by
          rw [List.take_add_one, hr', List.foldl_append, ← hR]; rfl
        have hl' := rStep_len rows n
        have hfin : ∀ {s'}, St ((fx.plus r).inl I p) [("rows", .own r (.list ((rStep rows n).map Row.d)))] s' → ∃ a', (a' = (steps.take (i + 1)).foldl rStep [] ∧ a'.length ≤ i + 1 ∧ ∀ r ∈ a', RowOk r) ∧ St ((fx.plus r).inl I p) [("rows", .own r (.list (a'.map Row.d)))] s' := fun S => ⟨_, ⟨ht.symm, by omega, rStep_ok n hRo⟩, S⟩
        refine w_if S (tr_ine (ev_imod (ev_v S rfl) ev_int (by decide)) ev_int) (fun hb s S => ?_) fun hb s S => ?_
        · have hth : isThin n = false := by unfold isThin; simpa using hb
          have e0 : rStep rows n = match atL rows (toldR n) with
              | [] => rows ++ [toldR n]
              | k :: _ => rows.set k (toldR n) := by unfold rStep; rw [hth]; rfl
          refine w_assignN S (storC (f := (fx.plus r).inl I p) hsc rfl c2 (List.mem_cons_of_mem _ (hmu _ _ c2))) (ev_call S (glo hsc rfl) rfl rfl hA (sp_told fx.w n) (.cons (ev_v S rfl) .nil)) fun s S => ?_
          have hout : ∀ j, ((List.range j).filter fun k => match rows[k]? with | some r => r.at (toldR n) | none => false).length ≤ j := fun j => Nat.le_trans (List.length_filter_le _ _) (by simp)
          refine w_comp (fun j => intsD ((List.range j).filter fun k => match rows[k]? with | some r => r.at (toldR n) | none => false)) S (stor hsc rfl) (src_range (n := rows.length) S hA.hh (glo hsc rfl) rfl (Ev.cast (ev_len S (glo hsc rfl) rfl (ev_var_own S rfl) (by rw [List.length_map]; omega)) (by rw [List.length_map])) (by omega)) ((swaps_env hsc).trans rfl) ((clos_env hce').trans rfl) ?_ (by decide) rfl (by decide) rfl rfl (fun j hj => by unfold intsD; rw [List.length_map]; have := hout j; omega) ?_ fun s S => ?_
          · intro x a h
            show fx.env.cells.lookup x = some a
            rw [hce']; exact h
          · intro j g s' hj hI S'
            have hd : rows[j]? = some rows[j] := List.getElem?_eq_getElem hj
            generalize rows[j] = q at hd
            have hA' : Lv g.A 1 := by rw [hI.A]; exact hA
            have hkr : g.env.kindOf "rows" = some .cell := capK hI.sc hsc rfl
            have hkt : g.env.kindOf "told" = some .cell := capK hI.sc hsc rfl
            have hfr : fx.env.kindOf "rows" = some .cell := kindS hsc rfl
            have hft : fx.env.kindOf "told" = some .cell := kindS hsc rfl
            refine tests_oneI hI.w hI.A (b := q.at (toldR n)) (by
              rw [← eqv_two]
              exact tr_deq hA' (Ev.cast (ev_lslice (ok := Any) (ev_item (i := (j : Int)) (d := q.d) (ev_cap (px := _) S hI S'.en.fn (x := "rows") rfl hfr hkr (fun a ha => by rw [← hce']; exact ha) (fun _ _ e => nomatch e)) (ev_v S' rfl) (by omega) (by omega) (by show (rows.map Row.d)[j]? = _; rw [List.getElem?_map, hd]; rfl)) ev_int (fun _ _ => trivial) (by decide) (Nat.le_of_ble_eq_true rfl)) rfl) (Ev.cast (ev_lslice (ok := Any) (ev_cap (px := _) S hI S'.en.fn (x := "told") rfl hft hkt (fun a ha => by rw [← hce']; exact ha) (fun _ _ e => nomatch e)) ev_int (fun _ _ => trivial) (by decide) (Nat.le_of_ble_eq_true rfl)) rfl) (fit_two q) (fit_two _)) fun s₄ k₄ => ⟨k₄, ?_⟩
            have er : (List.range (j + 1)).filter (fun k => match rows[k]? with | some r => r.at (toldR n) | none => false) = (List.range j).filter (fun k => match rows[k]? with | some r => r.at (toldR n) | none => false) ++ (if q.at (toldR n) then [j] else []) := by
              rw [List.range_succ, List.filter_append]
              congr 1
              rw [List.filter_cons, List.filter_nil, hd]
            rw [er]
            split
            · rename_i hq
              refine ⟨.int j, ?_, (ev_v (S'.keep k₄) rfl).int⟩
              rw [intsD, List.map_append]; rfl
            · rename_i hq
              rw [List.append_nil]
          · generalize hat : (List.range rows.length).filter (fun k => match rows[k]? with | some r => r.at (toldR n) | none => false) = at' at S
            have hat' : atL rows (toldR n) = at' := hat
            have hlen : at'.length ≤ rows.length := by rw [← hat]; exact hout _
            refine w_if S (tr_deq hA (ev_vn S rfl) (ev_list (ok := Any) .nil (fun _ _ => trivial) (by decide)) (fit_ints at') (fit_ints [])) (fun hb s S => ?_) fun hb s S => ?_
            · rw [eqv_nil] at hb
              have e1 : at' = [] := by cases at' <;> simp_all
              have e2 : rStep rows n = rows ++ [toldR n] := by rw [e0, hat', e1]
              refine w_append S rfl rfl (d := (toldR n).d) (ev_var_new S rfl) (by rw [List.length_map]; omega) (fun s S => w_nilSq (w_nilSq (w_nil (hfin ?_)))) rfl
              rw [e2, List.map_append]
              exact S.sub ⟨rfl, trivial⟩
            · rw [eqv_nil] at hb
              cases hk : at' with
              | nil => rw [hk] at hb; cases hb
              | cons k0 at2 =>
                have e2 : rStep rows n = rows.set k0 (toldR n) := by rw [e0, hat', hk]
                have hk0 : k0 < rows.length := by
                  have : k0 ∈ (List.range rows.length).filter (fun k => match rows[k]? with | some r => r.at (toldR n) | none => false) := by rw [hat, hk]; exact List.mem_cons_self
                  exact List.mem_range.mp (List.mem_filter.mp this).1
                rw [hk] at S
                refine w_setat (i := (k0 : Int)) S rfl rfl (d := (toldR n).d) (ev_var_new S rfl) (ev_item (i := 0) (ev_vn S rfl) ev_int (by decide) (by decide) rfl) (by omega) (by rw [List.length_map]; omega) (by rw [List.length_map]; omega) fun s S => w_nilSq (w_nilSq (w_nil (hfin ?_)))
                rw [e2, List.map_set]
                exact S.sub ⟨rfl, trivial⟩
        · have hth : isThin n = true := by unfold isThin; simpa using hb
          have e0 : rStep rows n = rows := by unfold rStep; rw [hth]; rfl
          refine w_nilSq (w_nil (hfin (by rw [e0]; exact S.sub ⟨rfl, trivial⟩)))
    · intro rows s hR S
      refine w_return (ev_ret_own S rfl) fun v s' k iv => ⟨S.kp.trans k, ?_⟩
      have : rowsR steps = rows := by rw [hR.1, List.length_map, List.take_length]; rfl
      rw [this]
      exact iv
end Mine

/- P2 -/
namespace Mine

/- the texts as lists -/
theorem L_hd1 (x : Str) : L (hd1 x) = (L x).take 1 := by
  unfold hd1
  by_cases h : 1 ≤ (L x).length
  · have e := beq_iff_eq.mp (slice_closes_to (x := x) (j := 1) ⟨by decide, by show (1 : Int) ≤ ((L x).length : Int); omega⟩)
    rw [e]
    simp
  · have : x = "" := L_ext (by rw [List.eq_nil_of_length_eq_zero (l := L x) (by omega)]; decide)
    subst this
    decide +kernel
theorem L_tl1 (x : Str) : L (tl1 x) = (L x).drop 1 := by
  unfold tl1
  by_cases h : 1 ≤ (L x).length
  · have e := beq_iff_eq.mp (slice_closes_from (x := x) (i := 1) ⟨by decide, by show (1 : Int) ≤ ((L x).length : Int); omega⟩)
    rw [e, L_mk]
    show ((L x).drop 1).take (((L x).length : Int) - 1).toNat = _
    rw [List.take_of_length_le]
    rw [List.length_drop]; omega
  · have : x = "" := L_ext (by rw [List.eq_nil_of_length_eq_zero (l := L x) (by omega)]; decide)
    subst this
    decide +kernel
theorem L_beq (x y : Str) : (x == y) = (L x == L y) := by
  rw [Bool.eq_iff_iff, beq_iff_eq, beq_iff_eq]
  exact ⟨fun h => h ▸ rfl, L_ext⟩
def slL (p : List Nat) : List Nat := if p.drop (p.length - 1) == [47] then p else p ++ [47]
theorem L_slashed (p : Str) : L (slashed p) = slL (L p) := by
  have e : L (Txt.slice p (some (-1)) none) = (L p).drop ((L p).length - 1) := by
    by_cases h : 1 ≤ (L p).length
    · have hl := L_len p
      have e := beq_iff_eq.mp (slice_closes_from_neg (x := p) (i := -1) (a := -1 + p.length) (b := p.length) (by decide) (by omega) rfl rfl)
      rw [e, L_mk]
      show ((L p).drop ((-1 : Int) + p.length).toNat).take _ = _
      rw [List.take_of_length_le]
      · congr 1; omega
      · rw [List.length_drop]; omega
    · have : p = "" := L_ext (by rw [List.eq_nil_of_length_eq_zero (l := L p) (by omega)]; decide)
      subst this
      decide +kernel
  unfold slashed slL
  have e2 : (Txt.slice p (some (-1)) none != "/") = !((L p).drop ((L p).length - 1) == [47]) := by
    rw [bne, L_beq, e, show L ("/" : Str) = [47] by decide]
  rw [e2]
  cases h : ((L p).drop ((L p).length - 1) == [47])
  · simp [L_app, show L ("/" : Str) = [47] by decide]
  · simp
theorem startswith_eq (x y : Str) : Txt.startswith x y = (L y).isPrefixOf (L x) := by
  unfold Txt.startswith
  rw [StrLaws.subAt_eq, Bool.eq_iff_iff, Bool.and_eq_true, List.isPrefixOf_iff_prefix, beq_iff_eq, decide_eq_true_iff]
  have hx := L_len x
  have hy := L_len y
  rw [List.drop_zero, ← hy, List.prefix_iff_eq_take]
  constructor
  · intro h; exact h.2.symm
  · intro h
    refine ⟨?_, h.symm⟩
    have := congrArg List.length h
    rw [List.length_take] at this
    omega
def covL (k p : List Nat) : Bool := k.take 1 == p.take 1 && (k.drop 1 == p.drop 1 || (slL (k.drop 1)).isPrefixOf (p.drop 1))
theorem keyCovers_eq (k p : Str) : keyCovers k p = covL (L k) (L p) := by
  unfold keyCovers subUri covL
  rw [L_beq, L_beq, startswith_eq, L_slashed, L_hd1, L_hd1, L_tl1, L_tl1, ← Bool.and_or_distrib_left]

theorem slL_pre (p : List Nat) : p <+: slL p := by
  unfold slL
  split
  · exact List.prefix_rfl
  · exact List.prefix_append _ _
theorem covL_refl (k : List Nat) : covL k k = true := by unfold covL; simp
theorem covL_trans {a b c : List Nat} (h : covL a b = true) (h' : covL b c = true) : covL a c = true := by
  unfold covL at *
  rw [Bool.and_eq_true, Bool.or_eq_true, beq_iff_eq, beq_iff_eq, List.isPrefixOf_iff_prefix] at *
  refine ⟨h.1.trans h'.1, ?_⟩
  rcases h.2 with e | e
  · rw [e]; exact h'.2
  · rcases h'.2 with e' | e'
    · rw [← e']; exact .inr e
    · exact .inr (e.trans ((slL_pre _).trans e'))
theorem cov_refl (k : Str) : keyCovers k k = true := by rw [keyCovers_eq]; exact covL_refl _
theorem cov_trans {a b c : Str} (h : keyCovers a b = true) (h' : keyCovers b c = true) : keyCovers a c = true := by
  rw [keyCovers_eq] at *; exact covL_trans h h'

/- the tree -/
def segL (k : Nat) : List Nat := match k % 3 with
  | 0 => [97]
  | 1 => [97, 98]
  | _ => []
def pL : Nat → Nat → List Nat
  | 0, _ => []
  | _ + 1, 0 => []
  | f + 1, n + 1 => pL f (n / 3) ++ 47 :: segL n
theorem L_seg (k : Nat) : L (segN k) = segL k := by
  unfold segN segL
  rcases (by omega : k % 3 = 0 ∨ k % 3 = 1 ∨ k % 3 = 2) with h | h | h <;> rw [h] <;> decide
theorem L_path : ∀ (f n : Nat), n ≤ f → L (pathN n) = pL f n
  | 0, n, h => by
    have : n = 0 := by omega
    subst this
    rw [pathN, pL]; decide
  | f + 1, 0, h => by rw [pathN, pL]; decide
  | f + 1, n + 1, h => by
    rw [pathN, pL, L_app, L_app, L_path f (n / 3) (by omega), L_seg, show L ("/" : Str) = [47] by decide]
    rfl
def clF (top : Nat) : Nat → Nat → Bool
  | 0, _ => false
  | _ + 1, 0 => false
  | f + 1, n + 1 => n / 3 == top || clF top f (n / 3)
theorem cl_eq (top : Nat) : ∀ (f n : Nat), n ≤ f → climbs top n = clF top f n
  | 0, n, h => by
    have : n = 0 := by omega
    subst this
    rw [climbs, clF]
  | f + 1, 0, h => by rw [climbs, clF]
  | f + 1, n + 1, h => by rw [climbs, clF, cl_eq top f (n / 3) (by omega)]

def tree (a b : Nat) : Bool := (a == b || clF (topN a) 120 b) == (let p := pL 120 a; let q := pL 120 b; p == q || (slL p).isPrefixOf q)
theorem tree_all : (List.range 40).all (fun a => (List.range 120).all fun b => tree a b) = true := by decide +kernel
def apart (a b : Nat) : Bool := a == b || !(pL 120 a == pL 120 b)
theorem apart_all : (List.range 40).all (fun a => (List.range 40).all fun b => apart a b) = true := by decide +kernel

theorem covers_eq (r : Row) (h : Bool) (n : Nat) (hr : r.node < 40) (hn : n < 120) : keyCovers r.key (nameS (h, n)) = coversR r h n := by
  have t : tree r.node n = true := List.all_eq_true.mp (List.all_eq_true.mp tree_all r.node (List.mem_range.mpr hr)) n (List.mem_range.mpr hn)
  unfold tree at t
  rw [beq_iff_eq] at t
  unfold coversR coversN
  rw [cl_eq _ 120 n (by omega), t, keyCovers_eq]
  unfold covL Row.key nameS
  rw [L_app, L_app, L_path 120 r.node (by omega), L_path 120 n (by omega)]
  cases r.host <;> cases h <;> simp [hostS, show L ("0" : Str) = [48] by decide, show L ("1" : Str) = [49] by decide]

theorem key_inj {r t : Row} (hr : r.node < 40) (ht : t.node < 40) (h : r.key = t.key) : r.host = t.host ∧ r.node = t.node := by
  have a : apart r.node t.node = true := List.all_eq_true.mp (List.all_eq_true.mp apart_all r.node (List.mem_range.mpr hr)) t.node (List.mem_range.mpr ht)
  have e := congrArg L h
  unfold Row.key at e
  rw [L_app, L_app, L_path 120 r.node (by omega), L_path 120 t.node (by omega)] at e
  unfold apart at a
  rw [Bool.or_eq_true, beq_iff_eq, Bool.not_eq_true', beq_eq_false_iff_ne] at a
  have e' : r.host = t.host ∧ pL 120 r.node = pL 120 t.node := by
    generalize r.host = x at e ⊢
    generalize t.host = y at e ⊢
    cases x <;> cases y <;> simp [hostS, show L ("0" : Str) = [48] by decide, show L ("1" : Str) = [49] by decide] at e ⊢ <;> exact e
  exact ⟨e'.1, a.elim id fun q => absurd e'.2 q⟩
end Mine

/- M17 -/
namespace Mine
section
variable {f : Fx} {Γ Δ : List (Str × Ent)} {s s' : Shared} {pos p : Pos}

/-- the manager made -/
theorem ev_mgr {k : Nat} (S : St f Γ s) (hA : Lv f.A (k + 1)) (hx : f.env.kindOf "HTTPPasswordMgr" = some .globalImplicit) : Ev f.toCx s (.Call (.Name "HTTPPasswordMgr" p) [] [] pos) f.okN .mgr := fun s₁ k₁ => by
  refine Call_ (ld_glob (S.keep k₁) hx rfl ?_) rfl
  have S₁ := S.keep k₁
  have G := S₁.gr'
  refine callWith_K0 (K := KK f.w) (env := f.env) G.kin rfl (wpAny_call ?_)
  obtain ⟨h, g, d, t, os⟩ := s₁
  refine make_core (C := 67) (makes_of G.kin rfl) (looks_findIn G.kin rfl) (fun self => bind_fn G.kin self rfl) (.inl rfl) ?_
  dsimp only at G
  have kpp : ∀ b o, h.get? b = some o → ((h.push emptyDict).push (instObj 67 h.objs.size)).get? b = some o := fun b o e => Heap.get?_push_of_some _ (Heap.get?_push_of_some _ e)
  have G' := G.keep kpp
  have hxo : ((h.push emptyDict).push (instObj 67 h.objs.size)).get? (h.objs.size + 1) = some (instObj 67 h.objs.size) := by heap_get
  have hdo : ((h.push emptyDict).push (instObj 67 h.objs.size)).get? h.objs.size = some emptyDict := by heap_get
  have hsz : ((h.push emptyDict).push (instObj 67 h.objs.size)).objs.size = h.objs.size + 2 := by rw [Heap.size_push, Heap.size_push]
  have hno : ∀ a, h.objs.size ≤ a → h.get? a = none := fun a ha => by
    cases hq : h.get? a with
    | none => rfl
    | some o => exact absurd (Heap.lt_size hq) (Nat.not_lt.mpr ha)
  refine codeAny_call_def (binds := [("self", .ref (h.objs.size + 1))]) (by rw [depth_under_make]; exact Nat.lt_of_le_of_lt (Nat.le_refl _) (by have := hA.dp; unfold recursionLimit; omega)) (G'.kin _ _ rfl) rfl G'.lim (codeRec_of G'.kin rfl) rfl (BindsTo.of_eq rfl) (by decide) (fun x hx => by rw [List.mem_singleton.mp hx]; rfl) (fun h₀ hn hk₀ => ?_)
  dsimp only at hn hk₀ ⊢
  rw [hsz] at hn ⊢
  generalize hH : h₀.push emptyDict = h₁
  have hk₁ : ∀ b o, h₀.get? b = some o → h₁.get? b = some o := fun b o e => hH ▸ Heap.get?_push_of_some _ e
  have F : Fr h (h.objs.size + 2) h₁ (fun x => List.lookup x [(("self" : Str), Value.ref (h.objs.size + 1))].reverse) := ⟨hn.keeps hk₁, fun b o e => hk₁ _ _ (hk₀ _ _ (kpp _ _ e)), by omega⟩
  have N : News h (h.objs.size + 2) h₁ [(h.objs.size + 1, instObj 67 h.objs.size), (h.objs.size, dictOf [] 0)] := by
    intro q hq
    rcases List.mem_cons.mp hq with rfl | hq
    · exact ⟨hk₁ _ _ (hk₀ _ _ hxo), by show h.objs.size + 1 ≠ _; omega, hno _ (by omega)⟩
    · rw [List.mem_singleton.mp hq]
      exact ⟨hk₁ _ _ (hk₀ _ _ hdo), by show h.objs.size ≠ _; omega, hno _ (Nat.le_refl _)⟩
  refine wpAny_execs_cons (plainObj_wpAny_Assign_Attribute (wpAny_Dict_empty ?_) rfl)
  show wpAny _ _ _ _ _ (⟨h₀.push emptyDict, g, d, t + 1, os⟩ : Shared)
  rw [hH]
  refine wpAny_Name (wpAny_loadName_local rfl rfl F.ns rfl ?_) rfl
  refine set_dict (s := ⟨h₁, g, d, t + 1, os⟩) F G.kin N (InstAt.of_news N (.head _) (.tail _ (.head _))) rfl rfl rfl rfl rfl rfl rfl (.tail (by show h.objs.size + 1 ≠ _; omega) (.head fun q hq => nomatch hq)) (Nat.le_of_ble_eq_true rfl) fun h' F' N' => ?_
  refine wpAny_execs_nil ⟨rfl, ⟨⟨h', _, rfl, F'.keep⟩, fun _ => ?_⟩, .mgr ⟨h.objs.size, _, _, _, ?_, ?_, (N' _ (.head _)).1, (N' _ (.tail _ (.head _))).1, rfl⟩⟩
  · show 1 ≤ t + 1 + 2
    omega
  · exact S₁.fresh (hno _ (by omega))
  · exact S₁.fresh (hno _ (Nat.le_refl _))
end
end Mine

/- M18 -/
namespace Mine

theorem newEnvK {M : Model} {A : Around} {E : Value → Shared → Prop} {s : Shared} {scope : Scope} {globals : Addr} {cl : List (Str × Addr)} {qual : Str} {env : Env} {x : Str} {Q : Env → Shared → Prop}
    (hlay : ∀ n, cellsFrom n scope.names cl = (x, n) :: cl) (hpush : ∀ h, pushCells h scope.names = h.push { cls := .type "cell", data := .cell none })
    (h : Q { scope, locals := s.heap.objs.size, globals, cells := (x, s.heap.objs.size + 1) :: cl, qual, func := none, code := env.code, frame := env.frame, builtins := env.builtins } { s with heap := (s.heap.push { cls := .type "dict", data := .dict #[] }).push { cls := .type "cell", data := .cell none } }) :
    wpAny M A (newFunctionEnv scope globals cl [] qual none .none (some env)) Q E s := by
  simp only [newFunctionEnv, Option.isSome_some, if_true]
  refine wpAny_bind (wpAny_alloc ?_)
  refine wpAny_bind (wpAny_layCells _ (fun name kind cells => by cases hkc : kind == NameKind.cell <;> simp [hkc]) _ _ _ _ ?_)
  rw [hlay, hpush]
  rw [show ({ s with heap := s.heap.push { cls := .type "dict", data := .dict #[] } } : Shared).heap.objs.size = s.heap.objs.size + 1 from Heap.size_push ..]
  refine wpAny_bind ?_
  rw [List.forIn_nil]
  exact wpAny_pure (wpAny_pure h)

section
variable {f : Fx} {Γ Δ : List (Str × Ent)} {s s' : Shared} {Q : Flow → Shared → Prop} {rest : List Stmt} {e : Expr} {d : D}

/-- a comprehension whose target is a cell -/
theorem comp_blockK {elt iter : Expr} {x : Str} {px pos : Pos} {ifs : List Expr} {scope : Scope} {cl : List (Str × Addr)} {n : Nat} {items : Nat → D} {RR : Value → Addr → Result → Shared → Prop} {it : Value} {s₀ s₁ s₂ : Shared} (out : Nat → List D) (okX : Addr → Prop)
    (S : St f Γ s₀) (k₀ : Kp s₀ s₁) (src : IsSrc f.w f.A s₁ s₂ it n items) (hcl : ∀ x a, cl.lookup x = some a → f.env.cells.lookup x = some a) (hlay : ∀ n, cellsFrom n scope.names cl = (x, n) :: cl) (hpush : ∀ h, pushCells h scope.names = h.push { cls := .type "cell", data := .cell none }) (hkind : scope.kind = .function) (hx : (relabel scope f.env).names.lookup x = some .cell)
    (hX : ∀ a, s₀.heap.get? a = none → okX a) (hout0 : out 0 = []) (hlen : ∀ i, i ≤ n → (out i).length ≤ 1000000)
    (turn : ∀ i g K s', i < n → InComp f g scope ((x, K) :: cl) okX s₀ s' → St g [(x, .val (items i))] s' →
      wpAny (Mo f.w) f.A (testsOf ifs g.env) (fun ok s₄ => Kp s' s₄ ∧ (if ok = true then ∃ d, out (i + 1) = out i ++ [d] ∧ Ev g.toCx s₄ elt (fun a => g.ok a ∧ okX a) d else out (i + 1) = out i)) NoE s')
    (hRR : ∀ D C s' m', s₀.heap.get? D = none → s₀.heap.get? C = none → D ≠ C → Kp s₀ s' → s'.heap.Ns C m' → Is s'.heap (fun a => a ≠ C ∧ okX a) (.ref D) (.list (out n)) → RR (.ref D) C (.ok .next) s') :
    wpAny (Mo f.w) f.A (newList []) (fun acc s₃ => wpAny (Mo f.w) f.A (newFunctionEnv scope f.env.globals cl [] f.env.qual none .none (some f.env)) (fun cenv s₄ =>
      codeAny (Mo f.w) f.A (.compStart (.ListComp elt [⟨.Name x px, iter, ifs, 0⟩] scope pos) 0 it acc { cenv with scope := relabel scope f.env }) (RR acc cenv.locals) s₄) NoE s₃) NoE s₂ := by
  obtain ⟨I, fp, P, StI, rfl, k₂, hI0, ⟨oI, hoI⟩, W, hst, hI₁, hfp, hP⟩ := src
  refine wpAny_newObj_type (newEnvK hlay hpush ?_) (by show (0 : Nat) ≤ sizeLine; exact Nat.zero_le _)
  dsimp only
  generalize hH2 : s₂.heap.push { cls := .type "list", dict := none, data := .seq ([] : List Value).toArray } = H2
  generalize hH1 : (H2.push { cls := .type "dict", data := .dict #[] }).push { cls := .type "cell", data := .cell none } = h₁
  obtain ⟨Dd, hDd⟩ : ∃ q : Nat, q = s₂.heap.objs.size := ⟨_, rfl⟩
  obtain ⟨C, hCC⟩ : ∃ q : Nat, q = H2.objs.size := ⟨_, rfl⟩
  obtain ⟨K, hKK⟩ : ∃ q : Nat, q = C + 1 := ⟨_, rfl⟩
  rw [← hDd, ← hCC, ← hKK]
  have hC : C = Dd + 1 := by rw [hCC, ← hH2, Heap.size_push, hDd]
  have hDC : Dd ≠ C := by omega
  have hDK : Dd ≠ K := by omega
  have hCK : C ≠ K := by omega
  have hsz : (H2.push { cls := .type "dict", data := .dict #[] }).objs.size = K := by rw [Heap.size_push, ← hCC, hKK]
  have alive2 : ∀ b o, s₂.heap.get? b = some o → b ≠ Dd ∧ b ≠ C ∧ b ≠ K := fun b o e => by
    have : b < Dd := by rw [hDd]; exact Heap.lt_size e
    have h1 : b ≠ Dd := Nat.ne_of_lt this
    have h2 : b ≠ C := by rw [hC]; exact Nat.ne_of_lt (Nat.lt_succ_of_lt this)
    have h3 : b ≠ K := by rw [hKK, hC]; exact Nat.ne_of_lt (Nat.lt_succ_of_lt (Nat.lt_succ_of_lt this))
    exact ⟨h1, h2, h3⟩
  have up2 : ∀ b o, H2.get? b = some o → h₁.get? b = some o := fun b o e => by rw [← hH1]; exact Heap.get?_push_of_some _ (Heap.get?_push_of_some _ e)
  have old : ∀ b o, s₂.heap.get? b = some o → h₁.get? b = some o := fun b o e => up2 b o (hH2 ▸ Heap.get?_push_of_some _ e)
  have hacc : h₁.PlainList Dd #[] := ⟨0, up2 _ _ (by rw [← hH2, hDd]; exact Heap.get?_push_size _ rfl)⟩
  have hns₁ : h₁.Ns C (fun _ => none) := by rw [← hH1, hCC]; exact (Heap.Ns.new H2 (.type "dict")).push _
  have hcell : h₁.IsCell K none := ⟨_, by rw [← hH1, ← hsz]; exact Heap.get?_push_size _ rfl, rfl⟩
  have noneD : s₂.heap.get? Dd = none := by
    cases hq : s₂.heap.get? Dd with
    | none => rfl
    | some o => exact absurd rfl (alive2 _ _ hq).1
  have noneC : s₂.heap.get? C = none := by
    cases hq : s₂.heap.get? C with
    | none => rfl
    | some o => exact absurd rfl (alive2 _ _ hq).2.1
  have noneK : s₂.heap.get? K = none := by
    cases hq : s₂.heap.get? K with
    | none => rfl
    | some o => exact absurd rfl (alive2 _ _ hq).2.2
  have S₁ := S.keep k₀
  have S₂ := S₁.keep k₂
  have hID : I ≠ Dd := (alive2 _ _ hoI).1
  have hIC : I ≠ C := (alive2 _ _ hoI).2.1
  have hIK : I ≠ K := (alive2 _ _ hoI).2.2
  have hst₁ : StI 0 h₁ := W.frame _ _ _ hst fun b _ o e => old b o e
  obtain ⟨oC, hoC⟩ : ∃ o, h₁.get? C = some o := let ⟨o, _, _, ho, _⟩ := hns₁; ⟨o, ho⟩
  obtain ⟨oK, hoK⟩ : ∃ o, h₁.get? K = some o := let ⟨o, ho, _⟩ := hcell; ⟨o, ho⟩
  obtain ⟨oD, hoD⟩ : ∃ o, h₁.get? Dd = some o := let ⟨n, ho⟩ := hacc; ⟨_, ho⟩
  have k₃ : Kp s₂ { s₂ with heap := h₁ } := Kp.heap s₂ old
  have mu2 : ∀ {a : Addr}, a ≠ C → a ≠ K → a ∉ [C, K] := fun h1 h2 hm => (List.mem_cons.mp hm).elim h1 fun h => h2 (List.mem_singleton.mp h)
  have loop : ∀ s₃ : Shared, s₃ = { s₂ with heap := h₁ } →
      codeAny (Mo f.w) f.A (.compLoop (.ListComp elt [⟨.Name x px, iter, ifs, 0⟩] scope pos) 0 (.ref I) (.ref Dd) (compEnvC scope ((x, K) :: cl) C f.env)) (RR (.ref Dd) C) s₃ := by
    intro s₃ hs₃
    have hh₃ : s₃.heap = h₁ := by rw [hs₃]
    have k₃' : Kp s₂ s₃ := by rw [hs₃]; exact k₃
    have kAll : Kp s₀ s₃ := (k₀.trans k₂).trans k₃'
    let g : Fx := ⟨⟨f.w, f.A, compEnvC scope ((x, K) :: cl) C f.env⟩, f.base, [C, K], [I, Dd], fun _ _ => False, f.tp⟩
    have gok : ∀ a o, s₁.heap.get? a = some o → g.ok a := fun a o e => by
      have e2 := k₂.kp _ _ e
      refine ⟨mu2 (alive2 _ _ e2).2.1 (alive2 _ _ e2).2.2, fun hm => ?_⟩
      rcases List.mem_cons.mp hm with h | h
      · rw [h, hI0] at e; cases e
      · exact (alive2 _ _ e2).1 (List.mem_singleton.mp h)
    have hbC : f.base.heap.get? C = none := none_of (S₂.kp) noneC
    have hbK : f.base.heap.get? K = none := none_of (S₂.kp) noneK
    have cells : ∀ y a, ((x, K) :: cl).lookup y = some a → (y = x ∧ a = K) ∨ (y ≠ x ∧ cl.lookup y = some a) := fun y a h => by
      rw [List.lookup_cons] at h
      split at h
      · rename_i q; cases h; exact .inl ⟨beq_iff_eq.mp q, rfl⟩
      · rename_i q; exact .inr ⟨beq_eq_false_iff_ne.mp q, h⟩
    have aliveC : ∀ y a, cl.lookup y = some a → ∃ o, s₁.heap.get? a = some o ∧ s₃.heap.get? a = some o ∧ a ≠ C ∧ a ≠ K ∧ a ≠ I ∧ a ≠ Dd := fun y a hy => by
      have ha := hcl y a hy
      have : ∃ o, s₁.heap.get? a = some o := by
        rcases (S₁.ce y a ha).1 with h | ⟨o, h⟩
        · exact S₁.al a h
        · exact ⟨o, (S₁.pn a o h).1⟩
      obtain ⟨o, ho⟩ := this
      have e2 := k₂.kp _ _ ho
      exact ⟨o, ho, (by rw [hh₃]; exact old _ _ e2), (alive2 _ _ e2).2.1, (alive2 _ _ e2).2.2, fun e => (by rw [e, hI0] at ho; cases ho), (alive2 _ _ e2).1⟩
    refine comp_core (g := g) [] items out okX W (by rw [hh₃]; exact hst₁) hI₁ ?_ (mu2 hIC hIK) (mu2 hDC hDK) hID (none_of (S₁.kp) hI0) (none_of (S₂.kp) noneD) rfl (by rw [hh₃]; exact hacc) hout0 ?_ ?_ (.inr ⟨hx, K, by show ((x, K) :: cl).lookup x = some K; rw [List.lookup_cons, beq_self_eq_true], List.mem_cons_of_mem _ (List.mem_singleton.mpr rfl)⟩) (fun q hq => (nomatch hq)) .nil ?_ ?_ hlen ?_
    · intro b hb hbI
      obtain ⟨o, ho⟩ := hfp b hb hbI
      have e2 := k₂.kp _ _ ho
      exact ⟨mu2 (alive2 _ _ e2).2.1 (alive2 _ _ e2).2.2, (alive2 _ _ e2).1, o, by rw [hh₃]; exact old _ _ e2⟩
    · intro y a hy
      rcases cells y a hy with ⟨_, rfl⟩ | ⟨_, hy⟩
      · exact .inl (List.mem_cons_of_mem _ (List.mem_singleton.mpr rfl))
      · obtain ⟨o, _, h2, _, _, h5, h6⟩ := aliveC y a hy
        exact .inr ⟨h5, h6, o, h2⟩
    · refine ⟨⟨hkind, S.en.gl, S.en.bi⟩, S.gr, S.kp.trans kAll, List.mem_cons_self, fun y a hy => ?_, fun y z a hy hz => ?_, fun y a hy => ?_, fun a ha => ?_, fun a ha => ?_, fun a o h => ⟨h.2, h.1⟩, fun a ha => ?_, fun q => kAll.2 (S.tk q), _, by rw [hh₃]; exact hns₁, fun x e hx => (nomatch hx)⟩
      · rcases cells y a hy with ⟨_, rfl⟩ | ⟨_, hy⟩
        · exact ⟨.inl (List.mem_cons_of_mem _ (List.mem_singleton.mpr rfl)), hCK.symm⟩
        · obtain ⟨o, _, h2, h3, h4, _⟩ := aliveC y a hy
          exact ⟨.inr ⟨o, mu2 h3 h4, h2⟩, h3⟩
      · rcases cells y a hy with ⟨e1, ea⟩ | ⟨n1, hy⟩
        · rcases cells z a hz with ⟨e2, _⟩ | ⟨n2, hz⟩
          · rw [e1, e2]
          · obtain ⟨o, _, _, _, h4, _⟩ := aliveC z a hz
            exact absurd ea h4
        · rcases cells z a hz with ⟨e2, ea⟩ | ⟨n2, hz⟩
          · obtain ⟨o, _, _, _, h4, _⟩ := aliveC y a hy
            exact absurd ea h4
          · exact S.ci y z a (hcl y a hy) (hcl z a hz)
      · rcases cells y a hy with ⟨_, rfl⟩ | ⟨_, hy⟩
        · exact ⟨none, by rw [hh₃]; exact hcell⟩
        · obtain ⟨v, o, h1, h2⟩ := S₁.cs y a (hcl y a hy)
          exact ⟨v, o, by rw [hh₃]; exact old _ _ (k₂.kp _ _ h1), h2⟩
      · rcases List.mem_cons.mp ha with rfl | ha
        · rw [hh₃]; exact ⟨oC, hoC⟩
        · rw [List.mem_singleton.mp ha, hh₃]; exact ⟨oK, hoK⟩
      · rcases List.mem_cons.mp ha with rfl | ha
        · exact hbC
        · rw [List.mem_singleton.mp ha]; exact hbK
      · rcases List.mem_cons.mp ha with h | h
        · exact ⟨oI, by rw [h]; exact mu2 hIC hIK, by rw [hh₃, h]; exact old _ _ hoI⟩
        · exact ⟨oD, by rw [List.mem_singleton.mp h]; exact mu2 hDC hDK, by rw [hh₃, List.mem_singleton.mp h]; exact hoD⟩
    · intro i v s' hi hPv up
      refine (hP i v hi hPv).mono fun a o _ ho => ?_
      have e2 := k₂.kp _ _ ho
      have hok := gok a o ho
      exact ⟨hok, up a o hok.1 (fun e => hok.2 (by rw [e]; exact List.mem_cons_self)) (alive2 _ _ e2).1 (by rw [hh₃]; exact old _ _ e2)⟩
    · intro i p s' hi S' up
      have kp' : ∀ b o, s₀.heap.get? b = some o → s'.heap.get? b = some o := fun b o e => by
        have e1 := k₀.kp _ _ e
        have hok := gok b o e1
        have e2 := k₂.kp _ _ e1
        exact up b o hok.1 (fun q => hok.2 (by rw [q]; exact List.mem_cons_self)) (alive2 _ _ e2).1 (by rw [hh₃]; exact old _ _ e2)
      refine turn i (g.pins p) K s' hi ⟨rfl, rfl, rfl, rfl, rfl, rfl, kp', fun a o e => gok a o (k₀.kp _ _ e), fun a e => ⟨(S'.fresh e).1, hX a ?_⟩⟩ S'
      cases hq : s₀.heap.get? a with
      | none => rfl
      | some o => rw [kp' _ _ hq] at e; cases e
    · intro s' ys m' kb tb hns hD hA up
      have k₀' : Kp s₀ s' := by
        refine ⟨?_, fun q => tb (kAll.2 q)⟩
        have e := same_state S.kp kb
        rw [e]
        refine ⟨s'.heap, s'.toks, rfl, fun b o e => ?_⟩
        have e1 := k₀.kp _ _ e
        have hok := gok b o e1
        have e2 := k₂.kp _ _ e1
        exact up b o hok.1 (fun q => hok.2 (by rw [q]; exact List.mem_cons_self)) (alive2 _ _ e2).1 (by rw [hh₃]; exact old _ _ e2)
      refine hRR Dd C s' m' (none_of (k₀.trans k₂) noneD) (none_of (k₀.trans k₂) noneC) hDC k₀' hns (.list ⟨hDC, hX _ (none_of (k₀.trans k₂) noneD)⟩ hD.isList (hA.weak fun a h => ⟨fun e => h.1.1 (by rw [e]; exact List.mem_cons_self), h.2⟩))
  exact codeAny_compStart_list (loop _ rfl) (W.self 0 _ _ _ hst₁ (loop _ rfl))

/-- such a comprehension kept under a name -/
theorem w_compK {elt iter : Expr} {x y : Str} {px py pos spos : Pos} {ifs : List Expr} {scope : Scope} {cl : List (Str × Addr)} {n : Nat} {items : Nat → D} (out : Nat → List D) (S : St f Γ s) (hy : Storable f y) (src : Src f.toCx s iter n items)
    (hsw : swapsWith (.ListComp elt [⟨.Name x px, iter, ifs, 0⟩] scope pos) (some (.Name y py)) spos.line f.env = pure true)
    (hclos : closureFor scope f.env = pure cl) (hcl : ∀ x a, cl.lookup x = some a → f.env.cells.lookup x = some a) (hlay : ∀ n, cellsFrom n scope.names cl = (x, n) :: cl) (hpush : ∀ h, pushCells h scope.names = h.push { cls := .type "cell", data := .cell none }) (hkind : scope.kind = .function) (hnames : ∀ y ∈ scope.names, y.2 = .local → scope.names.lookup y.1 = some .local) (hx : (relabel scope f.env).names.lookup x = some .cell)
    (hout0 : out 0 = []) (hlen : ∀ i, i ≤ n → (out i).length ≤ 1000000)
    (turn : ∀ i g K s', i < n → InComp f g scope ((x, K) :: cl) f.okN s s' → St g [(x, .val (items i))] s' →
      wpAny (Mo f.w) f.A (testsOf ifs g.env) (fun ok s₄ => Kp s' s₄ ∧ (if ok = true then ∃ d, out (i + 1) = out i ++ [d] ∧ Ev g.toCx s₄ elt (fun a => g.ok a ∧ f.okN a) d else out (i + 1) = out i)) NoE s')
    (h : ∀ s', St f ((y, .new (.list (out n))) :: Γ) s' → Wx f rest Q s')
    (hs : ∀ x, foldedSetIterable iter f.env x = pure x := by intro _; rfl) : Wx f (.Assign [.Name y py] (.ListComp elt [⟨.Name x px, iter, ifs, 0⟩] scope pos) spos :: rest) Q s := by
  refine w_of ?_
  rw [exec_Assign_Name_used _ _ _ _ hsw]
  refine wpAny_bind (wpAny_standAt (wpAny_bind ?_))
  show wpAny _ f.A (do let _ ← comprehension (.ListComp elt [⟨.Name x px, iter, ifs, 0⟩] scope pos) scope f.env _ (newList []) false (eval iter f.env) (some (assign (.Name y py) f.env))) _ _ s
  refine wpAny_bind (wpAny_mono (wpAny_comprehension_free (use := some (assign (.Name y py) f.env)) (Q := fun _ s' => Sq f rest Q .next s') rfl hs hclos hkind hnames
    (wpAny_mono (src s (Kp.refl _)) (fun v s₁ h₁ => wpAny_mono h₁ (fun it s₂ h₂ => ?_) fun _ _ h => h) fun _ _ h => h)) (fun _ s' hq => wpAny_pure (wpAny_pure hq)) fun _ _ e => e)
  refine comp_blockK (RR := fun acc C => compPost (Mo f.w) f.A NoE (some (assign (.Name y py) f.env)) _ acc C) out f.okN S h₂.1 h₂.2 hcl hlay hpush hkind hx (fun a h => S.fresh h) hout0 hlen turn ?_
  intro Dd C s' m' hD hC hDC k' hn hi
  obtain ⟨oC, es, ep, hoC, r⟩ := hn
  obtain ⟨S', hCf, hCc, hCb, hCp⟩ := S.guard k' hC hoC
  show wpAny _ f.A (assign (.Name y py) f.env (.ref Dd)) _ _ _
  refine wpAny_assign_Name (wp_store' (f := f.inl C _) S' hy (e := .new (.list (out n))) (hi.weak fun a h => ⟨⟨h.2.1.1, fun hm => (List.mem_cons.mp hm).elim h.1 h.2.1.2⟩, h.2.2⟩) fun s'' S'' up tl => ?_)
  refine ⟨m', ⟨oC, es, ep, up _ _ hCf hoC, r⟩, fun h' hs' => h _ ?_⟩
  refine S''.inner (tk := s''.toks) (f := f.inl C _) (g := f) (I := C) id rfl rfl rfl rfl S.ip (fun x a hx => ⟨(S.ce x a hx).1, hCc x a hx⟩) hCf hCb (fun b o hb => hs'.extBut b o hb) (fun a o h1 _ => ⟨⟨h1.1, fun hm => h1.2 (List.mem_cons_of_mem _ hm)⟩, fun e => h1.2 (by rw [e]; exact List.mem_cons_self)⟩) ?_
  intro a o hp
  have := S''.pn a o (.inl hp)
  exact ⟨hs'.extBut a o (fun e => hCp o (e ▸ hp)) this.1, this.2⟩
end
end Mine

/- P3 -/
namespace Mine

theorem snoc_ind {α : Type} {P : List α → Prop} (h0 : P []) (h1 : ∀ l a, P l → P (l ++ [a])) (l : List α) : P l := by
  have : ∀ m : List α, P m.reverse := by
    intro m
    induction m with
    | nil => exact h0
    | cons a m ih => rw [List.reverse_cons]; exact h1 _ a ih
  have e := this l.reverse
  rwa [List.reverse_reverse] at e

section
variable {α β : Type} (c : α → α → Bool)
/-- those that none ahead of them covers -/
def leastA : List α → List α → List α
  | _, [] => []
  | seen, p :: r => (if seen.any (fun q => c q p) then [] else [p]) ++ leastA (seen ++ [p]) r
def least (l : List α) : List α := leastA c [] l
theorem leastA_snoc (p : α) : ∀ (l seen : List α), leastA c seen (l ++ [p]) = leastA c seen l ++ (if (seen ++ l).any (fun q => c q p) then [] else [p])
  | [], seen => by
    show (if _ then _ else _) ++ leastA c _ [] = [] ++ _
    rw [leastA, List.append_nil, List.nil_append, List.append_nil]
  | a :: l, seen => by
    rw [List.cons_append, leastA, leastA, leastA_snoc p l, List.append_assoc, List.append_assoc, List.singleton_append]
theorem least_snoc (l : List α) (p : α) : least c (l ++ [p]) = least c l ++ (if l.any (fun q => c q p) then [] else [p]) := by
  unfold least
  rw [leastA_snoc, List.nil_append]
theorem least_nil : least c [] = [] := rfl

theorem least_mem {l : List α} {a : α} (h : a ∈ least c l) : a ∈ l := by
  revert h
  refine snoc_ind (P := fun l => a ∈ least c l → a ∈ l) (fun h => h) (fun l p ih h => ?_) l
  rw [least_snoc] at h
  rcases List.mem_append.mp h with h | h
  · exact List.mem_append_left _ (ih h)
  · split at h
    · cases h
    · exact List.mem_append_right _ h
theorem least_sub (l : List α) : (least c l).Sublist l := by
  refine snoc_ind (P := fun l => (least c l).Sublist l) (List.Sublist.refl _) (fun l p ih => ?_) l
  rw [least_snoc]
  refine ih.append ?_
  split
  · exact List.nil_sublist _
  · exact List.Sublist.refl _

theorem least_any (ht : ∀ {a b d}, c a b = true → c b d = true → c a d = true) (l : List α) (p : α) : (least c l).any (fun q => c q p) = l.any (fun q => c q p) := by
  refine snoc_ind (P := fun l => (least c l).any (fun q => c q p) = l.any (fun q => c q p)) rfl (fun l a ih => ?_) l
  rw [least_snoc, List.any_append, List.any_append, ih]
  split
  · rename_i h
    obtain ⟨x, hx, hxa⟩ := List.any_eq_true.mp h
    cases hap : c a p
    · simp [hap]
    · have : l.any (fun q => c q p) = true := List.any_eq_true.mpr ⟨x, hx, ht hxa hap⟩
      simp [this]
  · rfl
theorem least_find (ht : ∀ {a b d}, c a b = true → c b d = true → c a d = true) (l : List α) (P : α → Bool) (hP : ∀ {a b}, c a b = true → P b = true → P a = true) : (least c l).find? P = l.find? P := by
  refine snoc_ind (P := fun l => (least c l).find? P = l.find? P) rfl (fun l a ih => ?_) l
  rw [least_snoc, List.find?_append, List.find?_append, ih]
  split
  · rename_i h
    obtain ⟨x, hx, hxa⟩ := List.any_eq_true.mp h
    cases hap : P a
    · simp [hap]
    · have : (l.find? P).isSome = true := List.find?_isSome.mpr ⟨x, hx, hP hxa hap⟩
      obtain ⟨y, hy⟩ := Option.isSome_iff_exists.mp this
      simp [hy]
  · rfl
theorem least_least (ht : ∀ {a b d}, c a b = true → c b d = true → c a d = true) (l : List α) : least c (least c l) = least c l := by
  refine snoc_ind (P := fun l => least c (least c l) = least c l) rfl (fun l a ih => ?_) l
  rw [least_snoc]
  split
  · rw [List.append_nil]; exact ih
  · rename_i h
    rw [least_snoc, ih, least_any c ht, if_neg h]
theorem least_map (c' : β → β → Bool) (f : α → β) (l : List α) : (∀ a ∈ l, ∀ b ∈ l, c' (f a) (f b) = c a b) → least c' (l.map f) = (least c l).map f := by
  refine snoc_ind (P := fun l => (∀ a ∈ l, ∀ b ∈ l, c' (f a) (f b) = c a b) → least c' (l.map f) = (least c l).map f) (fun _ => rfl) (fun l a ih h => ?_) l
  rw [List.map_append, List.map_singleton, least_snoc, least_snoc, ih (fun x hx y hy => h x (List.mem_append_left _ hx) y (List.mem_append_left _ hy)), List.map_append]
  have e : (l.map f).any (fun q => c' q (f a)) = l.any (fun q => c q a) := by
    rw [List.any_map, Bool.eq_iff_iff, List.any_eq_true, List.any_eq_true]
    have hx : ∀ x ∈ l, c' (f x) (f a) = c x a := fun x hx => h x (List.mem_append_left _ hx) a (List.mem_append_right _ List.mem_cons_self)
    constructor
    · rintro ⟨x, h1, h2⟩
      exact ⟨x, h1, by rw [← hx x h1]; exact h2⟩
    · rintro ⟨x, h1, h2⟩
      exact ⟨x, h1, by show c' (f x) (f a) = true; rw [hx x h1]; exact h2⟩
  rw [e]
  split <;> rfl
end

/- the books -/
def cP (p q : Str × Str) : Bool := keyCovers p.1 q.1
theorem cP_trans {a b d : Str × Str} (h : cP a b = true) (h' : cP b d = true) : cP a d = true := cov_trans h h'
theorem cP_refl (a : Str × Str) : cP a a = true := cov_refl _

theorem thin_least (ps : List (Str × Str)) : thinP ps = least cP ps := by
  refine snoc_ind (P := fun ps => thinP ps = least cP ps) rfl (fun l a ih => ?_) ps
  have e : thinP (l ++ [a]) = thinStep (thinP l) a := by unfold thinP; rw [List.foldl_append]; rfl
  rw [e, ih, least_snoc, ← least_any cP cP_trans]
  unfold thinStep firstP
  have : ((least cP l).find? fun p => keyCovers p.1 a.1).isNone = !((least cP l).any fun q => cP q a) := by
    rw [← Option.not_isSome, Bool.not_inj_iff, Bool.eq_iff_iff, List.find?_isSome, List.any_eq_true]
    rfl
  rw [this]
  cases h : (least cP l).any fun q => cP q a <;> simp
theorem first_least (ps : List (Str × Str)) (q : Str) : firstP (least cP ps) q = firstP ps q :=
  least_find cP cP_trans ps (fun p => keyCovers p.1 q) fun h h' => cov_trans h h'

def setV (k u : Str) (p : Str × Str) : Str × Str := if p.1 = k then (p.1, u) else p
theorem setV_key (k u : Str) (p : Str × Str) : (setV k u p).1 = p.1 := by unfold setV; split <;> rfl
def updP (Ls : List (Str × Str)) (k u : Str) : List (Str × Str) := if Ls.any (fun q => cP q (k, u)) then Ls.map (setV k u) else Ls ++ [(k, u)]
theorem map_id_of {α : Type} {f : α → α} : ∀ {l : List α}, (∀ a ∈ l, f a = a) → l.map f = l
  | [], _ => rfl
  | a :: l, h => by rw [List.map_cons, h a List.mem_cons_self, map_id_of fun b hb => h b (List.mem_cons_of_mem _ hb)]
theorem least_put (M : List (Str × Str)) (k u : Str) : least cP (putP M k u) = updP (least cP M) k u := by
  unfold updP
  rw [least_any cP cP_trans]
  unfold putP
  split
  · rename_i h
    obtain ⟨p, hp, hk⟩ := List.any_eq_true.mp h
    have hk' : p.1 = k := of_decide_eq_true hk
    rw [if_pos (List.any_eq_true.mpr ⟨p, hp, by show keyCovers p.1 k = true; rw [hk']; exact cov_refl k⟩)]
    refine least_map cP cP (setV k u) M fun a _ b _ => ?_
    unfold cP
    rw [setV_key, setV_key]
  · rename_i h
    rw [least_snoc]
    split
    · rw [List.append_nil]
      symm
      refine map_id_of fun a ha => ?_
      unfold setV
      rw [if_neg]
      intro e
      exact h (List.any_eq_true.mpr ⟨a, least_mem cP ha, decide_eq_true e⟩)
    · rfl

theorem merge_snoc (T : List (Str × Str)) (p : Str × Str) : mergeP (T ++ [p]) = putP (mergeP T) p.1 p.2 := by
  unfold mergeP; rw [List.foldl_append]; rfl
theorem put_nodup {ps : List (Str × Str)} (k v : Str) (h : (ps.map (·.1)).Nodup) : ((putP ps k v).map (·.1)).Nodup := by
  unfold putP
  split
  · have : (ps.map fun p => if p.1 = k then (p.1, v) else p).map (·.1) = ps.map (·.1) := by
      rw [List.map_map]
      refine List.map_congr_left fun p _ => ?_
      show (if p.1 = k then (p.1, v) else p).1 = p.1
      split <;> rfl
    rw [this]; exact h
  · rename_i hn
    rw [List.map_append]
    refine List.nodup_append.mpr ⟨h, by simp, ?_⟩
    intro a ha b hb e
    obtain ⟨p, hp, rfl⟩ := List.mem_map.mp ha
    have : b = k := by simpa using hb
    exact hn (List.any_eq_true.mpr ⟨p, hp, decide_eq_true (by rw [e, this])⟩)
theorem merge_nodup (T : List (Str × Str)) : ((mergeP T).map (·.1)).Nodup := by
  refine snoc_ind (P := fun T => ((mergeP T).map (·.1)).Nodup) (by simp [mergeP]) (fun l a ih => ?_) T
  rw [merge_snoc]; exact put_nodup _ _ ih
theorem merge_id (T : List (Str × Str)) : (T.map (·.1)).Nodup → mergeP T = T := by
  refine snoc_ind (P := fun T => (T.map (·.1)).Nodup → mergeP T = T) (fun _ => rfl) (fun l a ih h => ?_) T
  rw [List.map_append, List.nodup_append] at h
  rw [merge_snoc, ih h.1]
  unfold putP
  rw [if_neg]
  intro q
  obtain ⟨p, hp, hk⟩ := List.any_eq_true.mp q
  exact h.2.2 p.1 (List.mem_map.mpr ⟨p, hp, rfl⟩) a.1 (by simp) (of_decide_eq_true hk)

theorem books_snoc (steps : List Int) (n : Int) : booksP (steps ++ [n]) = bStep (booksP steps) n := by
  unfold booksP; rw [List.foldl_append]; rfl
theorem rows_snoc (steps : List Int) (n : Int) : rowsR (steps ++ [n]) = rStep (rowsR steps) n := by
  unfold rowsR; rw [List.foldl_append]; rfl

/-- both books have the same least places -/
theorem books_least (steps : List Int) : least cP (mergeP (booksP steps).1) = least cP (mergeP (booksP steps).2) := by
  refine snoc_ind (P := fun steps => least cP (mergeP (booksP steps).1) = least cP (mergeP (booksP steps).2)) rfl (fun l n ih => ?_) steps
  rw [books_snoc]
  unfold bStep
  split
  · show least cP (mergeP (booksP l).1) = least cP (mergeP (thinP (mergeP (booksP l).2)))
    rw [thin_least, merge_id (least cP (mergeP (booksP l).2)), least_least cP cP_trans]
    · exact ih
    · exact ((least_sub cP (mergeP (booksP l).2)).map (·.1)).nodup (merge_nodup _)
  · show least cP (mergeP ((booksP l).1 ++ [_])) = least cP (mergeP ((booksP l).2 ++ [_]))
    rw [merge_snoc, merge_snoc, least_put, least_put, ih]

theorem rows_ok (steps : List Int) : ∀ r ∈ rowsR steps, RowOk r := by
  refine snoc_ind (P := fun steps => ∀ r ∈ rowsR steps, RowOk r) (fun r h => nomatch h) (fun l n ih => ?_) steps
  rw [rows_snoc]; exact rStep_ok n ih
theorem rows_len (steps : List Int) : (rowsR steps).length ≤ steps.length := by
  refine snoc_ind (P := fun steps => (rowsR steps).length ≤ steps.length) (Nat.le_refl _) (fun l n ih => ?_) steps
  rw [rows_snoc]
  have := rStep_len (rowsR l) n
  simp; omega

theorem set_map {k u : Str} : ∀ {l : List (Str × Str)} {i : Nat} {p : Str × Str}, (l.map (·.1)).Nodup → l[i]? = some p → p.1 = k → l.map (fun p => if p.1 = k then (p.1, u) else p) = l.set i (k, u)
  | q :: l, 0, p, hn, hi, hk => by
    simp only [List.getElem?_cons_zero, Option.some.injEq] at hi
    subst hi
    rw [List.map_cons, List.set_cons_zero, if_pos hk, hk]
    congr 1
    refine map_id_of fun a ha => ?_
    rw [if_neg]
    intro e
    rw [List.map_cons, List.nodup_cons] at hn
    exact hn.1 (List.mem_map.mpr ⟨a, ha, by rw [e, hk]⟩)
  | q :: l, i + 1, p, hn, hi, hk => by
    rw [List.map_cons, List.nodup_cons] at hn
    have hi' : l[i]? = some p := by simpa using hi
    rw [List.map_cons, List.set_cons_succ, set_map hn.2 hi' hk, if_neg]
    intro e
    exact hn.1 (List.mem_map.mpr ⟨p, List.mem_of_getElem? hi', by rw [e, hk]⟩)

theorem at_key {r t : Row} (hr : RowOk r) (ht : RowOk t) : r.at t = true ↔ r.key = t.key := by
  unfold Row.at
  rw [Bool.and_eq_true, beq_iff_eq, beq_iff_eq]
  constructor
  · rintro ⟨a, b⟩
    unfold Row.key
    rw [a, b]
  · exact key_inj hr.n ht.n

theorem rows_books (steps : List Int) : mergeP (booksP steps).1 = (rowsR steps).map Row.pr := by
  refine snoc_ind (P := fun steps => mergeP (booksP steps).1 = (rowsR steps).map Row.pr) rfl (fun l n ih => ?_) steps
  rw [books_snoc, rows_snoc]
  unfold bStep rStep
  split
  · exact ih
  · show mergeP ((booksP l).1 ++ [_]) = _
    rw [merge_snoc, ih]
    have hnd := merge_nodup (booksP l).1
    rw [ih] at hnd
    have ok := rows_ok l
    have okt := told_ok n
    generalize toldR n = t at okt
    generalize rowsR l = rows at hnd ok
    have mem : ∀ k, k ∈ atL rows t ↔ ∃ r, rows[k]? = some r ∧ r.key = t.key := by
      intro k
      unfold atL
      rw [List.mem_filter, List.mem_range]
      constructor
      · rintro ⟨h1, h2⟩
        rw [List.getElem?_eq_getElem h1] at h2
        exact ⟨_, List.getElem?_eq_getElem h1, (at_key (ok _ (List.getElem_mem h1)) okt).mp h2⟩
      · rintro ⟨r, h1, h2⟩
        refine ⟨(List.getElem?_eq_some_iff.mp h1).1, ?_⟩
        rw [h1]
        exact (at_key (ok r (List.mem_of_getElem? h1)) okt).mpr h2
    unfold putP
    cases hat : atL rows t with
    | nil =>
      rw [if_neg]
      · rw [List.map_append]; rfl
      · intro h
        obtain ⟨p, hp, hk⟩ := List.any_eq_true.mp h
        obtain ⟨r, hr, rfl⟩ := List.mem_map.mp hp
        obtain ⟨i, hi⟩ := List.mem_iff_getElem?.mp hr
        have := (mem i).mpr ⟨r, hi, of_decide_eq_true hk⟩
        rw [hat] at this
        cases this
    | cons k rest =>
      obtain ⟨r, hr, hk⟩ := (mem k).mp (by rw [hat]; exact List.mem_cons_self)
      have hr' : (rows.map Row.pr)[k]? = some r.pr := by rw [List.getElem?_map, hr]; rfl
      rw [if_pos (List.any_eq_true.mpr ⟨r.pr, List.mem_of_getElem? hr', decide_eq_true hk⟩)]
      show _ = (rows.set k t).map Row.pr
      rw [List.map_set]
      exact set_map hnd hr' hk

def cR (r t : Row) : Bool := coversR r t.host t.node
theorem least_rows {rows : List Row} (h : ∀ r ∈ rows, RowOk r) : least cP (rows.map Row.pr) = (least cR rows).map Row.pr := by
  refine least_map cR cP Row.pr rows fun a ha b hb => ?_
  have hb' := (h b hb).n
  exact covers_eq a b.host b.node (h a ha).n (by omega)
theorem due_first {rows : List Row} (h : ∀ r ∈ rows, RowOk r) (q : Bool × Nat) (hq : q.2 < 120) : firstP (rows.map Row.pr) (nameS q) = dueR rows q.1 q.2 := by
  unfold firstP dueR
  rw [List.find?_map]
  have : ∀ r ∈ rows, ((fun p : Str × Str => keyCovers p.1 (nameS q)) ∘ Row.pr) r = coversR r q.1 q.2 := fun r hr => covers_eq r q.1 q.2 (h r hr).n hq
  rw [show rows.find? ((fun p : Str × Str => keyCovers p.1 (nameS q)) ∘ Row.pr) = rows.find? (fun r => coversR r q.1 q.2) from ?_]
  · rfl
  · clear h
    induction rows with
    | nil => rfl
    | cons r rows ih =>
      rw [List.find?_cons, List.find?_cons, this r List.mem_cons_self, ih fun x hx => this x (List.mem_cons_of_mem _ hx)]
theorem asked_small {rows : List Row} (h : ∀ r ∈ rows, RowOk r) : ∀ q ∈ asked1 rows ++ asked2 rows, q.2 < 120 := by
  intro q hq
  rcases List.mem_append.mp hq with hq | hq
  · obtain ⟨r, hr, rfl⟩ := List.mem_map.mp hq
    have := (h r hr).n
    show 3 * r.node + 2 < 120
    omega
  · obtain ⟨r, hr, rfl⟩ := List.mem_map.mp hq
    have := (h r hr).n
    show (r.node - 1) / 3 < 120
    omega

/-- the law in plain words -/
theorem law_told (steps : List Int) : mergeP (booksP steps).1 = (rowsR steps).map Row.pr := rows_books steps
theorem law_thin (steps : List Int) : thinP (mergeP (booksP steps).2) = (least cR (rowsR steps)).map Row.pr := by
  rw [thin_least, ← books_least, rows_books, least_rows (rows_ok steps)]
theorem law_same (steps : List Int) : ∀ q ∈ asked1 (rowsR steps) ++ asked2 (rowsR steps), firstP (mergeP (booksP steps).1) (nameS q) = dueR (rowsR steps) q.1 q.2 ∧ firstP (mergeP (booksP steps).2) (nameS q) = dueR (rowsR steps) q.1 q.2 := by
  intro q hq
  have h1 := due_first (rows_ok steps) q (asked_small (rows_ok steps) q hq)
  rw [← rows_books] at h1
  refine ⟨h1, ?_⟩
  rw [← first_least, ← books_least, first_least, h1]
end Mine

/- M19 -/
namespace Mine
section
variable {f : Fx} {Γ Δ : List (Str × Ent)} {s s' : Shared}

/-- a new object of the frame around, seen in a comprehension: it still stands apart -/
theorem ev_capN {g : Fx} {scope : Scope} {cl : List (Str × Addr)} {okX : Addr → Prop} {x : Str} {px : Pos} {d : D} {s₀ : Shared} (S : St f Γ s₀) (hI : InComp f g scope cl okX s₀ s') (hgk : g.env.scope.kind = .function) (hx : Γ.lookup x = some (.new d)) (hk : f.env.kindOf x = some .cell) (hk' : g.env.kindOf x = some .cell)
    (hc : ∀ a, f.env.cells.lookup x = some a → cl.lookup x = some a) (hd : (x == ("__debug__" : Str)) = false := by decide) : Ev g.toCx s' (.Name x px) (fun a => g.ok a ∧ f.okN a) d := fun s₁ k => by
  obtain ⟨m, hn, hl⟩ := S.ns
  obtain ⟨v, V, i⟩ := hl x _ hx
  cases V with
  | loc q _ => rw [hk] at q; cases q
  | cell q1 q2 q3 =>
    refine wpAny_Name (wpAny_loadName_cell hgk hk' (by rw [hI.cl]; exact hc _ q2) (q3.keeps fun b o e => k.kp _ _ (hI.keep b o e)) ⟨Kp.refl _, ?_⟩) hd
    exact i.mono fun a o h1 h2 => ⟨⟨hI.ok a o h2, h1⟩, k.kp _ _ (hI.keep a o h2)⟩

/-- and from two comprehensions within each other -/
theorem ev_cap2 {g g' : Fx} {scope scope' : Scope} {cl cl' : List (Str × Addr)} {okX okX' : Addr → Prop} {x : Str} {px : Pos} {d : D} {s₀ s₁ s₂ : Shared} (S : St f Γ s₀) (hI : InComp f g scope cl okX s₀ s') (k₁ : Kp s' s₁) (hI' : InComp g g' scope' cl' okX' s₁ s₂) (hgk : g'.env.scope.kind = .function) (hx : Γ.lookup x = some (.new d)) (hk : f.env.kindOf x = some .cell) (hk' : g'.env.kindOf x = some .cell)
    (hc : ∀ a, f.env.cells.lookup x = some a → cl'.lookup x = some a) (hd : (x == ("__debug__" : Str)) = false := by decide) : Ev g'.toCx s₂ (.Name x px) Any d := fun s₃ k => by
  obtain ⟨m, hn, hl⟩ := S.ns
  obtain ⟨v, V, i⟩ := hl x _ hx
  have up : ∀ b o, s₀.heap.get? b = some o → s₃.heap.get? b = some o := fun b o e => k.kp _ _ (hI'.keep b o (k₁.kp _ _ (hI.keep b o e)))
  cases V with
  | loc q _ => rw [hk] at q; cases q
  | cell q1 q2 q3 =>
    refine wpAny_Name (wpAny_loadName_cell hgk hk' (by rw [hI'.cl]; exact hc _ q2) (q3.keeps up) ⟨Kp.refl _, ?_⟩) hd
    exact i.any.keep up

theorem capK2 {g g' : Fx} {scope scope' sc : Scope} {x : Str} {k : NameKind} (h' : g'.env.scope = relabel scope' g.env) (h : g.env.scope = relabel scope f.env) (hs : f.env.scope = sc)
    (hk : (relabel scope' { g.env with scope := relabel scope { f.env with scope := sc } }).names.lookup x = some k) : g'.env.kindOf x = some k := by
  show g'.env.scope.names.lookup x = _
  rw [h', ← hk]
  subst hs
  rw [← h]
end

/- lists of pairs compared -/
theorem flt_pair {p : Str × Str} (h : Good p) : Flt (pairD p) := ⟨rfl, by simp [pairD, D.py, D.pys, PyData.canLay0, PyData.canLayAll0, h.ok, h.uok], by simp [pairD, D.py, D.pys, PyData.depth, PyData.depthAll]⟩
theorem fit_pairs {l : List (Str × Str)} (h : ∀ p ∈ l, Good p) : Fit (.list (l.map pairD)) := fit_list fun d hd => by
  obtain ⟨p, hp, rfl⟩ := List.mem_map.mp hd
  exact flt_pair (h p hp)
theorem eqv_pairs (l : List (Str × Str)) : PyData.eqv (D.list (l.map pairD)).py (D.list (l.map pairD)).py = true := by
  rw [D.py, PyData.eqv]
  induction l with
  | nil => rfl
  | cons p l ih =>
    rw [List.map_cons, D.pys, PyData.eqvAll, ih]
    show (PyData.eqv (D.tup [.str p.1, .str p.2]).py (D.tup [.str p.1, .str p.2]).py && true) = true
    rw [eqv_pair]; simp
theorem flt_row {r : Row} (h : RowOk r) : Flt r.d := ⟨rfl, by
  have := h.good.uok
  have hu : PyData.strOk r.user = true := this
  simp [Row.d, D.py, D.pys, PyData.canLay0, PyData.canLayAll0, strOk_host, hu], by simp [Row.d, D.py, D.pys, PyData.depth, PyData.depthAll]⟩
theorem fit_rows {l : List Row} (h : ∀ r ∈ l, RowOk r) : Fit (.list (l.map Row.d)) := fit_list fun d hd => by
  obtain ⟨p, hp, rfl⟩ := List.mem_map.mp hd
  exact flt_row (h p hp)
theorem eqv_rnil (l : List Row) : PyData.eqv (D.list (l.map Row.d)).py (D.list []).py = l.isEmpty := by
  cases l <;> simp [D.py, D.pys, PyData.eqv, PyData.eqvAll]
end Mine

/- F16 -/
namespace Mine

def stepsL (script : List Int) : List Int := [8] ++ script.take 6 ++ [32]
theorem stepsL_len (script : List Int) : (stepsL script).length ≤ 8 := by
  unfold stepsL
  simp only [List.length_append, List.length_take, List.length_cons, List.length_nil]
  omega
theorem books_ok (steps : List Int) : BOk steps.length (booksP steps) := by
  refine snoc_ind (P := fun steps => BOk steps.length (booksP steps)) ⟨Nat.le_refl _, Nat.le_refl _, fun p hp => (nomatch hp), fun p hp => (nomatch hp)⟩ (fun l n ih => ?_) steps
  rw [books_snoc, List.length_append]
  exact ih.step n

theorem lookup_swap {p q : Str} {u v a : Addr} {x : Str} (hpq : p ≠ q) (h : [(p, u), (q, v)].lookup x = some a) : [(q, v), (p, u)].lookup x = some a := by
  rw [List.lookup_cons, List.lookup_cons] at h ⊢
  by_cases h1 : x = p
  · subst h1
    rw [beq_self_eq_true] at h
    rw [beq_eq_false_iff_ne.mpr hpq, beq_self_eq_true]; exact h
  · rw [beq_eq_false_iff_ne.mpr h1] at h
    by_cases h2 : x = q
    · subst h2
      rw [beq_self_eq_true] at h ⊢; exact h
    · rw [beq_eq_false_iff_ne.mpr h2] at h; exact absurd h (by simp)

theorem sp_law (w : World) (script : List Int) (hs63 : script.length ≤ 1000) : Spec w 6 166 [.list (script.map D.int)] (.bool true) := by
  refine spec_cells ["script"] rfl rfl (by rfl) rfl ?_ rfl (by decide) (by decide) rfl rfl rfl rfl rfl rfl (fun n => by show (["rows"] : List Str).Nodup; decide) ?_
  · rintro (_ | ⟨a, _ | ⟨b, vs⟩⟩) h <;> first | rfl | (simp at h; done)
  · intro fx cn s hw hsc hce hmu hit hA S
    dsimp only at hsc hce
    subst hw
    have hce' : fx.env.cells = [(("rows" : Str), cn)] := hce
    have c1 : fx.env.cells.lookup ("rows" : Str) = some cn := by rw [hce']; rfl
    have hn8 := stepsL_len script
    have hrok := rows_ok (stepsL script)
    have hrl := rows_len (stepsL script)
    have hB := books_ok (stepsL script)
    have e0 : ("" : Str).length = 0 := by decide
    have l1 := written_len (booksP (stepsL script)).1 hB.gw ""
    have l2 := written_len (booksP (stepsL script)).2 hB.gt ""
    rw [e0] at l1 l2
    have hb1 := hB.w
    have hb2 := hB.t
    have l1' : (writtenP (booksP (stepsL script)).1).length ≤ 20000 := by unfold writtenP; omega
    have l2' : (writtenP (booksP (stepsL script)).2).length ≤ 20000 := by unfold writtenP; omega
    have g1 := merge_good hB.gw
    have g2 := merge_good hB.gt
    have m2 := merge_len (booksP (stepsL script)).2 []
    simp only [List.length_nil, Nat.zero_add] at m2
    have m2' : (mergeP (booksP (stepsL script)).2).length ≤ 8 := by unfold mergeP; omega
    refine w_assignN S (stor hsc rfl) (ev_mgr S hA (glo hsc rfl)) fun s S => ?_
    refine w_assign S (stor hsc rfl) (d := .list ((stepsL script).map D.int)) (Ev.cast (ev_ladd (ev_ladd (ev_list (.cons ev_int .nil) (fun a h => (S.fresh h).1) (by decide)) (ev_lslice (ev_var_val S rfl) ev_int (fun a h => (S.fresh h).1) (by decide) (by rw [List.length_map]; omega)) (fun a h => (S.fresh h).1) (by rw [List.length_take, List.length_map]; simp; omega)) (ev_list (.cons ev_int .nil) (fun a h => (S.fresh h).1) (by decide)) (fun a h => (S.fresh h).1) (by rw [List.length_append, List.length_take, List.length_map]; simp; omega)) (by
      unfold stepsL
      rw [List.map_append, List.map_append, List.map_take]; rfl)) fun s S => ?_
    refine w_assignN S (storC hsc rfl c1 (hmu _ _ c1)) (ev_call S (glo hsc rfl) rfl rfl (hA.less (by decide)) (sp_rows fx.w (stepsL script) hn8) (.cons (ev_v S rfl) .nil)) fun s S => ?_
    refine w_unpackT S hA.hh (stor hsc rfl) (stor hsc rfl) (ev_call S (glo hsc rfl) rfl rfl (hA.less (by decide)) (sp_books fx.w (stepsL script) hn8) (.cons (ev_vn S rfl) (.cons (ev_v S rfl) .nil))) fun s S => ?_
    refine w_assignN S (stor hsc rfl) (ev_call S (glo hsc rfl) rfl rfl (hA.less (by decide)) (sp_readW fx.w _ hB.gw (by omega) (by omega)) (.cons (ev_v S rfl) .nil)) fun s S => ?_
    refine w_assignN S (stor hsc rfl) (ev_call S (glo hsc rfl) rfl rfl (hA.less (by decide)) (sp_readW fx.w _ hB.gt (by omega) (by omega)) (.cons (ev_v S rfl) .nil)) fun s S => ?_
    have t1 := law_told (stepsL script)
    have t2 := law_thin (stepsL script)
    have t3 := law_same (stepsL script)
    generalize hrows : rowsR (stepsL script) = rows at *
    have hr8 : rows.length ≤ 8 := by omega
    have pairs_eq : ∀ l : List Row, (l.map fun r => pairD (r.key, r.user)) = (l.map Row.pr).map pairD := fun l => by rw [List.map_map]; rfl
    refine w_if S (tr_dne hA (ev_vn S rfl) (ev_call S (glo hsc rfl) rfl rfl (hA.less (by decide)) (sp_pairs fx.w rows (fun r hr => by have := (hrok r hr).n; omega) (by omega)) (.cons (ev_vn S rfl) .nil)).any (fit_pairs g1) (by rw [pairs_eq, ← t1]; exact fit_pairs g1)) (fun hb s S => ?_) fun _ s S => ?_
    · rw [pairs_eq, ← t1, eqv_pairs] at hb
      cases hb
    refine w_nilSq ?_
    have hout : ∀ j, (least cR (rows.take j)).length ≤ 8 := fun j => by
      have h1 := (least_sub cR (rows.take j)).length_le
      rw [List.length_take] at h1
      omega
    refine w_compK (fun j => (least cR (rows.take j)).map Row.d) S (stor hsc rfl) (src_range (n := rows.length) S hA.hh (glo hsc rfl) rfl (Ev.cast (ev_len S (glo hsc rfl) rfl (ev_vn S rfl) (by rw [List.length_map]; omega)) (by rw [List.length_map])) (by omega)) ((swaps_env hsc).trans rfl) ((clos_env hce').trans rfl) ?_ (fun n => rfl) (fun h => rfl) rfl (by decide) rfl rfl (fun j hj => by rw [List.length_map]; have := hout j; omega) ?_ fun s S => ?_
    · intro x a h
      rw [hce']; exact h
    · intro i g K s' hi hI S'
      have hq : rows[i]? = some rows[i] := List.getElem?_eq_getElem hi
      generalize rows[i] = q at hq
      have hqm : q ∈ rows := List.mem_of_getElem? hq
      have hA' : Lv g.A 5 := by rw [hI.A]; exact hA
      have hkr : g.env.kindOf "rows" = some .cell := capK hI.sc hsc rfl
      have hkk : g.env.kindOf "k" = some .cell := capK hI.sc hsc rfl
      have hfr : fx.env.kindOf "rows" = some .cell := kindS hsc rfl
      have etk : rows.take (i + 1) = rows.take i ++ [q] := by rw [List.take_add_one, hq]; rfl
      have hb : ((rows.take i).filter fun r => cR r q).isEmpty = !((rows.take i).any fun r => cR r q) := by
        rw [← Bool.not_inj_iff, Bool.not_not, Bool.eq_iff_iff, List.any_eq_true]
        simp [List.filter_eq_nil_iff]
      have hroks : ∀ r ∈ (rows.take i).filter (fun r => cR r q), RowOk r := fun r hr => hrok r (List.mem_of_mem_take (List.mem_filter.mp hr).1)
      have hlt : ((rows.take i).map Row.d).length = i := by rw [List.length_map, List.length_take]; omega
      refine tests_oneI hI.w hI.A (b := !((rows.take i).any fun r => cR r q)) (by
        rw [← hb, ← eqv_rnil]
        refine tr_deq hA' (Ev.cast (d := .list ((((rows.take i).take ((rows.take i).map Row.d).length).filter fun r => cR r q).map Row.d)) (ev_comp (fun j => (((rows.take i).take j).filter fun r => cR r q).map Row.d) Any S' (src_list (ds := (rows.take i).map Row.d) hA'.hh (Ev.cast (ev_lslice (ok := Any) (ev_capN (px := _) S hI S'.en.fn (x := "rows") rfl hfr hkr (fun a ha => by rw [← hce']; exact ha)).any (ev_v S' rfl) (fun _ _ => trivial) (by omega) (by rw [List.length_map]; omega)) (by rw [List.map_take]; rfl))) ((clos_env hI.cl).trans rfl) ?_ (by decide) rfl (by decide) rfl (fun _ _ => trivial) rfl (fun j hj => by rw [List.length_map]; have := List.length_filter_le (fun r => cR r q) ((rows.take i).take j); rw [List.length_take, List.length_take] at this; omega) ?_) (by rw [hlt, List.take_take, Nat.min_self])) (ev_list (ok := Any) .nil (fun _ _ => trivial) (by decide)) (fit_rows hroks) (fit_rows (l := []) fun r h => nomatch h)
        · intro x a h
          rw [hI.cl]
          exact lookup_swap (by decide) h
        · intro j g' s₁ s₂ k₁ hj hI' S''
          rw [hlt] at hj
          have hr : (rows.take i)[j]? = some ((rows.take i)[j]'(by rw [List.length_take]; omega)) := List.getElem?_eq_getElem _
          generalize (rows.take i)[j]'(by rw [List.length_take]; omega) = r at hr
          rw [getD_map hr] at S''
          have hA'' : Lv g'.A 1 := by rw [hI'.A]; exact hA'.less (by decide)
          have hkr' : g'.env.kindOf "rows" = some .cell := capK2 hI'.sc hI.sc hsc rfl
          have hkk' : g'.env.kindOf "k" = some .cell := capK2 hI'.sc hI.sc hsc rfl
          refine tests_oneI hI'.w hI'.A (b := cR r q) (tr_bool (ev_call S'' (glo hI'.sc rfl) rfl rfl hA'' (sp_covers g'.w r q.host q.node [.str q.user]) (.cons (ev_v S'' rfl) (.cons (ev_item (i := (i : Int)) (d := q.d) (ev_cap2 (px := _) S hI k₁ hI' S''.en.fn (x := "rows") rfl hfr hkr' (fun a ha => by rw [hce'] at ha; exact ha)) (ev_cap (px := _) (S'.keep k₁) hI' S''.en.fn (x := "k") rfl hkk hkk' (fun a ha => by rw [hI.cl] at ha; exact lookup_swap (by decide) ha) (fun _ _ e => nomatch e)) (by omega) (by omega) (by show (rows.map Row.d)[i]? = _; rw [List.getElem?_map, hq]; rfl)) .nil))).any) fun s₄ k₄ => ⟨k₄, ?_⟩
          have er : ((rows.take i).take (j + 1)).filter (fun r => cR r q) = ((rows.take i).take j).filter (fun r => cR r q) ++ (if cR r q then [r] else []) := by
            rw [List.take_add_one, hr, List.filter_append]
            congr 1
            show [r].filter _ = _
            rw [List.filter_cons, List.filter_nil]
          rw [er]
          split
          · refine ⟨r.d, ?_, Ev.weak (ev_var_val (S''.keep k₄) rfl) fun a h => ⟨h, trivial⟩⟩
            rw [List.map_append]; rfl
          · rw [List.append_nil]) fun s₄ k₄ => ⟨k₄, ?_⟩
      rw [etk, least_snoc]
      cases hany : (rows.take i).any fun r => cR r q with
      | true =>
        simp only [Bool.not_true, Bool.false_eq_true, if_false, if_true, List.append_nil]
      | false =>
        simp only [Bool.not_false, Bool.false_eq_true, if_false, if_true]
        refine ⟨q.d, by rw [List.map_append]; rfl, ?_⟩
        exact ev_item (i := (i : Int)) ((ev_capN (px := _) S hI S'.en.fn (x := "rows") rfl hfr hkr (fun a ha => by rw [← hce']; exact ha)).up k₄) (ev_v (S'.keep k₄) rfl) (by omega) (by omega) (by show (rows.map Row.d)[i]? = _; rw [List.getElem?_map, hq]; rfl)
    · rw [List.take_length] at S
      have hls : ∀ r ∈ least cR rows, RowOk r := fun r hr => hrok r (least_mem cR hr)
      have hll : (least cR rows).length ≤ 8 := by have := hout rows.length; rwa [List.take_length] at this
      have gth : ∀ p ∈ thinP (mergeP (booksP (stepsL script)).2), Good p := thin_good g2
      refine w_if S (tr_dne hA (ev_call S (glo hsc rfl) rfl rfl (hA.less (by decide)) (sp_thin fx.w _ (fun p hp => ⟨(g2 p hp).ok, by have := (g2 p hp).l; omega⟩) (by omega)) (.cons (ev_vn S rfl) (.cons (ev_vn S rfl) .nil))).any (ev_call S (glo hsc rfl) rfl rfl (hA.less (by decide)) (sp_pairs fx.w (least cR rows) (fun r hr => by have := (hls r hr).n; omega) (by omega)) (.cons (ev_vn S rfl) .nil)).any (fit_pairs gth) (by rw [pairs_eq, ← t2]; exact fit_pairs gth)) (fun hb s S => ?_) fun _ s S => ?_
      · rw [pairs_eq, ← t2, eqv_pairs] at hb
        cases hb
      refine w_nilSq (w_return (ev_call S (glo hsc rfl) rfl rfl (hA.less (by decide)) (sp_same fx.w rows _ _ hrok g1 g2 hr8 t3) (.cons (ev_vn S rfl) (.cons (ev_vn S rfl) (.cons (ev_vn S rfl) (.cons (ev_vn S rfl) .nil))))) fun v s' k iv => ?_)
      exact ret_atom S k iv trivial
end Mine

/- F17a -/
namespace Mine
theorem are_ints {h : Heap} {ok : Addr → Prop} : ∀ {vs : List Value} {ns : List Int}, IntsAre vs ns → Are h ok vs (ns.map D.int)
  | _, _, .nil => .nil
  | _, _, .cons n t r => .cons (.int n t) (are_ints r)
theorem caller_lv : Lv callerA 6 := ⟨rfl, by decide, by decide⟩
theorem law_addr {w : World} {h : Heap} {mg : Str → Option Value} {fa : Addr} (X : (KK w).In h) (g : h.Ns mainGlobals mg) (e : mg "law" = some (.ref fa)) : fa = 166 := by
  have h1 : mg "law" = some (.ref 166) := mg_of X g rfl
  rw [h1] at e
  exact (Value.ref.inj (Option.some.inj e)).symm
end Mine

/- F17b -/
namespace Mine
theorem law_holds : PySem.Challenge.rw_mq0495_01.Holds := by
  refine hd ?_
  intro w s₀ s₁ mg mb G Y fa o pm cd doc dV kV ho hd hcd hD hmg hg args vals as hpre hlay hrd hwl hlo
  have KX := kIn_of Y
  have T := G.T
  have hfa : fa = 166 := law_addr KX T.g hmg
  subst hfa
  clear ho hd hcd hD hmg Y
  wrow_args hpre hlay hrd hwl hlo
  rename_i ns _ _ _ _ _ _ _ l vs _ hL _ _ _ hI _ hc _
  have G' : Gr w s₁.heap := ⟨KX, ⟨mg, T.g⟩, ⟨mb, T.b, T.builtins⟩, T.nolimit⟩
  have hlen : ns.length ≤ 1000 := by omega
  refine wpAny_mono (sp_law w ns hlen callerA s₁ [.ref l] G' caller_lv (.cons (.list trivial hL (are_ints hI)) .nil)) (fun v s' hq => ?_) fun _ _ e => e.elim
  obtain ⟨k, i⟩ := hq
  cases i
  obtain ⟨h', tk, rfl, kk⟩ := k.1
  refine GoodW.toG ⟨.inl ⟨.bool true, .bool true, [], rfl, ?_, .bool true, ?_, fun _ => ⟨List.nodup_nil, fun a h => nomatch h⟩⟩, kk, rfl, hg⟩
  · intro cls
    rfl
  · refine postW_of (X := true) (by decide) ?_ rfl
    exact (by wtm_val)
end Mine

theorem PySem.Challenge.cw_mq0495_01_holds : PySem.Challenge.rw_mq0495_01.Holds := by
  exact Mine.law_holds
